import JvmDerived
import JvmDerived.Pilot.@@N@@Statement
import JvmDerived.Pilot.@@N@@Code
set_option linter.unusedVariables false
set_option linter.unusedSimpArgs false
namespace Jvm.OwnKit
open Sem ClassFile Op Lib Jvm.Stand Jvm.Free Jvm.LawKit Jvm.RoadKit
section Own
variable {p : Program} {l : Launch} {e : Env} {R : Room} {s : State} {m : MethodId} {args : Array Value} {below : List Frame} {meth : Method} {c : Code} {T : State} {locs : List Loc} {cells slots : Nat} {Z : State} {h h' : Heap} {a b : Addr}
theorem retI (X : Stand p l e R s m args below meth c T locs cells slots) (hx : p.tables.exec = Jvm.exec) {pc : Nat} {Ls : Array Slot} {z : Int32} {rest : List Value} (hret : meth.sig.returnType = some .int) (hd : decode c.code pc = .ok (.ireturn, 1)) {fs : List Frame}
    (hl : ∀ (f : JFrame) (acts : List Action), f.method = m → f.locked = none → f.entered = [] → (doReturn e (T.setTop f) acts (some (.int z))).1 = T.setFrames fs) : Steps p.tables e below (T.setTop (mkF m pc Ls (.int z :: rest))) (T.setFrames fs) :=
  retOut X hx hret rfl (Or.inl ⟨rfl, Or.inl rfl, z, rfl⟩) hd hl
/-- the run goes on from S to an end of which G holds -/
def Go (p : Program) (e : Env) (below : List Frame) (S : State) (G : State → Outcome → Prop) : Prop := ∃ s₂ o, Steps p.tables e below S s₂ ∧ s₂.status = .running ∧ Ended s₂ below o ∧ G s₂ o
theorem Go.via {S S' : State} {G : State → Outcome → Prop} (h : ∀ t, Steps p.tables e below S' t → Steps p.tables e below S t) (k : Go p e below S' G) : Go p e below S G := by
  obtain ⟨a, o, h1, r⟩ := k; exact ⟨a, o, h a h1, r⟩
/-- the end: what is returned, what the heap says, what was written -/
abbrev Done (s : State) (Q : Option Value → Heap → List Loc → Prop) (kc ks : Nat) : State → Outcome → Prop := fun s₂ o => ∃ v L, o = .returned v ∧ Q v s₂.heap L ∧ FrameEnd s o s₂ L kc ks
theorem Go.fin {S : State} (X : Stand p l e R s m args below meth c T locs cells slots) (hlk : meth.locks = false) {v : Option Value} (hv : meth.sig.returnType = none → v = none) {Q : Option Value → Heap → List Loc → Prop} {kc ks : Nat}
    (hstep : ∀ fs, (∀ (f : JFrame) (acts : List Action), f.method = m → f.locked = none → f.entered = [] → (doReturn e (T.setTop f) acts v).1 = T.setFrames fs) → Steps p.tables e below S (T.setFrames fs))
    (hQ : Q v T.heap locs) (hc : cells ≤ kc) (hs : slots ≤ ks) : Go p e below S (Done s Q kc ks) := by
  obtain ⟨fs, hr, hrun, hended, hW, hsame⟩ := X.leave (v := v) hv hlk
  exact ⟨_, _, hstep fs hr, hrun, hended, _, _, rfl, hQ, ⟨_, rfl⟩, hW, hsame.mono hc hs⟩
/-- an array of ints, bytes, chars, shorts or booleans, whole -/
def Ia (Z : State) (h : Heap) (a : Addr) (ty : FieldType) (xs : List Int32) : Prop := ∃ c : Cell, Arr Z h a c ty ∧ c.slots = (xs.map Value.int).toArray ∧ xs.length < 2147483648 ∧ ∀ x ∈ xs, fits ty (.int x) = true
variable {ty : FieldType} {xs : List Int32} {ws : List Addr} {sl : Nat} {v w : Value} {j x n : Int32} {k : ClassId} {rest : List Value}
theorem Ia.lt (F : Ia Z h a ty xs) : a < h.size := by obtain ⟨c, A, -⟩ := F; exact A.lt
theorem Ia.ext (F : Ia Z h a ty xs) (E : Ext h h') : Ia Z h' a ty xs := by obtain ⟨c, A, r⟩ := F; exact ⟨c, A.ext E, r⟩
theorem Ia.other (F : Ia Z h b ty xs) (W : Wr h h' a sl v) (q : b ≠ a) : Ia Z h' b ty xs := by obtain ⟨c, A, r⟩ := F; exact ⟨c, A.other W q, r⟩
theorem Ia.keep (F : Ia Z h a ty xs) (K : Keep h h' ws) (q : a ∉ ws) : Ia Z h' a ty xs := by obtain ⟨c, A, r⟩ := F; exact ⟨c, ⟨K.2.1 a c A.1 q, A.2⟩, r⟩
theorem nn_lt {n : Int32} : n.toNatClampNeg < 2147483648 := by
  have h1 := n.toInt_lt
  simp only [Int32.toNatClampNeg]; omega
theorem Ia.new (A : Arr Z h a (newA k ty n) ty) (hd : defaultValue ty = .int 0) (hf : fits ty (.int 0) = true := by rfl) : Ia Z h a ty (List.replicate n.toNatClampNeg 0) := ⟨_, A, by simp [newA, hd], by simp [nn_lt], fun x hx => by rw [(List.mem_replicate.mp hx).2]; exact hf⟩
theorem Ia.hin {cl : Cell} (e : cl.slots = (xs.map Value.int).toArray) (hj : ¬ j < 0) (hlt : j.toNatClampNeg < xs.length) : ¬ (j < 0 ∨ cl.slots.size ≤ j.toNatClampNeg) := by
  rw [e]; simp only [List.size_toArray, List.length_map]; rintro (q | q); exact hj q; omega
theorem Ia.at {cl : Cell} (e : cl.slots = (xs.map Value.int).toArray) (hv : xs[j.toNatClampNeg]? = some x) : cl.slots[j.toNatClampNeg]? = some (.int x) := by
  rw [e]; simp [hv]
theorem lt_of_at (hv : xs[j.toNatClampNeg]? = some x) : j.toNatClampNeg < xs.length := (List.getElem?_eq_some_iff.mp hv).1
theorem Ia.set {cl : Cell} (A : Arr Z h a cl ty) (e : cl.slots = (xs.map Value.int).toArray) (hl : xs.length < 2147483648) (hf : ∀ x ∈ xs, fits ty (.int x) = true) (W : Wr h h' a j.toNatClampNeg (.int x)) (hx : fits ty (.int x) = true) : Ia Z h' a ty (xs.set j.toNatClampNeg x) :=
  ⟨_, A.same W, by simp [Cell.setSlot, e, List.map_set], by simpa using hl, fun y hy => by rcases List.mem_or_eq_of_mem_set hy with q | q; exact hf y q; rw [q]; exact hx⟩
theorem ldI (X : Stand p l e R s m args below meth c T locs cells slots) (hx : p.tables.exec = Jvm.exec) (hZ : Z.Warmed39 s.vm) (eT : T.heap = h) (F : Ia Z h a .int xs) {v : Int32} (hj : ¬ j < 0) (hv : xs[j.toNatClampNeg]? = some v) {g : JFrame} (hg : g.method = m) (hs : g.stack = .int j :: .ref a :: rest) (hd : decode c.code g.pc = .ok (.iaload, 1)) :
    ∀ t, Steps p.tables e below (T.setTop { g with pc := g.pc + 1, stack := .int v :: rest }) t → Steps p.tables e below (T.setTop g) t := by
  obtain ⟨cl, A, q, -⟩ := F
  exact X.iaload hx (j := j) (v := .int v) (by rw [eT]; exact A.1) (State.isArrayOf_alike hZ.alike A.2.1) A.2.2 (Ia.hin q hj (lt_of_at hv)) (Ia.at q hv) hg hs hd
theorem ldB (X : Stand p l e R s m args below meth c T locs cells slots) (hx : p.tables.exec = Jvm.exec) (hZ : Z.Warmed39 s.vm) (eT : T.heap = h) (F : Ia Z h a .byte xs) {v : Int32} (hj : ¬ j < 0) (hv : xs[j.toNatClampNeg]? = some v) {g : JFrame} (hg : g.method = m) (hs : g.stack = .int j :: .ref a :: rest) (hd : decode c.code g.pc = .ok (.baload, 1)) :
    ∀ t, Steps p.tables e below (T.setTop { g with pc := g.pc + 1, stack := .int v :: rest }) t → Steps p.tables e below (T.setTop g) t := by
  obtain ⟨cl, A, q, -⟩ := F
  exact X.baloadBytes hx (j := j) (v := .int v) (by rw [eT]; exact A.1) (State.isArrayOf_alike hZ.alike A.2.1) A.2.2 (Ia.hin q hj (lt_of_at hv)) (Ia.at q hv) hg hs hd
theorem ldC (X : Stand p l e R s m args below meth c T locs cells slots) (hx : p.tables.exec = Jvm.exec) (hZ : Z.Warmed39 s.vm) (eT : T.heap = h) (F : Ia Z h a .char xs) {v : Int32} (hj : ¬ j < 0) (hv : xs[j.toNatClampNeg]? = some v) {g : JFrame} (hg : g.method = m) (hs : g.stack = .int j :: .ref a :: rest) (hd : decode c.code g.pc = .ok (.caload, 1)) :
    ∀ t, Steps p.tables e below (T.setTop { g with pc := g.pc + 1, stack := .int v :: rest }) t → Steps p.tables e below (T.setTop g) t := by
  obtain ⟨cl, A, q, -⟩ := F
  exact X.caload hx (j := j) (v := .int v) (by rw [eT]; exact A.1) (State.isArrayOf_alike hZ.alike A.2.1) A.2.2 (Ia.hin q hj (lt_of_at hv)) (Ia.at q hv) hg hs hd
theorem stI' (X : Stand p l e R s m args below meth c T locs cells slots) (hx : p.tables.exec = Jvm.exec) (hZ : Z.Warmed39 s.vm) (eT : T.heap = h) (F : Ia Z h a .int xs) (hj : ¬ j < 0) (hlt : j.toNatClampNeg < xs.length) {g : JFrame} (hg : g.method = m) (hs : g.stack = .int x :: .int j :: .ref a :: rest) (hd : decode c.code g.pc = .ok (.iastore, 1)) :
    ∃ T' h', Stand p l e R s m args below meth c T' (locs ++ [⟨a, j.toNatClampNeg⟩]) cells slots ∧ T'.heap = h' ∧ Wr h h' a j.toNatClampNeg (.int x) ∧ Ia Z h' a .int (xs.set j.toNatClampNeg x) ∧ ∀ t, Steps p.tables e below (T'.setTop { g with pc := g.pc + 1, stack := rest }) t → Steps p.tables e below (T.setTop g) t := by
  obtain ⟨cl, A, q, hl, hf⟩ := F
  obtain ⟨T', h', X', e', W, st⟩ := stI X hx hZ eT A (Ia.hin q hj hlt) hg hs hd
  exact ⟨T', h', X', e', W, Ia.set A q hl hf W rfl, st⟩
theorem stB' (X : Stand p l e R s m args below meth c T locs cells slots) (hx : p.tables.exec = Jvm.exec) (hZ : Z.Warmed39 s.vm) (eT : T.heap = h) (F : Ia Z h a .byte xs) (hj : ¬ j < 0) (hlt : j.toNatClampNeg < xs.length) {g : JFrame} (hg : g.method = m) (hs : g.stack = .int x :: .int j :: .ref a :: rest) (hd : decode c.code g.pc = .ok (.bastore, 1)) :
    ∃ T' h', Stand p l e R s m args below meth c T' (locs ++ [⟨a, j.toNatClampNeg⟩]) cells slots ∧ T'.heap = h' ∧ Wr h h' a j.toNatClampNeg (.int (nar .byte x)) ∧ Ia Z h' a .byte (xs.set j.toNatClampNeg (nar .byte x)) ∧ ∀ t, Steps p.tables e below (T'.setTop { g with pc := g.pc + 1, stack := rest }) t → Steps p.tables e below (T.setTop g) t := by
  obtain ⟨cl, A, q, hl, hf⟩ := F
  obtain ⟨T', h', X', e', W, st⟩ := stB X hx hZ eT A (Ia.hin q hj hlt) hg hs hd
  exact ⟨T', h', X', e', W, Ia.set A q hl hf W (fits_nar_byte x), st⟩
theorem stC' (X : Stand p l e R s m args below meth c T locs cells slots) (hx : p.tables.exec = Jvm.exec) (hZ : Z.Warmed39 s.vm) (eT : T.heap = h) (F : Ia Z h a .char xs) (hj : ¬ j < 0) (hlt : j.toNatClampNeg < xs.length) {g : JFrame} (hg : g.method = m) (hs : g.stack = .int x :: .int j :: .ref a :: rest) (hd : decode c.code g.pc = .ok (.castore, 1)) :
    ∃ T' h', Stand p l e R s m args below meth c T' (locs ++ [⟨a, j.toNatClampNeg⟩]) cells slots ∧ T'.heap = h' ∧ Wr h h' a j.toNatClampNeg (.int (nar .char x)) ∧ Ia Z h' a .char (xs.set j.toNatClampNeg (nar .char x)) ∧ ∀ t, Steps p.tables e below (T'.setTop { g with pc := g.pc + 1, stack := rest }) t → Steps p.tables e below (T.setTop g) t := by
  obtain ⟨cl, A, q, hl, hf⟩ := F
  obtain ⟨T', h', X', e', W, st⟩ := stC X hx hZ eT A (Ia.hin q hj hlt) hg hs hd
  exact ⟨T', h', X', e', W, Ia.set A q hl hf W (fits_nar_char x), st⟩
theorem lenI (X : Stand p l e R s m args below meth c T locs cells slots) (hx : p.tables.exec = Jvm.exec) (hZ : Z.Warmed39 s.vm) (eT : T.heap = h) (F : Ia Z h a ty xs) (hn : xs.length.toInt32 = n) {g : JFrame} (hg : g.method = m) (hs : g.stack = .ref a :: rest) (hd : decode c.code g.pc = .ok (.arraylength, 1)) :
    ∀ t, Steps p.tables e below (T.setTop { g with pc := g.pc + 1, stack := .int n :: rest }) t → Steps p.tables e below (T.setTop g) t := by
  obtain ⟨cl, A, q, -⟩ := F
  have q2 : cl.slots.size.toInt32 = n := by rw [q]; simpa using hn
  have := X.arraylength hx (by rw [eT]; exact A.1) (State.isArrayOf_alike hZ.alike A.2.1) hg hs hd
  rw [q2] at this
  exact this
theorem len32 (hl : xs.length < 2147483648) : xs.length.toInt32.toNatClampNeg = xs.length ∧ ¬ xs.length.toInt32 < 0 := by
  have h1 : xs.length.toInt32.toInt = (xs.length : Int) := Int32.toInt_ofNat_small hl
  refine ⟨by simp only [Int32.toNatClampNeg]; omega, ?_⟩
  rw [Int32.lt_iff_toInt_lt, h1]
  have : (0 : Int32).toInt = 0 := rfl
  omega
theorem Ia.arv (F : Ia Z h a ty xs) : ∃ k, Arv Z h a k ty xs.length.toInt32 (xs.map Value.int) (.int 0) ∧ xs.length < 2147483648 := by
  obtain ⟨c, A, q, hl, hf⟩ := F
  refine ⟨c.cls, ⟨c, A, rfl, by rw [q, (len32 hl).1]; simp, (len32 hl).2, fun i hi => ?_, fun i hi => ?_⟩, hl⟩
  · have hi2 : i < xs.length := by rw [q] at hi; simpa using hi
    rw [q]; simp [List.getD, hi2]
  · have hi2 : i < xs.length := by rw [q] at hi; simpa using hi
    have := hf xs[i] (List.getElem_mem hi2)
    simpa [List.getD, hi2] using this
theorem Ia.of_arv {z : Int32} {d : Value} (F : Arv Z h a k ty z (xs.map Value.int) d) (hl : xs.length = z.toNatClampNeg) : Ia Z h a ty xs := by
  obtain ⟨c, A, q1, S, N, H, G⟩ := F
  have hn : z.toNatClampNeg < 2147483648 := nn_lt
  refine ⟨c, A, ?_, by omega, fun x hx => ?_⟩
  · apply Array.ext
    · rw [S, ← hl]; simp
    · intro i h1 h2
      have := H i h1
      have h3 : i < xs.length := by rw [hl, ← S]; exact h1
      rw [Array.getElem?_eq_getElem h1] at this
      simpa [List.getD, h3] using this
  · obtain ⟨i, hi, rfl⟩ := List.getElem_of_mem hx
    have := G i (by rw [S, ← hl]; exact hi)
    simpa [List.getD, hi] using this
theorem cpI {ys : List Int32} {sp dp nn : Int32} (X : Stand p l e R s m args below meth c T locs cells slots) (hx : p.tables.exec = Jvm.exec) (hZ : Z.Warmed39 s.vm) {a0 : Array Value} {own : String} {index : Nat} (hown : s.vm.findClass own = some m.cls)
    (w1 : (Cond.methodLink own index Jvm.Stand.acN).before a0 Z = true) (w2 : (Cond.native Jvm.Stand.acN).before a0 Z = true) (w3 : (Cond.static Jvm.Stand.acN).before a0 Z = true) (w4 : (Cond.initialized "java/lang/System").before a0 Z = true) (eT : T.heap = h)
    (A : Ia Z h a ty xs) (B : Ia Z h b ty ys) (hty : refKind ty = false) (h1 : ¬ sp < 0) (h2 : ¬ dp < 0) (h3 : ¬ nn < 0) (h4 : sp.toNatClampNeg + nn.toNatClampNeg ≤ xs.length) (h5 : dp.toNatClampNeg + nn.toNatClampNeg ≤ ys.length)
    {n0 : Nat} (N : Fr n0 locs) (ge : n0 ≤ b)
    {g : JFrame} (hg : g.method = m) (hsize : g.locals.size = c.maxLocals) {rest : List Value} (hs : g.stack = .int nn :: .int dp :: .ref b :: .int sp :: .ref a :: rest) (hd : decode c.code g.pc = .ok (.invokestatic index, 3))
    (hf : 1 ≤ R.frames) {W : Nat} (hW : 2 * g.monitorRoom + (rest.map fun v => v.category).sum ≤ W) (hlo : W + (nativeFrameWords "java/lang/System" "arraycopy" 5 + 11) ≤ R.locals) :
    ∃ T' h' L, Stand p l e R s m args below meth c T' L cells slots ∧ T'.heap = h' ∧ Fr n0 L ∧ Keep h h' [b] ∧ Ia Z h' b ty (ys.take dp.toNatClampNeg ++ (xs.drop sp.toNatClampNeg).take nn.toNatClampNeg ++ ys.drop (dp.toNatClampNeg + nn.toNatClampNeg)) ∧
      ∀ target, Steps p.tables e below (T'.setTop { g with pc := g.pc + 3, stack := rest }) target → Steps p.tables e below (T.setTop g) target := by
  obtain ⟨k, A', la⟩ := A.arv
  obtain ⟨k', B', lb⟩ := B.arv
  obtain ⟨T', h', L, X', e', N', K', V', st⟩ := cpA X hx hZ hown w1 w2 w3 w4 eT A' B' (us := ((xs.drop sp.toNatClampNeg).take nn.toNatClampNeg).map Value.int) (Or.inl ⟨rfl, hty⟩) h1 h2 h3 (by rw [(len32 la).1]; exact h4) (by rw [(len32 lb).1]; exact h5)
    (by
      apply List.ext_getElem
      · simp; omega
      · intro i q1 q2
        have q3 : i < nn.toNatClampNeg := by simpa using q2
        have q4 : sp.toNatClampNeg + i < xs.length := by omega
        simp [List.getD, q4])
    (by simpa using h5) N ge hg hsize hs hd hf hW hlo
  refine ⟨T', h', L, X', e', N', K', Ia.of_arv (k := k') (z := ys.length.toInt32) (d := .int 0) ?_ ?_, st⟩
  · simpa [List.map_append, List.map_take, List.map_drop] using V'
  · rw [(len32 lb).1]; simp; omega
theorem cloneI (X : Stand p l e R s m args below meth c T locs cells slots) (hx : p.tables.exec = Jvm.exec) (hZ : Z.Warmed39 s.vm) {a0 : Array Value} {own ad : String} {index : Nat} (hown : s.vm.findClass own = some m.cls)
    (w1 : (Cond.methodLink own index ⟨ad, "clone", "()Ljava/lang/Object;"⟩).before a0 Z = true) (w2 : (Cond.sameMethod ad "java/lang/Object" "clone" "()Ljava/lang/Object;").before a0 Z = true) (w3 : (Cond.native ⟨"java/lang/Object", "clone", "()Ljava/lang/Object;"⟩).before a0 Z = true)
    (w4 : (Cond.instanceMethod ⟨"java/lang/Object", "clone", "()Ljava/lang/Object;"⟩).before a0 Z = true) (w5 : (Cond.selects ad ⟨ad, "clone", "()Ljava/lang/Object;"⟩ ⟨"java/lang/Object", "clone", "()Ljava/lang/Object;"⟩).before a0 Z = true) (w6 : (Cond.castable ad "java/lang/Cloneable").before a0 Z = true)
    (eT : T.heap = h) (F : Ia Z h a ty xs) (E : Exa Z h a ad) {g : JFrame} (hg : g.method = m) (hsize : g.locals.size = c.maxLocals) {rest : List Value} (hst : g.stack = .ref a :: rest) (hd : decode c.code g.pc = .ok (.invokevirtual index, 3))
    (hf : 1 ≤ R.frames) {W cap : Nat} (hW : 2 * g.monitorRoom + (rest.map fun v => v.category).sum ≤ W) (hl : W + 14 ≤ R.locals) (hcap : xs.length ≤ cap) (hc : cells + 1 ≤ R.cells) (hsl : slots + cap ≤ R.slots) :
    ∃ T' h', Stand p l e R s m args below meth c T' locs (cells + 1) (slots + cap) ∧ T'.heap = h' ∧ Ext h h' ∧ Ia Z h' h.size ty xs ∧ Exa Z h' h.size ad ∧
      ∀ target, Steps p.tables e below (T'.setTop { g with pc := g.pc + 3, stack := .ref h.size :: rest }) target → Steps p.tables e below (T.setTop g) target := by
  obtain ⟨k, A, la⟩ := F.arv
  obtain ⟨T', h', X', e', ex, A', E', st⟩ := cloneH X hx hZ hown w1 w2 w3 w4 w5 w6 eT A.arh E hg hsize hst hd hf hW hl (by rw [(len32 la).1]; exact hcap) hc hsl
  exact ⟨T', h', X', e', ex, Ia.of_arv (k := k) (z := xs.length.toInt32) (d := .int 0) A' (len32 la).1.symm, E', st⟩
theorem selP {a0 : Array Value} {y : MethodName} {kk : Nat} (hZ : Z.Warmed39 s.vm) (wi : (Cond.instantiable y.cls kk).before a0 Z = true) (wp : (Cond.privateMethod y).before a0 Z = true) (wm : (Cond.instanceMethod y).before a0 Z = true) (hy : y.cls ≠ "java/lang/invoke/MethodHandle" ∧ y.cls ≠ "java/lang/invoke/VarHandle") : (Cond.selects y.cls y y).before args s = true := by
  obtain ⟨c, k, h1, h2, -, h4, -⟩ := Cond.instantiable_spec (mvT (args := args) hZ wi)
  exact selects_self_of_private h1 h2 (by simp only [Bool.or_eq_false_iff] at h4; exact h4.1) (Cond.privateMethod_at (mvP hZ wp (args := args))) (mvT hZ wm) hy
end Own
end Jvm.OwnKit
namespace Jvm.Pilot.@@N@@
open Jvm Jvm.ClassFile Sem Op Lib Jvm.Free Jvm.Stand Jvm.LawKit Jvm.RoadKit Bundle Jvm.Pilot.@@N@@.Jvm.D Jvm.OwnKit
theorem tw {a0 : Array Value} {Z : State} (hw : ∀ d ∈ tables_1, d.before a0 Z = true) (i : Nat) {d : Jvm.Cond} (h : tables_1[i]? = some d) : d.before a0 Z = true := hw d (List.mem_of_getElem? h)
theorem d1_0 : decode jdk_29_method_69_code 0 = .ok (.iload_n 0, 1) := by decide +kernel
theorem d1_1 : decode jdk_29_method_69_code 1 = .ok (.iload_n 1, 1) := by decide +kernel
theorem d1_2 : decode jdk_29_method_69_code 2 = .ok (.if_icmp .gt 7, 3) := by decide +kernel
theorem d1_9 : decode jdk_29_method_69_code 9 = .ok (.iload_n 1, 1) := by decide +kernel
theorem d1_10 : decode jdk_29_method_69_code 10 = .ok (.ireturn, 1) := by decide +kernel
theorem d1_5 : decode jdk_29_method_69_code 5 = .ok (.iload_n 0, 1) := by decide +kernel
theorem d1_6 : decode jdk_29_method_69_code 6 = .ok (.goto 4, 3) := by decide +kernel
theorem ef_1 (m : MethodId) (x0 : Int32) (x1 : Int32) : entryFrame m #[(.int x0), (.int x1)] 2 = mkF m 0 #[.val (.int x0), .val (.int x1)] [] := by first | (simp [entryFrame, mkF, argsToLocals, Value.category]; done) | rfl
def Q_rmM (Z : State) (x : Int32) (y : Int32)  (h0 : Heap) (n0 : Nat) (vQ : Option Value) (hQ : Heap) (LQ : List Loc) : Prop := vQ = some (.int (if y < x then y else x)) ∧ Fr n0 LQ ∧ hQ = h0
set_option maxRecDepth 65536 in
set_option maxHeartbeats 40000000 in
theorem rmM (l : Launch) (Z : State) (a0 : Array Value) (hw : ∀ d ∈ tables_1, d.before a0 Z = true) (ws : List Jvm.Cond) (x : Int32) (y : Int32)  (h0 : Heap) (n0 : Nat) (Z0 : n0 ≤ h0.size) :
    MetFree l (⟨"java/lang/Math", "min", "(II)I"⟩ : MethodName) (head1 (Jvm.Cond.code (⟨"java/lang/Math", "min", "(II)I"⟩ : MethodName) jdk_29_method_69_code 2 (some .int) :: ws) ({ frames := 0, cells := 0, slots := 0, locals := 0 } : Room)) (fun aQ UQ => aQ = #[(.int x), (.int y)] ∧ Z.Warmed39 UQ.vm ∧ UQ.heap = h0) (fun _ _ _ _ _ => True) (fun _ UQ oQ UR => ∃ vQ LQ, oQ = .returned vQ ∧ Q_rmM Z x y  h0 n0 vQ UR.heap LQ ∧ FrameEnd UQ oQ UR LQ ({ frames := 0, cells := 0, slots := 0, locals := 0 } : Room).cells ({ frames := 0, cells := 0, slots := 0, locals := 0 } : Room).slots) := by
  refine MetFree.of_bodySF (Jvm.Free.JP.mathPlain rfl (by decide +kernel)) hisR ?_
  intro p e s m args below meth c s₁ Bd hml0 hP hK
  obtain ⟨rfl, hZ, hh⟩ := hP
  have hx := Bd.exec
  have hby := Bd.bytes
  have hlk := Bd.notSynchronized
  have hml : c.maxLocals = 2 := hml0
  have hown : s.vm.findClass "java/lang/Math" = some m.cls := findClass_of_methodNamed Bd.named
  have hnm := (name_of_methodNamed Bd.named Bd.method).1
  have X0 : Stand p l e ({ frames := 0, cells := 0, slots := 0, locals := 0 } : Room) s m #[(.int x), (.int y)] below meth c s₁ [] 0 0 := Stand.of_body Bd
  have e0 : s₁.heap = h0 := by rw [← hh, Bd.state]; rfl
  have N0 := Fr.nil n0
  show Go p e below _ (Done s (Q_rmM Z x y  h0 n0) ({ frames := 0, cells := 0, slots := 0, locals := 0 } : Room).cells ({ frames := 0, cells := 0, slots := 0, locals := 0 } : Room).slots)
  refine Go.via (fun tQ kQ => castTop (ef_1 m x y) kQ) ?_
  show Go p e below (s₁.setTop (mkF m 0 #[.val (.int x), .val (.int y)] [])) _
  refine Go.via (fun _ => XS.iloadN X0.here hx rfl (hb hby d1_0) rfl) ?_
  refine Go.via (fun _ => XS.iloadN X0.here hx rfl (hb hby d1_1) rfl) ?_
  by_cases hc1 : y < x
  · refine Go.via (fun _ => XS.icmpYes X0.here hx rfl (pc0 := 2) (pc' := 9) rfl (hb hby d1_2) rfl (tlt (hc1 : y < x)).2.2.1 (by decide) (by decide)) ?_
    refine Go.via (fun _ => XS.iloadN X0.here hx rfl (hb hby d1_9) rfl) ?_
    exact Go.fin X0 hlk (v := some (.int y)) (fun h => by rw [Bd.returns] at h; cases h) (fun fs hr => OwnKit.retI X0 hx Bd.returns (hb hby d1_10) hr) (by rw [e0]; exact ⟨(by first | rw [if_pos (by assumption)] | rw [if_neg (by assumption)]), N0, rfl⟩) (by decide) (by decide)
  · refine Go.via (fun _ => XS.icmpNo X0.here hx rfl (hb hby d1_2) rfl (flt (hc1 : ¬ (y < x))).2.2.1) ?_
    refine Go.via (fun _ => XS.iloadN X0.here hx rfl (hb hby d1_5) rfl) ?_
    refine Go.via (fun _ => XS.goto X0.here hx rfl (pc0 := 6) (pc' := 10) rfl (hb hby d1_6) (by decide) (by decide)) ?_
    show Go p e below (s₁.setTop (mkF m 10 #[.val (.int x), .val (.int y)] [(.int x)])) _
    exact Go.fin X0 hlk (v := some (.int x)) (fun h => by rw [Bd.returns] at h; cases h) (fun fs hr => OwnKit.retI X0 hx Bd.returns (hb hby d1_10) hr) (by rw [e0]; exact ⟨(by first | rw [if_pos (by assumption)] | rw [if_neg (by assumption)]), N0, rfl⟩) (by decide) (by decide)
theorem d2_0 : decode jdk_29_method_65_code 0 = .ok (.iload_n 0, 1) := by decide +kernel
theorem d2_1 : decode jdk_29_method_65_code 1 = .ok (.iload_n 1, 1) := by decide +kernel
theorem d2_2 : decode jdk_29_method_65_code 2 = .ok (.if_icmp .lt 7, 3) := by decide +kernel
theorem d2_9 : decode jdk_29_method_65_code 9 = .ok (.iload_n 1, 1) := by decide +kernel
theorem d2_10 : decode jdk_29_method_65_code 10 = .ok (.ireturn, 1) := by decide +kernel
theorem d2_5 : decode jdk_29_method_65_code 5 = .ok (.iload_n 0, 1) := by decide +kernel
theorem d2_6 : decode jdk_29_method_65_code 6 = .ok (.goto 4, 3) := by decide +kernel
theorem ef_2 (m : MethodId) (x0 : Int32) (x1 : Int32) : entryFrame m #[(.int x0), (.int x1)] 2 = mkF m 0 #[.val (.int x0), .val (.int x1)] [] := by first | (simp [entryFrame, mkF, argsToLocals, Value.category]; done) | rfl
def Q_rmX (Z : State) (x : Int32) (y : Int32)  (h0 : Heap) (n0 : Nat) (vQ : Option Value) (hQ : Heap) (LQ : List Loc) : Prop := vQ = some (.int (if x < y then y else x)) ∧ Fr n0 LQ ∧ hQ = h0
set_option maxRecDepth 65536 in
set_option maxHeartbeats 40000000 in
theorem rmX (l : Launch) (Z : State) (a0 : Array Value) (hw : ∀ d ∈ tables_1, d.before a0 Z = true) (ws : List Jvm.Cond) (x : Int32) (y : Int32)  (h0 : Heap) (n0 : Nat) (Z0 : n0 ≤ h0.size) :
    MetFree l (⟨"java/lang/Math", "max", "(II)I"⟩ : MethodName) (head1 (Jvm.Cond.code (⟨"java/lang/Math", "max", "(II)I"⟩ : MethodName) jdk_29_method_65_code 2 (some .int) :: ws) ({ frames := 0, cells := 0, slots := 0, locals := 0 } : Room)) (fun aQ UQ => aQ = #[(.int x), (.int y)] ∧ Z.Warmed39 UQ.vm ∧ UQ.heap = h0) (fun _ _ _ _ _ => True) (fun _ UQ oQ UR => ∃ vQ LQ, oQ = .returned vQ ∧ Q_rmX Z x y  h0 n0 vQ UR.heap LQ ∧ FrameEnd UQ oQ UR LQ ({ frames := 0, cells := 0, slots := 0, locals := 0 } : Room).cells ({ frames := 0, cells := 0, slots := 0, locals := 0 } : Room).slots) := by
  refine MetFree.of_bodySF (Jvm.Free.JP.mathPlain rfl (by decide +kernel)) hisR ?_
  intro p e s m args below meth c s₁ Bd hml0 hP hK
  obtain ⟨rfl, hZ, hh⟩ := hP
  have hx := Bd.exec
  have hby := Bd.bytes
  have hlk := Bd.notSynchronized
  have hml : c.maxLocals = 2 := hml0
  have hown : s.vm.findClass "java/lang/Math" = some m.cls := findClass_of_methodNamed Bd.named
  have hnm := (name_of_methodNamed Bd.named Bd.method).1
  have X0 : Stand p l e ({ frames := 0, cells := 0, slots := 0, locals := 0 } : Room) s m #[(.int x), (.int y)] below meth c s₁ [] 0 0 := Stand.of_body Bd
  have e0 : s₁.heap = h0 := by rw [← hh, Bd.state]; rfl
  have N0 := Fr.nil n0
  show Go p e below _ (Done s (Q_rmX Z x y  h0 n0) ({ frames := 0, cells := 0, slots := 0, locals := 0 } : Room).cells ({ frames := 0, cells := 0, slots := 0, locals := 0 } : Room).slots)
  refine Go.via (fun tQ kQ => castTop (ef_2 m x y) kQ) ?_
  show Go p e below (s₁.setTop (mkF m 0 #[.val (.int x), .val (.int y)] [])) _
  refine Go.via (fun _ => XS.iloadN X0.here hx rfl (hb hby d2_0) rfl) ?_
  refine Go.via (fun _ => XS.iloadN X0.here hx rfl (hb hby d2_1) rfl) ?_
  by_cases hc2 : x < y
  · refine Go.via (fun _ => XS.icmpYes X0.here hx rfl (pc0 := 2) (pc' := 9) rfl (hb hby d2_2) rfl (tlt (hc2 : x < y)).1 (by decide) (by decide)) ?_
    refine Go.via (fun _ => XS.iloadN X0.here hx rfl (hb hby d2_9) rfl) ?_
    exact Go.fin X0 hlk (v := some (.int y)) (fun h => by rw [Bd.returns] at h; cases h) (fun fs hr => OwnKit.retI X0 hx Bd.returns (hb hby d2_10) hr) (by rw [e0]; exact ⟨(by first | rw [if_pos (by assumption)] | rw [if_neg (by assumption)]), N0, rfl⟩) (by decide) (by decide)
  · refine Go.via (fun _ => XS.icmpNo X0.here hx rfl (hb hby d2_2) rfl (flt (hc2 : ¬ (x < y))).1) ?_
    refine Go.via (fun _ => XS.iloadN X0.here hx rfl (hb hby d2_5) rfl) ?_
    refine Go.via (fun _ => XS.goto X0.here hx rfl (pc0 := 6) (pc' := 10) rfl (hb hby d2_6) (by decide) (by decide)) ?_
    show Go p e below (s₁.setTop (mkF m 10 #[.val (.int x), .val (.int y)] [(.int x)])) _
    exact Go.fin X0 hlk (v := some (.int x)) (fun h => by rw [Bd.returns] at h; cases h) (fun fs hr => OwnKit.retI X0 hx Bd.returns (hb hby d2_10) hr) (by rw [e0]; exact ⟨(by first | rw [if_pos (by assumption)] | rw [if_neg (by assumption)]), N0, rfl⟩) (by decide) (by decide)
theorem d3_0 : decode prog_22_method_1_code 0 = .ok (.aload_n 0, 1) := by decide +kernel
theorem d3_1 : decode prog_22_method_1_code 1 = .ok (.invokespecial 1, 3) := by decide +kernel
theorem d3_4 : decode prog_22_method_1_code 4 = .ok (.aload_n 0, 1) := by decide +kernel
theorem d3_5 : decode prog_22_method_1_code 5 = .ok (.aload_n 1, 1) := by decide +kernel
theorem d3_6 : decode prog_22_method_1_code 6 = .ok (.putfield 7, 3) := by decide +kernel
theorem d3_9 : decode prog_22_method_1_code 9 = .ok (.aload_n 0, 1) := by decide +kernel
theorem d3_10 : decode prog_22_method_1_code 10 = .ok (.aload_n 2, 1) := by decide +kernel
theorem d3_11 : decode prog_22_method_1_code 11 = .ok (.putfield 13, 3) := by decide +kernel
theorem d3_14 : decode prog_22_method_1_code 14 = .ok (.lconst 0, 1) := by decide +kernel
theorem d3_15 : decode prog_22_method_1_code 15 = .ok (.lstore_n 3, 1) := by decide +kernel
theorem d3_16 : decode prog_22_method_1_code 16 = .ok (.aload_n 2, 1) := by decide +kernel
theorem d3_17 : decode prog_22_method_1_code 17 = .ok (.astore 5, 2) := by decide +kernel
theorem d3_19 : decode prog_22_method_1_code 19 = .ok (.aload 5, 2) := by decide +kernel
theorem d3_21 : decode prog_22_method_1_code 21 = .ok (.arraylength, 1) := by decide +kernel
theorem d3_22 : decode prog_22_method_1_code 22 = .ok (.istore 6, 2) := by decide +kernel
theorem d3_24 : decode prog_22_method_1_code 24 = .ok (.iconst 0, 1) := by decide +kernel
theorem d3_25 : decode prog_22_method_1_code 25 = .ok (.istore 7, 2) := by decide +kernel
theorem d3_27 : decode prog_22_method_1_code 27 = .ok (.iload 7, 2) := by decide +kernel
theorem d3_29 : decode prog_22_method_1_code 29 = .ok (.iload 6, 2) := by decide +kernel
theorem d3_31 : decode prog_22_method_1_code 31 = .ok (.if_icmp .ge 22, 3) := by decide +kernel
theorem d3_53 : decode prog_22_method_1_code 53 = .ok (.aload_n 0, 1) := by decide +kernel
theorem d3_54 : decode prog_22_method_1_code 54 = .ok (.lload_n 3, 1) := by decide +kernel
theorem d3_55 : decode prog_22_method_1_code 55 = .ok (.putfield 16, 3) := by decide +kernel
theorem d3_58 : decode prog_22_method_1_code 58 = .ok (.return_, 1) := by decide +kernel
theorem pn_3 : plainName "com/example/libcosearch/libcosearch/PostingList" = true := by first | (simp [plainName, overriddenIn]; done) | decide +kernel
theorem ef_3 (m : MethodId) (x0 : Addr) (x1 : Addr) (x2 : Addr) : entryFrame m #[(.ref x0), (.ref x1), (.ref x2)] 9 = mkF m 0 #[.val (.ref x0), .val (.ref x1), .val (.ref x2), .unset, .unset, .unset, .unset, .unset, .unset] [] := by first | (simp [entryFrame, mkF, argsToLocals, Value.category]; done) | rfl
def Q_rmI0 (Z : State) (a : Addr) (d : Addr) (f : Addr)  (h0 : Heap) (n0 : Nat) (vQ : Option Value) (hQ : Heap) (LQ : List Loc) : Prop := vQ = none ∧ Fr n0 LQ ∧ Keep h0 hQ [a] ∧ Exa Z hQ a "com/example/libcosearch/libcosearch/PostingList" ∧ Fld Z hQ a "com/example/libcosearch/libcosearch/PostingList" "documents" "[I" (.ref d) ∧ Fld Z hQ a "com/example/libcosearch/libcosearch/PostingList" "frequencies" "[I" (.ref f)
set_option maxRecDepth 65536 in
set_option maxHeartbeats 40000000 in
theorem rmI0 (l : Launch) (Z : State) (a0 : Array Value) (hw : ∀ d ∈ tables_1, d.before a0 Z = true) (ws : List Jvm.Cond) (a : Addr) (d : Addr) (f : Addr)  (h0 : Heap) (n0 : Nat) (Z0 : n0 ≤ h0.size) (P0 : Exa Z h0 a "com/example/libcosearch/libcosearch/PostingList") (P1 : Fld Z h0 a "com/example/libcosearch/libcosearch/PostingList" "documents" "[I" .null) (P2 : Fld Z h0 a "com/example/libcosearch/libcosearch/PostingList" "frequencies" "[I" .null) (P3 : Fld Z h0 a "com/example/libcosearch/libcosearch/PostingList" "collectionFrequency" "J" (.long (0 : Int64))) (P4 : Ia Z h0 f .int []) (g_a : n0 ≤ a) (haf : a ≠ f) :
    MetFree l (⟨"com/example/libcosearch/libcosearch/PostingList", "<init>", "([I[I)V"⟩ : MethodName) (head1 (Jvm.Cond.code (⟨"com/example/libcosearch/libcosearch/PostingList", "<init>", "([I[I)V"⟩ : MethodName) prog_22_method_1_code 9 none :: ws) ({ frames := 1, cells := 0, slots := 0, locals := 12 } : Room)) (fun aQ UQ => aQ = #[(.ref a), (.ref d), (.ref f)] ∧ Z.Warmed39 UQ.vm ∧ UQ.heap = h0) (fun _ _ _ _ _ => True) (fun _ UQ oQ UR => ∃ vQ LQ, oQ = .returned vQ ∧ Q_rmI0 Z a d f  h0 n0 vQ UR.heap LQ ∧ FrameEnd UQ oQ UR LQ ({ frames := 1, cells := 0, slots := 0, locals := 12 } : Room).cells ({ frames := 1, cells := 0, slots := 0, locals := 12 } : Room).slots) := by
  refine MetFree.of_bodySF (plainFor_of_name pn_3) hisR ?_
  intro p e s m args below meth c s₁ Bd hml0 hP hK
  obtain ⟨rfl, hZ, hh⟩ := hP
  have hx := Bd.exec
  have hby := Bd.bytes
  have hlk := Bd.notSynchronized
  have hml : c.maxLocals = 9 := hml0
  have hown : s.vm.findClass "com/example/libcosearch/libcosearch/PostingList" = some m.cls := findClass_of_methodNamed Bd.named
  have hnm := (name_of_methodNamed Bd.named Bd.method).1
  have X0 : Stand p l e ({ frames := 1, cells := 0, slots := 0, locals := 12 } : Room) s m #[(.ref a), (.ref d), (.ref f)] below meth c s₁ [] 0 0 := Stand.of_body Bd
  have e0 : s₁.heap = h0 := by rw [← hh, Bd.state]; rfl
  have N0 := Fr.nil n0
  show Go p e below _ (Done s (Q_rmI0 Z a d f  h0 n0) ({ frames := 1, cells := 0, slots := 0, locals := 12 } : Room).cells ({ frames := 1, cells := 0, slots := 0, locals := 12 } : Room).slots)
  refine Go.via (fun tQ kQ => castTop (ef_3 m a d f) kQ) ?_
  show Go p e below (s₁.setTop (mkF m 0 #[.val (.ref a), .val (.ref d), .val (.ref f), .unset, .unset, .unset, .unset, .unset, .unset] [])) _
  refine Go.via (fun _ => XS.aloadN X0.here hx rfl (hb hby d3_0) rfl rfl) ?_
  obtain ⟨T3, X3, e3, st3⟩ := initO X0 hx hZ hown (tw hw 15 rfl) (tw hw 16 rfl) (tw hw 17 rfl) e0 (g := (mkF m 1 #[.val (.ref a), .val (.ref d), .val (.ref f), .unset, .unset, .unset, .unset, .unset, .unset] [(.ref a)])) rfl (by rw [hml]; rfl) rfl (hb hby d3_1) (by decide) (W := 0) (by show 2 * 0 + _ ≤ _; exact Nat.le_of_eq rfl) (by decide)
  refine Go.via (st3) ?_
  show Go p e below (T3.setTop (mkF m 4 #[.val (.ref a), .val (.ref d), .val (.ref f), .unset, .unset, .unset, .unset, .unset, .unset] [])) _
  refine Go.via (fun _ => XS.aloadN X3.here hx rfl (hb hby d3_4) rfl rfl) ?_
  refine Go.via (fun _ => XS.aloadN X3.here hx rfl (hb hby d3_5) rfl rfl) ?_
  obtain ⟨T4, h4, X4, e4, W4, st4⟩ := putF X3 hx hZ hown (host := "") (Or.inl (tw hw 18 rfl)) Via.refl e3 P1 P0 (Or.inr ⟨(tw hw 19 rfl), rfl, hnm⟩) (tw hw 10 rfl) (ty := (.array .int)) (by decide) rfl rfl (g := (mkF m 6 #[.val (.ref a), .val (.ref d), .val (.ref f), .unset, .unset, .unset, .unset, .unset, .unset] [(.ref d), (.ref a)])) rfl rfl (hb hby d3_6)
  refine Go.via (st4) ?_
  have N4 := Fr.snoc X4 N0 g_a
  have f5 : Fld Z h4 a "com/example/libcosearch/libcosearch/PostingList" "documents" "[I" (.ref d) := P1.same W4
  show Go p e below (T4.setTop (mkF m 9 #[.val (.ref a), .val (.ref d), .val (.ref f), .unset, .unset, .unset, .unset, .unset, .unset] [])) _
  refine Go.via (fun _ => XS.aloadN X4.here hx rfl (hb hby d3_9) rfl rfl) ?_
  refine Go.via (fun _ => XS.aloadN X4.here hx rfl (hb hby d3_10) rfl rfl) ?_
  have f6 : Fld Z h4 a "com/example/libcosearch/libcosearch/PostingList" "frequencies" "[I" .null := (P2.other W4 (Or.inr (slot_ne (Or.inr (tw hw 21 rfl)) (Or.inr (tw hw 19 rfl)) (by decide) (t := (.array .int)) (t' := (.array .int)) (by decide) (by decide))))
  have f7 : Exa Z h4 a "com/example/libcosearch/libcosearch/PostingList" := (P0.wr W4)
  obtain ⟨T8, h8, X8, e8, W8, st8⟩ := putF X4 hx hZ hown (host := "") (Or.inl (tw hw 20 rfl)) Via.refl e4 f6 f7 (Or.inr ⟨(tw hw 21 rfl), rfl, hnm⟩) (tw hw 10 rfl) (ty := (.array .int)) (by decide) rfl rfl (g := (mkF m 11 #[.val (.ref a), .val (.ref d), .val (.ref f), .unset, .unset, .unset, .unset, .unset, .unset] [(.ref f), (.ref a)])) rfl rfl (hb hby d3_11)
  refine Go.via (st8) ?_
  have N8 := Fr.snoc X8 N4 g_a
  have f9 : Fld Z h8 a "com/example/libcosearch/libcosearch/PostingList" "frequencies" "[I" (.ref f) := f6.same W8
  show Go p e below (T8.setTop (mkF m 14 #[.val (.ref a), .val (.ref d), .val (.ref f), .unset, .unset, .unset, .unset, .unset, .unset] [])) _
  refine Go.via (fun _ => XS.lconst X8.here hx rfl (hb hby d3_14)) ?_
  refine Go.via (fun _ => XS.lstoreN X8.here hx rfl (hb hby d3_15) rfl (l' := #[.val (.ref a), .val (.ref d), .val (.ref f), .val (.long (0 : Int64)), .second, .unset, .unset, .unset, .unset]) rfl) ?_
  show Go p e below (T8.setTop (mkF m 16 #[.val (.ref a), .val (.ref d), .val (.ref f), .val (.long (0 : Int64)), .second, .unset, .unset, .unset, .unset] [])) _
  refine Go.via (fun _ => XS.aloadN X8.here hx rfl (hb hby d3_16) rfl rfl) ?_
  refine Go.via (fun _ => XS.astore X8.here hx rfl (hb hby d3_17) rfl rfl (l' := #[.val (.ref a), .val (.ref d), .val (.ref f), .val (.long (0 : Int64)), .second, .val (.ref f), .unset, .unset, .unset]) rfl) ?_
  show Go p e below (T8.setTop (mkF m 19 #[.val (.ref a), .val (.ref d), .val (.ref f), .val (.long (0 : Int64)), .second, .val (.ref f), .unset, .unset, .unset] [])) _
  refine Go.via (fun _ => XS.aload X8.here hx rfl (hb hby d3_19) rfl rfl) ?_
  have f10 : Ia Z h8 f .int [] := ((P4.other W4 (Ne.symm haf)).other W8 (Ne.symm haf))
  refine Go.via (lenI X8 hx hZ e8 f10 (n := (0 : Int32)) rfl (g := (mkF m 21 #[.val (.ref a), .val (.ref d), .val (.ref f), .val (.long (0 : Int64)), .second, .val (.ref f), .unset, .unset, .unset] [(.ref f)])) rfl rfl (hb hby d3_21)) ?_
  show Go p e below (T8.setTop (mkF m 22 #[.val (.ref a), .val (.ref d), .val (.ref f), .val (.long (0 : Int64)), .second, .val (.ref f), .unset, .unset, .unset] [(.int (0 : Int32))])) _
  refine Go.via (fun _ => XS.istore X8.here hx rfl (hb hby d3_22) rfl (l' := #[.val (.ref a), .val (.ref d), .val (.ref f), .val (.long (0 : Int64)), .second, .val (.ref f), .val (.int (0 : Int32)), .unset, .unset]) rfl) ?_
  show Go p e below (T8.setTop (mkF m 24 #[.val (.ref a), .val (.ref d), .val (.ref f), .val (.long (0 : Int64)), .second, .val (.ref f), .val (.int (0 : Int32)), .unset, .unset] [])) _
  refine Go.via (fun _ => XS.iconst X8.here hx rfl (hb hby d3_24)) ?_
  refine Go.via (fun _ => XS.istore X8.here hx rfl (hb hby d3_25) rfl (l' := #[.val (.ref a), .val (.ref d), .val (.ref f), .val (.long (0 : Int64)), .second, .val (.ref f), .val (.int (0 : Int32)), .val (.int (0 : Int32)), .unset]) rfl) ?_
  show Go p e below (T8.setTop (mkF m 27 #[.val (.ref a), .val (.ref d), .val (.ref f), .val (.long (0 : Int64)), .second, .val (.ref f), .val (.int (0 : Int32)), .val (.int (0 : Int32)), .unset] [])) _
  refine Go.via (fun _ => XS.iload X8.here hx rfl (hb hby d3_27) rfl) ?_
  refine Go.via (fun _ => XS.iload X8.here hx rfl (hb hby d3_29) rfl) ?_
  refine Go.via (fun _ => XS.icmpYes X8.here hx rfl (pc0 := 31) (pc' := 53) rfl (hb hby d3_31) rfl (flt ((by decide) : ¬ ((0 : Int32) < (0 : Int32)))).2.1 (by decide) (by decide)) ?_
  show Go p e below (T8.setTop (mkF m 53 #[.val (.ref a), .val (.ref d), .val (.ref f), .val (.long (0 : Int64)), .second, .val (.ref f), .val (.int (0 : Int32)), .val (.int (0 : Int32)), .unset] [])) _
  refine Go.via (fun _ => XS.aloadN X8.here hx rfl (hb hby d3_53) rfl rfl) ?_
  refine Go.via (fun _ => XS.lloadN X8.here hx rfl (hb hby d3_54) rfl) ?_
  have f11 : Fld Z h8 a "com/example/libcosearch/libcosearch/PostingList" "collectionFrequency" "J" (.long (0 : Int64)) := ((P3.other W4 (Or.inr (slot_ne (Or.inr (tw hw 23 rfl)) (Or.inr (tw hw 19 rfl)) (by decide) (t := .long) (t' := (.array .int)) (by decide) (by decide)))).other W8 (Or.inr (slot_ne (Or.inr (tw hw 23 rfl)) (Or.inr (tw hw 21 rfl)) (by decide) (t := .long) (t' := (.array .int)) (by decide) (by decide))))
  have f12 : Exa Z h8 a "com/example/libcosearch/libcosearch/PostingList" := (f7.wr W8)
  obtain ⟨T13, h13, X13, e13, W13, st13⟩ := putF X8 hx hZ hown (host := "") (Or.inl (tw hw 22 rfl)) Via.refl e8 f11 f12 (Or.inr ⟨(tw hw 23 rfl), rfl, hnm⟩) (tw hw 10 rfl) (ty := .long) (by decide) rfl rfl (g := (mkF m 55 #[.val (.ref a), .val (.ref d), .val (.ref f), .val (.long (0 : Int64)), .second, .val (.ref f), .val (.int (0 : Int32)), .val (.int (0 : Int32)), .unset] [(.long (0 : Int64)), (.ref a)])) rfl rfl (hb hby d3_55)
  refine Go.via (st13) ?_
  have N13 := Fr.snoc X13 N8 g_a
  have f14 : Fld Z h13 a "com/example/libcosearch/libcosearch/PostingList" "collectionFrequency" "J" (.long (0 : Int64)) := f11.same W13
  show Go p e below (T13.setTop (mkF m 58 #[.val (.ref a), .val (.ref d), .val (.ref f), .val (.long (0 : Int64)), .second, .val (.ref f), .val (.int (0 : Int32)), .val (.int (0 : Int32)), .unset] [])) _
  have k15 : Keep h0 h13 [a] := ((((Keep.refl h0 [a]).wr W4 (Or.inl (List.mem_of_getElem? (i := 0) rfl))).wr W8 (Or.inl (List.mem_of_getElem? (i := 0) rfl))).wr W13 (Or.inl (List.mem_of_getElem? (i := 0) rfl)))
  have f16 : Exa Z h13 a "com/example/libcosearch/libcosearch/PostingList" := (f12.wr W13)
  have f17 : Fld Z h13 a "com/example/libcosearch/libcosearch/PostingList" "documents" "[I" (.ref d) := ((f5.other W8 (Or.inr (slot_ne (Or.inr (tw hw 19 rfl)) (Or.inr (tw hw 21 rfl)) (by decide) (t := (.array .int)) (t' := (.array .int)) (by decide) (by decide)))).other W13 (Or.inr (slot_ne (Or.inr (tw hw 19 rfl)) (Or.inr (tw hw 23 rfl)) (by decide) (t := (.array .int)) (t' := .long) (by decide) (by decide))))
  have f18 : Fld Z h13 a "com/example/libcosearch/libcosearch/PostingList" "frequencies" "[I" (.ref f) := (f9.other W13 (Or.inr (slot_ne (Or.inr (tw hw 21 rfl)) (Or.inr (tw hw 23 rfl)) (by decide) (t := (.array .int)) (t' := .long) (by decide) (by decide))))
  exact Go.fin X13 hlk (v := none) (fun _ => rfl) (fun fs hr => X13.returnOut hx Bd.returns (hb hby d3_58) hr) (by rw [e13]; exact ⟨rfl, N13, k15, f16, f17, f18⟩) (by decide) (by decide)
theorem d3_34 : decode prog_22_method_1_code 34 = .ok (.aload 5, 2) := by decide +kernel
theorem d3_36 : decode prog_22_method_1_code 36 = .ok (.iload 7, 2) := by decide +kernel
theorem d3_38 : decode prog_22_method_1_code 38 = .ok (.iaload, 1) := by decide +kernel
theorem d3_39 : decode prog_22_method_1_code 39 = .ok (.istore 8, 2) := by decide +kernel
theorem d3_41 : decode prog_22_method_1_code 41 = .ok (.lload_n 3, 1) := by decide +kernel
theorem d3_42 : decode prog_22_method_1_code 42 = .ok (.iload 8, 2) := by decide +kernel
theorem d3_44 : decode prog_22_method_1_code 44 = .ok (.i2l, 1) := by decide +kernel
theorem d3_45 : decode prog_22_method_1_code 45 = .ok (.ladd, 1) := by decide +kernel
theorem d3_46 : decode prog_22_method_1_code 46 = .ok (.lstore_n 3, 1) := by decide +kernel
theorem d3_47 : decode prog_22_method_1_code 47 = .ok (.iinc 7 1, 3) := by decide +kernel
theorem d3_50 : decode prog_22_method_1_code 50 = .ok (.goto (-23), 3) := by decide +kernel
def Q_rmI1 (Z : State) (a : Addr) (d : Addr) (f : Addr) (f0 : Int32) (h0 : Heap) (n0 : Nat) (vQ : Option Value) (hQ : Heap) (LQ : List Loc) : Prop := vQ = none ∧ Fr n0 LQ ∧ Keep h0 hQ [a] ∧ Exa Z hQ a "com/example/libcosearch/libcosearch/PostingList" ∧ Fld Z hQ a "com/example/libcosearch/libcosearch/PostingList" "documents" "[I" (.ref d) ∧ Fld Z hQ a "com/example/libcosearch/libcosearch/PostingList" "frequencies" "[I" (.ref f)
set_option maxRecDepth 65536 in
set_option maxHeartbeats 40000000 in
theorem rmI1 (l : Launch) (Z : State) (a0 : Array Value) (hw : ∀ d ∈ tables_1, d.before a0 Z = true) (ws : List Jvm.Cond) (a : Addr) (d : Addr) (f : Addr) (f0 : Int32) (h0 : Heap) (n0 : Nat) (Z0 : n0 ≤ h0.size) (P0 : Exa Z h0 a "com/example/libcosearch/libcosearch/PostingList") (P1 : Fld Z h0 a "com/example/libcosearch/libcosearch/PostingList" "documents" "[I" .null) (P2 : Fld Z h0 a "com/example/libcosearch/libcosearch/PostingList" "frequencies" "[I" .null) (P3 : Fld Z h0 a "com/example/libcosearch/libcosearch/PostingList" "collectionFrequency" "J" (.long (0 : Int64))) (P4 : Ia Z h0 f .int [f0]) (g_a : n0 ≤ a) (haf : a ≠ f) :
    MetFree l (⟨"com/example/libcosearch/libcosearch/PostingList", "<init>", "([I[I)V"⟩ : MethodName) (head1 (Jvm.Cond.code (⟨"com/example/libcosearch/libcosearch/PostingList", "<init>", "([I[I)V"⟩ : MethodName) prog_22_method_1_code 9 none :: ws) ({ frames := 1, cells := 0, slots := 0, locals := 12 } : Room)) (fun aQ UQ => aQ = #[(.ref a), (.ref d), (.ref f)] ∧ Z.Warmed39 UQ.vm ∧ UQ.heap = h0) (fun _ _ _ _ _ => True) (fun _ UQ oQ UR => ∃ vQ LQ, oQ = .returned vQ ∧ Q_rmI1 Z a d f f0 h0 n0 vQ UR.heap LQ ∧ FrameEnd UQ oQ UR LQ ({ frames := 1, cells := 0, slots := 0, locals := 12 } : Room).cells ({ frames := 1, cells := 0, slots := 0, locals := 12 } : Room).slots) := by
  refine MetFree.of_bodySF (plainFor_of_name pn_3) hisR ?_
  intro p e s m args below meth c s₁ Bd hml0 hP hK
  obtain ⟨rfl, hZ, hh⟩ := hP
  have hx := Bd.exec
  have hby := Bd.bytes
  have hlk := Bd.notSynchronized
  have hml : c.maxLocals = 9 := hml0
  have hown : s.vm.findClass "com/example/libcosearch/libcosearch/PostingList" = some m.cls := findClass_of_methodNamed Bd.named
  have hnm := (name_of_methodNamed Bd.named Bd.method).1
  have X0 : Stand p l e ({ frames := 1, cells := 0, slots := 0, locals := 12 } : Room) s m #[(.ref a), (.ref d), (.ref f)] below meth c s₁ [] 0 0 := Stand.of_body Bd
  have e0 : s₁.heap = h0 := by rw [← hh, Bd.state]; rfl
  have N0 := Fr.nil n0
  show Go p e below _ (Done s (Q_rmI1 Z a d f f0 h0 n0) ({ frames := 1, cells := 0, slots := 0, locals := 12 } : Room).cells ({ frames := 1, cells := 0, slots := 0, locals := 12 } : Room).slots)
  refine Go.via (fun tQ kQ => castTop (ef_3 m a d f) kQ) ?_
  show Go p e below (s₁.setTop (mkF m 0 #[.val (.ref a), .val (.ref d), .val (.ref f), .unset, .unset, .unset, .unset, .unset, .unset] [])) _
  refine Go.via (fun _ => XS.aloadN X0.here hx rfl (hb hby d3_0) rfl rfl) ?_
  obtain ⟨T19, X19, e19, st19⟩ := initO X0 hx hZ hown (tw hw 15 rfl) (tw hw 16 rfl) (tw hw 17 rfl) e0 (g := (mkF m 1 #[.val (.ref a), .val (.ref d), .val (.ref f), .unset, .unset, .unset, .unset, .unset, .unset] [(.ref a)])) rfl (by rw [hml]; rfl) rfl (hb hby d3_1) (by decide) (W := 0) (by show 2 * 0 + _ ≤ _; exact Nat.le_of_eq rfl) (by decide)
  refine Go.via (st19) ?_
  show Go p e below (T19.setTop (mkF m 4 #[.val (.ref a), .val (.ref d), .val (.ref f), .unset, .unset, .unset, .unset, .unset, .unset] [])) _
  refine Go.via (fun _ => XS.aloadN X19.here hx rfl (hb hby d3_4) rfl rfl) ?_
  refine Go.via (fun _ => XS.aloadN X19.here hx rfl (hb hby d3_5) rfl rfl) ?_
  obtain ⟨T20, h20, X20, e20, W20, st20⟩ := putF X19 hx hZ hown (host := "") (Or.inl (tw hw 18 rfl)) Via.refl e19 P1 P0 (Or.inr ⟨(tw hw 19 rfl), rfl, hnm⟩) (tw hw 10 rfl) (ty := (.array .int)) (by decide) rfl rfl (g := (mkF m 6 #[.val (.ref a), .val (.ref d), .val (.ref f), .unset, .unset, .unset, .unset, .unset, .unset] [(.ref d), (.ref a)])) rfl rfl (hb hby d3_6)
  refine Go.via (st20) ?_
  have N20 := Fr.snoc X20 N0 g_a
  have f21 : Fld Z h20 a "com/example/libcosearch/libcosearch/PostingList" "documents" "[I" (.ref d) := P1.same W20
  show Go p e below (T20.setTop (mkF m 9 #[.val (.ref a), .val (.ref d), .val (.ref f), .unset, .unset, .unset, .unset, .unset, .unset] [])) _
  refine Go.via (fun _ => XS.aloadN X20.here hx rfl (hb hby d3_9) rfl rfl) ?_
  refine Go.via (fun _ => XS.aloadN X20.here hx rfl (hb hby d3_10) rfl rfl) ?_
  have f22 : Fld Z h20 a "com/example/libcosearch/libcosearch/PostingList" "frequencies" "[I" .null := (P2.other W20 (Or.inr (slot_ne (Or.inr (tw hw 21 rfl)) (Or.inr (tw hw 19 rfl)) (by decide) (t := (.array .int)) (t' := (.array .int)) (by decide) (by decide))))
  have f23 : Exa Z h20 a "com/example/libcosearch/libcosearch/PostingList" := (P0.wr W20)
  obtain ⟨T24, h24, X24, e24, W24, st24⟩ := putF X20 hx hZ hown (host := "") (Or.inl (tw hw 20 rfl)) Via.refl e20 f22 f23 (Or.inr ⟨(tw hw 21 rfl), rfl, hnm⟩) (tw hw 10 rfl) (ty := (.array .int)) (by decide) rfl rfl (g := (mkF m 11 #[.val (.ref a), .val (.ref d), .val (.ref f), .unset, .unset, .unset, .unset, .unset, .unset] [(.ref f), (.ref a)])) rfl rfl (hb hby d3_11)
  refine Go.via (st24) ?_
  have N24 := Fr.snoc X24 N20 g_a
  have f25 : Fld Z h24 a "com/example/libcosearch/libcosearch/PostingList" "frequencies" "[I" (.ref f) := f22.same W24
  show Go p e below (T24.setTop (mkF m 14 #[.val (.ref a), .val (.ref d), .val (.ref f), .unset, .unset, .unset, .unset, .unset, .unset] [])) _
  refine Go.via (fun _ => XS.lconst X24.here hx rfl (hb hby d3_14)) ?_
  refine Go.via (fun _ => XS.lstoreN X24.here hx rfl (hb hby d3_15) rfl (l' := #[.val (.ref a), .val (.ref d), .val (.ref f), .val (.long (0 : Int64)), .second, .unset, .unset, .unset, .unset]) rfl) ?_
  show Go p e below (T24.setTop (mkF m 16 #[.val (.ref a), .val (.ref d), .val (.ref f), .val (.long (0 : Int64)), .second, .unset, .unset, .unset, .unset] [])) _
  refine Go.via (fun _ => XS.aloadN X24.here hx rfl (hb hby d3_16) rfl rfl) ?_
  refine Go.via (fun _ => XS.astore X24.here hx rfl (hb hby d3_17) rfl rfl (l' := #[.val (.ref a), .val (.ref d), .val (.ref f), .val (.long (0 : Int64)), .second, .val (.ref f), .unset, .unset, .unset]) rfl) ?_
  show Go p e below (T24.setTop (mkF m 19 #[.val (.ref a), .val (.ref d), .val (.ref f), .val (.long (0 : Int64)), .second, .val (.ref f), .unset, .unset, .unset] [])) _
  refine Go.via (fun _ => XS.aload X24.here hx rfl (hb hby d3_19) rfl rfl) ?_
  have f26 : Ia Z h24 f .int [f0] := ((P4.other W20 (Ne.symm haf)).other W24 (Ne.symm haf))
  refine Go.via (lenI X24 hx hZ e24 f26 (n := (1 : Int32)) rfl (g := (mkF m 21 #[.val (.ref a), .val (.ref d), .val (.ref f), .val (.long (0 : Int64)), .second, .val (.ref f), .unset, .unset, .unset] [(.ref f)])) rfl rfl (hb hby d3_21)) ?_
  show Go p e below (T24.setTop (mkF m 22 #[.val (.ref a), .val (.ref d), .val (.ref f), .val (.long (0 : Int64)), .second, .val (.ref f), .unset, .unset, .unset] [(.int (1 : Int32))])) _
  refine Go.via (fun _ => XS.istore X24.here hx rfl (hb hby d3_22) rfl (l' := #[.val (.ref a), .val (.ref d), .val (.ref f), .val (.long (0 : Int64)), .second, .val (.ref f), .val (.int (1 : Int32)), .unset, .unset]) rfl) ?_
  show Go p e below (T24.setTop (mkF m 24 #[.val (.ref a), .val (.ref d), .val (.ref f), .val (.long (0 : Int64)), .second, .val (.ref f), .val (.int (1 : Int32)), .unset, .unset] [])) _
  refine Go.via (fun _ => XS.iconst X24.here hx rfl (hb hby d3_24)) ?_
  refine Go.via (fun _ => XS.istore X24.here hx rfl (hb hby d3_25) rfl (l' := #[.val (.ref a), .val (.ref d), .val (.ref f), .val (.long (0 : Int64)), .second, .val (.ref f), .val (.int (1 : Int32)), .val (.int (0 : Int32)), .unset]) rfl) ?_
  show Go p e below (T24.setTop (mkF m 27 #[.val (.ref a), .val (.ref d), .val (.ref f), .val (.long (0 : Int64)), .second, .val (.ref f), .val (.int (1 : Int32)), .val (.int (0 : Int32)), .unset] [])) _
  refine Go.via (fun _ => XS.iload X24.here hx rfl (hb hby d3_27) rfl) ?_
  refine Go.via (fun _ => XS.iload X24.here hx rfl (hb hby d3_29) rfl) ?_
  refine Go.via (fun _ => XS.icmpNo X24.here hx rfl (hb hby d3_31) rfl (tlt ((by decide) : (0 : Int32) < (1 : Int32))).2.1) ?_
  show Go p e below (T24.setTop (mkF m 34 #[.val (.ref a), .val (.ref d), .val (.ref f), .val (.long (0 : Int64)), .second, .val (.ref f), .val (.int (1 : Int32)), .val (.int (0 : Int32)), .unset] [])) _
  refine Go.via (fun _ => XS.aload X24.here hx rfl (hb hby d3_34) rfl rfl) ?_
  refine Go.via (fun _ => XS.iload X24.here hx rfl (hb hby d3_36) rfl) ?_
  refine Go.via (ldI X24 hx hZ e24 f26 (v := f0) (by decide) rfl (g := (mkF m 38 #[.val (.ref a), .val (.ref d), .val (.ref f), .val (.long (0 : Int64)), .second, .val (.ref f), .val (.int (1 : Int32)), .val (.int (0 : Int32)), .unset] [(.int (0 : Int32)), (.ref f)])) rfl rfl (hb hby d3_38)) ?_
  show Go p e below (T24.setTop (mkF m 39 #[.val (.ref a), .val (.ref d), .val (.ref f), .val (.long (0 : Int64)), .second, .val (.ref f), .val (.int (1 : Int32)), .val (.int (0 : Int32)), .unset] [(.int f0)])) _
  refine Go.via (fun _ => XS.istore X24.here hx rfl (hb hby d3_39) rfl (l' := #[.val (.ref a), .val (.ref d), .val (.ref f), .val (.long (0 : Int64)), .second, .val (.ref f), .val (.int (1 : Int32)), .val (.int (0 : Int32)), .val (.int f0)]) rfl) ?_
  show Go p e below (T24.setTop (mkF m 41 #[.val (.ref a), .val (.ref d), .val (.ref f), .val (.long (0 : Int64)), .second, .val (.ref f), .val (.int (1 : Int32)), .val (.int (0 : Int32)), .val (.int f0)] [])) _
  refine Go.via (fun _ => XS.lloadN X24.here hx rfl (hb hby d3_41) rfl) ?_
  refine Go.via (fun _ => XS.iload X24.here hx rfl (hb hby d3_42) rfl) ?_
  refine Go.via (fun _ => XS.i2l X24.here hx rfl (hb hby d3_44) rfl) ?_
  show Go p e below (T24.setTop (mkF m 45 #[.val (.ref a), .val (.ref d), .val (.ref f), .val (.long (0 : Int64)), .second, .val (.ref f), .val (.int (1 : Int32)), .val (.int (0 : Int32)), .val (.int f0)] [(.long (f0.toInt64)), (.long (0 : Int64))])) _
  refine Go.via (fun _ => XS.ladd X24.here hx rfl (hb hby d3_45) rfl) ?_
  show Go p e below (T24.setTop (mkF m 46 #[.val (.ref a), .val (.ref d), .val (.ref f), .val (.long (0 : Int64)), .second, .val (.ref f), .val (.int (1 : Int32)), .val (.int (0 : Int32)), .val (.int f0)] [(.long ((0 : Int64) + (f0.toInt64)))])) _
  refine Go.via (fun _ => XS.lstoreN X24.here hx rfl (hb hby d3_46) rfl (l' := #[.val (.ref a), .val (.ref d), .val (.ref f), .val (.long ((0 : Int64) + (f0.toInt64))), .second, .val (.ref f), .val (.int (1 : Int32)), .val (.int (0 : Int32)), .val (.int f0)]) rfl) ?_
  show Go p e below (T24.setTop (mkF m 47 #[.val (.ref a), .val (.ref d), .val (.ref f), .val (.long ((0 : Int64) + (f0.toInt64))), .second, .val (.ref f), .val (.int (1 : Int32)), .val (.int (0 : Int32)), .val (.int f0)] [])) _
  refine Go.via (fun _ => XS.iinc X24.here hx rfl (hb hby d3_47) rfl (l' := #[.val (.ref a), .val (.ref d), .val (.ref f), .val (.long ((0 : Int64) + (f0.toInt64))), .second, .val (.ref f), .val (.int (1 : Int32)), .val (.int (1 : Int32)), .val (.int f0)]) rfl) ?_
  show Go p e below (T24.setTop (mkF m 50 #[.val (.ref a), .val (.ref d), .val (.ref f), .val (.long ((0 : Int64) + (f0.toInt64))), .second, .val (.ref f), .val (.int (1 : Int32)), .val (.int (1 : Int32)), .val (.int f0)] [])) _
  refine Go.via (fun _ => XS.goto X24.here hx rfl (pc0 := 50) (pc' := 27) rfl (hb hby d3_50) (by decide) (by decide)) ?_
  refine Go.via (fun _ => XS.iload X24.here hx rfl (hb hby d3_27) rfl) ?_
  refine Go.via (fun _ => XS.iload X24.here hx rfl (hb hby d3_29) rfl) ?_
  refine Go.via (fun _ => XS.icmpYes X24.here hx rfl (pc0 := 31) (pc' := 53) rfl (hb hby d3_31) rfl (flt ((by decide) : ¬ ((1 : Int32) < (1 : Int32)))).2.1 (by decide) (by decide)) ?_
  show Go p e below (T24.setTop (mkF m 53 #[.val (.ref a), .val (.ref d), .val (.ref f), .val (.long ((0 : Int64) + (f0.toInt64))), .second, .val (.ref f), .val (.int (1 : Int32)), .val (.int (1 : Int32)), .val (.int f0)] [])) _
  refine Go.via (fun _ => XS.aloadN X24.here hx rfl (hb hby d3_53) rfl rfl) ?_
  refine Go.via (fun _ => XS.lloadN X24.here hx rfl (hb hby d3_54) rfl) ?_
  have f27 : Fld Z h24 a "com/example/libcosearch/libcosearch/PostingList" "collectionFrequency" "J" (.long (0 : Int64)) := ((P3.other W20 (Or.inr (slot_ne (Or.inr (tw hw 23 rfl)) (Or.inr (tw hw 19 rfl)) (by decide) (t := .long) (t' := (.array .int)) (by decide) (by decide)))).other W24 (Or.inr (slot_ne (Or.inr (tw hw 23 rfl)) (Or.inr (tw hw 21 rfl)) (by decide) (t := .long) (t' := (.array .int)) (by decide) (by decide))))
  have f28 : Exa Z h24 a "com/example/libcosearch/libcosearch/PostingList" := (f23.wr W24)
  obtain ⟨T29, h29, X29, e29, W29, st29⟩ := putF X24 hx hZ hown (host := "") (Or.inl (tw hw 22 rfl)) Via.refl e24 f27 f28 (Or.inr ⟨(tw hw 23 rfl), rfl, hnm⟩) (tw hw 10 rfl) (ty := .long) (by decide) rfl rfl (g := (mkF m 55 #[.val (.ref a), .val (.ref d), .val (.ref f), .val (.long ((0 : Int64) + (f0.toInt64))), .second, .val (.ref f), .val (.int (1 : Int32)), .val (.int (1 : Int32)), .val (.int f0)] [(.long ((0 : Int64) + (f0.toInt64))), (.ref a)])) rfl rfl (hb hby d3_55)
  refine Go.via (st29) ?_
  have N29 := Fr.snoc X29 N24 g_a
  have f30 : Fld Z h29 a "com/example/libcosearch/libcosearch/PostingList" "collectionFrequency" "J" (.long ((0 : Int64) + (f0.toInt64))) := f27.same W29
  show Go p e below (T29.setTop (mkF m 58 #[.val (.ref a), .val (.ref d), .val (.ref f), .val (.long ((0 : Int64) + (f0.toInt64))), .second, .val (.ref f), .val (.int (1 : Int32)), .val (.int (1 : Int32)), .val (.int f0)] [])) _
  have k31 : Keep h0 h29 [a] := ((((Keep.refl h0 [a]).wr W20 (Or.inl (List.mem_of_getElem? (i := 0) rfl))).wr W24 (Or.inl (List.mem_of_getElem? (i := 0) rfl))).wr W29 (Or.inl (List.mem_of_getElem? (i := 0) rfl)))
  have f32 : Exa Z h29 a "com/example/libcosearch/libcosearch/PostingList" := (f28.wr W29)
  have f33 : Fld Z h29 a "com/example/libcosearch/libcosearch/PostingList" "documents" "[I" (.ref d) := ((f21.other W24 (Or.inr (slot_ne (Or.inr (tw hw 19 rfl)) (Or.inr (tw hw 21 rfl)) (by decide) (t := (.array .int)) (t' := (.array .int)) (by decide) (by decide)))).other W29 (Or.inr (slot_ne (Or.inr (tw hw 19 rfl)) (Or.inr (tw hw 23 rfl)) (by decide) (t := (.array .int)) (t' := .long) (by decide) (by decide))))
  have f34 : Fld Z h29 a "com/example/libcosearch/libcosearch/PostingList" "frequencies" "[I" (.ref f) := (f25.other W29 (Or.inr (slot_ne (Or.inr (tw hw 21 rfl)) (Or.inr (tw hw 23 rfl)) (by decide) (t := (.array .int)) (t' := .long) (by decide) (by decide))))
  exact Go.fin X29 hlk (v := none) (fun _ => rfl) (fun fs hr => X29.returnOut hx Bd.returns (hb hby d3_58) hr) (by rw [e29]; exact ⟨rfl, N29, k31, f32, f33, f34⟩) (by decide) (by decide)
def Q_rmI2 (Z : State) (a : Addr) (d : Addr) (f : Addr) (f0 : Int32) (f1 : Int32) (h0 : Heap) (n0 : Nat) (vQ : Option Value) (hQ : Heap) (LQ : List Loc) : Prop := vQ = none ∧ Fr n0 LQ ∧ Keep h0 hQ [a] ∧ Exa Z hQ a "com/example/libcosearch/libcosearch/PostingList" ∧ Fld Z hQ a "com/example/libcosearch/libcosearch/PostingList" "documents" "[I" (.ref d) ∧ Fld Z hQ a "com/example/libcosearch/libcosearch/PostingList" "frequencies" "[I" (.ref f)
set_option maxRecDepth 65536 in
set_option maxHeartbeats 40000000 in
theorem rmI2 (l : Launch) (Z : State) (a0 : Array Value) (hw : ∀ d ∈ tables_1, d.before a0 Z = true) (ws : List Jvm.Cond) (a : Addr) (d : Addr) (f : Addr) (f0 : Int32) (f1 : Int32) (h0 : Heap) (n0 : Nat) (Z0 : n0 ≤ h0.size) (P0 : Exa Z h0 a "com/example/libcosearch/libcosearch/PostingList") (P1 : Fld Z h0 a "com/example/libcosearch/libcosearch/PostingList" "documents" "[I" .null) (P2 : Fld Z h0 a "com/example/libcosearch/libcosearch/PostingList" "frequencies" "[I" .null) (P3 : Fld Z h0 a "com/example/libcosearch/libcosearch/PostingList" "collectionFrequency" "J" (.long (0 : Int64))) (P4 : Ia Z h0 f .int [f0, f1]) (g_a : n0 ≤ a) (haf : a ≠ f) :
    MetFree l (⟨"com/example/libcosearch/libcosearch/PostingList", "<init>", "([I[I)V"⟩ : MethodName) (head1 (Jvm.Cond.code (⟨"com/example/libcosearch/libcosearch/PostingList", "<init>", "([I[I)V"⟩ : MethodName) prog_22_method_1_code 9 none :: ws) ({ frames := 1, cells := 0, slots := 0, locals := 12 } : Room)) (fun aQ UQ => aQ = #[(.ref a), (.ref d), (.ref f)] ∧ Z.Warmed39 UQ.vm ∧ UQ.heap = h0) (fun _ _ _ _ _ => True) (fun _ UQ oQ UR => ∃ vQ LQ, oQ = .returned vQ ∧ Q_rmI2 Z a d f f0 f1 h0 n0 vQ UR.heap LQ ∧ FrameEnd UQ oQ UR LQ ({ frames := 1, cells := 0, slots := 0, locals := 12 } : Room).cells ({ frames := 1, cells := 0, slots := 0, locals := 12 } : Room).slots) := by
  refine MetFree.of_bodySF (plainFor_of_name pn_3) hisR ?_
  intro p e s m args below meth c s₁ Bd hml0 hP hK
  obtain ⟨rfl, hZ, hh⟩ := hP
  have hx := Bd.exec
  have hby := Bd.bytes
  have hlk := Bd.notSynchronized
  have hml : c.maxLocals = 9 := hml0
  have hown : s.vm.findClass "com/example/libcosearch/libcosearch/PostingList" = some m.cls := findClass_of_methodNamed Bd.named
  have hnm := (name_of_methodNamed Bd.named Bd.method).1
  have X0 : Stand p l e ({ frames := 1, cells := 0, slots := 0, locals := 12 } : Room) s m #[(.ref a), (.ref d), (.ref f)] below meth c s₁ [] 0 0 := Stand.of_body Bd
  have e0 : s₁.heap = h0 := by rw [← hh, Bd.state]; rfl
  have N0 := Fr.nil n0
  show Go p e below _ (Done s (Q_rmI2 Z a d f f0 f1 h0 n0) ({ frames := 1, cells := 0, slots := 0, locals := 12 } : Room).cells ({ frames := 1, cells := 0, slots := 0, locals := 12 } : Room).slots)
  refine Go.via (fun tQ kQ => castTop (ef_3 m a d f) kQ) ?_
  show Go p e below (s₁.setTop (mkF m 0 #[.val (.ref a), .val (.ref d), .val (.ref f), .unset, .unset, .unset, .unset, .unset, .unset] [])) _
  refine Go.via (fun _ => XS.aloadN X0.here hx rfl (hb hby d3_0) rfl rfl) ?_
  obtain ⟨T35, X35, e35, st35⟩ := initO X0 hx hZ hown (tw hw 15 rfl) (tw hw 16 rfl) (tw hw 17 rfl) e0 (g := (mkF m 1 #[.val (.ref a), .val (.ref d), .val (.ref f), .unset, .unset, .unset, .unset, .unset, .unset] [(.ref a)])) rfl (by rw [hml]; rfl) rfl (hb hby d3_1) (by decide) (W := 0) (by show 2 * 0 + _ ≤ _; exact Nat.le_of_eq rfl) (by decide)
  refine Go.via (st35) ?_
  show Go p e below (T35.setTop (mkF m 4 #[.val (.ref a), .val (.ref d), .val (.ref f), .unset, .unset, .unset, .unset, .unset, .unset] [])) _
  refine Go.via (fun _ => XS.aloadN X35.here hx rfl (hb hby d3_4) rfl rfl) ?_
  refine Go.via (fun _ => XS.aloadN X35.here hx rfl (hb hby d3_5) rfl rfl) ?_
  obtain ⟨T36, h36, X36, e36, W36, st36⟩ := putF X35 hx hZ hown (host := "") (Or.inl (tw hw 18 rfl)) Via.refl e35 P1 P0 (Or.inr ⟨(tw hw 19 rfl), rfl, hnm⟩) (tw hw 10 rfl) (ty := (.array .int)) (by decide) rfl rfl (g := (mkF m 6 #[.val (.ref a), .val (.ref d), .val (.ref f), .unset, .unset, .unset, .unset, .unset, .unset] [(.ref d), (.ref a)])) rfl rfl (hb hby d3_6)
  refine Go.via (st36) ?_
  have N36 := Fr.snoc X36 N0 g_a
  have f37 : Fld Z h36 a "com/example/libcosearch/libcosearch/PostingList" "documents" "[I" (.ref d) := P1.same W36
  show Go p e below (T36.setTop (mkF m 9 #[.val (.ref a), .val (.ref d), .val (.ref f), .unset, .unset, .unset, .unset, .unset, .unset] [])) _
  refine Go.via (fun _ => XS.aloadN X36.here hx rfl (hb hby d3_9) rfl rfl) ?_
  refine Go.via (fun _ => XS.aloadN X36.here hx rfl (hb hby d3_10) rfl rfl) ?_
  have f38 : Fld Z h36 a "com/example/libcosearch/libcosearch/PostingList" "frequencies" "[I" .null := (P2.other W36 (Or.inr (slot_ne (Or.inr (tw hw 21 rfl)) (Or.inr (tw hw 19 rfl)) (by decide) (t := (.array .int)) (t' := (.array .int)) (by decide) (by decide))))
  have f39 : Exa Z h36 a "com/example/libcosearch/libcosearch/PostingList" := (P0.wr W36)
  obtain ⟨T40, h40, X40, e40, W40, st40⟩ := putF X36 hx hZ hown (host := "") (Or.inl (tw hw 20 rfl)) Via.refl e36 f38 f39 (Or.inr ⟨(tw hw 21 rfl), rfl, hnm⟩) (tw hw 10 rfl) (ty := (.array .int)) (by decide) rfl rfl (g := (mkF m 11 #[.val (.ref a), .val (.ref d), .val (.ref f), .unset, .unset, .unset, .unset, .unset, .unset] [(.ref f), (.ref a)])) rfl rfl (hb hby d3_11)
  refine Go.via (st40) ?_
  have N40 := Fr.snoc X40 N36 g_a
  have f41 : Fld Z h40 a "com/example/libcosearch/libcosearch/PostingList" "frequencies" "[I" (.ref f) := f38.same W40
  show Go p e below (T40.setTop (mkF m 14 #[.val (.ref a), .val (.ref d), .val (.ref f), .unset, .unset, .unset, .unset, .unset, .unset] [])) _
  refine Go.via (fun _ => XS.lconst X40.here hx rfl (hb hby d3_14)) ?_
  refine Go.via (fun _ => XS.lstoreN X40.here hx rfl (hb hby d3_15) rfl (l' := #[.val (.ref a), .val (.ref d), .val (.ref f), .val (.long (0 : Int64)), .second, .unset, .unset, .unset, .unset]) rfl) ?_
  show Go p e below (T40.setTop (mkF m 16 #[.val (.ref a), .val (.ref d), .val (.ref f), .val (.long (0 : Int64)), .second, .unset, .unset, .unset, .unset] [])) _
  refine Go.via (fun _ => XS.aloadN X40.here hx rfl (hb hby d3_16) rfl rfl) ?_
  refine Go.via (fun _ => XS.astore X40.here hx rfl (hb hby d3_17) rfl rfl (l' := #[.val (.ref a), .val (.ref d), .val (.ref f), .val (.long (0 : Int64)), .second, .val (.ref f), .unset, .unset, .unset]) rfl) ?_
  show Go p e below (T40.setTop (mkF m 19 #[.val (.ref a), .val (.ref d), .val (.ref f), .val (.long (0 : Int64)), .second, .val (.ref f), .unset, .unset, .unset] [])) _
  refine Go.via (fun _ => XS.aload X40.here hx rfl (hb hby d3_19) rfl rfl) ?_
  have f42 : Ia Z h40 f .int [f0, f1] := ((P4.other W36 (Ne.symm haf)).other W40 (Ne.symm haf))
  refine Go.via (lenI X40 hx hZ e40 f42 (n := (2 : Int32)) rfl (g := (mkF m 21 #[.val (.ref a), .val (.ref d), .val (.ref f), .val (.long (0 : Int64)), .second, .val (.ref f), .unset, .unset, .unset] [(.ref f)])) rfl rfl (hb hby d3_21)) ?_
  show Go p e below (T40.setTop (mkF m 22 #[.val (.ref a), .val (.ref d), .val (.ref f), .val (.long (0 : Int64)), .second, .val (.ref f), .unset, .unset, .unset] [(.int (2 : Int32))])) _
  refine Go.via (fun _ => XS.istore X40.here hx rfl (hb hby d3_22) rfl (l' := #[.val (.ref a), .val (.ref d), .val (.ref f), .val (.long (0 : Int64)), .second, .val (.ref f), .val (.int (2 : Int32)), .unset, .unset]) rfl) ?_
  show Go p e below (T40.setTop (mkF m 24 #[.val (.ref a), .val (.ref d), .val (.ref f), .val (.long (0 : Int64)), .second, .val (.ref f), .val (.int (2 : Int32)), .unset, .unset] [])) _
  refine Go.via (fun _ => XS.iconst X40.here hx rfl (hb hby d3_24)) ?_
  refine Go.via (fun _ => XS.istore X40.here hx rfl (hb hby d3_25) rfl (l' := #[.val (.ref a), .val (.ref d), .val (.ref f), .val (.long (0 : Int64)), .second, .val (.ref f), .val (.int (2 : Int32)), .val (.int (0 : Int32)), .unset]) rfl) ?_
  show Go p e below (T40.setTop (mkF m 27 #[.val (.ref a), .val (.ref d), .val (.ref f), .val (.long (0 : Int64)), .second, .val (.ref f), .val (.int (2 : Int32)), .val (.int (0 : Int32)), .unset] [])) _
  refine Go.via (fun _ => XS.iload X40.here hx rfl (hb hby d3_27) rfl) ?_
  refine Go.via (fun _ => XS.iload X40.here hx rfl (hb hby d3_29) rfl) ?_
  refine Go.via (fun _ => XS.icmpNo X40.here hx rfl (hb hby d3_31) rfl (tlt ((by decide) : (0 : Int32) < (2 : Int32))).2.1) ?_
  show Go p e below (T40.setTop (mkF m 34 #[.val (.ref a), .val (.ref d), .val (.ref f), .val (.long (0 : Int64)), .second, .val (.ref f), .val (.int (2 : Int32)), .val (.int (0 : Int32)), .unset] [])) _
  refine Go.via (fun _ => XS.aload X40.here hx rfl (hb hby d3_34) rfl rfl) ?_
  refine Go.via (fun _ => XS.iload X40.here hx rfl (hb hby d3_36) rfl) ?_
  refine Go.via (ldI X40 hx hZ e40 f42 (v := f0) (by decide) rfl (g := (mkF m 38 #[.val (.ref a), .val (.ref d), .val (.ref f), .val (.long (0 : Int64)), .second, .val (.ref f), .val (.int (2 : Int32)), .val (.int (0 : Int32)), .unset] [(.int (0 : Int32)), (.ref f)])) rfl rfl (hb hby d3_38)) ?_
  show Go p e below (T40.setTop (mkF m 39 #[.val (.ref a), .val (.ref d), .val (.ref f), .val (.long (0 : Int64)), .second, .val (.ref f), .val (.int (2 : Int32)), .val (.int (0 : Int32)), .unset] [(.int f0)])) _
  refine Go.via (fun _ => XS.istore X40.here hx rfl (hb hby d3_39) rfl (l' := #[.val (.ref a), .val (.ref d), .val (.ref f), .val (.long (0 : Int64)), .second, .val (.ref f), .val (.int (2 : Int32)), .val (.int (0 : Int32)), .val (.int f0)]) rfl) ?_
  show Go p e below (T40.setTop (mkF m 41 #[.val (.ref a), .val (.ref d), .val (.ref f), .val (.long (0 : Int64)), .second, .val (.ref f), .val (.int (2 : Int32)), .val (.int (0 : Int32)), .val (.int f0)] [])) _
  refine Go.via (fun _ => XS.lloadN X40.here hx rfl (hb hby d3_41) rfl) ?_
  refine Go.via (fun _ => XS.iload X40.here hx rfl (hb hby d3_42) rfl) ?_
  refine Go.via (fun _ => XS.i2l X40.here hx rfl (hb hby d3_44) rfl) ?_
  show Go p e below (T40.setTop (mkF m 45 #[.val (.ref a), .val (.ref d), .val (.ref f), .val (.long (0 : Int64)), .second, .val (.ref f), .val (.int (2 : Int32)), .val (.int (0 : Int32)), .val (.int f0)] [(.long (f0.toInt64)), (.long (0 : Int64))])) _
  refine Go.via (fun _ => XS.ladd X40.here hx rfl (hb hby d3_45) rfl) ?_
  show Go p e below (T40.setTop (mkF m 46 #[.val (.ref a), .val (.ref d), .val (.ref f), .val (.long (0 : Int64)), .second, .val (.ref f), .val (.int (2 : Int32)), .val (.int (0 : Int32)), .val (.int f0)] [(.long ((0 : Int64) + (f0.toInt64)))])) _
  refine Go.via (fun _ => XS.lstoreN X40.here hx rfl (hb hby d3_46) rfl (l' := #[.val (.ref a), .val (.ref d), .val (.ref f), .val (.long ((0 : Int64) + (f0.toInt64))), .second, .val (.ref f), .val (.int (2 : Int32)), .val (.int (0 : Int32)), .val (.int f0)]) rfl) ?_
  show Go p e below (T40.setTop (mkF m 47 #[.val (.ref a), .val (.ref d), .val (.ref f), .val (.long ((0 : Int64) + (f0.toInt64))), .second, .val (.ref f), .val (.int (2 : Int32)), .val (.int (0 : Int32)), .val (.int f0)] [])) _
  refine Go.via (fun _ => XS.iinc X40.here hx rfl (hb hby d3_47) rfl (l' := #[.val (.ref a), .val (.ref d), .val (.ref f), .val (.long ((0 : Int64) + (f0.toInt64))), .second, .val (.ref f), .val (.int (2 : Int32)), .val (.int (1 : Int32)), .val (.int f0)]) rfl) ?_
  show Go p e below (T40.setTop (mkF m 50 #[.val (.ref a), .val (.ref d), .val (.ref f), .val (.long ((0 : Int64) + (f0.toInt64))), .second, .val (.ref f), .val (.int (2 : Int32)), .val (.int (1 : Int32)), .val (.int f0)] [])) _
  refine Go.via (fun _ => XS.goto X40.here hx rfl (pc0 := 50) (pc' := 27) rfl (hb hby d3_50) (by decide) (by decide)) ?_
  refine Go.via (fun _ => XS.iload X40.here hx rfl (hb hby d3_27) rfl) ?_
  refine Go.via (fun _ => XS.iload X40.here hx rfl (hb hby d3_29) rfl) ?_
  refine Go.via (fun _ => XS.icmpNo X40.here hx rfl (hb hby d3_31) rfl (tlt ((by decide) : (1 : Int32) < (2 : Int32))).2.1) ?_
  show Go p e below (T40.setTop (mkF m 34 #[.val (.ref a), .val (.ref d), .val (.ref f), .val (.long ((0 : Int64) + (f0.toInt64))), .second, .val (.ref f), .val (.int (2 : Int32)), .val (.int (1 : Int32)), .val (.int f0)] [])) _
  refine Go.via (fun _ => XS.aload X40.here hx rfl (hb hby d3_34) rfl rfl) ?_
  refine Go.via (fun _ => XS.iload X40.here hx rfl (hb hby d3_36) rfl) ?_
  refine Go.via (ldI X40 hx hZ e40 f42 (v := f1) (by decide) rfl (g := (mkF m 38 #[.val (.ref a), .val (.ref d), .val (.ref f), .val (.long ((0 : Int64) + (f0.toInt64))), .second, .val (.ref f), .val (.int (2 : Int32)), .val (.int (1 : Int32)), .val (.int f0)] [(.int (1 : Int32)), (.ref f)])) rfl rfl (hb hby d3_38)) ?_
  show Go p e below (T40.setTop (mkF m 39 #[.val (.ref a), .val (.ref d), .val (.ref f), .val (.long ((0 : Int64) + (f0.toInt64))), .second, .val (.ref f), .val (.int (2 : Int32)), .val (.int (1 : Int32)), .val (.int f0)] [(.int f1)])) _
  refine Go.via (fun _ => XS.istore X40.here hx rfl (hb hby d3_39) rfl (l' := #[.val (.ref a), .val (.ref d), .val (.ref f), .val (.long ((0 : Int64) + (f0.toInt64))), .second, .val (.ref f), .val (.int (2 : Int32)), .val (.int (1 : Int32)), .val (.int f1)]) rfl) ?_
  show Go p e below (T40.setTop (mkF m 41 #[.val (.ref a), .val (.ref d), .val (.ref f), .val (.long ((0 : Int64) + (f0.toInt64))), .second, .val (.ref f), .val (.int (2 : Int32)), .val (.int (1 : Int32)), .val (.int f1)] [])) _
  refine Go.via (fun _ => XS.lloadN X40.here hx rfl (hb hby d3_41) rfl) ?_
  refine Go.via (fun _ => XS.iload X40.here hx rfl (hb hby d3_42) rfl) ?_
  refine Go.via (fun _ => XS.i2l X40.here hx rfl (hb hby d3_44) rfl) ?_
  show Go p e below (T40.setTop (mkF m 45 #[.val (.ref a), .val (.ref d), .val (.ref f), .val (.long ((0 : Int64) + (f0.toInt64))), .second, .val (.ref f), .val (.int (2 : Int32)), .val (.int (1 : Int32)), .val (.int f1)] [(.long (f1.toInt64)), (.long ((0 : Int64) + (f0.toInt64)))])) _
  refine Go.via (fun _ => XS.ladd X40.here hx rfl (hb hby d3_45) rfl) ?_
  show Go p e below (T40.setTop (mkF m 46 #[.val (.ref a), .val (.ref d), .val (.ref f), .val (.long ((0 : Int64) + (f0.toInt64))), .second, .val (.ref f), .val (.int (2 : Int32)), .val (.int (1 : Int32)), .val (.int f1)] [(.long (((0 : Int64) + (f0.toInt64)) + (f1.toInt64)))])) _
  refine Go.via (fun _ => XS.lstoreN X40.here hx rfl (hb hby d3_46) rfl (l' := #[.val (.ref a), .val (.ref d), .val (.ref f), .val (.long (((0 : Int64) + (f0.toInt64)) + (f1.toInt64))), .second, .val (.ref f), .val (.int (2 : Int32)), .val (.int (1 : Int32)), .val (.int f1)]) rfl) ?_
  show Go p e below (T40.setTop (mkF m 47 #[.val (.ref a), .val (.ref d), .val (.ref f), .val (.long (((0 : Int64) + (f0.toInt64)) + (f1.toInt64))), .second, .val (.ref f), .val (.int (2 : Int32)), .val (.int (1 : Int32)), .val (.int f1)] [])) _
  refine Go.via (fun _ => XS.iinc X40.here hx rfl (hb hby d3_47) rfl (l' := #[.val (.ref a), .val (.ref d), .val (.ref f), .val (.long (((0 : Int64) + (f0.toInt64)) + (f1.toInt64))), .second, .val (.ref f), .val (.int (2 : Int32)), .val (.int (2 : Int32)), .val (.int f1)]) rfl) ?_
  show Go p e below (T40.setTop (mkF m 50 #[.val (.ref a), .val (.ref d), .val (.ref f), .val (.long (((0 : Int64) + (f0.toInt64)) + (f1.toInt64))), .second, .val (.ref f), .val (.int (2 : Int32)), .val (.int (2 : Int32)), .val (.int f1)] [])) _
  refine Go.via (fun _ => XS.goto X40.here hx rfl (pc0 := 50) (pc' := 27) rfl (hb hby d3_50) (by decide) (by decide)) ?_
  refine Go.via (fun _ => XS.iload X40.here hx rfl (hb hby d3_27) rfl) ?_
  refine Go.via (fun _ => XS.iload X40.here hx rfl (hb hby d3_29) rfl) ?_
  refine Go.via (fun _ => XS.icmpYes X40.here hx rfl (pc0 := 31) (pc' := 53) rfl (hb hby d3_31) rfl (flt ((by decide) : ¬ ((2 : Int32) < (2 : Int32)))).2.1 (by decide) (by decide)) ?_
  show Go p e below (T40.setTop (mkF m 53 #[.val (.ref a), .val (.ref d), .val (.ref f), .val (.long (((0 : Int64) + (f0.toInt64)) + (f1.toInt64))), .second, .val (.ref f), .val (.int (2 : Int32)), .val (.int (2 : Int32)), .val (.int f1)] [])) _
  refine Go.via (fun _ => XS.aloadN X40.here hx rfl (hb hby d3_53) rfl rfl) ?_
  refine Go.via (fun _ => XS.lloadN X40.here hx rfl (hb hby d3_54) rfl) ?_
  have f43 : Fld Z h40 a "com/example/libcosearch/libcosearch/PostingList" "collectionFrequency" "J" (.long (0 : Int64)) := ((P3.other W36 (Or.inr (slot_ne (Or.inr (tw hw 23 rfl)) (Or.inr (tw hw 19 rfl)) (by decide) (t := .long) (t' := (.array .int)) (by decide) (by decide)))).other W40 (Or.inr (slot_ne (Or.inr (tw hw 23 rfl)) (Or.inr (tw hw 21 rfl)) (by decide) (t := .long) (t' := (.array .int)) (by decide) (by decide))))
  have f44 : Exa Z h40 a "com/example/libcosearch/libcosearch/PostingList" := (f39.wr W40)
  obtain ⟨T45, h45, X45, e45, W45, st45⟩ := putF X40 hx hZ hown (host := "") (Or.inl (tw hw 22 rfl)) Via.refl e40 f43 f44 (Or.inr ⟨(tw hw 23 rfl), rfl, hnm⟩) (tw hw 10 rfl) (ty := .long) (by decide) rfl rfl (g := (mkF m 55 #[.val (.ref a), .val (.ref d), .val (.ref f), .val (.long (((0 : Int64) + (f0.toInt64)) + (f1.toInt64))), .second, .val (.ref f), .val (.int (2 : Int32)), .val (.int (2 : Int32)), .val (.int f1)] [(.long (((0 : Int64) + (f0.toInt64)) + (f1.toInt64))), (.ref a)])) rfl rfl (hb hby d3_55)
  refine Go.via (st45) ?_
  have N45 := Fr.snoc X45 N40 g_a
  have f46 : Fld Z h45 a "com/example/libcosearch/libcosearch/PostingList" "collectionFrequency" "J" (.long (((0 : Int64) + (f0.toInt64)) + (f1.toInt64))) := f43.same W45
  show Go p e below (T45.setTop (mkF m 58 #[.val (.ref a), .val (.ref d), .val (.ref f), .val (.long (((0 : Int64) + (f0.toInt64)) + (f1.toInt64))), .second, .val (.ref f), .val (.int (2 : Int32)), .val (.int (2 : Int32)), .val (.int f1)] [])) _
  have k47 : Keep h0 h45 [a] := ((((Keep.refl h0 [a]).wr W36 (Or.inl (List.mem_of_getElem? (i := 0) rfl))).wr W40 (Or.inl (List.mem_of_getElem? (i := 0) rfl))).wr W45 (Or.inl (List.mem_of_getElem? (i := 0) rfl)))
  have f48 : Exa Z h45 a "com/example/libcosearch/libcosearch/PostingList" := (f44.wr W45)
  have f49 : Fld Z h45 a "com/example/libcosearch/libcosearch/PostingList" "documents" "[I" (.ref d) := ((f37.other W40 (Or.inr (slot_ne (Or.inr (tw hw 19 rfl)) (Or.inr (tw hw 21 rfl)) (by decide) (t := (.array .int)) (t' := (.array .int)) (by decide) (by decide)))).other W45 (Or.inr (slot_ne (Or.inr (tw hw 19 rfl)) (Or.inr (tw hw 23 rfl)) (by decide) (t := (.array .int)) (t' := .long) (by decide) (by decide))))
  have f50 : Fld Z h45 a "com/example/libcosearch/libcosearch/PostingList" "frequencies" "[I" (.ref f) := (f41.other W45 (Or.inr (slot_ne (Or.inr (tw hw 21 rfl)) (Or.inr (tw hw 23 rfl)) (by decide) (t := (.array .int)) (t' := .long) (by decide) (by decide))))
  exact Go.fin X45 hlk (v := none) (fun _ => rfl) (fun fs hr => X45.returnOut hx Bd.returns (hb hby d3_58) hr) (by rw [e45]; exact ⟨rfl, N45, k47, f48, f49, f50⟩) (by decide) (by decide)
def Q_rmI3 (Z : State) (a : Addr) (d : Addr) (f : Addr) (f0 : Int32) (f1 : Int32) (f2 : Int32) (h0 : Heap) (n0 : Nat) (vQ : Option Value) (hQ : Heap) (LQ : List Loc) : Prop := vQ = none ∧ Fr n0 LQ ∧ Keep h0 hQ [a] ∧ Exa Z hQ a "com/example/libcosearch/libcosearch/PostingList" ∧ Fld Z hQ a "com/example/libcosearch/libcosearch/PostingList" "documents" "[I" (.ref d) ∧ Fld Z hQ a "com/example/libcosearch/libcosearch/PostingList" "frequencies" "[I" (.ref f)
set_option maxRecDepth 65536 in
set_option maxHeartbeats 40000000 in
theorem rmI3 (l : Launch) (Z : State) (a0 : Array Value) (hw : ∀ d ∈ tables_1, d.before a0 Z = true) (ws : List Jvm.Cond) (a : Addr) (d : Addr) (f : Addr) (f0 : Int32) (f1 : Int32) (f2 : Int32) (h0 : Heap) (n0 : Nat) (Z0 : n0 ≤ h0.size) (P0 : Exa Z h0 a "com/example/libcosearch/libcosearch/PostingList") (P1 : Fld Z h0 a "com/example/libcosearch/libcosearch/PostingList" "documents" "[I" .null) (P2 : Fld Z h0 a "com/example/libcosearch/libcosearch/PostingList" "frequencies" "[I" .null) (P3 : Fld Z h0 a "com/example/libcosearch/libcosearch/PostingList" "collectionFrequency" "J" (.long (0 : Int64))) (P4 : Ia Z h0 f .int [f0, f1, f2]) (g_a : n0 ≤ a) (haf : a ≠ f) :
    MetFree l (⟨"com/example/libcosearch/libcosearch/PostingList", "<init>", "([I[I)V"⟩ : MethodName) (head1 (Jvm.Cond.code (⟨"com/example/libcosearch/libcosearch/PostingList", "<init>", "([I[I)V"⟩ : MethodName) prog_22_method_1_code 9 none :: ws) ({ frames := 1, cells := 0, slots := 0, locals := 12 } : Room)) (fun aQ UQ => aQ = #[(.ref a), (.ref d), (.ref f)] ∧ Z.Warmed39 UQ.vm ∧ UQ.heap = h0) (fun _ _ _ _ _ => True) (fun _ UQ oQ UR => ∃ vQ LQ, oQ = .returned vQ ∧ Q_rmI3 Z a d f f0 f1 f2 h0 n0 vQ UR.heap LQ ∧ FrameEnd UQ oQ UR LQ ({ frames := 1, cells := 0, slots := 0, locals := 12 } : Room).cells ({ frames := 1, cells := 0, slots := 0, locals := 12 } : Room).slots) := by
  refine MetFree.of_bodySF (plainFor_of_name pn_3) hisR ?_
  intro p e s m args below meth c s₁ Bd hml0 hP hK
  obtain ⟨rfl, hZ, hh⟩ := hP
  have hx := Bd.exec
  have hby := Bd.bytes
  have hlk := Bd.notSynchronized
  have hml : c.maxLocals = 9 := hml0
  have hown : s.vm.findClass "com/example/libcosearch/libcosearch/PostingList" = some m.cls := findClass_of_methodNamed Bd.named
  have hnm := (name_of_methodNamed Bd.named Bd.method).1
  have X0 : Stand p l e ({ frames := 1, cells := 0, slots := 0, locals := 12 } : Room) s m #[(.ref a), (.ref d), (.ref f)] below meth c s₁ [] 0 0 := Stand.of_body Bd
  have e0 : s₁.heap = h0 := by rw [← hh, Bd.state]; rfl
  have N0 := Fr.nil n0
  show Go p e below _ (Done s (Q_rmI3 Z a d f f0 f1 f2 h0 n0) ({ frames := 1, cells := 0, slots := 0, locals := 12 } : Room).cells ({ frames := 1, cells := 0, slots := 0, locals := 12 } : Room).slots)
  refine Go.via (fun tQ kQ => castTop (ef_3 m a d f) kQ) ?_
  show Go p e below (s₁.setTop (mkF m 0 #[.val (.ref a), .val (.ref d), .val (.ref f), .unset, .unset, .unset, .unset, .unset, .unset] [])) _
  refine Go.via (fun _ => XS.aloadN X0.here hx rfl (hb hby d3_0) rfl rfl) ?_
  obtain ⟨T51, X51, e51, st51⟩ := initO X0 hx hZ hown (tw hw 15 rfl) (tw hw 16 rfl) (tw hw 17 rfl) e0 (g := (mkF m 1 #[.val (.ref a), .val (.ref d), .val (.ref f), .unset, .unset, .unset, .unset, .unset, .unset] [(.ref a)])) rfl (by rw [hml]; rfl) rfl (hb hby d3_1) (by decide) (W := 0) (by show 2 * 0 + _ ≤ _; exact Nat.le_of_eq rfl) (by decide)
  refine Go.via (st51) ?_
  show Go p e below (T51.setTop (mkF m 4 #[.val (.ref a), .val (.ref d), .val (.ref f), .unset, .unset, .unset, .unset, .unset, .unset] [])) _
  refine Go.via (fun _ => XS.aloadN X51.here hx rfl (hb hby d3_4) rfl rfl) ?_
  refine Go.via (fun _ => XS.aloadN X51.here hx rfl (hb hby d3_5) rfl rfl) ?_
  obtain ⟨T52, h52, X52, e52, W52, st52⟩ := putF X51 hx hZ hown (host := "") (Or.inl (tw hw 18 rfl)) Via.refl e51 P1 P0 (Or.inr ⟨(tw hw 19 rfl), rfl, hnm⟩) (tw hw 10 rfl) (ty := (.array .int)) (by decide) rfl rfl (g := (mkF m 6 #[.val (.ref a), .val (.ref d), .val (.ref f), .unset, .unset, .unset, .unset, .unset, .unset] [(.ref d), (.ref a)])) rfl rfl (hb hby d3_6)
  refine Go.via (st52) ?_
  have N52 := Fr.snoc X52 N0 g_a
  have f53 : Fld Z h52 a "com/example/libcosearch/libcosearch/PostingList" "documents" "[I" (.ref d) := P1.same W52
  show Go p e below (T52.setTop (mkF m 9 #[.val (.ref a), .val (.ref d), .val (.ref f), .unset, .unset, .unset, .unset, .unset, .unset] [])) _
  refine Go.via (fun _ => XS.aloadN X52.here hx rfl (hb hby d3_9) rfl rfl) ?_
  refine Go.via (fun _ => XS.aloadN X52.here hx rfl (hb hby d3_10) rfl rfl) ?_
  have f54 : Fld Z h52 a "com/example/libcosearch/libcosearch/PostingList" "frequencies" "[I" .null := (P2.other W52 (Or.inr (slot_ne (Or.inr (tw hw 21 rfl)) (Or.inr (tw hw 19 rfl)) (by decide) (t := (.array .int)) (t' := (.array .int)) (by decide) (by decide))))
  have f55 : Exa Z h52 a "com/example/libcosearch/libcosearch/PostingList" := (P0.wr W52)
  obtain ⟨T56, h56, X56, e56, W56, st56⟩ := putF X52 hx hZ hown (host := "") (Or.inl (tw hw 20 rfl)) Via.refl e52 f54 f55 (Or.inr ⟨(tw hw 21 rfl), rfl, hnm⟩) (tw hw 10 rfl) (ty := (.array .int)) (by decide) rfl rfl (g := (mkF m 11 #[.val (.ref a), .val (.ref d), .val (.ref f), .unset, .unset, .unset, .unset, .unset, .unset] [(.ref f), (.ref a)])) rfl rfl (hb hby d3_11)
  refine Go.via (st56) ?_
  have N56 := Fr.snoc X56 N52 g_a
  have f57 : Fld Z h56 a "com/example/libcosearch/libcosearch/PostingList" "frequencies" "[I" (.ref f) := f54.same W56
  show Go p e below (T56.setTop (mkF m 14 #[.val (.ref a), .val (.ref d), .val (.ref f), .unset, .unset, .unset, .unset, .unset, .unset] [])) _
  refine Go.via (fun _ => XS.lconst X56.here hx rfl (hb hby d3_14)) ?_
  refine Go.via (fun _ => XS.lstoreN X56.here hx rfl (hb hby d3_15) rfl (l' := #[.val (.ref a), .val (.ref d), .val (.ref f), .val (.long (0 : Int64)), .second, .unset, .unset, .unset, .unset]) rfl) ?_
  show Go p e below (T56.setTop (mkF m 16 #[.val (.ref a), .val (.ref d), .val (.ref f), .val (.long (0 : Int64)), .second, .unset, .unset, .unset, .unset] [])) _
  refine Go.via (fun _ => XS.aloadN X56.here hx rfl (hb hby d3_16) rfl rfl) ?_
  refine Go.via (fun _ => XS.astore X56.here hx rfl (hb hby d3_17) rfl rfl (l' := #[.val (.ref a), .val (.ref d), .val (.ref f), .val (.long (0 : Int64)), .second, .val (.ref f), .unset, .unset, .unset]) rfl) ?_
  show Go p e below (T56.setTop (mkF m 19 #[.val (.ref a), .val (.ref d), .val (.ref f), .val (.long (0 : Int64)), .second, .val (.ref f), .unset, .unset, .unset] [])) _
  refine Go.via (fun _ => XS.aload X56.here hx rfl (hb hby d3_19) rfl rfl) ?_
  have f58 : Ia Z h56 f .int [f0, f1, f2] := ((P4.other W52 (Ne.symm haf)).other W56 (Ne.symm haf))
  refine Go.via (lenI X56 hx hZ e56 f58 (n := (3 : Int32)) rfl (g := (mkF m 21 #[.val (.ref a), .val (.ref d), .val (.ref f), .val (.long (0 : Int64)), .second, .val (.ref f), .unset, .unset, .unset] [(.ref f)])) rfl rfl (hb hby d3_21)) ?_
  show Go p e below (T56.setTop (mkF m 22 #[.val (.ref a), .val (.ref d), .val (.ref f), .val (.long (0 : Int64)), .second, .val (.ref f), .unset, .unset, .unset] [(.int (3 : Int32))])) _
  refine Go.via (fun _ => XS.istore X56.here hx rfl (hb hby d3_22) rfl (l' := #[.val (.ref a), .val (.ref d), .val (.ref f), .val (.long (0 : Int64)), .second, .val (.ref f), .val (.int (3 : Int32)), .unset, .unset]) rfl) ?_
  show Go p e below (T56.setTop (mkF m 24 #[.val (.ref a), .val (.ref d), .val (.ref f), .val (.long (0 : Int64)), .second, .val (.ref f), .val (.int (3 : Int32)), .unset, .unset] [])) _
  refine Go.via (fun _ => XS.iconst X56.here hx rfl (hb hby d3_24)) ?_
  refine Go.via (fun _ => XS.istore X56.here hx rfl (hb hby d3_25) rfl (l' := #[.val (.ref a), .val (.ref d), .val (.ref f), .val (.long (0 : Int64)), .second, .val (.ref f), .val (.int (3 : Int32)), .val (.int (0 : Int32)), .unset]) rfl) ?_
  show Go p e below (T56.setTop (mkF m 27 #[.val (.ref a), .val (.ref d), .val (.ref f), .val (.long (0 : Int64)), .second, .val (.ref f), .val (.int (3 : Int32)), .val (.int (0 : Int32)), .unset] [])) _
  refine Go.via (fun _ => XS.iload X56.here hx rfl (hb hby d3_27) rfl) ?_
  refine Go.via (fun _ => XS.iload X56.here hx rfl (hb hby d3_29) rfl) ?_
  refine Go.via (fun _ => XS.icmpNo X56.here hx rfl (hb hby d3_31) rfl (tlt ((by decide) : (0 : Int32) < (3 : Int32))).2.1) ?_
  show Go p e below (T56.setTop (mkF m 34 #[.val (.ref a), .val (.ref d), .val (.ref f), .val (.long (0 : Int64)), .second, .val (.ref f), .val (.int (3 : Int32)), .val (.int (0 : Int32)), .unset] [])) _
  refine Go.via (fun _ => XS.aload X56.here hx rfl (hb hby d3_34) rfl rfl) ?_
  refine Go.via (fun _ => XS.iload X56.here hx rfl (hb hby d3_36) rfl) ?_
  refine Go.via (ldI X56 hx hZ e56 f58 (v := f0) (by decide) rfl (g := (mkF m 38 #[.val (.ref a), .val (.ref d), .val (.ref f), .val (.long (0 : Int64)), .second, .val (.ref f), .val (.int (3 : Int32)), .val (.int (0 : Int32)), .unset] [(.int (0 : Int32)), (.ref f)])) rfl rfl (hb hby d3_38)) ?_
  show Go p e below (T56.setTop (mkF m 39 #[.val (.ref a), .val (.ref d), .val (.ref f), .val (.long (0 : Int64)), .second, .val (.ref f), .val (.int (3 : Int32)), .val (.int (0 : Int32)), .unset] [(.int f0)])) _
  refine Go.via (fun _ => XS.istore X56.here hx rfl (hb hby d3_39) rfl (l' := #[.val (.ref a), .val (.ref d), .val (.ref f), .val (.long (0 : Int64)), .second, .val (.ref f), .val (.int (3 : Int32)), .val (.int (0 : Int32)), .val (.int f0)]) rfl) ?_
  show Go p e below (T56.setTop (mkF m 41 #[.val (.ref a), .val (.ref d), .val (.ref f), .val (.long (0 : Int64)), .second, .val (.ref f), .val (.int (3 : Int32)), .val (.int (0 : Int32)), .val (.int f0)] [])) _
  refine Go.via (fun _ => XS.lloadN X56.here hx rfl (hb hby d3_41) rfl) ?_
  refine Go.via (fun _ => XS.iload X56.here hx rfl (hb hby d3_42) rfl) ?_
  refine Go.via (fun _ => XS.i2l X56.here hx rfl (hb hby d3_44) rfl) ?_
  show Go p e below (T56.setTop (mkF m 45 #[.val (.ref a), .val (.ref d), .val (.ref f), .val (.long (0 : Int64)), .second, .val (.ref f), .val (.int (3 : Int32)), .val (.int (0 : Int32)), .val (.int f0)] [(.long (f0.toInt64)), (.long (0 : Int64))])) _
  refine Go.via (fun _ => XS.ladd X56.here hx rfl (hb hby d3_45) rfl) ?_
  show Go p e below (T56.setTop (mkF m 46 #[.val (.ref a), .val (.ref d), .val (.ref f), .val (.long (0 : Int64)), .second, .val (.ref f), .val (.int (3 : Int32)), .val (.int (0 : Int32)), .val (.int f0)] [(.long ((0 : Int64) + (f0.toInt64)))])) _
  refine Go.via (fun _ => XS.lstoreN X56.here hx rfl (hb hby d3_46) rfl (l' := #[.val (.ref a), .val (.ref d), .val (.ref f), .val (.long ((0 : Int64) + (f0.toInt64))), .second, .val (.ref f), .val (.int (3 : Int32)), .val (.int (0 : Int32)), .val (.int f0)]) rfl) ?_
  show Go p e below (T56.setTop (mkF m 47 #[.val (.ref a), .val (.ref d), .val (.ref f), .val (.long ((0 : Int64) + (f0.toInt64))), .second, .val (.ref f), .val (.int (3 : Int32)), .val (.int (0 : Int32)), .val (.int f0)] [])) _
  refine Go.via (fun _ => XS.iinc X56.here hx rfl (hb hby d3_47) rfl (l' := #[.val (.ref a), .val (.ref d), .val (.ref f), .val (.long ((0 : Int64) + (f0.toInt64))), .second, .val (.ref f), .val (.int (3 : Int32)), .val (.int (1 : Int32)), .val (.int f0)]) rfl) ?_
  show Go p e below (T56.setTop (mkF m 50 #[.val (.ref a), .val (.ref d), .val (.ref f), .val (.long ((0 : Int64) + (f0.toInt64))), .second, .val (.ref f), .val (.int (3 : Int32)), .val (.int (1 : Int32)), .val (.int f0)] [])) _
  refine Go.via (fun _ => XS.goto X56.here hx rfl (pc0 := 50) (pc' := 27) rfl (hb hby d3_50) (by decide) (by decide)) ?_
  refine Go.via (fun _ => XS.iload X56.here hx rfl (hb hby d3_27) rfl) ?_
  refine Go.via (fun _ => XS.iload X56.here hx rfl (hb hby d3_29) rfl) ?_
  refine Go.via (fun _ => XS.icmpNo X56.here hx rfl (hb hby d3_31) rfl (tlt ((by decide) : (1 : Int32) < (3 : Int32))).2.1) ?_
  show Go p e below (T56.setTop (mkF m 34 #[.val (.ref a), .val (.ref d), .val (.ref f), .val (.long ((0 : Int64) + (f0.toInt64))), .second, .val (.ref f), .val (.int (3 : Int32)), .val (.int (1 : Int32)), .val (.int f0)] [])) _
  refine Go.via (fun _ => XS.aload X56.here hx rfl (hb hby d3_34) rfl rfl) ?_
  refine Go.via (fun _ => XS.iload X56.here hx rfl (hb hby d3_36) rfl) ?_
  refine Go.via (ldI X56 hx hZ e56 f58 (v := f1) (by decide) rfl (g := (mkF m 38 #[.val (.ref a), .val (.ref d), .val (.ref f), .val (.long ((0 : Int64) + (f0.toInt64))), .second, .val (.ref f), .val (.int (3 : Int32)), .val (.int (1 : Int32)), .val (.int f0)] [(.int (1 : Int32)), (.ref f)])) rfl rfl (hb hby d3_38)) ?_
  show Go p e below (T56.setTop (mkF m 39 #[.val (.ref a), .val (.ref d), .val (.ref f), .val (.long ((0 : Int64) + (f0.toInt64))), .second, .val (.ref f), .val (.int (3 : Int32)), .val (.int (1 : Int32)), .val (.int f0)] [(.int f1)])) _
  refine Go.via (fun _ => XS.istore X56.here hx rfl (hb hby d3_39) rfl (l' := #[.val (.ref a), .val (.ref d), .val (.ref f), .val (.long ((0 : Int64) + (f0.toInt64))), .second, .val (.ref f), .val (.int (3 : Int32)), .val (.int (1 : Int32)), .val (.int f1)]) rfl) ?_
  show Go p e below (T56.setTop (mkF m 41 #[.val (.ref a), .val (.ref d), .val (.ref f), .val (.long ((0 : Int64) + (f0.toInt64))), .second, .val (.ref f), .val (.int (3 : Int32)), .val (.int (1 : Int32)), .val (.int f1)] [])) _
  refine Go.via (fun _ => XS.lloadN X56.here hx rfl (hb hby d3_41) rfl) ?_
  refine Go.via (fun _ => XS.iload X56.here hx rfl (hb hby d3_42) rfl) ?_
  refine Go.via (fun _ => XS.i2l X56.here hx rfl (hb hby d3_44) rfl) ?_
  show Go p e below (T56.setTop (mkF m 45 #[.val (.ref a), .val (.ref d), .val (.ref f), .val (.long ((0 : Int64) + (f0.toInt64))), .second, .val (.ref f), .val (.int (3 : Int32)), .val (.int (1 : Int32)), .val (.int f1)] [(.long (f1.toInt64)), (.long ((0 : Int64) + (f0.toInt64)))])) _
  refine Go.via (fun _ => XS.ladd X56.here hx rfl (hb hby d3_45) rfl) ?_
  show Go p e below (T56.setTop (mkF m 46 #[.val (.ref a), .val (.ref d), .val (.ref f), .val (.long ((0 : Int64) + (f0.toInt64))), .second, .val (.ref f), .val (.int (3 : Int32)), .val (.int (1 : Int32)), .val (.int f1)] [(.long (((0 : Int64) + (f0.toInt64)) + (f1.toInt64)))])) _
  refine Go.via (fun _ => XS.lstoreN X56.here hx rfl (hb hby d3_46) rfl (l' := #[.val (.ref a), .val (.ref d), .val (.ref f), .val (.long (((0 : Int64) + (f0.toInt64)) + (f1.toInt64))), .second, .val (.ref f), .val (.int (3 : Int32)), .val (.int (1 : Int32)), .val (.int f1)]) rfl) ?_
  show Go p e below (T56.setTop (mkF m 47 #[.val (.ref a), .val (.ref d), .val (.ref f), .val (.long (((0 : Int64) + (f0.toInt64)) + (f1.toInt64))), .second, .val (.ref f), .val (.int (3 : Int32)), .val (.int (1 : Int32)), .val (.int f1)] [])) _
  refine Go.via (fun _ => XS.iinc X56.here hx rfl (hb hby d3_47) rfl (l' := #[.val (.ref a), .val (.ref d), .val (.ref f), .val (.long (((0 : Int64) + (f0.toInt64)) + (f1.toInt64))), .second, .val (.ref f), .val (.int (3 : Int32)), .val (.int (2 : Int32)), .val (.int f1)]) rfl) ?_
  show Go p e below (T56.setTop (mkF m 50 #[.val (.ref a), .val (.ref d), .val (.ref f), .val (.long (((0 : Int64) + (f0.toInt64)) + (f1.toInt64))), .second, .val (.ref f), .val (.int (3 : Int32)), .val (.int (2 : Int32)), .val (.int f1)] [])) _
  refine Go.via (fun _ => XS.goto X56.here hx rfl (pc0 := 50) (pc' := 27) rfl (hb hby d3_50) (by decide) (by decide)) ?_
  refine Go.via (fun _ => XS.iload X56.here hx rfl (hb hby d3_27) rfl) ?_
  refine Go.via (fun _ => XS.iload X56.here hx rfl (hb hby d3_29) rfl) ?_
  refine Go.via (fun _ => XS.icmpNo X56.here hx rfl (hb hby d3_31) rfl (tlt ((by decide) : (2 : Int32) < (3 : Int32))).2.1) ?_
  show Go p e below (T56.setTop (mkF m 34 #[.val (.ref a), .val (.ref d), .val (.ref f), .val (.long (((0 : Int64) + (f0.toInt64)) + (f1.toInt64))), .second, .val (.ref f), .val (.int (3 : Int32)), .val (.int (2 : Int32)), .val (.int f1)] [])) _
  refine Go.via (fun _ => XS.aload X56.here hx rfl (hb hby d3_34) rfl rfl) ?_
  refine Go.via (fun _ => XS.iload X56.here hx rfl (hb hby d3_36) rfl) ?_
  refine Go.via (ldI X56 hx hZ e56 f58 (v := f2) (by decide) rfl (g := (mkF m 38 #[.val (.ref a), .val (.ref d), .val (.ref f), .val (.long (((0 : Int64) + (f0.toInt64)) + (f1.toInt64))), .second, .val (.ref f), .val (.int (3 : Int32)), .val (.int (2 : Int32)), .val (.int f1)] [(.int (2 : Int32)), (.ref f)])) rfl rfl (hb hby d3_38)) ?_
  show Go p e below (T56.setTop (mkF m 39 #[.val (.ref a), .val (.ref d), .val (.ref f), .val (.long (((0 : Int64) + (f0.toInt64)) + (f1.toInt64))), .second, .val (.ref f), .val (.int (3 : Int32)), .val (.int (2 : Int32)), .val (.int f1)] [(.int f2)])) _
  refine Go.via (fun _ => XS.istore X56.here hx rfl (hb hby d3_39) rfl (l' := #[.val (.ref a), .val (.ref d), .val (.ref f), .val (.long (((0 : Int64) + (f0.toInt64)) + (f1.toInt64))), .second, .val (.ref f), .val (.int (3 : Int32)), .val (.int (2 : Int32)), .val (.int f2)]) rfl) ?_
  show Go p e below (T56.setTop (mkF m 41 #[.val (.ref a), .val (.ref d), .val (.ref f), .val (.long (((0 : Int64) + (f0.toInt64)) + (f1.toInt64))), .second, .val (.ref f), .val (.int (3 : Int32)), .val (.int (2 : Int32)), .val (.int f2)] [])) _
  refine Go.via (fun _ => XS.lloadN X56.here hx rfl (hb hby d3_41) rfl) ?_
  refine Go.via (fun _ => XS.iload X56.here hx rfl (hb hby d3_42) rfl) ?_
  refine Go.via (fun _ => XS.i2l X56.here hx rfl (hb hby d3_44) rfl) ?_
  show Go p e below (T56.setTop (mkF m 45 #[.val (.ref a), .val (.ref d), .val (.ref f), .val (.long (((0 : Int64) + (f0.toInt64)) + (f1.toInt64))), .second, .val (.ref f), .val (.int (3 : Int32)), .val (.int (2 : Int32)), .val (.int f2)] [(.long (f2.toInt64)), (.long (((0 : Int64) + (f0.toInt64)) + (f1.toInt64)))])) _
  refine Go.via (fun _ => XS.ladd X56.here hx rfl (hb hby d3_45) rfl) ?_
  show Go p e below (T56.setTop (mkF m 46 #[.val (.ref a), .val (.ref d), .val (.ref f), .val (.long (((0 : Int64) + (f0.toInt64)) + (f1.toInt64))), .second, .val (.ref f), .val (.int (3 : Int32)), .val (.int (2 : Int32)), .val (.int f2)] [(.long ((((0 : Int64) + (f0.toInt64)) + (f1.toInt64)) + (f2.toInt64)))])) _
  refine Go.via (fun _ => XS.lstoreN X56.here hx rfl (hb hby d3_46) rfl (l' := #[.val (.ref a), .val (.ref d), .val (.ref f), .val (.long ((((0 : Int64) + (f0.toInt64)) + (f1.toInt64)) + (f2.toInt64))), .second, .val (.ref f), .val (.int (3 : Int32)), .val (.int (2 : Int32)), .val (.int f2)]) rfl) ?_
  show Go p e below (T56.setTop (mkF m 47 #[.val (.ref a), .val (.ref d), .val (.ref f), .val (.long ((((0 : Int64) + (f0.toInt64)) + (f1.toInt64)) + (f2.toInt64))), .second, .val (.ref f), .val (.int (3 : Int32)), .val (.int (2 : Int32)), .val (.int f2)] [])) _
  refine Go.via (fun _ => XS.iinc X56.here hx rfl (hb hby d3_47) rfl (l' := #[.val (.ref a), .val (.ref d), .val (.ref f), .val (.long ((((0 : Int64) + (f0.toInt64)) + (f1.toInt64)) + (f2.toInt64))), .second, .val (.ref f), .val (.int (3 : Int32)), .val (.int (3 : Int32)), .val (.int f2)]) rfl) ?_
  show Go p e below (T56.setTop (mkF m 50 #[.val (.ref a), .val (.ref d), .val (.ref f), .val (.long ((((0 : Int64) + (f0.toInt64)) + (f1.toInt64)) + (f2.toInt64))), .second, .val (.ref f), .val (.int (3 : Int32)), .val (.int (3 : Int32)), .val (.int f2)] [])) _
  refine Go.via (fun _ => XS.goto X56.here hx rfl (pc0 := 50) (pc' := 27) rfl (hb hby d3_50) (by decide) (by decide)) ?_
  refine Go.via (fun _ => XS.iload X56.here hx rfl (hb hby d3_27) rfl) ?_
  refine Go.via (fun _ => XS.iload X56.here hx rfl (hb hby d3_29) rfl) ?_
  refine Go.via (fun _ => XS.icmpYes X56.here hx rfl (pc0 := 31) (pc' := 53) rfl (hb hby d3_31) rfl (flt ((by decide) : ¬ ((3 : Int32) < (3 : Int32)))).2.1 (by decide) (by decide)) ?_
  show Go p e below (T56.setTop (mkF m 53 #[.val (.ref a), .val (.ref d), .val (.ref f), .val (.long ((((0 : Int64) + (f0.toInt64)) + (f1.toInt64)) + (f2.toInt64))), .second, .val (.ref f), .val (.int (3 : Int32)), .val (.int (3 : Int32)), .val (.int f2)] [])) _
  refine Go.via (fun _ => XS.aloadN X56.here hx rfl (hb hby d3_53) rfl rfl) ?_
  refine Go.via (fun _ => XS.lloadN X56.here hx rfl (hb hby d3_54) rfl) ?_
  have f59 : Fld Z h56 a "com/example/libcosearch/libcosearch/PostingList" "collectionFrequency" "J" (.long (0 : Int64)) := ((P3.other W52 (Or.inr (slot_ne (Or.inr (tw hw 23 rfl)) (Or.inr (tw hw 19 rfl)) (by decide) (t := .long) (t' := (.array .int)) (by decide) (by decide)))).other W56 (Or.inr (slot_ne (Or.inr (tw hw 23 rfl)) (Or.inr (tw hw 21 rfl)) (by decide) (t := .long) (t' := (.array .int)) (by decide) (by decide))))
  have f60 : Exa Z h56 a "com/example/libcosearch/libcosearch/PostingList" := (f55.wr W56)
  obtain ⟨T61, h61, X61, e61, W61, st61⟩ := putF X56 hx hZ hown (host := "") (Or.inl (tw hw 22 rfl)) Via.refl e56 f59 f60 (Or.inr ⟨(tw hw 23 rfl), rfl, hnm⟩) (tw hw 10 rfl) (ty := .long) (by decide) rfl rfl (g := (mkF m 55 #[.val (.ref a), .val (.ref d), .val (.ref f), .val (.long ((((0 : Int64) + (f0.toInt64)) + (f1.toInt64)) + (f2.toInt64))), .second, .val (.ref f), .val (.int (3 : Int32)), .val (.int (3 : Int32)), .val (.int f2)] [(.long ((((0 : Int64) + (f0.toInt64)) + (f1.toInt64)) + (f2.toInt64))), (.ref a)])) rfl rfl (hb hby d3_55)
  refine Go.via (st61) ?_
  have N61 := Fr.snoc X61 N56 g_a
  have f62 : Fld Z h61 a "com/example/libcosearch/libcosearch/PostingList" "collectionFrequency" "J" (.long ((((0 : Int64) + (f0.toInt64)) + (f1.toInt64)) + (f2.toInt64))) := f59.same W61
  show Go p e below (T61.setTop (mkF m 58 #[.val (.ref a), .val (.ref d), .val (.ref f), .val (.long ((((0 : Int64) + (f0.toInt64)) + (f1.toInt64)) + (f2.toInt64))), .second, .val (.ref f), .val (.int (3 : Int32)), .val (.int (3 : Int32)), .val (.int f2)] [])) _
  have k63 : Keep h0 h61 [a] := ((((Keep.refl h0 [a]).wr W52 (Or.inl (List.mem_of_getElem? (i := 0) rfl))).wr W56 (Or.inl (List.mem_of_getElem? (i := 0) rfl))).wr W61 (Or.inl (List.mem_of_getElem? (i := 0) rfl)))
  have f64 : Exa Z h61 a "com/example/libcosearch/libcosearch/PostingList" := (f60.wr W61)
  have f65 : Fld Z h61 a "com/example/libcosearch/libcosearch/PostingList" "documents" "[I" (.ref d) := ((f53.other W56 (Or.inr (slot_ne (Or.inr (tw hw 19 rfl)) (Or.inr (tw hw 21 rfl)) (by decide) (t := (.array .int)) (t' := (.array .int)) (by decide) (by decide)))).other W61 (Or.inr (slot_ne (Or.inr (tw hw 19 rfl)) (Or.inr (tw hw 23 rfl)) (by decide) (t := (.array .int)) (t' := .long) (by decide) (by decide))))
  have f66 : Fld Z h61 a "com/example/libcosearch/libcosearch/PostingList" "frequencies" "[I" (.ref f) := (f57.other W61 (Or.inr (slot_ne (Or.inr (tw hw 21 rfl)) (Or.inr (tw hw 23 rfl)) (by decide) (t := (.array .int)) (t' := .long) (by decide) (by decide))))
  exact Go.fin X61 hlk (v := none) (fun _ => rfl) (fun fs hr => X61.returnOut hx Bd.returns (hb hby d3_58) hr) (by rw [e61]; exact ⟨rfl, N61, k63, f64, f65, f66⟩) (by decide) (by decide)
theorem d7_0 : decode jdk_65_method_59_code 0 = .ok (.iload_n 1, 1) := by decide +kernel
theorem d7_1 : decode jdk_65_method_59_code 1 = .ok (.istore 4, 2) := by decide +kernel
theorem d7_3 : decode jdk_65_method_59_code 3 = .ok (.iload_n 2, 1) := by decide +kernel
theorem d7_4 : decode jdk_65_method_59_code 4 = .ok (.iconst 1, 1) := by decide +kernel
theorem d7_5 : decode jdk_65_method_59_code 5 = .ok (.isub, 1) := by decide +kernel
theorem d7_6 : decode jdk_65_method_59_code 6 = .ok (.istore 5, 2) := by decide +kernel
theorem d7_8 : decode jdk_65_method_59_code 8 = .ok (.iload 4, 2) := by decide +kernel
theorem d7_10 : decode jdk_65_method_59_code 10 = .ok (.iload 5, 2) := by decide +kernel
theorem d7_12 : decode jdk_65_method_59_code 12 = .ok (.if_icmp .gt 54, 3) := by decide +kernel
theorem d7_66 : decode jdk_65_method_59_code 66 = .ok (.iload 4, 2) := by decide +kernel
theorem d7_68 : decode jdk_65_method_59_code 68 = .ok (.iconst 1, 1) := by decide +kernel
theorem d7_69 : decode jdk_65_method_59_code 69 = .ok (.iadd, 1) := by decide +kernel
theorem d7_70 : decode jdk_65_method_59_code 70 = .ok (.ineg, 1) := by decide +kernel
theorem d7_71 : decode jdk_65_method_59_code 71 = .ok (.ireturn, 1) := by decide +kernel
theorem pn_7 : plainName "java/util/Arrays" = true := by first | (simp [plainName, overriddenIn]; done) | decide +kernel
theorem ef_7 (m : MethodId) (x0 : Addr) (x1 : Int32) (x2 : Int32) (x3 : Int32) : entryFrame m #[(.ref x0), (.int x1), (.int x2), (.int x3)] 8 = mkF m 0 #[.val (.ref x0), .val (.int x1), .val (.int x2), .val (.int x3), .unset, .unset, .unset, .unset] [] := by first | (simp [entryFrame, mkF, argsToLocals, Value.category]; done) | rfl
def Q_rmS0 (Z : State) (b : Addr) (lo : Int32) (hi : Int32) (key : Int32)  (h0 : Heap) (n0 : Nat) (vQ : Option Value) (hQ : Heap) (LQ : List Loc) : Prop := ∃ r : Int32, vQ = some (.int r) ∧ Fr n0 LQ ∧ hQ = h0 ∧ ((r < 0))
set_option maxRecDepth 65536 in
set_option maxHeartbeats 40000000 in
theorem rmS0 (l : Launch) (Z : State) (a0 : Array Value) (hw : ∀ d ∈ tables_1, d.before a0 Z = true) (ws : List Jvm.Cond) (b : Addr) (lo : Int32) (hi : Int32) (key : Int32)  (h0 : Heap) (n0 : Nat) (Z0 : n0 ≤ h0.size) (P0 : Ia Z h0 b .int []) (hlo : lo = 0) (hhi : hi = 0) :
    MetFree l (⟨"java/util/Arrays", "binarySearch0", "([IIII)I"⟩ : MethodName) (head1 (Jvm.Cond.code (⟨"java/util/Arrays", "binarySearch0", "([IIII)I"⟩ : MethodName) jdk_65_method_59_code 8 (some .int) :: ws) ({ frames := 0, cells := 0, slots := 0, locals := 0 } : Room)) (fun aQ UQ => aQ = #[(.ref b), (.int lo), (.int hi), (.int key)] ∧ Z.Warmed39 UQ.vm ∧ UQ.heap = h0) (fun _ _ _ _ _ => True) (fun _ UQ oQ UR => ∃ vQ LQ, oQ = .returned vQ ∧ Q_rmS0 Z b lo hi key  h0 n0 vQ UR.heap LQ ∧ FrameEnd UQ oQ UR LQ ({ frames := 0, cells := 0, slots := 0, locals := 0 } : Room).cells ({ frames := 0, cells := 0, slots := 0, locals := 0 } : Room).slots) := by
  refine MetFree.of_bodySF (plainFor_of_name pn_7) hisR ?_
  intro p e s m args below meth c s₁ Bd hml0 hP hK
  obtain ⟨rfl, hZ, hh⟩ := hP
  have hx := Bd.exec
  have hby := Bd.bytes
  have hlk := Bd.notSynchronized
  have hml : c.maxLocals = 8 := hml0
  have hown : s.vm.findClass "java/util/Arrays" = some m.cls := findClass_of_methodNamed Bd.named
  have hnm := (name_of_methodNamed Bd.named Bd.method).1
  have X0 : Stand p l e ({ frames := 0, cells := 0, slots := 0, locals := 0 } : Room) s m #[(.ref b), (.int lo), (.int hi), (.int key)] below meth c s₁ [] 0 0 := Stand.of_body Bd
  have e0 : s₁.heap = h0 := by rw [← hh, Bd.state]; rfl
  have N0 := Fr.nil n0
  show Go p e below _ (Done s (Q_rmS0 Z b lo hi key  h0 n0) ({ frames := 0, cells := 0, slots := 0, locals := 0 } : Room).cells ({ frames := 0, cells := 0, slots := 0, locals := 0 } : Room).slots)
  refine Go.via (fun tQ kQ => castTop (ef_7 m b lo hi key) kQ) ?_
  show Go p e below (s₁.setTop (mkF m 0 #[.val (.ref b), .val (.int lo), .val (.int hi), .val (.int key), .unset, .unset, .unset, .unset] [])) _
  · subst hlo hhi
    show Go p e below (s₁.setTop (mkF m 0 #[.val (.ref b), .val (.int (0 : Int32)), .val (.int (0 : Int32)), .val (.int key), .unset, .unset, .unset, .unset] [])) _
    refine Go.via (fun _ => XS.iloadN X0.here hx rfl (hb hby d7_0) rfl) ?_
    refine Go.via (fun _ => XS.istore X0.here hx rfl (hb hby d7_1) rfl (l' := #[.val (.ref b), .val (.int (0 : Int32)), .val (.int (0 : Int32)), .val (.int key), .val (.int (0 : Int32)), .unset, .unset, .unset]) rfl) ?_
    show Go p e below (s₁.setTop (mkF m 3 #[.val (.ref b), .val (.int (0 : Int32)), .val (.int (0 : Int32)), .val (.int key), .val (.int (0 : Int32)), .unset, .unset, .unset] [])) _
    refine Go.via (fun _ => XS.iloadN X0.here hx rfl (hb hby d7_3) rfl) ?_
    refine Go.via (fun _ => XS.iconst X0.here hx rfl (hb hby d7_4)) ?_
    refine Go.via (fun _ => XS.isub X0.here hx rfl (hb hby d7_5) rfl) ?_
    show Go p e below (s₁.setTop (mkF m 6 #[.val (.ref b), .val (.int (0 : Int32)), .val (.int (0 : Int32)), .val (.int key), .val (.int (0 : Int32)), .unset, .unset, .unset] [(.int (-1 : Int32))])) _
    refine Go.via (fun _ => XS.istore X0.here hx rfl (hb hby d7_6) rfl (l' := #[.val (.ref b), .val (.int (0 : Int32)), .val (.int (0 : Int32)), .val (.int key), .val (.int (0 : Int32)), .val (.int (-1 : Int32)), .unset, .unset]) rfl) ?_
    show Go p e below (s₁.setTop (mkF m 8 #[.val (.ref b), .val (.int (0 : Int32)), .val (.int (0 : Int32)), .val (.int key), .val (.int (0 : Int32)), .val (.int (-1 : Int32)), .unset, .unset] [])) _
    refine Go.via (fun _ => XS.iload X0.here hx rfl (hb hby d7_8) rfl) ?_
    refine Go.via (fun _ => XS.iload X0.here hx rfl (hb hby d7_10) rfl) ?_
    refine Go.via (fun _ => XS.icmpYes X0.here hx rfl (pc0 := 12) (pc' := 66) rfl (hb hby d7_12) rfl (tlt ((by decide) : (-1 : Int32) < (0 : Int32))).2.2.1 (by decide) (by decide)) ?_
    show Go p e below (s₁.setTop (mkF m 66 #[.val (.ref b), .val (.int (0 : Int32)), .val (.int (0 : Int32)), .val (.int key), .val (.int (0 : Int32)), .val (.int (-1 : Int32)), .unset, .unset] [])) _
    refine Go.via (fun _ => XS.iload X0.here hx rfl (hb hby d7_66) rfl) ?_
    refine Go.via (fun _ => XS.iconst X0.here hx rfl (hb hby d7_68)) ?_
    refine Go.via (fun _ => XS.iadd X0.here hx rfl (hb hby d7_69) rfl) ?_
    show Go p e below (s₁.setTop (mkF m 70 #[.val (.ref b), .val (.int (0 : Int32)), .val (.int (0 : Int32)), .val (.int key), .val (.int (0 : Int32)), .val (.int (-1 : Int32)), .unset, .unset] [(.int (1 : Int32))])) _
    refine Go.via (fun _ => XS.ineg X0.here hx rfl (hb hby d7_70) rfl) ?_
    show Go p e below (s₁.setTop (mkF m 71 #[.val (.ref b), .val (.int (0 : Int32)), .val (.int (0 : Int32)), .val (.int key), .val (.int (0 : Int32)), .val (.int (-1 : Int32)), .unset, .unset] [(.int (-1 : Int32))])) _
    exact Go.fin X0 hlk (v := some (.int (-1 : Int32))) (fun h => by rw [Bd.returns] at h; cases h) (fun fs hr => OwnKit.retI X0 hx Bd.returns (hb hby d7_71) hr) (by rw [e0]; exact ⟨(-1 : Int32), rfl, N0, rfl, (by decide)⟩) (by decide) (by decide)
theorem d6_0 : decode jdk_65_method_57_code 0 = .ok (.aload_n 0, 1) := by decide +kernel
theorem d6_1 : decode jdk_65_method_57_code 1 = .ok (.iconst 0, 1) := by decide +kernel
theorem d6_2 : decode jdk_65_method_57_code 2 = .ok (.aload_n 0, 1) := by decide +kernel
theorem d6_3 : decode jdk_65_method_57_code 3 = .ok (.arraylength, 1) := by decide +kernel
theorem d6_4 : decode jdk_65_method_57_code 4 = .ok (.iload_n 1, 1) := by decide +kernel
theorem d6_5 : decode jdk_65_method_57_code 5 = .ok (.invokestatic 209, 3) := by decide +kernel
theorem pd__28_5bIIII_29I : parseMethodDescriptor "([IIII)I" = some ⟨[(.array .int), .int, .int, .int], some .int⟩ := by decide +kernel
theorem d6_8 : decode jdk_65_method_57_code 8 = .ok (.ireturn, 1) := by decide +kernel
theorem pn_6 : plainName "java/util/Arrays" = true := by first | (simp [plainName, overriddenIn]; done) | decide +kernel
theorem ef_6 (m : MethodId) (x0 : Addr) (x1 : Int32) : entryFrame m #[(.ref x0), (.int x1)] 2 = mkF m 0 #[.val (.ref x0), .val (.int x1)] [] := by first | (simp [entryFrame, mkF, argsToLocals, Value.category]; done) | rfl
def Q_rmB0 (Z : State) (b : Addr) (key : Int32)  (h0 : Heap) (n0 : Nat) (vQ : Option Value) (hQ : Heap) (LQ : List Loc) : Prop := ∃ r : Int32, vQ = some (.int r) ∧ Fr n0 LQ ∧ hQ = h0 ∧ ((r < 0))
set_option maxRecDepth 65536 in
set_option maxHeartbeats 40000000 in
theorem rmB0 (l : Launch) (Z : State) (a0 : Array Value) (hw : ∀ d ∈ tables_1, d.before a0 Z = true) (ws : List Jvm.Cond) (b : Addr) (key : Int32)  (h0 : Heap) (n0 : Nat) (Z0 : n0 ≤ h0.size) (P0 : Ia Z h0 b .int []) :
    MetFree l (⟨"java/util/Arrays", "binarySearch", "([II)I"⟩ : MethodName) (head1 (Jvm.Cond.code (⟨"java/util/Arrays", "binarySearch", "([II)I"⟩ : MethodName) jdk_65_method_57_code 2 (some .int) :: ws) ({ frames := 1, cells := 0, slots := 0, locals := 19 } : Room)) (fun aQ UQ => aQ = #[(.ref b), (.int key)] ∧ Z.Warmed39 UQ.vm ∧ UQ.heap = h0) (fun _ _ _ _ _ => True) (fun _ UQ oQ UR => ∃ vQ LQ, oQ = .returned vQ ∧ Q_rmB0 Z b key  h0 n0 vQ UR.heap LQ ∧ FrameEnd UQ oQ UR LQ ({ frames := 1, cells := 0, slots := 0, locals := 19 } : Room).cells ({ frames := 1, cells := 0, slots := 0, locals := 19 } : Room).slots) := by
  refine MetFree.of_bodySF (plainFor_of_name pn_6) hisR ?_
  intro p e s m args below meth c s₁ Bd hml0 hP hK
  obtain ⟨rfl, hZ, hh⟩ := hP
  have hx := Bd.exec
  have hby := Bd.bytes
  have hlk := Bd.notSynchronized
  have hml : c.maxLocals = 2 := hml0
  have hown : s.vm.findClass "java/util/Arrays" = some m.cls := findClass_of_methodNamed Bd.named
  have hnm := (name_of_methodNamed Bd.named Bd.method).1
  have X0 : Stand p l e ({ frames := 1, cells := 0, slots := 0, locals := 19 } : Room) s m #[(.ref b), (.int key)] below meth c s₁ [] 0 0 := Stand.of_body Bd
  have e0 : s₁.heap = h0 := by rw [← hh, Bd.state]; rfl
  have N0 := Fr.nil n0
  show Go p e below _ (Done s (Q_rmB0 Z b key  h0 n0) ({ frames := 1, cells := 0, slots := 0, locals := 19 } : Room).cells ({ frames := 1, cells := 0, slots := 0, locals := 19 } : Room).slots)
  refine Go.via (fun tQ kQ => castTop (ef_6 m b key) kQ) ?_
  show Go p e below (s₁.setTop (mkF m 0 #[.val (.ref b), .val (.int key)] [])) _
  refine Go.via (fun _ => XS.aloadN X0.here hx rfl (hb hby d6_0) rfl rfl) ?_
  refine Go.via (fun _ => XS.iconst X0.here hx rfl (hb hby d6_1)) ?_
  refine Go.via (fun _ => XS.aloadN X0.here hx rfl (hb hby d6_2) rfl rfl) ?_
  refine Go.via (lenI X0 hx hZ e0 P0 (n := (0 : Int32)) rfl (g := (mkF m 3 #[.val (.ref b), .val (.int key)] [(.ref b), (.int (0 : Int32)), (.ref b)])) rfl rfl (hb hby d6_3)) ?_
  show Go p e below (s₁.setTop (mkF m 4 #[.val (.ref b), .val (.int key)] [(.int (0 : Int32)), (.int (0 : Int32)), (.ref b)])) _
  refine Go.via (fun _ => XS.iloadN X0.here hx rfl (hb hby d6_4) rfl) ?_
  obtain ⟨_, _, ⟨T67, L67, k67, n67⟩, -, X67, ⟨Lc67, hQ67, l67, y67, z67⟩, st67⟩ := Jvm.LawKit.callS X0 hx (y := (⟨"java/util/Arrays", "binarySearch0", "([IIII)I"⟩ : MethodName)) hown (mvT hZ (tw hw 33 rfl)) (mvT hZ (tw hw 34 rfl)) (mvT hZ (tw hw 31 rfl)) (mvT hZ (tw hw 35 rfl)) (by decide) (backOf (W := 0) (rmS0 l Z a0 hw [] b (0 : Int32) (0 : Int32) key  h0 n0 Z0 P0 rfl rfl) hZ (tw hw 35 rfl) (tw hw 31 rfl) (by decide) (by decide)) (g := (mkF m 5 #[.val (.ref b), .val (.int key)] [(.int key), (.int (0 : Int32)), (.int (0 : Int32)), (.ref b)])) rfl (by rw [hml]; rfl) (argsL := [(.ref b), (.int (0 : Int32)), (.int (0 : Int32)), (.int key)]) (rest := []) (lenOf pd__28_5bIIII_29I rfl) rfl (by show 2 * 0 + _ ≤ _; exact Nat.le_of_eq rfl) (hb hby d6_5) (fun _ _ => ⟨rfl, e0, (by decide : 0 + 0 ≤ _), (by decide : 0 + 0 ≤ _)⟩)
  dsimp only [Pt.U, Pt.locs, Pt.cells, Pt.slots] at X67 l67 y67 z67 st67 hQ67
  subst l67 y67 z67
  obtain ⟨v68, rfl, N67q, eh67, qp69⟩ := hQ67
  have N67 := Fr.app N0 N67q
  refine Go.via (st67) ?_
  have e67 : T67.heap = h0 := eh67
  show Go p e below (T67.setTop (mkF m 8 #[.val (.ref b), .val (.int key)] [(.int v68)])) _
  exact Go.fin X67 hlk (v := some (.int v68)) (fun h => by rw [Bd.returns] at h; cases h) (fun fs hr => OwnKit.retI X67 hx Bd.returns (hb hby d6_8) hr) (by rw [e67]; exact ⟨v68, rfl, N67, rfl, qp69⟩) (by decide) (by decide)
theorem d5_0 : decode prog_22_method_5_code 0 = .ok (.aload_n 0, 1) := by decide +kernel
theorem d5_1 : decode prog_22_method_5_code 1 = .ok (.getfield 7, 3) := by decide +kernel
theorem d5_4 : decode prog_22_method_5_code 4 = .ok (.iload_n 1, 1) := by decide +kernel
theorem d5_5 : decode prog_22_method_5_code 5 = .ok (.invokestatic 20, 3) := by decide +kernel
theorem pd__28_5bII_29I : parseMethodDescriptor "([II)I" = some ⟨[(.array .int), .int], some .int⟩ := by decide +kernel
theorem d5_8 : decode prog_22_method_5_code 8 = .ok (.istore_n 2, 1) := by decide +kernel
theorem d5_9 : decode prog_22_method_5_code 9 = .ok (.iload_n 2, 1) := by decide +kernel
theorem d5_10 : decode prog_22_method_5_code 10 = .ok (.ifCond .lt 12, 3) := by decide +kernel
theorem d5_22 : decode prog_22_method_5_code 22 = .ok (.iconst 0, 1) := by decide +kernel
theorem d5_23 : decode prog_22_method_5_code 23 = .ok (.ireturn, 1) := by decide +kernel
theorem pn_5 : plainName "com/example/libcosearch/libcosearch/PostingList" = true := by first | (simp [plainName, overriddenIn]; done) | decide +kernel
theorem ef_5 (m : MethodId) (x0 : Addr) (x1 : Int32) : entryFrame m #[(.ref x0), (.int x1)] 3 = mkF m 0 #[.val (.ref x0), .val (.int x1), .unset] [] := by first | (simp [entryFrame, mkF, argsToLocals, Value.category]; done) | rfl
def Q_rmF0 (Z : State) (a : Addr) (key : Int32) (d : Addr) (f : Addr) (h0 : Heap) (n0 : Nat) (vQ : Option Value) (hQ : Heap) (LQ : List Loc) : Prop := ∃ r : Int32, vQ = some (.int r) ∧ Fr n0 LQ ∧ hQ = h0 ∧ ((r = 0))
set_option maxRecDepth 65536 in
set_option maxHeartbeats 40000000 in
theorem rmF0 (l : Launch) (Z : State) (a0 : Array Value) (hw : ∀ d ∈ tables_1, d.before a0 Z = true) (ws : List Jvm.Cond) (a : Addr) (key : Int32) (d : Addr) (f : Addr) (h0 : Heap) (n0 : Nat) (Z0 : n0 ≤ h0.size) (P0 : Fld Z h0 a "com/example/libcosearch/libcosearch/PostingList" "documents" "[I" (.ref d)) (P1 : Fld Z h0 a "com/example/libcosearch/libcosearch/PostingList" "frequencies" "[I" (.ref f)) (P2 : Ia Z h0 d .int []) (P3 : Ia Z h0 f .int []) :
    MetFree l (⟨"com/example/libcosearch/libcosearch/PostingList", "frequencyIn", "(I)I"⟩ : MethodName) (head1 (Jvm.Cond.code (⟨"com/example/libcosearch/libcosearch/PostingList", "frequencyIn", "(I)I"⟩ : MethodName) prog_22_method_5_code 3 (some .int) :: ws) ({ frames := 2, cells := 0, slots := 0, locals := 32 } : Room)) (fun aQ UQ => aQ = #[(.ref a), (.int key)] ∧ Z.Warmed39 UQ.vm ∧ UQ.heap = h0) (fun _ _ _ _ _ => True) (fun _ UQ oQ UR => ∃ vQ LQ, oQ = .returned vQ ∧ Q_rmF0 Z a key d f h0 n0 vQ UR.heap LQ ∧ FrameEnd UQ oQ UR LQ ({ frames := 2, cells := 0, slots := 0, locals := 32 } : Room).cells ({ frames := 2, cells := 0, slots := 0, locals := 32 } : Room).slots) := by
  refine MetFree.of_bodySF (plainFor_of_name pn_5) hisR ?_
  intro p e s m args below meth c s₁ Bd hml0 hP hK
  obtain ⟨rfl, hZ, hh⟩ := hP
  have hx := Bd.exec
  have hby := Bd.bytes
  have hlk := Bd.notSynchronized
  have hml : c.maxLocals = 3 := hml0
  have hown : s.vm.findClass "com/example/libcosearch/libcosearch/PostingList" = some m.cls := findClass_of_methodNamed Bd.named
  have hnm := (name_of_methodNamed Bd.named Bd.method).1
  have X0 : Stand p l e ({ frames := 2, cells := 0, slots := 0, locals := 32 } : Room) s m #[(.ref a), (.int key)] below meth c s₁ [] 0 0 := Stand.of_body Bd
  have e0 : s₁.heap = h0 := by rw [← hh, Bd.state]; rfl
  have N0 := Fr.nil n0
  show Go p e below _ (Done s (Q_rmF0 Z a key d f h0 n0) ({ frames := 2, cells := 0, slots := 0, locals := 32 } : Room).cells ({ frames := 2, cells := 0, slots := 0, locals := 32 } : Room).slots)
  refine Go.via (fun tQ kQ => castTop (ef_5 m a key) kQ) ?_
  show Go p e below (s₁.setTop (mkF m 0 #[.val (.ref a), .val (.int key), .unset] [])) _
  refine Go.via (fun _ => XS.aloadN X0.here hx rfl (hb hby d5_0) rfl rfl) ?_
  obtain ⟨T70, X70, e70, st70⟩ := getF X0 hx hZ hown (host := "") (Or.inl (tw hw 18 rfl)) Via.refl e0 P0 (g := (mkF m 1 #[.val (.ref a), .val (.int key), .unset] [(.ref a)])) rfl rfl (hb hby d5_1)
  refine Go.via (st70) ?_
  show Go p e below (T70.setTop (mkF m 4 #[.val (.ref a), .val (.int key), .unset] [(.ref d)])) _
  refine Go.via (fun _ => XS.iloadN X70.here hx rfl (hb hby d5_4) rfl) ?_
  obtain ⟨_, _, ⟨T71, L71, k71, n71⟩, -, X71, ⟨Lc71, hQ71, l71, y71, z71⟩, st71⟩ := Jvm.LawKit.callS X70 hx (y := (⟨"java/util/Arrays", "binarySearch", "([II)I"⟩ : MethodName)) hown (mvT hZ (tw hw 29 rfl)) (mvT hZ (tw hw 30 rfl)) (mvT hZ (tw hw 31 rfl)) (mvT hZ (tw hw 32 rfl)) (by decide) (backOf (W := 0) (rmB0 l Z a0 hw [] d key  h0 n0 Z0 P2) hZ (tw hw 32 rfl) (tw hw 31 rfl) (by decide) (by decide)) (g := (mkF m 5 #[.val (.ref a), .val (.int key), .unset] [(.int key), (.ref d)])) rfl (by rw [hml]; rfl) (argsL := [(.ref d), (.int key)]) (rest := []) (lenOf pd__28_5bII_29I rfl) rfl (by show 2 * 0 + _ ≤ _; exact Nat.le_of_eq rfl) (hb hby d5_5) (fun _ _ => ⟨rfl, e70, (by decide : 0 + 0 ≤ _), (by decide : 0 + 0 ≤ _)⟩)
  dsimp only [Pt.U, Pt.locs, Pt.cells, Pt.slots] at X71 l71 y71 z71 st71 hQ71
  subst l71 y71 z71
  obtain ⟨v72, rfl, N71q, eh71, qp73⟩ := hQ71
  have N71 := Fr.app N0 N71q
  refine Go.via (st71) ?_
  have e71 : T71.heap = h0 := eh71
  show Go p e below (T71.setTop (mkF m 8 #[.val (.ref a), .val (.int key), .unset] [(.int v72)])) _
  have hneg := qp73
  · show Go p e below (T71.setTop (mkF m 8 #[.val (.ref a), .val (.int key), .unset] [(.int v72)])) _
    refine Go.via (fun _ => XS.istoreN X71.here hx rfl (hb hby d5_8) rfl (l' := #[.val (.ref a), .val (.int key), .val (.int v72)]) rfl) ?_
    show Go p e below (T71.setTop (mkF m 9 #[.val (.ref a), .val (.int key), .val (.int v72)] [])) _
    refine Go.via (fun _ => XS.iloadN X71.here hx rfl (hb hby d5_9) rfl) ?_
    refine Go.via (fun _ => XS.ifYes X71.here hx rfl (pc0 := 10) (pc' := 22) rfl (hb hby d5_10) rfl ((if0 _ _).trans (tlt (hneg : v72 < (0 : Int32))).1) (by decide) (by decide)) ?_
    show Go p e below (T71.setTop (mkF m 22 #[.val (.ref a), .val (.int key), .val (.int v72)] [])) _
    refine Go.via (fun _ => XS.iconst X71.here hx rfl (hb hby d5_22)) ?_
    exact Go.fin X71 hlk (v := some (.int (0 : Int32))) (fun h => by rw [Bd.returns] at h; cases h) (fun fs hr => OwnKit.retI X71 hx Bd.returns (hb hby d5_23) hr) (by rw [e71]; exact ⟨(0 : Int32), rfl, N71, rfl, (rfl)⟩) (by decide) (by decide)
theorem d7_15 : decode jdk_65_method_59_code 15 = .ok (.iload 4, 2) := by decide +kernel
theorem d7_17 : decode jdk_65_method_59_code 17 = .ok (.iload 5, 2) := by decide +kernel
theorem d7_19 : decode jdk_65_method_59_code 19 = .ok (.iadd, 1) := by decide +kernel
theorem d7_20 : decode jdk_65_method_59_code 20 = .ok (.iconst 1, 1) := by decide +kernel
theorem d7_21 : decode jdk_65_method_59_code 21 = .ok (.iushr, 1) := by decide +kernel
theorem d7_22 : decode jdk_65_method_59_code 22 = .ok (.istore 6, 2) := by decide +kernel
theorem d7_24 : decode jdk_65_method_59_code 24 = .ok (.aload_n 0, 1) := by decide +kernel
theorem d7_25 : decode jdk_65_method_59_code 25 = .ok (.iload 6, 2) := by decide +kernel
theorem d7_27 : decode jdk_65_method_59_code 27 = .ok (.iaload, 1) := by decide +kernel
theorem d7_28 : decode jdk_65_method_59_code 28 = .ok (.istore 7, 2) := by decide +kernel
theorem d7_30 : decode jdk_65_method_59_code 30 = .ok (.iload 7, 2) := by decide +kernel
theorem d7_32 : decode jdk_65_method_59_code 32 = .ok (.iload_n 3, 1) := by decide +kernel
theorem d7_33 : decode jdk_65_method_59_code 33 = .ok (.if_icmp .ge 12, 3) := by decide +kernel
theorem d7_36 : decode jdk_65_method_59_code 36 = .ok (.iload 6, 2) := by decide +kernel
theorem d7_38 : decode jdk_65_method_59_code 38 = .ok (.iconst 1, 1) := by decide +kernel
theorem d7_39 : decode jdk_65_method_59_code 39 = .ok (.iadd, 1) := by decide +kernel
theorem d7_40 : decode jdk_65_method_59_code 40 = .ok (.istore 4, 2) := by decide +kernel
theorem d7_42 : decode jdk_65_method_59_code 42 = .ok (.goto 21, 3) := by decide +kernel
theorem d7_63 : decode jdk_65_method_59_code 63 = .ok (.goto (-55), 3) := by decide +kernel
theorem d7_45 : decode jdk_65_method_59_code 45 = .ok (.iload 7, 2) := by decide +kernel
theorem d7_47 : decode jdk_65_method_59_code 47 = .ok (.iload_n 3, 1) := by decide +kernel
theorem d7_48 : decode jdk_65_method_59_code 48 = .ok (.if_icmp .le 12, 3) := by decide +kernel
theorem d7_51 : decode jdk_65_method_59_code 51 = .ok (.iload 6, 2) := by decide +kernel
theorem d7_53 : decode jdk_65_method_59_code 53 = .ok (.iconst 1, 1) := by decide +kernel
theorem d7_54 : decode jdk_65_method_59_code 54 = .ok (.isub, 1) := by decide +kernel
theorem d7_55 : decode jdk_65_method_59_code 55 = .ok (.istore 5, 2) := by decide +kernel
theorem d7_57 : decode jdk_65_method_59_code 57 = .ok (.goto 6, 3) := by decide +kernel
theorem d7_60 : decode jdk_65_method_59_code 60 = .ok (.iload 6, 2) := by decide +kernel
theorem d7_62 : decode jdk_65_method_59_code 62 = .ok (.ireturn, 1) := by decide +kernel
def Q_rmS1 (Z : State) (b : Addr) (lo : Int32) (hi : Int32) (key : Int32) (d0 : Int32) (h0 : Heap) (n0 : Nat) (vQ : Option Value) (hQ : Heap) (LQ : List Loc) : Prop := ∃ r : Int32, vQ = some (.int r) ∧ Fr n0 LQ ∧ hQ = h0 ∧ ((r < 0 ∧ ¬ key = d0) ∨ (r = 0 ∧ key = d0))
set_option maxRecDepth 65536 in
set_option maxHeartbeats 40000000 in
theorem rmS1 (l : Launch) (Z : State) (a0 : Array Value) (hw : ∀ d ∈ tables_1, d.before a0 Z = true) (ws : List Jvm.Cond) (b : Addr) (lo : Int32) (hi : Int32) (key : Int32) (d0 : Int32) (h0 : Heap) (n0 : Nat) (Z0 : n0 ≤ h0.size) (P0 : Ia Z h0 b .int [d0]) (hlo : lo = 0) (hhi : hi = 1) :
    MetFree l (⟨"java/util/Arrays", "binarySearch0", "([IIII)I"⟩ : MethodName) (head1 (Jvm.Cond.code (⟨"java/util/Arrays", "binarySearch0", "([IIII)I"⟩ : MethodName) jdk_65_method_59_code 8 (some .int) :: ws) ({ frames := 0, cells := 0, slots := 0, locals := 0 } : Room)) (fun aQ UQ => aQ = #[(.ref b), (.int lo), (.int hi), (.int key)] ∧ Z.Warmed39 UQ.vm ∧ UQ.heap = h0) (fun _ _ _ _ _ => True) (fun _ UQ oQ UR => ∃ vQ LQ, oQ = .returned vQ ∧ Q_rmS1 Z b lo hi key d0 h0 n0 vQ UR.heap LQ ∧ FrameEnd UQ oQ UR LQ ({ frames := 0, cells := 0, slots := 0, locals := 0 } : Room).cells ({ frames := 0, cells := 0, slots := 0, locals := 0 } : Room).slots) := by
  refine MetFree.of_bodySF (plainFor_of_name pn_7) hisR ?_
  intro p e s m args below meth c s₁ Bd hml0 hP hK
  obtain ⟨rfl, hZ, hh⟩ := hP
  have hx := Bd.exec
  have hby := Bd.bytes
  have hlk := Bd.notSynchronized
  have hml : c.maxLocals = 8 := hml0
  have hown : s.vm.findClass "java/util/Arrays" = some m.cls := findClass_of_methodNamed Bd.named
  have hnm := (name_of_methodNamed Bd.named Bd.method).1
  have X0 : Stand p l e ({ frames := 0, cells := 0, slots := 0, locals := 0 } : Room) s m #[(.ref b), (.int lo), (.int hi), (.int key)] below meth c s₁ [] 0 0 := Stand.of_body Bd
  have e0 : s₁.heap = h0 := by rw [← hh, Bd.state]; rfl
  have N0 := Fr.nil n0
  show Go p e below _ (Done s (Q_rmS1 Z b lo hi key d0 h0 n0) ({ frames := 0, cells := 0, slots := 0, locals := 0 } : Room).cells ({ frames := 0, cells := 0, slots := 0, locals := 0 } : Room).slots)
  refine Go.via (fun tQ kQ => castTop (ef_7 m b lo hi key) kQ) ?_
  show Go p e below (s₁.setTop (mkF m 0 #[.val (.ref b), .val (.int lo), .val (.int hi), .val (.int key), .unset, .unset, .unset, .unset] [])) _
  · subst hlo hhi
    show Go p e below (s₁.setTop (mkF m 0 #[.val (.ref b), .val (.int (0 : Int32)), .val (.int (1 : Int32)), .val (.int key), .unset, .unset, .unset, .unset] [])) _
    refine Go.via (fun _ => XS.iloadN X0.here hx rfl (hb hby d7_0) rfl) ?_
    refine Go.via (fun _ => XS.istore X0.here hx rfl (hb hby d7_1) rfl (l' := #[.val (.ref b), .val (.int (0 : Int32)), .val (.int (1 : Int32)), .val (.int key), .val (.int (0 : Int32)), .unset, .unset, .unset]) rfl) ?_
    show Go p e below (s₁.setTop (mkF m 3 #[.val (.ref b), .val (.int (0 : Int32)), .val (.int (1 : Int32)), .val (.int key), .val (.int (0 : Int32)), .unset, .unset, .unset] [])) _
    refine Go.via (fun _ => XS.iloadN X0.here hx rfl (hb hby d7_3) rfl) ?_
    refine Go.via (fun _ => XS.iconst X0.here hx rfl (hb hby d7_4)) ?_
    refine Go.via (fun _ => XS.isub X0.here hx rfl (hb hby d7_5) rfl) ?_
    show Go p e below (s₁.setTop (mkF m 6 #[.val (.ref b), .val (.int (0 : Int32)), .val (.int (1 : Int32)), .val (.int key), .val (.int (0 : Int32)), .unset, .unset, .unset] [(.int (0 : Int32))])) _
    refine Go.via (fun _ => XS.istore X0.here hx rfl (hb hby d7_6) rfl (l' := #[.val (.ref b), .val (.int (0 : Int32)), .val (.int (1 : Int32)), .val (.int key), .val (.int (0 : Int32)), .val (.int (0 : Int32)), .unset, .unset]) rfl) ?_
    show Go p e below (s₁.setTop (mkF m 8 #[.val (.ref b), .val (.int (0 : Int32)), .val (.int (1 : Int32)), .val (.int key), .val (.int (0 : Int32)), .val (.int (0 : Int32)), .unset, .unset] [])) _
    refine Go.via (fun _ => XS.iload X0.here hx rfl (hb hby d7_8) rfl) ?_
    refine Go.via (fun _ => XS.iload X0.here hx rfl (hb hby d7_10) rfl) ?_
    refine Go.via (fun _ => XS.icmpNo X0.here hx rfl (hb hby d7_12) rfl (flt ((by decide) : ¬ ((0 : Int32) < (0 : Int32)))).2.2.1) ?_
    show Go p e below (s₁.setTop (mkF m 15 #[.val (.ref b), .val (.int (0 : Int32)), .val (.int (1 : Int32)), .val (.int key), .val (.int (0 : Int32)), .val (.int (0 : Int32)), .unset, .unset] [])) _
    refine Go.via (fun _ => XS.iload X0.here hx rfl (hb hby d7_15) rfl) ?_
    refine Go.via (fun _ => XS.iload X0.here hx rfl (hb hby d7_17) rfl) ?_
    refine Go.via (fun _ => XS.iadd X0.here hx rfl (hb hby d7_19) rfl) ?_
    show Go p e below (s₁.setTop (mkF m 20 #[.val (.ref b), .val (.int (0 : Int32)), .val (.int (1 : Int32)), .val (.int key), .val (.int (0 : Int32)), .val (.int (0 : Int32)), .unset, .unset] [(.int (0 : Int32))])) _
    refine Go.via (fun _ => XS.iconst X0.here hx rfl (hb hby d7_20)) ?_
    refine Go.via (fun _ => XS.iushr X0.here hx rfl (hb hby d7_21) rfl) ?_
    show Go p e below (s₁.setTop (mkF m 22 #[.val (.ref b), .val (.int (0 : Int32)), .val (.int (1 : Int32)), .val (.int key), .val (.int (0 : Int32)), .val (.int (0 : Int32)), .unset, .unset] [(.int (0 : Int32))])) _
    refine Go.via (fun _ => XS.istore X0.here hx rfl (hb hby d7_22) rfl (l' := #[.val (.ref b), .val (.int (0 : Int32)), .val (.int (1 : Int32)), .val (.int key), .val (.int (0 : Int32)), .val (.int (0 : Int32)), .val (.int (0 : Int32)), .unset]) rfl) ?_
    show Go p e below (s₁.setTop (mkF m 24 #[.val (.ref b), .val (.int (0 : Int32)), .val (.int (1 : Int32)), .val (.int key), .val (.int (0 : Int32)), .val (.int (0 : Int32)), .val (.int (0 : Int32)), .unset] [])) _
    refine Go.via (fun _ => XS.aloadN X0.here hx rfl (hb hby d7_24) rfl rfl) ?_
    refine Go.via (fun _ => XS.iload X0.here hx rfl (hb hby d7_25) rfl) ?_
    refine Go.via (ldI X0 hx hZ e0 P0 (v := d0) (by decide) rfl (g := (mkF m 27 #[.val (.ref b), .val (.int (0 : Int32)), .val (.int (1 : Int32)), .val (.int key), .val (.int (0 : Int32)), .val (.int (0 : Int32)), .val (.int (0 : Int32)), .unset] [(.int (0 : Int32)), (.ref b)])) rfl rfl (hb hby d7_27)) ?_
    show Go p e below (s₁.setTop (mkF m 28 #[.val (.ref b), .val (.int (0 : Int32)), .val (.int (1 : Int32)), .val (.int key), .val (.int (0 : Int32)), .val (.int (0 : Int32)), .val (.int (0 : Int32)), .unset] [(.int d0)])) _
    refine Go.via (fun _ => XS.istore X0.here hx rfl (hb hby d7_28) rfl (l' := #[.val (.ref b), .val (.int (0 : Int32)), .val (.int (1 : Int32)), .val (.int key), .val (.int (0 : Int32)), .val (.int (0 : Int32)), .val (.int (0 : Int32)), .val (.int d0)]) rfl) ?_
    show Go p e below (s₁.setTop (mkF m 30 #[.val (.ref b), .val (.int (0 : Int32)), .val (.int (1 : Int32)), .val (.int key), .val (.int (0 : Int32)), .val (.int (0 : Int32)), .val (.int (0 : Int32)), .val (.int d0)] [])) _
    refine Go.via (fun _ => XS.iload X0.here hx rfl (hb hby d7_30) rfl) ?_
    refine Go.via (fun _ => XS.iloadN X0.here hx rfl (hb hby d7_32) rfl) ?_
    by_cases hc74 : d0 < key
    · refine Go.via (fun _ => XS.icmpNo X0.here hx rfl (hb hby d7_33) rfl (tlt (hc74 : d0 < key)).2.1) ?_
      refine Go.via (fun _ => XS.iload X0.here hx rfl (hb hby d7_36) rfl) ?_
      refine Go.via (fun _ => XS.iconst X0.here hx rfl (hb hby d7_38)) ?_
      show Go p e below (s₁.setTop (mkF m 39 #[.val (.ref b), .val (.int (0 : Int32)), .val (.int (1 : Int32)), .val (.int key), .val (.int (0 : Int32)), .val (.int (0 : Int32)), .val (.int (0 : Int32)), .val (.int d0)] [(.int (1 : Int32)), (.int (0 : Int32))])) _
      refine Go.via (fun _ => XS.iadd X0.here hx rfl (hb hby d7_39) rfl) ?_
      show Go p e below (s₁.setTop (mkF m 40 #[.val (.ref b), .val (.int (0 : Int32)), .val (.int (1 : Int32)), .val (.int key), .val (.int (0 : Int32)), .val (.int (0 : Int32)), .val (.int (0 : Int32)), .val (.int d0)] [(.int (1 : Int32))])) _
      refine Go.via (fun _ => XS.istore X0.here hx rfl (hb hby d7_40) rfl (l' := #[.val (.ref b), .val (.int (0 : Int32)), .val (.int (1 : Int32)), .val (.int key), .val (.int (1 : Int32)), .val (.int (0 : Int32)), .val (.int (0 : Int32)), .val (.int d0)]) rfl) ?_
      show Go p e below (s₁.setTop (mkF m 42 #[.val (.ref b), .val (.int (0 : Int32)), .val (.int (1 : Int32)), .val (.int key), .val (.int (1 : Int32)), .val (.int (0 : Int32)), .val (.int (0 : Int32)), .val (.int d0)] [])) _
      refine Go.via (fun _ => XS.goto X0.here hx rfl (pc0 := 42) (pc' := 63) rfl (hb hby d7_42) (by decide) (by decide)) ?_
      refine Go.via (fun _ => XS.goto X0.here hx rfl (pc0 := 63) (pc' := 8) rfl (hb hby d7_63) (by decide) (by decide)) ?_
      refine Go.via (fun _ => XS.iload X0.here hx rfl (hb hby d7_8) rfl) ?_
      refine Go.via (fun _ => XS.iload X0.here hx rfl (hb hby d7_10) rfl) ?_
      show Go p e below (s₁.setTop (mkF m 12 #[.val (.ref b), .val (.int (0 : Int32)), .val (.int (1 : Int32)), .val (.int key), .val (.int (1 : Int32)), .val (.int (0 : Int32)), .val (.int (0 : Int32)), .val (.int d0)] [(.int (0 : Int32)), (.int (1 : Int32))])) _
      refine Go.via (fun _ => XS.icmpYes X0.here hx rfl (pc0 := 12) (pc' := 66) rfl (hb hby d7_12) rfl (tlt ((by decide) : (0 : Int32) < (1 : Int32))).2.2.1 (by decide) (by decide)) ?_
      show Go p e below (s₁.setTop (mkF m 66 #[.val (.ref b), .val (.int (0 : Int32)), .val (.int (1 : Int32)), .val (.int key), .val (.int (1 : Int32)), .val (.int (0 : Int32)), .val (.int (0 : Int32)), .val (.int d0)] [])) _
      refine Go.via (fun _ => XS.iload X0.here hx rfl (hb hby d7_66) rfl) ?_
      refine Go.via (fun _ => XS.iconst X0.here hx rfl (hb hby d7_68)) ?_
      refine Go.via (fun _ => XS.iadd X0.here hx rfl (hb hby d7_69) rfl) ?_
      show Go p e below (s₁.setTop (mkF m 70 #[.val (.ref b), .val (.int (0 : Int32)), .val (.int (1 : Int32)), .val (.int key), .val (.int (1 : Int32)), .val (.int (0 : Int32)), .val (.int (0 : Int32)), .val (.int d0)] [(.int (2 : Int32))])) _
      refine Go.via (fun _ => XS.ineg X0.here hx rfl (hb hby d7_70) rfl) ?_
      show Go p e below (s₁.setTop (mkF m 71 #[.val (.ref b), .val (.int (0 : Int32)), .val (.int (1 : Int32)), .val (.int key), .val (.int (1 : Int32)), .val (.int (0 : Int32)), .val (.int (0 : Int32)), .val (.int d0)] [(.int (-2 : Int32))])) _
      exact Go.fin X0 hlk (v := some (.int (-2 : Int32))) (fun h => by rw [Bd.returns] at h; cases h) (fun fs hr => OwnKit.retI X0 hx Bd.returns (hb hby d7_71) hr) (by rw [e0]; exact ⟨(-2 : Int32), rfl, N0, rfl, (by clear hw; refine Or.inl ⟨by decide, ?_⟩ <;> (simp only [Int32.lt_iff_toInt_lt, ← Int32.toInt_inj] at *; omega))⟩) (by decide) (by decide)
    · refine Go.via (fun _ => XS.icmpYes X0.here hx rfl (pc0 := 33) (pc' := 45) rfl (hb hby d7_33) rfl (flt (hc74 : ¬ (d0 < key))).2.1 (by decide) (by decide)) ?_
      refine Go.via (fun _ => XS.iload X0.here hx rfl (hb hby d7_45) rfl) ?_
      refine Go.via (fun _ => XS.iloadN X0.here hx rfl (hb hby d7_47) rfl) ?_
      show Go p e below (s₁.setTop (mkF m 48 #[.val (.ref b), .val (.int (0 : Int32)), .val (.int (1 : Int32)), .val (.int key), .val (.int (0 : Int32)), .val (.int (0 : Int32)), .val (.int (0 : Int32)), .val (.int d0)] [(.int key), (.int d0)])) _
      by_cases hc75 : key < d0
      · refine Go.via (fun _ => XS.icmpNo X0.here hx rfl (hb hby d7_48) rfl (tlt (hc75 : key < d0)).2.2.2) ?_
        show Go p e below (s₁.setTop (mkF m 51 #[.val (.ref b), .val (.int (0 : Int32)), .val (.int (1 : Int32)), .val (.int key), .val (.int (0 : Int32)), .val (.int (0 : Int32)), .val (.int (0 : Int32)), .val (.int d0)] [])) _
        refine Go.via (fun _ => XS.iload X0.here hx rfl (hb hby d7_51) rfl) ?_
        refine Go.via (fun _ => XS.iconst X0.here hx rfl (hb hby d7_53)) ?_
        refine Go.via (fun _ => XS.isub X0.here hx rfl (hb hby d7_54) rfl) ?_
        show Go p e below (s₁.setTop (mkF m 55 #[.val (.ref b), .val (.int (0 : Int32)), .val (.int (1 : Int32)), .val (.int key), .val (.int (0 : Int32)), .val (.int (0 : Int32)), .val (.int (0 : Int32)), .val (.int d0)] [(.int (-1 : Int32))])) _
        refine Go.via (fun _ => XS.istore X0.here hx rfl (hb hby d7_55) rfl (l' := #[.val (.ref b), .val (.int (0 : Int32)), .val (.int (1 : Int32)), .val (.int key), .val (.int (0 : Int32)), .val (.int (-1 : Int32)), .val (.int (0 : Int32)), .val (.int d0)]) rfl) ?_
        show Go p e below (s₁.setTop (mkF m 57 #[.val (.ref b), .val (.int (0 : Int32)), .val (.int (1 : Int32)), .val (.int key), .val (.int (0 : Int32)), .val (.int (-1 : Int32)), .val (.int (0 : Int32)), .val (.int d0)] [])) _
        refine Go.via (fun _ => XS.goto X0.here hx rfl (pc0 := 57) (pc' := 63) rfl (hb hby d7_57) (by decide) (by decide)) ?_
        refine Go.via (fun _ => XS.goto X0.here hx rfl (pc0 := 63) (pc' := 8) rfl (hb hby d7_63) (by decide) (by decide)) ?_
        refine Go.via (fun _ => XS.iload X0.here hx rfl (hb hby d7_8) rfl) ?_
        refine Go.via (fun _ => XS.iload X0.here hx rfl (hb hby d7_10) rfl) ?_
        show Go p e below (s₁.setTop (mkF m 12 #[.val (.ref b), .val (.int (0 : Int32)), .val (.int (1 : Int32)), .val (.int key), .val (.int (0 : Int32)), .val (.int (-1 : Int32)), .val (.int (0 : Int32)), .val (.int d0)] [(.int (-1 : Int32)), (.int (0 : Int32))])) _
        refine Go.via (fun _ => XS.icmpYes X0.here hx rfl (pc0 := 12) (pc' := 66) rfl (hb hby d7_12) rfl (tlt ((by decide) : (-1 : Int32) < (0 : Int32))).2.2.1 (by decide) (by decide)) ?_
        show Go p e below (s₁.setTop (mkF m 66 #[.val (.ref b), .val (.int (0 : Int32)), .val (.int (1 : Int32)), .val (.int key), .val (.int (0 : Int32)), .val (.int (-1 : Int32)), .val (.int (0 : Int32)), .val (.int d0)] [])) _
        refine Go.via (fun _ => XS.iload X0.here hx rfl (hb hby d7_66) rfl) ?_
        refine Go.via (fun _ => XS.iconst X0.here hx rfl (hb hby d7_68)) ?_
        refine Go.via (fun _ => XS.iadd X0.here hx rfl (hb hby d7_69) rfl) ?_
        show Go p e below (s₁.setTop (mkF m 70 #[.val (.ref b), .val (.int (0 : Int32)), .val (.int (1 : Int32)), .val (.int key), .val (.int (0 : Int32)), .val (.int (-1 : Int32)), .val (.int (0 : Int32)), .val (.int d0)] [(.int (1 : Int32))])) _
        refine Go.via (fun _ => XS.ineg X0.here hx rfl (hb hby d7_70) rfl) ?_
        show Go p e below (s₁.setTop (mkF m 71 #[.val (.ref b), .val (.int (0 : Int32)), .val (.int (1 : Int32)), .val (.int key), .val (.int (0 : Int32)), .val (.int (-1 : Int32)), .val (.int (0 : Int32)), .val (.int d0)] [(.int (-1 : Int32))])) _
        exact Go.fin X0 hlk (v := some (.int (-1 : Int32))) (fun h => by rw [Bd.returns] at h; cases h) (fun fs hr => OwnKit.retI X0 hx Bd.returns (hb hby d7_71) hr) (by rw [e0]; exact ⟨(-1 : Int32), rfl, N0, rfl, (by clear hw; refine Or.inl ⟨by decide, ?_⟩ <;> (simp only [Int32.lt_iff_toInt_lt, ← Int32.toInt_inj] at *; omega))⟩) (by decide) (by decide)
      · refine Go.via (fun _ => XS.icmpYes X0.here hx rfl (pc0 := 48) (pc' := 60) rfl (hb hby d7_48) rfl (flt (hc75 : ¬ (key < d0))).2.2.2 (by decide) (by decide)) ?_
        show Go p e below (s₁.setTop (mkF m 60 #[.val (.ref b), .val (.int (0 : Int32)), .val (.int (1 : Int32)), .val (.int key), .val (.int (0 : Int32)), .val (.int (0 : Int32)), .val (.int (0 : Int32)), .val (.int d0)] [])) _
        refine Go.via (fun _ => XS.iload X0.here hx rfl (hb hby d7_60) rfl) ?_
        exact Go.fin X0 hlk (v := some (.int (0 : Int32))) (fun h => by rw [Bd.returns] at h; cases h) (fun fs hr => OwnKit.retI X0 hx Bd.returns (hb hby d7_62) hr) (by rw [e0]; exact ⟨(0 : Int32), rfl, N0, rfl, (by clear hw; refine Or.inr (⟨by decide, ?_⟩) <;> (simp only [Int32.lt_iff_toInt_lt, ← Int32.toInt_inj] at *; omega))⟩) (by decide) (by decide)
def Q_rmB1 (Z : State) (b : Addr) (key : Int32) (d0 : Int32) (h0 : Heap) (n0 : Nat) (vQ : Option Value) (hQ : Heap) (LQ : List Loc) : Prop := ∃ r : Int32, vQ = some (.int r) ∧ Fr n0 LQ ∧ hQ = h0 ∧ ((r < 0 ∧ ¬ key = d0) ∨ (r = 0 ∧ key = d0))
set_option maxRecDepth 65536 in
set_option maxHeartbeats 40000000 in
theorem rmB1 (l : Launch) (Z : State) (a0 : Array Value) (hw : ∀ d ∈ tables_1, d.before a0 Z = true) (ws : List Jvm.Cond) (b : Addr) (key : Int32) (d0 : Int32) (h0 : Heap) (n0 : Nat) (Z0 : n0 ≤ h0.size) (P0 : Ia Z h0 b .int [d0]) :
    MetFree l (⟨"java/util/Arrays", "binarySearch", "([II)I"⟩ : MethodName) (head1 (Jvm.Cond.code (⟨"java/util/Arrays", "binarySearch", "([II)I"⟩ : MethodName) jdk_65_method_57_code 2 (some .int) :: ws) ({ frames := 1, cells := 0, slots := 0, locals := 19 } : Room)) (fun aQ UQ => aQ = #[(.ref b), (.int key)] ∧ Z.Warmed39 UQ.vm ∧ UQ.heap = h0) (fun _ _ _ _ _ => True) (fun _ UQ oQ UR => ∃ vQ LQ, oQ = .returned vQ ∧ Q_rmB1 Z b key d0 h0 n0 vQ UR.heap LQ ∧ FrameEnd UQ oQ UR LQ ({ frames := 1, cells := 0, slots := 0, locals := 19 } : Room).cells ({ frames := 1, cells := 0, slots := 0, locals := 19 } : Room).slots) := by
  refine MetFree.of_bodySF (plainFor_of_name pn_6) hisR ?_
  intro p e s m args below meth c s₁ Bd hml0 hP hK
  obtain ⟨rfl, hZ, hh⟩ := hP
  have hx := Bd.exec
  have hby := Bd.bytes
  have hlk := Bd.notSynchronized
  have hml : c.maxLocals = 2 := hml0
  have hown : s.vm.findClass "java/util/Arrays" = some m.cls := findClass_of_methodNamed Bd.named
  have hnm := (name_of_methodNamed Bd.named Bd.method).1
  have X0 : Stand p l e ({ frames := 1, cells := 0, slots := 0, locals := 19 } : Room) s m #[(.ref b), (.int key)] below meth c s₁ [] 0 0 := Stand.of_body Bd
  have e0 : s₁.heap = h0 := by rw [← hh, Bd.state]; rfl
  have N0 := Fr.nil n0
  show Go p e below _ (Done s (Q_rmB1 Z b key d0 h0 n0) ({ frames := 1, cells := 0, slots := 0, locals := 19 } : Room).cells ({ frames := 1, cells := 0, slots := 0, locals := 19 } : Room).slots)
  refine Go.via (fun tQ kQ => castTop (ef_6 m b key) kQ) ?_
  show Go p e below (s₁.setTop (mkF m 0 #[.val (.ref b), .val (.int key)] [])) _
  refine Go.via (fun _ => XS.aloadN X0.here hx rfl (hb hby d6_0) rfl rfl) ?_
  refine Go.via (fun _ => XS.iconst X0.here hx rfl (hb hby d6_1)) ?_
  refine Go.via (fun _ => XS.aloadN X0.here hx rfl (hb hby d6_2) rfl rfl) ?_
  refine Go.via (lenI X0 hx hZ e0 P0 (n := (1 : Int32)) rfl (g := (mkF m 3 #[.val (.ref b), .val (.int key)] [(.ref b), (.int (0 : Int32)), (.ref b)])) rfl rfl (hb hby d6_3)) ?_
  show Go p e below (s₁.setTop (mkF m 4 #[.val (.ref b), .val (.int key)] [(.int (1 : Int32)), (.int (0 : Int32)), (.ref b)])) _
  refine Go.via (fun _ => XS.iloadN X0.here hx rfl (hb hby d6_4) rfl) ?_
  obtain ⟨_, _, ⟨T76, L76, k76, n76⟩, -, X76, ⟨Lc76, hQ76, l76, y76, z76⟩, st76⟩ := Jvm.LawKit.callS X0 hx (y := (⟨"java/util/Arrays", "binarySearch0", "([IIII)I"⟩ : MethodName)) hown (mvT hZ (tw hw 33 rfl)) (mvT hZ (tw hw 34 rfl)) (mvT hZ (tw hw 31 rfl)) (mvT hZ (tw hw 35 rfl)) (by decide) (backOf (W := 0) (rmS1 l Z a0 hw [] b (0 : Int32) (1 : Int32) key d0 h0 n0 Z0 P0 rfl rfl) hZ (tw hw 35 rfl) (tw hw 31 rfl) (by decide) (by decide)) (g := (mkF m 5 #[.val (.ref b), .val (.int key)] [(.int key), (.int (1 : Int32)), (.int (0 : Int32)), (.ref b)])) rfl (by rw [hml]; rfl) (argsL := [(.ref b), (.int (0 : Int32)), (.int (1 : Int32)), (.int key)]) (rest := []) (lenOf pd__28_5bIIII_29I rfl) rfl (by show 2 * 0 + _ ≤ _; exact Nat.le_of_eq rfl) (hb hby d6_5) (fun _ _ => ⟨rfl, e0, (by decide : 0 + 0 ≤ _), (by decide : 0 + 0 ≤ _)⟩)
  dsimp only [Pt.U, Pt.locs, Pt.cells, Pt.slots] at X76 l76 y76 z76 st76 hQ76
  subst l76 y76 z76
  obtain ⟨v77, rfl, N76q, eh76, qp78⟩ := hQ76
  have N76 := Fr.app N0 N76q
  refine Go.via (st76) ?_
  have e76 : T76.heap = h0 := eh76
  show Go p e below (T76.setTop (mkF m 8 #[.val (.ref b), .val (.int key)] [(.int v77)])) _
  exact Go.fin X76 hlk (v := some (.int v77)) (fun h => by rw [Bd.returns] at h; cases h) (fun fs hr => OwnKit.retI X76 hx Bd.returns (hb hby d6_8) hr) (by rw [e76]; exact ⟨v77, rfl, N76, rfl, qp78⟩) (by decide) (by decide)
theorem d5_13 : decode prog_22_method_5_code 13 = .ok (.aload_n 0, 1) := by decide +kernel
theorem d5_14 : decode prog_22_method_5_code 14 = .ok (.getfield 13, 3) := by decide +kernel
theorem d5_17 : decode prog_22_method_5_code 17 = .ok (.iload_n 2, 1) := by decide +kernel
theorem d5_18 : decode prog_22_method_5_code 18 = .ok (.iaload, 1) := by decide +kernel
theorem d5_19 : decode prog_22_method_5_code 19 = .ok (.goto 4, 3) := by decide +kernel
def Q_rmF1 (Z : State) (a : Addr) (key : Int32) (d : Addr) (f : Addr) (d0 : Int32) (f0 : Int32) (h0 : Heap) (n0 : Nat) (vQ : Option Value) (hQ : Heap) (LQ : List Loc) : Prop := ∃ r : Int32, vQ = some (.int r) ∧ Fr n0 LQ ∧ hQ = h0 ∧ ((r = 0 ∧ ¬ key = d0) ∨ (r = f0 ∧ key = d0))
set_option maxRecDepth 65536 in
set_option maxHeartbeats 40000000 in
theorem rmF1 (l : Launch) (Z : State) (a0 : Array Value) (hw : ∀ d ∈ tables_1, d.before a0 Z = true) (ws : List Jvm.Cond) (a : Addr) (key : Int32) (d : Addr) (f : Addr) (d0 : Int32) (f0 : Int32) (h0 : Heap) (n0 : Nat) (Z0 : n0 ≤ h0.size) (P0 : Fld Z h0 a "com/example/libcosearch/libcosearch/PostingList" "documents" "[I" (.ref d)) (P1 : Fld Z h0 a "com/example/libcosearch/libcosearch/PostingList" "frequencies" "[I" (.ref f)) (P2 : Ia Z h0 d .int [d0]) (P3 : Ia Z h0 f .int [f0]) :
    MetFree l (⟨"com/example/libcosearch/libcosearch/PostingList", "frequencyIn", "(I)I"⟩ : MethodName) (head1 (Jvm.Cond.code (⟨"com/example/libcosearch/libcosearch/PostingList", "frequencyIn", "(I)I"⟩ : MethodName) prog_22_method_5_code 3 (some .int) :: ws) ({ frames := 2, cells := 0, slots := 0, locals := 32 } : Room)) (fun aQ UQ => aQ = #[(.ref a), (.int key)] ∧ Z.Warmed39 UQ.vm ∧ UQ.heap = h0) (fun _ _ _ _ _ => True) (fun _ UQ oQ UR => ∃ vQ LQ, oQ = .returned vQ ∧ Q_rmF1 Z a key d f d0 f0 h0 n0 vQ UR.heap LQ ∧ FrameEnd UQ oQ UR LQ ({ frames := 2, cells := 0, slots := 0, locals := 32 } : Room).cells ({ frames := 2, cells := 0, slots := 0, locals := 32 } : Room).slots) := by
  refine MetFree.of_bodySF (plainFor_of_name pn_5) hisR ?_
  intro p e s m args below meth c s₁ Bd hml0 hP hK
  obtain ⟨rfl, hZ, hh⟩ := hP
  have hx := Bd.exec
  have hby := Bd.bytes
  have hlk := Bd.notSynchronized
  have hml : c.maxLocals = 3 := hml0
  have hown : s.vm.findClass "com/example/libcosearch/libcosearch/PostingList" = some m.cls := findClass_of_methodNamed Bd.named
  have hnm := (name_of_methodNamed Bd.named Bd.method).1
  have X0 : Stand p l e ({ frames := 2, cells := 0, slots := 0, locals := 32 } : Room) s m #[(.ref a), (.int key)] below meth c s₁ [] 0 0 := Stand.of_body Bd
  have e0 : s₁.heap = h0 := by rw [← hh, Bd.state]; rfl
  have N0 := Fr.nil n0
  show Go p e below _ (Done s (Q_rmF1 Z a key d f d0 f0 h0 n0) ({ frames := 2, cells := 0, slots := 0, locals := 32 } : Room).cells ({ frames := 2, cells := 0, slots := 0, locals := 32 } : Room).slots)
  refine Go.via (fun tQ kQ => castTop (ef_5 m a key) kQ) ?_
  show Go p e below (s₁.setTop (mkF m 0 #[.val (.ref a), .val (.int key), .unset] [])) _
  refine Go.via (fun _ => XS.aloadN X0.here hx rfl (hb hby d5_0) rfl rfl) ?_
  obtain ⟨T79, X79, e79, st79⟩ := getF X0 hx hZ hown (host := "") (Or.inl (tw hw 18 rfl)) Via.refl e0 P0 (g := (mkF m 1 #[.val (.ref a), .val (.int key), .unset] [(.ref a)])) rfl rfl (hb hby d5_1)
  refine Go.via (st79) ?_
  show Go p e below (T79.setTop (mkF m 4 #[.val (.ref a), .val (.int key), .unset] [(.ref d)])) _
  refine Go.via (fun _ => XS.iloadN X79.here hx rfl (hb hby d5_4) rfl) ?_
  obtain ⟨_, _, ⟨T80, L80, k80, n80⟩, -, X80, ⟨Lc80, hQ80, l80, y80, z80⟩, st80⟩ := Jvm.LawKit.callS X79 hx (y := (⟨"java/util/Arrays", "binarySearch", "([II)I"⟩ : MethodName)) hown (mvT hZ (tw hw 29 rfl)) (mvT hZ (tw hw 30 rfl)) (mvT hZ (tw hw 31 rfl)) (mvT hZ (tw hw 32 rfl)) (by decide) (backOf (W := 0) (rmB1 l Z a0 hw [] d key d0 h0 n0 Z0 P2) hZ (tw hw 32 rfl) (tw hw 31 rfl) (by decide) (by decide)) (g := (mkF m 5 #[.val (.ref a), .val (.int key), .unset] [(.int key), (.ref d)])) rfl (by rw [hml]; rfl) (argsL := [(.ref d), (.int key)]) (rest := []) (lenOf pd__28_5bII_29I rfl) rfl (by show 2 * 0 + _ ≤ _; exact Nat.le_of_eq rfl) (hb hby d5_5) (fun _ _ => ⟨rfl, e79, (by decide : 0 + 0 ≤ _), (by decide : 0 + 0 ≤ _)⟩)
  dsimp only [Pt.U, Pt.locs, Pt.cells, Pt.slots] at X80 l80 y80 z80 st80 hQ80
  subst l80 y80 z80
  obtain ⟨v81, rfl, N80q, eh80, qp82⟩ := hQ80
  have N80 := Fr.app N0 N80q
  refine Go.via (st80) ?_
  have e80 : T80.heap = h0 := eh80
  show Go p e below (T80.setTop (mkF m 8 #[.val (.ref a), .val (.int key), .unset] [(.int v81)])) _
  rcases qp82 with ⟨hneg, hall⟩ | ⟨rfl, hkey⟩
  · show Go p e below (T80.setTop (mkF m 8 #[.val (.ref a), .val (.int key), .unset] [(.int v81)])) _
    refine Go.via (fun _ => XS.istoreN X80.here hx rfl (hb hby d5_8) rfl (l' := #[.val (.ref a), .val (.int key), .val (.int v81)]) rfl) ?_
    show Go p e below (T80.setTop (mkF m 9 #[.val (.ref a), .val (.int key), .val (.int v81)] [])) _
    refine Go.via (fun _ => XS.iloadN X80.here hx rfl (hb hby d5_9) rfl) ?_
    refine Go.via (fun _ => XS.ifYes X80.here hx rfl (pc0 := 10) (pc' := 22) rfl (hb hby d5_10) rfl ((if0 _ _).trans (tlt (hneg : v81 < (0 : Int32))).1) (by decide) (by decide)) ?_
    show Go p e below (T80.setTop (mkF m 22 #[.val (.ref a), .val (.int key), .val (.int v81)] [])) _
    refine Go.via (fun _ => XS.iconst X80.here hx rfl (hb hby d5_22)) ?_
    exact Go.fin X80 hlk (v := some (.int (0 : Int32))) (fun h => by rw [Bd.returns] at h; cases h) (fun fs hr => OwnKit.retI X80 hx Bd.returns (hb hby d5_23) hr) (by rw [e80]; exact ⟨(0 : Int32), rfl, N80, rfl, (Or.inl ⟨rfl, hall⟩)⟩) (by decide) (by decide)
  · show Go p e below (T80.setTop (mkF m 8 #[.val (.ref a), .val (.int key), .unset] [(.int (0 : Int32))])) _
    refine Go.via (fun _ => XS.istoreN X80.here hx rfl (hb hby d5_8) rfl (l' := #[.val (.ref a), .val (.int key), .val (.int (0 : Int32))]) rfl) ?_
    show Go p e below (T80.setTop (mkF m 9 #[.val (.ref a), .val (.int key), .val (.int (0 : Int32))] [])) _
    refine Go.via (fun _ => XS.iloadN X80.here hx rfl (hb hby d5_9) rfl) ?_
    refine Go.via (fun _ => XS.ifNo X80.here hx rfl (hb hby d5_10) rfl ((if0 _ _).trans (flt ((by decide) : ¬ ((0 : Int32) < (0 : Int32)))).1)) ?_
    show Go p e below (T80.setTop (mkF m 13 #[.val (.ref a), .val (.int key), .val (.int (0 : Int32))] [])) _
    refine Go.via (fun _ => XS.aloadN X80.here hx rfl (hb hby d5_13) rfl rfl) ?_
    obtain ⟨T83, X83, e83, st83⟩ := getF X80 hx hZ hown (host := "") (Or.inl (tw hw 20 rfl)) Via.refl e80 P1 (g := (mkF m 14 #[.val (.ref a), .val (.int key), .val (.int (0 : Int32))] [(.ref a)])) rfl rfl (hb hby d5_14)
    refine Go.via (st83) ?_
    show Go p e below (T83.setTop (mkF m 17 #[.val (.ref a), .val (.int key), .val (.int (0 : Int32))] [(.ref f)])) _
    refine Go.via (fun _ => XS.iloadN X83.here hx rfl (hb hby d5_17) rfl) ?_
    refine Go.via (ldI X83 hx hZ e83 P3 (v := f0) (by decide) rfl (g := (mkF m 18 #[.val (.ref a), .val (.int key), .val (.int (0 : Int32))] [(.int (0 : Int32)), (.ref f)])) rfl rfl (hb hby d5_18)) ?_
    show Go p e below (T83.setTop (mkF m 19 #[.val (.ref a), .val (.int key), .val (.int (0 : Int32))] [(.int f0)])) _
    refine Go.via (fun _ => XS.goto X83.here hx rfl (pc0 := 19) (pc' := 23) rfl (hb hby d5_19) (by decide) (by decide)) ?_
    exact Go.fin X83 hlk (v := some (.int f0)) (fun h => by rw [Bd.returns] at h; cases h) (fun fs hr => OwnKit.retI X83 hx Bd.returns (hb hby d5_23) hr) (by rw [e83]; exact ⟨f0, rfl, N80, rfl, (Or.inr (⟨rfl, hkey⟩))⟩) (by decide) (by decide)
def Q_rmS2 (Z : State) (b : Addr) (lo : Int32) (hi : Int32) (key : Int32) (d0 : Int32) (d1 : Int32) (h0 : Heap) (n0 : Nat) (vQ : Option Value) (hQ : Heap) (LQ : List Loc) : Prop := ∃ r : Int32, vQ = some (.int r) ∧ Fr n0 LQ ∧ hQ = h0 ∧ ((r < 0 ∧ ¬ key = d0 ∧ ¬ key = d1) ∨ (r = 0 ∧ key = d0) ∨ (r = 1 ∧ key = d1))
set_option maxRecDepth 65536 in
set_option maxHeartbeats 40000000 in
theorem rmS2 (l : Launch) (Z : State) (a0 : Array Value) (hw : ∀ d ∈ tables_1, d.before a0 Z = true) (ws : List Jvm.Cond) (b : Addr) (lo : Int32) (hi : Int32) (key : Int32) (d0 : Int32) (d1 : Int32) (h0 : Heap) (n0 : Nat) (Z0 : n0 ≤ h0.size) (P0 : Ia Z h0 b .int [d0, d1]) (hlo : lo = 0) (hhi : hi = 2) (h01 : d0 < d1) :
    MetFree l (⟨"java/util/Arrays", "binarySearch0", "([IIII)I"⟩ : MethodName) (head1 (Jvm.Cond.code (⟨"java/util/Arrays", "binarySearch0", "([IIII)I"⟩ : MethodName) jdk_65_method_59_code 8 (some .int) :: ws) ({ frames := 0, cells := 0, slots := 0, locals := 0 } : Room)) (fun aQ UQ => aQ = #[(.ref b), (.int lo), (.int hi), (.int key)] ∧ Z.Warmed39 UQ.vm ∧ UQ.heap = h0) (fun _ _ _ _ _ => True) (fun _ UQ oQ UR => ∃ vQ LQ, oQ = .returned vQ ∧ Q_rmS2 Z b lo hi key d0 d1 h0 n0 vQ UR.heap LQ ∧ FrameEnd UQ oQ UR LQ ({ frames := 0, cells := 0, slots := 0, locals := 0 } : Room).cells ({ frames := 0, cells := 0, slots := 0, locals := 0 } : Room).slots) := by
  refine MetFree.of_bodySF (plainFor_of_name pn_7) hisR ?_
  intro p e s m args below meth c s₁ Bd hml0 hP hK
  obtain ⟨rfl, hZ, hh⟩ := hP
  have hx := Bd.exec
  have hby := Bd.bytes
  have hlk := Bd.notSynchronized
  have hml : c.maxLocals = 8 := hml0
  have hown : s.vm.findClass "java/util/Arrays" = some m.cls := findClass_of_methodNamed Bd.named
  have hnm := (name_of_methodNamed Bd.named Bd.method).1
  have X0 : Stand p l e ({ frames := 0, cells := 0, slots := 0, locals := 0 } : Room) s m #[(.ref b), (.int lo), (.int hi), (.int key)] below meth c s₁ [] 0 0 := Stand.of_body Bd
  have e0 : s₁.heap = h0 := by rw [← hh, Bd.state]; rfl
  have N0 := Fr.nil n0
  show Go p e below _ (Done s (Q_rmS2 Z b lo hi key d0 d1 h0 n0) ({ frames := 0, cells := 0, slots := 0, locals := 0 } : Room).cells ({ frames := 0, cells := 0, slots := 0, locals := 0 } : Room).slots)
  refine Go.via (fun tQ kQ => castTop (ef_7 m b lo hi key) kQ) ?_
  show Go p e below (s₁.setTop (mkF m 0 #[.val (.ref b), .val (.int lo), .val (.int hi), .val (.int key), .unset, .unset, .unset, .unset] [])) _
  · subst hlo hhi
    show Go p e below (s₁.setTop (mkF m 0 #[.val (.ref b), .val (.int (0 : Int32)), .val (.int (2 : Int32)), .val (.int key), .unset, .unset, .unset, .unset] [])) _
    refine Go.via (fun _ => XS.iloadN X0.here hx rfl (hb hby d7_0) rfl) ?_
    refine Go.via (fun _ => XS.istore X0.here hx rfl (hb hby d7_1) rfl (l' := #[.val (.ref b), .val (.int (0 : Int32)), .val (.int (2 : Int32)), .val (.int key), .val (.int (0 : Int32)), .unset, .unset, .unset]) rfl) ?_
    show Go p e below (s₁.setTop (mkF m 3 #[.val (.ref b), .val (.int (0 : Int32)), .val (.int (2 : Int32)), .val (.int key), .val (.int (0 : Int32)), .unset, .unset, .unset] [])) _
    refine Go.via (fun _ => XS.iloadN X0.here hx rfl (hb hby d7_3) rfl) ?_
    refine Go.via (fun _ => XS.iconst X0.here hx rfl (hb hby d7_4)) ?_
    refine Go.via (fun _ => XS.isub X0.here hx rfl (hb hby d7_5) rfl) ?_
    show Go p e below (s₁.setTop (mkF m 6 #[.val (.ref b), .val (.int (0 : Int32)), .val (.int (2 : Int32)), .val (.int key), .val (.int (0 : Int32)), .unset, .unset, .unset] [(.int (1 : Int32))])) _
    refine Go.via (fun _ => XS.istore X0.here hx rfl (hb hby d7_6) rfl (l' := #[.val (.ref b), .val (.int (0 : Int32)), .val (.int (2 : Int32)), .val (.int key), .val (.int (0 : Int32)), .val (.int (1 : Int32)), .unset, .unset]) rfl) ?_
    show Go p e below (s₁.setTop (mkF m 8 #[.val (.ref b), .val (.int (0 : Int32)), .val (.int (2 : Int32)), .val (.int key), .val (.int (0 : Int32)), .val (.int (1 : Int32)), .unset, .unset] [])) _
    refine Go.via (fun _ => XS.iload X0.here hx rfl (hb hby d7_8) rfl) ?_
    refine Go.via (fun _ => XS.iload X0.here hx rfl (hb hby d7_10) rfl) ?_
    refine Go.via (fun _ => XS.icmpNo X0.here hx rfl (hb hby d7_12) rfl (flt ((by decide) : ¬ ((1 : Int32) < (0 : Int32)))).2.2.1) ?_
    show Go p e below (s₁.setTop (mkF m 15 #[.val (.ref b), .val (.int (0 : Int32)), .val (.int (2 : Int32)), .val (.int key), .val (.int (0 : Int32)), .val (.int (1 : Int32)), .unset, .unset] [])) _
    refine Go.via (fun _ => XS.iload X0.here hx rfl (hb hby d7_15) rfl) ?_
    refine Go.via (fun _ => XS.iload X0.here hx rfl (hb hby d7_17) rfl) ?_
    refine Go.via (fun _ => XS.iadd X0.here hx rfl (hb hby d7_19) rfl) ?_
    show Go p e below (s₁.setTop (mkF m 20 #[.val (.ref b), .val (.int (0 : Int32)), .val (.int (2 : Int32)), .val (.int key), .val (.int (0 : Int32)), .val (.int (1 : Int32)), .unset, .unset] [(.int (1 : Int32))])) _
    refine Go.via (fun _ => XS.iconst X0.here hx rfl (hb hby d7_20)) ?_
    refine Go.via (fun _ => XS.iushr X0.here hx rfl (hb hby d7_21) rfl) ?_
    show Go p e below (s₁.setTop (mkF m 22 #[.val (.ref b), .val (.int (0 : Int32)), .val (.int (2 : Int32)), .val (.int key), .val (.int (0 : Int32)), .val (.int (1 : Int32)), .unset, .unset] [(.int (0 : Int32))])) _
    refine Go.via (fun _ => XS.istore X0.here hx rfl (hb hby d7_22) rfl (l' := #[.val (.ref b), .val (.int (0 : Int32)), .val (.int (2 : Int32)), .val (.int key), .val (.int (0 : Int32)), .val (.int (1 : Int32)), .val (.int (0 : Int32)), .unset]) rfl) ?_
    show Go p e below (s₁.setTop (mkF m 24 #[.val (.ref b), .val (.int (0 : Int32)), .val (.int (2 : Int32)), .val (.int key), .val (.int (0 : Int32)), .val (.int (1 : Int32)), .val (.int (0 : Int32)), .unset] [])) _
    refine Go.via (fun _ => XS.aloadN X0.here hx rfl (hb hby d7_24) rfl rfl) ?_
    refine Go.via (fun _ => XS.iload X0.here hx rfl (hb hby d7_25) rfl) ?_
    refine Go.via (ldI X0 hx hZ e0 P0 (v := d0) (by decide) rfl (g := (mkF m 27 #[.val (.ref b), .val (.int (0 : Int32)), .val (.int (2 : Int32)), .val (.int key), .val (.int (0 : Int32)), .val (.int (1 : Int32)), .val (.int (0 : Int32)), .unset] [(.int (0 : Int32)), (.ref b)])) rfl rfl (hb hby d7_27)) ?_
    show Go p e below (s₁.setTop (mkF m 28 #[.val (.ref b), .val (.int (0 : Int32)), .val (.int (2 : Int32)), .val (.int key), .val (.int (0 : Int32)), .val (.int (1 : Int32)), .val (.int (0 : Int32)), .unset] [(.int d0)])) _
    refine Go.via (fun _ => XS.istore X0.here hx rfl (hb hby d7_28) rfl (l' := #[.val (.ref b), .val (.int (0 : Int32)), .val (.int (2 : Int32)), .val (.int key), .val (.int (0 : Int32)), .val (.int (1 : Int32)), .val (.int (0 : Int32)), .val (.int d0)]) rfl) ?_
    show Go p e below (s₁.setTop (mkF m 30 #[.val (.ref b), .val (.int (0 : Int32)), .val (.int (2 : Int32)), .val (.int key), .val (.int (0 : Int32)), .val (.int (1 : Int32)), .val (.int (0 : Int32)), .val (.int d0)] [])) _
    refine Go.via (fun _ => XS.iload X0.here hx rfl (hb hby d7_30) rfl) ?_
    refine Go.via (fun _ => XS.iloadN X0.here hx rfl (hb hby d7_32) rfl) ?_
    by_cases hc84 : d0 < key
    · refine Go.via (fun _ => XS.icmpNo X0.here hx rfl (hb hby d7_33) rfl (tlt (hc84 : d0 < key)).2.1) ?_
      refine Go.via (fun _ => XS.iload X0.here hx rfl (hb hby d7_36) rfl) ?_
      refine Go.via (fun _ => XS.iconst X0.here hx rfl (hb hby d7_38)) ?_
      show Go p e below (s₁.setTop (mkF m 39 #[.val (.ref b), .val (.int (0 : Int32)), .val (.int (2 : Int32)), .val (.int key), .val (.int (0 : Int32)), .val (.int (1 : Int32)), .val (.int (0 : Int32)), .val (.int d0)] [(.int (1 : Int32)), (.int (0 : Int32))])) _
      refine Go.via (fun _ => XS.iadd X0.here hx rfl (hb hby d7_39) rfl) ?_
      show Go p e below (s₁.setTop (mkF m 40 #[.val (.ref b), .val (.int (0 : Int32)), .val (.int (2 : Int32)), .val (.int key), .val (.int (0 : Int32)), .val (.int (1 : Int32)), .val (.int (0 : Int32)), .val (.int d0)] [(.int (1 : Int32))])) _
      refine Go.via (fun _ => XS.istore X0.here hx rfl (hb hby d7_40) rfl (l' := #[.val (.ref b), .val (.int (0 : Int32)), .val (.int (2 : Int32)), .val (.int key), .val (.int (1 : Int32)), .val (.int (1 : Int32)), .val (.int (0 : Int32)), .val (.int d0)]) rfl) ?_
      show Go p e below (s₁.setTop (mkF m 42 #[.val (.ref b), .val (.int (0 : Int32)), .val (.int (2 : Int32)), .val (.int key), .val (.int (1 : Int32)), .val (.int (1 : Int32)), .val (.int (0 : Int32)), .val (.int d0)] [])) _
      refine Go.via (fun _ => XS.goto X0.here hx rfl (pc0 := 42) (pc' := 63) rfl (hb hby d7_42) (by decide) (by decide)) ?_
      refine Go.via (fun _ => XS.goto X0.here hx rfl (pc0 := 63) (pc' := 8) rfl (hb hby d7_63) (by decide) (by decide)) ?_
      refine Go.via (fun _ => XS.iload X0.here hx rfl (hb hby d7_8) rfl) ?_
      refine Go.via (fun _ => XS.iload X0.here hx rfl (hb hby d7_10) rfl) ?_
      show Go p e below (s₁.setTop (mkF m 12 #[.val (.ref b), .val (.int (0 : Int32)), .val (.int (2 : Int32)), .val (.int key), .val (.int (1 : Int32)), .val (.int (1 : Int32)), .val (.int (0 : Int32)), .val (.int d0)] [(.int (1 : Int32)), (.int (1 : Int32))])) _
      refine Go.via (fun _ => XS.icmpNo X0.here hx rfl (hb hby d7_12) rfl (flt ((by decide) : ¬ ((1 : Int32) < (1 : Int32)))).2.2.1) ?_
      show Go p e below (s₁.setTop (mkF m 15 #[.val (.ref b), .val (.int (0 : Int32)), .val (.int (2 : Int32)), .val (.int key), .val (.int (1 : Int32)), .val (.int (1 : Int32)), .val (.int (0 : Int32)), .val (.int d0)] [])) _
      refine Go.via (fun _ => XS.iload X0.here hx rfl (hb hby d7_15) rfl) ?_
      refine Go.via (fun _ => XS.iload X0.here hx rfl (hb hby d7_17) rfl) ?_
      refine Go.via (fun _ => XS.iadd X0.here hx rfl (hb hby d7_19) rfl) ?_
      show Go p e below (s₁.setTop (mkF m 20 #[.val (.ref b), .val (.int (0 : Int32)), .val (.int (2 : Int32)), .val (.int key), .val (.int (1 : Int32)), .val (.int (1 : Int32)), .val (.int (0 : Int32)), .val (.int d0)] [(.int (2 : Int32))])) _
      refine Go.via (fun _ => XS.iconst X0.here hx rfl (hb hby d7_20)) ?_
      refine Go.via (fun _ => XS.iushr X0.here hx rfl (hb hby d7_21) rfl) ?_
      show Go p e below (s₁.setTop (mkF m 22 #[.val (.ref b), .val (.int (0 : Int32)), .val (.int (2 : Int32)), .val (.int key), .val (.int (1 : Int32)), .val (.int (1 : Int32)), .val (.int (0 : Int32)), .val (.int d0)] [(.int (1 : Int32))])) _
      refine Go.via (fun _ => XS.istore X0.here hx rfl (hb hby d7_22) rfl (l' := #[.val (.ref b), .val (.int (0 : Int32)), .val (.int (2 : Int32)), .val (.int key), .val (.int (1 : Int32)), .val (.int (1 : Int32)), .val (.int (1 : Int32)), .val (.int d0)]) rfl) ?_
      show Go p e below (s₁.setTop (mkF m 24 #[.val (.ref b), .val (.int (0 : Int32)), .val (.int (2 : Int32)), .val (.int key), .val (.int (1 : Int32)), .val (.int (1 : Int32)), .val (.int (1 : Int32)), .val (.int d0)] [])) _
      refine Go.via (fun _ => XS.aloadN X0.here hx rfl (hb hby d7_24) rfl rfl) ?_
      refine Go.via (fun _ => XS.iload X0.here hx rfl (hb hby d7_25) rfl) ?_
      refine Go.via (ldI X0 hx hZ e0 P0 (v := d1) (by decide) rfl (g := (mkF m 27 #[.val (.ref b), .val (.int (0 : Int32)), .val (.int (2 : Int32)), .val (.int key), .val (.int (1 : Int32)), .val (.int (1 : Int32)), .val (.int (1 : Int32)), .val (.int d0)] [(.int (1 : Int32)), (.ref b)])) rfl rfl (hb hby d7_27)) ?_
      show Go p e below (s₁.setTop (mkF m 28 #[.val (.ref b), .val (.int (0 : Int32)), .val (.int (2 : Int32)), .val (.int key), .val (.int (1 : Int32)), .val (.int (1 : Int32)), .val (.int (1 : Int32)), .val (.int d0)] [(.int d1)])) _
      refine Go.via (fun _ => XS.istore X0.here hx rfl (hb hby d7_28) rfl (l' := #[.val (.ref b), .val (.int (0 : Int32)), .val (.int (2 : Int32)), .val (.int key), .val (.int (1 : Int32)), .val (.int (1 : Int32)), .val (.int (1 : Int32)), .val (.int d1)]) rfl) ?_
      show Go p e below (s₁.setTop (mkF m 30 #[.val (.ref b), .val (.int (0 : Int32)), .val (.int (2 : Int32)), .val (.int key), .val (.int (1 : Int32)), .val (.int (1 : Int32)), .val (.int (1 : Int32)), .val (.int d1)] [])) _
      refine Go.via (fun _ => XS.iload X0.here hx rfl (hb hby d7_30) rfl) ?_
      refine Go.via (fun _ => XS.iloadN X0.here hx rfl (hb hby d7_32) rfl) ?_
      by_cases hc85 : d1 < key
      · refine Go.via (fun _ => XS.icmpNo X0.here hx rfl (hb hby d7_33) rfl (tlt (hc85 : d1 < key)).2.1) ?_
        refine Go.via (fun _ => XS.iload X0.here hx rfl (hb hby d7_36) rfl) ?_
        refine Go.via (fun _ => XS.iconst X0.here hx rfl (hb hby d7_38)) ?_
        show Go p e below (s₁.setTop (mkF m 39 #[.val (.ref b), .val (.int (0 : Int32)), .val (.int (2 : Int32)), .val (.int key), .val (.int (1 : Int32)), .val (.int (1 : Int32)), .val (.int (1 : Int32)), .val (.int d1)] [(.int (1 : Int32)), (.int (1 : Int32))])) _
        refine Go.via (fun _ => XS.iadd X0.here hx rfl (hb hby d7_39) rfl) ?_
        show Go p e below (s₁.setTop (mkF m 40 #[.val (.ref b), .val (.int (0 : Int32)), .val (.int (2 : Int32)), .val (.int key), .val (.int (1 : Int32)), .val (.int (1 : Int32)), .val (.int (1 : Int32)), .val (.int d1)] [(.int (2 : Int32))])) _
        refine Go.via (fun _ => XS.istore X0.here hx rfl (hb hby d7_40) rfl (l' := #[.val (.ref b), .val (.int (0 : Int32)), .val (.int (2 : Int32)), .val (.int key), .val (.int (2 : Int32)), .val (.int (1 : Int32)), .val (.int (1 : Int32)), .val (.int d1)]) rfl) ?_
        show Go p e below (s₁.setTop (mkF m 42 #[.val (.ref b), .val (.int (0 : Int32)), .val (.int (2 : Int32)), .val (.int key), .val (.int (2 : Int32)), .val (.int (1 : Int32)), .val (.int (1 : Int32)), .val (.int d1)] [])) _
        refine Go.via (fun _ => XS.goto X0.here hx rfl (pc0 := 42) (pc' := 63) rfl (hb hby d7_42) (by decide) (by decide)) ?_
        refine Go.via (fun _ => XS.goto X0.here hx rfl (pc0 := 63) (pc' := 8) rfl (hb hby d7_63) (by decide) (by decide)) ?_
        refine Go.via (fun _ => XS.iload X0.here hx rfl (hb hby d7_8) rfl) ?_
        refine Go.via (fun _ => XS.iload X0.here hx rfl (hb hby d7_10) rfl) ?_
        show Go p e below (s₁.setTop (mkF m 12 #[.val (.ref b), .val (.int (0 : Int32)), .val (.int (2 : Int32)), .val (.int key), .val (.int (2 : Int32)), .val (.int (1 : Int32)), .val (.int (1 : Int32)), .val (.int d1)] [(.int (1 : Int32)), (.int (2 : Int32))])) _
        refine Go.via (fun _ => XS.icmpYes X0.here hx rfl (pc0 := 12) (pc' := 66) rfl (hb hby d7_12) rfl (tlt ((by decide) : (1 : Int32) < (2 : Int32))).2.2.1 (by decide) (by decide)) ?_
        show Go p e below (s₁.setTop (mkF m 66 #[.val (.ref b), .val (.int (0 : Int32)), .val (.int (2 : Int32)), .val (.int key), .val (.int (2 : Int32)), .val (.int (1 : Int32)), .val (.int (1 : Int32)), .val (.int d1)] [])) _
        refine Go.via (fun _ => XS.iload X0.here hx rfl (hb hby d7_66) rfl) ?_
        refine Go.via (fun _ => XS.iconst X0.here hx rfl (hb hby d7_68)) ?_
        refine Go.via (fun _ => XS.iadd X0.here hx rfl (hb hby d7_69) rfl) ?_
        show Go p e below (s₁.setTop (mkF m 70 #[.val (.ref b), .val (.int (0 : Int32)), .val (.int (2 : Int32)), .val (.int key), .val (.int (2 : Int32)), .val (.int (1 : Int32)), .val (.int (1 : Int32)), .val (.int d1)] [(.int (3 : Int32))])) _
        refine Go.via (fun _ => XS.ineg X0.here hx rfl (hb hby d7_70) rfl) ?_
        show Go p e below (s₁.setTop (mkF m 71 #[.val (.ref b), .val (.int (0 : Int32)), .val (.int (2 : Int32)), .val (.int key), .val (.int (2 : Int32)), .val (.int (1 : Int32)), .val (.int (1 : Int32)), .val (.int d1)] [(.int (-3 : Int32))])) _
        exact Go.fin X0 hlk (v := some (.int (-3 : Int32))) (fun h => by rw [Bd.returns] at h; cases h) (fun fs hr => OwnKit.retI X0 hx Bd.returns (hb hby d7_71) hr) (by rw [e0]; exact ⟨(-3 : Int32), rfl, N0, rfl, (by clear hw; refine Or.inl ⟨by decide, ?_, ?_⟩ <;> (simp only [Int32.lt_iff_toInt_lt, ← Int32.toInt_inj] at *; omega))⟩) (by decide) (by decide)
      · refine Go.via (fun _ => XS.icmpYes X0.here hx rfl (pc0 := 33) (pc' := 45) rfl (hb hby d7_33) rfl (flt (hc85 : ¬ (d1 < key))).2.1 (by decide) (by decide)) ?_
        refine Go.via (fun _ => XS.iload X0.here hx rfl (hb hby d7_45) rfl) ?_
        refine Go.via (fun _ => XS.iloadN X0.here hx rfl (hb hby d7_47) rfl) ?_
        show Go p e below (s₁.setTop (mkF m 48 #[.val (.ref b), .val (.int (0 : Int32)), .val (.int (2 : Int32)), .val (.int key), .val (.int (1 : Int32)), .val (.int (1 : Int32)), .val (.int (1 : Int32)), .val (.int d1)] [(.int key), (.int d1)])) _
        by_cases hc86 : key < d1
        · refine Go.via (fun _ => XS.icmpNo X0.here hx rfl (hb hby d7_48) rfl (tlt (hc86 : key < d1)).2.2.2) ?_
          show Go p e below (s₁.setTop (mkF m 51 #[.val (.ref b), .val (.int (0 : Int32)), .val (.int (2 : Int32)), .val (.int key), .val (.int (1 : Int32)), .val (.int (1 : Int32)), .val (.int (1 : Int32)), .val (.int d1)] [])) _
          refine Go.via (fun _ => XS.iload X0.here hx rfl (hb hby d7_51) rfl) ?_
          refine Go.via (fun _ => XS.iconst X0.here hx rfl (hb hby d7_53)) ?_
          refine Go.via (fun _ => XS.isub X0.here hx rfl (hb hby d7_54) rfl) ?_
          show Go p e below (s₁.setTop (mkF m 55 #[.val (.ref b), .val (.int (0 : Int32)), .val (.int (2 : Int32)), .val (.int key), .val (.int (1 : Int32)), .val (.int (1 : Int32)), .val (.int (1 : Int32)), .val (.int d1)] [(.int (0 : Int32))])) _
          refine Go.via (fun _ => XS.istore X0.here hx rfl (hb hby d7_55) rfl (l' := #[.val (.ref b), .val (.int (0 : Int32)), .val (.int (2 : Int32)), .val (.int key), .val (.int (1 : Int32)), .val (.int (0 : Int32)), .val (.int (1 : Int32)), .val (.int d1)]) rfl) ?_
          show Go p e below (s₁.setTop (mkF m 57 #[.val (.ref b), .val (.int (0 : Int32)), .val (.int (2 : Int32)), .val (.int key), .val (.int (1 : Int32)), .val (.int (0 : Int32)), .val (.int (1 : Int32)), .val (.int d1)] [])) _
          refine Go.via (fun _ => XS.goto X0.here hx rfl (pc0 := 57) (pc' := 63) rfl (hb hby d7_57) (by decide) (by decide)) ?_
          refine Go.via (fun _ => XS.goto X0.here hx rfl (pc0 := 63) (pc' := 8) rfl (hb hby d7_63) (by decide) (by decide)) ?_
          refine Go.via (fun _ => XS.iload X0.here hx rfl (hb hby d7_8) rfl) ?_
          refine Go.via (fun _ => XS.iload X0.here hx rfl (hb hby d7_10) rfl) ?_
          show Go p e below (s₁.setTop (mkF m 12 #[.val (.ref b), .val (.int (0 : Int32)), .val (.int (2 : Int32)), .val (.int key), .val (.int (1 : Int32)), .val (.int (0 : Int32)), .val (.int (1 : Int32)), .val (.int d1)] [(.int (0 : Int32)), (.int (1 : Int32))])) _
          refine Go.via (fun _ => XS.icmpYes X0.here hx rfl (pc0 := 12) (pc' := 66) rfl (hb hby d7_12) rfl (tlt ((by decide) : (0 : Int32) < (1 : Int32))).2.2.1 (by decide) (by decide)) ?_
          show Go p e below (s₁.setTop (mkF m 66 #[.val (.ref b), .val (.int (0 : Int32)), .val (.int (2 : Int32)), .val (.int key), .val (.int (1 : Int32)), .val (.int (0 : Int32)), .val (.int (1 : Int32)), .val (.int d1)] [])) _
          refine Go.via (fun _ => XS.iload X0.here hx rfl (hb hby d7_66) rfl) ?_
          refine Go.via (fun _ => XS.iconst X0.here hx rfl (hb hby d7_68)) ?_
          refine Go.via (fun _ => XS.iadd X0.here hx rfl (hb hby d7_69) rfl) ?_
          show Go p e below (s₁.setTop (mkF m 70 #[.val (.ref b), .val (.int (0 : Int32)), .val (.int (2 : Int32)), .val (.int key), .val (.int (1 : Int32)), .val (.int (0 : Int32)), .val (.int (1 : Int32)), .val (.int d1)] [(.int (2 : Int32))])) _
          refine Go.via (fun _ => XS.ineg X0.here hx rfl (hb hby d7_70) rfl) ?_
          show Go p e below (s₁.setTop (mkF m 71 #[.val (.ref b), .val (.int (0 : Int32)), .val (.int (2 : Int32)), .val (.int key), .val (.int (1 : Int32)), .val (.int (0 : Int32)), .val (.int (1 : Int32)), .val (.int d1)] [(.int (-2 : Int32))])) _
          exact Go.fin X0 hlk (v := some (.int (-2 : Int32))) (fun h => by rw [Bd.returns] at h; cases h) (fun fs hr => OwnKit.retI X0 hx Bd.returns (hb hby d7_71) hr) (by rw [e0]; exact ⟨(-2 : Int32), rfl, N0, rfl, (by clear hw; refine Or.inl ⟨by decide, ?_, ?_⟩ <;> (simp only [Int32.lt_iff_toInt_lt, ← Int32.toInt_inj] at *; omega))⟩) (by decide) (by decide)
        · refine Go.via (fun _ => XS.icmpYes X0.here hx rfl (pc0 := 48) (pc' := 60) rfl (hb hby d7_48) rfl (flt (hc86 : ¬ (key < d1))).2.2.2 (by decide) (by decide)) ?_
          show Go p e below (s₁.setTop (mkF m 60 #[.val (.ref b), .val (.int (0 : Int32)), .val (.int (2 : Int32)), .val (.int key), .val (.int (1 : Int32)), .val (.int (1 : Int32)), .val (.int (1 : Int32)), .val (.int d1)] [])) _
          refine Go.via (fun _ => XS.iload X0.here hx rfl (hb hby d7_60) rfl) ?_
          exact Go.fin X0 hlk (v := some (.int (1 : Int32))) (fun h => by rw [Bd.returns] at h; cases h) (fun fs hr => OwnKit.retI X0 hx Bd.returns (hb hby d7_62) hr) (by rw [e0]; exact ⟨(1 : Int32), rfl, N0, rfl, (by clear hw; refine Or.inr (Or.inr (⟨by decide, ?_⟩)) <;> (simp only [Int32.lt_iff_toInt_lt, ← Int32.toInt_inj] at *; omega))⟩) (by decide) (by decide)
    · refine Go.via (fun _ => XS.icmpYes X0.here hx rfl (pc0 := 33) (pc' := 45) rfl (hb hby d7_33) rfl (flt (hc84 : ¬ (d0 < key))).2.1 (by decide) (by decide)) ?_
      refine Go.via (fun _ => XS.iload X0.here hx rfl (hb hby d7_45) rfl) ?_
      refine Go.via (fun _ => XS.iloadN X0.here hx rfl (hb hby d7_47) rfl) ?_
      show Go p e below (s₁.setTop (mkF m 48 #[.val (.ref b), .val (.int (0 : Int32)), .val (.int (2 : Int32)), .val (.int key), .val (.int (0 : Int32)), .val (.int (1 : Int32)), .val (.int (0 : Int32)), .val (.int d0)] [(.int key), (.int d0)])) _
      by_cases hc87 : key < d0
      · refine Go.via (fun _ => XS.icmpNo X0.here hx rfl (hb hby d7_48) rfl (tlt (hc87 : key < d0)).2.2.2) ?_
        show Go p e below (s₁.setTop (mkF m 51 #[.val (.ref b), .val (.int (0 : Int32)), .val (.int (2 : Int32)), .val (.int key), .val (.int (0 : Int32)), .val (.int (1 : Int32)), .val (.int (0 : Int32)), .val (.int d0)] [])) _
        refine Go.via (fun _ => XS.iload X0.here hx rfl (hb hby d7_51) rfl) ?_
        refine Go.via (fun _ => XS.iconst X0.here hx rfl (hb hby d7_53)) ?_
        refine Go.via (fun _ => XS.isub X0.here hx rfl (hb hby d7_54) rfl) ?_
        show Go p e below (s₁.setTop (mkF m 55 #[.val (.ref b), .val (.int (0 : Int32)), .val (.int (2 : Int32)), .val (.int key), .val (.int (0 : Int32)), .val (.int (1 : Int32)), .val (.int (0 : Int32)), .val (.int d0)] [(.int (-1 : Int32))])) _
        refine Go.via (fun _ => XS.istore X0.here hx rfl (hb hby d7_55) rfl (l' := #[.val (.ref b), .val (.int (0 : Int32)), .val (.int (2 : Int32)), .val (.int key), .val (.int (0 : Int32)), .val (.int (-1 : Int32)), .val (.int (0 : Int32)), .val (.int d0)]) rfl) ?_
        show Go p e below (s₁.setTop (mkF m 57 #[.val (.ref b), .val (.int (0 : Int32)), .val (.int (2 : Int32)), .val (.int key), .val (.int (0 : Int32)), .val (.int (-1 : Int32)), .val (.int (0 : Int32)), .val (.int d0)] [])) _
        refine Go.via (fun _ => XS.goto X0.here hx rfl (pc0 := 57) (pc' := 63) rfl (hb hby d7_57) (by decide) (by decide)) ?_
        refine Go.via (fun _ => XS.goto X0.here hx rfl (pc0 := 63) (pc' := 8) rfl (hb hby d7_63) (by decide) (by decide)) ?_
        refine Go.via (fun _ => XS.iload X0.here hx rfl (hb hby d7_8) rfl) ?_
        refine Go.via (fun _ => XS.iload X0.here hx rfl (hb hby d7_10) rfl) ?_
        show Go p e below (s₁.setTop (mkF m 12 #[.val (.ref b), .val (.int (0 : Int32)), .val (.int (2 : Int32)), .val (.int key), .val (.int (0 : Int32)), .val (.int (-1 : Int32)), .val (.int (0 : Int32)), .val (.int d0)] [(.int (-1 : Int32)), (.int (0 : Int32))])) _
        refine Go.via (fun _ => XS.icmpYes X0.here hx rfl (pc0 := 12) (pc' := 66) rfl (hb hby d7_12) rfl (tlt ((by decide) : (-1 : Int32) < (0 : Int32))).2.2.1 (by decide) (by decide)) ?_
        show Go p e below (s₁.setTop (mkF m 66 #[.val (.ref b), .val (.int (0 : Int32)), .val (.int (2 : Int32)), .val (.int key), .val (.int (0 : Int32)), .val (.int (-1 : Int32)), .val (.int (0 : Int32)), .val (.int d0)] [])) _
        refine Go.via (fun _ => XS.iload X0.here hx rfl (hb hby d7_66) rfl) ?_
        refine Go.via (fun _ => XS.iconst X0.here hx rfl (hb hby d7_68)) ?_
        refine Go.via (fun _ => XS.iadd X0.here hx rfl (hb hby d7_69) rfl) ?_
        show Go p e below (s₁.setTop (mkF m 70 #[.val (.ref b), .val (.int (0 : Int32)), .val (.int (2 : Int32)), .val (.int key), .val (.int (0 : Int32)), .val (.int (-1 : Int32)), .val (.int (0 : Int32)), .val (.int d0)] [(.int (1 : Int32))])) _
        refine Go.via (fun _ => XS.ineg X0.here hx rfl (hb hby d7_70) rfl) ?_
        show Go p e below (s₁.setTop (mkF m 71 #[.val (.ref b), .val (.int (0 : Int32)), .val (.int (2 : Int32)), .val (.int key), .val (.int (0 : Int32)), .val (.int (-1 : Int32)), .val (.int (0 : Int32)), .val (.int d0)] [(.int (-1 : Int32))])) _
        exact Go.fin X0 hlk (v := some (.int (-1 : Int32))) (fun h => by rw [Bd.returns] at h; cases h) (fun fs hr => OwnKit.retI X0 hx Bd.returns (hb hby d7_71) hr) (by rw [e0]; exact ⟨(-1 : Int32), rfl, N0, rfl, (by clear hw; refine Or.inl ⟨by decide, ?_, ?_⟩ <;> (simp only [Int32.lt_iff_toInt_lt, ← Int32.toInt_inj] at *; omega))⟩) (by decide) (by decide)
      · refine Go.via (fun _ => XS.icmpYes X0.here hx rfl (pc0 := 48) (pc' := 60) rfl (hb hby d7_48) rfl (flt (hc87 : ¬ (key < d0))).2.2.2 (by decide) (by decide)) ?_
        show Go p e below (s₁.setTop (mkF m 60 #[.val (.ref b), .val (.int (0 : Int32)), .val (.int (2 : Int32)), .val (.int key), .val (.int (0 : Int32)), .val (.int (1 : Int32)), .val (.int (0 : Int32)), .val (.int d0)] [])) _
        refine Go.via (fun _ => XS.iload X0.here hx rfl (hb hby d7_60) rfl) ?_
        exact Go.fin X0 hlk (v := some (.int (0 : Int32))) (fun h => by rw [Bd.returns] at h; cases h) (fun fs hr => OwnKit.retI X0 hx Bd.returns (hb hby d7_62) hr) (by rw [e0]; exact ⟨(0 : Int32), rfl, N0, rfl, (by clear hw; refine Or.inr (Or.inl ⟨by decide, ?_⟩) <;> (simp only [Int32.lt_iff_toInt_lt, ← Int32.toInt_inj] at *; omega))⟩) (by decide) (by decide)
def Q_rmB2 (Z : State) (b : Addr) (key : Int32) (d0 : Int32) (d1 : Int32) (h0 : Heap) (n0 : Nat) (vQ : Option Value) (hQ : Heap) (LQ : List Loc) : Prop := ∃ r : Int32, vQ = some (.int r) ∧ Fr n0 LQ ∧ hQ = h0 ∧ ((r < 0 ∧ ¬ key = d0 ∧ ¬ key = d1) ∨ (r = 0 ∧ key = d0) ∨ (r = 1 ∧ key = d1))
set_option maxRecDepth 65536 in
set_option maxHeartbeats 40000000 in
theorem rmB2 (l : Launch) (Z : State) (a0 : Array Value) (hw : ∀ d ∈ tables_1, d.before a0 Z = true) (ws : List Jvm.Cond) (b : Addr) (key : Int32) (d0 : Int32) (d1 : Int32) (h0 : Heap) (n0 : Nat) (Z0 : n0 ≤ h0.size) (P0 : Ia Z h0 b .int [d0, d1]) (h01 : d0 < d1) :
    MetFree l (⟨"java/util/Arrays", "binarySearch", "([II)I"⟩ : MethodName) (head1 (Jvm.Cond.code (⟨"java/util/Arrays", "binarySearch", "([II)I"⟩ : MethodName) jdk_65_method_57_code 2 (some .int) :: ws) ({ frames := 1, cells := 0, slots := 0, locals := 19 } : Room)) (fun aQ UQ => aQ = #[(.ref b), (.int key)] ∧ Z.Warmed39 UQ.vm ∧ UQ.heap = h0) (fun _ _ _ _ _ => True) (fun _ UQ oQ UR => ∃ vQ LQ, oQ = .returned vQ ∧ Q_rmB2 Z b key d0 d1 h0 n0 vQ UR.heap LQ ∧ FrameEnd UQ oQ UR LQ ({ frames := 1, cells := 0, slots := 0, locals := 19 } : Room).cells ({ frames := 1, cells := 0, slots := 0, locals := 19 } : Room).slots) := by
  refine MetFree.of_bodySF (plainFor_of_name pn_6) hisR ?_
  intro p e s m args below meth c s₁ Bd hml0 hP hK
  obtain ⟨rfl, hZ, hh⟩ := hP
  have hx := Bd.exec
  have hby := Bd.bytes
  have hlk := Bd.notSynchronized
  have hml : c.maxLocals = 2 := hml0
  have hown : s.vm.findClass "java/util/Arrays" = some m.cls := findClass_of_methodNamed Bd.named
  have hnm := (name_of_methodNamed Bd.named Bd.method).1
  have X0 : Stand p l e ({ frames := 1, cells := 0, slots := 0, locals := 19 } : Room) s m #[(.ref b), (.int key)] below meth c s₁ [] 0 0 := Stand.of_body Bd
  have e0 : s₁.heap = h0 := by rw [← hh, Bd.state]; rfl
  have N0 := Fr.nil n0
  show Go p e below _ (Done s (Q_rmB2 Z b key d0 d1 h0 n0) ({ frames := 1, cells := 0, slots := 0, locals := 19 } : Room).cells ({ frames := 1, cells := 0, slots := 0, locals := 19 } : Room).slots)
  refine Go.via (fun tQ kQ => castTop (ef_6 m b key) kQ) ?_
  show Go p e below (s₁.setTop (mkF m 0 #[.val (.ref b), .val (.int key)] [])) _
  refine Go.via (fun _ => XS.aloadN X0.here hx rfl (hb hby d6_0) rfl rfl) ?_
  refine Go.via (fun _ => XS.iconst X0.here hx rfl (hb hby d6_1)) ?_
  refine Go.via (fun _ => XS.aloadN X0.here hx rfl (hb hby d6_2) rfl rfl) ?_
  refine Go.via (lenI X0 hx hZ e0 P0 (n := (2 : Int32)) rfl (g := (mkF m 3 #[.val (.ref b), .val (.int key)] [(.ref b), (.int (0 : Int32)), (.ref b)])) rfl rfl (hb hby d6_3)) ?_
  show Go p e below (s₁.setTop (mkF m 4 #[.val (.ref b), .val (.int key)] [(.int (2 : Int32)), (.int (0 : Int32)), (.ref b)])) _
  refine Go.via (fun _ => XS.iloadN X0.here hx rfl (hb hby d6_4) rfl) ?_
  obtain ⟨_, _, ⟨T88, L88, k88, n88⟩, -, X88, ⟨Lc88, hQ88, l88, y88, z88⟩, st88⟩ := Jvm.LawKit.callS X0 hx (y := (⟨"java/util/Arrays", "binarySearch0", "([IIII)I"⟩ : MethodName)) hown (mvT hZ (tw hw 33 rfl)) (mvT hZ (tw hw 34 rfl)) (mvT hZ (tw hw 31 rfl)) (mvT hZ (tw hw 35 rfl)) (by decide) (backOf (W := 0) (rmS2 l Z a0 hw [] b (0 : Int32) (2 : Int32) key d0 d1 h0 n0 Z0 P0 rfl rfl h01) hZ (tw hw 35 rfl) (tw hw 31 rfl) (by decide) (by decide)) (g := (mkF m 5 #[.val (.ref b), .val (.int key)] [(.int key), (.int (2 : Int32)), (.int (0 : Int32)), (.ref b)])) rfl (by rw [hml]; rfl) (argsL := [(.ref b), (.int (0 : Int32)), (.int (2 : Int32)), (.int key)]) (rest := []) (lenOf pd__28_5bIIII_29I rfl) rfl (by show 2 * 0 + _ ≤ _; exact Nat.le_of_eq rfl) (hb hby d6_5) (fun _ _ => ⟨rfl, e0, (by decide : 0 + 0 ≤ _), (by decide : 0 + 0 ≤ _)⟩)
  dsimp only [Pt.U, Pt.locs, Pt.cells, Pt.slots] at X88 l88 y88 z88 st88 hQ88
  subst l88 y88 z88
  obtain ⟨v89, rfl, N88q, eh88, qp90⟩ := hQ88
  have N88 := Fr.app N0 N88q
  refine Go.via (st88) ?_
  have e88 : T88.heap = h0 := eh88
  show Go p e below (T88.setTop (mkF m 8 #[.val (.ref b), .val (.int key)] [(.int v89)])) _
  exact Go.fin X88 hlk (v := some (.int v89)) (fun h => by rw [Bd.returns] at h; cases h) (fun fs hr => OwnKit.retI X88 hx Bd.returns (hb hby d6_8) hr) (by rw [e88]; exact ⟨v89, rfl, N88, rfl, qp90⟩) (by decide) (by decide)
def Q_rmF2 (Z : State) (a : Addr) (key : Int32) (d : Addr) (f : Addr) (d0 : Int32) (d1 : Int32) (f0 : Int32) (f1 : Int32) (h0 : Heap) (n0 : Nat) (vQ : Option Value) (hQ : Heap) (LQ : List Loc) : Prop := ∃ r : Int32, vQ = some (.int r) ∧ Fr n0 LQ ∧ hQ = h0 ∧ ((r = 0 ∧ ¬ key = d0 ∧ ¬ key = d1) ∨ (r = f0 ∧ key = d0) ∨ (r = f1 ∧ key = d1))
set_option maxRecDepth 65536 in
set_option maxHeartbeats 40000000 in
theorem rmF2 (l : Launch) (Z : State) (a0 : Array Value) (hw : ∀ d ∈ tables_1, d.before a0 Z = true) (ws : List Jvm.Cond) (a : Addr) (key : Int32) (d : Addr) (f : Addr) (d0 : Int32) (d1 : Int32) (f0 : Int32) (f1 : Int32) (h0 : Heap) (n0 : Nat) (Z0 : n0 ≤ h0.size) (P0 : Fld Z h0 a "com/example/libcosearch/libcosearch/PostingList" "documents" "[I" (.ref d)) (P1 : Fld Z h0 a "com/example/libcosearch/libcosearch/PostingList" "frequencies" "[I" (.ref f)) (P2 : Ia Z h0 d .int [d0, d1]) (P3 : Ia Z h0 f .int [f0, f1]) (h01 : d0 < d1) :
    MetFree l (⟨"com/example/libcosearch/libcosearch/PostingList", "frequencyIn", "(I)I"⟩ : MethodName) (head1 (Jvm.Cond.code (⟨"com/example/libcosearch/libcosearch/PostingList", "frequencyIn", "(I)I"⟩ : MethodName) prog_22_method_5_code 3 (some .int) :: ws) ({ frames := 2, cells := 0, slots := 0, locals := 32 } : Room)) (fun aQ UQ => aQ = #[(.ref a), (.int key)] ∧ Z.Warmed39 UQ.vm ∧ UQ.heap = h0) (fun _ _ _ _ _ => True) (fun _ UQ oQ UR => ∃ vQ LQ, oQ = .returned vQ ∧ Q_rmF2 Z a key d f d0 d1 f0 f1 h0 n0 vQ UR.heap LQ ∧ FrameEnd UQ oQ UR LQ ({ frames := 2, cells := 0, slots := 0, locals := 32 } : Room).cells ({ frames := 2, cells := 0, slots := 0, locals := 32 } : Room).slots) := by
  refine MetFree.of_bodySF (plainFor_of_name pn_5) hisR ?_
  intro p e s m args below meth c s₁ Bd hml0 hP hK
  obtain ⟨rfl, hZ, hh⟩ := hP
  have hx := Bd.exec
  have hby := Bd.bytes
  have hlk := Bd.notSynchronized
  have hml : c.maxLocals = 3 := hml0
  have hown : s.vm.findClass "com/example/libcosearch/libcosearch/PostingList" = some m.cls := findClass_of_methodNamed Bd.named
  have hnm := (name_of_methodNamed Bd.named Bd.method).1
  have X0 : Stand p l e ({ frames := 2, cells := 0, slots := 0, locals := 32 } : Room) s m #[(.ref a), (.int key)] below meth c s₁ [] 0 0 := Stand.of_body Bd
  have e0 : s₁.heap = h0 := by rw [← hh, Bd.state]; rfl
  have N0 := Fr.nil n0
  show Go p e below _ (Done s (Q_rmF2 Z a key d f d0 d1 f0 f1 h0 n0) ({ frames := 2, cells := 0, slots := 0, locals := 32 } : Room).cells ({ frames := 2, cells := 0, slots := 0, locals := 32 } : Room).slots)
  refine Go.via (fun tQ kQ => castTop (ef_5 m a key) kQ) ?_
  show Go p e below (s₁.setTop (mkF m 0 #[.val (.ref a), .val (.int key), .unset] [])) _
  refine Go.via (fun _ => XS.aloadN X0.here hx rfl (hb hby d5_0) rfl rfl) ?_
  obtain ⟨T91, X91, e91, st91⟩ := getF X0 hx hZ hown (host := "") (Or.inl (tw hw 18 rfl)) Via.refl e0 P0 (g := (mkF m 1 #[.val (.ref a), .val (.int key), .unset] [(.ref a)])) rfl rfl (hb hby d5_1)
  refine Go.via (st91) ?_
  show Go p e below (T91.setTop (mkF m 4 #[.val (.ref a), .val (.int key), .unset] [(.ref d)])) _
  refine Go.via (fun _ => XS.iloadN X91.here hx rfl (hb hby d5_4) rfl) ?_
  obtain ⟨_, _, ⟨T92, L92, k92, n92⟩, -, X92, ⟨Lc92, hQ92, l92, y92, z92⟩, st92⟩ := Jvm.LawKit.callS X91 hx (y := (⟨"java/util/Arrays", "binarySearch", "([II)I"⟩ : MethodName)) hown (mvT hZ (tw hw 29 rfl)) (mvT hZ (tw hw 30 rfl)) (mvT hZ (tw hw 31 rfl)) (mvT hZ (tw hw 32 rfl)) (by decide) (backOf (W := 0) (rmB2 l Z a0 hw [] d key d0 d1 h0 n0 Z0 P2 h01) hZ (tw hw 32 rfl) (tw hw 31 rfl) (by decide) (by decide)) (g := (mkF m 5 #[.val (.ref a), .val (.int key), .unset] [(.int key), (.ref d)])) rfl (by rw [hml]; rfl) (argsL := [(.ref d), (.int key)]) (rest := []) (lenOf pd__28_5bII_29I rfl) rfl (by show 2 * 0 + _ ≤ _; exact Nat.le_of_eq rfl) (hb hby d5_5) (fun _ _ => ⟨rfl, e91, (by decide : 0 + 0 ≤ _), (by decide : 0 + 0 ≤ _)⟩)
  dsimp only [Pt.U, Pt.locs, Pt.cells, Pt.slots] at X92 l92 y92 z92 st92 hQ92
  subst l92 y92 z92
  obtain ⟨v93, rfl, N92q, eh92, qp94⟩ := hQ92
  have N92 := Fr.app N0 N92q
  refine Go.via (st92) ?_
  have e92 : T92.heap = h0 := eh92
  show Go p e below (T92.setTop (mkF m 8 #[.val (.ref a), .val (.int key), .unset] [(.int v93)])) _
  rcases qp94 with ⟨hneg, hall⟩ | ⟨rfl, hkey⟩ | ⟨rfl, hkey⟩
  · show Go p e below (T92.setTop (mkF m 8 #[.val (.ref a), .val (.int key), .unset] [(.int v93)])) _
    refine Go.via (fun _ => XS.istoreN X92.here hx rfl (hb hby d5_8) rfl (l' := #[.val (.ref a), .val (.int key), .val (.int v93)]) rfl) ?_
    show Go p e below (T92.setTop (mkF m 9 #[.val (.ref a), .val (.int key), .val (.int v93)] [])) _
    refine Go.via (fun _ => XS.iloadN X92.here hx rfl (hb hby d5_9) rfl) ?_
    refine Go.via (fun _ => XS.ifYes X92.here hx rfl (pc0 := 10) (pc' := 22) rfl (hb hby d5_10) rfl ((if0 _ _).trans (tlt (hneg : v93 < (0 : Int32))).1) (by decide) (by decide)) ?_
    show Go p e below (T92.setTop (mkF m 22 #[.val (.ref a), .val (.int key), .val (.int v93)] [])) _
    refine Go.via (fun _ => XS.iconst X92.here hx rfl (hb hby d5_22)) ?_
    exact Go.fin X92 hlk (v := some (.int (0 : Int32))) (fun h => by rw [Bd.returns] at h; cases h) (fun fs hr => OwnKit.retI X92 hx Bd.returns (hb hby d5_23) hr) (by rw [e92]; exact ⟨(0 : Int32), rfl, N92, rfl, (Or.inl ⟨rfl, hall⟩)⟩) (by decide) (by decide)
  · show Go p e below (T92.setTop (mkF m 8 #[.val (.ref a), .val (.int key), .unset] [(.int (0 : Int32))])) _
    refine Go.via (fun _ => XS.istoreN X92.here hx rfl (hb hby d5_8) rfl (l' := #[.val (.ref a), .val (.int key), .val (.int (0 : Int32))]) rfl) ?_
    show Go p e below (T92.setTop (mkF m 9 #[.val (.ref a), .val (.int key), .val (.int (0 : Int32))] [])) _
    refine Go.via (fun _ => XS.iloadN X92.here hx rfl (hb hby d5_9) rfl) ?_
    refine Go.via (fun _ => XS.ifNo X92.here hx rfl (hb hby d5_10) rfl ((if0 _ _).trans (flt ((by decide) : ¬ ((0 : Int32) < (0 : Int32)))).1)) ?_
    show Go p e below (T92.setTop (mkF m 13 #[.val (.ref a), .val (.int key), .val (.int (0 : Int32))] [])) _
    refine Go.via (fun _ => XS.aloadN X92.here hx rfl (hb hby d5_13) rfl rfl) ?_
    obtain ⟨T95, X95, e95, st95⟩ := getF X92 hx hZ hown (host := "") (Or.inl (tw hw 20 rfl)) Via.refl e92 P1 (g := (mkF m 14 #[.val (.ref a), .val (.int key), .val (.int (0 : Int32))] [(.ref a)])) rfl rfl (hb hby d5_14)
    refine Go.via (st95) ?_
    show Go p e below (T95.setTop (mkF m 17 #[.val (.ref a), .val (.int key), .val (.int (0 : Int32))] [(.ref f)])) _
    refine Go.via (fun _ => XS.iloadN X95.here hx rfl (hb hby d5_17) rfl) ?_
    refine Go.via (ldI X95 hx hZ e95 P3 (v := f0) (by decide) rfl (g := (mkF m 18 #[.val (.ref a), .val (.int key), .val (.int (0 : Int32))] [(.int (0 : Int32)), (.ref f)])) rfl rfl (hb hby d5_18)) ?_
    show Go p e below (T95.setTop (mkF m 19 #[.val (.ref a), .val (.int key), .val (.int (0 : Int32))] [(.int f0)])) _
    refine Go.via (fun _ => XS.goto X95.here hx rfl (pc0 := 19) (pc' := 23) rfl (hb hby d5_19) (by decide) (by decide)) ?_
    exact Go.fin X95 hlk (v := some (.int f0)) (fun h => by rw [Bd.returns] at h; cases h) (fun fs hr => OwnKit.retI X95 hx Bd.returns (hb hby d5_23) hr) (by rw [e95]; exact ⟨f0, rfl, N92, rfl, (Or.inr (Or.inl ⟨rfl, hkey⟩))⟩) (by decide) (by decide)
  · show Go p e below (T92.setTop (mkF m 8 #[.val (.ref a), .val (.int key), .unset] [(.int (1 : Int32))])) _
    refine Go.via (fun _ => XS.istoreN X92.here hx rfl (hb hby d5_8) rfl (l' := #[.val (.ref a), .val (.int key), .val (.int (1 : Int32))]) rfl) ?_
    show Go p e below (T92.setTop (mkF m 9 #[.val (.ref a), .val (.int key), .val (.int (1 : Int32))] [])) _
    refine Go.via (fun _ => XS.iloadN X92.here hx rfl (hb hby d5_9) rfl) ?_
    refine Go.via (fun _ => XS.ifNo X92.here hx rfl (hb hby d5_10) rfl ((if0 _ _).trans (flt ((by decide) : ¬ ((1 : Int32) < (0 : Int32)))).1)) ?_
    show Go p e below (T92.setTop (mkF m 13 #[.val (.ref a), .val (.int key), .val (.int (1 : Int32))] [])) _
    refine Go.via (fun _ => XS.aloadN X92.here hx rfl (hb hby d5_13) rfl rfl) ?_
    obtain ⟨T96, X96, e96, st96⟩ := getF X92 hx hZ hown (host := "") (Or.inl (tw hw 20 rfl)) Via.refl e92 P1 (g := (mkF m 14 #[.val (.ref a), .val (.int key), .val (.int (1 : Int32))] [(.ref a)])) rfl rfl (hb hby d5_14)
    refine Go.via (st96) ?_
    show Go p e below (T96.setTop (mkF m 17 #[.val (.ref a), .val (.int key), .val (.int (1 : Int32))] [(.ref f)])) _
    refine Go.via (fun _ => XS.iloadN X96.here hx rfl (hb hby d5_17) rfl) ?_
    refine Go.via (ldI X96 hx hZ e96 P3 (v := f1) (by decide) rfl (g := (mkF m 18 #[.val (.ref a), .val (.int key), .val (.int (1 : Int32))] [(.int (1 : Int32)), (.ref f)])) rfl rfl (hb hby d5_18)) ?_
    show Go p e below (T96.setTop (mkF m 19 #[.val (.ref a), .val (.int key), .val (.int (1 : Int32))] [(.int f1)])) _
    refine Go.via (fun _ => XS.goto X96.here hx rfl (pc0 := 19) (pc' := 23) rfl (hb hby d5_19) (by decide) (by decide)) ?_
    exact Go.fin X96 hlk (v := some (.int f1)) (fun h => by rw [Bd.returns] at h; cases h) (fun fs hr => OwnKit.retI X96 hx Bd.returns (hb hby d5_23) hr) (by rw [e96]; exact ⟨f1, rfl, N92, rfl, (Or.inr (Or.inr (⟨rfl, hkey⟩)))⟩) (by decide) (by decide)
def Q_rmS3 (Z : State) (b : Addr) (lo : Int32) (hi : Int32) (key : Int32) (d0 : Int32) (d1 : Int32) (d2 : Int32) (h0 : Heap) (n0 : Nat) (vQ : Option Value) (hQ : Heap) (LQ : List Loc) : Prop := ∃ r : Int32, vQ = some (.int r) ∧ Fr n0 LQ ∧ hQ = h0 ∧ ((r < 0 ∧ ¬ key = d0 ∧ ¬ key = d1 ∧ ¬ key = d2) ∨ (r = 0 ∧ key = d0) ∨ (r = 1 ∧ key = d1) ∨ (r = 2 ∧ key = d2))
set_option maxRecDepth 65536 in
set_option maxHeartbeats 40000000 in
theorem rmS3 (l : Launch) (Z : State) (a0 : Array Value) (hw : ∀ d ∈ tables_1, d.before a0 Z = true) (ws : List Jvm.Cond) (b : Addr) (lo : Int32) (hi : Int32) (key : Int32) (d0 : Int32) (d1 : Int32) (d2 : Int32) (h0 : Heap) (n0 : Nat) (Z0 : n0 ≤ h0.size) (P0 : Ia Z h0 b .int [d0, d1, d2]) (hlo : lo = 0) (hhi : hi = 3) (h01 : d0 < d1) (h12 : d1 < d2) :
    MetFree l (⟨"java/util/Arrays", "binarySearch0", "([IIII)I"⟩ : MethodName) (head1 (Jvm.Cond.code (⟨"java/util/Arrays", "binarySearch0", "([IIII)I"⟩ : MethodName) jdk_65_method_59_code 8 (some .int) :: ws) ({ frames := 0, cells := 0, slots := 0, locals := 0 } : Room)) (fun aQ UQ => aQ = #[(.ref b), (.int lo), (.int hi), (.int key)] ∧ Z.Warmed39 UQ.vm ∧ UQ.heap = h0) (fun _ _ _ _ _ => True) (fun _ UQ oQ UR => ∃ vQ LQ, oQ = .returned vQ ∧ Q_rmS3 Z b lo hi key d0 d1 d2 h0 n0 vQ UR.heap LQ ∧ FrameEnd UQ oQ UR LQ ({ frames := 0, cells := 0, slots := 0, locals := 0 } : Room).cells ({ frames := 0, cells := 0, slots := 0, locals := 0 } : Room).slots) := by
  refine MetFree.of_bodySF (plainFor_of_name pn_7) hisR ?_
  intro p e s m args below meth c s₁ Bd hml0 hP hK
  obtain ⟨rfl, hZ, hh⟩ := hP
  have hx := Bd.exec
  have hby := Bd.bytes
  have hlk := Bd.notSynchronized
  have hml : c.maxLocals = 8 := hml0
  have hown : s.vm.findClass "java/util/Arrays" = some m.cls := findClass_of_methodNamed Bd.named
  have hnm := (name_of_methodNamed Bd.named Bd.method).1
  have X0 : Stand p l e ({ frames := 0, cells := 0, slots := 0, locals := 0 } : Room) s m #[(.ref b), (.int lo), (.int hi), (.int key)] below meth c s₁ [] 0 0 := Stand.of_body Bd
  have e0 : s₁.heap = h0 := by rw [← hh, Bd.state]; rfl
  have N0 := Fr.nil n0
  show Go p e below _ (Done s (Q_rmS3 Z b lo hi key d0 d1 d2 h0 n0) ({ frames := 0, cells := 0, slots := 0, locals := 0 } : Room).cells ({ frames := 0, cells := 0, slots := 0, locals := 0 } : Room).slots)
  refine Go.via (fun tQ kQ => castTop (ef_7 m b lo hi key) kQ) ?_
  show Go p e below (s₁.setTop (mkF m 0 #[.val (.ref b), .val (.int lo), .val (.int hi), .val (.int key), .unset, .unset, .unset, .unset] [])) _
  · subst hlo hhi
    show Go p e below (s₁.setTop (mkF m 0 #[.val (.ref b), .val (.int (0 : Int32)), .val (.int (3 : Int32)), .val (.int key), .unset, .unset, .unset, .unset] [])) _
    refine Go.via (fun _ => XS.iloadN X0.here hx rfl (hb hby d7_0) rfl) ?_
    refine Go.via (fun _ => XS.istore X0.here hx rfl (hb hby d7_1) rfl (l' := #[.val (.ref b), .val (.int (0 : Int32)), .val (.int (3 : Int32)), .val (.int key), .val (.int (0 : Int32)), .unset, .unset, .unset]) rfl) ?_
    show Go p e below (s₁.setTop (mkF m 3 #[.val (.ref b), .val (.int (0 : Int32)), .val (.int (3 : Int32)), .val (.int key), .val (.int (0 : Int32)), .unset, .unset, .unset] [])) _
    refine Go.via (fun _ => XS.iloadN X0.here hx rfl (hb hby d7_3) rfl) ?_
    refine Go.via (fun _ => XS.iconst X0.here hx rfl (hb hby d7_4)) ?_
    refine Go.via (fun _ => XS.isub X0.here hx rfl (hb hby d7_5) rfl) ?_
    show Go p e below (s₁.setTop (mkF m 6 #[.val (.ref b), .val (.int (0 : Int32)), .val (.int (3 : Int32)), .val (.int key), .val (.int (0 : Int32)), .unset, .unset, .unset] [(.int (2 : Int32))])) _
    refine Go.via (fun _ => XS.istore X0.here hx rfl (hb hby d7_6) rfl (l' := #[.val (.ref b), .val (.int (0 : Int32)), .val (.int (3 : Int32)), .val (.int key), .val (.int (0 : Int32)), .val (.int (2 : Int32)), .unset, .unset]) rfl) ?_
    show Go p e below (s₁.setTop (mkF m 8 #[.val (.ref b), .val (.int (0 : Int32)), .val (.int (3 : Int32)), .val (.int key), .val (.int (0 : Int32)), .val (.int (2 : Int32)), .unset, .unset] [])) _
    refine Go.via (fun _ => XS.iload X0.here hx rfl (hb hby d7_8) rfl) ?_
    refine Go.via (fun _ => XS.iload X0.here hx rfl (hb hby d7_10) rfl) ?_
    refine Go.via (fun _ => XS.icmpNo X0.here hx rfl (hb hby d7_12) rfl (flt ((by decide) : ¬ ((2 : Int32) < (0 : Int32)))).2.2.1) ?_
    show Go p e below (s₁.setTop (mkF m 15 #[.val (.ref b), .val (.int (0 : Int32)), .val (.int (3 : Int32)), .val (.int key), .val (.int (0 : Int32)), .val (.int (2 : Int32)), .unset, .unset] [])) _
    refine Go.via (fun _ => XS.iload X0.here hx rfl (hb hby d7_15) rfl) ?_
    refine Go.via (fun _ => XS.iload X0.here hx rfl (hb hby d7_17) rfl) ?_
    refine Go.via (fun _ => XS.iadd X0.here hx rfl (hb hby d7_19) rfl) ?_
    show Go p e below (s₁.setTop (mkF m 20 #[.val (.ref b), .val (.int (0 : Int32)), .val (.int (3 : Int32)), .val (.int key), .val (.int (0 : Int32)), .val (.int (2 : Int32)), .unset, .unset] [(.int (2 : Int32))])) _
    refine Go.via (fun _ => XS.iconst X0.here hx rfl (hb hby d7_20)) ?_
    refine Go.via (fun _ => XS.iushr X0.here hx rfl (hb hby d7_21) rfl) ?_
    show Go p e below (s₁.setTop (mkF m 22 #[.val (.ref b), .val (.int (0 : Int32)), .val (.int (3 : Int32)), .val (.int key), .val (.int (0 : Int32)), .val (.int (2 : Int32)), .unset, .unset] [(.int (1 : Int32))])) _
    refine Go.via (fun _ => XS.istore X0.here hx rfl (hb hby d7_22) rfl (l' := #[.val (.ref b), .val (.int (0 : Int32)), .val (.int (3 : Int32)), .val (.int key), .val (.int (0 : Int32)), .val (.int (2 : Int32)), .val (.int (1 : Int32)), .unset]) rfl) ?_
    show Go p e below (s₁.setTop (mkF m 24 #[.val (.ref b), .val (.int (0 : Int32)), .val (.int (3 : Int32)), .val (.int key), .val (.int (0 : Int32)), .val (.int (2 : Int32)), .val (.int (1 : Int32)), .unset] [])) _
    refine Go.via (fun _ => XS.aloadN X0.here hx rfl (hb hby d7_24) rfl rfl) ?_
    refine Go.via (fun _ => XS.iload X0.here hx rfl (hb hby d7_25) rfl) ?_
    refine Go.via (ldI X0 hx hZ e0 P0 (v := d1) (by decide) rfl (g := (mkF m 27 #[.val (.ref b), .val (.int (0 : Int32)), .val (.int (3 : Int32)), .val (.int key), .val (.int (0 : Int32)), .val (.int (2 : Int32)), .val (.int (1 : Int32)), .unset] [(.int (1 : Int32)), (.ref b)])) rfl rfl (hb hby d7_27)) ?_
    show Go p e below (s₁.setTop (mkF m 28 #[.val (.ref b), .val (.int (0 : Int32)), .val (.int (3 : Int32)), .val (.int key), .val (.int (0 : Int32)), .val (.int (2 : Int32)), .val (.int (1 : Int32)), .unset] [(.int d1)])) _
    refine Go.via (fun _ => XS.istore X0.here hx rfl (hb hby d7_28) rfl (l' := #[.val (.ref b), .val (.int (0 : Int32)), .val (.int (3 : Int32)), .val (.int key), .val (.int (0 : Int32)), .val (.int (2 : Int32)), .val (.int (1 : Int32)), .val (.int d1)]) rfl) ?_
    show Go p e below (s₁.setTop (mkF m 30 #[.val (.ref b), .val (.int (0 : Int32)), .val (.int (3 : Int32)), .val (.int key), .val (.int (0 : Int32)), .val (.int (2 : Int32)), .val (.int (1 : Int32)), .val (.int d1)] [])) _
    refine Go.via (fun _ => XS.iload X0.here hx rfl (hb hby d7_30) rfl) ?_
    refine Go.via (fun _ => XS.iloadN X0.here hx rfl (hb hby d7_32) rfl) ?_
    by_cases hc97 : d1 < key
    · refine Go.via (fun _ => XS.icmpNo X0.here hx rfl (hb hby d7_33) rfl (tlt (hc97 : d1 < key)).2.1) ?_
      refine Go.via (fun _ => XS.iload X0.here hx rfl (hb hby d7_36) rfl) ?_
      refine Go.via (fun _ => XS.iconst X0.here hx rfl (hb hby d7_38)) ?_
      show Go p e below (s₁.setTop (mkF m 39 #[.val (.ref b), .val (.int (0 : Int32)), .val (.int (3 : Int32)), .val (.int key), .val (.int (0 : Int32)), .val (.int (2 : Int32)), .val (.int (1 : Int32)), .val (.int d1)] [(.int (1 : Int32)), (.int (1 : Int32))])) _
      refine Go.via (fun _ => XS.iadd X0.here hx rfl (hb hby d7_39) rfl) ?_
      show Go p e below (s₁.setTop (mkF m 40 #[.val (.ref b), .val (.int (0 : Int32)), .val (.int (3 : Int32)), .val (.int key), .val (.int (0 : Int32)), .val (.int (2 : Int32)), .val (.int (1 : Int32)), .val (.int d1)] [(.int (2 : Int32))])) _
      refine Go.via (fun _ => XS.istore X0.here hx rfl (hb hby d7_40) rfl (l' := #[.val (.ref b), .val (.int (0 : Int32)), .val (.int (3 : Int32)), .val (.int key), .val (.int (2 : Int32)), .val (.int (2 : Int32)), .val (.int (1 : Int32)), .val (.int d1)]) rfl) ?_
      show Go p e below (s₁.setTop (mkF m 42 #[.val (.ref b), .val (.int (0 : Int32)), .val (.int (3 : Int32)), .val (.int key), .val (.int (2 : Int32)), .val (.int (2 : Int32)), .val (.int (1 : Int32)), .val (.int d1)] [])) _
      refine Go.via (fun _ => XS.goto X0.here hx rfl (pc0 := 42) (pc' := 63) rfl (hb hby d7_42) (by decide) (by decide)) ?_
      refine Go.via (fun _ => XS.goto X0.here hx rfl (pc0 := 63) (pc' := 8) rfl (hb hby d7_63) (by decide) (by decide)) ?_
      refine Go.via (fun _ => XS.iload X0.here hx rfl (hb hby d7_8) rfl) ?_
      refine Go.via (fun _ => XS.iload X0.here hx rfl (hb hby d7_10) rfl) ?_
      show Go p e below (s₁.setTop (mkF m 12 #[.val (.ref b), .val (.int (0 : Int32)), .val (.int (3 : Int32)), .val (.int key), .val (.int (2 : Int32)), .val (.int (2 : Int32)), .val (.int (1 : Int32)), .val (.int d1)] [(.int (2 : Int32)), (.int (2 : Int32))])) _
      refine Go.via (fun _ => XS.icmpNo X0.here hx rfl (hb hby d7_12) rfl (flt ((by decide) : ¬ ((2 : Int32) < (2 : Int32)))).2.2.1) ?_
      show Go p e below (s₁.setTop (mkF m 15 #[.val (.ref b), .val (.int (0 : Int32)), .val (.int (3 : Int32)), .val (.int key), .val (.int (2 : Int32)), .val (.int (2 : Int32)), .val (.int (1 : Int32)), .val (.int d1)] [])) _
      refine Go.via (fun _ => XS.iload X0.here hx rfl (hb hby d7_15) rfl) ?_
      refine Go.via (fun _ => XS.iload X0.here hx rfl (hb hby d7_17) rfl) ?_
      refine Go.via (fun _ => XS.iadd X0.here hx rfl (hb hby d7_19) rfl) ?_
      show Go p e below (s₁.setTop (mkF m 20 #[.val (.ref b), .val (.int (0 : Int32)), .val (.int (3 : Int32)), .val (.int key), .val (.int (2 : Int32)), .val (.int (2 : Int32)), .val (.int (1 : Int32)), .val (.int d1)] [(.int (4 : Int32))])) _
      refine Go.via (fun _ => XS.iconst X0.here hx rfl (hb hby d7_20)) ?_
      refine Go.via (fun _ => XS.iushr X0.here hx rfl (hb hby d7_21) rfl) ?_
      show Go p e below (s₁.setTop (mkF m 22 #[.val (.ref b), .val (.int (0 : Int32)), .val (.int (3 : Int32)), .val (.int key), .val (.int (2 : Int32)), .val (.int (2 : Int32)), .val (.int (1 : Int32)), .val (.int d1)] [(.int (2 : Int32))])) _
      refine Go.via (fun _ => XS.istore X0.here hx rfl (hb hby d7_22) rfl (l' := #[.val (.ref b), .val (.int (0 : Int32)), .val (.int (3 : Int32)), .val (.int key), .val (.int (2 : Int32)), .val (.int (2 : Int32)), .val (.int (2 : Int32)), .val (.int d1)]) rfl) ?_
      show Go p e below (s₁.setTop (mkF m 24 #[.val (.ref b), .val (.int (0 : Int32)), .val (.int (3 : Int32)), .val (.int key), .val (.int (2 : Int32)), .val (.int (2 : Int32)), .val (.int (2 : Int32)), .val (.int d1)] [])) _
      refine Go.via (fun _ => XS.aloadN X0.here hx rfl (hb hby d7_24) rfl rfl) ?_
      refine Go.via (fun _ => XS.iload X0.here hx rfl (hb hby d7_25) rfl) ?_
      refine Go.via (ldI X0 hx hZ e0 P0 (v := d2) (by decide) rfl (g := (mkF m 27 #[.val (.ref b), .val (.int (0 : Int32)), .val (.int (3 : Int32)), .val (.int key), .val (.int (2 : Int32)), .val (.int (2 : Int32)), .val (.int (2 : Int32)), .val (.int d1)] [(.int (2 : Int32)), (.ref b)])) rfl rfl (hb hby d7_27)) ?_
      show Go p e below (s₁.setTop (mkF m 28 #[.val (.ref b), .val (.int (0 : Int32)), .val (.int (3 : Int32)), .val (.int key), .val (.int (2 : Int32)), .val (.int (2 : Int32)), .val (.int (2 : Int32)), .val (.int d1)] [(.int d2)])) _
      refine Go.via (fun _ => XS.istore X0.here hx rfl (hb hby d7_28) rfl (l' := #[.val (.ref b), .val (.int (0 : Int32)), .val (.int (3 : Int32)), .val (.int key), .val (.int (2 : Int32)), .val (.int (2 : Int32)), .val (.int (2 : Int32)), .val (.int d2)]) rfl) ?_
      show Go p e below (s₁.setTop (mkF m 30 #[.val (.ref b), .val (.int (0 : Int32)), .val (.int (3 : Int32)), .val (.int key), .val (.int (2 : Int32)), .val (.int (2 : Int32)), .val (.int (2 : Int32)), .val (.int d2)] [])) _
      refine Go.via (fun _ => XS.iload X0.here hx rfl (hb hby d7_30) rfl) ?_
      refine Go.via (fun _ => XS.iloadN X0.here hx rfl (hb hby d7_32) rfl) ?_
      by_cases hc98 : d2 < key
      · refine Go.via (fun _ => XS.icmpNo X0.here hx rfl (hb hby d7_33) rfl (tlt (hc98 : d2 < key)).2.1) ?_
        refine Go.via (fun _ => XS.iload X0.here hx rfl (hb hby d7_36) rfl) ?_
        refine Go.via (fun _ => XS.iconst X0.here hx rfl (hb hby d7_38)) ?_
        show Go p e below (s₁.setTop (mkF m 39 #[.val (.ref b), .val (.int (0 : Int32)), .val (.int (3 : Int32)), .val (.int key), .val (.int (2 : Int32)), .val (.int (2 : Int32)), .val (.int (2 : Int32)), .val (.int d2)] [(.int (1 : Int32)), (.int (2 : Int32))])) _
        refine Go.via (fun _ => XS.iadd X0.here hx rfl (hb hby d7_39) rfl) ?_
        show Go p e below (s₁.setTop (mkF m 40 #[.val (.ref b), .val (.int (0 : Int32)), .val (.int (3 : Int32)), .val (.int key), .val (.int (2 : Int32)), .val (.int (2 : Int32)), .val (.int (2 : Int32)), .val (.int d2)] [(.int (3 : Int32))])) _
        refine Go.via (fun _ => XS.istore X0.here hx rfl (hb hby d7_40) rfl (l' := #[.val (.ref b), .val (.int (0 : Int32)), .val (.int (3 : Int32)), .val (.int key), .val (.int (3 : Int32)), .val (.int (2 : Int32)), .val (.int (2 : Int32)), .val (.int d2)]) rfl) ?_
        show Go p e below (s₁.setTop (mkF m 42 #[.val (.ref b), .val (.int (0 : Int32)), .val (.int (3 : Int32)), .val (.int key), .val (.int (3 : Int32)), .val (.int (2 : Int32)), .val (.int (2 : Int32)), .val (.int d2)] [])) _
        refine Go.via (fun _ => XS.goto X0.here hx rfl (pc0 := 42) (pc' := 63) rfl (hb hby d7_42) (by decide) (by decide)) ?_
        refine Go.via (fun _ => XS.goto X0.here hx rfl (pc0 := 63) (pc' := 8) rfl (hb hby d7_63) (by decide) (by decide)) ?_
        refine Go.via (fun _ => XS.iload X0.here hx rfl (hb hby d7_8) rfl) ?_
        refine Go.via (fun _ => XS.iload X0.here hx rfl (hb hby d7_10) rfl) ?_
        show Go p e below (s₁.setTop (mkF m 12 #[.val (.ref b), .val (.int (0 : Int32)), .val (.int (3 : Int32)), .val (.int key), .val (.int (3 : Int32)), .val (.int (2 : Int32)), .val (.int (2 : Int32)), .val (.int d2)] [(.int (2 : Int32)), (.int (3 : Int32))])) _
        refine Go.via (fun _ => XS.icmpYes X0.here hx rfl (pc0 := 12) (pc' := 66) rfl (hb hby d7_12) rfl (tlt ((by decide) : (2 : Int32) < (3 : Int32))).2.2.1 (by decide) (by decide)) ?_
        show Go p e below (s₁.setTop (mkF m 66 #[.val (.ref b), .val (.int (0 : Int32)), .val (.int (3 : Int32)), .val (.int key), .val (.int (3 : Int32)), .val (.int (2 : Int32)), .val (.int (2 : Int32)), .val (.int d2)] [])) _
        refine Go.via (fun _ => XS.iload X0.here hx rfl (hb hby d7_66) rfl) ?_
        refine Go.via (fun _ => XS.iconst X0.here hx rfl (hb hby d7_68)) ?_
        refine Go.via (fun _ => XS.iadd X0.here hx rfl (hb hby d7_69) rfl) ?_
        show Go p e below (s₁.setTop (mkF m 70 #[.val (.ref b), .val (.int (0 : Int32)), .val (.int (3 : Int32)), .val (.int key), .val (.int (3 : Int32)), .val (.int (2 : Int32)), .val (.int (2 : Int32)), .val (.int d2)] [(.int (4 : Int32))])) _
        refine Go.via (fun _ => XS.ineg X0.here hx rfl (hb hby d7_70) rfl) ?_
        show Go p e below (s₁.setTop (mkF m 71 #[.val (.ref b), .val (.int (0 : Int32)), .val (.int (3 : Int32)), .val (.int key), .val (.int (3 : Int32)), .val (.int (2 : Int32)), .val (.int (2 : Int32)), .val (.int d2)] [(.int (-4 : Int32))])) _
        exact Go.fin X0 hlk (v := some (.int (-4 : Int32))) (fun h => by rw [Bd.returns] at h; cases h) (fun fs hr => OwnKit.retI X0 hx Bd.returns (hb hby d7_71) hr) (by rw [e0]; exact ⟨(-4 : Int32), rfl, N0, rfl, (by clear hw; refine Or.inl ⟨by decide, ?_, ?_, ?_⟩ <;> (simp only [Int32.lt_iff_toInt_lt, ← Int32.toInt_inj] at *; omega))⟩) (by decide) (by decide)
      · refine Go.via (fun _ => XS.icmpYes X0.here hx rfl (pc0 := 33) (pc' := 45) rfl (hb hby d7_33) rfl (flt (hc98 : ¬ (d2 < key))).2.1 (by decide) (by decide)) ?_
        refine Go.via (fun _ => XS.iload X0.here hx rfl (hb hby d7_45) rfl) ?_
        refine Go.via (fun _ => XS.iloadN X0.here hx rfl (hb hby d7_47) rfl) ?_
        show Go p e below (s₁.setTop (mkF m 48 #[.val (.ref b), .val (.int (0 : Int32)), .val (.int (3 : Int32)), .val (.int key), .val (.int (2 : Int32)), .val (.int (2 : Int32)), .val (.int (2 : Int32)), .val (.int d2)] [(.int key), (.int d2)])) _
        by_cases hc99 : key < d2
        · refine Go.via (fun _ => XS.icmpNo X0.here hx rfl (hb hby d7_48) rfl (tlt (hc99 : key < d2)).2.2.2) ?_
          show Go p e below (s₁.setTop (mkF m 51 #[.val (.ref b), .val (.int (0 : Int32)), .val (.int (3 : Int32)), .val (.int key), .val (.int (2 : Int32)), .val (.int (2 : Int32)), .val (.int (2 : Int32)), .val (.int d2)] [])) _
          refine Go.via (fun _ => XS.iload X0.here hx rfl (hb hby d7_51) rfl) ?_
          refine Go.via (fun _ => XS.iconst X0.here hx rfl (hb hby d7_53)) ?_
          refine Go.via (fun _ => XS.isub X0.here hx rfl (hb hby d7_54) rfl) ?_
          show Go p e below (s₁.setTop (mkF m 55 #[.val (.ref b), .val (.int (0 : Int32)), .val (.int (3 : Int32)), .val (.int key), .val (.int (2 : Int32)), .val (.int (2 : Int32)), .val (.int (2 : Int32)), .val (.int d2)] [(.int (1 : Int32))])) _
          refine Go.via (fun _ => XS.istore X0.here hx rfl (hb hby d7_55) rfl (l' := #[.val (.ref b), .val (.int (0 : Int32)), .val (.int (3 : Int32)), .val (.int key), .val (.int (2 : Int32)), .val (.int (1 : Int32)), .val (.int (2 : Int32)), .val (.int d2)]) rfl) ?_
          show Go p e below (s₁.setTop (mkF m 57 #[.val (.ref b), .val (.int (0 : Int32)), .val (.int (3 : Int32)), .val (.int key), .val (.int (2 : Int32)), .val (.int (1 : Int32)), .val (.int (2 : Int32)), .val (.int d2)] [])) _
          refine Go.via (fun _ => XS.goto X0.here hx rfl (pc0 := 57) (pc' := 63) rfl (hb hby d7_57) (by decide) (by decide)) ?_
          refine Go.via (fun _ => XS.goto X0.here hx rfl (pc0 := 63) (pc' := 8) rfl (hb hby d7_63) (by decide) (by decide)) ?_
          refine Go.via (fun _ => XS.iload X0.here hx rfl (hb hby d7_8) rfl) ?_
          refine Go.via (fun _ => XS.iload X0.here hx rfl (hb hby d7_10) rfl) ?_
          show Go p e below (s₁.setTop (mkF m 12 #[.val (.ref b), .val (.int (0 : Int32)), .val (.int (3 : Int32)), .val (.int key), .val (.int (2 : Int32)), .val (.int (1 : Int32)), .val (.int (2 : Int32)), .val (.int d2)] [(.int (1 : Int32)), (.int (2 : Int32))])) _
          refine Go.via (fun _ => XS.icmpYes X0.here hx rfl (pc0 := 12) (pc' := 66) rfl (hb hby d7_12) rfl (tlt ((by decide) : (1 : Int32) < (2 : Int32))).2.2.1 (by decide) (by decide)) ?_
          show Go p e below (s₁.setTop (mkF m 66 #[.val (.ref b), .val (.int (0 : Int32)), .val (.int (3 : Int32)), .val (.int key), .val (.int (2 : Int32)), .val (.int (1 : Int32)), .val (.int (2 : Int32)), .val (.int d2)] [])) _
          refine Go.via (fun _ => XS.iload X0.here hx rfl (hb hby d7_66) rfl) ?_
          refine Go.via (fun _ => XS.iconst X0.here hx rfl (hb hby d7_68)) ?_
          refine Go.via (fun _ => XS.iadd X0.here hx rfl (hb hby d7_69) rfl) ?_
          show Go p e below (s₁.setTop (mkF m 70 #[.val (.ref b), .val (.int (0 : Int32)), .val (.int (3 : Int32)), .val (.int key), .val (.int (2 : Int32)), .val (.int (1 : Int32)), .val (.int (2 : Int32)), .val (.int d2)] [(.int (3 : Int32))])) _
          refine Go.via (fun _ => XS.ineg X0.here hx rfl (hb hby d7_70) rfl) ?_
          show Go p e below (s₁.setTop (mkF m 71 #[.val (.ref b), .val (.int (0 : Int32)), .val (.int (3 : Int32)), .val (.int key), .val (.int (2 : Int32)), .val (.int (1 : Int32)), .val (.int (2 : Int32)), .val (.int d2)] [(.int (-3 : Int32))])) _
          exact Go.fin X0 hlk (v := some (.int (-3 : Int32))) (fun h => by rw [Bd.returns] at h; cases h) (fun fs hr => OwnKit.retI X0 hx Bd.returns (hb hby d7_71) hr) (by rw [e0]; exact ⟨(-3 : Int32), rfl, N0, rfl, (by clear hw; refine Or.inl ⟨by decide, ?_, ?_, ?_⟩ <;> (simp only [Int32.lt_iff_toInt_lt, ← Int32.toInt_inj] at *; omega))⟩) (by decide) (by decide)
        · refine Go.via (fun _ => XS.icmpYes X0.here hx rfl (pc0 := 48) (pc' := 60) rfl (hb hby d7_48) rfl (flt (hc99 : ¬ (key < d2))).2.2.2 (by decide) (by decide)) ?_
          show Go p e below (s₁.setTop (mkF m 60 #[.val (.ref b), .val (.int (0 : Int32)), .val (.int (3 : Int32)), .val (.int key), .val (.int (2 : Int32)), .val (.int (2 : Int32)), .val (.int (2 : Int32)), .val (.int d2)] [])) _
          refine Go.via (fun _ => XS.iload X0.here hx rfl (hb hby d7_60) rfl) ?_
          exact Go.fin X0 hlk (v := some (.int (2 : Int32))) (fun h => by rw [Bd.returns] at h; cases h) (fun fs hr => OwnKit.retI X0 hx Bd.returns (hb hby d7_62) hr) (by rw [e0]; exact ⟨(2 : Int32), rfl, N0, rfl, (by clear hw; refine Or.inr (Or.inr (Or.inr (⟨by decide, ?_⟩))) <;> (simp only [Int32.lt_iff_toInt_lt, ← Int32.toInt_inj] at *; omega))⟩) (by decide) (by decide)
    · refine Go.via (fun _ => XS.icmpYes X0.here hx rfl (pc0 := 33) (pc' := 45) rfl (hb hby d7_33) rfl (flt (hc97 : ¬ (d1 < key))).2.1 (by decide) (by decide)) ?_
      refine Go.via (fun _ => XS.iload X0.here hx rfl (hb hby d7_45) rfl) ?_
      refine Go.via (fun _ => XS.iloadN X0.here hx rfl (hb hby d7_47) rfl) ?_
      show Go p e below (s₁.setTop (mkF m 48 #[.val (.ref b), .val (.int (0 : Int32)), .val (.int (3 : Int32)), .val (.int key), .val (.int (0 : Int32)), .val (.int (2 : Int32)), .val (.int (1 : Int32)), .val (.int d1)] [(.int key), (.int d1)])) _
      by_cases hc100 : key < d1
      · refine Go.via (fun _ => XS.icmpNo X0.here hx rfl (hb hby d7_48) rfl (tlt (hc100 : key < d1)).2.2.2) ?_
        show Go p e below (s₁.setTop (mkF m 51 #[.val (.ref b), .val (.int (0 : Int32)), .val (.int (3 : Int32)), .val (.int key), .val (.int (0 : Int32)), .val (.int (2 : Int32)), .val (.int (1 : Int32)), .val (.int d1)] [])) _
        refine Go.via (fun _ => XS.iload X0.here hx rfl (hb hby d7_51) rfl) ?_
        refine Go.via (fun _ => XS.iconst X0.here hx rfl (hb hby d7_53)) ?_
        refine Go.via (fun _ => XS.isub X0.here hx rfl (hb hby d7_54) rfl) ?_
        show Go p e below (s₁.setTop (mkF m 55 #[.val (.ref b), .val (.int (0 : Int32)), .val (.int (3 : Int32)), .val (.int key), .val (.int (0 : Int32)), .val (.int (2 : Int32)), .val (.int (1 : Int32)), .val (.int d1)] [(.int (0 : Int32))])) _
        refine Go.via (fun _ => XS.istore X0.here hx rfl (hb hby d7_55) rfl (l' := #[.val (.ref b), .val (.int (0 : Int32)), .val (.int (3 : Int32)), .val (.int key), .val (.int (0 : Int32)), .val (.int (0 : Int32)), .val (.int (1 : Int32)), .val (.int d1)]) rfl) ?_
        show Go p e below (s₁.setTop (mkF m 57 #[.val (.ref b), .val (.int (0 : Int32)), .val (.int (3 : Int32)), .val (.int key), .val (.int (0 : Int32)), .val (.int (0 : Int32)), .val (.int (1 : Int32)), .val (.int d1)] [])) _
        refine Go.via (fun _ => XS.goto X0.here hx rfl (pc0 := 57) (pc' := 63) rfl (hb hby d7_57) (by decide) (by decide)) ?_
        refine Go.via (fun _ => XS.goto X0.here hx rfl (pc0 := 63) (pc' := 8) rfl (hb hby d7_63) (by decide) (by decide)) ?_
        refine Go.via (fun _ => XS.iload X0.here hx rfl (hb hby d7_8) rfl) ?_
        refine Go.via (fun _ => XS.iload X0.here hx rfl (hb hby d7_10) rfl) ?_
        show Go p e below (s₁.setTop (mkF m 12 #[.val (.ref b), .val (.int (0 : Int32)), .val (.int (3 : Int32)), .val (.int key), .val (.int (0 : Int32)), .val (.int (0 : Int32)), .val (.int (1 : Int32)), .val (.int d1)] [(.int (0 : Int32)), (.int (0 : Int32))])) _
        refine Go.via (fun _ => XS.icmpNo X0.here hx rfl (hb hby d7_12) rfl (flt ((by decide) : ¬ ((0 : Int32) < (0 : Int32)))).2.2.1) ?_
        show Go p e below (s₁.setTop (mkF m 15 #[.val (.ref b), .val (.int (0 : Int32)), .val (.int (3 : Int32)), .val (.int key), .val (.int (0 : Int32)), .val (.int (0 : Int32)), .val (.int (1 : Int32)), .val (.int d1)] [])) _
        refine Go.via (fun _ => XS.iload X0.here hx rfl (hb hby d7_15) rfl) ?_
        refine Go.via (fun _ => XS.iload X0.here hx rfl (hb hby d7_17) rfl) ?_
        refine Go.via (fun _ => XS.iadd X0.here hx rfl (hb hby d7_19) rfl) ?_
        show Go p e below (s₁.setTop (mkF m 20 #[.val (.ref b), .val (.int (0 : Int32)), .val (.int (3 : Int32)), .val (.int key), .val (.int (0 : Int32)), .val (.int (0 : Int32)), .val (.int (1 : Int32)), .val (.int d1)] [(.int (0 : Int32))])) _
        refine Go.via (fun _ => XS.iconst X0.here hx rfl (hb hby d7_20)) ?_
        refine Go.via (fun _ => XS.iushr X0.here hx rfl (hb hby d7_21) rfl) ?_
        show Go p e below (s₁.setTop (mkF m 22 #[.val (.ref b), .val (.int (0 : Int32)), .val (.int (3 : Int32)), .val (.int key), .val (.int (0 : Int32)), .val (.int (0 : Int32)), .val (.int (1 : Int32)), .val (.int d1)] [(.int (0 : Int32))])) _
        refine Go.via (fun _ => XS.istore X0.here hx rfl (hb hby d7_22) rfl (l' := #[.val (.ref b), .val (.int (0 : Int32)), .val (.int (3 : Int32)), .val (.int key), .val (.int (0 : Int32)), .val (.int (0 : Int32)), .val (.int (0 : Int32)), .val (.int d1)]) rfl) ?_
        show Go p e below (s₁.setTop (mkF m 24 #[.val (.ref b), .val (.int (0 : Int32)), .val (.int (3 : Int32)), .val (.int key), .val (.int (0 : Int32)), .val (.int (0 : Int32)), .val (.int (0 : Int32)), .val (.int d1)] [])) _
        refine Go.via (fun _ => XS.aloadN X0.here hx rfl (hb hby d7_24) rfl rfl) ?_
        refine Go.via (fun _ => XS.iload X0.here hx rfl (hb hby d7_25) rfl) ?_
        refine Go.via (ldI X0 hx hZ e0 P0 (v := d0) (by decide) rfl (g := (mkF m 27 #[.val (.ref b), .val (.int (0 : Int32)), .val (.int (3 : Int32)), .val (.int key), .val (.int (0 : Int32)), .val (.int (0 : Int32)), .val (.int (0 : Int32)), .val (.int d1)] [(.int (0 : Int32)), (.ref b)])) rfl rfl (hb hby d7_27)) ?_
        show Go p e below (s₁.setTop (mkF m 28 #[.val (.ref b), .val (.int (0 : Int32)), .val (.int (3 : Int32)), .val (.int key), .val (.int (0 : Int32)), .val (.int (0 : Int32)), .val (.int (0 : Int32)), .val (.int d1)] [(.int d0)])) _
        refine Go.via (fun _ => XS.istore X0.here hx rfl (hb hby d7_28) rfl (l' := #[.val (.ref b), .val (.int (0 : Int32)), .val (.int (3 : Int32)), .val (.int key), .val (.int (0 : Int32)), .val (.int (0 : Int32)), .val (.int (0 : Int32)), .val (.int d0)]) rfl) ?_
        show Go p e below (s₁.setTop (mkF m 30 #[.val (.ref b), .val (.int (0 : Int32)), .val (.int (3 : Int32)), .val (.int key), .val (.int (0 : Int32)), .val (.int (0 : Int32)), .val (.int (0 : Int32)), .val (.int d0)] [])) _
        refine Go.via (fun _ => XS.iload X0.here hx rfl (hb hby d7_30) rfl) ?_
        refine Go.via (fun _ => XS.iloadN X0.here hx rfl (hb hby d7_32) rfl) ?_
        by_cases hc101 : d0 < key
        · refine Go.via (fun _ => XS.icmpNo X0.here hx rfl (hb hby d7_33) rfl (tlt (hc101 : d0 < key)).2.1) ?_
          refine Go.via (fun _ => XS.iload X0.here hx rfl (hb hby d7_36) rfl) ?_
          refine Go.via (fun _ => XS.iconst X0.here hx rfl (hb hby d7_38)) ?_
          show Go p e below (s₁.setTop (mkF m 39 #[.val (.ref b), .val (.int (0 : Int32)), .val (.int (3 : Int32)), .val (.int key), .val (.int (0 : Int32)), .val (.int (0 : Int32)), .val (.int (0 : Int32)), .val (.int d0)] [(.int (1 : Int32)), (.int (0 : Int32))])) _
          refine Go.via (fun _ => XS.iadd X0.here hx rfl (hb hby d7_39) rfl) ?_
          show Go p e below (s₁.setTop (mkF m 40 #[.val (.ref b), .val (.int (0 : Int32)), .val (.int (3 : Int32)), .val (.int key), .val (.int (0 : Int32)), .val (.int (0 : Int32)), .val (.int (0 : Int32)), .val (.int d0)] [(.int (1 : Int32))])) _
          refine Go.via (fun _ => XS.istore X0.here hx rfl (hb hby d7_40) rfl (l' := #[.val (.ref b), .val (.int (0 : Int32)), .val (.int (3 : Int32)), .val (.int key), .val (.int (1 : Int32)), .val (.int (0 : Int32)), .val (.int (0 : Int32)), .val (.int d0)]) rfl) ?_
          show Go p e below (s₁.setTop (mkF m 42 #[.val (.ref b), .val (.int (0 : Int32)), .val (.int (3 : Int32)), .val (.int key), .val (.int (1 : Int32)), .val (.int (0 : Int32)), .val (.int (0 : Int32)), .val (.int d0)] [])) _
          refine Go.via (fun _ => XS.goto X0.here hx rfl (pc0 := 42) (pc' := 63) rfl (hb hby d7_42) (by decide) (by decide)) ?_
          refine Go.via (fun _ => XS.goto X0.here hx rfl (pc0 := 63) (pc' := 8) rfl (hb hby d7_63) (by decide) (by decide)) ?_
          refine Go.via (fun _ => XS.iload X0.here hx rfl (hb hby d7_8) rfl) ?_
          refine Go.via (fun _ => XS.iload X0.here hx rfl (hb hby d7_10) rfl) ?_
          show Go p e below (s₁.setTop (mkF m 12 #[.val (.ref b), .val (.int (0 : Int32)), .val (.int (3 : Int32)), .val (.int key), .val (.int (1 : Int32)), .val (.int (0 : Int32)), .val (.int (0 : Int32)), .val (.int d0)] [(.int (0 : Int32)), (.int (1 : Int32))])) _
          refine Go.via (fun _ => XS.icmpYes X0.here hx rfl (pc0 := 12) (pc' := 66) rfl (hb hby d7_12) rfl (tlt ((by decide) : (0 : Int32) < (1 : Int32))).2.2.1 (by decide) (by decide)) ?_
          show Go p e below (s₁.setTop (mkF m 66 #[.val (.ref b), .val (.int (0 : Int32)), .val (.int (3 : Int32)), .val (.int key), .val (.int (1 : Int32)), .val (.int (0 : Int32)), .val (.int (0 : Int32)), .val (.int d0)] [])) _
          refine Go.via (fun _ => XS.iload X0.here hx rfl (hb hby d7_66) rfl) ?_
          refine Go.via (fun _ => XS.iconst X0.here hx rfl (hb hby d7_68)) ?_
          refine Go.via (fun _ => XS.iadd X0.here hx rfl (hb hby d7_69) rfl) ?_
          show Go p e below (s₁.setTop (mkF m 70 #[.val (.ref b), .val (.int (0 : Int32)), .val (.int (3 : Int32)), .val (.int key), .val (.int (1 : Int32)), .val (.int (0 : Int32)), .val (.int (0 : Int32)), .val (.int d0)] [(.int (2 : Int32))])) _
          refine Go.via (fun _ => XS.ineg X0.here hx rfl (hb hby d7_70) rfl) ?_
          show Go p e below (s₁.setTop (mkF m 71 #[.val (.ref b), .val (.int (0 : Int32)), .val (.int (3 : Int32)), .val (.int key), .val (.int (1 : Int32)), .val (.int (0 : Int32)), .val (.int (0 : Int32)), .val (.int d0)] [(.int (-2 : Int32))])) _
          exact Go.fin X0 hlk (v := some (.int (-2 : Int32))) (fun h => by rw [Bd.returns] at h; cases h) (fun fs hr => OwnKit.retI X0 hx Bd.returns (hb hby d7_71) hr) (by rw [e0]; exact ⟨(-2 : Int32), rfl, N0, rfl, (by clear hw; refine Or.inl ⟨by decide, ?_, ?_, ?_⟩ <;> (simp only [Int32.lt_iff_toInt_lt, ← Int32.toInt_inj] at *; omega))⟩) (by decide) (by decide)
        · refine Go.via (fun _ => XS.icmpYes X0.here hx rfl (pc0 := 33) (pc' := 45) rfl (hb hby d7_33) rfl (flt (hc101 : ¬ (d0 < key))).2.1 (by decide) (by decide)) ?_
          refine Go.via (fun _ => XS.iload X0.here hx rfl (hb hby d7_45) rfl) ?_
          refine Go.via (fun _ => XS.iloadN X0.here hx rfl (hb hby d7_47) rfl) ?_
          show Go p e below (s₁.setTop (mkF m 48 #[.val (.ref b), .val (.int (0 : Int32)), .val (.int (3 : Int32)), .val (.int key), .val (.int (0 : Int32)), .val (.int (0 : Int32)), .val (.int (0 : Int32)), .val (.int d0)] [(.int key), (.int d0)])) _
          by_cases hc102 : key < d0
          · refine Go.via (fun _ => XS.icmpNo X0.here hx rfl (hb hby d7_48) rfl (tlt (hc102 : key < d0)).2.2.2) ?_
            show Go p e below (s₁.setTop (mkF m 51 #[.val (.ref b), .val (.int (0 : Int32)), .val (.int (3 : Int32)), .val (.int key), .val (.int (0 : Int32)), .val (.int (0 : Int32)), .val (.int (0 : Int32)), .val (.int d0)] [])) _
            refine Go.via (fun _ => XS.iload X0.here hx rfl (hb hby d7_51) rfl) ?_
            refine Go.via (fun _ => XS.iconst X0.here hx rfl (hb hby d7_53)) ?_
            refine Go.via (fun _ => XS.isub X0.here hx rfl (hb hby d7_54) rfl) ?_
            show Go p e below (s₁.setTop (mkF m 55 #[.val (.ref b), .val (.int (0 : Int32)), .val (.int (3 : Int32)), .val (.int key), .val (.int (0 : Int32)), .val (.int (0 : Int32)), .val (.int (0 : Int32)), .val (.int d0)] [(.int (-1 : Int32))])) _
            refine Go.via (fun _ => XS.istore X0.here hx rfl (hb hby d7_55) rfl (l' := #[.val (.ref b), .val (.int (0 : Int32)), .val (.int (3 : Int32)), .val (.int key), .val (.int (0 : Int32)), .val (.int (-1 : Int32)), .val (.int (0 : Int32)), .val (.int d0)]) rfl) ?_
            show Go p e below (s₁.setTop (mkF m 57 #[.val (.ref b), .val (.int (0 : Int32)), .val (.int (3 : Int32)), .val (.int key), .val (.int (0 : Int32)), .val (.int (-1 : Int32)), .val (.int (0 : Int32)), .val (.int d0)] [])) _
            refine Go.via (fun _ => XS.goto X0.here hx rfl (pc0 := 57) (pc' := 63) rfl (hb hby d7_57) (by decide) (by decide)) ?_
            refine Go.via (fun _ => XS.goto X0.here hx rfl (pc0 := 63) (pc' := 8) rfl (hb hby d7_63) (by decide) (by decide)) ?_
            refine Go.via (fun _ => XS.iload X0.here hx rfl (hb hby d7_8) rfl) ?_
            refine Go.via (fun _ => XS.iload X0.here hx rfl (hb hby d7_10) rfl) ?_
            show Go p e below (s₁.setTop (mkF m 12 #[.val (.ref b), .val (.int (0 : Int32)), .val (.int (3 : Int32)), .val (.int key), .val (.int (0 : Int32)), .val (.int (-1 : Int32)), .val (.int (0 : Int32)), .val (.int d0)] [(.int (-1 : Int32)), (.int (0 : Int32))])) _
            refine Go.via (fun _ => XS.icmpYes X0.here hx rfl (pc0 := 12) (pc' := 66) rfl (hb hby d7_12) rfl (tlt ((by decide) : (-1 : Int32) < (0 : Int32))).2.2.1 (by decide) (by decide)) ?_
            show Go p e below (s₁.setTop (mkF m 66 #[.val (.ref b), .val (.int (0 : Int32)), .val (.int (3 : Int32)), .val (.int key), .val (.int (0 : Int32)), .val (.int (-1 : Int32)), .val (.int (0 : Int32)), .val (.int d0)] [])) _
            refine Go.via (fun _ => XS.iload X0.here hx rfl (hb hby d7_66) rfl) ?_
            refine Go.via (fun _ => XS.iconst X0.here hx rfl (hb hby d7_68)) ?_
            refine Go.via (fun _ => XS.iadd X0.here hx rfl (hb hby d7_69) rfl) ?_
            show Go p e below (s₁.setTop (mkF m 70 #[.val (.ref b), .val (.int (0 : Int32)), .val (.int (3 : Int32)), .val (.int key), .val (.int (0 : Int32)), .val (.int (-1 : Int32)), .val (.int (0 : Int32)), .val (.int d0)] [(.int (1 : Int32))])) _
            refine Go.via (fun _ => XS.ineg X0.here hx rfl (hb hby d7_70) rfl) ?_
            show Go p e below (s₁.setTop (mkF m 71 #[.val (.ref b), .val (.int (0 : Int32)), .val (.int (3 : Int32)), .val (.int key), .val (.int (0 : Int32)), .val (.int (-1 : Int32)), .val (.int (0 : Int32)), .val (.int d0)] [(.int (-1 : Int32))])) _
            exact Go.fin X0 hlk (v := some (.int (-1 : Int32))) (fun h => by rw [Bd.returns] at h; cases h) (fun fs hr => OwnKit.retI X0 hx Bd.returns (hb hby d7_71) hr) (by rw [e0]; exact ⟨(-1 : Int32), rfl, N0, rfl, (by clear hw; refine Or.inl ⟨by decide, ?_, ?_, ?_⟩ <;> (simp only [Int32.lt_iff_toInt_lt, ← Int32.toInt_inj] at *; omega))⟩) (by decide) (by decide)
          · refine Go.via (fun _ => XS.icmpYes X0.here hx rfl (pc0 := 48) (pc' := 60) rfl (hb hby d7_48) rfl (flt (hc102 : ¬ (key < d0))).2.2.2 (by decide) (by decide)) ?_
            show Go p e below (s₁.setTop (mkF m 60 #[.val (.ref b), .val (.int (0 : Int32)), .val (.int (3 : Int32)), .val (.int key), .val (.int (0 : Int32)), .val (.int (0 : Int32)), .val (.int (0 : Int32)), .val (.int d0)] [])) _
            refine Go.via (fun _ => XS.iload X0.here hx rfl (hb hby d7_60) rfl) ?_
            exact Go.fin X0 hlk (v := some (.int (0 : Int32))) (fun h => by rw [Bd.returns] at h; cases h) (fun fs hr => OwnKit.retI X0 hx Bd.returns (hb hby d7_62) hr) (by rw [e0]; exact ⟨(0 : Int32), rfl, N0, rfl, (by clear hw; refine Or.inr (Or.inl ⟨by decide, ?_⟩) <;> (simp only [Int32.lt_iff_toInt_lt, ← Int32.toInt_inj] at *; omega))⟩) (by decide) (by decide)
      · refine Go.via (fun _ => XS.icmpYes X0.here hx rfl (pc0 := 48) (pc' := 60) rfl (hb hby d7_48) rfl (flt (hc100 : ¬ (key < d1))).2.2.2 (by decide) (by decide)) ?_
        show Go p e below (s₁.setTop (mkF m 60 #[.val (.ref b), .val (.int (0 : Int32)), .val (.int (3 : Int32)), .val (.int key), .val (.int (0 : Int32)), .val (.int (2 : Int32)), .val (.int (1 : Int32)), .val (.int d1)] [])) _
        refine Go.via (fun _ => XS.iload X0.here hx rfl (hb hby d7_60) rfl) ?_
        exact Go.fin X0 hlk (v := some (.int (1 : Int32))) (fun h => by rw [Bd.returns] at h; cases h) (fun fs hr => OwnKit.retI X0 hx Bd.returns (hb hby d7_62) hr) (by rw [e0]; exact ⟨(1 : Int32), rfl, N0, rfl, (by clear hw; refine Or.inr (Or.inr (Or.inl ⟨by decide, ?_⟩)) <;> (simp only [Int32.lt_iff_toInt_lt, ← Int32.toInt_inj] at *; omega))⟩) (by decide) (by decide)
def Q_rmB3 (Z : State) (b : Addr) (key : Int32) (d0 : Int32) (d1 : Int32) (d2 : Int32) (h0 : Heap) (n0 : Nat) (vQ : Option Value) (hQ : Heap) (LQ : List Loc) : Prop := ∃ r : Int32, vQ = some (.int r) ∧ Fr n0 LQ ∧ hQ = h0 ∧ ((r < 0 ∧ ¬ key = d0 ∧ ¬ key = d1 ∧ ¬ key = d2) ∨ (r = 0 ∧ key = d0) ∨ (r = 1 ∧ key = d1) ∨ (r = 2 ∧ key = d2))
set_option maxRecDepth 65536 in
set_option maxHeartbeats 40000000 in
theorem rmB3 (l : Launch) (Z : State) (a0 : Array Value) (hw : ∀ d ∈ tables_1, d.before a0 Z = true) (ws : List Jvm.Cond) (b : Addr) (key : Int32) (d0 : Int32) (d1 : Int32) (d2 : Int32) (h0 : Heap) (n0 : Nat) (Z0 : n0 ≤ h0.size) (P0 : Ia Z h0 b .int [d0, d1, d2]) (h01 : d0 < d1) (h12 : d1 < d2) :
    MetFree l (⟨"java/util/Arrays", "binarySearch", "([II)I"⟩ : MethodName) (head1 (Jvm.Cond.code (⟨"java/util/Arrays", "binarySearch", "([II)I"⟩ : MethodName) jdk_65_method_57_code 2 (some .int) :: ws) ({ frames := 1, cells := 0, slots := 0, locals := 19 } : Room)) (fun aQ UQ => aQ = #[(.ref b), (.int key)] ∧ Z.Warmed39 UQ.vm ∧ UQ.heap = h0) (fun _ _ _ _ _ => True) (fun _ UQ oQ UR => ∃ vQ LQ, oQ = .returned vQ ∧ Q_rmB3 Z b key d0 d1 d2 h0 n0 vQ UR.heap LQ ∧ FrameEnd UQ oQ UR LQ ({ frames := 1, cells := 0, slots := 0, locals := 19 } : Room).cells ({ frames := 1, cells := 0, slots := 0, locals := 19 } : Room).slots) := by
  refine MetFree.of_bodySF (plainFor_of_name pn_6) hisR ?_
  intro p e s m args below meth c s₁ Bd hml0 hP hK
  obtain ⟨rfl, hZ, hh⟩ := hP
  have hx := Bd.exec
  have hby := Bd.bytes
  have hlk := Bd.notSynchronized
  have hml : c.maxLocals = 2 := hml0
  have hown : s.vm.findClass "java/util/Arrays" = some m.cls := findClass_of_methodNamed Bd.named
  have hnm := (name_of_methodNamed Bd.named Bd.method).1
  have X0 : Stand p l e ({ frames := 1, cells := 0, slots := 0, locals := 19 } : Room) s m #[(.ref b), (.int key)] below meth c s₁ [] 0 0 := Stand.of_body Bd
  have e0 : s₁.heap = h0 := by rw [← hh, Bd.state]; rfl
  have N0 := Fr.nil n0
  show Go p e below _ (Done s (Q_rmB3 Z b key d0 d1 d2 h0 n0) ({ frames := 1, cells := 0, slots := 0, locals := 19 } : Room).cells ({ frames := 1, cells := 0, slots := 0, locals := 19 } : Room).slots)
  refine Go.via (fun tQ kQ => castTop (ef_6 m b key) kQ) ?_
  show Go p e below (s₁.setTop (mkF m 0 #[.val (.ref b), .val (.int key)] [])) _
  refine Go.via (fun _ => XS.aloadN X0.here hx rfl (hb hby d6_0) rfl rfl) ?_
  refine Go.via (fun _ => XS.iconst X0.here hx rfl (hb hby d6_1)) ?_
  refine Go.via (fun _ => XS.aloadN X0.here hx rfl (hb hby d6_2) rfl rfl) ?_
  refine Go.via (lenI X0 hx hZ e0 P0 (n := (3 : Int32)) rfl (g := (mkF m 3 #[.val (.ref b), .val (.int key)] [(.ref b), (.int (0 : Int32)), (.ref b)])) rfl rfl (hb hby d6_3)) ?_
  show Go p e below (s₁.setTop (mkF m 4 #[.val (.ref b), .val (.int key)] [(.int (3 : Int32)), (.int (0 : Int32)), (.ref b)])) _
  refine Go.via (fun _ => XS.iloadN X0.here hx rfl (hb hby d6_4) rfl) ?_
  obtain ⟨_, _, ⟨T103, L103, k103, n103⟩, -, X103, ⟨Lc103, hQ103, l103, y103, z103⟩, st103⟩ := Jvm.LawKit.callS X0 hx (y := (⟨"java/util/Arrays", "binarySearch0", "([IIII)I"⟩ : MethodName)) hown (mvT hZ (tw hw 33 rfl)) (mvT hZ (tw hw 34 rfl)) (mvT hZ (tw hw 31 rfl)) (mvT hZ (tw hw 35 rfl)) (by decide) (backOf (W := 0) (rmS3 l Z a0 hw [] b (0 : Int32) (3 : Int32) key d0 d1 d2 h0 n0 Z0 P0 rfl rfl h01 h12) hZ (tw hw 35 rfl) (tw hw 31 rfl) (by decide) (by decide)) (g := (mkF m 5 #[.val (.ref b), .val (.int key)] [(.int key), (.int (3 : Int32)), (.int (0 : Int32)), (.ref b)])) rfl (by rw [hml]; rfl) (argsL := [(.ref b), (.int (0 : Int32)), (.int (3 : Int32)), (.int key)]) (rest := []) (lenOf pd__28_5bIIII_29I rfl) rfl (by show 2 * 0 + _ ≤ _; exact Nat.le_of_eq rfl) (hb hby d6_5) (fun _ _ => ⟨rfl, e0, (by decide : 0 + 0 ≤ _), (by decide : 0 + 0 ≤ _)⟩)
  dsimp only [Pt.U, Pt.locs, Pt.cells, Pt.slots] at X103 l103 y103 z103 st103 hQ103
  subst l103 y103 z103
  obtain ⟨v104, rfl, N103q, eh103, qp105⟩ := hQ103
  have N103 := Fr.app N0 N103q
  refine Go.via (st103) ?_
  have e103 : T103.heap = h0 := eh103
  show Go p e below (T103.setTop (mkF m 8 #[.val (.ref b), .val (.int key)] [(.int v104)])) _
  exact Go.fin X103 hlk (v := some (.int v104)) (fun h => by rw [Bd.returns] at h; cases h) (fun fs hr => OwnKit.retI X103 hx Bd.returns (hb hby d6_8) hr) (by rw [e103]; exact ⟨v104, rfl, N103, rfl, qp105⟩) (by decide) (by decide)
def Q_rmF3 (Z : State) (a : Addr) (key : Int32) (d : Addr) (f : Addr) (d0 : Int32) (d1 : Int32) (d2 : Int32) (f0 : Int32) (f1 : Int32) (f2 : Int32) (h0 : Heap) (n0 : Nat) (vQ : Option Value) (hQ : Heap) (LQ : List Loc) : Prop := ∃ r : Int32, vQ = some (.int r) ∧ Fr n0 LQ ∧ hQ = h0 ∧ ((r = 0 ∧ ¬ key = d0 ∧ ¬ key = d1 ∧ ¬ key = d2) ∨ (r = f0 ∧ key = d0) ∨ (r = f1 ∧ key = d1) ∨ (r = f2 ∧ key = d2))
set_option maxRecDepth 65536 in
set_option maxHeartbeats 40000000 in
theorem rmF3 (l : Launch) (Z : State) (a0 : Array Value) (hw : ∀ d ∈ tables_1, d.before a0 Z = true) (ws : List Jvm.Cond) (a : Addr) (key : Int32) (d : Addr) (f : Addr) (d0 : Int32) (d1 : Int32) (d2 : Int32) (f0 : Int32) (f1 : Int32) (f2 : Int32) (h0 : Heap) (n0 : Nat) (Z0 : n0 ≤ h0.size) (P0 : Fld Z h0 a "com/example/libcosearch/libcosearch/PostingList" "documents" "[I" (.ref d)) (P1 : Fld Z h0 a "com/example/libcosearch/libcosearch/PostingList" "frequencies" "[I" (.ref f)) (P2 : Ia Z h0 d .int [d0, d1, d2]) (P3 : Ia Z h0 f .int [f0, f1, f2]) (h01 : d0 < d1) (h12 : d1 < d2) :
    MetFree l (⟨"com/example/libcosearch/libcosearch/PostingList", "frequencyIn", "(I)I"⟩ : MethodName) (head1 (Jvm.Cond.code (⟨"com/example/libcosearch/libcosearch/PostingList", "frequencyIn", "(I)I"⟩ : MethodName) prog_22_method_5_code 3 (some .int) :: ws) ({ frames := 2, cells := 0, slots := 0, locals := 32 } : Room)) (fun aQ UQ => aQ = #[(.ref a), (.int key)] ∧ Z.Warmed39 UQ.vm ∧ UQ.heap = h0) (fun _ _ _ _ _ => True) (fun _ UQ oQ UR => ∃ vQ LQ, oQ = .returned vQ ∧ Q_rmF3 Z a key d f d0 d1 d2 f0 f1 f2 h0 n0 vQ UR.heap LQ ∧ FrameEnd UQ oQ UR LQ ({ frames := 2, cells := 0, slots := 0, locals := 32 } : Room).cells ({ frames := 2, cells := 0, slots := 0, locals := 32 } : Room).slots) := by
  refine MetFree.of_bodySF (plainFor_of_name pn_5) hisR ?_
  intro p e s m args below meth c s₁ Bd hml0 hP hK
  obtain ⟨rfl, hZ, hh⟩ := hP
  have hx := Bd.exec
  have hby := Bd.bytes
  have hlk := Bd.notSynchronized
  have hml : c.maxLocals = 3 := hml0
  have hown : s.vm.findClass "com/example/libcosearch/libcosearch/PostingList" = some m.cls := findClass_of_methodNamed Bd.named
  have hnm := (name_of_methodNamed Bd.named Bd.method).1
  have X0 : Stand p l e ({ frames := 2, cells := 0, slots := 0, locals := 32 } : Room) s m #[(.ref a), (.int key)] below meth c s₁ [] 0 0 := Stand.of_body Bd
  have e0 : s₁.heap = h0 := by rw [← hh, Bd.state]; rfl
  have N0 := Fr.nil n0
  show Go p e below _ (Done s (Q_rmF3 Z a key d f d0 d1 d2 f0 f1 f2 h0 n0) ({ frames := 2, cells := 0, slots := 0, locals := 32 } : Room).cells ({ frames := 2, cells := 0, slots := 0, locals := 32 } : Room).slots)
  refine Go.via (fun tQ kQ => castTop (ef_5 m a key) kQ) ?_
  show Go p e below (s₁.setTop (mkF m 0 #[.val (.ref a), .val (.int key), .unset] [])) _
  refine Go.via (fun _ => XS.aloadN X0.here hx rfl (hb hby d5_0) rfl rfl) ?_
  obtain ⟨T106, X106, e106, st106⟩ := getF X0 hx hZ hown (host := "") (Or.inl (tw hw 18 rfl)) Via.refl e0 P0 (g := (mkF m 1 #[.val (.ref a), .val (.int key), .unset] [(.ref a)])) rfl rfl (hb hby d5_1)
  refine Go.via (st106) ?_
  show Go p e below (T106.setTop (mkF m 4 #[.val (.ref a), .val (.int key), .unset] [(.ref d)])) _
  refine Go.via (fun _ => XS.iloadN X106.here hx rfl (hb hby d5_4) rfl) ?_
  obtain ⟨_, _, ⟨T107, L107, k107, n107⟩, -, X107, ⟨Lc107, hQ107, l107, y107, z107⟩, st107⟩ := Jvm.LawKit.callS X106 hx (y := (⟨"java/util/Arrays", "binarySearch", "([II)I"⟩ : MethodName)) hown (mvT hZ (tw hw 29 rfl)) (mvT hZ (tw hw 30 rfl)) (mvT hZ (tw hw 31 rfl)) (mvT hZ (tw hw 32 rfl)) (by decide) (backOf (W := 0) (rmB3 l Z a0 hw [] d key d0 d1 d2 h0 n0 Z0 P2 h01 h12) hZ (tw hw 32 rfl) (tw hw 31 rfl) (by decide) (by decide)) (g := (mkF m 5 #[.val (.ref a), .val (.int key), .unset] [(.int key), (.ref d)])) rfl (by rw [hml]; rfl) (argsL := [(.ref d), (.int key)]) (rest := []) (lenOf pd__28_5bII_29I rfl) rfl (by show 2 * 0 + _ ≤ _; exact Nat.le_of_eq rfl) (hb hby d5_5) (fun _ _ => ⟨rfl, e106, (by decide : 0 + 0 ≤ _), (by decide : 0 + 0 ≤ _)⟩)
  dsimp only [Pt.U, Pt.locs, Pt.cells, Pt.slots] at X107 l107 y107 z107 st107 hQ107
  subst l107 y107 z107
  obtain ⟨v108, rfl, N107q, eh107, qp109⟩ := hQ107
  have N107 := Fr.app N0 N107q
  refine Go.via (st107) ?_
  have e107 : T107.heap = h0 := eh107
  show Go p e below (T107.setTop (mkF m 8 #[.val (.ref a), .val (.int key), .unset] [(.int v108)])) _
  rcases qp109 with ⟨hneg, hall⟩ | ⟨rfl, hkey⟩ | ⟨rfl, hkey⟩ | ⟨rfl, hkey⟩
  · show Go p e below (T107.setTop (mkF m 8 #[.val (.ref a), .val (.int key), .unset] [(.int v108)])) _
    refine Go.via (fun _ => XS.istoreN X107.here hx rfl (hb hby d5_8) rfl (l' := #[.val (.ref a), .val (.int key), .val (.int v108)]) rfl) ?_
    show Go p e below (T107.setTop (mkF m 9 #[.val (.ref a), .val (.int key), .val (.int v108)] [])) _
    refine Go.via (fun _ => XS.iloadN X107.here hx rfl (hb hby d5_9) rfl) ?_
    refine Go.via (fun _ => XS.ifYes X107.here hx rfl (pc0 := 10) (pc' := 22) rfl (hb hby d5_10) rfl ((if0 _ _).trans (tlt (hneg : v108 < (0 : Int32))).1) (by decide) (by decide)) ?_
    show Go p e below (T107.setTop (mkF m 22 #[.val (.ref a), .val (.int key), .val (.int v108)] [])) _
    refine Go.via (fun _ => XS.iconst X107.here hx rfl (hb hby d5_22)) ?_
    exact Go.fin X107 hlk (v := some (.int (0 : Int32))) (fun h => by rw [Bd.returns] at h; cases h) (fun fs hr => OwnKit.retI X107 hx Bd.returns (hb hby d5_23) hr) (by rw [e107]; exact ⟨(0 : Int32), rfl, N107, rfl, (Or.inl ⟨rfl, hall⟩)⟩) (by decide) (by decide)
  · show Go p e below (T107.setTop (mkF m 8 #[.val (.ref a), .val (.int key), .unset] [(.int (0 : Int32))])) _
    refine Go.via (fun _ => XS.istoreN X107.here hx rfl (hb hby d5_8) rfl (l' := #[.val (.ref a), .val (.int key), .val (.int (0 : Int32))]) rfl) ?_
    show Go p e below (T107.setTop (mkF m 9 #[.val (.ref a), .val (.int key), .val (.int (0 : Int32))] [])) _
    refine Go.via (fun _ => XS.iloadN X107.here hx rfl (hb hby d5_9) rfl) ?_
    refine Go.via (fun _ => XS.ifNo X107.here hx rfl (hb hby d5_10) rfl ((if0 _ _).trans (flt ((by decide) : ¬ ((0 : Int32) < (0 : Int32)))).1)) ?_
    show Go p e below (T107.setTop (mkF m 13 #[.val (.ref a), .val (.int key), .val (.int (0 : Int32))] [])) _
    refine Go.via (fun _ => XS.aloadN X107.here hx rfl (hb hby d5_13) rfl rfl) ?_
    obtain ⟨T110, X110, e110, st110⟩ := getF X107 hx hZ hown (host := "") (Or.inl (tw hw 20 rfl)) Via.refl e107 P1 (g := (mkF m 14 #[.val (.ref a), .val (.int key), .val (.int (0 : Int32))] [(.ref a)])) rfl rfl (hb hby d5_14)
    refine Go.via (st110) ?_
    show Go p e below (T110.setTop (mkF m 17 #[.val (.ref a), .val (.int key), .val (.int (0 : Int32))] [(.ref f)])) _
    refine Go.via (fun _ => XS.iloadN X110.here hx rfl (hb hby d5_17) rfl) ?_
    refine Go.via (ldI X110 hx hZ e110 P3 (v := f0) (by decide) rfl (g := (mkF m 18 #[.val (.ref a), .val (.int key), .val (.int (0 : Int32))] [(.int (0 : Int32)), (.ref f)])) rfl rfl (hb hby d5_18)) ?_
    show Go p e below (T110.setTop (mkF m 19 #[.val (.ref a), .val (.int key), .val (.int (0 : Int32))] [(.int f0)])) _
    refine Go.via (fun _ => XS.goto X110.here hx rfl (pc0 := 19) (pc' := 23) rfl (hb hby d5_19) (by decide) (by decide)) ?_
    exact Go.fin X110 hlk (v := some (.int f0)) (fun h => by rw [Bd.returns] at h; cases h) (fun fs hr => OwnKit.retI X110 hx Bd.returns (hb hby d5_23) hr) (by rw [e110]; exact ⟨f0, rfl, N107, rfl, (Or.inr (Or.inl ⟨rfl, hkey⟩))⟩) (by decide) (by decide)
  · show Go p e below (T107.setTop (mkF m 8 #[.val (.ref a), .val (.int key), .unset] [(.int (1 : Int32))])) _
    refine Go.via (fun _ => XS.istoreN X107.here hx rfl (hb hby d5_8) rfl (l' := #[.val (.ref a), .val (.int key), .val (.int (1 : Int32))]) rfl) ?_
    show Go p e below (T107.setTop (mkF m 9 #[.val (.ref a), .val (.int key), .val (.int (1 : Int32))] [])) _
    refine Go.via (fun _ => XS.iloadN X107.here hx rfl (hb hby d5_9) rfl) ?_
    refine Go.via (fun _ => XS.ifNo X107.here hx rfl (hb hby d5_10) rfl ((if0 _ _).trans (flt ((by decide) : ¬ ((1 : Int32) < (0 : Int32)))).1)) ?_
    show Go p e below (T107.setTop (mkF m 13 #[.val (.ref a), .val (.int key), .val (.int (1 : Int32))] [])) _
    refine Go.via (fun _ => XS.aloadN X107.here hx rfl (hb hby d5_13) rfl rfl) ?_
    obtain ⟨T111, X111, e111, st111⟩ := getF X107 hx hZ hown (host := "") (Or.inl (tw hw 20 rfl)) Via.refl e107 P1 (g := (mkF m 14 #[.val (.ref a), .val (.int key), .val (.int (1 : Int32))] [(.ref a)])) rfl rfl (hb hby d5_14)
    refine Go.via (st111) ?_
    show Go p e below (T111.setTop (mkF m 17 #[.val (.ref a), .val (.int key), .val (.int (1 : Int32))] [(.ref f)])) _
    refine Go.via (fun _ => XS.iloadN X111.here hx rfl (hb hby d5_17) rfl) ?_
    refine Go.via (ldI X111 hx hZ e111 P3 (v := f1) (by decide) rfl (g := (mkF m 18 #[.val (.ref a), .val (.int key), .val (.int (1 : Int32))] [(.int (1 : Int32)), (.ref f)])) rfl rfl (hb hby d5_18)) ?_
    show Go p e below (T111.setTop (mkF m 19 #[.val (.ref a), .val (.int key), .val (.int (1 : Int32))] [(.int f1)])) _
    refine Go.via (fun _ => XS.goto X111.here hx rfl (pc0 := 19) (pc' := 23) rfl (hb hby d5_19) (by decide) (by decide)) ?_
    exact Go.fin X111 hlk (v := some (.int f1)) (fun h => by rw [Bd.returns] at h; cases h) (fun fs hr => OwnKit.retI X111 hx Bd.returns (hb hby d5_23) hr) (by rw [e111]; exact ⟨f1, rfl, N107, rfl, (Or.inr (Or.inr (Or.inl ⟨rfl, hkey⟩)))⟩) (by decide) (by decide)
  · show Go p e below (T107.setTop (mkF m 8 #[.val (.ref a), .val (.int key), .unset] [(.int (2 : Int32))])) _
    refine Go.via (fun _ => XS.istoreN X107.here hx rfl (hb hby d5_8) rfl (l' := #[.val (.ref a), .val (.int key), .val (.int (2 : Int32))]) rfl) ?_
    show Go p e below (T107.setTop (mkF m 9 #[.val (.ref a), .val (.int key), .val (.int (2 : Int32))] [])) _
    refine Go.via (fun _ => XS.iloadN X107.here hx rfl (hb hby d5_9) rfl) ?_
    refine Go.via (fun _ => XS.ifNo X107.here hx rfl (hb hby d5_10) rfl ((if0 _ _).trans (flt ((by decide) : ¬ ((2 : Int32) < (0 : Int32)))).1)) ?_
    show Go p e below (T107.setTop (mkF m 13 #[.val (.ref a), .val (.int key), .val (.int (2 : Int32))] [])) _
    refine Go.via (fun _ => XS.aloadN X107.here hx rfl (hb hby d5_13) rfl rfl) ?_
    obtain ⟨T112, X112, e112, st112⟩ := getF X107 hx hZ hown (host := "") (Or.inl (tw hw 20 rfl)) Via.refl e107 P1 (g := (mkF m 14 #[.val (.ref a), .val (.int key), .val (.int (2 : Int32))] [(.ref a)])) rfl rfl (hb hby d5_14)
    refine Go.via (st112) ?_
    show Go p e below (T112.setTop (mkF m 17 #[.val (.ref a), .val (.int key), .val (.int (2 : Int32))] [(.ref f)])) _
    refine Go.via (fun _ => XS.iloadN X112.here hx rfl (hb hby d5_17) rfl) ?_
    refine Go.via (ldI X112 hx hZ e112 P3 (v := f2) (by decide) rfl (g := (mkF m 18 #[.val (.ref a), .val (.int key), .val (.int (2 : Int32))] [(.int (2 : Int32)), (.ref f)])) rfl rfl (hb hby d5_18)) ?_
    show Go p e below (T112.setTop (mkF m 19 #[.val (.ref a), .val (.int key), .val (.int (2 : Int32))] [(.int f2)])) _
    refine Go.via (fun _ => XS.goto X112.here hx rfl (pc0 := 19) (pc' := 23) rfl (hb hby d5_19) (by decide) (by decide)) ?_
    exact Go.fin X112 hlk (v := some (.int f2)) (fun h => by rw [Bd.returns] at h; cases h) (fun fs hr => OwnKit.retI X112 hx Bd.returns (hb hby d5_23) hr) (by rw [e112]; exact ⟨f2, rfl, N107, rfl, (Or.inr (Or.inr (Or.inr (⟨rfl, hkey⟩))))⟩) (by decide) (by decide)
theorem own_n4 (x : Int32) : ∃ n : Int32, ((x.toUInt32 >>> ((3 : Int32) &&& 31).toUInt32).toInt32 &&& (3 : Int32)) = n ∧ (n = 0 ∨ n = 1 ∨ n = 2 ∨ n = 3) := by
  refine ⟨_, rfl, ?_⟩
  generalize (x.toUInt32 >>> ((3 : Int32) &&& 31).toUInt32).toInt32 = y
  have h1 := c_mask y 3 2 (by decide) (by decide)
  have h2 : (y &&& 3).toInt = 0 ∨ (y &&& 3).toInt = 1 ∨ (y &&& 3).toInt = 2 ∨ (y &&& 3).toInt = 3 := by omega
  rcases h2 with h | h | h | h
  · exact Or.inl (Int32.toInt_inj.mp h)
  · exact Or.inr (Or.inl (Int32.toInt_inj.mp h))
  · exact Or.inr (Or.inr (Or.inl (Int32.toInt_inj.mp h)))
  · exact Or.inr (Or.inr (Or.inr (Int32.toInt_inj.mp h)))
theorem own_mm {x y : Int32} (h : ¬ x = y) : (if y < x then y else x) < (if x < y then y else x) := by
  have h2 : ¬ x.toInt = y.toInt := fun q => h (Int32.toInt_inj.mp q)
  simp only [Int32.lt_iff_toInt_lt]
  split <;> split <;> omega
theorem own_mid {x y z lo hi mid : Int32} (hlo : (if z < (if y < x then y else x) then z else (if y < x then y else x)) = lo) (hhi : (if (if x < y then y else x) < z then z else (if x < y then y else x)) = hi) (hm : ((((x + y) + z) - lo) - hi) = mid) (h1 : ¬ lo = mid) (h2 : ¬ mid = hi) : lo < mid ∧ mid < hi := by
  have a1 := c_iadd x y; have a2 := c_iadd (x + y) z; have a3 := c_isub ((x + y) + z) lo; have a4 := c_isub (((x + y) + z) - lo) hi
  rw [hm] at a4
  have r1 := rng32 x; have r2 := rng32 y; have r3 := rng32 z; have r4 := rng32 mid
  have h1' : ¬ lo.toInt = mid.toInt := fun q => h1 (Int32.toInt_inj.mp q)
  have h2' : ¬ mid.toInt = hi.toInt := fun q => h2 (Int32.toInt_inj.mp q)
  have e0 : (if y < x then y else x).toInt = min y.toInt x.toInt := by
    split
    · rename_i q; rw [Int32.lt_iff_toInt_lt] at q; omega
    · rename_i q; rw [Int32.lt_iff_toInt_lt] at q; omega
  have f0 : (if x < y then y else x).toInt = max x.toInt y.toInt := by
    split
    · rename_i q; rw [Int32.lt_iff_toInt_lt] at q; omega
    · rename_i q; rw [Int32.lt_iff_toInt_lt] at q; omega
  have e1 : lo.toInt = min z.toInt (min y.toInt x.toInt) := by
    rw [← hlo, ← e0]
    generalize (if y < x then y else x) = u
    split
    · rename_i q; rw [Int32.lt_iff_toInt_lt] at q; omega
    · rename_i q; rw [Int32.lt_iff_toInt_lt] at q; omega
  have e2 : hi.toInt = max z.toInt (max x.toInt y.toInt) := by
    rw [← hhi, ← f0]
    generalize (if x < y then y else x) = u
    split
    · rename_i q; rw [Int32.lt_iff_toInt_lt] at q; omega
    · rename_i q; rw [Int32.lt_iff_toInt_lt] at q; omega
  simp only [Int32.lt_iff_toInt_lt]
  omega
theorem own_f0 {q r : Int32} (hr : (r = 0)) : (r = 0) := hr
theorem own_f1 {q r d0 f0 : Int32} (hr : (r = 0 ∧ ¬ q = d0) ∨ (r = f0 ∧ q = d0))  : (q = d0 → r = f0) ∧ (¬ q = d0 → r = 0) := by
  simp only [Int32.lt_iff_toInt_lt, ← Int32.toInt_inj] at *
  omega
theorem own_f2 {q r d0 d1 f0 f1 : Int32} (hr : (r = 0 ∧ ¬ q = d0 ∧ ¬ q = d1) ∨ (r = f0 ∧ q = d0) ∨ (r = f1 ∧ q = d1)) (h01 : d0 < d1) : (q = d0 → r = f0) ∧ (¬ q = d0 → q = d1 → r = f1) ∧ (¬ q = d0 → ¬ q = d1 → r = 0) := by
  simp only [Int32.lt_iff_toInt_lt, ← Int32.toInt_inj] at *
  omega
theorem own_f3 {q r d0 d1 d2 f0 f1 f2 : Int32} (hr : (r = 0 ∧ ¬ q = d0 ∧ ¬ q = d1 ∧ ¬ q = d2) ∨ (r = f0 ∧ q = d0) ∨ (r = f1 ∧ q = d1) ∨ (r = f2 ∧ q = d2)) (h01 : d0 < d1) (h12 : d1 < d2) : (q = d0 → r = f0) ∧ (¬ q = d0 → q = d1 → r = f1) ∧ (¬ q = d0 → ¬ q = d1 → q = d2 → r = f2) ∧ (¬ q = d0 → ¬ q = d1 → ¬ q = d2 → r = 0) := by
  simp only [Int32.lt_iff_toInt_lt, ← Int32.toInt_inj] at *
  omega
theorem pd__28II_29I : parseMethodDescriptor "(II)I" = some ⟨[.int, .int], some .int⟩ := by decide +kernel
theorem pd__28_5bI_5bI_29V : parseMethodDescriptor "([I[I)V" = some ⟨[(.array .int), (.array .int)], none⟩ := by decide +kernel
theorem pd__28I_29I : parseMethodDescriptor "(I)I" = some ⟨[.int], some .int⟩ := by decide +kernel
theorem pn_0 : plainName "com/example/libcosearch/libcosearch/PostingListFrequencyInPinLaw" = true := by first | (simp [plainName, overriddenIn]; done) | decide +kernel
theorem ef_0 (m : MethodId) (x0 : Int32) (x1 : Int32) (x2 : Int32) (x3 : Int32) (x4 : Int32) (x5 : Int64) : entryFrame m #[(.int x0), (.int x1), (.int x2), (.int x3), (.int x4), (.long x5)] maxLocals = mkF m 0 #[.val (.int x0), .val (.int x1), .val (.int x2), .val (.int x3), .val (.int x4), .val (.long x5), .second, .unset, .unset, .unset, .unset, .unset, .unset, .unset, .unset, .unset, .unset, .unset, .unset, .unset] [] := by first | (simp [entryFrame, mkF, argsToLocals, Value.category, maxLocals]; done) | rfl
def Q_rm0 (Z : State) (x1 : Int32) (y1 : Int32) (z1 : Int32) (w1 : Int32) (s_ : Int32) (fq : Int64)  (h0 : Heap) (n0 : Nat) (vQ : Option Value) (hQ : Heap) (LQ : List Loc) : Prop := vQ = some (.int (1 : Int32)) ∧ Fr n0 LQ ∧ Keep h0 hQ []
set_option maxRecDepth 65536 in
set_option maxHeartbeats 40000000 in
theorem rm0 (l : Launch) (Z : State) (a0 : Array Value) (hw : ∀ d ∈ tables_1, d.before a0 Z = true) (ws : List Jvm.Cond) (x1 : Int32) (y1 : Int32) (z1 : Int32) (w1 : Int32) (s_ : Int32) (fq : Int64)  (h0 : Heap) (n0 : Nat) (Z0 : n0 ≤ h0.size) :
    MetFree l x (head1 (Jvm.Cond.code x code maxLocals ret :: ws) room_1) (fun aQ UQ => aQ = #[(.int x1), (.int y1), (.int z1), (.int w1), (.int s_), (.long fq)] ∧ Z.Warmed39 UQ.vm ∧ UQ.heap = h0) (fun _ _ _ _ _ => True) (fun _ UQ oQ UR => ∃ vQ LQ, oQ = .returned vQ ∧ Q_rm0 Z x1 y1 z1 w1 s_ fq  h0 n0 vQ UR.heap LQ ∧ FrameEnd UQ oQ UR LQ room_1.cells room_1.slots) := by
  refine MetFree.of_bodySF (plainFor_of_name pn_0) hisR ?_
  intro p e s m args below meth c s₁ Bd hml0 hP hK
  obtain ⟨rfl, hZ, hh⟩ := hP
  have hx := Bd.exec
  have hby := Bd.bytes
  have hlk := Bd.notSynchronized
  have hml : c.maxLocals = 20 := hml0
  have hown : s.vm.findClass "com/example/libcosearch/libcosearch/PostingListFrequencyInPinLaw" = some m.cls := findClass_of_methodNamed Bd.named
  have hnm := (name_of_methodNamed Bd.named Bd.method).1
  have X0 : Stand p l e room_1 s m #[(.int x1), (.int y1), (.int z1), (.int w1), (.int s_), (.long fq)] below meth c s₁ [] 0 0 := Stand.of_body Bd
  have e0 : s₁.heap = h0 := by rw [← hh, Bd.state]; rfl
  have N0 := Fr.nil n0
  show Go p e below _ (Done s (Q_rm0 Z x1 y1 z1 w1 s_ fq  h0 n0) room_1.cells room_1.slots)
  refine Go.via (fun tQ kQ => castTop (ef_0 m x1 y1 z1 w1 s_ fq) kQ) ?_
  show Go p e below (s₁.setTop (mkF m 0 #[.val (.int x1), .val (.int y1), .val (.int z1), .val (.int w1), .val (.int s_), .val (.long fq), .second, .unset, .unset, .unset, .unset, .unset, .unset, .unset, .unset, .unset, .unset, .unset, .unset, .unset] [])) _
  refine Go.via (fun _ => XS.iload X0.here hx rfl (hb hby at_0) rfl) ?_
  refine Go.via (fun _ => XS.iconst X0.here hx rfl (hb hby at_2)) ?_
  refine Go.via (fun _ => XS.iushr X0.here hx rfl (hb hby at_3) rfl) ?_
  show Go p e below (s₁.setTop (mkF m 4 #[.val (.int x1), .val (.int y1), .val (.int z1), .val (.int w1), .val (.int s_), .val (.long fq), .second, .unset, .unset, .unset, .unset, .unset, .unset, .unset, .unset, .unset, .unset, .unset, .unset, .unset] [(.int ((s_.toUInt32 >>> ((3 : Int32) &&& 31).toUInt32).toInt32))])) _
  refine Go.via (fun _ => XS.iconst X0.here hx rfl (hb hby at_4)) ?_
  refine Go.via (fun _ => XS.iand X0.here hx rfl (hb hby at_5) rfl) ?_
  show Go p e below (s₁.setTop (mkF m 6 #[.val (.int x1), .val (.int y1), .val (.int z1), .val (.int w1), .val (.int s_), .val (.long fq), .second, .unset, .unset, .unset, .unset, .unset, .unset, .unset, .unset, .unset, .unset, .unset, .unset, .unset] [(.int (((s_.toUInt32 >>> ((3 : Int32) &&& 31).toUInt32).toInt32) &&& (3 : Int32)))])) _
  obtain ⟨n, hn0, hn⟩ := own_n4 s_
  rw [hn0]
  show Go p e below (s₁.setTop (mkF m 6 #[.val (.int x1), .val (.int y1), .val (.int z1), .val (.int w1), .val (.int s_), .val (.long fq), .second, .unset, .unset, .unset, .unset, .unset, .unset, .unset, .unset, .unset, .unset, .unset, .unset, .unset] [(.int n)])) _
  refine Go.via (fun _ => XS.istore X0.here hx rfl (hb hby at_6) rfl (l' := #[.val (.int x1), .val (.int y1), .val (.int z1), .val (.int w1), .val (.int s_), .val (.long fq), .second, .val (.int n), .unset, .unset, .unset, .unset, .unset, .unset, .unset, .unset, .unset, .unset, .unset, .unset]) rfl) ?_
  show Go p e below (s₁.setTop (mkF m 8 #[.val (.int x1), .val (.int y1), .val (.int z1), .val (.int w1), .val (.int s_), .val (.long fq), .second, .val (.int n), .unset, .unset, .unset, .unset, .unset, .unset, .unset, .unset, .unset, .unset, .unset, .unset] [])) _
  refine Go.via (fun _ => XS.lload X0.here hx rfl (hb hby at_8) rfl) ?_
  refine Go.via (X0.ldc2Long hx hown (mvT hZ (tw hw 0 rfl)) (g := (mkF m 10 #[.val (.int x1), .val (.int y1), .val (.int z1), .val (.int w1), .val (.int s_), .val (.long fq), .second, .val (.int n), .unset, .unset, .unset, .unset, .unset, .unset, .unset, .unset, .unset, .unset, .unset, .unset] [(.long fq)])) rfl (hb hby at_10)) ?_
  show Go p e below (s₁.setTop (mkF m 13 #[.val (.int x1), .val (.int y1), .val (.int z1), .val (.int w1), .val (.int s_), .val (.long fq), .second, .val (.int n), .unset, .unset, .unset, .unset, .unset, .unset, .unset, .unset, .unset, .unset, .unset, .unset] [(.long (1048575 : Int64)), (.long fq)])) _
  refine Go.via (fun _ => XS.land X0.here hx rfl (hb hby at_13) rfl) ?_
  show Go p e below (s₁.setTop (mkF m 14 #[.val (.int x1), .val (.int y1), .val (.int z1), .val (.int w1), .val (.int s_), .val (.long fq), .second, .val (.int n), .unset, .unset, .unset, .unset, .unset, .unset, .unset, .unset, .unset, .unset, .unset, .unset] [(.long (fq &&& (1048575 : Int64)))])) _
  refine Go.via (fun _ => XS.l2i X0.here hx rfl (hb hby at_14) rfl) ?_
  show Go p e below (s₁.setTop (mkF m 15 #[.val (.int x1), .val (.int y1), .val (.int z1), .val (.int w1), .val (.int s_), .val (.long fq), .second, .val (.int n), .unset, .unset, .unset, .unset, .unset, .unset, .unset, .unset, .unset, .unset, .unset, .unset] [(.int ((fq &&& (1048575 : Int64)).toInt32))])) _
  refine Go.via (fun _ => XS.iconst X0.here hx rfl (hb hby at_15)) ?_
  refine Go.via (fun _ => XS.iadd X0.here hx rfl (hb hby at_16) rfl) ?_
  show Go p e below (s₁.setTop (mkF m 17 #[.val (.int x1), .val (.int y1), .val (.int z1), .val (.int w1), .val (.int s_), .val (.long fq), .second, .val (.int n), .unset, .unset, .unset, .unset, .unset, .unset, .unset, .unset, .unset, .unset, .unset, .unset] [(.int (((fq &&& (1048575 : Int64)).toInt32) + (1 : Int32)))])) _
  generalize hv_f0 : (((fq &&& (1048575 : Int64)).toInt32) + (1 : Int32)) = f0
  show Go p e below (s₁.setTop (mkF m 17 #[.val (.int x1), .val (.int y1), .val (.int z1), .val (.int w1), .val (.int s_), .val (.long fq), .second, .val (.int n), .unset, .unset, .unset, .unset, .unset, .unset, .unset, .unset, .unset, .unset, .unset, .unset] [(.int f0)])) _
  refine Go.via (fun _ => XS.istore X0.here hx rfl (hb hby at_17) rfl (l' := #[.val (.int x1), .val (.int y1), .val (.int z1), .val (.int w1), .val (.int s_), .val (.long fq), .second, .val (.int n), .val (.int f0), .unset, .unset, .unset, .unset, .unset, .unset, .unset, .unset, .unset, .unset, .unset]) rfl) ?_
  show Go p e below (s₁.setTop (mkF m 19 #[.val (.int x1), .val (.int y1), .val (.int z1), .val (.int w1), .val (.int s_), .val (.long fq), .second, .val (.int n), .val (.int f0), .unset, .unset, .unset, .unset, .unset, .unset, .unset, .unset, .unset, .unset, .unset] [])) _
  refine Go.via (fun _ => XS.lload X0.here hx rfl (hb hby at_19) rfl) ?_
  refine Go.via (fun _ => XS.bipush X0.here hx rfl (hb hby at_21)) ?_
  refine Go.via (fun _ => XS.lushr X0.here hx rfl (hb hby at_23) rfl) ?_
  show Go p e below (s₁.setTop (mkF m 24 #[.val (.int x1), .val (.int y1), .val (.int z1), .val (.int w1), .val (.int s_), .val (.long fq), .second, .val (.int n), .val (.int f0), .unset, .unset, .unset, .unset, .unset, .unset, .unset, .unset, .unset, .unset, .unset] [(.long ((fq.toUInt64 >>> ((20 : Int32) &&& 0x3f).toInt64.toUInt64).toInt64))])) _
  refine Go.via (X0.ldc2Long hx hown (mvT hZ (tw hw 0 rfl)) (g := (mkF m 24 #[.val (.int x1), .val (.int y1), .val (.int z1), .val (.int w1), .val (.int s_), .val (.long fq), .second, .val (.int n), .val (.int f0), .unset, .unset, .unset, .unset, .unset, .unset, .unset, .unset, .unset, .unset, .unset] [(.long ((fq.toUInt64 >>> ((20 : Int32) &&& 0x3f).toInt64.toUInt64).toInt64))])) rfl (hb hby at_24)) ?_
  show Go p e below (s₁.setTop (mkF m 27 #[.val (.int x1), .val (.int y1), .val (.int z1), .val (.int w1), .val (.int s_), .val (.long fq), .second, .val (.int n), .val (.int f0), .unset, .unset, .unset, .unset, .unset, .unset, .unset, .unset, .unset, .unset, .unset] [(.long (1048575 : Int64)), (.long ((fq.toUInt64 >>> ((20 : Int32) &&& 0x3f).toInt64.toUInt64).toInt64))])) _
  refine Go.via (fun _ => XS.land X0.here hx rfl (hb hby at_27) rfl) ?_
  show Go p e below (s₁.setTop (mkF m 28 #[.val (.int x1), .val (.int y1), .val (.int z1), .val (.int w1), .val (.int s_), .val (.long fq), .second, .val (.int n), .val (.int f0), .unset, .unset, .unset, .unset, .unset, .unset, .unset, .unset, .unset, .unset, .unset] [(.long (((fq.toUInt64 >>> ((20 : Int32) &&& 0x3f).toInt64.toUInt64).toInt64) &&& (1048575 : Int64)))])) _
  refine Go.via (fun _ => XS.l2i X0.here hx rfl (hb hby at_28) rfl) ?_
  show Go p e below (s₁.setTop (mkF m 29 #[.val (.int x1), .val (.int y1), .val (.int z1), .val (.int w1), .val (.int s_), .val (.long fq), .second, .val (.int n), .val (.int f0), .unset, .unset, .unset, .unset, .unset, .unset, .unset, .unset, .unset, .unset, .unset] [(.int ((((fq.toUInt64 >>> ((20 : Int32) &&& 0x3f).toInt64.toUInt64).toInt64) &&& (1048575 : Int64)).toInt32))])) _
  refine Go.via (fun _ => XS.iconst X0.here hx rfl (hb hby at_29)) ?_
  refine Go.via (fun _ => XS.iadd X0.here hx rfl (hb hby at_30) rfl) ?_
  show Go p e below (s₁.setTop (mkF m 31 #[.val (.int x1), .val (.int y1), .val (.int z1), .val (.int w1), .val (.int s_), .val (.long fq), .second, .val (.int n), .val (.int f0), .unset, .unset, .unset, .unset, .unset, .unset, .unset, .unset, .unset, .unset, .unset] [(.int (((((fq.toUInt64 >>> ((20 : Int32) &&& 0x3f).toInt64.toUInt64).toInt64) &&& (1048575 : Int64)).toInt32) + (1 : Int32)))])) _
  generalize hv_f1 : (((((fq.toUInt64 >>> ((20 : Int32) &&& 0x3f).toInt64.toUInt64).toInt64) &&& (1048575 : Int64)).toInt32) + (1 : Int32)) = f1
  show Go p e below (s₁.setTop (mkF m 31 #[.val (.int x1), .val (.int y1), .val (.int z1), .val (.int w1), .val (.int s_), .val (.long fq), .second, .val (.int n), .val (.int f0), .unset, .unset, .unset, .unset, .unset, .unset, .unset, .unset, .unset, .unset, .unset] [(.int f1)])) _
  refine Go.via (fun _ => XS.istore X0.here hx rfl (hb hby at_31) rfl (l' := #[.val (.int x1), .val (.int y1), .val (.int z1), .val (.int w1), .val (.int s_), .val (.long fq), .second, .val (.int n), .val (.int f0), .val (.int f1), .unset, .unset, .unset, .unset, .unset, .unset, .unset, .unset, .unset, .unset]) rfl) ?_
  show Go p e below (s₁.setTop (mkF m 33 #[.val (.int x1), .val (.int y1), .val (.int z1), .val (.int w1), .val (.int s_), .val (.long fq), .second, .val (.int n), .val (.int f0), .val (.int f1), .unset, .unset, .unset, .unset, .unset, .unset, .unset, .unset, .unset, .unset] [])) _
  refine Go.via (fun _ => XS.lload X0.here hx rfl (hb hby at_33) rfl) ?_
  refine Go.via (fun _ => XS.bipush X0.here hx rfl (hb hby at_35)) ?_
  refine Go.via (fun _ => XS.lushr X0.here hx rfl (hb hby at_37) rfl) ?_
  show Go p e below (s₁.setTop (mkF m 38 #[.val (.int x1), .val (.int y1), .val (.int z1), .val (.int w1), .val (.int s_), .val (.long fq), .second, .val (.int n), .val (.int f0), .val (.int f1), .unset, .unset, .unset, .unset, .unset, .unset, .unset, .unset, .unset, .unset] [(.long ((fq.toUInt64 >>> ((40 : Int32) &&& 0x3f).toInt64.toUInt64).toInt64))])) _
  refine Go.via (X0.ldc2Long hx hown (mvT hZ (tw hw 0 rfl)) (g := (mkF m 38 #[.val (.int x1), .val (.int y1), .val (.int z1), .val (.int w1), .val (.int s_), .val (.long fq), .second, .val (.int n), .val (.int f0), .val (.int f1), .unset, .unset, .unset, .unset, .unset, .unset, .unset, .unset, .unset, .unset] [(.long ((fq.toUInt64 >>> ((40 : Int32) &&& 0x3f).toInt64.toUInt64).toInt64))])) rfl (hb hby at_38)) ?_
  show Go p e below (s₁.setTop (mkF m 41 #[.val (.int x1), .val (.int y1), .val (.int z1), .val (.int w1), .val (.int s_), .val (.long fq), .second, .val (.int n), .val (.int f0), .val (.int f1), .unset, .unset, .unset, .unset, .unset, .unset, .unset, .unset, .unset, .unset] [(.long (1048575 : Int64)), (.long ((fq.toUInt64 >>> ((40 : Int32) &&& 0x3f).toInt64.toUInt64).toInt64))])) _
  refine Go.via (fun _ => XS.land X0.here hx rfl (hb hby at_41) rfl) ?_
  show Go p e below (s₁.setTop (mkF m 42 #[.val (.int x1), .val (.int y1), .val (.int z1), .val (.int w1), .val (.int s_), .val (.long fq), .second, .val (.int n), .val (.int f0), .val (.int f1), .unset, .unset, .unset, .unset, .unset, .unset, .unset, .unset, .unset, .unset] [(.long (((fq.toUInt64 >>> ((40 : Int32) &&& 0x3f).toInt64.toUInt64).toInt64) &&& (1048575 : Int64)))])) _
  refine Go.via (fun _ => XS.l2i X0.here hx rfl (hb hby at_42) rfl) ?_
  show Go p e below (s₁.setTop (mkF m 43 #[.val (.int x1), .val (.int y1), .val (.int z1), .val (.int w1), .val (.int s_), .val (.long fq), .second, .val (.int n), .val (.int f0), .val (.int f1), .unset, .unset, .unset, .unset, .unset, .unset, .unset, .unset, .unset, .unset] [(.int ((((fq.toUInt64 >>> ((40 : Int32) &&& 0x3f).toInt64.toUInt64).toInt64) &&& (1048575 : Int64)).toInt32))])) _
  refine Go.via (fun _ => XS.iconst X0.here hx rfl (hb hby at_43)) ?_
  refine Go.via (fun _ => XS.iadd X0.here hx rfl (hb hby at_44) rfl) ?_
  show Go p e below (s₁.setTop (mkF m 45 #[.val (.int x1), .val (.int y1), .val (.int z1), .val (.int w1), .val (.int s_), .val (.long fq), .second, .val (.int n), .val (.int f0), .val (.int f1), .unset, .unset, .unset, .unset, .unset, .unset, .unset, .unset, .unset, .unset] [(.int (((((fq.toUInt64 >>> ((40 : Int32) &&& 0x3f).toInt64.toUInt64).toInt64) &&& (1048575 : Int64)).toInt32) + (1 : Int32)))])) _
  generalize hv_f2 : (((((fq.toUInt64 >>> ((40 : Int32) &&& 0x3f).toInt64.toUInt64).toInt64) &&& (1048575 : Int64)).toInt32) + (1 : Int32)) = f2
  show Go p e below (s₁.setTop (mkF m 45 #[.val (.int x1), .val (.int y1), .val (.int z1), .val (.int w1), .val (.int s_), .val (.long fq), .second, .val (.int n), .val (.int f0), .val (.int f1), .unset, .unset, .unset, .unset, .unset, .unset, .unset, .unset, .unset, .unset] [(.int f2)])) _
  refine Go.via (fun _ => XS.istore X0.here hx rfl (hb hby at_45) rfl (l' := #[.val (.int x1), .val (.int y1), .val (.int z1), .val (.int w1), .val (.int s_), .val (.long fq), .second, .val (.int n), .val (.int f0), .val (.int f1), .val (.int f2), .unset, .unset, .unset, .unset, .unset, .unset, .unset, .unset, .unset]) rfl) ?_
  show Go p e below (s₁.setTop (mkF m 47 #[.val (.int x1), .val (.int y1), .val (.int z1), .val (.int w1), .val (.int s_), .val (.long fq), .second, .val (.int n), .val (.int f0), .val (.int f1), .val (.int f2), .unset, .unset, .unset, .unset, .unset, .unset, .unset, .unset, .unset] [])) _
  refine Go.via (fun _ => XS.iloadN X0.here hx rfl (hb hby at_47) rfl) ?_
  refine Go.via (fun _ => XS.iloadN X0.here hx rfl (hb hby at_48) rfl) ?_
  obtain ⟨_, _, ⟨T113, L113, k113, n113⟩, -, X113, ⟨Lc113, hQ113, l113, y113, z113⟩, st113⟩ := Jvm.LawKit.callS X0 hx (y := (⟨"java/lang/Math", "min", "(II)I"⟩ : MethodName)) hown (mvT hZ (tw hw 1 rfl)) (mvT hZ (tw hw 2 rfl)) (mvT hZ (tw hw 3 rfl)) (mvT hZ (tw hw 4 rfl)) (by decide) (backOf (W := 0) (rmM l Z a0 hw [] x1 y1  h0 n0 Z0) hZ (tw hw 4 rfl) (tw hw 3 rfl) (by decide) (by decide)) (g := (mkF m 49 #[.val (.int x1), .val (.int y1), .val (.int z1), .val (.int w1), .val (.int s_), .val (.long fq), .second, .val (.int n), .val (.int f0), .val (.int f1), .val (.int f2), .unset, .unset, .unset, .unset, .unset, .unset, .unset, .unset, .unset] [(.int y1), (.int x1)])) rfl (by rw [hml]; rfl) (argsL := [(.int x1), (.int y1)]) (rest := []) (lenOf pd__28II_29I rfl) rfl (by show 2 * 0 + _ ≤ _; exact Nat.le_of_eq rfl) (hb hby at_49) (fun _ _ => ⟨rfl, e0, (by decide : 0 + 0 ≤ _), (by decide : 0 + 0 ≤ _)⟩)
  dsimp only [Pt.U, Pt.locs, Pt.cells, Pt.slots] at X113 l113 y113 z113 st113 hQ113
  subst l113 y113 z113
  obtain ⟨rfl, N113q, eh113⟩ := hQ113
  have N113 := Fr.app N0 N113q
  refine Go.via (st113) ?_
  have e113 : T113.heap = h0 := eh113
  show Go p e below (T113.setTop (mkF m 52 #[.val (.int x1), .val (.int y1), .val (.int z1), .val (.int w1), .val (.int s_), .val (.long fq), .second, .val (.int n), .val (.int f0), .val (.int f1), .val (.int f2), .unset, .unset, .unset, .unset, .unset, .unset, .unset, .unset, .unset] [(.int (if y1 < x1 then y1 else x1))])) _
  refine Go.via (fun _ => XS.iloadN X113.here hx rfl (hb hby at_52) rfl) ?_
  obtain ⟨_, _, ⟨T114, L114, k114, n114⟩, -, X114, ⟨Lc114, hQ114, l114, y114, z114⟩, st114⟩ := Jvm.LawKit.callS X113 hx (y := (⟨"java/lang/Math", "min", "(II)I"⟩ : MethodName)) hown (mvT hZ (tw hw 1 rfl)) (mvT hZ (tw hw 2 rfl)) (mvT hZ (tw hw 3 rfl)) (mvT hZ (tw hw 4 rfl)) (by decide) (backOf (W := 0) (rmM l Z a0 hw [] (if y1 < x1 then y1 else x1) z1  h0 n0 Z0) hZ (tw hw 4 rfl) (tw hw 3 rfl) (by decide) (by decide)) (g := (mkF m 53 #[.val (.int x1), .val (.int y1), .val (.int z1), .val (.int w1), .val (.int s_), .val (.long fq), .second, .val (.int n), .val (.int f0), .val (.int f1), .val (.int f2), .unset, .unset, .unset, .unset, .unset, .unset, .unset, .unset, .unset] [(.int z1), (.int (if y1 < x1 then y1 else x1))])) rfl (by rw [hml]; rfl) (argsL := [(.int (if y1 < x1 then y1 else x1)), (.int z1)]) (rest := []) (lenOf pd__28II_29I rfl) rfl (by show 2 * 0 + _ ≤ _; exact Nat.le_of_eq rfl) (hb hby at_53) (fun _ _ => ⟨rfl, e113, (by decide : 0 + 0 ≤ _), (by decide : 0 + 0 ≤ _)⟩)
  dsimp only [Pt.U, Pt.locs, Pt.cells, Pt.slots] at X114 l114 y114 z114 st114 hQ114
  subst l114 y114 z114
  obtain ⟨rfl, N114q, eh114⟩ := hQ114
  have N114 := Fr.app N113 N114q
  refine Go.via (st114) ?_
  have e114 : T114.heap = h0 := eh114
  show Go p e below (T114.setTop (mkF m 56 #[.val (.int x1), .val (.int y1), .val (.int z1), .val (.int w1), .val (.int s_), .val (.long fq), .second, .val (.int n), .val (.int f0), .val (.int f1), .val (.int f2), .unset, .unset, .unset, .unset, .unset, .unset, .unset, .unset, .unset] [(.int (if z1 < (if y1 < x1 then y1 else x1) then z1 else (if y1 < x1 then y1 else x1)))])) _
  generalize hv_lo : (if z1 < (if y1 < x1 then y1 else x1) then z1 else (if y1 < x1 then y1 else x1)) = lo
  show Go p e below (T114.setTop (mkF m 56 #[.val (.int x1), .val (.int y1), .val (.int z1), .val (.int w1), .val (.int s_), .val (.long fq), .second, .val (.int n), .val (.int f0), .val (.int f1), .val (.int f2), .unset, .unset, .unset, .unset, .unset, .unset, .unset, .unset, .unset] [(.int lo)])) _
  refine Go.via (fun _ => XS.istore X114.here hx rfl (hb hby at_56) rfl (l' := #[.val (.int x1), .val (.int y1), .val (.int z1), .val (.int w1), .val (.int s_), .val (.long fq), .second, .val (.int n), .val (.int f0), .val (.int f1), .val (.int f2), .val (.int lo), .unset, .unset, .unset, .unset, .unset, .unset, .unset, .unset]) rfl) ?_
  show Go p e below (T114.setTop (mkF m 58 #[.val (.int x1), .val (.int y1), .val (.int z1), .val (.int w1), .val (.int s_), .val (.long fq), .second, .val (.int n), .val (.int f0), .val (.int f1), .val (.int f2), .val (.int lo), .unset, .unset, .unset, .unset, .unset, .unset, .unset, .unset] [])) _
  refine Go.via (fun _ => XS.iloadN X114.here hx rfl (hb hby at_58) rfl) ?_
  refine Go.via (fun _ => XS.iloadN X114.here hx rfl (hb hby at_59) rfl) ?_
  obtain ⟨_, _, ⟨T115, L115, k115, n115⟩, -, X115, ⟨Lc115, hQ115, l115, y115, z115⟩, st115⟩ := Jvm.LawKit.callS X114 hx (y := (⟨"java/lang/Math", "max", "(II)I"⟩ : MethodName)) hown (mvT hZ (tw hw 5 rfl)) (mvT hZ (tw hw 6 rfl)) (mvT hZ (tw hw 3 rfl)) (mvT hZ (tw hw 7 rfl)) (by decide) (backOf (W := 0) (rmX l Z a0 hw [] x1 y1  h0 n0 Z0) hZ (tw hw 7 rfl) (tw hw 3 rfl) (by decide) (by decide)) (g := (mkF m 60 #[.val (.int x1), .val (.int y1), .val (.int z1), .val (.int w1), .val (.int s_), .val (.long fq), .second, .val (.int n), .val (.int f0), .val (.int f1), .val (.int f2), .val (.int lo), .unset, .unset, .unset, .unset, .unset, .unset, .unset, .unset] [(.int y1), (.int x1)])) rfl (by rw [hml]; rfl) (argsL := [(.int x1), (.int y1)]) (rest := []) (lenOf pd__28II_29I rfl) rfl (by show 2 * 0 + _ ≤ _; exact Nat.le_of_eq rfl) (hb hby at_60) (fun _ _ => ⟨rfl, e114, (by decide : 0 + 0 ≤ _), (by decide : 0 + 0 ≤ _)⟩)
  dsimp only [Pt.U, Pt.locs, Pt.cells, Pt.slots] at X115 l115 y115 z115 st115 hQ115
  subst l115 y115 z115
  obtain ⟨rfl, N115q, eh115⟩ := hQ115
  have N115 := Fr.app N114 N115q
  refine Go.via (st115) ?_
  have e115 : T115.heap = h0 := eh115
  show Go p e below (T115.setTop (mkF m 63 #[.val (.int x1), .val (.int y1), .val (.int z1), .val (.int w1), .val (.int s_), .val (.long fq), .second, .val (.int n), .val (.int f0), .val (.int f1), .val (.int f2), .val (.int lo), .unset, .unset, .unset, .unset, .unset, .unset, .unset, .unset] [(.int (if x1 < y1 then y1 else x1))])) _
  refine Go.via (fun _ => XS.iloadN X115.here hx rfl (hb hby at_63) rfl) ?_
  obtain ⟨_, _, ⟨T116, L116, k116, n116⟩, -, X116, ⟨Lc116, hQ116, l116, y116, z116⟩, st116⟩ := Jvm.LawKit.callS X115 hx (y := (⟨"java/lang/Math", "max", "(II)I"⟩ : MethodName)) hown (mvT hZ (tw hw 5 rfl)) (mvT hZ (tw hw 6 rfl)) (mvT hZ (tw hw 3 rfl)) (mvT hZ (tw hw 7 rfl)) (by decide) (backOf (W := 0) (rmX l Z a0 hw [] (if x1 < y1 then y1 else x1) z1  h0 n0 Z0) hZ (tw hw 7 rfl) (tw hw 3 rfl) (by decide) (by decide)) (g := (mkF m 64 #[.val (.int x1), .val (.int y1), .val (.int z1), .val (.int w1), .val (.int s_), .val (.long fq), .second, .val (.int n), .val (.int f0), .val (.int f1), .val (.int f2), .val (.int lo), .unset, .unset, .unset, .unset, .unset, .unset, .unset, .unset] [(.int z1), (.int (if x1 < y1 then y1 else x1))])) rfl (by rw [hml]; rfl) (argsL := [(.int (if x1 < y1 then y1 else x1)), (.int z1)]) (rest := []) (lenOf pd__28II_29I rfl) rfl (by show 2 * 0 + _ ≤ _; exact Nat.le_of_eq rfl) (hb hby at_64) (fun _ _ => ⟨rfl, e115, (by decide : 0 + 0 ≤ _), (by decide : 0 + 0 ≤ _)⟩)
  dsimp only [Pt.U, Pt.locs, Pt.cells, Pt.slots] at X116 l116 y116 z116 st116 hQ116
  subst l116 y116 z116
  obtain ⟨rfl, N116q, eh116⟩ := hQ116
  have N116 := Fr.app N115 N116q
  refine Go.via (st116) ?_
  have e116 : T116.heap = h0 := eh116
  show Go p e below (T116.setTop (mkF m 67 #[.val (.int x1), .val (.int y1), .val (.int z1), .val (.int w1), .val (.int s_), .val (.long fq), .second, .val (.int n), .val (.int f0), .val (.int f1), .val (.int f2), .val (.int lo), .unset, .unset, .unset, .unset, .unset, .unset, .unset, .unset] [(.int (if (if x1 < y1 then y1 else x1) < z1 then z1 else (if x1 < y1 then y1 else x1)))])) _
  generalize hv_hi : (if (if x1 < y1 then y1 else x1) < z1 then z1 else (if x1 < y1 then y1 else x1)) = hi
  show Go p e below (T116.setTop (mkF m 67 #[.val (.int x1), .val (.int y1), .val (.int z1), .val (.int w1), .val (.int s_), .val (.long fq), .second, .val (.int n), .val (.int f0), .val (.int f1), .val (.int f2), .val (.int lo), .unset, .unset, .unset, .unset, .unset, .unset, .unset, .unset] [(.int hi)])) _
  refine Go.via (fun _ => XS.istore X116.here hx rfl (hb hby at_67) rfl (l' := #[.val (.int x1), .val (.int y1), .val (.int z1), .val (.int w1), .val (.int s_), .val (.long fq), .second, .val (.int n), .val (.int f0), .val (.int f1), .val (.int f2), .val (.int lo), .val (.int hi), .unset, .unset, .unset, .unset, .unset, .unset, .unset]) rfl) ?_
  show Go p e below (T116.setTop (mkF m 69 #[.val (.int x1), .val (.int y1), .val (.int z1), .val (.int w1), .val (.int s_), .val (.long fq), .second, .val (.int n), .val (.int f0), .val (.int f1), .val (.int f2), .val (.int lo), .val (.int hi), .unset, .unset, .unset, .unset, .unset, .unset, .unset] [])) _
  refine Go.via (fun _ => XS.iloadN X116.here hx rfl (hb hby at_69) rfl) ?_
  refine Go.via (fun _ => XS.iloadN X116.here hx rfl (hb hby at_70) rfl) ?_
  refine Go.via (fun _ => XS.iadd X116.here hx rfl (hb hby at_71) rfl) ?_
  show Go p e below (T116.setTop (mkF m 72 #[.val (.int x1), .val (.int y1), .val (.int z1), .val (.int w1), .val (.int s_), .val (.long fq), .second, .val (.int n), .val (.int f0), .val (.int f1), .val (.int f2), .val (.int lo), .val (.int hi), .unset, .unset, .unset, .unset, .unset, .unset, .unset] [(.int (x1 + y1))])) _
  refine Go.via (fun _ => XS.iloadN X116.here hx rfl (hb hby at_72) rfl) ?_
  refine Go.via (fun _ => XS.iadd X116.here hx rfl (hb hby at_73) rfl) ?_
  show Go p e below (T116.setTop (mkF m 74 #[.val (.int x1), .val (.int y1), .val (.int z1), .val (.int w1), .val (.int s_), .val (.long fq), .second, .val (.int n), .val (.int f0), .val (.int f1), .val (.int f2), .val (.int lo), .val (.int hi), .unset, .unset, .unset, .unset, .unset, .unset, .unset] [(.int ((x1 + y1) + z1))])) _
  refine Go.via (fun _ => XS.iload X116.here hx rfl (hb hby at_74) rfl) ?_
  refine Go.via (fun _ => XS.isub X116.here hx rfl (hb hby at_76) rfl) ?_
  show Go p e below (T116.setTop (mkF m 77 #[.val (.int x1), .val (.int y1), .val (.int z1), .val (.int w1), .val (.int s_), .val (.long fq), .second, .val (.int n), .val (.int f0), .val (.int f1), .val (.int f2), .val (.int lo), .val (.int hi), .unset, .unset, .unset, .unset, .unset, .unset, .unset] [(.int (((x1 + y1) + z1) - lo))])) _
  refine Go.via (fun _ => XS.iload X116.here hx rfl (hb hby at_77) rfl) ?_
  refine Go.via (fun _ => XS.isub X116.here hx rfl (hb hby at_79) rfl) ?_
  show Go p e below (T116.setTop (mkF m 80 #[.val (.int x1), .val (.int y1), .val (.int z1), .val (.int w1), .val (.int s_), .val (.long fq), .second, .val (.int n), .val (.int f0), .val (.int f1), .val (.int f2), .val (.int lo), .val (.int hi), .unset, .unset, .unset, .unset, .unset, .unset, .unset] [(.int ((((x1 + y1) + z1) - lo) - hi))])) _
  generalize hv_mid : ((((x1 + y1) + z1) - lo) - hi) = mid
  show Go p e below (T116.setTop (mkF m 80 #[.val (.int x1), .val (.int y1), .val (.int z1), .val (.int w1), .val (.int s_), .val (.long fq), .second, .val (.int n), .val (.int f0), .val (.int f1), .val (.int f2), .val (.int lo), .val (.int hi), .unset, .unset, .unset, .unset, .unset, .unset, .unset] [(.int mid)])) _
  refine Go.via (fun _ => XS.istore X116.here hx rfl (hb hby at_80) rfl (l' := #[.val (.int x1), .val (.int y1), .val (.int z1), .val (.int w1), .val (.int s_), .val (.long fq), .second, .val (.int n), .val (.int f0), .val (.int f1), .val (.int f2), .val (.int lo), .val (.int hi), .val (.int mid), .unset, .unset, .unset, .unset, .unset, .unset]) rfl) ?_
  show Go p e below (T116.setTop (mkF m 82 #[.val (.int x1), .val (.int y1), .val (.int z1), .val (.int w1), .val (.int s_), .val (.long fq), .second, .val (.int n), .val (.int f0), .val (.int f1), .val (.int f2), .val (.int lo), .val (.int hi), .val (.int mid), .unset, .unset, .unset, .unset, .unset, .unset] [])) _
  rcases hn with rfl | rfl | rfl | rfl
  · show Go p e below (T116.setTop (mkF m 82 #[.val (.int x1), .val (.int y1), .val (.int z1), .val (.int w1), .val (.int s_), .val (.long fq), .second, .val (.int (0 : Int32)), .val (.int f0), .val (.int f1), .val (.int f2), .val (.int lo), .val (.int hi), .val (.int mid), .unset, .unset, .unset, .unset, .unset, .unset] [])) _
    refine Go.via (fun _ => XS.iload X116.here hx rfl (hb hby at_82) rfl) ?_
    refine Go.via (fun _ => XS.ifNo X116.here hx rfl (hb hby at_84) rfl ((if0 _ _).trans (teq ((by decide) : (0 : Int32) = (0 : Int32))).2)) ?_
    show Go p e below (T116.setTop (mkF m 87 #[.val (.int x1), .val (.int y1), .val (.int z1), .val (.int w1), .val (.int s_), .val (.long fq), .second, .val (.int (0 : Int32)), .val (.int f0), .val (.int f1), .val (.int f2), .val (.int lo), .val (.int hi), .val (.int mid), .unset, .unset, .unset, .unset, .unset, .unset] [])) _
    refine Go.via (fun _ => XS.iconst X116.here hx rfl (hb hby at_87)) ?_
    obtain ⟨T117, h117, k117, X117, e117, E117, A117, B117, st117⟩ := newPE X116 hx hZ (tw hw 8 rfl) e116 (g := (mkF m 88 #[.val (.int x1), .val (.int y1), .val (.int z1), .val (.int w1), .val (.int s_), .val (.long fq), .second, .val (.int (0 : Int32)), .val (.int f0), .val (.int f1), .val (.int f2), .val (.int lo), .val (.int hi), .val (.int mid), .unset, .unset, .unset, .unset, .unset, .unset] [(.int (0 : Int32))])) rfl (hb hby at_88) rfl (by decide) (cap := 0) (by decide) (by decide) (by decide) (by decide) (ad := "[I") (by decide)
    obtain ⟨b117, g117⟩ : ∃ z, z = h0.size := ⟨_, rfl⟩
    rw [← g117] at A117 B117 st117
    have ge118 : n0 ≤ b117 := Nat.le_trans Z0 (Nat.le_of_eq g117.symm)
    have sz119 : h0.size ≤ b117 := Nat.le_trans (Keep.refl h0 []).1 (Nat.le_of_eq g117.symm)
    refine Go.via (st117) ?_
    have f120 : Ia Z h117 b117 .int [] := Ia.new A117 rfl
    show Go p e below (T117.setTop (mkF m 90 #[.val (.int x1), .val (.int y1), .val (.int z1), .val (.int w1), .val (.int s_), .val (.long fq), .second, .val (.int (0 : Int32)), .val (.int f0), .val (.int f1), .val (.int f2), .val (.int lo), .val (.int hi), .val (.int mid), .unset, .unset, .unset, .unset, .unset, .unset] [(.ref b117)])) _
    refine Go.via (fun _ => XS.astore X117.here hx rfl (hb hby at_90) rfl rfl (l' := #[.val (.int x1), .val (.int y1), .val (.int z1), .val (.int w1), .val (.int s_), .val (.long fq), .second, .val (.int (0 : Int32)), .val (.int f0), .val (.int f1), .val (.int f2), .val (.int lo), .val (.int hi), .val (.int mid), .val (.ref b117), .unset, .unset, .unset, .unset, .unset]) rfl) ?_
    show Go p e below (T117.setTop (mkF m 92 #[.val (.int x1), .val (.int y1), .val (.int z1), .val (.int w1), .val (.int s_), .val (.long fq), .second, .val (.int (0 : Int32)), .val (.int f0), .val (.int f1), .val (.int f2), .val (.int lo), .val (.int hi), .val (.int mid), .val (.ref b117), .unset, .unset, .unset, .unset, .unset] [])) _
    refine Go.via (fun _ => XS.iconst X117.here hx rfl (hb hby at_92)) ?_
    have k122 : Keep h0 h117 [] := ((Keep.refl h0 []).ext E117)
    have z123 : n0 ≤ h117.size := (Nat.le_trans Z0 E117.1)
    obtain ⟨T121, h121, k121, X121, e121, E121, A121, B121, st121⟩ := newPE X117 hx hZ (tw hw 8 rfl) e117 (g := (mkF m 93 #[.val (.int x1), .val (.int y1), .val (.int z1), .val (.int w1), .val (.int s_), .val (.long fq), .second, .val (.int (0 : Int32)), .val (.int f0), .val (.int f1), .val (.int f2), .val (.int lo), .val (.int hi), .val (.int mid), .val (.ref b117), .unset, .unset, .unset, .unset, .unset] [(.int (0 : Int32))])) rfl (hb hby at_93) rfl (by decide) (cap := 0) (by decide) (by decide) (by decide) (by decide) (ad := "[I") (by decide)
    obtain ⟨b121, g121⟩ : ∃ z, z = h117.size := ⟨_, rfl⟩
    rw [← g121] at A121 B121 st121
    have ne124 : b117 ≠ b121 := Nat.ne_of_lt (Nat.lt_of_lt_of_le f120.lt (Nat.le_of_eq g121.symm))
    have ge125 : n0 ≤ b121 := Nat.le_trans z123 (Nat.le_of_eq g121.symm)
    have sz126 : h0.size ≤ b121 := Nat.le_trans k122.1 (Nat.le_of_eq g121.symm)
    refine Go.via (st121) ?_
    have f127 : Ia Z h121 b121 .int [] := Ia.new A121 rfl
    show Go p e below (T121.setTop (mkF m 95 #[.val (.int x1), .val (.int y1), .val (.int z1), .val (.int w1), .val (.int s_), .val (.long fq), .second, .val (.int (0 : Int32)), .val (.int f0), .val (.int f1), .val (.int f2), .val (.int lo), .val (.int hi), .val (.int mid), .val (.ref b117), .unset, .unset, .unset, .unset, .unset] [(.ref b121)])) _
    refine Go.via (fun _ => XS.astore X121.here hx rfl (hb hby at_95) rfl rfl (l' := #[.val (.int x1), .val (.int y1), .val (.int z1), .val (.int w1), .val (.int s_), .val (.long fq), .second, .val (.int (0 : Int32)), .val (.int f0), .val (.int f1), .val (.int f2), .val (.int lo), .val (.int hi), .val (.int mid), .val (.ref b117), .val (.ref b121), .unset, .unset, .unset, .unset]) rfl) ?_
    show Go p e below (T121.setTop (mkF m 97 #[.val (.int x1), .val (.int y1), .val (.int z1), .val (.int w1), .val (.int s_), .val (.long fq), .second, .val (.int (0 : Int32)), .val (.int f0), .val (.int f1), .val (.int f2), .val (.int lo), .val (.int hi), .val (.int mid), .val (.ref b117), .val (.ref b121), .unset, .unset, .unset, .unset] [])) _
    refine Go.via (fun _ => XS.goto X121.here hx rfl (pc0 := 97) (pc' := 236) rfl (hb hby at_97) (by decide) (by decide)) ?_
    have k129 : Keep h0 h121 [] := (k122.ext E121)
    have z130 : n0 ≤ h121.size := (Nat.le_trans z123 E121.1)
    obtain ⟨T128, h128, X128, e128, E128, A128, D128, -, st128⟩ := newO X121 hx hZ hown (tw hw 9 rfl) (tw hw 10 rfl) (tw hw 11 rfl) e121 (g := (mkF m 236 #[.val (.int x1), .val (.int y1), .val (.int z1), .val (.int w1), .val (.int s_), .val (.long fq), .second, .val (.int (0 : Int32)), .val (.int f0), .val (.int f1), .val (.int f2), .val (.int lo), .val (.int hi), .val (.int mid), .val (.ref b117), .val (.ref b121), .unset, .unset, .unset, .unset] [])) rfl (hb hby at_236) (by decide) (by decide)
    obtain ⟨b128, g128⟩ : ∃ z, z = h121.size := ⟨_, rfl⟩
    rw [← g128] at A128 D128 st128
    have f132 : Ia Z h121 b117 .int [] := (f120.ext E121)
    have ne131 : b117 ≠ b128 := Nat.ne_of_lt (Nat.lt_of_lt_of_le f132.lt (Nat.le_of_eq g128.symm))
    have ne133 : b121 ≠ b128 := Nat.ne_of_lt (Nat.lt_of_lt_of_le f127.lt (Nat.le_of_eq g128.symm))
    have ge134 : n0 ≤ b128 := Nat.le_trans z130 (Nat.le_of_eq g128.symm)
    have sz135 : h0.size ≤ b128 := Nat.le_trans k129.1 (Nat.le_of_eq g128.symm)
    refine Go.via (st128) ?_
    have f136 : Fld Z h128 b128 "com/example/libcosearch/libcosearch/PostingList" "documents" "[I" .null := D128 (Or.inr (tw hw 19 rfl)) (ty := (.array .int)) (by decide)
    have f137 : Fld Z h128 b128 "com/example/libcosearch/libcosearch/PostingList" "frequencies" "[I" .null := D128 (Or.inr (tw hw 21 rfl)) (ty := (.array .int)) (by decide)
    have f138 : Fld Z h128 b128 "com/example/libcosearch/libcosearch/PostingList" "collectionFrequency" "J" (.long (0 : Int64)) := D128 (Or.inr (tw hw 23 rfl)) (ty := .long) (by decide)
    show Go p e below (T128.setTop (mkF m 239 #[.val (.int x1), .val (.int y1), .val (.int z1), .val (.int w1), .val (.int s_), .val (.long fq), .second, .val (.int (0 : Int32)), .val (.int f0), .val (.int f1), .val (.int f2), .val (.int lo), .val (.int hi), .val (.int mid), .val (.ref b117), .val (.ref b121), .unset, .unset, .unset, .unset] [(.ref b128)])) _
    refine Go.via (fun _ => XS.dup X128.here hx rfl (hb hby at_239) rfl rfl) ?_
    refine Go.via (fun _ => XS.aload X128.here hx rfl (hb hby at_240) rfl rfl) ?_
    refine Go.via (fun _ => XS.aload X128.here hx rfl (hb hby at_242) rfl rfl) ?_
    have f139 : Ia Z h128 b121 .int [] := (f127.ext E128)
    have z141 : n0 ≤ h128.size := (Nat.le_trans z130 E128.1)
    obtain ⟨_, _, ⟨T140, L140, k140, n140⟩, -, X140, ⟨Lc140, hQ140, l140, y140, z140⟩, st140⟩ := X128.specialBack hx (y := (⟨"com/example/libcosearch/libcosearch/PostingList", "<init>", "([I[I)V"⟩ : MethodName)) rfl hown (mvT hZ (tw hw 12 rfl)) (mvT hZ (tw hw 13 rfl)) (mvT hZ (tw hw 14 rfl)) (by decide) (backOf (W := 1) (rmI0 l Z a0 hw [] b128 b117 b121  h128 n0 z141 A128 f136 f137 f138 f139 ge134 (Ne.symm ne133)) hZ (tw hw 14 rfl) (tw hw 11 rfl) (by decide) (by decide)) (g := (mkF m 244 #[.val (.int x1), .val (.int y1), .val (.int z1), .val (.int w1), .val (.int s_), .val (.long fq), .second, .val (.int (0 : Int32)), .val (.int f0), .val (.int f1), .val (.int f2), .val (.int lo), .val (.int hi), .val (.int mid), .val (.ref b117), .val (.ref b121), .unset, .unset, .unset, .unset] [(.ref b121), (.ref b117), (.ref b128), (.ref b128)])) rfl (by rw [hml]; rfl) (Steps.refl _) (a := b128) (argsL := [(.ref b117), (.ref b121)]) (rest := [(.ref b128)]) (lenOf pd__28_5bI_5bI_29V rfl) rfl (by show 2 * 0 + _ ≤ _; exact Nat.le_of_eq rfl) (hb hby at_244) (fun _ _ => ⟨rfl, e128, (by decide : 3 + 0 ≤ _), (by decide : 3 + 0 ≤ _)⟩)
    dsimp only [Pt.U, Pt.locs, Pt.cells, Pt.slots] at X140 l140 y140 z140 st140 hQ140
    subst l140 y140 z140
    obtain ⟨rfl, N140q, K140q, f142, f143, f144⟩ := hQ140
    have N140 := Fr.app N116 N140q
    refine Go.via (fun _ kQ => st140.trans kQ) ?_
    have e140 : T140.heap = T140.heap := rfl
    have f145 : Exa Z T140.heap b128 "com/example/libcosearch/libcosearch/PostingList" := f142
    have f146 : Fld Z T140.heap b128 "com/example/libcosearch/libcosearch/PostingList" "documents" "[I" (.ref b117) := f143
    have f147 : Fld Z T140.heap b128 "com/example/libcosearch/libcosearch/PostingList" "frequencies" "[I" (.ref b121) := f144
    show Go p e below (T140.setTop (mkF m 247 #[.val (.int x1), .val (.int y1), .val (.int z1), .val (.int w1), .val (.int s_), .val (.long fq), .second, .val (.int (0 : Int32)), .val (.int f0), .val (.int f1), .val (.int f2), .val (.int lo), .val (.int hi), .val (.int mid), .val (.ref b117), .val (.ref b121), .unset, .unset, .unset, .unset] [(.ref b128)])) _
    refine Go.via (fun _ => XS.astore X140.here hx rfl (hb hby at_247) rfl rfl (l' := #[.val (.int x1), .val (.int y1), .val (.int z1), .val (.int w1), .val (.int s_), .val (.long fq), .second, .val (.int (0 : Int32)), .val (.int f0), .val (.int f1), .val (.int f2), .val (.int lo), .val (.int hi), .val (.int mid), .val (.ref b117), .val (.ref b121), .val (.ref b128), .unset, .unset, .unset]) rfl) ?_
    show Go p e below (T140.setTop (mkF m 249 #[.val (.int x1), .val (.int y1), .val (.int z1), .val (.int w1), .val (.int s_), .val (.long fq), .second, .val (.int (0 : Int32)), .val (.int f0), .val (.int f1), .val (.int f2), .val (.int lo), .val (.int hi), .val (.int mid), .val (.ref b117), .val (.ref b121), .val (.ref b128), .unset, .unset, .unset] [])) _
    have J0 : ∀ (T148 : State) (L148 : List Loc) (h148 : Heap) (q : Int32) (sel : Int32), Stand p l e room_1 s m #[(.int x1), (.int y1), (.int z1), (.int w1), (.int s_), (.long fq)] below meth c T148 L148 3 3 → T148.heap = h148 → Fr n0 L148 → n0 ≤ h148.size → Keep h0 h148 [] → Exa Z h148 b128 "com/example/libcosearch/libcosearch/PostingList" → Fld Z h148 b128 "com/example/libcosearch/libcosearch/PostingList" "documents" "[I" (.ref b117) → Fld Z h148 b128 "com/example/libcosearch/libcosearch/PostingList" "frequencies" "[I" (.ref b121) → Ia Z h148 b117 .int [] → Ia Z h148 b121 .int [] → Go p e below (T148.setTop (mkF m 355 #[.val (.int x1), .val (.int y1), .val (.int z1), .val (.int w1), .val (.int s_), .val (.long fq), .second, .val (.int (0 : Int32)), .val (.int f0), .val (.int f1), .val (.int f2), .val (.int lo), .val (.int hi), .val (.int mid), .val (.ref b117), .val (.ref b121), .val (.ref b128), .val (.int sel), .val (.int q), .unset] [])) (Done s (Q_rm0 Z x1 y1 z1 w1 s_ fq h0 n0) room_1.cells room_1.slots) := by
      intro T148 L148 h148 q sel X148 e148 N148 z148 k148 fE148 fd148 ff148 fx148 fy148 
      show Go p e below (T148.setTop (mkF m 355 #[.val (.int x1), .val (.int y1), .val (.int z1), .val (.int w1), .val (.int s_), .val (.long fq), .second, .val (.int (0 : Int32)), .val (.int f0), .val (.int f1), .val (.int f2), .val (.int lo), .val (.int hi), .val (.int mid), .val (.ref b117), .val (.ref b121), .val (.ref b128), .val (.int sel), .val (.int q), .unset] [])) _
      refine Go.via (fun _ => XS.iconst X148.here hx rfl (hb hby at_355)) ?_
      refine Go.via (fun _ => XS.istore X148.here hx rfl (hb hby at_356) rfl (l' := #[.val (.int x1), .val (.int y1), .val (.int z1), .val (.int w1), .val (.int s_), .val (.long fq), .second, .val (.int (0 : Int32)), .val (.int f0), .val (.int f1), .val (.int f2), .val (.int lo), .val (.int hi), .val (.int mid), .val (.ref b117), .val (.ref b121), .val (.ref b128), .val (.int sel), .val (.int q), .val (.int (0 : Int32))]) rfl) ?_
      show Go p e below (T148.setTop (mkF m 358 #[.val (.int x1), .val (.int y1), .val (.int z1), .val (.int w1), .val (.int s_), .val (.long fq), .second, .val (.int (0 : Int32)), .val (.int f0), .val (.int f1), .val (.int f2), .val (.int lo), .val (.int hi), .val (.int mid), .val (.ref b117), .val (.ref b121), .val (.ref b128), .val (.int sel), .val (.int q), .val (.int (0 : Int32))] [])) _
      refine Go.via (fun _ => XS.iload X148.here hx rfl (hb hby at_358) rfl) ?_
      refine Go.via (fun _ => XS.iconst X148.here hx rfl (hb hby at_360)) ?_
      refine Go.via (fun _ => XS.icmpYes X148.here hx rfl (pc0 := 361) (pc' := 382) rfl (hb hby at_361) rfl (tlt ((by decide) : (0 : Int32) < (1 : Int32))).1 (by decide) (by decide)) ?_
      show Go p e below (T148.setTop (mkF m 382 #[.val (.int x1), .val (.int y1), .val (.int z1), .val (.int w1), .val (.int s_), .val (.long fq), .second, .val (.int (0 : Int32)), .val (.int f0), .val (.int f1), .val (.int f2), .val (.int lo), .val (.int hi), .val (.int mid), .val (.ref b117), .val (.ref b121), .val (.ref b128), .val (.int sel), .val (.int q), .val (.int (0 : Int32))] [])) _
      refine Go.via (fun _ => XS.iload X148.here hx rfl (hb hby at_382) rfl) ?_
      refine Go.via (fun _ => XS.iconst X148.here hx rfl (hb hby at_384)) ?_
      refine Go.via (fun _ => XS.icmpYes X148.here hx rfl (pc0 := 385) (pc' := 406) rfl (hb hby at_385) rfl (tlt ((by decide) : (0 : Int32) < (2 : Int32))).1 (by decide) (by decide)) ?_
      show Go p e below (T148.setTop (mkF m 406 #[.val (.int x1), .val (.int y1), .val (.int z1), .val (.int w1), .val (.int s_), .val (.long fq), .second, .val (.int (0 : Int32)), .val (.int f0), .val (.int f1), .val (.int f2), .val (.int lo), .val (.int hi), .val (.int mid), .val (.ref b117), .val (.ref b121), .val (.ref b128), .val (.int sel), .val (.int q), .val (.int (0 : Int32))] [])) _
      refine Go.via (fun _ => XS.iload X148.here hx rfl (hb hby at_406) rfl) ?_
      refine Go.via (fun _ => XS.iconst X148.here hx rfl (hb hby at_408)) ?_
      refine Go.via (fun _ => XS.icmpYes X148.here hx rfl (pc0 := 409) (pc' := 427) rfl (hb hby at_409) rfl (tlt ((by decide) : (0 : Int32) < (3 : Int32))).1 (by decide) (by decide)) ?_
      show Go p e below (T148.setTop (mkF m 427 #[.val (.int x1), .val (.int y1), .val (.int z1), .val (.int w1), .val (.int s_), .val (.long fq), .second, .val (.int (0 : Int32)), .val (.int f0), .val (.int f1), .val (.int f2), .val (.int lo), .val (.int hi), .val (.int mid), .val (.ref b117), .val (.ref b121), .val (.ref b128), .val (.int sel), .val (.int q), .val (.int (0 : Int32))] [])) _
      refine Go.via (fun _ => XS.aload X148.here hx rfl (hb hby at_427) rfl rfl) ?_
      refine Go.via (fun _ => XS.iload X148.here hx rfl (hb hby at_429) rfl) ?_
      obtain ⟨cq149, kq149, q149a, q149b, q149c⟩ := isOf hZ e148 fE148
      obtain ⟨_, _, ⟨T149, L149, k149, n149⟩, -, X149, ⟨Lc149, hQ149, l149, y149, z149⟩, st149⟩ := X148.virtualBack hx (y := (⟨"com/example/libcosearch/libcosearch/PostingList", "frequencyIn", "(I)I"⟩ : MethodName)) (z := (⟨"com/example/libcosearch/libcosearch/PostingList", "frequencyIn", "(I)I"⟩ : MethodName)) hown (mvT hZ (tw hw 24 rfl)) (mvT hZ (tw hw 25 rfl)) (notFace_of_selects (args := #[]) (mvT hZ (tw hw 27 rfl))) (mvT hZ (tw hw 27 rfl)) (mvT hZ (tw hw 26 rfl)) (by decide) (backOf (W := 0) (rmF0 l Z a0 hw [] b128 q b117 b121 h148 n0 z148 fd148 ff148 fx148 fy148) hZ (tw hw 28 rfl) (tw hw 11 rfl) (by decide) (by decide)) q149a q149c (g := (mkF m 431 #[.val (.int x1), .val (.int y1), .val (.int z1), .val (.int w1), .val (.int s_), .val (.long fq), .second, .val (.int (0 : Int32)), .val (.int f0), .val (.int f1), .val (.int f2), .val (.int lo), .val (.int hi), .val (.int mid), .val (.ref b117), .val (.ref b121), .val (.ref b128), .val (.int sel), .val (.int q), .val (.int (0 : Int32))] [(.int q), (.ref b128)])) rfl (by rw [hml]; rfl) (Steps.refl _) (argsL := [(.int q)]) (rest := []) (lenOf pd__28I_29I rfl) rfl (by show 2 * 0 + _ ≤ _; exact Nat.le_of_eq rfl) (hb hby at_431) (fun _ _ => ⟨rfl, e148, (by decide : 3 + 0 ≤ _), (by decide : 3 + 0 ≤ _)⟩)
      dsimp only [Pt.U, Pt.locs, Pt.cells, Pt.slots] at X149 l149 y149 z149 st149 hQ149
      subst l149 y149 z149
      obtain ⟨v150, rfl, N149q, eh149, qp151⟩ := hQ149
      have N149 := Fr.app N148 N149q
      refine Go.via (fun _ kQ => st149.trans kQ) ?_
      have e149 : T149.heap = h148 := eh149
      show Go p e below (T149.setTop (mkF m 434 #[.val (.int x1), .val (.int y1), .val (.int z1), .val (.int w1), .val (.int s_), .val (.long fq), .second, .val (.int (0 : Int32)), .val (.int f0), .val (.int f1), .val (.int f2), .val (.int lo), .val (.int hi), .val (.int mid), .val (.ref b117), .val (.ref b121), .val (.ref b128), .val (.int sel), .val (.int q), .val (.int (0 : Int32))] [(.int v150)])) _
      refine Go.via (fun _ => XS.iload X149.here hx rfl (hb hby at_434) rfl) ?_
      refine Go.via (fun _ => XS.icmpNo X149.here hx rfl (hb hby at_436) rfl (teq (qp151 : v150 = (0 : Int32))).2) ?_
      show Go p e below (T149.setTop (mkF m 439 #[.val (.int x1), .val (.int y1), .val (.int z1), .val (.int w1), .val (.int s_), .val (.long fq), .second, .val (.int (0 : Int32)), .val (.int f0), .val (.int f1), .val (.int f2), .val (.int lo), .val (.int hi), .val (.int mid), .val (.ref b117), .val (.ref b121), .val (.ref b128), .val (.int sel), .val (.int q), .val (.int (0 : Int32))] [])) _
      refine Go.via (fun _ => XS.iconst X149.here hx rfl (hb hby at_439)) ?_
      refine Go.via (fun _ => XS.goto X149.here hx rfl (pc0 := 440) (pc' := 444) rfl (hb hby at_440) (by decide) (by decide)) ?_
      exact Go.fin X149 hlk (v := some (.int (1 : Int32))) (fun h => by rw [Bd.returns] at h; cases h) (fun fs hr => retN X149 hx (t := .boolean) Bd.returns (by simp) (hb hby at_444) hr) (by rw [e149]; exact ⟨rfl, N149, k148⟩) (by decide) (by decide)
    refine Go.via (fun _ => XS.iload X140.here hx rfl (hb hby at_249) rfl) ?_
    refine Go.via (fun _ => XS.bipush X140.here hx rfl (hb hby at_251)) ?_
    refine Go.via (fun _ => XS.iand X140.here hx rfl (hb hby at_253) rfl) ?_
    show Go p e below (T140.setTop (mkF m 254 #[.val (.int x1), .val (.int y1), .val (.int z1), .val (.int w1), .val (.int s_), .val (.long fq), .second, .val (.int (0 : Int32)), .val (.int f0), .val (.int f1), .val (.int f2), .val (.int lo), .val (.int hi), .val (.int mid), .val (.ref b117), .val (.ref b121), .val (.ref b128), .unset, .unset, .unset] [(.int (s_ &&& (7 : Int32)))])) _
    generalize hsel : (s_ &&& (7 : Int32)) = sel
    show Go p e below (T140.setTop (mkF m 254 #[.val (.int x1), .val (.int y1), .val (.int z1), .val (.int w1), .val (.int s_), .val (.long fq), .second, .val (.int (0 : Int32)), .val (.int f0), .val (.int f1), .val (.int f2), .val (.int lo), .val (.int hi), .val (.int mid), .val (.ref b117), .val (.ref b121), .val (.ref b128), .unset, .unset, .unset] [(.int sel)])) _
    refine Go.via (fun _ => XS.istore X140.here hx rfl (hb hby at_254) rfl (l' := #[.val (.int x1), .val (.int y1), .val (.int z1), .val (.int w1), .val (.int s_), .val (.long fq), .second, .val (.int (0 : Int32)), .val (.int f0), .val (.int f1), .val (.int f2), .val (.int lo), .val (.int hi), .val (.int mid), .val (.ref b117), .val (.ref b121), .val (.ref b128), .val (.int sel), .unset, .unset]) rfl) ?_
    show Go p e below (T140.setTop (mkF m 256 #[.val (.int x1), .val (.int y1), .val (.int z1), .val (.int w1), .val (.int s_), .val (.long fq), .second, .val (.int (0 : Int32)), .val (.int f0), .val (.int f1), .val (.int f2), .val (.int lo), .val (.int hi), .val (.int mid), .val (.ref b117), .val (.ref b121), .val (.ref b128), .val (.int sel), .unset, .unset] [])) _
    refine Go.via (fun _ => XS.iload X140.here hx rfl (hb hby at_256) rfl) ?_
    by_cases hc152 : sel = (0 : Int32)
    · refine Go.via (fun _ => XS.ifNo X140.here hx rfl (hb hby at_258) rfl ((if0 _ _).trans (teq (hc152 : sel = (0 : Int32))).2)) ?_
      refine Go.via (fun _ => XS.iloadN X140.here hx rfl (hb hby at_261) rfl) ?_
      refine Go.via (fun _ => XS.istore X140.here hx rfl (hb hby at_262) rfl (l' := #[.val (.int x1), .val (.int y1), .val (.int z1), .val (.int w1), .val (.int s_), .val (.long fq), .second, .val (.int (0 : Int32)), .val (.int f0), .val (.int f1), .val (.int f2), .val (.int lo), .val (.int hi), .val (.int mid), .val (.ref b117), .val (.ref b121), .val (.ref b128), .val (.int sel), .val (.int x1), .unset]) rfl) ?_
      show Go p e below (T140.setTop (mkF m 264 #[.val (.int x1), .val (.int y1), .val (.int z1), .val (.int w1), .val (.int s_), .val (.long fq), .second, .val (.int (0 : Int32)), .val (.int f0), .val (.int f1), .val (.int f2), .val (.int lo), .val (.int hi), .val (.int mid), .val (.ref b117), .val (.ref b121), .val (.ref b128), .val (.int sel), .val (.int x1), .unset] [])) _
      refine Go.via (fun _ => XS.goto X140.here hx rfl (pc0 := 264) (pc' := 355) rfl (hb hby at_264) (by decide) (by decide)) ?_
      have f153 : Ia Z T140.heap b117 .int [] := ((f132.ext E128).keep K140q (ninS ne131 nin0))
      have f154 : Ia Z T140.heap b121 .int [] := (f139.keep K140q (ninS ne133 nin0))
      have z155 : n0 ≤ T140.heap.size := (Nat.le_trans z141 K140q.1)
      have k156 : Keep h0 T140.heap [] := ((k129.ext E128).trans K140q (allS (Or.inr sz135) all0))
      exact J0 T140 _ T140.heap x1 sel X140 e140 N140 z155 k156 f145 f146 f147 f153 f154
    · refine Go.via (fun _ => XS.ifYes X140.here hx rfl (pc0 := 258) (pc' := 267) rfl (hb hby at_258) rfl ((if0 _ _).trans (feq (hc152 : ¬ (sel = (0 : Int32)))).2) (by decide) (by decide)) ?_
      refine Go.via (fun _ => XS.iload X140.here hx rfl (hb hby at_267) rfl) ?_
      refine Go.via (fun _ => XS.iconst X140.here hx rfl (hb hby at_269)) ?_
      by_cases hc157 : sel = (1 : Int32)
      · refine Go.via (fun _ => XS.icmpNo X140.here hx rfl (hb hby at_270) rfl (teq (hc157 : sel = (1 : Int32))).2) ?_
        refine Go.via (fun _ => XS.iloadN X140.here hx rfl (hb hby at_273) rfl) ?_
        show Go p e below (T140.setTop (mkF m 274 #[.val (.int x1), .val (.int y1), .val (.int z1), .val (.int w1), .val (.int s_), .val (.long fq), .second, .val (.int (0 : Int32)), .val (.int f0), .val (.int f1), .val (.int f2), .val (.int lo), .val (.int hi), .val (.int mid), .val (.ref b117), .val (.ref b121), .val (.ref b128), .val (.int sel), .unset, .unset] [(.int y1)])) _
        refine Go.via (fun _ => XS.istore X140.here hx rfl (hb hby at_274) rfl (l' := #[.val (.int x1), .val (.int y1), .val (.int z1), .val (.int w1), .val (.int s_), .val (.long fq), .second, .val (.int (0 : Int32)), .val (.int f0), .val (.int f1), .val (.int f2), .val (.int lo), .val (.int hi), .val (.int mid), .val (.ref b117), .val (.ref b121), .val (.ref b128), .val (.int sel), .val (.int y1), .unset]) rfl) ?_
        show Go p e below (T140.setTop (mkF m 276 #[.val (.int x1), .val (.int y1), .val (.int z1), .val (.int w1), .val (.int s_), .val (.long fq), .second, .val (.int (0 : Int32)), .val (.int f0), .val (.int f1), .val (.int f2), .val (.int lo), .val (.int hi), .val (.int mid), .val (.ref b117), .val (.ref b121), .val (.ref b128), .val (.int sel), .val (.int y1), .unset] [])) _
        refine Go.via (fun _ => XS.goto X140.here hx rfl (pc0 := 276) (pc' := 355) rfl (hb hby at_276) (by decide) (by decide)) ?_
        have f158 : Ia Z T140.heap b117 .int [] := ((f132.ext E128).keep K140q (ninS ne131 nin0))
        have f159 : Ia Z T140.heap b121 .int [] := (f139.keep K140q (ninS ne133 nin0))
        have z160 : n0 ≤ T140.heap.size := (Nat.le_trans z141 K140q.1)
        have k161 : Keep h0 T140.heap [] := ((k129.ext E128).trans K140q (allS (Or.inr sz135) all0))
        exact J0 T140 _ T140.heap y1 sel X140 e140 N140 z160 k161 f145 f146 f147 f158 f159
      · refine Go.via (fun _ => XS.icmpYes X140.here hx rfl (pc0 := 270) (pc' := 279) rfl (hb hby at_270) rfl (feq (hc157 : ¬ (sel = (1 : Int32)))).2 (by decide) (by decide)) ?_
        refine Go.via (fun _ => XS.iload X140.here hx rfl (hb hby at_279) rfl) ?_
        show Go p e below (T140.setTop (mkF m 281 #[.val (.int x1), .val (.int y1), .val (.int z1), .val (.int w1), .val (.int s_), .val (.long fq), .second, .val (.int (0 : Int32)), .val (.int f0), .val (.int f1), .val (.int f2), .val (.int lo), .val (.int hi), .val (.int mid), .val (.ref b117), .val (.ref b121), .val (.ref b128), .val (.int sel), .unset, .unset] [(.int sel)])) _
        refine Go.via (fun _ => XS.iconst X140.here hx rfl (hb hby at_281)) ?_
        by_cases hc162 : sel = (2 : Int32)
        · refine Go.via (fun _ => XS.icmpNo X140.here hx rfl (hb hby at_282) rfl (teq (hc162 : sel = (2 : Int32))).2) ?_
          refine Go.via (fun _ => XS.iloadN X140.here hx rfl (hb hby at_285) rfl) ?_
          refine Go.via (fun _ => XS.istore X140.here hx rfl (hb hby at_286) rfl (l' := #[.val (.int x1), .val (.int y1), .val (.int z1), .val (.int w1), .val (.int s_), .val (.long fq), .second, .val (.int (0 : Int32)), .val (.int f0), .val (.int f1), .val (.int f2), .val (.int lo), .val (.int hi), .val (.int mid), .val (.ref b117), .val (.ref b121), .val (.ref b128), .val (.int sel), .val (.int z1), .unset]) rfl) ?_
          show Go p e below (T140.setTop (mkF m 288 #[.val (.int x1), .val (.int y1), .val (.int z1), .val (.int w1), .val (.int s_), .val (.long fq), .second, .val (.int (0 : Int32)), .val (.int f0), .val (.int f1), .val (.int f2), .val (.int lo), .val (.int hi), .val (.int mid), .val (.ref b117), .val (.ref b121), .val (.ref b128), .val (.int sel), .val (.int z1), .unset] [])) _
          refine Go.via (fun _ => XS.goto X140.here hx rfl (pc0 := 288) (pc' := 355) rfl (hb hby at_288) (by decide) (by decide)) ?_
          have f163 : Ia Z T140.heap b117 .int [] := ((f132.ext E128).keep K140q (ninS ne131 nin0))
          have f164 : Ia Z T140.heap b121 .int [] := (f139.keep K140q (ninS ne133 nin0))
          have z165 : n0 ≤ T140.heap.size := (Nat.le_trans z141 K140q.1)
          have k166 : Keep h0 T140.heap [] := ((k129.ext E128).trans K140q (allS (Or.inr sz135) all0))
          exact J0 T140 _ T140.heap z1 sel X140 e140 N140 z165 k166 f145 f146 f147 f163 f164
        · refine Go.via (fun _ => XS.icmpYes X140.here hx rfl (pc0 := 282) (pc' := 291) rfl (hb hby at_282) rfl (feq (hc162 : ¬ (sel = (2 : Int32)))).2 (by decide) (by decide)) ?_
          refine Go.via (fun _ => XS.iload X140.here hx rfl (hb hby at_291) rfl) ?_
          refine Go.via (fun _ => XS.iconst X140.here hx rfl (hb hby at_293)) ?_
          by_cases hc167 : sel = (3 : Int32)
          · refine Go.via (fun _ => XS.icmpNo X140.here hx rfl (hb hby at_294) rfl (teq (hc167 : sel = (3 : Int32))).2) ?_
            refine Go.via (fun _ => XS.iloadN X140.here hx rfl (hb hby at_297) rfl) ?_
            show Go p e below (T140.setTop (mkF m 298 #[.val (.int x1), .val (.int y1), .val (.int z1), .val (.int w1), .val (.int s_), .val (.long fq), .second, .val (.int (0 : Int32)), .val (.int f0), .val (.int f1), .val (.int f2), .val (.int lo), .val (.int hi), .val (.int mid), .val (.ref b117), .val (.ref b121), .val (.ref b128), .val (.int sel), .unset, .unset] [(.int w1)])) _
            refine Go.via (fun _ => XS.istore X140.here hx rfl (hb hby at_298) rfl (l' := #[.val (.int x1), .val (.int y1), .val (.int z1), .val (.int w1), .val (.int s_), .val (.long fq), .second, .val (.int (0 : Int32)), .val (.int f0), .val (.int f1), .val (.int f2), .val (.int lo), .val (.int hi), .val (.int mid), .val (.ref b117), .val (.ref b121), .val (.ref b128), .val (.int sel), .val (.int w1), .unset]) rfl) ?_
            show Go p e below (T140.setTop (mkF m 300 #[.val (.int x1), .val (.int y1), .val (.int z1), .val (.int w1), .val (.int s_), .val (.long fq), .second, .val (.int (0 : Int32)), .val (.int f0), .val (.int f1), .val (.int f2), .val (.int lo), .val (.int hi), .val (.int mid), .val (.ref b117), .val (.ref b121), .val (.ref b128), .val (.int sel), .val (.int w1), .unset] [])) _
            refine Go.via (fun _ => XS.goto X140.here hx rfl (pc0 := 300) (pc' := 355) rfl (hb hby at_300) (by decide) (by decide)) ?_
            have f168 : Ia Z T140.heap b117 .int [] := ((f132.ext E128).keep K140q (ninS ne131 nin0))
            have f169 : Ia Z T140.heap b121 .int [] := (f139.keep K140q (ninS ne133 nin0))
            have z170 : n0 ≤ T140.heap.size := (Nat.le_trans z141 K140q.1)
            have k171 : Keep h0 T140.heap [] := ((k129.ext E128).trans K140q (allS (Or.inr sz135) all0))
            exact J0 T140 _ T140.heap w1 sel X140 e140 N140 z170 k171 f145 f146 f147 f168 f169
          · refine Go.via (fun _ => XS.icmpYes X140.here hx rfl (pc0 := 294) (pc' := 303) rfl (hb hby at_294) rfl (feq (hc167 : ¬ (sel = (3 : Int32)))).2 (by decide) (by decide)) ?_
            refine Go.via (fun _ => XS.iload X140.here hx rfl (hb hby at_303) rfl) ?_
            show Go p e below (T140.setTop (mkF m 305 #[.val (.int x1), .val (.int y1), .val (.int z1), .val (.int w1), .val (.int s_), .val (.long fq), .second, .val (.int (0 : Int32)), .val (.int f0), .val (.int f1), .val (.int f2), .val (.int lo), .val (.int hi), .val (.int mid), .val (.ref b117), .val (.ref b121), .val (.ref b128), .val (.int sel), .unset, .unset] [(.int sel)])) _
            refine Go.via (fun _ => XS.iconst X140.here hx rfl (hb hby at_305)) ?_
            by_cases hc172 : sel = (4 : Int32)
            · refine Go.via (fun _ => XS.icmpNo X140.here hx rfl (hb hby at_306) rfl (teq (hc172 : sel = (4 : Int32))).2) ?_
              refine Go.via (fun _ => XS.iload X140.here hx rfl (hb hby at_309) rfl) ?_
              refine Go.via (fun _ => XS.iconst X140.here hx rfl (hb hby at_311)) ?_
              refine Go.via (fun _ => XS.isub X140.here hx rfl (hb hby at_312) rfl) ?_
              show Go p e below (T140.setTop (mkF m 313 #[.val (.int x1), .val (.int y1), .val (.int z1), .val (.int w1), .val (.int s_), .val (.long fq), .second, .val (.int (0 : Int32)), .val (.int f0), .val (.int f1), .val (.int f2), .val (.int lo), .val (.int hi), .val (.int mid), .val (.ref b117), .val (.ref b121), .val (.ref b128), .val (.int sel), .unset, .unset] [(.int (lo - (1 : Int32)))])) _
              refine Go.via (fun _ => XS.istore X140.here hx rfl (hb hby at_313) rfl (l' := #[.val (.int x1), .val (.int y1), .val (.int z1), .val (.int w1), .val (.int s_), .val (.long fq), .second, .val (.int (0 : Int32)), .val (.int f0), .val (.int f1), .val (.int f2), .val (.int lo), .val (.int hi), .val (.int mid), .val (.ref b117), .val (.ref b121), .val (.ref b128), .val (.int sel), .val (.int (lo - (1 : Int32))), .unset]) rfl) ?_
              show Go p e below (T140.setTop (mkF m 315 #[.val (.int x1), .val (.int y1), .val (.int z1), .val (.int w1), .val (.int s_), .val (.long fq), .second, .val (.int (0 : Int32)), .val (.int f0), .val (.int f1), .val (.int f2), .val (.int lo), .val (.int hi), .val (.int mid), .val (.ref b117), .val (.ref b121), .val (.ref b128), .val (.int sel), .val (.int (lo - (1 : Int32))), .unset] [])) _
              refine Go.via (fun _ => XS.goto X140.here hx rfl (pc0 := 315) (pc' := 355) rfl (hb hby at_315) (by decide) (by decide)) ?_
              have f173 : Ia Z T140.heap b117 .int [] := ((f132.ext E128).keep K140q (ninS ne131 nin0))
              have f174 : Ia Z T140.heap b121 .int [] := (f139.keep K140q (ninS ne133 nin0))
              have z175 : n0 ≤ T140.heap.size := (Nat.le_trans z141 K140q.1)
              have k176 : Keep h0 T140.heap [] := ((k129.ext E128).trans K140q (allS (Or.inr sz135) all0))
              exact J0 T140 _ T140.heap (lo - (1 : Int32)) sel X140 e140 N140 z175 k176 f145 f146 f147 f173 f174
            · refine Go.via (fun _ => XS.icmpYes X140.here hx rfl (pc0 := 306) (pc' := 318) rfl (hb hby at_306) rfl (feq (hc172 : ¬ (sel = (4 : Int32)))).2 (by decide) (by decide)) ?_
              refine Go.via (fun _ => XS.iload X140.here hx rfl (hb hby at_318) rfl) ?_
              refine Go.via (fun _ => XS.iconst X140.here hx rfl (hb hby at_320)) ?_
              by_cases hc177 : sel = (5 : Int32)
              · refine Go.via (fun _ => XS.icmpNo X140.here hx rfl (hb hby at_321) rfl (teq (hc177 : sel = (5 : Int32))).2) ?_
                refine Go.via (fun _ => XS.iload X140.here hx rfl (hb hby at_324) rfl) ?_
                show Go p e below (T140.setTop (mkF m 326 #[.val (.int x1), .val (.int y1), .val (.int z1), .val (.int w1), .val (.int s_), .val (.long fq), .second, .val (.int (0 : Int32)), .val (.int f0), .val (.int f1), .val (.int f2), .val (.int lo), .val (.int hi), .val (.int mid), .val (.ref b117), .val (.ref b121), .val (.ref b128), .val (.int sel), .unset, .unset] [(.int hi)])) _
                refine Go.via (fun _ => XS.iconst X140.here hx rfl (hb hby at_326)) ?_
                refine Go.via (fun _ => XS.iadd X140.here hx rfl (hb hby at_327) rfl) ?_
                show Go p e below (T140.setTop (mkF m 328 #[.val (.int x1), .val (.int y1), .val (.int z1), .val (.int w1), .val (.int s_), .val (.long fq), .second, .val (.int (0 : Int32)), .val (.int f0), .val (.int f1), .val (.int f2), .val (.int lo), .val (.int hi), .val (.int mid), .val (.ref b117), .val (.ref b121), .val (.ref b128), .val (.int sel), .unset, .unset] [(.int (hi + (1 : Int32)))])) _
                refine Go.via (fun _ => XS.istore X140.here hx rfl (hb hby at_328) rfl (l' := #[.val (.int x1), .val (.int y1), .val (.int z1), .val (.int w1), .val (.int s_), .val (.long fq), .second, .val (.int (0 : Int32)), .val (.int f0), .val (.int f1), .val (.int f2), .val (.int lo), .val (.int hi), .val (.int mid), .val (.ref b117), .val (.ref b121), .val (.ref b128), .val (.int sel), .val (.int (hi + (1 : Int32))), .unset]) rfl) ?_
                show Go p e below (T140.setTop (mkF m 330 #[.val (.int x1), .val (.int y1), .val (.int z1), .val (.int w1), .val (.int s_), .val (.long fq), .second, .val (.int (0 : Int32)), .val (.int f0), .val (.int f1), .val (.int f2), .val (.int lo), .val (.int hi), .val (.int mid), .val (.ref b117), .val (.ref b121), .val (.ref b128), .val (.int sel), .val (.int (hi + (1 : Int32))), .unset] [])) _
                refine Go.via (fun _ => XS.goto X140.here hx rfl (pc0 := 330) (pc' := 355) rfl (hb hby at_330) (by decide) (by decide)) ?_
                have f178 : Ia Z T140.heap b117 .int [] := ((f132.ext E128).keep K140q (ninS ne131 nin0))
                have f179 : Ia Z T140.heap b121 .int [] := (f139.keep K140q (ninS ne133 nin0))
                have z180 : n0 ≤ T140.heap.size := (Nat.le_trans z141 K140q.1)
                have k181 : Keep h0 T140.heap [] := ((k129.ext E128).trans K140q (allS (Or.inr sz135) all0))
                exact J0 T140 _ T140.heap (hi + (1 : Int32)) sel X140 e140 N140 z180 k181 f145 f146 f147 f178 f179
              · refine Go.via (fun _ => XS.icmpYes X140.here hx rfl (pc0 := 321) (pc' := 333) rfl (hb hby at_321) rfl (feq (hc177 : ¬ (sel = (5 : Int32)))).2 (by decide) (by decide)) ?_
                refine Go.via (fun _ => XS.iload X140.here hx rfl (hb hby at_333) rfl) ?_
                show Go p e below (T140.setTop (mkF m 335 #[.val (.int x1), .val (.int y1), .val (.int z1), .val (.int w1), .val (.int s_), .val (.long fq), .second, .val (.int (0 : Int32)), .val (.int f0), .val (.int f1), .val (.int f2), .val (.int lo), .val (.int hi), .val (.int mid), .val (.ref b117), .val (.ref b121), .val (.ref b128), .val (.int sel), .unset, .unset] [(.int sel)])) _
                refine Go.via (fun _ => XS.bipush X140.here hx rfl (hb hby at_335)) ?_
                by_cases hc182 : sel = (6 : Int32)
                · refine Go.via (fun _ => XS.icmpNo X140.here hx rfl (hb hby at_337) rfl (teq (hc182 : sel = (6 : Int32))).2) ?_
                  refine Go.via (fun _ => XS.iload X140.here hx rfl (hb hby at_340) rfl) ?_
                  refine Go.via (fun _ => XS.iconst X140.here hx rfl (hb hby at_342)) ?_
                  refine Go.via (fun _ => XS.isub X140.here hx rfl (hb hby at_343) rfl) ?_
                  show Go p e below (T140.setTop (mkF m 344 #[.val (.int x1), .val (.int y1), .val (.int z1), .val (.int w1), .val (.int s_), .val (.long fq), .second, .val (.int (0 : Int32)), .val (.int f0), .val (.int f1), .val (.int f2), .val (.int lo), .val (.int hi), .val (.int mid), .val (.ref b117), .val (.ref b121), .val (.ref b128), .val (.int sel), .unset, .unset] [(.int (mid - (1 : Int32)))])) _
                  refine Go.via (fun _ => XS.istore X140.here hx rfl (hb hby at_344) rfl (l' := #[.val (.int x1), .val (.int y1), .val (.int z1), .val (.int w1), .val (.int s_), .val (.long fq), .second, .val (.int (0 : Int32)), .val (.int f0), .val (.int f1), .val (.int f2), .val (.int lo), .val (.int hi), .val (.int mid), .val (.ref b117), .val (.ref b121), .val (.ref b128), .val (.int sel), .val (.int (mid - (1 : Int32))), .unset]) rfl) ?_
                  show Go p e below (T140.setTop (mkF m 346 #[.val (.int x1), .val (.int y1), .val (.int z1), .val (.int w1), .val (.int s_), .val (.long fq), .second, .val (.int (0 : Int32)), .val (.int f0), .val (.int f1), .val (.int f2), .val (.int lo), .val (.int hi), .val (.int mid), .val (.ref b117), .val (.ref b121), .val (.ref b128), .val (.int sel), .val (.int (mid - (1 : Int32))), .unset] [])) _
                  refine Go.via (fun _ => XS.goto X140.here hx rfl (pc0 := 346) (pc' := 355) rfl (hb hby at_346) (by decide) (by decide)) ?_
                  have f183 : Ia Z T140.heap b117 .int [] := ((f132.ext E128).keep K140q (ninS ne131 nin0))
                  have f184 : Ia Z T140.heap b121 .int [] := (f139.keep K140q (ninS ne133 nin0))
                  have z185 : n0 ≤ T140.heap.size := (Nat.le_trans z141 K140q.1)
                  have k186 : Keep h0 T140.heap [] := ((k129.ext E128).trans K140q (allS (Or.inr sz135) all0))
                  exact J0 T140 _ T140.heap (mid - (1 : Int32)) sel X140 e140 N140 z185 k186 f145 f146 f147 f183 f184
                · refine Go.via (fun _ => XS.icmpYes X140.here hx rfl (pc0 := 337) (pc' := 349) rfl (hb hby at_337) rfl (feq (hc182 : ¬ (sel = (6 : Int32)))).2 (by decide) (by decide)) ?_
                  refine Go.via (fun _ => XS.iload X140.here hx rfl (hb hby at_349) rfl) ?_
                  refine Go.via (fun _ => XS.iconst X140.here hx rfl (hb hby at_351)) ?_
                  refine Go.via (fun _ => XS.iadd X140.here hx rfl (hb hby at_352) rfl) ?_
                  show Go p e below (T140.setTop (mkF m 353 #[.val (.int x1), .val (.int y1), .val (.int z1), .val (.int w1), .val (.int s_), .val (.long fq), .second, .val (.int (0 : Int32)), .val (.int f0), .val (.int f1), .val (.int f2), .val (.int lo), .val (.int hi), .val (.int mid), .val (.ref b117), .val (.ref b121), .val (.ref b128), .val (.int sel), .unset, .unset] [(.int (mid + (1 : Int32)))])) _
                  refine Go.via (fun _ => XS.istore X140.here hx rfl (hb hby at_353) rfl (l' := #[.val (.int x1), .val (.int y1), .val (.int z1), .val (.int w1), .val (.int s_), .val (.long fq), .second, .val (.int (0 : Int32)), .val (.int f0), .val (.int f1), .val (.int f2), .val (.int lo), .val (.int hi), .val (.int mid), .val (.ref b117), .val (.ref b121), .val (.ref b128), .val (.int sel), .val (.int (mid + (1 : Int32))), .unset]) rfl) ?_
                  have f187 : Ia Z T140.heap b117 .int [] := ((f132.ext E128).keep K140q (ninS ne131 nin0))
                  have f188 : Ia Z T140.heap b121 .int [] := (f139.keep K140q (ninS ne133 nin0))
                  have z189 : n0 ≤ T140.heap.size := (Nat.le_trans z141 K140q.1)
                  have k190 : Keep h0 T140.heap [] := ((k129.ext E128).trans K140q (allS (Or.inr sz135) all0))
                  exact J0 T140 _ T140.heap (mid + (1 : Int32)) sel X140 e140 N140 z189 k190 f145 f146 f147 f187 f188
  · show Go p e below (T116.setTop (mkF m 82 #[.val (.int x1), .val (.int y1), .val (.int z1), .val (.int w1), .val (.int s_), .val (.long fq), .second, .val (.int (1 : Int32)), .val (.int f0), .val (.int f1), .val (.int f2), .val (.int lo), .val (.int hi), .val (.int mid), .unset, .unset, .unset, .unset, .unset, .unset] [])) _
    refine Go.via (fun _ => XS.iload X116.here hx rfl (hb hby at_82) rfl) ?_
    refine Go.via (fun _ => XS.ifYes X116.here hx rfl (pc0 := 84) (pc' := 100) rfl (hb hby at_84) rfl ((if0 _ _).trans (feq ((by decide) : ¬ ((1 : Int32) = (0 : Int32)))).2) (by decide) (by decide)) ?_
    show Go p e below (T116.setTop (mkF m 100 #[.val (.int x1), .val (.int y1), .val (.int z1), .val (.int w1), .val (.int s_), .val (.long fq), .second, .val (.int (1 : Int32)), .val (.int f0), .val (.int f1), .val (.int f2), .val (.int lo), .val (.int hi), .val (.int mid), .unset, .unset, .unset, .unset, .unset, .unset] [])) _
    refine Go.via (fun _ => XS.iload X116.here hx rfl (hb hby at_100) rfl) ?_
    refine Go.via (fun _ => XS.iconst X116.here hx rfl (hb hby at_102)) ?_
    refine Go.via (fun _ => XS.icmpNo X116.here hx rfl (hb hby at_103) rfl (teq ((by decide) : (1 : Int32) = (1 : Int32))).2) ?_
    show Go p e below (T116.setTop (mkF m 106 #[.val (.int x1), .val (.int y1), .val (.int z1), .val (.int w1), .val (.int s_), .val (.long fq), .second, .val (.int (1 : Int32)), .val (.int f0), .val (.int f1), .val (.int f2), .val (.int lo), .val (.int hi), .val (.int mid), .unset, .unset, .unset, .unset, .unset, .unset] [])) _
    refine Go.via (fun _ => XS.iconst X116.here hx rfl (hb hby at_106)) ?_
    obtain ⟨T191, h191, k191, X191, e191, E191, A191, B191, st191⟩ := newPE X116 hx hZ (tw hw 8 rfl) e116 (g := (mkF m 107 #[.val (.int x1), .val (.int y1), .val (.int z1), .val (.int w1), .val (.int s_), .val (.long fq), .second, .val (.int (1 : Int32)), .val (.int f0), .val (.int f1), .val (.int f2), .val (.int lo), .val (.int hi), .val (.int mid), .unset, .unset, .unset, .unset, .unset, .unset] [(.int (1 : Int32))])) rfl (hb hby at_107) rfl (by decide) (cap := 1) (by decide) (by decide) (by decide) (by decide) (ad := "[I") (by decide)
    obtain ⟨b191, g191⟩ : ∃ z, z = h0.size := ⟨_, rfl⟩
    rw [← g191] at A191 B191 st191
    have ge192 : n0 ≤ b191 := Nat.le_trans Z0 (Nat.le_of_eq g191.symm)
    have sz193 : h0.size ≤ b191 := Nat.le_trans (Keep.refl h0 []).1 (Nat.le_of_eq g191.symm)
    refine Go.via (st191) ?_
    have f194 : Ia Z h191 b191 .int [(0 : Int32)] := Ia.new A191 rfl
    show Go p e below (T191.setTop (mkF m 109 #[.val (.int x1), .val (.int y1), .val (.int z1), .val (.int w1), .val (.int s_), .val (.long fq), .second, .val (.int (1 : Int32)), .val (.int f0), .val (.int f1), .val (.int f2), .val (.int lo), .val (.int hi), .val (.int mid), .unset, .unset, .unset, .unset, .unset, .unset] [(.ref b191)])) _
    refine Go.via (fun _ => XS.dup X191.here hx rfl (hb hby at_109) rfl rfl) ?_
    refine Go.via (fun _ => XS.iconst X191.here hx rfl (hb hby at_110)) ?_
    refine Go.via (fun _ => XS.iloadN X191.here hx rfl (hb hby at_111) rfl) ?_
    obtain ⟨T195, h195, X195, e195, W195, V195, st195⟩ := stI' X191 hx hZ e191 f194 (j := (0 : Int32)) (by decide) (by first | decide | (simp only [List.length_cons, List.length_nil]; decide) | rfl) (g := (mkF m 112 #[.val (.int x1), .val (.int y1), .val (.int z1), .val (.int w1), .val (.int s_), .val (.long fq), .second, .val (.int (1 : Int32)), .val (.int f0), .val (.int f1), .val (.int f2), .val (.int lo), .val (.int hi), .val (.int mid), .unset, .unset, .unset, .unset, .unset, .unset] [(.int x1), (.int (0 : Int32)), (.ref b191), (.ref b191)])) rfl rfl (hb hby at_112)
    refine Go.via (st195) ?_
    have N195 := Fr.snoc X195 N116 ge192
    have f196 : Ia Z h195 b191 .int [x1] := V195
    show Go p e below (T195.setTop (mkF m 113 #[.val (.int x1), .val (.int y1), .val (.int z1), .val (.int w1), .val (.int s_), .val (.long fq), .second, .val (.int (1 : Int32)), .val (.int f0), .val (.int f1), .val (.int f2), .val (.int lo), .val (.int hi), .val (.int mid), .unset, .unset, .unset, .unset, .unset, .unset] [(.ref b191)])) _
    refine Go.via (fun _ => XS.astore X195.here hx rfl (hb hby at_113) rfl rfl (l' := #[.val (.int x1), .val (.int y1), .val (.int z1), .val (.int w1), .val (.int s_), .val (.long fq), .second, .val (.int (1 : Int32)), .val (.int f0), .val (.int f1), .val (.int f2), .val (.int lo), .val (.int hi), .val (.int mid), .val (.ref b191), .unset, .unset, .unset, .unset, .unset]) rfl) ?_
    show Go p e below (T195.setTop (mkF m 115 #[.val (.int x1), .val (.int y1), .val (.int z1), .val (.int w1), .val (.int s_), .val (.long fq), .second, .val (.int (1 : Int32)), .val (.int f0), .val (.int f1), .val (.int f2), .val (.int lo), .val (.int hi), .val (.int mid), .val (.ref b191), .unset, .unset, .unset, .unset, .unset] [])) _
    refine Go.via (fun _ => XS.iconst X195.here hx rfl (hb hby at_115)) ?_
    have k198 : Keep h0 h195 [] := (((Keep.refl h0 []).ext E191).wr W195 (Or.inr sz193))
    have z199 : n0 ≤ h195.size := (Nat.le_trans (Nat.le_trans Z0 E191.1) (Keep.of_wr W195).1)
    obtain ⟨T197, h197, k197, X197, e197, E197, A197, B197, st197⟩ := newPE X195 hx hZ (tw hw 8 rfl) e195 (g := (mkF m 116 #[.val (.int x1), .val (.int y1), .val (.int z1), .val (.int w1), .val (.int s_), .val (.long fq), .second, .val (.int (1 : Int32)), .val (.int f0), .val (.int f1), .val (.int f2), .val (.int lo), .val (.int hi), .val (.int mid), .val (.ref b191), .unset, .unset, .unset, .unset, .unset] [(.int (1 : Int32))])) rfl (hb hby at_116) rfl (by decide) (cap := 1) (by decide) (by decide) (by decide) (by decide) (ad := "[I") (by decide)
    obtain ⟨b197, g197⟩ : ∃ z, z = h195.size := ⟨_, rfl⟩
    rw [← g197] at A197 B197 st197
    have ne200 : b191 ≠ b197 := Nat.ne_of_lt (Nat.lt_of_lt_of_le f196.lt (Nat.le_of_eq g197.symm))
    have ge201 : n0 ≤ b197 := Nat.le_trans z199 (Nat.le_of_eq g197.symm)
    have sz202 : h0.size ≤ b197 := Nat.le_trans k198.1 (Nat.le_of_eq g197.symm)
    refine Go.via (st197) ?_
    have f203 : Ia Z h197 b197 .int [(0 : Int32)] := Ia.new A197 rfl
    show Go p e below (T197.setTop (mkF m 118 #[.val (.int x1), .val (.int y1), .val (.int z1), .val (.int w1), .val (.int s_), .val (.long fq), .second, .val (.int (1 : Int32)), .val (.int f0), .val (.int f1), .val (.int f2), .val (.int lo), .val (.int hi), .val (.int mid), .val (.ref b191), .unset, .unset, .unset, .unset, .unset] [(.ref b197)])) _
    refine Go.via (fun _ => XS.dup X197.here hx rfl (hb hby at_118) rfl rfl) ?_
    refine Go.via (fun _ => XS.iconst X197.here hx rfl (hb hby at_119)) ?_
    refine Go.via (fun _ => XS.iload X197.here hx rfl (hb hby at_120) rfl) ?_
    obtain ⟨T204, h204, X204, e204, W204, V204, st204⟩ := stI' X197 hx hZ e197 f203 (j := (0 : Int32)) (by decide) (by first | decide | (simp only [List.length_cons, List.length_nil]; decide) | rfl) (g := (mkF m 122 #[.val (.int x1), .val (.int y1), .val (.int z1), .val (.int w1), .val (.int s_), .val (.long fq), .second, .val (.int (1 : Int32)), .val (.int f0), .val (.int f1), .val (.int f2), .val (.int lo), .val (.int hi), .val (.int mid), .val (.ref b191), .unset, .unset, .unset, .unset, .unset] [(.int f0), (.int (0 : Int32)), (.ref b197), (.ref b197)])) rfl rfl (hb hby at_122)
    refine Go.via (st204) ?_
    have N204 := Fr.snoc X204 N195 ge201
    have f205 : Ia Z h204 b197 .int [f0] := V204
    show Go p e below (T204.setTop (mkF m 123 #[.val (.int x1), .val (.int y1), .val (.int z1), .val (.int w1), .val (.int s_), .val (.long fq), .second, .val (.int (1 : Int32)), .val (.int f0), .val (.int f1), .val (.int f2), .val (.int lo), .val (.int hi), .val (.int mid), .val (.ref b191), .unset, .unset, .unset, .unset, .unset] [(.ref b197)])) _
    refine Go.via (fun _ => XS.astore X204.here hx rfl (hb hby at_123) rfl rfl (l' := #[.val (.int x1), .val (.int y1), .val (.int z1), .val (.int w1), .val (.int s_), .val (.long fq), .second, .val (.int (1 : Int32)), .val (.int f0), .val (.int f1), .val (.int f2), .val (.int lo), .val (.int hi), .val (.int mid), .val (.ref b191), .val (.ref b197), .unset, .unset, .unset, .unset]) rfl) ?_
    show Go p e below (T204.setTop (mkF m 125 #[.val (.int x1), .val (.int y1), .val (.int z1), .val (.int w1), .val (.int s_), .val (.long fq), .second, .val (.int (1 : Int32)), .val (.int f0), .val (.int f1), .val (.int f2), .val (.int lo), .val (.int hi), .val (.int mid), .val (.ref b191), .val (.ref b197), .unset, .unset, .unset, .unset] [])) _
    refine Go.via (fun _ => XS.goto X204.here hx rfl (pc0 := 125) (pc' := 236) rfl (hb hby at_125) (by decide) (by decide)) ?_
    have k207 : Keep h0 h204 [] := ((k198.ext E197).wr W204 (Or.inr sz202))
    have z208 : n0 ≤ h204.size := (Nat.le_trans (Nat.le_trans z199 E197.1) (Keep.of_wr W204).1)
    obtain ⟨T206, h206, X206, e206, E206, A206, D206, -, st206⟩ := newO X204 hx hZ hown (tw hw 9 rfl) (tw hw 10 rfl) (tw hw 11 rfl) e204 (g := (mkF m 236 #[.val (.int x1), .val (.int y1), .val (.int z1), .val (.int w1), .val (.int s_), .val (.long fq), .second, .val (.int (1 : Int32)), .val (.int f0), .val (.int f1), .val (.int f2), .val (.int lo), .val (.int hi), .val (.int mid), .val (.ref b191), .val (.ref b197), .unset, .unset, .unset, .unset] [])) rfl (hb hby at_236) (by decide) (by decide)
    obtain ⟨b206, g206⟩ : ∃ z, z = h204.size := ⟨_, rfl⟩
    rw [← g206] at A206 D206 st206
    have f210 : Ia Z h204 b191 .int [x1] := ((f196.ext E197).other W204 ne200)
    have ne209 : b191 ≠ b206 := Nat.ne_of_lt (Nat.lt_of_lt_of_le f210.lt (Nat.le_of_eq g206.symm))
    have ne211 : b197 ≠ b206 := Nat.ne_of_lt (Nat.lt_of_lt_of_le f205.lt (Nat.le_of_eq g206.symm))
    have ge212 : n0 ≤ b206 := Nat.le_trans z208 (Nat.le_of_eq g206.symm)
    have sz213 : h0.size ≤ b206 := Nat.le_trans k207.1 (Nat.le_of_eq g206.symm)
    refine Go.via (st206) ?_
    have f214 : Fld Z h206 b206 "com/example/libcosearch/libcosearch/PostingList" "documents" "[I" .null := D206 (Or.inr (tw hw 19 rfl)) (ty := (.array .int)) (by decide)
    have f215 : Fld Z h206 b206 "com/example/libcosearch/libcosearch/PostingList" "frequencies" "[I" .null := D206 (Or.inr (tw hw 21 rfl)) (ty := (.array .int)) (by decide)
    have f216 : Fld Z h206 b206 "com/example/libcosearch/libcosearch/PostingList" "collectionFrequency" "J" (.long (0 : Int64)) := D206 (Or.inr (tw hw 23 rfl)) (ty := .long) (by decide)
    show Go p e below (T206.setTop (mkF m 239 #[.val (.int x1), .val (.int y1), .val (.int z1), .val (.int w1), .val (.int s_), .val (.long fq), .second, .val (.int (1 : Int32)), .val (.int f0), .val (.int f1), .val (.int f2), .val (.int lo), .val (.int hi), .val (.int mid), .val (.ref b191), .val (.ref b197), .unset, .unset, .unset, .unset] [(.ref b206)])) _
    refine Go.via (fun _ => XS.dup X206.here hx rfl (hb hby at_239) rfl rfl) ?_
    refine Go.via (fun _ => XS.aload X206.here hx rfl (hb hby at_240) rfl rfl) ?_
    refine Go.via (fun _ => XS.aload X206.here hx rfl (hb hby at_242) rfl rfl) ?_
    have f217 : Ia Z h206 b197 .int [f0] := (f205.ext E206)
    have z219 : n0 ≤ h206.size := (Nat.le_trans z208 E206.1)
    obtain ⟨_, _, ⟨T218, L218, k218, n218⟩, -, X218, ⟨Lc218, hQ218, l218, y218, z218⟩, st218⟩ := X206.specialBack hx (y := (⟨"com/example/libcosearch/libcosearch/PostingList", "<init>", "([I[I)V"⟩ : MethodName)) rfl hown (mvT hZ (tw hw 12 rfl)) (mvT hZ (tw hw 13 rfl)) (mvT hZ (tw hw 14 rfl)) (by decide) (backOf (W := 1) (rmI1 l Z a0 hw [] b206 b191 b197 f0 h206 n0 z219 A206 f214 f215 f216 f217 ge212 (Ne.symm ne211)) hZ (tw hw 14 rfl) (tw hw 11 rfl) (by decide) (by decide)) (g := (mkF m 244 #[.val (.int x1), .val (.int y1), .val (.int z1), .val (.int w1), .val (.int s_), .val (.long fq), .second, .val (.int (1 : Int32)), .val (.int f0), .val (.int f1), .val (.int f2), .val (.int lo), .val (.int hi), .val (.int mid), .val (.ref b191), .val (.ref b197), .unset, .unset, .unset, .unset] [(.ref b197), (.ref b191), (.ref b206), (.ref b206)])) rfl (by rw [hml]; rfl) (Steps.refl _) (a := b206) (argsL := [(.ref b191), (.ref b197)]) (rest := [(.ref b206)]) (lenOf pd__28_5bI_5bI_29V rfl) rfl (by show 2 * 0 + _ ≤ _; exact Nat.le_of_eq rfl) (hb hby at_244) (fun _ _ => ⟨rfl, e206, (by decide : 3 + 0 ≤ _), (by decide : 5 + 0 ≤ _)⟩)
    dsimp only [Pt.U, Pt.locs, Pt.cells, Pt.slots] at X218 l218 y218 z218 st218 hQ218
    subst l218 y218 z218
    obtain ⟨rfl, N218q, K218q, f220, f221, f222⟩ := hQ218
    have N218 := Fr.app N204 N218q
    refine Go.via (fun _ kQ => st218.trans kQ) ?_
    have e218 : T218.heap = T218.heap := rfl
    have f223 : Exa Z T218.heap b206 "com/example/libcosearch/libcosearch/PostingList" := f220
    have f224 : Fld Z T218.heap b206 "com/example/libcosearch/libcosearch/PostingList" "documents" "[I" (.ref b191) := f221
    have f225 : Fld Z T218.heap b206 "com/example/libcosearch/libcosearch/PostingList" "frequencies" "[I" (.ref b197) := f222
    show Go p e below (T218.setTop (mkF m 247 #[.val (.int x1), .val (.int y1), .val (.int z1), .val (.int w1), .val (.int s_), .val (.long fq), .second, .val (.int (1 : Int32)), .val (.int f0), .val (.int f1), .val (.int f2), .val (.int lo), .val (.int hi), .val (.int mid), .val (.ref b191), .val (.ref b197), .unset, .unset, .unset, .unset] [(.ref b206)])) _
    refine Go.via (fun _ => XS.astore X218.here hx rfl (hb hby at_247) rfl rfl (l' := #[.val (.int x1), .val (.int y1), .val (.int z1), .val (.int w1), .val (.int s_), .val (.long fq), .second, .val (.int (1 : Int32)), .val (.int f0), .val (.int f1), .val (.int f2), .val (.int lo), .val (.int hi), .val (.int mid), .val (.ref b191), .val (.ref b197), .val (.ref b206), .unset, .unset, .unset]) rfl) ?_
    show Go p e below (T218.setTop (mkF m 249 #[.val (.int x1), .val (.int y1), .val (.int z1), .val (.int w1), .val (.int s_), .val (.long fq), .second, .val (.int (1 : Int32)), .val (.int f0), .val (.int f1), .val (.int f2), .val (.int lo), .val (.int hi), .val (.int mid), .val (.ref b191), .val (.ref b197), .val (.ref b206), .unset, .unset, .unset] [])) _
    have J1 : ∀ (T226 : State) (L226 : List Loc) (h226 : Heap) (q : Int32) (sel : Int32), Stand p l e room_1 s m #[(.int x1), (.int y1), (.int z1), (.int w1), (.int s_), (.long fq)] below meth c T226 L226 3 5 → T226.heap = h226 → Fr n0 L226 → n0 ≤ h226.size → Keep h0 h226 [] → Exa Z h226 b206 "com/example/libcosearch/libcosearch/PostingList" → Fld Z h226 b206 "com/example/libcosearch/libcosearch/PostingList" "documents" "[I" (.ref b191) → Fld Z h226 b206 "com/example/libcosearch/libcosearch/PostingList" "frequencies" "[I" (.ref b197) → Ia Z h226 b191 .int [x1] → Ia Z h226 b197 .int [f0] → Go p e below (T226.setTop (mkF m 355 #[.val (.int x1), .val (.int y1), .val (.int z1), .val (.int w1), .val (.int s_), .val (.long fq), .second, .val (.int (1 : Int32)), .val (.int f0), .val (.int f1), .val (.int f2), .val (.int lo), .val (.int hi), .val (.int mid), .val (.ref b191), .val (.ref b197), .val (.ref b206), .val (.int sel), .val (.int q), .unset] [])) (Done s (Q_rm0 Z x1 y1 z1 w1 s_ fq h0 n0) room_1.cells room_1.slots) := by
      intro T226 L226 h226 q sel X226 e226 N226 z226 k226 fE226 fd226 ff226 fx226 fy226 
      show Go p e below (T226.setTop (mkF m 355 #[.val (.int x1), .val (.int y1), .val (.int z1), .val (.int w1), .val (.int s_), .val (.long fq), .second, .val (.int (1 : Int32)), .val (.int f0), .val (.int f1), .val (.int f2), .val (.int lo), .val (.int hi), .val (.int mid), .val (.ref b191), .val (.ref b197), .val (.ref b206), .val (.int sel), .val (.int q), .unset] [])) _
      refine Go.via (fun _ => XS.iconst X226.here hx rfl (hb hby at_355)) ?_
      refine Go.via (fun _ => XS.istore X226.here hx rfl (hb hby at_356) rfl (l' := #[.val (.int x1), .val (.int y1), .val (.int z1), .val (.int w1), .val (.int s_), .val (.long fq), .second, .val (.int (1 : Int32)), .val (.int f0), .val (.int f1), .val (.int f2), .val (.int lo), .val (.int hi), .val (.int mid), .val (.ref b191), .val (.ref b197), .val (.ref b206), .val (.int sel), .val (.int q), .val (.int (0 : Int32))]) rfl) ?_
      show Go p e below (T226.setTop (mkF m 358 #[.val (.int x1), .val (.int y1), .val (.int z1), .val (.int w1), .val (.int s_), .val (.long fq), .second, .val (.int (1 : Int32)), .val (.int f0), .val (.int f1), .val (.int f2), .val (.int lo), .val (.int hi), .val (.int mid), .val (.ref b191), .val (.ref b197), .val (.ref b206), .val (.int sel), .val (.int q), .val (.int (0 : Int32))] [])) _
      refine Go.via (fun _ => XS.iload X226.here hx rfl (hb hby at_358) rfl) ?_
      refine Go.via (fun _ => XS.iconst X226.here hx rfl (hb hby at_360)) ?_
      refine Go.via (fun _ => XS.icmpNo X226.here hx rfl (hb hby at_361) rfl (flt ((by decide) : ¬ ((1 : Int32) < (1 : Int32)))).1) ?_
      show Go p e below (T226.setTop (mkF m 364 #[.val (.int x1), .val (.int y1), .val (.int z1), .val (.int w1), .val (.int s_), .val (.long fq), .second, .val (.int (1 : Int32)), .val (.int f0), .val (.int f1), .val (.int f2), .val (.int lo), .val (.int hi), .val (.int mid), .val (.ref b191), .val (.ref b197), .val (.ref b206), .val (.int sel), .val (.int q), .val (.int (0 : Int32))] [])) _
      refine Go.via (fun _ => XS.iload X226.here hx rfl (hb hby at_364) rfl) ?_
      refine Go.via (fun _ => XS.aload X226.here hx rfl (hb hby at_366) rfl rfl) ?_
      refine Go.via (fun _ => XS.iconst X226.here hx rfl (hb hby at_368)) ?_
      refine Go.via (ldI X226 hx hZ e226 fx226 (v := x1) (by decide) rfl (g := (mkF m 369 #[.val (.int x1), .val (.int y1), .val (.int z1), .val (.int w1), .val (.int s_), .val (.long fq), .second, .val (.int (1 : Int32)), .val (.int f0), .val (.int f1), .val (.int f2), .val (.int lo), .val (.int hi), .val (.int mid), .val (.ref b191), .val (.ref b197), .val (.ref b206), .val (.int sel), .val (.int q), .val (.int (0 : Int32))] [(.int (0 : Int32)), (.ref b191), (.int q)])) rfl rfl (hb hby at_369)) ?_
      show Go p e below (T226.setTop (mkF m 370 #[.val (.int x1), .val (.int y1), .val (.int z1), .val (.int w1), .val (.int s_), .val (.long fq), .second, .val (.int (1 : Int32)), .val (.int f0), .val (.int f1), .val (.int f2), .val (.int lo), .val (.int hi), .val (.int mid), .val (.ref b191), .val (.ref b197), .val (.ref b206), .val (.int sel), .val (.int q), .val (.int (0 : Int32))] [(.int x1), (.int q)])) _
      by_cases hc227 : q = x1
      · refine Go.via (fun _ => XS.icmpNo X226.here hx rfl (hb hby at_370) rfl (teq (hc227 : q = x1)).2) ?_
        show Go p e below (T226.setTop (mkF m 373 #[.val (.int x1), .val (.int y1), .val (.int z1), .val (.int w1), .val (.int s_), .val (.long fq), .second, .val (.int (1 : Int32)), .val (.int f0), .val (.int f1), .val (.int f2), .val (.int lo), .val (.int hi), .val (.int mid), .val (.ref b191), .val (.ref b197), .val (.ref b206), .val (.int sel), .val (.int q), .val (.int (0 : Int32))] [])) _
        refine Go.via (fun _ => XS.aload X226.here hx rfl (hb hby at_373) rfl rfl) ?_
        refine Go.via (fun _ => XS.iconst X226.here hx rfl (hb hby at_375)) ?_
        refine Go.via (ldI X226 hx hZ e226 fy226 (v := f0) (by decide) rfl (g := (mkF m 376 #[.val (.int x1), .val (.int y1), .val (.int z1), .val (.int w1), .val (.int s_), .val (.long fq), .second, .val (.int (1 : Int32)), .val (.int f0), .val (.int f1), .val (.int f2), .val (.int lo), .val (.int hi), .val (.int mid), .val (.ref b191), .val (.ref b197), .val (.ref b206), .val (.int sel), .val (.int q), .val (.int (0 : Int32))] [(.int (0 : Int32)), (.ref b197)])) rfl rfl (hb hby at_376)) ?_
        show Go p e below (T226.setTop (mkF m 377 #[.val (.int x1), .val (.int y1), .val (.int z1), .val (.int w1), .val (.int s_), .val (.long fq), .second, .val (.int (1 : Int32)), .val (.int f0), .val (.int f1), .val (.int f2), .val (.int lo), .val (.int hi), .val (.int mid), .val (.ref b191), .val (.ref b197), .val (.ref b206), .val (.int sel), .val (.int q), .val (.int (0 : Int32))] [(.int f0)])) _
        refine Go.via (fun _ => XS.istore X226.here hx rfl (hb hby at_377) rfl (l' := #[.val (.int x1), .val (.int y1), .val (.int z1), .val (.int w1), .val (.int s_), .val (.long fq), .second, .val (.int (1 : Int32)), .val (.int f0), .val (.int f1), .val (.int f2), .val (.int lo), .val (.int hi), .val (.int mid), .val (.ref b191), .val (.ref b197), .val (.ref b206), .val (.int sel), .val (.int q), .val (.int f0)]) rfl) ?_
        show Go p e below (T226.setTop (mkF m 379 #[.val (.int x1), .val (.int y1), .val (.int z1), .val (.int w1), .val (.int s_), .val (.long fq), .second, .val (.int (1 : Int32)), .val (.int f0), .val (.int f1), .val (.int f2), .val (.int lo), .val (.int hi), .val (.int mid), .val (.ref b191), .val (.ref b197), .val (.ref b206), .val (.int sel), .val (.int q), .val (.int f0)] [])) _
        refine Go.via (fun _ => XS.goto X226.here hx rfl (pc0 := 379) (pc' := 427) rfl (hb hby at_379) (by decide) (by decide)) ?_
        refine Go.via (fun _ => XS.aload X226.here hx rfl (hb hby at_427) rfl rfl) ?_
        refine Go.via (fun _ => XS.iload X226.here hx rfl (hb hby at_429) rfl) ?_
        obtain ⟨cq228, kq228, q228a, q228b, q228c⟩ := isOf hZ e226 fE226
        obtain ⟨_, _, ⟨T228, L228, k228, n228⟩, -, X228, ⟨Lc228, hQ228, l228, y228, z228⟩, st228⟩ := X226.virtualBack hx (y := (⟨"com/example/libcosearch/libcosearch/PostingList", "frequencyIn", "(I)I"⟩ : MethodName)) (z := (⟨"com/example/libcosearch/libcosearch/PostingList", "frequencyIn", "(I)I"⟩ : MethodName)) hown (mvT hZ (tw hw 24 rfl)) (mvT hZ (tw hw 25 rfl)) (notFace_of_selects (args := #[]) (mvT hZ (tw hw 27 rfl))) (mvT hZ (tw hw 27 rfl)) (mvT hZ (tw hw 26 rfl)) (by decide) (backOf (W := 0) (rmF1 l Z a0 hw [] b206 q b191 b197 x1 f0 h226 n0 z226 fd226 ff226 fx226 fy226) hZ (tw hw 28 rfl) (tw hw 11 rfl) (by decide) (by decide)) q228a q228c (g := (mkF m 431 #[.val (.int x1), .val (.int y1), .val (.int z1), .val (.int w1), .val (.int s_), .val (.long fq), .second, .val (.int (1 : Int32)), .val (.int f0), .val (.int f1), .val (.int f2), .val (.int lo), .val (.int hi), .val (.int mid), .val (.ref b191), .val (.ref b197), .val (.ref b206), .val (.int sel), .val (.int q), .val (.int f0)] [(.int q), (.ref b206)])) rfl (by rw [hml]; rfl) (Steps.refl _) (argsL := [(.int q)]) (rest := []) (lenOf pd__28I_29I rfl) rfl (by show 2 * 0 + _ ≤ _; exact Nat.le_of_eq rfl) (hb hby at_431) (fun _ _ => ⟨rfl, e226, (by decide : 3 + 0 ≤ _), (by decide : 5 + 0 ≤ _)⟩)
        dsimp only [Pt.U, Pt.locs, Pt.cells, Pt.slots] at X228 l228 y228 z228 st228 hQ228
        subst l228 y228 z228
        obtain ⟨v229, rfl, N228q, eh228, qp230⟩ := hQ228
        have N228 := Fr.app N226 N228q
        refine Go.via (fun _ kQ => st228.trans kQ) ?_
        have e228 : T228.heap = h226 := eh228
        show Go p e below (T228.setTop (mkF m 434 #[.val (.int x1), .val (.int y1), .val (.int z1), .val (.int w1), .val (.int s_), .val (.long fq), .second, .val (.int (1 : Int32)), .val (.int f0), .val (.int f1), .val (.int f2), .val (.int lo), .val (.int hi), .val (.int mid), .val (.ref b191), .val (.ref b197), .val (.ref b206), .val (.int sel), .val (.int q), .val (.int f0)] [(.int v229)])) _
        refine Go.via (fun _ => XS.iload X228.here hx rfl (hb hby at_434) rfl) ?_
        refine Go.via (fun _ => XS.icmpNo X228.here hx rfl (hb hby at_436) rfl (teq (((own_f1 qp230 ).1 (by assumption)) : v229 = f0)).2) ?_
        show Go p e below (T228.setTop (mkF m 439 #[.val (.int x1), .val (.int y1), .val (.int z1), .val (.int w1), .val (.int s_), .val (.long fq), .second, .val (.int (1 : Int32)), .val (.int f0), .val (.int f1), .val (.int f2), .val (.int lo), .val (.int hi), .val (.int mid), .val (.ref b191), .val (.ref b197), .val (.ref b206), .val (.int sel), .val (.int q), .val (.int f0)] [])) _
        refine Go.via (fun _ => XS.iconst X228.here hx rfl (hb hby at_439)) ?_
        refine Go.via (fun _ => XS.goto X228.here hx rfl (pc0 := 440) (pc' := 444) rfl (hb hby at_440) (by decide) (by decide)) ?_
        exact Go.fin X228 hlk (v := some (.int (1 : Int32))) (fun h => by rw [Bd.returns] at h; cases h) (fun fs hr => retN X228 hx (t := .boolean) Bd.returns (by simp) (hb hby at_444) hr) (by rw [e228]; exact ⟨rfl, N228, k226⟩) (by decide) (by decide)
      · refine Go.via (fun _ => XS.icmpYes X226.here hx rfl (pc0 := 370) (pc' := 382) rfl (hb hby at_370) rfl (feq (hc227 : ¬ (q = x1))).2 (by decide) (by decide)) ?_
        show Go p e below (T226.setTop (mkF m 382 #[.val (.int x1), .val (.int y1), .val (.int z1), .val (.int w1), .val (.int s_), .val (.long fq), .second, .val (.int (1 : Int32)), .val (.int f0), .val (.int f1), .val (.int f2), .val (.int lo), .val (.int hi), .val (.int mid), .val (.ref b191), .val (.ref b197), .val (.ref b206), .val (.int sel), .val (.int q), .val (.int (0 : Int32))] [])) _
        refine Go.via (fun _ => XS.iload X226.here hx rfl (hb hby at_382) rfl) ?_
        refine Go.via (fun _ => XS.iconst X226.here hx rfl (hb hby at_384)) ?_
        refine Go.via (fun _ => XS.icmpYes X226.here hx rfl (pc0 := 385) (pc' := 406) rfl (hb hby at_385) rfl (tlt ((by decide) : (1 : Int32) < (2 : Int32))).1 (by decide) (by decide)) ?_
        show Go p e below (T226.setTop (mkF m 406 #[.val (.int x1), .val (.int y1), .val (.int z1), .val (.int w1), .val (.int s_), .val (.long fq), .second, .val (.int (1 : Int32)), .val (.int f0), .val (.int f1), .val (.int f2), .val (.int lo), .val (.int hi), .val (.int mid), .val (.ref b191), .val (.ref b197), .val (.ref b206), .val (.int sel), .val (.int q), .val (.int (0 : Int32))] [])) _
        refine Go.via (fun _ => XS.iload X226.here hx rfl (hb hby at_406) rfl) ?_
        refine Go.via (fun _ => XS.iconst X226.here hx rfl (hb hby at_408)) ?_
        refine Go.via (fun _ => XS.icmpYes X226.here hx rfl (pc0 := 409) (pc' := 427) rfl (hb hby at_409) rfl (tlt ((by decide) : (1 : Int32) < (3 : Int32))).1 (by decide) (by decide)) ?_
        show Go p e below (T226.setTop (mkF m 427 #[.val (.int x1), .val (.int y1), .val (.int z1), .val (.int w1), .val (.int s_), .val (.long fq), .second, .val (.int (1 : Int32)), .val (.int f0), .val (.int f1), .val (.int f2), .val (.int lo), .val (.int hi), .val (.int mid), .val (.ref b191), .val (.ref b197), .val (.ref b206), .val (.int sel), .val (.int q), .val (.int (0 : Int32))] [])) _
        refine Go.via (fun _ => XS.aload X226.here hx rfl (hb hby at_427) rfl rfl) ?_
        refine Go.via (fun _ => XS.iload X226.here hx rfl (hb hby at_429) rfl) ?_
        obtain ⟨cq231, kq231, q231a, q231b, q231c⟩ := isOf hZ e226 fE226
        obtain ⟨_, _, ⟨T231, L231, k231, n231⟩, -, X231, ⟨Lc231, hQ231, l231, y231, z231⟩, st231⟩ := X226.virtualBack hx (y := (⟨"com/example/libcosearch/libcosearch/PostingList", "frequencyIn", "(I)I"⟩ : MethodName)) (z := (⟨"com/example/libcosearch/libcosearch/PostingList", "frequencyIn", "(I)I"⟩ : MethodName)) hown (mvT hZ (tw hw 24 rfl)) (mvT hZ (tw hw 25 rfl)) (notFace_of_selects (args := #[]) (mvT hZ (tw hw 27 rfl))) (mvT hZ (tw hw 27 rfl)) (mvT hZ (tw hw 26 rfl)) (by decide) (backOf (W := 0) (rmF1 l Z a0 hw [] b206 q b191 b197 x1 f0 h226 n0 z226 fd226 ff226 fx226 fy226) hZ (tw hw 28 rfl) (tw hw 11 rfl) (by decide) (by decide)) q231a q231c (g := (mkF m 431 #[.val (.int x1), .val (.int y1), .val (.int z1), .val (.int w1), .val (.int s_), .val (.long fq), .second, .val (.int (1 : Int32)), .val (.int f0), .val (.int f1), .val (.int f2), .val (.int lo), .val (.int hi), .val (.int mid), .val (.ref b191), .val (.ref b197), .val (.ref b206), .val (.int sel), .val (.int q), .val (.int (0 : Int32))] [(.int q), (.ref b206)])) rfl (by rw [hml]; rfl) (Steps.refl _) (argsL := [(.int q)]) (rest := []) (lenOf pd__28I_29I rfl) rfl (by show 2 * 0 + _ ≤ _; exact Nat.le_of_eq rfl) (hb hby at_431) (fun _ _ => ⟨rfl, e226, (by decide : 3 + 0 ≤ _), (by decide : 5 + 0 ≤ _)⟩)
        dsimp only [Pt.U, Pt.locs, Pt.cells, Pt.slots] at X231 l231 y231 z231 st231 hQ231
        subst l231 y231 z231
        obtain ⟨v232, rfl, N231q, eh231, qp233⟩ := hQ231
        have N231 := Fr.app N226 N231q
        refine Go.via (fun _ kQ => st231.trans kQ) ?_
        have e231 : T231.heap = h226 := eh231
        show Go p e below (T231.setTop (mkF m 434 #[.val (.int x1), .val (.int y1), .val (.int z1), .val (.int w1), .val (.int s_), .val (.long fq), .second, .val (.int (1 : Int32)), .val (.int f0), .val (.int f1), .val (.int f2), .val (.int lo), .val (.int hi), .val (.int mid), .val (.ref b191), .val (.ref b197), .val (.ref b206), .val (.int sel), .val (.int q), .val (.int (0 : Int32))] [(.int v232)])) _
        refine Go.via (fun _ => XS.iload X231.here hx rfl (hb hby at_434) rfl) ?_
        refine Go.via (fun _ => XS.icmpNo X231.here hx rfl (hb hby at_436) rfl (teq (((own_f1 qp233 ).2 (by assumption)) : v232 = (0 : Int32))).2) ?_
        show Go p e below (T231.setTop (mkF m 439 #[.val (.int x1), .val (.int y1), .val (.int z1), .val (.int w1), .val (.int s_), .val (.long fq), .second, .val (.int (1 : Int32)), .val (.int f0), .val (.int f1), .val (.int f2), .val (.int lo), .val (.int hi), .val (.int mid), .val (.ref b191), .val (.ref b197), .val (.ref b206), .val (.int sel), .val (.int q), .val (.int (0 : Int32))] [])) _
        refine Go.via (fun _ => XS.iconst X231.here hx rfl (hb hby at_439)) ?_
        refine Go.via (fun _ => XS.goto X231.here hx rfl (pc0 := 440) (pc' := 444) rfl (hb hby at_440) (by decide) (by decide)) ?_
        exact Go.fin X231 hlk (v := some (.int (1 : Int32))) (fun h => by rw [Bd.returns] at h; cases h) (fun fs hr => retN X231 hx (t := .boolean) Bd.returns (by simp) (hb hby at_444) hr) (by rw [e231]; exact ⟨rfl, N231, k226⟩) (by decide) (by decide)
    refine Go.via (fun _ => XS.iload X218.here hx rfl (hb hby at_249) rfl) ?_
    refine Go.via (fun _ => XS.bipush X218.here hx rfl (hb hby at_251)) ?_
    refine Go.via (fun _ => XS.iand X218.here hx rfl (hb hby at_253) rfl) ?_
    show Go p e below (T218.setTop (mkF m 254 #[.val (.int x1), .val (.int y1), .val (.int z1), .val (.int w1), .val (.int s_), .val (.long fq), .second, .val (.int (1 : Int32)), .val (.int f0), .val (.int f1), .val (.int f2), .val (.int lo), .val (.int hi), .val (.int mid), .val (.ref b191), .val (.ref b197), .val (.ref b206), .unset, .unset, .unset] [(.int (s_ &&& (7 : Int32)))])) _
    generalize hsel : (s_ &&& (7 : Int32)) = sel
    show Go p e below (T218.setTop (mkF m 254 #[.val (.int x1), .val (.int y1), .val (.int z1), .val (.int w1), .val (.int s_), .val (.long fq), .second, .val (.int (1 : Int32)), .val (.int f0), .val (.int f1), .val (.int f2), .val (.int lo), .val (.int hi), .val (.int mid), .val (.ref b191), .val (.ref b197), .val (.ref b206), .unset, .unset, .unset] [(.int sel)])) _
    refine Go.via (fun _ => XS.istore X218.here hx rfl (hb hby at_254) rfl (l' := #[.val (.int x1), .val (.int y1), .val (.int z1), .val (.int w1), .val (.int s_), .val (.long fq), .second, .val (.int (1 : Int32)), .val (.int f0), .val (.int f1), .val (.int f2), .val (.int lo), .val (.int hi), .val (.int mid), .val (.ref b191), .val (.ref b197), .val (.ref b206), .val (.int sel), .unset, .unset]) rfl) ?_
    show Go p e below (T218.setTop (mkF m 256 #[.val (.int x1), .val (.int y1), .val (.int z1), .val (.int w1), .val (.int s_), .val (.long fq), .second, .val (.int (1 : Int32)), .val (.int f0), .val (.int f1), .val (.int f2), .val (.int lo), .val (.int hi), .val (.int mid), .val (.ref b191), .val (.ref b197), .val (.ref b206), .val (.int sel), .unset, .unset] [])) _
    refine Go.via (fun _ => XS.iload X218.here hx rfl (hb hby at_256) rfl) ?_
    by_cases hc234 : sel = (0 : Int32)
    · refine Go.via (fun _ => XS.ifNo X218.here hx rfl (hb hby at_258) rfl ((if0 _ _).trans (teq (hc234 : sel = (0 : Int32))).2)) ?_
      refine Go.via (fun _ => XS.iloadN X218.here hx rfl (hb hby at_261) rfl) ?_
      refine Go.via (fun _ => XS.istore X218.here hx rfl (hb hby at_262) rfl (l' := #[.val (.int x1), .val (.int y1), .val (.int z1), .val (.int w1), .val (.int s_), .val (.long fq), .second, .val (.int (1 : Int32)), .val (.int f0), .val (.int f1), .val (.int f2), .val (.int lo), .val (.int hi), .val (.int mid), .val (.ref b191), .val (.ref b197), .val (.ref b206), .val (.int sel), .val (.int x1), .unset]) rfl) ?_
      show Go p e below (T218.setTop (mkF m 264 #[.val (.int x1), .val (.int y1), .val (.int z1), .val (.int w1), .val (.int s_), .val (.long fq), .second, .val (.int (1 : Int32)), .val (.int f0), .val (.int f1), .val (.int f2), .val (.int lo), .val (.int hi), .val (.int mid), .val (.ref b191), .val (.ref b197), .val (.ref b206), .val (.int sel), .val (.int x1), .unset] [])) _
      refine Go.via (fun _ => XS.goto X218.here hx rfl (pc0 := 264) (pc' := 355) rfl (hb hby at_264) (by decide) (by decide)) ?_
      have f235 : Ia Z T218.heap b191 .int [x1] := ((f210.ext E206).keep K218q (ninS ne209 nin0))
      have f236 : Ia Z T218.heap b197 .int [f0] := (f217.keep K218q (ninS ne211 nin0))
      have z237 : n0 ≤ T218.heap.size := (Nat.le_trans z219 K218q.1)
      have k238 : Keep h0 T218.heap [] := ((k207.ext E206).trans K218q (allS (Or.inr sz213) all0))
      exact J1 T218 _ T218.heap x1 sel X218 e218 N218 z237 k238 f223 f224 f225 f235 f236
    · refine Go.via (fun _ => XS.ifYes X218.here hx rfl (pc0 := 258) (pc' := 267) rfl (hb hby at_258) rfl ((if0 _ _).trans (feq (hc234 : ¬ (sel = (0 : Int32)))).2) (by decide) (by decide)) ?_
      refine Go.via (fun _ => XS.iload X218.here hx rfl (hb hby at_267) rfl) ?_
      refine Go.via (fun _ => XS.iconst X218.here hx rfl (hb hby at_269)) ?_
      by_cases hc239 : sel = (1 : Int32)
      · refine Go.via (fun _ => XS.icmpNo X218.here hx rfl (hb hby at_270) rfl (teq (hc239 : sel = (1 : Int32))).2) ?_
        refine Go.via (fun _ => XS.iloadN X218.here hx rfl (hb hby at_273) rfl) ?_
        show Go p e below (T218.setTop (mkF m 274 #[.val (.int x1), .val (.int y1), .val (.int z1), .val (.int w1), .val (.int s_), .val (.long fq), .second, .val (.int (1 : Int32)), .val (.int f0), .val (.int f1), .val (.int f2), .val (.int lo), .val (.int hi), .val (.int mid), .val (.ref b191), .val (.ref b197), .val (.ref b206), .val (.int sel), .unset, .unset] [(.int y1)])) _
        refine Go.via (fun _ => XS.istore X218.here hx rfl (hb hby at_274) rfl (l' := #[.val (.int x1), .val (.int y1), .val (.int z1), .val (.int w1), .val (.int s_), .val (.long fq), .second, .val (.int (1 : Int32)), .val (.int f0), .val (.int f1), .val (.int f2), .val (.int lo), .val (.int hi), .val (.int mid), .val (.ref b191), .val (.ref b197), .val (.ref b206), .val (.int sel), .val (.int y1), .unset]) rfl) ?_
        show Go p e below (T218.setTop (mkF m 276 #[.val (.int x1), .val (.int y1), .val (.int z1), .val (.int w1), .val (.int s_), .val (.long fq), .second, .val (.int (1 : Int32)), .val (.int f0), .val (.int f1), .val (.int f2), .val (.int lo), .val (.int hi), .val (.int mid), .val (.ref b191), .val (.ref b197), .val (.ref b206), .val (.int sel), .val (.int y1), .unset] [])) _
        refine Go.via (fun _ => XS.goto X218.here hx rfl (pc0 := 276) (pc' := 355) rfl (hb hby at_276) (by decide) (by decide)) ?_
        have f240 : Ia Z T218.heap b191 .int [x1] := ((f210.ext E206).keep K218q (ninS ne209 nin0))
        have f241 : Ia Z T218.heap b197 .int [f0] := (f217.keep K218q (ninS ne211 nin0))
        have z242 : n0 ≤ T218.heap.size := (Nat.le_trans z219 K218q.1)
        have k243 : Keep h0 T218.heap [] := ((k207.ext E206).trans K218q (allS (Or.inr sz213) all0))
        exact J1 T218 _ T218.heap y1 sel X218 e218 N218 z242 k243 f223 f224 f225 f240 f241
      · refine Go.via (fun _ => XS.icmpYes X218.here hx rfl (pc0 := 270) (pc' := 279) rfl (hb hby at_270) rfl (feq (hc239 : ¬ (sel = (1 : Int32)))).2 (by decide) (by decide)) ?_
        refine Go.via (fun _ => XS.iload X218.here hx rfl (hb hby at_279) rfl) ?_
        show Go p e below (T218.setTop (mkF m 281 #[.val (.int x1), .val (.int y1), .val (.int z1), .val (.int w1), .val (.int s_), .val (.long fq), .second, .val (.int (1 : Int32)), .val (.int f0), .val (.int f1), .val (.int f2), .val (.int lo), .val (.int hi), .val (.int mid), .val (.ref b191), .val (.ref b197), .val (.ref b206), .val (.int sel), .unset, .unset] [(.int sel)])) _
        refine Go.via (fun _ => XS.iconst X218.here hx rfl (hb hby at_281)) ?_
        by_cases hc244 : sel = (2 : Int32)
        · refine Go.via (fun _ => XS.icmpNo X218.here hx rfl (hb hby at_282) rfl (teq (hc244 : sel = (2 : Int32))).2) ?_
          refine Go.via (fun _ => XS.iloadN X218.here hx rfl (hb hby at_285) rfl) ?_
          refine Go.via (fun _ => XS.istore X218.here hx rfl (hb hby at_286) rfl (l' := #[.val (.int x1), .val (.int y1), .val (.int z1), .val (.int w1), .val (.int s_), .val (.long fq), .second, .val (.int (1 : Int32)), .val (.int f0), .val (.int f1), .val (.int f2), .val (.int lo), .val (.int hi), .val (.int mid), .val (.ref b191), .val (.ref b197), .val (.ref b206), .val (.int sel), .val (.int z1), .unset]) rfl) ?_
          show Go p e below (T218.setTop (mkF m 288 #[.val (.int x1), .val (.int y1), .val (.int z1), .val (.int w1), .val (.int s_), .val (.long fq), .second, .val (.int (1 : Int32)), .val (.int f0), .val (.int f1), .val (.int f2), .val (.int lo), .val (.int hi), .val (.int mid), .val (.ref b191), .val (.ref b197), .val (.ref b206), .val (.int sel), .val (.int z1), .unset] [])) _
          refine Go.via (fun _ => XS.goto X218.here hx rfl (pc0 := 288) (pc' := 355) rfl (hb hby at_288) (by decide) (by decide)) ?_
          have f245 : Ia Z T218.heap b191 .int [x1] := ((f210.ext E206).keep K218q (ninS ne209 nin0))
          have f246 : Ia Z T218.heap b197 .int [f0] := (f217.keep K218q (ninS ne211 nin0))
          have z247 : n0 ≤ T218.heap.size := (Nat.le_trans z219 K218q.1)
          have k248 : Keep h0 T218.heap [] := ((k207.ext E206).trans K218q (allS (Or.inr sz213) all0))
          exact J1 T218 _ T218.heap z1 sel X218 e218 N218 z247 k248 f223 f224 f225 f245 f246
        · refine Go.via (fun _ => XS.icmpYes X218.here hx rfl (pc0 := 282) (pc' := 291) rfl (hb hby at_282) rfl (feq (hc244 : ¬ (sel = (2 : Int32)))).2 (by decide) (by decide)) ?_
          refine Go.via (fun _ => XS.iload X218.here hx rfl (hb hby at_291) rfl) ?_
          refine Go.via (fun _ => XS.iconst X218.here hx rfl (hb hby at_293)) ?_
          by_cases hc249 : sel = (3 : Int32)
          · refine Go.via (fun _ => XS.icmpNo X218.here hx rfl (hb hby at_294) rfl (teq (hc249 : sel = (3 : Int32))).2) ?_
            refine Go.via (fun _ => XS.iloadN X218.here hx rfl (hb hby at_297) rfl) ?_
            show Go p e below (T218.setTop (mkF m 298 #[.val (.int x1), .val (.int y1), .val (.int z1), .val (.int w1), .val (.int s_), .val (.long fq), .second, .val (.int (1 : Int32)), .val (.int f0), .val (.int f1), .val (.int f2), .val (.int lo), .val (.int hi), .val (.int mid), .val (.ref b191), .val (.ref b197), .val (.ref b206), .val (.int sel), .unset, .unset] [(.int w1)])) _
            refine Go.via (fun _ => XS.istore X218.here hx rfl (hb hby at_298) rfl (l' := #[.val (.int x1), .val (.int y1), .val (.int z1), .val (.int w1), .val (.int s_), .val (.long fq), .second, .val (.int (1 : Int32)), .val (.int f0), .val (.int f1), .val (.int f2), .val (.int lo), .val (.int hi), .val (.int mid), .val (.ref b191), .val (.ref b197), .val (.ref b206), .val (.int sel), .val (.int w1), .unset]) rfl) ?_
            show Go p e below (T218.setTop (mkF m 300 #[.val (.int x1), .val (.int y1), .val (.int z1), .val (.int w1), .val (.int s_), .val (.long fq), .second, .val (.int (1 : Int32)), .val (.int f0), .val (.int f1), .val (.int f2), .val (.int lo), .val (.int hi), .val (.int mid), .val (.ref b191), .val (.ref b197), .val (.ref b206), .val (.int sel), .val (.int w1), .unset] [])) _
            refine Go.via (fun _ => XS.goto X218.here hx rfl (pc0 := 300) (pc' := 355) rfl (hb hby at_300) (by decide) (by decide)) ?_
            have f250 : Ia Z T218.heap b191 .int [x1] := ((f210.ext E206).keep K218q (ninS ne209 nin0))
            have f251 : Ia Z T218.heap b197 .int [f0] := (f217.keep K218q (ninS ne211 nin0))
            have z252 : n0 ≤ T218.heap.size := (Nat.le_trans z219 K218q.1)
            have k253 : Keep h0 T218.heap [] := ((k207.ext E206).trans K218q (allS (Or.inr sz213) all0))
            exact J1 T218 _ T218.heap w1 sel X218 e218 N218 z252 k253 f223 f224 f225 f250 f251
          · refine Go.via (fun _ => XS.icmpYes X218.here hx rfl (pc0 := 294) (pc' := 303) rfl (hb hby at_294) rfl (feq (hc249 : ¬ (sel = (3 : Int32)))).2 (by decide) (by decide)) ?_
            refine Go.via (fun _ => XS.iload X218.here hx rfl (hb hby at_303) rfl) ?_
            show Go p e below (T218.setTop (mkF m 305 #[.val (.int x1), .val (.int y1), .val (.int z1), .val (.int w1), .val (.int s_), .val (.long fq), .second, .val (.int (1 : Int32)), .val (.int f0), .val (.int f1), .val (.int f2), .val (.int lo), .val (.int hi), .val (.int mid), .val (.ref b191), .val (.ref b197), .val (.ref b206), .val (.int sel), .unset, .unset] [(.int sel)])) _
            refine Go.via (fun _ => XS.iconst X218.here hx rfl (hb hby at_305)) ?_
            by_cases hc254 : sel = (4 : Int32)
            · refine Go.via (fun _ => XS.icmpNo X218.here hx rfl (hb hby at_306) rfl (teq (hc254 : sel = (4 : Int32))).2) ?_
              refine Go.via (fun _ => XS.iload X218.here hx rfl (hb hby at_309) rfl) ?_
              refine Go.via (fun _ => XS.iconst X218.here hx rfl (hb hby at_311)) ?_
              refine Go.via (fun _ => XS.isub X218.here hx rfl (hb hby at_312) rfl) ?_
              show Go p e below (T218.setTop (mkF m 313 #[.val (.int x1), .val (.int y1), .val (.int z1), .val (.int w1), .val (.int s_), .val (.long fq), .second, .val (.int (1 : Int32)), .val (.int f0), .val (.int f1), .val (.int f2), .val (.int lo), .val (.int hi), .val (.int mid), .val (.ref b191), .val (.ref b197), .val (.ref b206), .val (.int sel), .unset, .unset] [(.int (lo - (1 : Int32)))])) _
              refine Go.via (fun _ => XS.istore X218.here hx rfl (hb hby at_313) rfl (l' := #[.val (.int x1), .val (.int y1), .val (.int z1), .val (.int w1), .val (.int s_), .val (.long fq), .second, .val (.int (1 : Int32)), .val (.int f0), .val (.int f1), .val (.int f2), .val (.int lo), .val (.int hi), .val (.int mid), .val (.ref b191), .val (.ref b197), .val (.ref b206), .val (.int sel), .val (.int (lo - (1 : Int32))), .unset]) rfl) ?_
              show Go p e below (T218.setTop (mkF m 315 #[.val (.int x1), .val (.int y1), .val (.int z1), .val (.int w1), .val (.int s_), .val (.long fq), .second, .val (.int (1 : Int32)), .val (.int f0), .val (.int f1), .val (.int f2), .val (.int lo), .val (.int hi), .val (.int mid), .val (.ref b191), .val (.ref b197), .val (.ref b206), .val (.int sel), .val (.int (lo - (1 : Int32))), .unset] [])) _
              refine Go.via (fun _ => XS.goto X218.here hx rfl (pc0 := 315) (pc' := 355) rfl (hb hby at_315) (by decide) (by decide)) ?_
              have f255 : Ia Z T218.heap b191 .int [x1] := ((f210.ext E206).keep K218q (ninS ne209 nin0))
              have f256 : Ia Z T218.heap b197 .int [f0] := (f217.keep K218q (ninS ne211 nin0))
              have z257 : n0 ≤ T218.heap.size := (Nat.le_trans z219 K218q.1)
              have k258 : Keep h0 T218.heap [] := ((k207.ext E206).trans K218q (allS (Or.inr sz213) all0))
              exact J1 T218 _ T218.heap (lo - (1 : Int32)) sel X218 e218 N218 z257 k258 f223 f224 f225 f255 f256
            · refine Go.via (fun _ => XS.icmpYes X218.here hx rfl (pc0 := 306) (pc' := 318) rfl (hb hby at_306) rfl (feq (hc254 : ¬ (sel = (4 : Int32)))).2 (by decide) (by decide)) ?_
              refine Go.via (fun _ => XS.iload X218.here hx rfl (hb hby at_318) rfl) ?_
              refine Go.via (fun _ => XS.iconst X218.here hx rfl (hb hby at_320)) ?_
              by_cases hc259 : sel = (5 : Int32)
              · refine Go.via (fun _ => XS.icmpNo X218.here hx rfl (hb hby at_321) rfl (teq (hc259 : sel = (5 : Int32))).2) ?_
                refine Go.via (fun _ => XS.iload X218.here hx rfl (hb hby at_324) rfl) ?_
                show Go p e below (T218.setTop (mkF m 326 #[.val (.int x1), .val (.int y1), .val (.int z1), .val (.int w1), .val (.int s_), .val (.long fq), .second, .val (.int (1 : Int32)), .val (.int f0), .val (.int f1), .val (.int f2), .val (.int lo), .val (.int hi), .val (.int mid), .val (.ref b191), .val (.ref b197), .val (.ref b206), .val (.int sel), .unset, .unset] [(.int hi)])) _
                refine Go.via (fun _ => XS.iconst X218.here hx rfl (hb hby at_326)) ?_
                refine Go.via (fun _ => XS.iadd X218.here hx rfl (hb hby at_327) rfl) ?_
                show Go p e below (T218.setTop (mkF m 328 #[.val (.int x1), .val (.int y1), .val (.int z1), .val (.int w1), .val (.int s_), .val (.long fq), .second, .val (.int (1 : Int32)), .val (.int f0), .val (.int f1), .val (.int f2), .val (.int lo), .val (.int hi), .val (.int mid), .val (.ref b191), .val (.ref b197), .val (.ref b206), .val (.int sel), .unset, .unset] [(.int (hi + (1 : Int32)))])) _
                refine Go.via (fun _ => XS.istore X218.here hx rfl (hb hby at_328) rfl (l' := #[.val (.int x1), .val (.int y1), .val (.int z1), .val (.int w1), .val (.int s_), .val (.long fq), .second, .val (.int (1 : Int32)), .val (.int f0), .val (.int f1), .val (.int f2), .val (.int lo), .val (.int hi), .val (.int mid), .val (.ref b191), .val (.ref b197), .val (.ref b206), .val (.int sel), .val (.int (hi + (1 : Int32))), .unset]) rfl) ?_
                show Go p e below (T218.setTop (mkF m 330 #[.val (.int x1), .val (.int y1), .val (.int z1), .val (.int w1), .val (.int s_), .val (.long fq), .second, .val (.int (1 : Int32)), .val (.int f0), .val (.int f1), .val (.int f2), .val (.int lo), .val (.int hi), .val (.int mid), .val (.ref b191), .val (.ref b197), .val (.ref b206), .val (.int sel), .val (.int (hi + (1 : Int32))), .unset] [])) _
                refine Go.via (fun _ => XS.goto X218.here hx rfl (pc0 := 330) (pc' := 355) rfl (hb hby at_330) (by decide) (by decide)) ?_
                have f260 : Ia Z T218.heap b191 .int [x1] := ((f210.ext E206).keep K218q (ninS ne209 nin0))
                have f261 : Ia Z T218.heap b197 .int [f0] := (f217.keep K218q (ninS ne211 nin0))
                have z262 : n0 ≤ T218.heap.size := (Nat.le_trans z219 K218q.1)
                have k263 : Keep h0 T218.heap [] := ((k207.ext E206).trans K218q (allS (Or.inr sz213) all0))
                exact J1 T218 _ T218.heap (hi + (1 : Int32)) sel X218 e218 N218 z262 k263 f223 f224 f225 f260 f261
              · refine Go.via (fun _ => XS.icmpYes X218.here hx rfl (pc0 := 321) (pc' := 333) rfl (hb hby at_321) rfl (feq (hc259 : ¬ (sel = (5 : Int32)))).2 (by decide) (by decide)) ?_
                refine Go.via (fun _ => XS.iload X218.here hx rfl (hb hby at_333) rfl) ?_
                show Go p e below (T218.setTop (mkF m 335 #[.val (.int x1), .val (.int y1), .val (.int z1), .val (.int w1), .val (.int s_), .val (.long fq), .second, .val (.int (1 : Int32)), .val (.int f0), .val (.int f1), .val (.int f2), .val (.int lo), .val (.int hi), .val (.int mid), .val (.ref b191), .val (.ref b197), .val (.ref b206), .val (.int sel), .unset, .unset] [(.int sel)])) _
                refine Go.via (fun _ => XS.bipush X218.here hx rfl (hb hby at_335)) ?_
                by_cases hc264 : sel = (6 : Int32)
                · refine Go.via (fun _ => XS.icmpNo X218.here hx rfl (hb hby at_337) rfl (teq (hc264 : sel = (6 : Int32))).2) ?_
                  refine Go.via (fun _ => XS.iload X218.here hx rfl (hb hby at_340) rfl) ?_
                  refine Go.via (fun _ => XS.iconst X218.here hx rfl (hb hby at_342)) ?_
                  refine Go.via (fun _ => XS.isub X218.here hx rfl (hb hby at_343) rfl) ?_
                  show Go p e below (T218.setTop (mkF m 344 #[.val (.int x1), .val (.int y1), .val (.int z1), .val (.int w1), .val (.int s_), .val (.long fq), .second, .val (.int (1 : Int32)), .val (.int f0), .val (.int f1), .val (.int f2), .val (.int lo), .val (.int hi), .val (.int mid), .val (.ref b191), .val (.ref b197), .val (.ref b206), .val (.int sel), .unset, .unset] [(.int (mid - (1 : Int32)))])) _
                  refine Go.via (fun _ => XS.istore X218.here hx rfl (hb hby at_344) rfl (l' := #[.val (.int x1), .val (.int y1), .val (.int z1), .val (.int w1), .val (.int s_), .val (.long fq), .second, .val (.int (1 : Int32)), .val (.int f0), .val (.int f1), .val (.int f2), .val (.int lo), .val (.int hi), .val (.int mid), .val (.ref b191), .val (.ref b197), .val (.ref b206), .val (.int sel), .val (.int (mid - (1 : Int32))), .unset]) rfl) ?_
                  show Go p e below (T218.setTop (mkF m 346 #[.val (.int x1), .val (.int y1), .val (.int z1), .val (.int w1), .val (.int s_), .val (.long fq), .second, .val (.int (1 : Int32)), .val (.int f0), .val (.int f1), .val (.int f2), .val (.int lo), .val (.int hi), .val (.int mid), .val (.ref b191), .val (.ref b197), .val (.ref b206), .val (.int sel), .val (.int (mid - (1 : Int32))), .unset] [])) _
                  refine Go.via (fun _ => XS.goto X218.here hx rfl (pc0 := 346) (pc' := 355) rfl (hb hby at_346) (by decide) (by decide)) ?_
                  have f265 : Ia Z T218.heap b191 .int [x1] := ((f210.ext E206).keep K218q (ninS ne209 nin0))
                  have f266 : Ia Z T218.heap b197 .int [f0] := (f217.keep K218q (ninS ne211 nin0))
                  have z267 : n0 ≤ T218.heap.size := (Nat.le_trans z219 K218q.1)
                  have k268 : Keep h0 T218.heap [] := ((k207.ext E206).trans K218q (allS (Or.inr sz213) all0))
                  exact J1 T218 _ T218.heap (mid - (1 : Int32)) sel X218 e218 N218 z267 k268 f223 f224 f225 f265 f266
                · refine Go.via (fun _ => XS.icmpYes X218.here hx rfl (pc0 := 337) (pc' := 349) rfl (hb hby at_337) rfl (feq (hc264 : ¬ (sel = (6 : Int32)))).2 (by decide) (by decide)) ?_
                  refine Go.via (fun _ => XS.iload X218.here hx rfl (hb hby at_349) rfl) ?_
                  refine Go.via (fun _ => XS.iconst X218.here hx rfl (hb hby at_351)) ?_
                  refine Go.via (fun _ => XS.iadd X218.here hx rfl (hb hby at_352) rfl) ?_
                  show Go p e below (T218.setTop (mkF m 353 #[.val (.int x1), .val (.int y1), .val (.int z1), .val (.int w1), .val (.int s_), .val (.long fq), .second, .val (.int (1 : Int32)), .val (.int f0), .val (.int f1), .val (.int f2), .val (.int lo), .val (.int hi), .val (.int mid), .val (.ref b191), .val (.ref b197), .val (.ref b206), .val (.int sel), .unset, .unset] [(.int (mid + (1 : Int32)))])) _
                  refine Go.via (fun _ => XS.istore X218.here hx rfl (hb hby at_353) rfl (l' := #[.val (.int x1), .val (.int y1), .val (.int z1), .val (.int w1), .val (.int s_), .val (.long fq), .second, .val (.int (1 : Int32)), .val (.int f0), .val (.int f1), .val (.int f2), .val (.int lo), .val (.int hi), .val (.int mid), .val (.ref b191), .val (.ref b197), .val (.ref b206), .val (.int sel), .val (.int (mid + (1 : Int32))), .unset]) rfl) ?_
                  have f269 : Ia Z T218.heap b191 .int [x1] := ((f210.ext E206).keep K218q (ninS ne209 nin0))
                  have f270 : Ia Z T218.heap b197 .int [f0] := (f217.keep K218q (ninS ne211 nin0))
                  have z271 : n0 ≤ T218.heap.size := (Nat.le_trans z219 K218q.1)
                  have k272 : Keep h0 T218.heap [] := ((k207.ext E206).trans K218q (allS (Or.inr sz213) all0))
                  exact J1 T218 _ T218.heap (mid + (1 : Int32)) sel X218 e218 N218 z271 k272 f223 f224 f225 f269 f270
  · show Go p e below (T116.setTop (mkF m 82 #[.val (.int x1), .val (.int y1), .val (.int z1), .val (.int w1), .val (.int s_), .val (.long fq), .second, .val (.int (2 : Int32)), .val (.int f0), .val (.int f1), .val (.int f2), .val (.int lo), .val (.int hi), .val (.int mid), .unset, .unset, .unset, .unset, .unset, .unset] [])) _
    refine Go.via (fun _ => XS.iload X116.here hx rfl (hb hby at_82) rfl) ?_
    refine Go.via (fun _ => XS.ifYes X116.here hx rfl (pc0 := 84) (pc' := 100) rfl (hb hby at_84) rfl ((if0 _ _).trans (feq ((by decide) : ¬ ((2 : Int32) = (0 : Int32)))).2) (by decide) (by decide)) ?_
    show Go p e below (T116.setTop (mkF m 100 #[.val (.int x1), .val (.int y1), .val (.int z1), .val (.int w1), .val (.int s_), .val (.long fq), .second, .val (.int (2 : Int32)), .val (.int f0), .val (.int f1), .val (.int f2), .val (.int lo), .val (.int hi), .val (.int mid), .unset, .unset, .unset, .unset, .unset, .unset] [])) _
    refine Go.via (fun _ => XS.iload X116.here hx rfl (hb hby at_100) rfl) ?_
    refine Go.via (fun _ => XS.iconst X116.here hx rfl (hb hby at_102)) ?_
    refine Go.via (fun _ => XS.icmpYes X116.here hx rfl (pc0 := 103) (pc' := 128) rfl (hb hby at_103) rfl (feq ((by decide) : ¬ ((2 : Int32) = (1 : Int32)))).2 (by decide) (by decide)) ?_
    show Go p e below (T116.setTop (mkF m 128 #[.val (.int x1), .val (.int y1), .val (.int z1), .val (.int w1), .val (.int s_), .val (.long fq), .second, .val (.int (2 : Int32)), .val (.int f0), .val (.int f1), .val (.int f2), .val (.int lo), .val (.int hi), .val (.int mid), .unset, .unset, .unset, .unset, .unset, .unset] [])) _
    refine Go.via (fun _ => XS.iload X116.here hx rfl (hb hby at_128) rfl) ?_
    refine Go.via (fun _ => XS.iconst X116.here hx rfl (hb hby at_130)) ?_
    refine Go.via (fun _ => XS.icmpNo X116.here hx rfl (hb hby at_131) rfl (teq ((by decide) : (2 : Int32) = (2 : Int32))).2) ?_
    show Go p e below (T116.setTop (mkF m 134 #[.val (.int x1), .val (.int y1), .val (.int z1), .val (.int w1), .val (.int s_), .val (.long fq), .second, .val (.int (2 : Int32)), .val (.int f0), .val (.int f1), .val (.int f2), .val (.int lo), .val (.int hi), .val (.int mid), .unset, .unset, .unset, .unset, .unset, .unset] [])) _
    refine Go.via (fun _ => XS.iloadN X116.here hx rfl (hb hby at_134) rfl) ?_
    refine Go.via (fun _ => XS.iloadN X116.here hx rfl (hb hby at_135) rfl) ?_
    by_cases hc273 : x1 = y1
    · refine Go.via (fun _ => XS.icmpNo X116.here hx rfl (hb hby at_136) rfl (teq (hc273 : x1 = y1)).2) ?_
      refine Go.via (fun _ => XS.iconst X116.here hx rfl (hb hby at_139)) ?_
      exact Go.fin X116 hlk (v := some (.int (1 : Int32))) (fun h => by rw [Bd.returns] at h; cases h) (fun fs hr => retN X116 hx (t := .boolean) Bd.returns (by simp) (hb hby at_140) hr) (by rw [e116]; exact ⟨rfl, N116, (Keep.refl h0 [])⟩) (by decide) (by decide)
    · refine Go.via (fun _ => XS.icmpYes X116.here hx rfl (pc0 := 136) (pc' := 141) rfl (hb hby at_136) rfl (feq (hc273 : ¬ (x1 = y1))).2 (by decide) (by decide)) ?_
      refine Go.via (fun _ => XS.iconst X116.here hx rfl (hb hby at_141)) ?_
      obtain ⟨T274, h274, k274, X274, e274, E274, A274, B274, st274⟩ := newPE X116 hx hZ (tw hw 8 rfl) e116 (g := (mkF m 142 #[.val (.int x1), .val (.int y1), .val (.int z1), .val (.int w1), .val (.int s_), .val (.long fq), .second, .val (.int (2 : Int32)), .val (.int f0), .val (.int f1), .val (.int f2), .val (.int lo), .val (.int hi), .val (.int mid), .unset, .unset, .unset, .unset, .unset, .unset] [(.int (2 : Int32))])) rfl (hb hby at_142) rfl (by decide) (cap := 2) (by decide) (by decide) (by decide) (by decide) (ad := "[I") (by decide)
      obtain ⟨b274, g274⟩ : ∃ z, z = h0.size := ⟨_, rfl⟩
      rw [← g274] at A274 B274 st274
      have ge275 : n0 ≤ b274 := Nat.le_trans Z0 (Nat.le_of_eq g274.symm)
      have sz276 : h0.size ≤ b274 := Nat.le_trans (Keep.refl h0 []).1 (Nat.le_of_eq g274.symm)
      refine Go.via (st274) ?_
      have f277 : Ia Z h274 b274 .int [(0 : Int32), (0 : Int32)] := Ia.new A274 rfl
      show Go p e below (T274.setTop (mkF m 144 #[.val (.int x1), .val (.int y1), .val (.int z1), .val (.int w1), .val (.int s_), .val (.long fq), .second, .val (.int (2 : Int32)), .val (.int f0), .val (.int f1), .val (.int f2), .val (.int lo), .val (.int hi), .val (.int mid), .unset, .unset, .unset, .unset, .unset, .unset] [(.ref b274)])) _
      refine Go.via (fun _ => XS.dup X274.here hx rfl (hb hby at_144) rfl rfl) ?_
      refine Go.via (fun _ => XS.iconst X274.here hx rfl (hb hby at_145)) ?_
      refine Go.via (fun _ => XS.iloadN X274.here hx rfl (hb hby at_146) rfl) ?_
      refine Go.via (fun _ => XS.iloadN X274.here hx rfl (hb hby at_147) rfl) ?_
      show Go p e below (T274.setTop (mkF m 148 #[.val (.int x1), .val (.int y1), .val (.int z1), .val (.int w1), .val (.int s_), .val (.long fq), .second, .val (.int (2 : Int32)), .val (.int f0), .val (.int f1), .val (.int f2), .val (.int lo), .val (.int hi), .val (.int mid), .unset, .unset, .unset, .unset, .unset, .unset] [(.int y1), (.int x1), (.int (0 : Int32)), (.ref b274), (.ref b274)])) _
      have z279 : n0 ≤ h274.size := (Nat.le_trans Z0 E274.1)
      obtain ⟨_, _, ⟨T278, L278, k278, n278⟩, -, X278, ⟨Lc278, hQ278, l278, y278, z278⟩, st278⟩ := Jvm.LawKit.callS X274 hx (y := (⟨"java/lang/Math", "min", "(II)I"⟩ : MethodName)) hown (mvT hZ (tw hw 1 rfl)) (mvT hZ (tw hw 2 rfl)) (mvT hZ (tw hw 3 rfl)) (mvT hZ (tw hw 4 rfl)) (by decide) (backOf (W := 3) (rmM l Z a0 hw [] x1 y1  h274 n0 z279) hZ (tw hw 4 rfl) (tw hw 3 rfl) (by decide) (by decide)) (g := (mkF m 148 #[.val (.int x1), .val (.int y1), .val (.int z1), .val (.int w1), .val (.int s_), .val (.long fq), .second, .val (.int (2 : Int32)), .val (.int f0), .val (.int f1), .val (.int f2), .val (.int lo), .val (.int hi), .val (.int mid), .unset, .unset, .unset, .unset, .unset, .unset] [(.int y1), (.int x1), (.int (0 : Int32)), (.ref b274), (.ref b274)])) rfl (by rw [hml]; rfl) (argsL := [(.int x1), (.int y1)]) (rest := [(.int (0 : Int32)), (.ref b274), (.ref b274)]) (lenOf pd__28II_29I rfl) rfl (by show 2 * 0 + _ ≤ _; exact Nat.le_of_eq rfl) (hb hby at_148) (fun _ _ => ⟨rfl, e274, (by decide : 1 + 0 ≤ _), (by decide : 2 + 0 ≤ _)⟩)
      dsimp only [Pt.U, Pt.locs, Pt.cells, Pt.slots] at X278 l278 y278 z278 st278 hQ278
      subst l278 y278 z278
      obtain ⟨rfl, N278q, eh278⟩ := hQ278
      have N278 := Fr.app N116 N278q
      refine Go.via (st278) ?_
      have e278 : T278.heap = h274 := eh278
      show Go p e below (T278.setTop (mkF m 151 #[.val (.int x1), .val (.int y1), .val (.int z1), .val (.int w1), .val (.int s_), .val (.long fq), .second, .val (.int (2 : Int32)), .val (.int f0), .val (.int f1), .val (.int f2), .val (.int lo), .val (.int hi), .val (.int mid), .unset, .unset, .unset, .unset, .unset, .unset] [(.int (if y1 < x1 then y1 else x1)), (.int (0 : Int32)), (.ref b274), (.ref b274)])) _
      obtain ⟨T280, h280, X280, e280, W280, V280, st280⟩ := stI' X278 hx hZ e278 f277 (j := (0 : Int32)) (by decide) (by first | decide | (simp only [List.length_cons, List.length_nil]; decide) | rfl) (g := (mkF m 151 #[.val (.int x1), .val (.int y1), .val (.int z1), .val (.int w1), .val (.int s_), .val (.long fq), .second, .val (.int (2 : Int32)), .val (.int f0), .val (.int f1), .val (.int f2), .val (.int lo), .val (.int hi), .val (.int mid), .unset, .unset, .unset, .unset, .unset, .unset] [(.int (if y1 < x1 then y1 else x1)), (.int (0 : Int32)), (.ref b274), (.ref b274)])) rfl rfl (hb hby at_151)
      refine Go.via (st280) ?_
      have N280 := Fr.snoc X280 N278 ge275
      have f281 : Ia Z h280 b274 .int [(if y1 < x1 then y1 else x1), (0 : Int32)] := V280
      show Go p e below (T280.setTop (mkF m 152 #[.val (.int x1), .val (.int y1), .val (.int z1), .val (.int w1), .val (.int s_), .val (.long fq), .second, .val (.int (2 : Int32)), .val (.int f0), .val (.int f1), .val (.int f2), .val (.int lo), .val (.int hi), .val (.int mid), .unset, .unset, .unset, .unset, .unset, .unset] [(.ref b274)])) _
      refine Go.via (fun _ => XS.dup X280.here hx rfl (hb hby at_152) rfl rfl) ?_
      refine Go.via (fun _ => XS.iconst X280.here hx rfl (hb hby at_153)) ?_
      refine Go.via (fun _ => XS.iloadN X280.here hx rfl (hb hby at_154) rfl) ?_
      refine Go.via (fun _ => XS.iloadN X280.here hx rfl (hb hby at_155) rfl) ?_
      show Go p e below (T280.setTop (mkF m 156 #[.val (.int x1), .val (.int y1), .val (.int z1), .val (.int w1), .val (.int s_), .val (.long fq), .second, .val (.int (2 : Int32)), .val (.int f0), .val (.int f1), .val (.int f2), .val (.int lo), .val (.int hi), .val (.int mid), .unset, .unset, .unset, .unset, .unset, .unset] [(.int y1), (.int x1), (.int (1 : Int32)), (.ref b274), (.ref b274)])) _
      have z283 : n0 ≤ h280.size := (Nat.le_trans z279 (Keep.of_wr W280).1)
      obtain ⟨_, _, ⟨T282, L282, k282, n282⟩, -, X282, ⟨Lc282, hQ282, l282, y282, z282⟩, st282⟩ := Jvm.LawKit.callS X280 hx (y := (⟨"java/lang/Math", "max", "(II)I"⟩ : MethodName)) hown (mvT hZ (tw hw 5 rfl)) (mvT hZ (tw hw 6 rfl)) (mvT hZ (tw hw 3 rfl)) (mvT hZ (tw hw 7 rfl)) (by decide) (backOf (W := 3) (rmX l Z a0 hw [] x1 y1  h280 n0 z283) hZ (tw hw 7 rfl) (tw hw 3 rfl) (by decide) (by decide)) (g := (mkF m 156 #[.val (.int x1), .val (.int y1), .val (.int z1), .val (.int w1), .val (.int s_), .val (.long fq), .second, .val (.int (2 : Int32)), .val (.int f0), .val (.int f1), .val (.int f2), .val (.int lo), .val (.int hi), .val (.int mid), .unset, .unset, .unset, .unset, .unset, .unset] [(.int y1), (.int x1), (.int (1 : Int32)), (.ref b274), (.ref b274)])) rfl (by rw [hml]; rfl) (argsL := [(.int x1), (.int y1)]) (rest := [(.int (1 : Int32)), (.ref b274), (.ref b274)]) (lenOf pd__28II_29I rfl) rfl (by show 2 * 0 + _ ≤ _; exact Nat.le_of_eq rfl) (hb hby at_156) (fun _ _ => ⟨rfl, e280, (by decide : 1 + 0 ≤ _), (by decide : 2 + 0 ≤ _)⟩)
      dsimp only [Pt.U, Pt.locs, Pt.cells, Pt.slots] at X282 l282 y282 z282 st282 hQ282
      subst l282 y282 z282
      obtain ⟨rfl, N282q, eh282⟩ := hQ282
      have N282 := Fr.app N280 N282q
      refine Go.via (st282) ?_
      have e282 : T282.heap = h280 := eh282
      show Go p e below (T282.setTop (mkF m 159 #[.val (.int x1), .val (.int y1), .val (.int z1), .val (.int w1), .val (.int s_), .val (.long fq), .second, .val (.int (2 : Int32)), .val (.int f0), .val (.int f1), .val (.int f2), .val (.int lo), .val (.int hi), .val (.int mid), .unset, .unset, .unset, .unset, .unset, .unset] [(.int (if x1 < y1 then y1 else x1)), (.int (1 : Int32)), (.ref b274), (.ref b274)])) _
      obtain ⟨T284, h284, X284, e284, W284, V284, st284⟩ := stI' X282 hx hZ e282 f281 (j := (1 : Int32)) (by decide) (by first | decide | (simp only [List.length_cons, List.length_nil]; decide) | rfl) (g := (mkF m 159 #[.val (.int x1), .val (.int y1), .val (.int z1), .val (.int w1), .val (.int s_), .val (.long fq), .second, .val (.int (2 : Int32)), .val (.int f0), .val (.int f1), .val (.int f2), .val (.int lo), .val (.int hi), .val (.int mid), .unset, .unset, .unset, .unset, .unset, .unset] [(.int (if x1 < y1 then y1 else x1)), (.int (1 : Int32)), (.ref b274), (.ref b274)])) rfl rfl (hb hby at_159)
      refine Go.via (st284) ?_
      have N284 := Fr.snoc X284 N282 ge275
      have f285 : Ia Z h284 b274 .int [(if y1 < x1 then y1 else x1), (if x1 < y1 then y1 else x1)] := V284
      show Go p e below (T284.setTop (mkF m 160 #[.val (.int x1), .val (.int y1), .val (.int z1), .val (.int w1), .val (.int s_), .val (.long fq), .second, .val (.int (2 : Int32)), .val (.int f0), .val (.int f1), .val (.int f2), .val (.int lo), .val (.int hi), .val (.int mid), .unset, .unset, .unset, .unset, .unset, .unset] [(.ref b274)])) _
      refine Go.via (fun _ => XS.astore X284.here hx rfl (hb hby at_160) rfl rfl (l' := #[.val (.int x1), .val (.int y1), .val (.int z1), .val (.int w1), .val (.int s_), .val (.long fq), .second, .val (.int (2 : Int32)), .val (.int f0), .val (.int f1), .val (.int f2), .val (.int lo), .val (.int hi), .val (.int mid), .val (.ref b274), .unset, .unset, .unset, .unset, .unset]) rfl) ?_
      show Go p e below (T284.setTop (mkF m 162 #[.val (.int x1), .val (.int y1), .val (.int z1), .val (.int w1), .val (.int s_), .val (.long fq), .second, .val (.int (2 : Int32)), .val (.int f0), .val (.int f1), .val (.int f2), .val (.int lo), .val (.int hi), .val (.int mid), .val (.ref b274), .unset, .unset, .unset, .unset, .unset] [])) _
      refine Go.via (fun _ => XS.iconst X284.here hx rfl (hb hby at_162)) ?_
      have k287 : Keep h0 h284 [] := ((((Keep.refl h0 []).ext E274).wr W280 (Or.inr sz276)).wr W284 (Or.inr sz276))
      have z288 : n0 ≤ h284.size := (Nat.le_trans z283 (Keep.of_wr W284).1)
      obtain ⟨T286, h286, k286, X286, e286, E286, A286, B286, st286⟩ := newPE X284 hx hZ (tw hw 8 rfl) e284 (g := (mkF m 163 #[.val (.int x1), .val (.int y1), .val (.int z1), .val (.int w1), .val (.int s_), .val (.long fq), .second, .val (.int (2 : Int32)), .val (.int f0), .val (.int f1), .val (.int f2), .val (.int lo), .val (.int hi), .val (.int mid), .val (.ref b274), .unset, .unset, .unset, .unset, .unset] [(.int (2 : Int32))])) rfl (hb hby at_163) rfl (by decide) (cap := 2) (by decide) (by decide) (by decide) (by decide) (ad := "[I") (by decide)
      obtain ⟨b286, g286⟩ : ∃ z, z = h284.size := ⟨_, rfl⟩
      rw [← g286] at A286 B286 st286
      have ne289 : b274 ≠ b286 := Nat.ne_of_lt (Nat.lt_of_lt_of_le f285.lt (Nat.le_of_eq g286.symm))
      have ge290 : n0 ≤ b286 := Nat.le_trans z288 (Nat.le_of_eq g286.symm)
      have sz291 : h0.size ≤ b286 := Nat.le_trans k287.1 (Nat.le_of_eq g286.symm)
      refine Go.via (st286) ?_
      have f292 : Ia Z h286 b286 .int [(0 : Int32), (0 : Int32)] := Ia.new A286 rfl
      show Go p e below (T286.setTop (mkF m 165 #[.val (.int x1), .val (.int y1), .val (.int z1), .val (.int w1), .val (.int s_), .val (.long fq), .second, .val (.int (2 : Int32)), .val (.int f0), .val (.int f1), .val (.int f2), .val (.int lo), .val (.int hi), .val (.int mid), .val (.ref b274), .unset, .unset, .unset, .unset, .unset] [(.ref b286)])) _
      refine Go.via (fun _ => XS.dup X286.here hx rfl (hb hby at_165) rfl rfl) ?_
      refine Go.via (fun _ => XS.iconst X286.here hx rfl (hb hby at_166)) ?_
      refine Go.via (fun _ => XS.iload X286.here hx rfl (hb hby at_167) rfl) ?_
      obtain ⟨T293, h293, X293, e293, W293, V293, st293⟩ := stI' X286 hx hZ e286 f292 (j := (0 : Int32)) (by decide) (by first | decide | (simp only [List.length_cons, List.length_nil]; decide) | rfl) (g := (mkF m 169 #[.val (.int x1), .val (.int y1), .val (.int z1), .val (.int w1), .val (.int s_), .val (.long fq), .second, .val (.int (2 : Int32)), .val (.int f0), .val (.int f1), .val (.int f2), .val (.int lo), .val (.int hi), .val (.int mid), .val (.ref b274), .unset, .unset, .unset, .unset, .unset] [(.int f0), (.int (0 : Int32)), (.ref b286), (.ref b286)])) rfl rfl (hb hby at_169)
      refine Go.via (st293) ?_
      have N293 := Fr.snoc X293 N284 ge290
      have f294 : Ia Z h293 b286 .int [f0, (0 : Int32)] := V293
      show Go p e below (T293.setTop (mkF m 170 #[.val (.int x1), .val (.int y1), .val (.int z1), .val (.int w1), .val (.int s_), .val (.long fq), .second, .val (.int (2 : Int32)), .val (.int f0), .val (.int f1), .val (.int f2), .val (.int lo), .val (.int hi), .val (.int mid), .val (.ref b274), .unset, .unset, .unset, .unset, .unset] [(.ref b286)])) _
      refine Go.via (fun _ => XS.dup X293.here hx rfl (hb hby at_170) rfl rfl) ?_
      refine Go.via (fun _ => XS.iconst X293.here hx rfl (hb hby at_171)) ?_
      refine Go.via (fun _ => XS.iload X293.here hx rfl (hb hby at_172) rfl) ?_
      obtain ⟨T295, h295, X295, e295, W295, V295, st295⟩ := stI' X293 hx hZ e293 f294 (j := (1 : Int32)) (by decide) (by first | decide | (simp only [List.length_cons, List.length_nil]; decide) | rfl) (g := (mkF m 174 #[.val (.int x1), .val (.int y1), .val (.int z1), .val (.int w1), .val (.int s_), .val (.long fq), .second, .val (.int (2 : Int32)), .val (.int f0), .val (.int f1), .val (.int f2), .val (.int lo), .val (.int hi), .val (.int mid), .val (.ref b274), .unset, .unset, .unset, .unset, .unset] [(.int f1), (.int (1 : Int32)), (.ref b286), (.ref b286)])) rfl rfl (hb hby at_174)
      refine Go.via (st295) ?_
      have N295 := Fr.snoc X295 N293 ge290
      have f296 : Ia Z h295 b286 .int [f0, f1] := V295
      show Go p e below (T295.setTop (mkF m 175 #[.val (.int x1), .val (.int y1), .val (.int z1), .val (.int w1), .val (.int s_), .val (.long fq), .second, .val (.int (2 : Int32)), .val (.int f0), .val (.int f1), .val (.int f2), .val (.int lo), .val (.int hi), .val (.int mid), .val (.ref b274), .unset, .unset, .unset, .unset, .unset] [(.ref b286)])) _
      refine Go.via (fun _ => XS.astore X295.here hx rfl (hb hby at_175) rfl rfl (l' := #[.val (.int x1), .val (.int y1), .val (.int z1), .val (.int w1), .val (.int s_), .val (.long fq), .second, .val (.int (2 : Int32)), .val (.int f0), .val (.int f1), .val (.int f2), .val (.int lo), .val (.int hi), .val (.int mid), .val (.ref b274), .val (.ref b286), .unset, .unset, .unset, .unset]) rfl) ?_
      show Go p e below (T295.setTop (mkF m 177 #[.val (.int x1), .val (.int y1), .val (.int z1), .val (.int w1), .val (.int s_), .val (.long fq), .second, .val (.int (2 : Int32)), .val (.int f0), .val (.int f1), .val (.int f2), .val (.int lo), .val (.int hi), .val (.int mid), .val (.ref b274), .val (.ref b286), .unset, .unset, .unset, .unset] [])) _
      refine Go.via (fun _ => XS.goto X295.here hx rfl (pc0 := 177) (pc' := 236) rfl (hb hby at_177) (by decide) (by decide)) ?_
      have k298 : Keep h0 h295 [] := (((k287.ext E286).wr W293 (Or.inr sz291)).wr W295 (Or.inr sz291))
      have z299 : n0 ≤ h295.size := (Nat.le_trans (Nat.le_trans (Nat.le_trans z288 E286.1) (Keep.of_wr W293).1) (Keep.of_wr W295).1)
      obtain ⟨T297, h297, X297, e297, E297, A297, D297, -, st297⟩ := newO X295 hx hZ hown (tw hw 9 rfl) (tw hw 10 rfl) (tw hw 11 rfl) e295 (g := (mkF m 236 #[.val (.int x1), .val (.int y1), .val (.int z1), .val (.int w1), .val (.int s_), .val (.long fq), .second, .val (.int (2 : Int32)), .val (.int f0), .val (.int f1), .val (.int f2), .val (.int lo), .val (.int hi), .val (.int mid), .val (.ref b274), .val (.ref b286), .unset, .unset, .unset, .unset] [])) rfl (hb hby at_236) (by decide) (by decide)
      obtain ⟨b297, g297⟩ : ∃ z, z = h295.size := ⟨_, rfl⟩
      rw [← g297] at A297 D297 st297
      have f301 : Ia Z h295 b274 .int [(if y1 < x1 then y1 else x1), (if x1 < y1 then y1 else x1)] := (((f285.ext E286).other W293 ne289).other W295 ne289)
      have ne300 : b274 ≠ b297 := Nat.ne_of_lt (Nat.lt_of_lt_of_le f301.lt (Nat.le_of_eq g297.symm))
      have ne302 : b286 ≠ b297 := Nat.ne_of_lt (Nat.lt_of_lt_of_le f296.lt (Nat.le_of_eq g297.symm))
      have ge303 : n0 ≤ b297 := Nat.le_trans z299 (Nat.le_of_eq g297.symm)
      have sz304 : h0.size ≤ b297 := Nat.le_trans k298.1 (Nat.le_of_eq g297.symm)
      refine Go.via (st297) ?_
      have f305 : Fld Z h297 b297 "com/example/libcosearch/libcosearch/PostingList" "documents" "[I" .null := D297 (Or.inr (tw hw 19 rfl)) (ty := (.array .int)) (by decide)
      have f306 : Fld Z h297 b297 "com/example/libcosearch/libcosearch/PostingList" "frequencies" "[I" .null := D297 (Or.inr (tw hw 21 rfl)) (ty := (.array .int)) (by decide)
      have f307 : Fld Z h297 b297 "com/example/libcosearch/libcosearch/PostingList" "collectionFrequency" "J" (.long (0 : Int64)) := D297 (Or.inr (tw hw 23 rfl)) (ty := .long) (by decide)
      show Go p e below (T297.setTop (mkF m 239 #[.val (.int x1), .val (.int y1), .val (.int z1), .val (.int w1), .val (.int s_), .val (.long fq), .second, .val (.int (2 : Int32)), .val (.int f0), .val (.int f1), .val (.int f2), .val (.int lo), .val (.int hi), .val (.int mid), .val (.ref b274), .val (.ref b286), .unset, .unset, .unset, .unset] [(.ref b297)])) _
      refine Go.via (fun _ => XS.dup X297.here hx rfl (hb hby at_239) rfl rfl) ?_
      refine Go.via (fun _ => XS.aload X297.here hx rfl (hb hby at_240) rfl rfl) ?_
      refine Go.via (fun _ => XS.aload X297.here hx rfl (hb hby at_242) rfl rfl) ?_
      have f308 : Ia Z h297 b286 .int [f0, f1] := (f296.ext E297)
      have z310 : n0 ≤ h297.size := (Nat.le_trans z299 E297.1)
      obtain ⟨_, _, ⟨T309, L309, k309, n309⟩, -, X309, ⟨Lc309, hQ309, l309, y309, z309⟩, st309⟩ := X297.specialBack hx (y := (⟨"com/example/libcosearch/libcosearch/PostingList", "<init>", "([I[I)V"⟩ : MethodName)) rfl hown (mvT hZ (tw hw 12 rfl)) (mvT hZ (tw hw 13 rfl)) (mvT hZ (tw hw 14 rfl)) (by decide) (backOf (W := 1) (rmI2 l Z a0 hw [] b297 b274 b286 f0 f1 h297 n0 z310 A297 f305 f306 f307 f308 ge303 (Ne.symm ne302)) hZ (tw hw 14 rfl) (tw hw 11 rfl) (by decide) (by decide)) (g := (mkF m 244 #[.val (.int x1), .val (.int y1), .val (.int z1), .val (.int w1), .val (.int s_), .val (.long fq), .second, .val (.int (2 : Int32)), .val (.int f0), .val (.int f1), .val (.int f2), .val (.int lo), .val (.int hi), .val (.int mid), .val (.ref b274), .val (.ref b286), .unset, .unset, .unset, .unset] [(.ref b286), (.ref b274), (.ref b297), (.ref b297)])) rfl (by rw [hml]; rfl) (Steps.refl _) (a := b297) (argsL := [(.ref b274), (.ref b286)]) (rest := [(.ref b297)]) (lenOf pd__28_5bI_5bI_29V rfl) rfl (by show 2 * 0 + _ ≤ _; exact Nat.le_of_eq rfl) (hb hby at_244) (fun _ _ => ⟨rfl, e297, (by decide : 3 + 0 ≤ _), (by decide : 7 + 0 ≤ _)⟩)
      dsimp only [Pt.U, Pt.locs, Pt.cells, Pt.slots] at X309 l309 y309 z309 st309 hQ309
      subst l309 y309 z309
      obtain ⟨rfl, N309q, K309q, f311, f312, f313⟩ := hQ309
      have N309 := Fr.app N295 N309q
      refine Go.via (fun _ kQ => st309.trans kQ) ?_
      have e309 : T309.heap = T309.heap := rfl
      have f314 : Exa Z T309.heap b297 "com/example/libcosearch/libcosearch/PostingList" := f311
      have f315 : Fld Z T309.heap b297 "com/example/libcosearch/libcosearch/PostingList" "documents" "[I" (.ref b274) := f312
      have f316 : Fld Z T309.heap b297 "com/example/libcosearch/libcosearch/PostingList" "frequencies" "[I" (.ref b286) := f313
      show Go p e below (T309.setTop (mkF m 247 #[.val (.int x1), .val (.int y1), .val (.int z1), .val (.int w1), .val (.int s_), .val (.long fq), .second, .val (.int (2 : Int32)), .val (.int f0), .val (.int f1), .val (.int f2), .val (.int lo), .val (.int hi), .val (.int mid), .val (.ref b274), .val (.ref b286), .unset, .unset, .unset, .unset] [(.ref b297)])) _
      refine Go.via (fun _ => XS.astore X309.here hx rfl (hb hby at_247) rfl rfl (l' := #[.val (.int x1), .val (.int y1), .val (.int z1), .val (.int w1), .val (.int s_), .val (.long fq), .second, .val (.int (2 : Int32)), .val (.int f0), .val (.int f1), .val (.int f2), .val (.int lo), .val (.int hi), .val (.int mid), .val (.ref b274), .val (.ref b286), .val (.ref b297), .unset, .unset, .unset]) rfl) ?_
      show Go p e below (T309.setTop (mkF m 249 #[.val (.int x1), .val (.int y1), .val (.int z1), .val (.int w1), .val (.int s_), .val (.long fq), .second, .val (.int (2 : Int32)), .val (.int f0), .val (.int f1), .val (.int f2), .val (.int lo), .val (.int hi), .val (.int mid), .val (.ref b274), .val (.ref b286), .val (.ref b297), .unset, .unset, .unset] [])) _
      have hsrt := own_mm (by assumption : ¬ x1 = y1)
      have J2 : ∀ (T317 : State) (L317 : List Loc) (h317 : Heap) (q : Int32) (sel : Int32), Stand p l e room_1 s m #[(.int x1), (.int y1), (.int z1), (.int w1), (.int s_), (.long fq)] below meth c T317 L317 3 7 → T317.heap = h317 → Fr n0 L317 → n0 ≤ h317.size → Keep h0 h317 [] → Exa Z h317 b297 "com/example/libcosearch/libcosearch/PostingList" → Fld Z h317 b297 "com/example/libcosearch/libcosearch/PostingList" "documents" "[I" (.ref b274) → Fld Z h317 b297 "com/example/libcosearch/libcosearch/PostingList" "frequencies" "[I" (.ref b286) → Ia Z h317 b274 .int [(if y1 < x1 then y1 else x1), (if x1 < y1 then y1 else x1)] → Ia Z h317 b286 .int [f0, f1] → Go p e below (T317.setTop (mkF m 355 #[.val (.int x1), .val (.int y1), .val (.int z1), .val (.int w1), .val (.int s_), .val (.long fq), .second, .val (.int (2 : Int32)), .val (.int f0), .val (.int f1), .val (.int f2), .val (.int lo), .val (.int hi), .val (.int mid), .val (.ref b274), .val (.ref b286), .val (.ref b297), .val (.int sel), .val (.int q), .unset] [])) (Done s (Q_rm0 Z x1 y1 z1 w1 s_ fq h0 n0) room_1.cells room_1.slots) := by
        intro T317 L317 h317 q sel X317 e317 N317 z317 k317 fE317 fd317 ff317 fx317 fy317 
        show Go p e below (T317.setTop (mkF m 355 #[.val (.int x1), .val (.int y1), .val (.int z1), .val (.int w1), .val (.int s_), .val (.long fq), .second, .val (.int (2 : Int32)), .val (.int f0), .val (.int f1), .val (.int f2), .val (.int lo), .val (.int hi), .val (.int mid), .val (.ref b274), .val (.ref b286), .val (.ref b297), .val (.int sel), .val (.int q), .unset] [])) _
        refine Go.via (fun _ => XS.iconst X317.here hx rfl (hb hby at_355)) ?_
        refine Go.via (fun _ => XS.istore X317.here hx rfl (hb hby at_356) rfl (l' := #[.val (.int x1), .val (.int y1), .val (.int z1), .val (.int w1), .val (.int s_), .val (.long fq), .second, .val (.int (2 : Int32)), .val (.int f0), .val (.int f1), .val (.int f2), .val (.int lo), .val (.int hi), .val (.int mid), .val (.ref b274), .val (.ref b286), .val (.ref b297), .val (.int sel), .val (.int q), .val (.int (0 : Int32))]) rfl) ?_
        show Go p e below (T317.setTop (mkF m 358 #[.val (.int x1), .val (.int y1), .val (.int z1), .val (.int w1), .val (.int s_), .val (.long fq), .second, .val (.int (2 : Int32)), .val (.int f0), .val (.int f1), .val (.int f2), .val (.int lo), .val (.int hi), .val (.int mid), .val (.ref b274), .val (.ref b286), .val (.ref b297), .val (.int sel), .val (.int q), .val (.int (0 : Int32))] [])) _
        refine Go.via (fun _ => XS.iload X317.here hx rfl (hb hby at_358) rfl) ?_
        refine Go.via (fun _ => XS.iconst X317.here hx rfl (hb hby at_360)) ?_
        refine Go.via (fun _ => XS.icmpNo X317.here hx rfl (hb hby at_361) rfl (flt ((by decide) : ¬ ((2 : Int32) < (1 : Int32)))).1) ?_
        show Go p e below (T317.setTop (mkF m 364 #[.val (.int x1), .val (.int y1), .val (.int z1), .val (.int w1), .val (.int s_), .val (.long fq), .second, .val (.int (2 : Int32)), .val (.int f0), .val (.int f1), .val (.int f2), .val (.int lo), .val (.int hi), .val (.int mid), .val (.ref b274), .val (.ref b286), .val (.ref b297), .val (.int sel), .val (.int q), .val (.int (0 : Int32))] [])) _
        refine Go.via (fun _ => XS.iload X317.here hx rfl (hb hby at_364) rfl) ?_
        refine Go.via (fun _ => XS.aload X317.here hx rfl (hb hby at_366) rfl rfl) ?_
        refine Go.via (fun _ => XS.iconst X317.here hx rfl (hb hby at_368)) ?_
        refine Go.via (ldI X317 hx hZ e317 fx317 (v := (if y1 < x1 then y1 else x1)) (by decide) rfl (g := (mkF m 369 #[.val (.int x1), .val (.int y1), .val (.int z1), .val (.int w1), .val (.int s_), .val (.long fq), .second, .val (.int (2 : Int32)), .val (.int f0), .val (.int f1), .val (.int f2), .val (.int lo), .val (.int hi), .val (.int mid), .val (.ref b274), .val (.ref b286), .val (.ref b297), .val (.int sel), .val (.int q), .val (.int (0 : Int32))] [(.int (0 : Int32)), (.ref b274), (.int q)])) rfl rfl (hb hby at_369)) ?_
        show Go p e below (T317.setTop (mkF m 370 #[.val (.int x1), .val (.int y1), .val (.int z1), .val (.int w1), .val (.int s_), .val (.long fq), .second, .val (.int (2 : Int32)), .val (.int f0), .val (.int f1), .val (.int f2), .val (.int lo), .val (.int hi), .val (.int mid), .val (.ref b274), .val (.ref b286), .val (.ref b297), .val (.int sel), .val (.int q), .val (.int (0 : Int32))] [(.int (if y1 < x1 then y1 else x1)), (.int q)])) _
        by_cases hc318 : q = (if y1 < x1 then y1 else x1)
        · refine Go.via (fun _ => XS.icmpNo X317.here hx rfl (hb hby at_370) rfl (teq (hc318 : q = (if y1 < x1 then y1 else x1))).2) ?_
          show Go p e below (T317.setTop (mkF m 373 #[.val (.int x1), .val (.int y1), .val (.int z1), .val (.int w1), .val (.int s_), .val (.long fq), .second, .val (.int (2 : Int32)), .val (.int f0), .val (.int f1), .val (.int f2), .val (.int lo), .val (.int hi), .val (.int mid), .val (.ref b274), .val (.ref b286), .val (.ref b297), .val (.int sel), .val (.int q), .val (.int (0 : Int32))] [])) _
          refine Go.via (fun _ => XS.aload X317.here hx rfl (hb hby at_373) rfl rfl) ?_
          refine Go.via (fun _ => XS.iconst X317.here hx rfl (hb hby at_375)) ?_
          refine Go.via (ldI X317 hx hZ e317 fy317 (v := f0) (by decide) rfl (g := (mkF m 376 #[.val (.int x1), .val (.int y1), .val (.int z1), .val (.int w1), .val (.int s_), .val (.long fq), .second, .val (.int (2 : Int32)), .val (.int f0), .val (.int f1), .val (.int f2), .val (.int lo), .val (.int hi), .val (.int mid), .val (.ref b274), .val (.ref b286), .val (.ref b297), .val (.int sel), .val (.int q), .val (.int (0 : Int32))] [(.int (0 : Int32)), (.ref b286)])) rfl rfl (hb hby at_376)) ?_
          show Go p e below (T317.setTop (mkF m 377 #[.val (.int x1), .val (.int y1), .val (.int z1), .val (.int w1), .val (.int s_), .val (.long fq), .second, .val (.int (2 : Int32)), .val (.int f0), .val (.int f1), .val (.int f2), .val (.int lo), .val (.int hi), .val (.int mid), .val (.ref b274), .val (.ref b286), .val (.ref b297), .val (.int sel), .val (.int q), .val (.int (0 : Int32))] [(.int f0)])) _
          refine Go.via (fun _ => XS.istore X317.here hx rfl (hb hby at_377) rfl (l' := #[.val (.int x1), .val (.int y1), .val (.int z1), .val (.int w1), .val (.int s_), .val (.long fq), .second, .val (.int (2 : Int32)), .val (.int f0), .val (.int f1), .val (.int f2), .val (.int lo), .val (.int hi), .val (.int mid), .val (.ref b274), .val (.ref b286), .val (.ref b297), .val (.int sel), .val (.int q), .val (.int f0)]) rfl) ?_
          show Go p e below (T317.setTop (mkF m 379 #[.val (.int x1), .val (.int y1), .val (.int z1), .val (.int w1), .val (.int s_), .val (.long fq), .second, .val (.int (2 : Int32)), .val (.int f0), .val (.int f1), .val (.int f2), .val (.int lo), .val (.int hi), .val (.int mid), .val (.ref b274), .val (.ref b286), .val (.ref b297), .val (.int sel), .val (.int q), .val (.int f0)] [])) _
          refine Go.via (fun _ => XS.goto X317.here hx rfl (pc0 := 379) (pc' := 427) rfl (hb hby at_379) (by decide) (by decide)) ?_
          refine Go.via (fun _ => XS.aload X317.here hx rfl (hb hby at_427) rfl rfl) ?_
          refine Go.via (fun _ => XS.iload X317.here hx rfl (hb hby at_429) rfl) ?_
          obtain ⟨cq319, kq319, q319a, q319b, q319c⟩ := isOf hZ e317 fE317
          obtain ⟨_, _, ⟨T319, L319, k319, n319⟩, -, X319, ⟨Lc319, hQ319, l319, y319, z319⟩, st319⟩ := X317.virtualBack hx (y := (⟨"com/example/libcosearch/libcosearch/PostingList", "frequencyIn", "(I)I"⟩ : MethodName)) (z := (⟨"com/example/libcosearch/libcosearch/PostingList", "frequencyIn", "(I)I"⟩ : MethodName)) hown (mvT hZ (tw hw 24 rfl)) (mvT hZ (tw hw 25 rfl)) (notFace_of_selects (args := #[]) (mvT hZ (tw hw 27 rfl))) (mvT hZ (tw hw 27 rfl)) (mvT hZ (tw hw 26 rfl)) (by decide) (backOf (W := 0) (rmF2 l Z a0 hw [] b297 q b274 b286 (if y1 < x1 then y1 else x1) (if x1 < y1 then y1 else x1) f0 f1 h317 n0 z317 fd317 ff317 fx317 fy317 hsrt) hZ (tw hw 28 rfl) (tw hw 11 rfl) (by decide) (by decide)) q319a q319c (g := (mkF m 431 #[.val (.int x1), .val (.int y1), .val (.int z1), .val (.int w1), .val (.int s_), .val (.long fq), .second, .val (.int (2 : Int32)), .val (.int f0), .val (.int f1), .val (.int f2), .val (.int lo), .val (.int hi), .val (.int mid), .val (.ref b274), .val (.ref b286), .val (.ref b297), .val (.int sel), .val (.int q), .val (.int f0)] [(.int q), (.ref b297)])) rfl (by rw [hml]; rfl) (Steps.refl _) (argsL := [(.int q)]) (rest := []) (lenOf pd__28I_29I rfl) rfl (by show 2 * 0 + _ ≤ _; exact Nat.le_of_eq rfl) (hb hby at_431) (fun _ _ => ⟨rfl, e317, (by decide : 3 + 0 ≤ _), (by decide : 7 + 0 ≤ _)⟩)
          dsimp only [Pt.U, Pt.locs, Pt.cells, Pt.slots] at X319 l319 y319 z319 st319 hQ319
          subst l319 y319 z319
          obtain ⟨v320, rfl, N319q, eh319, qp321⟩ := hQ319
          have N319 := Fr.app N317 N319q
          refine Go.via (fun _ kQ => st319.trans kQ) ?_
          have e319 : T319.heap = h317 := eh319
          show Go p e below (T319.setTop (mkF m 434 #[.val (.int x1), .val (.int y1), .val (.int z1), .val (.int w1), .val (.int s_), .val (.long fq), .second, .val (.int (2 : Int32)), .val (.int f0), .val (.int f1), .val (.int f2), .val (.int lo), .val (.int hi), .val (.int mid), .val (.ref b274), .val (.ref b286), .val (.ref b297), .val (.int sel), .val (.int q), .val (.int f0)] [(.int v320)])) _
          refine Go.via (fun _ => XS.iload X319.here hx rfl (hb hby at_434) rfl) ?_
          refine Go.via (fun _ => XS.icmpNo X319.here hx rfl (hb hby at_436) rfl (teq (((own_f2 qp321 hsrt).1 (by assumption)) : v320 = f0)).2) ?_
          show Go p e below (T319.setTop (mkF m 439 #[.val (.int x1), .val (.int y1), .val (.int z1), .val (.int w1), .val (.int s_), .val (.long fq), .second, .val (.int (2 : Int32)), .val (.int f0), .val (.int f1), .val (.int f2), .val (.int lo), .val (.int hi), .val (.int mid), .val (.ref b274), .val (.ref b286), .val (.ref b297), .val (.int sel), .val (.int q), .val (.int f0)] [])) _
          refine Go.via (fun _ => XS.iconst X319.here hx rfl (hb hby at_439)) ?_
          refine Go.via (fun _ => XS.goto X319.here hx rfl (pc0 := 440) (pc' := 444) rfl (hb hby at_440) (by decide) (by decide)) ?_
          exact Go.fin X319 hlk (v := some (.int (1 : Int32))) (fun h => by rw [Bd.returns] at h; cases h) (fun fs hr => retN X319 hx (t := .boolean) Bd.returns (by simp) (hb hby at_444) hr) (by rw [e319]; exact ⟨rfl, N319, k317⟩) (by decide) (by decide)
        · refine Go.via (fun _ => XS.icmpYes X317.here hx rfl (pc0 := 370) (pc' := 382) rfl (hb hby at_370) rfl (feq (hc318 : ¬ (q = (if y1 < x1 then y1 else x1)))).2 (by decide) (by decide)) ?_
          show Go p e below (T317.setTop (mkF m 382 #[.val (.int x1), .val (.int y1), .val (.int z1), .val (.int w1), .val (.int s_), .val (.long fq), .second, .val (.int (2 : Int32)), .val (.int f0), .val (.int f1), .val (.int f2), .val (.int lo), .val (.int hi), .val (.int mid), .val (.ref b274), .val (.ref b286), .val (.ref b297), .val (.int sel), .val (.int q), .val (.int (0 : Int32))] [])) _
          refine Go.via (fun _ => XS.iload X317.here hx rfl (hb hby at_382) rfl) ?_
          refine Go.via (fun _ => XS.iconst X317.here hx rfl (hb hby at_384)) ?_
          refine Go.via (fun _ => XS.icmpNo X317.here hx rfl (hb hby at_385) rfl (flt ((by decide) : ¬ ((2 : Int32) < (2 : Int32)))).1) ?_
          show Go p e below (T317.setTop (mkF m 388 #[.val (.int x1), .val (.int y1), .val (.int z1), .val (.int w1), .val (.int s_), .val (.long fq), .second, .val (.int (2 : Int32)), .val (.int f0), .val (.int f1), .val (.int f2), .val (.int lo), .val (.int hi), .val (.int mid), .val (.ref b274), .val (.ref b286), .val (.ref b297), .val (.int sel), .val (.int q), .val (.int (0 : Int32))] [])) _
          refine Go.via (fun _ => XS.iload X317.here hx rfl (hb hby at_388) rfl) ?_
          refine Go.via (fun _ => XS.aload X317.here hx rfl (hb hby at_390) rfl rfl) ?_
          refine Go.via (fun _ => XS.iconst X317.here hx rfl (hb hby at_392)) ?_
          refine Go.via (ldI X317 hx hZ e317 fx317 (v := (if x1 < y1 then y1 else x1)) (by decide) rfl (g := (mkF m 393 #[.val (.int x1), .val (.int y1), .val (.int z1), .val (.int w1), .val (.int s_), .val (.long fq), .second, .val (.int (2 : Int32)), .val (.int f0), .val (.int f1), .val (.int f2), .val (.int lo), .val (.int hi), .val (.int mid), .val (.ref b274), .val (.ref b286), .val (.ref b297), .val (.int sel), .val (.int q), .val (.int (0 : Int32))] [(.int (1 : Int32)), (.ref b274), (.int q)])) rfl rfl (hb hby at_393)) ?_
          show Go p e below (T317.setTop (mkF m 394 #[.val (.int x1), .val (.int y1), .val (.int z1), .val (.int w1), .val (.int s_), .val (.long fq), .second, .val (.int (2 : Int32)), .val (.int f0), .val (.int f1), .val (.int f2), .val (.int lo), .val (.int hi), .val (.int mid), .val (.ref b274), .val (.ref b286), .val (.ref b297), .val (.int sel), .val (.int q), .val (.int (0 : Int32))] [(.int (if x1 < y1 then y1 else x1)), (.int q)])) _
          by_cases hc322 : q = (if x1 < y1 then y1 else x1)
          · refine Go.via (fun _ => XS.icmpNo X317.here hx rfl (hb hby at_394) rfl (teq (hc322 : q = (if x1 < y1 then y1 else x1))).2) ?_
            show Go p e below (T317.setTop (mkF m 397 #[.val (.int x1), .val (.int y1), .val (.int z1), .val (.int w1), .val (.int s_), .val (.long fq), .second, .val (.int (2 : Int32)), .val (.int f0), .val (.int f1), .val (.int f2), .val (.int lo), .val (.int hi), .val (.int mid), .val (.ref b274), .val (.ref b286), .val (.ref b297), .val (.int sel), .val (.int q), .val (.int (0 : Int32))] [])) _
            refine Go.via (fun _ => XS.aload X317.here hx rfl (hb hby at_397) rfl rfl) ?_
            refine Go.via (fun _ => XS.iconst X317.here hx rfl (hb hby at_399)) ?_
            refine Go.via (ldI X317 hx hZ e317 fy317 (v := f1) (by decide) rfl (g := (mkF m 400 #[.val (.int x1), .val (.int y1), .val (.int z1), .val (.int w1), .val (.int s_), .val (.long fq), .second, .val (.int (2 : Int32)), .val (.int f0), .val (.int f1), .val (.int f2), .val (.int lo), .val (.int hi), .val (.int mid), .val (.ref b274), .val (.ref b286), .val (.ref b297), .val (.int sel), .val (.int q), .val (.int (0 : Int32))] [(.int (1 : Int32)), (.ref b286)])) rfl rfl (hb hby at_400)) ?_
            show Go p e below (T317.setTop (mkF m 401 #[.val (.int x1), .val (.int y1), .val (.int z1), .val (.int w1), .val (.int s_), .val (.long fq), .second, .val (.int (2 : Int32)), .val (.int f0), .val (.int f1), .val (.int f2), .val (.int lo), .val (.int hi), .val (.int mid), .val (.ref b274), .val (.ref b286), .val (.ref b297), .val (.int sel), .val (.int q), .val (.int (0 : Int32))] [(.int f1)])) _
            refine Go.via (fun _ => XS.istore X317.here hx rfl (hb hby at_401) rfl (l' := #[.val (.int x1), .val (.int y1), .val (.int z1), .val (.int w1), .val (.int s_), .val (.long fq), .second, .val (.int (2 : Int32)), .val (.int f0), .val (.int f1), .val (.int f2), .val (.int lo), .val (.int hi), .val (.int mid), .val (.ref b274), .val (.ref b286), .val (.ref b297), .val (.int sel), .val (.int q), .val (.int f1)]) rfl) ?_
            show Go p e below (T317.setTop (mkF m 403 #[.val (.int x1), .val (.int y1), .val (.int z1), .val (.int w1), .val (.int s_), .val (.long fq), .second, .val (.int (2 : Int32)), .val (.int f0), .val (.int f1), .val (.int f2), .val (.int lo), .val (.int hi), .val (.int mid), .val (.ref b274), .val (.ref b286), .val (.ref b297), .val (.int sel), .val (.int q), .val (.int f1)] [])) _
            refine Go.via (fun _ => XS.goto X317.here hx rfl (pc0 := 403) (pc' := 427) rfl (hb hby at_403) (by decide) (by decide)) ?_
            refine Go.via (fun _ => XS.aload X317.here hx rfl (hb hby at_427) rfl rfl) ?_
            refine Go.via (fun _ => XS.iload X317.here hx rfl (hb hby at_429) rfl) ?_
            obtain ⟨cq323, kq323, q323a, q323b, q323c⟩ := isOf hZ e317 fE317
            obtain ⟨_, _, ⟨T323, L323, k323, n323⟩, -, X323, ⟨Lc323, hQ323, l323, y323, z323⟩, st323⟩ := X317.virtualBack hx (y := (⟨"com/example/libcosearch/libcosearch/PostingList", "frequencyIn", "(I)I"⟩ : MethodName)) (z := (⟨"com/example/libcosearch/libcosearch/PostingList", "frequencyIn", "(I)I"⟩ : MethodName)) hown (mvT hZ (tw hw 24 rfl)) (mvT hZ (tw hw 25 rfl)) (notFace_of_selects (args := #[]) (mvT hZ (tw hw 27 rfl))) (mvT hZ (tw hw 27 rfl)) (mvT hZ (tw hw 26 rfl)) (by decide) (backOf (W := 0) (rmF2 l Z a0 hw [] b297 q b274 b286 (if y1 < x1 then y1 else x1) (if x1 < y1 then y1 else x1) f0 f1 h317 n0 z317 fd317 ff317 fx317 fy317 hsrt) hZ (tw hw 28 rfl) (tw hw 11 rfl) (by decide) (by decide)) q323a q323c (g := (mkF m 431 #[.val (.int x1), .val (.int y1), .val (.int z1), .val (.int w1), .val (.int s_), .val (.long fq), .second, .val (.int (2 : Int32)), .val (.int f0), .val (.int f1), .val (.int f2), .val (.int lo), .val (.int hi), .val (.int mid), .val (.ref b274), .val (.ref b286), .val (.ref b297), .val (.int sel), .val (.int q), .val (.int f1)] [(.int q), (.ref b297)])) rfl (by rw [hml]; rfl) (Steps.refl _) (argsL := [(.int q)]) (rest := []) (lenOf pd__28I_29I rfl) rfl (by show 2 * 0 + _ ≤ _; exact Nat.le_of_eq rfl) (hb hby at_431) (fun _ _ => ⟨rfl, e317, (by decide : 3 + 0 ≤ _), (by decide : 7 + 0 ≤ _)⟩)
            dsimp only [Pt.U, Pt.locs, Pt.cells, Pt.slots] at X323 l323 y323 z323 st323 hQ323
            subst l323 y323 z323
            obtain ⟨v324, rfl, N323q, eh323, qp325⟩ := hQ323
            have N323 := Fr.app N317 N323q
            refine Go.via (fun _ kQ => st323.trans kQ) ?_
            have e323 : T323.heap = h317 := eh323
            show Go p e below (T323.setTop (mkF m 434 #[.val (.int x1), .val (.int y1), .val (.int z1), .val (.int w1), .val (.int s_), .val (.long fq), .second, .val (.int (2 : Int32)), .val (.int f0), .val (.int f1), .val (.int f2), .val (.int lo), .val (.int hi), .val (.int mid), .val (.ref b274), .val (.ref b286), .val (.ref b297), .val (.int sel), .val (.int q), .val (.int f1)] [(.int v324)])) _
            refine Go.via (fun _ => XS.iload X323.here hx rfl (hb hby at_434) rfl) ?_
            refine Go.via (fun _ => XS.icmpNo X323.here hx rfl (hb hby at_436) rfl (teq (((own_f2 qp325 hsrt).2.1 (by assumption) (by assumption)) : v324 = f1)).2) ?_
            show Go p e below (T323.setTop (mkF m 439 #[.val (.int x1), .val (.int y1), .val (.int z1), .val (.int w1), .val (.int s_), .val (.long fq), .second, .val (.int (2 : Int32)), .val (.int f0), .val (.int f1), .val (.int f2), .val (.int lo), .val (.int hi), .val (.int mid), .val (.ref b274), .val (.ref b286), .val (.ref b297), .val (.int sel), .val (.int q), .val (.int f1)] [])) _
            refine Go.via (fun _ => XS.iconst X323.here hx rfl (hb hby at_439)) ?_
            refine Go.via (fun _ => XS.goto X323.here hx rfl (pc0 := 440) (pc' := 444) rfl (hb hby at_440) (by decide) (by decide)) ?_
            exact Go.fin X323 hlk (v := some (.int (1 : Int32))) (fun h => by rw [Bd.returns] at h; cases h) (fun fs hr => retN X323 hx (t := .boolean) Bd.returns (by simp) (hb hby at_444) hr) (by rw [e323]; exact ⟨rfl, N323, k317⟩) (by decide) (by decide)
          · refine Go.via (fun _ => XS.icmpYes X317.here hx rfl (pc0 := 394) (pc' := 406) rfl (hb hby at_394) rfl (feq (hc322 : ¬ (q = (if x1 < y1 then y1 else x1)))).2 (by decide) (by decide)) ?_
            show Go p e below (T317.setTop (mkF m 406 #[.val (.int x1), .val (.int y1), .val (.int z1), .val (.int w1), .val (.int s_), .val (.long fq), .second, .val (.int (2 : Int32)), .val (.int f0), .val (.int f1), .val (.int f2), .val (.int lo), .val (.int hi), .val (.int mid), .val (.ref b274), .val (.ref b286), .val (.ref b297), .val (.int sel), .val (.int q), .val (.int (0 : Int32))] [])) _
            refine Go.via (fun _ => XS.iload X317.here hx rfl (hb hby at_406) rfl) ?_
            refine Go.via (fun _ => XS.iconst X317.here hx rfl (hb hby at_408)) ?_
            refine Go.via (fun _ => XS.icmpYes X317.here hx rfl (pc0 := 409) (pc' := 427) rfl (hb hby at_409) rfl (tlt ((by decide) : (2 : Int32) < (3 : Int32))).1 (by decide) (by decide)) ?_
            show Go p e below (T317.setTop (mkF m 427 #[.val (.int x1), .val (.int y1), .val (.int z1), .val (.int w1), .val (.int s_), .val (.long fq), .second, .val (.int (2 : Int32)), .val (.int f0), .val (.int f1), .val (.int f2), .val (.int lo), .val (.int hi), .val (.int mid), .val (.ref b274), .val (.ref b286), .val (.ref b297), .val (.int sel), .val (.int q), .val (.int (0 : Int32))] [])) _
            refine Go.via (fun _ => XS.aload X317.here hx rfl (hb hby at_427) rfl rfl) ?_
            refine Go.via (fun _ => XS.iload X317.here hx rfl (hb hby at_429) rfl) ?_
            obtain ⟨cq326, kq326, q326a, q326b, q326c⟩ := isOf hZ e317 fE317
            obtain ⟨_, _, ⟨T326, L326, k326, n326⟩, -, X326, ⟨Lc326, hQ326, l326, y326, z326⟩, st326⟩ := X317.virtualBack hx (y := (⟨"com/example/libcosearch/libcosearch/PostingList", "frequencyIn", "(I)I"⟩ : MethodName)) (z := (⟨"com/example/libcosearch/libcosearch/PostingList", "frequencyIn", "(I)I"⟩ : MethodName)) hown (mvT hZ (tw hw 24 rfl)) (mvT hZ (tw hw 25 rfl)) (notFace_of_selects (args := #[]) (mvT hZ (tw hw 27 rfl))) (mvT hZ (tw hw 27 rfl)) (mvT hZ (tw hw 26 rfl)) (by decide) (backOf (W := 0) (rmF2 l Z a0 hw [] b297 q b274 b286 (if y1 < x1 then y1 else x1) (if x1 < y1 then y1 else x1) f0 f1 h317 n0 z317 fd317 ff317 fx317 fy317 hsrt) hZ (tw hw 28 rfl) (tw hw 11 rfl) (by decide) (by decide)) q326a q326c (g := (mkF m 431 #[.val (.int x1), .val (.int y1), .val (.int z1), .val (.int w1), .val (.int s_), .val (.long fq), .second, .val (.int (2 : Int32)), .val (.int f0), .val (.int f1), .val (.int f2), .val (.int lo), .val (.int hi), .val (.int mid), .val (.ref b274), .val (.ref b286), .val (.ref b297), .val (.int sel), .val (.int q), .val (.int (0 : Int32))] [(.int q), (.ref b297)])) rfl (by rw [hml]; rfl) (Steps.refl _) (argsL := [(.int q)]) (rest := []) (lenOf pd__28I_29I rfl) rfl (by show 2 * 0 + _ ≤ _; exact Nat.le_of_eq rfl) (hb hby at_431) (fun _ _ => ⟨rfl, e317, (by decide : 3 + 0 ≤ _), (by decide : 7 + 0 ≤ _)⟩)
            dsimp only [Pt.U, Pt.locs, Pt.cells, Pt.slots] at X326 l326 y326 z326 st326 hQ326
            subst l326 y326 z326
            obtain ⟨v327, rfl, N326q, eh326, qp328⟩ := hQ326
            have N326 := Fr.app N317 N326q
            refine Go.via (fun _ kQ => st326.trans kQ) ?_
            have e326 : T326.heap = h317 := eh326
            show Go p e below (T326.setTop (mkF m 434 #[.val (.int x1), .val (.int y1), .val (.int z1), .val (.int w1), .val (.int s_), .val (.long fq), .second, .val (.int (2 : Int32)), .val (.int f0), .val (.int f1), .val (.int f2), .val (.int lo), .val (.int hi), .val (.int mid), .val (.ref b274), .val (.ref b286), .val (.ref b297), .val (.int sel), .val (.int q), .val (.int (0 : Int32))] [(.int v327)])) _
            refine Go.via (fun _ => XS.iload X326.here hx rfl (hb hby at_434) rfl) ?_
            refine Go.via (fun _ => XS.icmpNo X326.here hx rfl (hb hby at_436) rfl (teq (((own_f2 qp328 hsrt).2.2 (by assumption) (by assumption)) : v327 = (0 : Int32))).2) ?_
            show Go p e below (T326.setTop (mkF m 439 #[.val (.int x1), .val (.int y1), .val (.int z1), .val (.int w1), .val (.int s_), .val (.long fq), .second, .val (.int (2 : Int32)), .val (.int f0), .val (.int f1), .val (.int f2), .val (.int lo), .val (.int hi), .val (.int mid), .val (.ref b274), .val (.ref b286), .val (.ref b297), .val (.int sel), .val (.int q), .val (.int (0 : Int32))] [])) _
            refine Go.via (fun _ => XS.iconst X326.here hx rfl (hb hby at_439)) ?_
            refine Go.via (fun _ => XS.goto X326.here hx rfl (pc0 := 440) (pc' := 444) rfl (hb hby at_440) (by decide) (by decide)) ?_
            exact Go.fin X326 hlk (v := some (.int (1 : Int32))) (fun h => by rw [Bd.returns] at h; cases h) (fun fs hr => retN X326 hx (t := .boolean) Bd.returns (by simp) (hb hby at_444) hr) (by rw [e326]; exact ⟨rfl, N326, k317⟩) (by decide) (by decide)
      refine Go.via (fun _ => XS.iload X309.here hx rfl (hb hby at_249) rfl) ?_
      refine Go.via (fun _ => XS.bipush X309.here hx rfl (hb hby at_251)) ?_
      refine Go.via (fun _ => XS.iand X309.here hx rfl (hb hby at_253) rfl) ?_
      show Go p e below (T309.setTop (mkF m 254 #[.val (.int x1), .val (.int y1), .val (.int z1), .val (.int w1), .val (.int s_), .val (.long fq), .second, .val (.int (2 : Int32)), .val (.int f0), .val (.int f1), .val (.int f2), .val (.int lo), .val (.int hi), .val (.int mid), .val (.ref b274), .val (.ref b286), .val (.ref b297), .unset, .unset, .unset] [(.int (s_ &&& (7 : Int32)))])) _
      generalize hsel : (s_ &&& (7 : Int32)) = sel
      show Go p e below (T309.setTop (mkF m 254 #[.val (.int x1), .val (.int y1), .val (.int z1), .val (.int w1), .val (.int s_), .val (.long fq), .second, .val (.int (2 : Int32)), .val (.int f0), .val (.int f1), .val (.int f2), .val (.int lo), .val (.int hi), .val (.int mid), .val (.ref b274), .val (.ref b286), .val (.ref b297), .unset, .unset, .unset] [(.int sel)])) _
      refine Go.via (fun _ => XS.istore X309.here hx rfl (hb hby at_254) rfl (l' := #[.val (.int x1), .val (.int y1), .val (.int z1), .val (.int w1), .val (.int s_), .val (.long fq), .second, .val (.int (2 : Int32)), .val (.int f0), .val (.int f1), .val (.int f2), .val (.int lo), .val (.int hi), .val (.int mid), .val (.ref b274), .val (.ref b286), .val (.ref b297), .val (.int sel), .unset, .unset]) rfl) ?_
      show Go p e below (T309.setTop (mkF m 256 #[.val (.int x1), .val (.int y1), .val (.int z1), .val (.int w1), .val (.int s_), .val (.long fq), .second, .val (.int (2 : Int32)), .val (.int f0), .val (.int f1), .val (.int f2), .val (.int lo), .val (.int hi), .val (.int mid), .val (.ref b274), .val (.ref b286), .val (.ref b297), .val (.int sel), .unset, .unset] [])) _
      refine Go.via (fun _ => XS.iload X309.here hx rfl (hb hby at_256) rfl) ?_
      by_cases hc329 : sel = (0 : Int32)
      · refine Go.via (fun _ => XS.ifNo X309.here hx rfl (hb hby at_258) rfl ((if0 _ _).trans (teq (hc329 : sel = (0 : Int32))).2)) ?_
        refine Go.via (fun _ => XS.iloadN X309.here hx rfl (hb hby at_261) rfl) ?_
        refine Go.via (fun _ => XS.istore X309.here hx rfl (hb hby at_262) rfl (l' := #[.val (.int x1), .val (.int y1), .val (.int z1), .val (.int w1), .val (.int s_), .val (.long fq), .second, .val (.int (2 : Int32)), .val (.int f0), .val (.int f1), .val (.int f2), .val (.int lo), .val (.int hi), .val (.int mid), .val (.ref b274), .val (.ref b286), .val (.ref b297), .val (.int sel), .val (.int x1), .unset]) rfl) ?_
        show Go p e below (T309.setTop (mkF m 264 #[.val (.int x1), .val (.int y1), .val (.int z1), .val (.int w1), .val (.int s_), .val (.long fq), .second, .val (.int (2 : Int32)), .val (.int f0), .val (.int f1), .val (.int f2), .val (.int lo), .val (.int hi), .val (.int mid), .val (.ref b274), .val (.ref b286), .val (.ref b297), .val (.int sel), .val (.int x1), .unset] [])) _
        refine Go.via (fun _ => XS.goto X309.here hx rfl (pc0 := 264) (pc' := 355) rfl (hb hby at_264) (by decide) (by decide)) ?_
        have f330 : Ia Z T309.heap b274 .int [(if y1 < x1 then y1 else x1), (if x1 < y1 then y1 else x1)] := ((f301.ext E297).keep K309q (ninS ne300 nin0))
        have f331 : Ia Z T309.heap b286 .int [f0, f1] := (f308.keep K309q (ninS ne302 nin0))
        have z332 : n0 ≤ T309.heap.size := (Nat.le_trans z310 K309q.1)
        have k333 : Keep h0 T309.heap [] := ((k298.ext E297).trans K309q (allS (Or.inr sz304) all0))
        exact J2 T309 _ T309.heap x1 sel X309 e309 N309 z332 k333 f314 f315 f316 f330 f331
      · refine Go.via (fun _ => XS.ifYes X309.here hx rfl (pc0 := 258) (pc' := 267) rfl (hb hby at_258) rfl ((if0 _ _).trans (feq (hc329 : ¬ (sel = (0 : Int32)))).2) (by decide) (by decide)) ?_
        refine Go.via (fun _ => XS.iload X309.here hx rfl (hb hby at_267) rfl) ?_
        refine Go.via (fun _ => XS.iconst X309.here hx rfl (hb hby at_269)) ?_
        by_cases hc334 : sel = (1 : Int32)
        · refine Go.via (fun _ => XS.icmpNo X309.here hx rfl (hb hby at_270) rfl (teq (hc334 : sel = (1 : Int32))).2) ?_
          refine Go.via (fun _ => XS.iloadN X309.here hx rfl (hb hby at_273) rfl) ?_
          show Go p e below (T309.setTop (mkF m 274 #[.val (.int x1), .val (.int y1), .val (.int z1), .val (.int w1), .val (.int s_), .val (.long fq), .second, .val (.int (2 : Int32)), .val (.int f0), .val (.int f1), .val (.int f2), .val (.int lo), .val (.int hi), .val (.int mid), .val (.ref b274), .val (.ref b286), .val (.ref b297), .val (.int sel), .unset, .unset] [(.int y1)])) _
          refine Go.via (fun _ => XS.istore X309.here hx rfl (hb hby at_274) rfl (l' := #[.val (.int x1), .val (.int y1), .val (.int z1), .val (.int w1), .val (.int s_), .val (.long fq), .second, .val (.int (2 : Int32)), .val (.int f0), .val (.int f1), .val (.int f2), .val (.int lo), .val (.int hi), .val (.int mid), .val (.ref b274), .val (.ref b286), .val (.ref b297), .val (.int sel), .val (.int y1), .unset]) rfl) ?_
          show Go p e below (T309.setTop (mkF m 276 #[.val (.int x1), .val (.int y1), .val (.int z1), .val (.int w1), .val (.int s_), .val (.long fq), .second, .val (.int (2 : Int32)), .val (.int f0), .val (.int f1), .val (.int f2), .val (.int lo), .val (.int hi), .val (.int mid), .val (.ref b274), .val (.ref b286), .val (.ref b297), .val (.int sel), .val (.int y1), .unset] [])) _
          refine Go.via (fun _ => XS.goto X309.here hx rfl (pc0 := 276) (pc' := 355) rfl (hb hby at_276) (by decide) (by decide)) ?_
          have f335 : Ia Z T309.heap b274 .int [(if y1 < x1 then y1 else x1), (if x1 < y1 then y1 else x1)] := ((f301.ext E297).keep K309q (ninS ne300 nin0))
          have f336 : Ia Z T309.heap b286 .int [f0, f1] := (f308.keep K309q (ninS ne302 nin0))
          have z337 : n0 ≤ T309.heap.size := (Nat.le_trans z310 K309q.1)
          have k338 : Keep h0 T309.heap [] := ((k298.ext E297).trans K309q (allS (Or.inr sz304) all0))
          exact J2 T309 _ T309.heap y1 sel X309 e309 N309 z337 k338 f314 f315 f316 f335 f336
        · refine Go.via (fun _ => XS.icmpYes X309.here hx rfl (pc0 := 270) (pc' := 279) rfl (hb hby at_270) rfl (feq (hc334 : ¬ (sel = (1 : Int32)))).2 (by decide) (by decide)) ?_
          refine Go.via (fun _ => XS.iload X309.here hx rfl (hb hby at_279) rfl) ?_
          show Go p e below (T309.setTop (mkF m 281 #[.val (.int x1), .val (.int y1), .val (.int z1), .val (.int w1), .val (.int s_), .val (.long fq), .second, .val (.int (2 : Int32)), .val (.int f0), .val (.int f1), .val (.int f2), .val (.int lo), .val (.int hi), .val (.int mid), .val (.ref b274), .val (.ref b286), .val (.ref b297), .val (.int sel), .unset, .unset] [(.int sel)])) _
          refine Go.via (fun _ => XS.iconst X309.here hx rfl (hb hby at_281)) ?_
          by_cases hc339 : sel = (2 : Int32)
          · refine Go.via (fun _ => XS.icmpNo X309.here hx rfl (hb hby at_282) rfl (teq (hc339 : sel = (2 : Int32))).2) ?_
            refine Go.via (fun _ => XS.iloadN X309.here hx rfl (hb hby at_285) rfl) ?_
            refine Go.via (fun _ => XS.istore X309.here hx rfl (hb hby at_286) rfl (l' := #[.val (.int x1), .val (.int y1), .val (.int z1), .val (.int w1), .val (.int s_), .val (.long fq), .second, .val (.int (2 : Int32)), .val (.int f0), .val (.int f1), .val (.int f2), .val (.int lo), .val (.int hi), .val (.int mid), .val (.ref b274), .val (.ref b286), .val (.ref b297), .val (.int sel), .val (.int z1), .unset]) rfl) ?_
            show Go p e below (T309.setTop (mkF m 288 #[.val (.int x1), .val (.int y1), .val (.int z1), .val (.int w1), .val (.int s_), .val (.long fq), .second, .val (.int (2 : Int32)), .val (.int f0), .val (.int f1), .val (.int f2), .val (.int lo), .val (.int hi), .val (.int mid), .val (.ref b274), .val (.ref b286), .val (.ref b297), .val (.int sel), .val (.int z1), .unset] [])) _
            refine Go.via (fun _ => XS.goto X309.here hx rfl (pc0 := 288) (pc' := 355) rfl (hb hby at_288) (by decide) (by decide)) ?_
            have f340 : Ia Z T309.heap b274 .int [(if y1 < x1 then y1 else x1), (if x1 < y1 then y1 else x1)] := ((f301.ext E297).keep K309q (ninS ne300 nin0))
            have f341 : Ia Z T309.heap b286 .int [f0, f1] := (f308.keep K309q (ninS ne302 nin0))
            have z342 : n0 ≤ T309.heap.size := (Nat.le_trans z310 K309q.1)
            have k343 : Keep h0 T309.heap [] := ((k298.ext E297).trans K309q (allS (Or.inr sz304) all0))
            exact J2 T309 _ T309.heap z1 sel X309 e309 N309 z342 k343 f314 f315 f316 f340 f341
          · refine Go.via (fun _ => XS.icmpYes X309.here hx rfl (pc0 := 282) (pc' := 291) rfl (hb hby at_282) rfl (feq (hc339 : ¬ (sel = (2 : Int32)))).2 (by decide) (by decide)) ?_
            refine Go.via (fun _ => XS.iload X309.here hx rfl (hb hby at_291) rfl) ?_
            refine Go.via (fun _ => XS.iconst X309.here hx rfl (hb hby at_293)) ?_
            by_cases hc344 : sel = (3 : Int32)
            · refine Go.via (fun _ => XS.icmpNo X309.here hx rfl (hb hby at_294) rfl (teq (hc344 : sel = (3 : Int32))).2) ?_
              refine Go.via (fun _ => XS.iloadN X309.here hx rfl (hb hby at_297) rfl) ?_
              show Go p e below (T309.setTop (mkF m 298 #[.val (.int x1), .val (.int y1), .val (.int z1), .val (.int w1), .val (.int s_), .val (.long fq), .second, .val (.int (2 : Int32)), .val (.int f0), .val (.int f1), .val (.int f2), .val (.int lo), .val (.int hi), .val (.int mid), .val (.ref b274), .val (.ref b286), .val (.ref b297), .val (.int sel), .unset, .unset] [(.int w1)])) _
              refine Go.via (fun _ => XS.istore X309.here hx rfl (hb hby at_298) rfl (l' := #[.val (.int x1), .val (.int y1), .val (.int z1), .val (.int w1), .val (.int s_), .val (.long fq), .second, .val (.int (2 : Int32)), .val (.int f0), .val (.int f1), .val (.int f2), .val (.int lo), .val (.int hi), .val (.int mid), .val (.ref b274), .val (.ref b286), .val (.ref b297), .val (.int sel), .val (.int w1), .unset]) rfl) ?_
              show Go p e below (T309.setTop (mkF m 300 #[.val (.int x1), .val (.int y1), .val (.int z1), .val (.int w1), .val (.int s_), .val (.long fq), .second, .val (.int (2 : Int32)), .val (.int f0), .val (.int f1), .val (.int f2), .val (.int lo), .val (.int hi), .val (.int mid), .val (.ref b274), .val (.ref b286), .val (.ref b297), .val (.int sel), .val (.int w1), .unset] [])) _
              refine Go.via (fun _ => XS.goto X309.here hx rfl (pc0 := 300) (pc' := 355) rfl (hb hby at_300) (by decide) (by decide)) ?_
              have f345 : Ia Z T309.heap b274 .int [(if y1 < x1 then y1 else x1), (if x1 < y1 then y1 else x1)] := ((f301.ext E297).keep K309q (ninS ne300 nin0))
              have f346 : Ia Z T309.heap b286 .int [f0, f1] := (f308.keep K309q (ninS ne302 nin0))
              have z347 : n0 ≤ T309.heap.size := (Nat.le_trans z310 K309q.1)
              have k348 : Keep h0 T309.heap [] := ((k298.ext E297).trans K309q (allS (Or.inr sz304) all0))
              exact J2 T309 _ T309.heap w1 sel X309 e309 N309 z347 k348 f314 f315 f316 f345 f346
            · refine Go.via (fun _ => XS.icmpYes X309.here hx rfl (pc0 := 294) (pc' := 303) rfl (hb hby at_294) rfl (feq (hc344 : ¬ (sel = (3 : Int32)))).2 (by decide) (by decide)) ?_
              refine Go.via (fun _ => XS.iload X309.here hx rfl (hb hby at_303) rfl) ?_
              show Go p e below (T309.setTop (mkF m 305 #[.val (.int x1), .val (.int y1), .val (.int z1), .val (.int w1), .val (.int s_), .val (.long fq), .second, .val (.int (2 : Int32)), .val (.int f0), .val (.int f1), .val (.int f2), .val (.int lo), .val (.int hi), .val (.int mid), .val (.ref b274), .val (.ref b286), .val (.ref b297), .val (.int sel), .unset, .unset] [(.int sel)])) _
              refine Go.via (fun _ => XS.iconst X309.here hx rfl (hb hby at_305)) ?_
              by_cases hc349 : sel = (4 : Int32)
              · refine Go.via (fun _ => XS.icmpNo X309.here hx rfl (hb hby at_306) rfl (teq (hc349 : sel = (4 : Int32))).2) ?_
                refine Go.via (fun _ => XS.iload X309.here hx rfl (hb hby at_309) rfl) ?_
                refine Go.via (fun _ => XS.iconst X309.here hx rfl (hb hby at_311)) ?_
                refine Go.via (fun _ => XS.isub X309.here hx rfl (hb hby at_312) rfl) ?_
                show Go p e below (T309.setTop (mkF m 313 #[.val (.int x1), .val (.int y1), .val (.int z1), .val (.int w1), .val (.int s_), .val (.long fq), .second, .val (.int (2 : Int32)), .val (.int f0), .val (.int f1), .val (.int f2), .val (.int lo), .val (.int hi), .val (.int mid), .val (.ref b274), .val (.ref b286), .val (.ref b297), .val (.int sel), .unset, .unset] [(.int (lo - (1 : Int32)))])) _
                refine Go.via (fun _ => XS.istore X309.here hx rfl (hb hby at_313) rfl (l' := #[.val (.int x1), .val (.int y1), .val (.int z1), .val (.int w1), .val (.int s_), .val (.long fq), .second, .val (.int (2 : Int32)), .val (.int f0), .val (.int f1), .val (.int f2), .val (.int lo), .val (.int hi), .val (.int mid), .val (.ref b274), .val (.ref b286), .val (.ref b297), .val (.int sel), .val (.int (lo - (1 : Int32))), .unset]) rfl) ?_
                show Go p e below (T309.setTop (mkF m 315 #[.val (.int x1), .val (.int y1), .val (.int z1), .val (.int w1), .val (.int s_), .val (.long fq), .second, .val (.int (2 : Int32)), .val (.int f0), .val (.int f1), .val (.int f2), .val (.int lo), .val (.int hi), .val (.int mid), .val (.ref b274), .val (.ref b286), .val (.ref b297), .val (.int sel), .val (.int (lo - (1 : Int32))), .unset] [])) _
                refine Go.via (fun _ => XS.goto X309.here hx rfl (pc0 := 315) (pc' := 355) rfl (hb hby at_315) (by decide) (by decide)) ?_
                have f350 : Ia Z T309.heap b274 .int [(if y1 < x1 then y1 else x1), (if x1 < y1 then y1 else x1)] := ((f301.ext E297).keep K309q (ninS ne300 nin0))
                have f351 : Ia Z T309.heap b286 .int [f0, f1] := (f308.keep K309q (ninS ne302 nin0))
                have z352 : n0 ≤ T309.heap.size := (Nat.le_trans z310 K309q.1)
                have k353 : Keep h0 T309.heap [] := ((k298.ext E297).trans K309q (allS (Or.inr sz304) all0))
                exact J2 T309 _ T309.heap (lo - (1 : Int32)) sel X309 e309 N309 z352 k353 f314 f315 f316 f350 f351
              · refine Go.via (fun _ => XS.icmpYes X309.here hx rfl (pc0 := 306) (pc' := 318) rfl (hb hby at_306) rfl (feq (hc349 : ¬ (sel = (4 : Int32)))).2 (by decide) (by decide)) ?_
                refine Go.via (fun _ => XS.iload X309.here hx rfl (hb hby at_318) rfl) ?_
                refine Go.via (fun _ => XS.iconst X309.here hx rfl (hb hby at_320)) ?_
                by_cases hc354 : sel = (5 : Int32)
                · refine Go.via (fun _ => XS.icmpNo X309.here hx rfl (hb hby at_321) rfl (teq (hc354 : sel = (5 : Int32))).2) ?_
                  refine Go.via (fun _ => XS.iload X309.here hx rfl (hb hby at_324) rfl) ?_
                  show Go p e below (T309.setTop (mkF m 326 #[.val (.int x1), .val (.int y1), .val (.int z1), .val (.int w1), .val (.int s_), .val (.long fq), .second, .val (.int (2 : Int32)), .val (.int f0), .val (.int f1), .val (.int f2), .val (.int lo), .val (.int hi), .val (.int mid), .val (.ref b274), .val (.ref b286), .val (.ref b297), .val (.int sel), .unset, .unset] [(.int hi)])) _
                  refine Go.via (fun _ => XS.iconst X309.here hx rfl (hb hby at_326)) ?_
                  refine Go.via (fun _ => XS.iadd X309.here hx rfl (hb hby at_327) rfl) ?_
                  show Go p e below (T309.setTop (mkF m 328 #[.val (.int x1), .val (.int y1), .val (.int z1), .val (.int w1), .val (.int s_), .val (.long fq), .second, .val (.int (2 : Int32)), .val (.int f0), .val (.int f1), .val (.int f2), .val (.int lo), .val (.int hi), .val (.int mid), .val (.ref b274), .val (.ref b286), .val (.ref b297), .val (.int sel), .unset, .unset] [(.int (hi + (1 : Int32)))])) _
                  refine Go.via (fun _ => XS.istore X309.here hx rfl (hb hby at_328) rfl (l' := #[.val (.int x1), .val (.int y1), .val (.int z1), .val (.int w1), .val (.int s_), .val (.long fq), .second, .val (.int (2 : Int32)), .val (.int f0), .val (.int f1), .val (.int f2), .val (.int lo), .val (.int hi), .val (.int mid), .val (.ref b274), .val (.ref b286), .val (.ref b297), .val (.int sel), .val (.int (hi + (1 : Int32))), .unset]) rfl) ?_
                  show Go p e below (T309.setTop (mkF m 330 #[.val (.int x1), .val (.int y1), .val (.int z1), .val (.int w1), .val (.int s_), .val (.long fq), .second, .val (.int (2 : Int32)), .val (.int f0), .val (.int f1), .val (.int f2), .val (.int lo), .val (.int hi), .val (.int mid), .val (.ref b274), .val (.ref b286), .val (.ref b297), .val (.int sel), .val (.int (hi + (1 : Int32))), .unset] [])) _
                  refine Go.via (fun _ => XS.goto X309.here hx rfl (pc0 := 330) (pc' := 355) rfl (hb hby at_330) (by decide) (by decide)) ?_
                  have f355 : Ia Z T309.heap b274 .int [(if y1 < x1 then y1 else x1), (if x1 < y1 then y1 else x1)] := ((f301.ext E297).keep K309q (ninS ne300 nin0))
                  have f356 : Ia Z T309.heap b286 .int [f0, f1] := (f308.keep K309q (ninS ne302 nin0))
                  have z357 : n0 ≤ T309.heap.size := (Nat.le_trans z310 K309q.1)
                  have k358 : Keep h0 T309.heap [] := ((k298.ext E297).trans K309q (allS (Or.inr sz304) all0))
                  exact J2 T309 _ T309.heap (hi + (1 : Int32)) sel X309 e309 N309 z357 k358 f314 f315 f316 f355 f356
                · refine Go.via (fun _ => XS.icmpYes X309.here hx rfl (pc0 := 321) (pc' := 333) rfl (hb hby at_321) rfl (feq (hc354 : ¬ (sel = (5 : Int32)))).2 (by decide) (by decide)) ?_
                  refine Go.via (fun _ => XS.iload X309.here hx rfl (hb hby at_333) rfl) ?_
                  show Go p e below (T309.setTop (mkF m 335 #[.val (.int x1), .val (.int y1), .val (.int z1), .val (.int w1), .val (.int s_), .val (.long fq), .second, .val (.int (2 : Int32)), .val (.int f0), .val (.int f1), .val (.int f2), .val (.int lo), .val (.int hi), .val (.int mid), .val (.ref b274), .val (.ref b286), .val (.ref b297), .val (.int sel), .unset, .unset] [(.int sel)])) _
                  refine Go.via (fun _ => XS.bipush X309.here hx rfl (hb hby at_335)) ?_
                  by_cases hc359 : sel = (6 : Int32)
                  · refine Go.via (fun _ => XS.icmpNo X309.here hx rfl (hb hby at_337) rfl (teq (hc359 : sel = (6 : Int32))).2) ?_
                    refine Go.via (fun _ => XS.iload X309.here hx rfl (hb hby at_340) rfl) ?_
                    refine Go.via (fun _ => XS.iconst X309.here hx rfl (hb hby at_342)) ?_
                    refine Go.via (fun _ => XS.isub X309.here hx rfl (hb hby at_343) rfl) ?_
                    show Go p e below (T309.setTop (mkF m 344 #[.val (.int x1), .val (.int y1), .val (.int z1), .val (.int w1), .val (.int s_), .val (.long fq), .second, .val (.int (2 : Int32)), .val (.int f0), .val (.int f1), .val (.int f2), .val (.int lo), .val (.int hi), .val (.int mid), .val (.ref b274), .val (.ref b286), .val (.ref b297), .val (.int sel), .unset, .unset] [(.int (mid - (1 : Int32)))])) _
                    refine Go.via (fun _ => XS.istore X309.here hx rfl (hb hby at_344) rfl (l' := #[.val (.int x1), .val (.int y1), .val (.int z1), .val (.int w1), .val (.int s_), .val (.long fq), .second, .val (.int (2 : Int32)), .val (.int f0), .val (.int f1), .val (.int f2), .val (.int lo), .val (.int hi), .val (.int mid), .val (.ref b274), .val (.ref b286), .val (.ref b297), .val (.int sel), .val (.int (mid - (1 : Int32))), .unset]) rfl) ?_
                    show Go p e below (T309.setTop (mkF m 346 #[.val (.int x1), .val (.int y1), .val (.int z1), .val (.int w1), .val (.int s_), .val (.long fq), .second, .val (.int (2 : Int32)), .val (.int f0), .val (.int f1), .val (.int f2), .val (.int lo), .val (.int hi), .val (.int mid), .val (.ref b274), .val (.ref b286), .val (.ref b297), .val (.int sel), .val (.int (mid - (1 : Int32))), .unset] [])) _
                    refine Go.via (fun _ => XS.goto X309.here hx rfl (pc0 := 346) (pc' := 355) rfl (hb hby at_346) (by decide) (by decide)) ?_
                    have f360 : Ia Z T309.heap b274 .int [(if y1 < x1 then y1 else x1), (if x1 < y1 then y1 else x1)] := ((f301.ext E297).keep K309q (ninS ne300 nin0))
                    have f361 : Ia Z T309.heap b286 .int [f0, f1] := (f308.keep K309q (ninS ne302 nin0))
                    have z362 : n0 ≤ T309.heap.size := (Nat.le_trans z310 K309q.1)
                    have k363 : Keep h0 T309.heap [] := ((k298.ext E297).trans K309q (allS (Or.inr sz304) all0))
                    exact J2 T309 _ T309.heap (mid - (1 : Int32)) sel X309 e309 N309 z362 k363 f314 f315 f316 f360 f361
                  · refine Go.via (fun _ => XS.icmpYes X309.here hx rfl (pc0 := 337) (pc' := 349) rfl (hb hby at_337) rfl (feq (hc359 : ¬ (sel = (6 : Int32)))).2 (by decide) (by decide)) ?_
                    refine Go.via (fun _ => XS.iload X309.here hx rfl (hb hby at_349) rfl) ?_
                    refine Go.via (fun _ => XS.iconst X309.here hx rfl (hb hby at_351)) ?_
                    refine Go.via (fun _ => XS.iadd X309.here hx rfl (hb hby at_352) rfl) ?_
                    show Go p e below (T309.setTop (mkF m 353 #[.val (.int x1), .val (.int y1), .val (.int z1), .val (.int w1), .val (.int s_), .val (.long fq), .second, .val (.int (2 : Int32)), .val (.int f0), .val (.int f1), .val (.int f2), .val (.int lo), .val (.int hi), .val (.int mid), .val (.ref b274), .val (.ref b286), .val (.ref b297), .val (.int sel), .unset, .unset] [(.int (mid + (1 : Int32)))])) _
                    refine Go.via (fun _ => XS.istore X309.here hx rfl (hb hby at_353) rfl (l' := #[.val (.int x1), .val (.int y1), .val (.int z1), .val (.int w1), .val (.int s_), .val (.long fq), .second, .val (.int (2 : Int32)), .val (.int f0), .val (.int f1), .val (.int f2), .val (.int lo), .val (.int hi), .val (.int mid), .val (.ref b274), .val (.ref b286), .val (.ref b297), .val (.int sel), .val (.int (mid + (1 : Int32))), .unset]) rfl) ?_
                    have f364 : Ia Z T309.heap b274 .int [(if y1 < x1 then y1 else x1), (if x1 < y1 then y1 else x1)] := ((f301.ext E297).keep K309q (ninS ne300 nin0))
                    have f365 : Ia Z T309.heap b286 .int [f0, f1] := (f308.keep K309q (ninS ne302 nin0))
                    have z366 : n0 ≤ T309.heap.size := (Nat.le_trans z310 K309q.1)
                    have k367 : Keep h0 T309.heap [] := ((k298.ext E297).trans K309q (allS (Or.inr sz304) all0))
                    exact J2 T309 _ T309.heap (mid + (1 : Int32)) sel X309 e309 N309 z366 k367 f314 f315 f316 f364 f365
  · show Go p e below (T116.setTop (mkF m 82 #[.val (.int x1), .val (.int y1), .val (.int z1), .val (.int w1), .val (.int s_), .val (.long fq), .second, .val (.int (3 : Int32)), .val (.int f0), .val (.int f1), .val (.int f2), .val (.int lo), .val (.int hi), .val (.int mid), .unset, .unset, .unset, .unset, .unset, .unset] [])) _
    refine Go.via (fun _ => XS.iload X116.here hx rfl (hb hby at_82) rfl) ?_
    refine Go.via (fun _ => XS.ifYes X116.here hx rfl (pc0 := 84) (pc' := 100) rfl (hb hby at_84) rfl ((if0 _ _).trans (feq ((by decide) : ¬ ((3 : Int32) = (0 : Int32)))).2) (by decide) (by decide)) ?_
    show Go p e below (T116.setTop (mkF m 100 #[.val (.int x1), .val (.int y1), .val (.int z1), .val (.int w1), .val (.int s_), .val (.long fq), .second, .val (.int (3 : Int32)), .val (.int f0), .val (.int f1), .val (.int f2), .val (.int lo), .val (.int hi), .val (.int mid), .unset, .unset, .unset, .unset, .unset, .unset] [])) _
    refine Go.via (fun _ => XS.iload X116.here hx rfl (hb hby at_100) rfl) ?_
    refine Go.via (fun _ => XS.iconst X116.here hx rfl (hb hby at_102)) ?_
    refine Go.via (fun _ => XS.icmpYes X116.here hx rfl (pc0 := 103) (pc' := 128) rfl (hb hby at_103) rfl (feq ((by decide) : ¬ ((3 : Int32) = (1 : Int32)))).2 (by decide) (by decide)) ?_
    show Go p e below (T116.setTop (mkF m 128 #[.val (.int x1), .val (.int y1), .val (.int z1), .val (.int w1), .val (.int s_), .val (.long fq), .second, .val (.int (3 : Int32)), .val (.int f0), .val (.int f1), .val (.int f2), .val (.int lo), .val (.int hi), .val (.int mid), .unset, .unset, .unset, .unset, .unset, .unset] [])) _
    refine Go.via (fun _ => XS.iload X116.here hx rfl (hb hby at_128) rfl) ?_
    refine Go.via (fun _ => XS.iconst X116.here hx rfl (hb hby at_130)) ?_
    refine Go.via (fun _ => XS.icmpYes X116.here hx rfl (pc0 := 131) (pc' := 180) rfl (hb hby at_131) rfl (feq ((by decide) : ¬ ((3 : Int32) = (2 : Int32)))).2 (by decide) (by decide)) ?_
    show Go p e below (T116.setTop (mkF m 180 #[.val (.int x1), .val (.int y1), .val (.int z1), .val (.int w1), .val (.int s_), .val (.long fq), .second, .val (.int (3 : Int32)), .val (.int f0), .val (.int f1), .val (.int f2), .val (.int lo), .val (.int hi), .val (.int mid), .unset, .unset, .unset, .unset, .unset, .unset] [])) _
    refine Go.via (fun _ => XS.iload X116.here hx rfl (hb hby at_180) rfl) ?_
    refine Go.via (fun _ => XS.iload X116.here hx rfl (hb hby at_182) rfl) ?_
    by_cases hc368 : lo = mid
    · refine Go.via (fun _ => XS.icmpYes X116.here hx rfl (pc0 := 184) (pc' := 194) rfl (hb hby at_184) rfl (teq (hc368 : lo = mid)).1 (by decide) (by decide)) ?_
      refine Go.via (fun _ => XS.iconst X116.here hx rfl (hb hby at_194)) ?_
      exact Go.fin X116 hlk (v := some (.int (1 : Int32))) (fun h => by rw [Bd.returns] at h; cases h) (fun fs hr => retN X116 hx (t := .boolean) Bd.returns (by simp) (hb hby at_195) hr) (by rw [e116]; exact ⟨rfl, N116, (Keep.refl h0 [])⟩) (by decide) (by decide)
    · refine Go.via (fun _ => XS.icmpNo X116.here hx rfl (hb hby at_184) rfl (feq (hc368 : ¬ (lo = mid))).1) ?_
      refine Go.via (fun _ => XS.iload X116.here hx rfl (hb hby at_187) rfl) ?_
      refine Go.via (fun _ => XS.iload X116.here hx rfl (hb hby at_189) rfl) ?_
      show Go p e below (T116.setTop (mkF m 191 #[.val (.int x1), .val (.int y1), .val (.int z1), .val (.int w1), .val (.int s_), .val (.long fq), .second, .val (.int (3 : Int32)), .val (.int f0), .val (.int f1), .val (.int f2), .val (.int lo), .val (.int hi), .val (.int mid), .unset, .unset, .unset, .unset, .unset, .unset] [(.int hi), (.int mid)])) _
      by_cases hc369 : mid = hi
      · refine Go.via (fun _ => XS.icmpNo X116.here hx rfl (hb hby at_191) rfl (teq (hc369 : mid = hi)).2) ?_
        show Go p e below (T116.setTop (mkF m 194 #[.val (.int x1), .val (.int y1), .val (.int z1), .val (.int w1), .val (.int s_), .val (.long fq), .second, .val (.int (3 : Int32)), .val (.int f0), .val (.int f1), .val (.int f2), .val (.int lo), .val (.int hi), .val (.int mid), .unset, .unset, .unset, .unset, .unset, .unset] [])) _
        refine Go.via (fun _ => XS.iconst X116.here hx rfl (hb hby at_194)) ?_
        exact Go.fin X116 hlk (v := some (.int (1 : Int32))) (fun h => by rw [Bd.returns] at h; cases h) (fun fs hr => retN X116 hx (t := .boolean) Bd.returns (by simp) (hb hby at_195) hr) (by rw [e116]; exact ⟨rfl, N116, (Keep.refl h0 [])⟩) (by decide) (by decide)
      · refine Go.via (fun _ => XS.icmpYes X116.here hx rfl (pc0 := 191) (pc' := 196) rfl (hb hby at_191) rfl (feq (hc369 : ¬ (mid = hi))).2 (by decide) (by decide)) ?_
        show Go p e below (T116.setTop (mkF m 196 #[.val (.int x1), .val (.int y1), .val (.int z1), .val (.int w1), .val (.int s_), .val (.long fq), .second, .val (.int (3 : Int32)), .val (.int f0), .val (.int f1), .val (.int f2), .val (.int lo), .val (.int hi), .val (.int mid), .unset, .unset, .unset, .unset, .unset, .unset] [])) _
        refine Go.via (fun _ => XS.iconst X116.here hx rfl (hb hby at_196)) ?_
        obtain ⟨T370, h370, k370, X370, e370, E370, A370, B370, st370⟩ := newPE X116 hx hZ (tw hw 8 rfl) e116 (g := (mkF m 197 #[.val (.int x1), .val (.int y1), .val (.int z1), .val (.int w1), .val (.int s_), .val (.long fq), .second, .val (.int (3 : Int32)), .val (.int f0), .val (.int f1), .val (.int f2), .val (.int lo), .val (.int hi), .val (.int mid), .unset, .unset, .unset, .unset, .unset, .unset] [(.int (3 : Int32))])) rfl (hb hby at_197) rfl (by decide) (cap := 3) (by decide) (by decide) (by decide) (by decide) (ad := "[I") (by decide)
        obtain ⟨b370, g370⟩ : ∃ z, z = h0.size := ⟨_, rfl⟩
        rw [← g370] at A370 B370 st370
        have ge371 : n0 ≤ b370 := Nat.le_trans Z0 (Nat.le_of_eq g370.symm)
        have sz372 : h0.size ≤ b370 := Nat.le_trans (Keep.refl h0 []).1 (Nat.le_of_eq g370.symm)
        refine Go.via (st370) ?_
        have f373 : Ia Z h370 b370 .int [(0 : Int32), (0 : Int32), (0 : Int32)] := Ia.new A370 rfl
        show Go p e below (T370.setTop (mkF m 199 #[.val (.int x1), .val (.int y1), .val (.int z1), .val (.int w1), .val (.int s_), .val (.long fq), .second, .val (.int (3 : Int32)), .val (.int f0), .val (.int f1), .val (.int f2), .val (.int lo), .val (.int hi), .val (.int mid), .unset, .unset, .unset, .unset, .unset, .unset] [(.ref b370)])) _
        refine Go.via (fun _ => XS.dup X370.here hx rfl (hb hby at_199) rfl rfl) ?_
        refine Go.via (fun _ => XS.iconst X370.here hx rfl (hb hby at_200)) ?_
        refine Go.via (fun _ => XS.iload X370.here hx rfl (hb hby at_201) rfl) ?_
        obtain ⟨T374, h374, X374, e374, W374, V374, st374⟩ := stI' X370 hx hZ e370 f373 (j := (0 : Int32)) (by decide) (by first | decide | (simp only [List.length_cons, List.length_nil]; decide) | rfl) (g := (mkF m 203 #[.val (.int x1), .val (.int y1), .val (.int z1), .val (.int w1), .val (.int s_), .val (.long fq), .second, .val (.int (3 : Int32)), .val (.int f0), .val (.int f1), .val (.int f2), .val (.int lo), .val (.int hi), .val (.int mid), .unset, .unset, .unset, .unset, .unset, .unset] [(.int lo), (.int (0 : Int32)), (.ref b370), (.ref b370)])) rfl rfl (hb hby at_203)
        refine Go.via (st374) ?_
        have N374 := Fr.snoc X374 N116 ge371
        have f375 : Ia Z h374 b370 .int [lo, (0 : Int32), (0 : Int32)] := V374
        show Go p e below (T374.setTop (mkF m 204 #[.val (.int x1), .val (.int y1), .val (.int z1), .val (.int w1), .val (.int s_), .val (.long fq), .second, .val (.int (3 : Int32)), .val (.int f0), .val (.int f1), .val (.int f2), .val (.int lo), .val (.int hi), .val (.int mid), .unset, .unset, .unset, .unset, .unset, .unset] [(.ref b370)])) _
        refine Go.via (fun _ => XS.dup X374.here hx rfl (hb hby at_204) rfl rfl) ?_
        refine Go.via (fun _ => XS.iconst X374.here hx rfl (hb hby at_205)) ?_
        refine Go.via (fun _ => XS.iload X374.here hx rfl (hb hby at_206) rfl) ?_
        obtain ⟨T376, h376, X376, e376, W376, V376, st376⟩ := stI' X374 hx hZ e374 f375 (j := (1 : Int32)) (by decide) (by first | decide | (simp only [List.length_cons, List.length_nil]; decide) | rfl) (g := (mkF m 208 #[.val (.int x1), .val (.int y1), .val (.int z1), .val (.int w1), .val (.int s_), .val (.long fq), .second, .val (.int (3 : Int32)), .val (.int f0), .val (.int f1), .val (.int f2), .val (.int lo), .val (.int hi), .val (.int mid), .unset, .unset, .unset, .unset, .unset, .unset] [(.int mid), (.int (1 : Int32)), (.ref b370), (.ref b370)])) rfl rfl (hb hby at_208)
        refine Go.via (st376) ?_
        have N376 := Fr.snoc X376 N374 ge371
        have f377 : Ia Z h376 b370 .int [lo, mid, (0 : Int32)] := V376
        show Go p e below (T376.setTop (mkF m 209 #[.val (.int x1), .val (.int y1), .val (.int z1), .val (.int w1), .val (.int s_), .val (.long fq), .second, .val (.int (3 : Int32)), .val (.int f0), .val (.int f1), .val (.int f2), .val (.int lo), .val (.int hi), .val (.int mid), .unset, .unset, .unset, .unset, .unset, .unset] [(.ref b370)])) _
        refine Go.via (fun _ => XS.dup X376.here hx rfl (hb hby at_209) rfl rfl) ?_
        refine Go.via (fun _ => XS.iconst X376.here hx rfl (hb hby at_210)) ?_
        refine Go.via (fun _ => XS.iload X376.here hx rfl (hb hby at_211) rfl) ?_
        obtain ⟨T378, h378, X378, e378, W378, V378, st378⟩ := stI' X376 hx hZ e376 f377 (j := (2 : Int32)) (by decide) (by first | decide | (simp only [List.length_cons, List.length_nil]; decide) | rfl) (g := (mkF m 213 #[.val (.int x1), .val (.int y1), .val (.int z1), .val (.int w1), .val (.int s_), .val (.long fq), .second, .val (.int (3 : Int32)), .val (.int f0), .val (.int f1), .val (.int f2), .val (.int lo), .val (.int hi), .val (.int mid), .unset, .unset, .unset, .unset, .unset, .unset] [(.int hi), (.int (2 : Int32)), (.ref b370), (.ref b370)])) rfl rfl (hb hby at_213)
        refine Go.via (st378) ?_
        have N378 := Fr.snoc X378 N376 ge371
        have f379 : Ia Z h378 b370 .int [lo, mid, hi] := V378
        show Go p e below (T378.setTop (mkF m 214 #[.val (.int x1), .val (.int y1), .val (.int z1), .val (.int w1), .val (.int s_), .val (.long fq), .second, .val (.int (3 : Int32)), .val (.int f0), .val (.int f1), .val (.int f2), .val (.int lo), .val (.int hi), .val (.int mid), .unset, .unset, .unset, .unset, .unset, .unset] [(.ref b370)])) _
        refine Go.via (fun _ => XS.astore X378.here hx rfl (hb hby at_214) rfl rfl (l' := #[.val (.int x1), .val (.int y1), .val (.int z1), .val (.int w1), .val (.int s_), .val (.long fq), .second, .val (.int (3 : Int32)), .val (.int f0), .val (.int f1), .val (.int f2), .val (.int lo), .val (.int hi), .val (.int mid), .val (.ref b370), .unset, .unset, .unset, .unset, .unset]) rfl) ?_
        show Go p e below (T378.setTop (mkF m 216 #[.val (.int x1), .val (.int y1), .val (.int z1), .val (.int w1), .val (.int s_), .val (.long fq), .second, .val (.int (3 : Int32)), .val (.int f0), .val (.int f1), .val (.int f2), .val (.int lo), .val (.int hi), .val (.int mid), .val (.ref b370), .unset, .unset, .unset, .unset, .unset] [])) _
        refine Go.via (fun _ => XS.iconst X378.here hx rfl (hb hby at_216)) ?_
        have k381 : Keep h0 h378 [] := (((((Keep.refl h0 []).ext E370).wr W374 (Or.inr sz372)).wr W376 (Or.inr sz372)).wr W378 (Or.inr sz372))
        have z382 : n0 ≤ h378.size := (Nat.le_trans (Nat.le_trans (Nat.le_trans (Nat.le_trans Z0 E370.1) (Keep.of_wr W374).1) (Keep.of_wr W376).1) (Keep.of_wr W378).1)
        obtain ⟨T380, h380, k380, X380, e380, E380, A380, B380, st380⟩ := newPE X378 hx hZ (tw hw 8 rfl) e378 (g := (mkF m 217 #[.val (.int x1), .val (.int y1), .val (.int z1), .val (.int w1), .val (.int s_), .val (.long fq), .second, .val (.int (3 : Int32)), .val (.int f0), .val (.int f1), .val (.int f2), .val (.int lo), .val (.int hi), .val (.int mid), .val (.ref b370), .unset, .unset, .unset, .unset, .unset] [(.int (3 : Int32))])) rfl (hb hby at_217) rfl (by decide) (cap := 3) (by decide) (by decide) (by decide) (by decide) (ad := "[I") (by decide)
        obtain ⟨b380, g380⟩ : ∃ z, z = h378.size := ⟨_, rfl⟩
        rw [← g380] at A380 B380 st380
        have ne383 : b370 ≠ b380 := Nat.ne_of_lt (Nat.lt_of_lt_of_le f379.lt (Nat.le_of_eq g380.symm))
        have ge384 : n0 ≤ b380 := Nat.le_trans z382 (Nat.le_of_eq g380.symm)
        have sz385 : h0.size ≤ b380 := Nat.le_trans k381.1 (Nat.le_of_eq g380.symm)
        refine Go.via (st380) ?_
        have f386 : Ia Z h380 b380 .int [(0 : Int32), (0 : Int32), (0 : Int32)] := Ia.new A380 rfl
        show Go p e below (T380.setTop (mkF m 219 #[.val (.int x1), .val (.int y1), .val (.int z1), .val (.int w1), .val (.int s_), .val (.long fq), .second, .val (.int (3 : Int32)), .val (.int f0), .val (.int f1), .val (.int f2), .val (.int lo), .val (.int hi), .val (.int mid), .val (.ref b370), .unset, .unset, .unset, .unset, .unset] [(.ref b380)])) _
        refine Go.via (fun _ => XS.dup X380.here hx rfl (hb hby at_219) rfl rfl) ?_
        refine Go.via (fun _ => XS.iconst X380.here hx rfl (hb hby at_220)) ?_
        refine Go.via (fun _ => XS.iload X380.here hx rfl (hb hby at_221) rfl) ?_
        obtain ⟨T387, h387, X387, e387, W387, V387, st387⟩ := stI' X380 hx hZ e380 f386 (j := (0 : Int32)) (by decide) (by first | decide | (simp only [List.length_cons, List.length_nil]; decide) | rfl) (g := (mkF m 223 #[.val (.int x1), .val (.int y1), .val (.int z1), .val (.int w1), .val (.int s_), .val (.long fq), .second, .val (.int (3 : Int32)), .val (.int f0), .val (.int f1), .val (.int f2), .val (.int lo), .val (.int hi), .val (.int mid), .val (.ref b370), .unset, .unset, .unset, .unset, .unset] [(.int f0), (.int (0 : Int32)), (.ref b380), (.ref b380)])) rfl rfl (hb hby at_223)
        refine Go.via (st387) ?_
        have N387 := Fr.snoc X387 N378 ge384
        have f388 : Ia Z h387 b380 .int [f0, (0 : Int32), (0 : Int32)] := V387
        show Go p e below (T387.setTop (mkF m 224 #[.val (.int x1), .val (.int y1), .val (.int z1), .val (.int w1), .val (.int s_), .val (.long fq), .second, .val (.int (3 : Int32)), .val (.int f0), .val (.int f1), .val (.int f2), .val (.int lo), .val (.int hi), .val (.int mid), .val (.ref b370), .unset, .unset, .unset, .unset, .unset] [(.ref b380)])) _
        refine Go.via (fun _ => XS.dup X387.here hx rfl (hb hby at_224) rfl rfl) ?_
        refine Go.via (fun _ => XS.iconst X387.here hx rfl (hb hby at_225)) ?_
        refine Go.via (fun _ => XS.iload X387.here hx rfl (hb hby at_226) rfl) ?_
        obtain ⟨T389, h389, X389, e389, W389, V389, st389⟩ := stI' X387 hx hZ e387 f388 (j := (1 : Int32)) (by decide) (by first | decide | (simp only [List.length_cons, List.length_nil]; decide) | rfl) (g := (mkF m 228 #[.val (.int x1), .val (.int y1), .val (.int z1), .val (.int w1), .val (.int s_), .val (.long fq), .second, .val (.int (3 : Int32)), .val (.int f0), .val (.int f1), .val (.int f2), .val (.int lo), .val (.int hi), .val (.int mid), .val (.ref b370), .unset, .unset, .unset, .unset, .unset] [(.int f1), (.int (1 : Int32)), (.ref b380), (.ref b380)])) rfl rfl (hb hby at_228)
        refine Go.via (st389) ?_
        have N389 := Fr.snoc X389 N387 ge384
        have f390 : Ia Z h389 b380 .int [f0, f1, (0 : Int32)] := V389
        show Go p e below (T389.setTop (mkF m 229 #[.val (.int x1), .val (.int y1), .val (.int z1), .val (.int w1), .val (.int s_), .val (.long fq), .second, .val (.int (3 : Int32)), .val (.int f0), .val (.int f1), .val (.int f2), .val (.int lo), .val (.int hi), .val (.int mid), .val (.ref b370), .unset, .unset, .unset, .unset, .unset] [(.ref b380)])) _
        refine Go.via (fun _ => XS.dup X389.here hx rfl (hb hby at_229) rfl rfl) ?_
        refine Go.via (fun _ => XS.iconst X389.here hx rfl (hb hby at_230)) ?_
        refine Go.via (fun _ => XS.iload X389.here hx rfl (hb hby at_231) rfl) ?_
        obtain ⟨T391, h391, X391, e391, W391, V391, st391⟩ := stI' X389 hx hZ e389 f390 (j := (2 : Int32)) (by decide) (by first | decide | (simp only [List.length_cons, List.length_nil]; decide) | rfl) (g := (mkF m 233 #[.val (.int x1), .val (.int y1), .val (.int z1), .val (.int w1), .val (.int s_), .val (.long fq), .second, .val (.int (3 : Int32)), .val (.int f0), .val (.int f1), .val (.int f2), .val (.int lo), .val (.int hi), .val (.int mid), .val (.ref b370), .unset, .unset, .unset, .unset, .unset] [(.int f2), (.int (2 : Int32)), (.ref b380), (.ref b380)])) rfl rfl (hb hby at_233)
        refine Go.via (st391) ?_
        have N391 := Fr.snoc X391 N389 ge384
        have f392 : Ia Z h391 b380 .int [f0, f1, f2] := V391
        show Go p e below (T391.setTop (mkF m 234 #[.val (.int x1), .val (.int y1), .val (.int z1), .val (.int w1), .val (.int s_), .val (.long fq), .second, .val (.int (3 : Int32)), .val (.int f0), .val (.int f1), .val (.int f2), .val (.int lo), .val (.int hi), .val (.int mid), .val (.ref b370), .unset, .unset, .unset, .unset, .unset] [(.ref b380)])) _
        refine Go.via (fun _ => XS.astore X391.here hx rfl (hb hby at_234) rfl rfl (l' := #[.val (.int x1), .val (.int y1), .val (.int z1), .val (.int w1), .val (.int s_), .val (.long fq), .second, .val (.int (3 : Int32)), .val (.int f0), .val (.int f1), .val (.int f2), .val (.int lo), .val (.int hi), .val (.int mid), .val (.ref b370), .val (.ref b380), .unset, .unset, .unset, .unset]) rfl) ?_
        show Go p e below (T391.setTop (mkF m 236 #[.val (.int x1), .val (.int y1), .val (.int z1), .val (.int w1), .val (.int s_), .val (.long fq), .second, .val (.int (3 : Int32)), .val (.int f0), .val (.int f1), .val (.int f2), .val (.int lo), .val (.int hi), .val (.int mid), .val (.ref b370), .val (.ref b380), .unset, .unset, .unset, .unset] [])) _
        have k394 : Keep h0 h391 [] := ((((k381.ext E380).wr W387 (Or.inr sz385)).wr W389 (Or.inr sz385)).wr W391 (Or.inr sz385))
        have z395 : n0 ≤ h391.size := (Nat.le_trans (Nat.le_trans (Nat.le_trans (Nat.le_trans z382 E380.1) (Keep.of_wr W387).1) (Keep.of_wr W389).1) (Keep.of_wr W391).1)
        obtain ⟨T393, h393, X393, e393, E393, A393, D393, -, st393⟩ := newO X391 hx hZ hown (tw hw 9 rfl) (tw hw 10 rfl) (tw hw 11 rfl) e391 (g := (mkF m 236 #[.val (.int x1), .val (.int y1), .val (.int z1), .val (.int w1), .val (.int s_), .val (.long fq), .second, .val (.int (3 : Int32)), .val (.int f0), .val (.int f1), .val (.int f2), .val (.int lo), .val (.int hi), .val (.int mid), .val (.ref b370), .val (.ref b380), .unset, .unset, .unset, .unset] [])) rfl (hb hby at_236) (by decide) (by decide)
        obtain ⟨b393, g393⟩ : ∃ z, z = h391.size := ⟨_, rfl⟩
        rw [← g393] at A393 D393 st393
        have f397 : Ia Z h391 b370 .int [lo, mid, hi] := ((((f379.ext E380).other W387 ne383).other W389 ne383).other W391 ne383)
        have ne396 : b370 ≠ b393 := Nat.ne_of_lt (Nat.lt_of_lt_of_le f397.lt (Nat.le_of_eq g393.symm))
        have ne398 : b380 ≠ b393 := Nat.ne_of_lt (Nat.lt_of_lt_of_le f392.lt (Nat.le_of_eq g393.symm))
        have ge399 : n0 ≤ b393 := Nat.le_trans z395 (Nat.le_of_eq g393.symm)
        have sz400 : h0.size ≤ b393 := Nat.le_trans k394.1 (Nat.le_of_eq g393.symm)
        refine Go.via (st393) ?_
        have f401 : Fld Z h393 b393 "com/example/libcosearch/libcosearch/PostingList" "documents" "[I" .null := D393 (Or.inr (tw hw 19 rfl)) (ty := (.array .int)) (by decide)
        have f402 : Fld Z h393 b393 "com/example/libcosearch/libcosearch/PostingList" "frequencies" "[I" .null := D393 (Or.inr (tw hw 21 rfl)) (ty := (.array .int)) (by decide)
        have f403 : Fld Z h393 b393 "com/example/libcosearch/libcosearch/PostingList" "collectionFrequency" "J" (.long (0 : Int64)) := D393 (Or.inr (tw hw 23 rfl)) (ty := .long) (by decide)
        show Go p e below (T393.setTop (mkF m 239 #[.val (.int x1), .val (.int y1), .val (.int z1), .val (.int w1), .val (.int s_), .val (.long fq), .second, .val (.int (3 : Int32)), .val (.int f0), .val (.int f1), .val (.int f2), .val (.int lo), .val (.int hi), .val (.int mid), .val (.ref b370), .val (.ref b380), .unset, .unset, .unset, .unset] [(.ref b393)])) _
        refine Go.via (fun _ => XS.dup X393.here hx rfl (hb hby at_239) rfl rfl) ?_
        refine Go.via (fun _ => XS.aload X393.here hx rfl (hb hby at_240) rfl rfl) ?_
        refine Go.via (fun _ => XS.aload X393.here hx rfl (hb hby at_242) rfl rfl) ?_
        have f404 : Ia Z h393 b380 .int [f0, f1, f2] := (f392.ext E393)
        have z406 : n0 ≤ h393.size := (Nat.le_trans z395 E393.1)
        obtain ⟨_, _, ⟨T405, L405, k405, n405⟩, -, X405, ⟨Lc405, hQ405, l405, y405, z405⟩, st405⟩ := X393.specialBack hx (y := (⟨"com/example/libcosearch/libcosearch/PostingList", "<init>", "([I[I)V"⟩ : MethodName)) rfl hown (mvT hZ (tw hw 12 rfl)) (mvT hZ (tw hw 13 rfl)) (mvT hZ (tw hw 14 rfl)) (by decide) (backOf (W := 1) (rmI3 l Z a0 hw [] b393 b370 b380 f0 f1 f2 h393 n0 z406 A393 f401 f402 f403 f404 ge399 (Ne.symm ne398)) hZ (tw hw 14 rfl) (tw hw 11 rfl) (by decide) (by decide)) (g := (mkF m 244 #[.val (.int x1), .val (.int y1), .val (.int z1), .val (.int w1), .val (.int s_), .val (.long fq), .second, .val (.int (3 : Int32)), .val (.int f0), .val (.int f1), .val (.int f2), .val (.int lo), .val (.int hi), .val (.int mid), .val (.ref b370), .val (.ref b380), .unset, .unset, .unset, .unset] [(.ref b380), (.ref b370), (.ref b393), (.ref b393)])) rfl (by rw [hml]; rfl) (Steps.refl _) (a := b393) (argsL := [(.ref b370), (.ref b380)]) (rest := [(.ref b393)]) (lenOf pd__28_5bI_5bI_29V rfl) rfl (by show 2 * 0 + _ ≤ _; exact Nat.le_of_eq rfl) (hb hby at_244) (fun _ _ => ⟨rfl, e393, (by decide : 3 + 0 ≤ _), (by decide : 9 + 0 ≤ _)⟩)
        dsimp only [Pt.U, Pt.locs, Pt.cells, Pt.slots] at X405 l405 y405 z405 st405 hQ405
        subst l405 y405 z405
        obtain ⟨rfl, N405q, K405q, f407, f408, f409⟩ := hQ405
        have N405 := Fr.app N391 N405q
        refine Go.via (fun _ kQ => st405.trans kQ) ?_
        have e405 : T405.heap = T405.heap := rfl
        have f410 : Exa Z T405.heap b393 "com/example/libcosearch/libcosearch/PostingList" := f407
        have f411 : Fld Z T405.heap b393 "com/example/libcosearch/libcosearch/PostingList" "documents" "[I" (.ref b370) := f408
        have f412 : Fld Z T405.heap b393 "com/example/libcosearch/libcosearch/PostingList" "frequencies" "[I" (.ref b380) := f409
        show Go p e below (T405.setTop (mkF m 247 #[.val (.int x1), .val (.int y1), .val (.int z1), .val (.int w1), .val (.int s_), .val (.long fq), .second, .val (.int (3 : Int32)), .val (.int f0), .val (.int f1), .val (.int f2), .val (.int lo), .val (.int hi), .val (.int mid), .val (.ref b370), .val (.ref b380), .unset, .unset, .unset, .unset] [(.ref b393)])) _
        refine Go.via (fun _ => XS.astore X405.here hx rfl (hb hby at_247) rfl rfl (l' := #[.val (.int x1), .val (.int y1), .val (.int z1), .val (.int w1), .val (.int s_), .val (.long fq), .second, .val (.int (3 : Int32)), .val (.int f0), .val (.int f1), .val (.int f2), .val (.int lo), .val (.int hi), .val (.int mid), .val (.ref b370), .val (.ref b380), .val (.ref b393), .unset, .unset, .unset]) rfl) ?_
        show Go p e below (T405.setTop (mkF m 249 #[.val (.int x1), .val (.int y1), .val (.int z1), .val (.int w1), .val (.int s_), .val (.long fq), .second, .val (.int (3 : Int32)), .val (.int f0), .val (.int f1), .val (.int f2), .val (.int lo), .val (.int hi), .val (.int mid), .val (.ref b370), .val (.ref b380), .val (.ref b393), .unset, .unset, .unset] [])) _
        have hsrt := own_mid hv_lo hv_hi hv_mid (by assumption) (by assumption)
        have J3 : ∀ (T413 : State) (L413 : List Loc) (h413 : Heap) (q : Int32) (sel : Int32), Stand p l e room_1 s m #[(.int x1), (.int y1), (.int z1), (.int w1), (.int s_), (.long fq)] below meth c T413 L413 3 9 → T413.heap = h413 → Fr n0 L413 → n0 ≤ h413.size → Keep h0 h413 [] → Exa Z h413 b393 "com/example/libcosearch/libcosearch/PostingList" → Fld Z h413 b393 "com/example/libcosearch/libcosearch/PostingList" "documents" "[I" (.ref b370) → Fld Z h413 b393 "com/example/libcosearch/libcosearch/PostingList" "frequencies" "[I" (.ref b380) → Ia Z h413 b370 .int [lo, mid, hi] → Ia Z h413 b380 .int [f0, f1, f2] → Go p e below (T413.setTop (mkF m 355 #[.val (.int x1), .val (.int y1), .val (.int z1), .val (.int w1), .val (.int s_), .val (.long fq), .second, .val (.int (3 : Int32)), .val (.int f0), .val (.int f1), .val (.int f2), .val (.int lo), .val (.int hi), .val (.int mid), .val (.ref b370), .val (.ref b380), .val (.ref b393), .val (.int sel), .val (.int q), .unset] [])) (Done s (Q_rm0 Z x1 y1 z1 w1 s_ fq h0 n0) room_1.cells room_1.slots) := by
          intro T413 L413 h413 q sel X413 e413 N413 z413 k413 fE413 fd413 ff413 fx413 fy413 
          show Go p e below (T413.setTop (mkF m 355 #[.val (.int x1), .val (.int y1), .val (.int z1), .val (.int w1), .val (.int s_), .val (.long fq), .second, .val (.int (3 : Int32)), .val (.int f0), .val (.int f1), .val (.int f2), .val (.int lo), .val (.int hi), .val (.int mid), .val (.ref b370), .val (.ref b380), .val (.ref b393), .val (.int sel), .val (.int q), .unset] [])) _
          refine Go.via (fun _ => XS.iconst X413.here hx rfl (hb hby at_355)) ?_
          refine Go.via (fun _ => XS.istore X413.here hx rfl (hb hby at_356) rfl (l' := #[.val (.int x1), .val (.int y1), .val (.int z1), .val (.int w1), .val (.int s_), .val (.long fq), .second, .val (.int (3 : Int32)), .val (.int f0), .val (.int f1), .val (.int f2), .val (.int lo), .val (.int hi), .val (.int mid), .val (.ref b370), .val (.ref b380), .val (.ref b393), .val (.int sel), .val (.int q), .val (.int (0 : Int32))]) rfl) ?_
          show Go p e below (T413.setTop (mkF m 358 #[.val (.int x1), .val (.int y1), .val (.int z1), .val (.int w1), .val (.int s_), .val (.long fq), .second, .val (.int (3 : Int32)), .val (.int f0), .val (.int f1), .val (.int f2), .val (.int lo), .val (.int hi), .val (.int mid), .val (.ref b370), .val (.ref b380), .val (.ref b393), .val (.int sel), .val (.int q), .val (.int (0 : Int32))] [])) _
          refine Go.via (fun _ => XS.iload X413.here hx rfl (hb hby at_358) rfl) ?_
          refine Go.via (fun _ => XS.iconst X413.here hx rfl (hb hby at_360)) ?_
          refine Go.via (fun _ => XS.icmpNo X413.here hx rfl (hb hby at_361) rfl (flt ((by decide) : ¬ ((3 : Int32) < (1 : Int32)))).1) ?_
          show Go p e below (T413.setTop (mkF m 364 #[.val (.int x1), .val (.int y1), .val (.int z1), .val (.int w1), .val (.int s_), .val (.long fq), .second, .val (.int (3 : Int32)), .val (.int f0), .val (.int f1), .val (.int f2), .val (.int lo), .val (.int hi), .val (.int mid), .val (.ref b370), .val (.ref b380), .val (.ref b393), .val (.int sel), .val (.int q), .val (.int (0 : Int32))] [])) _
          refine Go.via (fun _ => XS.iload X413.here hx rfl (hb hby at_364) rfl) ?_
          refine Go.via (fun _ => XS.aload X413.here hx rfl (hb hby at_366) rfl rfl) ?_
          refine Go.via (fun _ => XS.iconst X413.here hx rfl (hb hby at_368)) ?_
          refine Go.via (ldI X413 hx hZ e413 fx413 (v := lo) (by decide) rfl (g := (mkF m 369 #[.val (.int x1), .val (.int y1), .val (.int z1), .val (.int w1), .val (.int s_), .val (.long fq), .second, .val (.int (3 : Int32)), .val (.int f0), .val (.int f1), .val (.int f2), .val (.int lo), .val (.int hi), .val (.int mid), .val (.ref b370), .val (.ref b380), .val (.ref b393), .val (.int sel), .val (.int q), .val (.int (0 : Int32))] [(.int (0 : Int32)), (.ref b370), (.int q)])) rfl rfl (hb hby at_369)) ?_
          show Go p e below (T413.setTop (mkF m 370 #[.val (.int x1), .val (.int y1), .val (.int z1), .val (.int w1), .val (.int s_), .val (.long fq), .second, .val (.int (3 : Int32)), .val (.int f0), .val (.int f1), .val (.int f2), .val (.int lo), .val (.int hi), .val (.int mid), .val (.ref b370), .val (.ref b380), .val (.ref b393), .val (.int sel), .val (.int q), .val (.int (0 : Int32))] [(.int lo), (.int q)])) _
          by_cases hc414 : q = lo
          · refine Go.via (fun _ => XS.icmpNo X413.here hx rfl (hb hby at_370) rfl (teq (hc414 : q = lo)).2) ?_
            show Go p e below (T413.setTop (mkF m 373 #[.val (.int x1), .val (.int y1), .val (.int z1), .val (.int w1), .val (.int s_), .val (.long fq), .second, .val (.int (3 : Int32)), .val (.int f0), .val (.int f1), .val (.int f2), .val (.int lo), .val (.int hi), .val (.int mid), .val (.ref b370), .val (.ref b380), .val (.ref b393), .val (.int sel), .val (.int q), .val (.int (0 : Int32))] [])) _
            refine Go.via (fun _ => XS.aload X413.here hx rfl (hb hby at_373) rfl rfl) ?_
            refine Go.via (fun _ => XS.iconst X413.here hx rfl (hb hby at_375)) ?_
            refine Go.via (ldI X413 hx hZ e413 fy413 (v := f0) (by decide) rfl (g := (mkF m 376 #[.val (.int x1), .val (.int y1), .val (.int z1), .val (.int w1), .val (.int s_), .val (.long fq), .second, .val (.int (3 : Int32)), .val (.int f0), .val (.int f1), .val (.int f2), .val (.int lo), .val (.int hi), .val (.int mid), .val (.ref b370), .val (.ref b380), .val (.ref b393), .val (.int sel), .val (.int q), .val (.int (0 : Int32))] [(.int (0 : Int32)), (.ref b380)])) rfl rfl (hb hby at_376)) ?_
            show Go p e below (T413.setTop (mkF m 377 #[.val (.int x1), .val (.int y1), .val (.int z1), .val (.int w1), .val (.int s_), .val (.long fq), .second, .val (.int (3 : Int32)), .val (.int f0), .val (.int f1), .val (.int f2), .val (.int lo), .val (.int hi), .val (.int mid), .val (.ref b370), .val (.ref b380), .val (.ref b393), .val (.int sel), .val (.int q), .val (.int (0 : Int32))] [(.int f0)])) _
            refine Go.via (fun _ => XS.istore X413.here hx rfl (hb hby at_377) rfl (l' := #[.val (.int x1), .val (.int y1), .val (.int z1), .val (.int w1), .val (.int s_), .val (.long fq), .second, .val (.int (3 : Int32)), .val (.int f0), .val (.int f1), .val (.int f2), .val (.int lo), .val (.int hi), .val (.int mid), .val (.ref b370), .val (.ref b380), .val (.ref b393), .val (.int sel), .val (.int q), .val (.int f0)]) rfl) ?_
            show Go p e below (T413.setTop (mkF m 379 #[.val (.int x1), .val (.int y1), .val (.int z1), .val (.int w1), .val (.int s_), .val (.long fq), .second, .val (.int (3 : Int32)), .val (.int f0), .val (.int f1), .val (.int f2), .val (.int lo), .val (.int hi), .val (.int mid), .val (.ref b370), .val (.ref b380), .val (.ref b393), .val (.int sel), .val (.int q), .val (.int f0)] [])) _
            refine Go.via (fun _ => XS.goto X413.here hx rfl (pc0 := 379) (pc' := 427) rfl (hb hby at_379) (by decide) (by decide)) ?_
            refine Go.via (fun _ => XS.aload X413.here hx rfl (hb hby at_427) rfl rfl) ?_
            refine Go.via (fun _ => XS.iload X413.here hx rfl (hb hby at_429) rfl) ?_
            obtain ⟨cq415, kq415, q415a, q415b, q415c⟩ := isOf hZ e413 fE413
            obtain ⟨_, _, ⟨T415, L415, k415, n415⟩, -, X415, ⟨Lc415, hQ415, l415, y415, z415⟩, st415⟩ := X413.virtualBack hx (y := (⟨"com/example/libcosearch/libcosearch/PostingList", "frequencyIn", "(I)I"⟩ : MethodName)) (z := (⟨"com/example/libcosearch/libcosearch/PostingList", "frequencyIn", "(I)I"⟩ : MethodName)) hown (mvT hZ (tw hw 24 rfl)) (mvT hZ (tw hw 25 rfl)) (notFace_of_selects (args := #[]) (mvT hZ (tw hw 27 rfl))) (mvT hZ (tw hw 27 rfl)) (mvT hZ (tw hw 26 rfl)) (by decide) (backOf (W := 0) (rmF3 l Z a0 hw [] b393 q b370 b380 lo mid hi f0 f1 f2 h413 n0 z413 fd413 ff413 fx413 fy413 hsrt.1 hsrt.2) hZ (tw hw 28 rfl) (tw hw 11 rfl) (by decide) (by decide)) q415a q415c (g := (mkF m 431 #[.val (.int x1), .val (.int y1), .val (.int z1), .val (.int w1), .val (.int s_), .val (.long fq), .second, .val (.int (3 : Int32)), .val (.int f0), .val (.int f1), .val (.int f2), .val (.int lo), .val (.int hi), .val (.int mid), .val (.ref b370), .val (.ref b380), .val (.ref b393), .val (.int sel), .val (.int q), .val (.int f0)] [(.int q), (.ref b393)])) rfl (by rw [hml]; rfl) (Steps.refl _) (argsL := [(.int q)]) (rest := []) (lenOf pd__28I_29I rfl) rfl (by show 2 * 0 + _ ≤ _; exact Nat.le_of_eq rfl) (hb hby at_431) (fun _ _ => ⟨rfl, e413, (by decide : 3 + 0 ≤ _), (by decide : 9 + 0 ≤ _)⟩)
            dsimp only [Pt.U, Pt.locs, Pt.cells, Pt.slots] at X415 l415 y415 z415 st415 hQ415
            subst l415 y415 z415
            obtain ⟨v416, rfl, N415q, eh415, qp417⟩ := hQ415
            have N415 := Fr.app N413 N415q
            refine Go.via (fun _ kQ => st415.trans kQ) ?_
            have e415 : T415.heap = h413 := eh415
            show Go p e below (T415.setTop (mkF m 434 #[.val (.int x1), .val (.int y1), .val (.int z1), .val (.int w1), .val (.int s_), .val (.long fq), .second, .val (.int (3 : Int32)), .val (.int f0), .val (.int f1), .val (.int f2), .val (.int lo), .val (.int hi), .val (.int mid), .val (.ref b370), .val (.ref b380), .val (.ref b393), .val (.int sel), .val (.int q), .val (.int f0)] [(.int v416)])) _
            refine Go.via (fun _ => XS.iload X415.here hx rfl (hb hby at_434) rfl) ?_
            refine Go.via (fun _ => XS.icmpNo X415.here hx rfl (hb hby at_436) rfl (teq (((own_f3 qp417 hsrt.1 hsrt.2).1 (by assumption)) : v416 = f0)).2) ?_
            show Go p e below (T415.setTop (mkF m 439 #[.val (.int x1), .val (.int y1), .val (.int z1), .val (.int w1), .val (.int s_), .val (.long fq), .second, .val (.int (3 : Int32)), .val (.int f0), .val (.int f1), .val (.int f2), .val (.int lo), .val (.int hi), .val (.int mid), .val (.ref b370), .val (.ref b380), .val (.ref b393), .val (.int sel), .val (.int q), .val (.int f0)] [])) _
            refine Go.via (fun _ => XS.iconst X415.here hx rfl (hb hby at_439)) ?_
            refine Go.via (fun _ => XS.goto X415.here hx rfl (pc0 := 440) (pc' := 444) rfl (hb hby at_440) (by decide) (by decide)) ?_
            exact Go.fin X415 hlk (v := some (.int (1 : Int32))) (fun h => by rw [Bd.returns] at h; cases h) (fun fs hr => retN X415 hx (t := .boolean) Bd.returns (by simp) (hb hby at_444) hr) (by rw [e415]; exact ⟨rfl, N415, k413⟩) (by decide) (by decide)
          · refine Go.via (fun _ => XS.icmpYes X413.here hx rfl (pc0 := 370) (pc' := 382) rfl (hb hby at_370) rfl (feq (hc414 : ¬ (q = lo))).2 (by decide) (by decide)) ?_
            show Go p e below (T413.setTop (mkF m 382 #[.val (.int x1), .val (.int y1), .val (.int z1), .val (.int w1), .val (.int s_), .val (.long fq), .second, .val (.int (3 : Int32)), .val (.int f0), .val (.int f1), .val (.int f2), .val (.int lo), .val (.int hi), .val (.int mid), .val (.ref b370), .val (.ref b380), .val (.ref b393), .val (.int sel), .val (.int q), .val (.int (0 : Int32))] [])) _
            refine Go.via (fun _ => XS.iload X413.here hx rfl (hb hby at_382) rfl) ?_
            refine Go.via (fun _ => XS.iconst X413.here hx rfl (hb hby at_384)) ?_
            refine Go.via (fun _ => XS.icmpNo X413.here hx rfl (hb hby at_385) rfl (flt ((by decide) : ¬ ((3 : Int32) < (2 : Int32)))).1) ?_
            show Go p e below (T413.setTop (mkF m 388 #[.val (.int x1), .val (.int y1), .val (.int z1), .val (.int w1), .val (.int s_), .val (.long fq), .second, .val (.int (3 : Int32)), .val (.int f0), .val (.int f1), .val (.int f2), .val (.int lo), .val (.int hi), .val (.int mid), .val (.ref b370), .val (.ref b380), .val (.ref b393), .val (.int sel), .val (.int q), .val (.int (0 : Int32))] [])) _
            refine Go.via (fun _ => XS.iload X413.here hx rfl (hb hby at_388) rfl) ?_
            refine Go.via (fun _ => XS.aload X413.here hx rfl (hb hby at_390) rfl rfl) ?_
            refine Go.via (fun _ => XS.iconst X413.here hx rfl (hb hby at_392)) ?_
            refine Go.via (ldI X413 hx hZ e413 fx413 (v := mid) (by decide) rfl (g := (mkF m 393 #[.val (.int x1), .val (.int y1), .val (.int z1), .val (.int w1), .val (.int s_), .val (.long fq), .second, .val (.int (3 : Int32)), .val (.int f0), .val (.int f1), .val (.int f2), .val (.int lo), .val (.int hi), .val (.int mid), .val (.ref b370), .val (.ref b380), .val (.ref b393), .val (.int sel), .val (.int q), .val (.int (0 : Int32))] [(.int (1 : Int32)), (.ref b370), (.int q)])) rfl rfl (hb hby at_393)) ?_
            show Go p e below (T413.setTop (mkF m 394 #[.val (.int x1), .val (.int y1), .val (.int z1), .val (.int w1), .val (.int s_), .val (.long fq), .second, .val (.int (3 : Int32)), .val (.int f0), .val (.int f1), .val (.int f2), .val (.int lo), .val (.int hi), .val (.int mid), .val (.ref b370), .val (.ref b380), .val (.ref b393), .val (.int sel), .val (.int q), .val (.int (0 : Int32))] [(.int mid), (.int q)])) _
            by_cases hc418 : q = mid
            · refine Go.via (fun _ => XS.icmpNo X413.here hx rfl (hb hby at_394) rfl (teq (hc418 : q = mid)).2) ?_
              show Go p e below (T413.setTop (mkF m 397 #[.val (.int x1), .val (.int y1), .val (.int z1), .val (.int w1), .val (.int s_), .val (.long fq), .second, .val (.int (3 : Int32)), .val (.int f0), .val (.int f1), .val (.int f2), .val (.int lo), .val (.int hi), .val (.int mid), .val (.ref b370), .val (.ref b380), .val (.ref b393), .val (.int sel), .val (.int q), .val (.int (0 : Int32))] [])) _
              refine Go.via (fun _ => XS.aload X413.here hx rfl (hb hby at_397) rfl rfl) ?_
              refine Go.via (fun _ => XS.iconst X413.here hx rfl (hb hby at_399)) ?_
              refine Go.via (ldI X413 hx hZ e413 fy413 (v := f1) (by decide) rfl (g := (mkF m 400 #[.val (.int x1), .val (.int y1), .val (.int z1), .val (.int w1), .val (.int s_), .val (.long fq), .second, .val (.int (3 : Int32)), .val (.int f0), .val (.int f1), .val (.int f2), .val (.int lo), .val (.int hi), .val (.int mid), .val (.ref b370), .val (.ref b380), .val (.ref b393), .val (.int sel), .val (.int q), .val (.int (0 : Int32))] [(.int (1 : Int32)), (.ref b380)])) rfl rfl (hb hby at_400)) ?_
              show Go p e below (T413.setTop (mkF m 401 #[.val (.int x1), .val (.int y1), .val (.int z1), .val (.int w1), .val (.int s_), .val (.long fq), .second, .val (.int (3 : Int32)), .val (.int f0), .val (.int f1), .val (.int f2), .val (.int lo), .val (.int hi), .val (.int mid), .val (.ref b370), .val (.ref b380), .val (.ref b393), .val (.int sel), .val (.int q), .val (.int (0 : Int32))] [(.int f1)])) _
              refine Go.via (fun _ => XS.istore X413.here hx rfl (hb hby at_401) rfl (l' := #[.val (.int x1), .val (.int y1), .val (.int z1), .val (.int w1), .val (.int s_), .val (.long fq), .second, .val (.int (3 : Int32)), .val (.int f0), .val (.int f1), .val (.int f2), .val (.int lo), .val (.int hi), .val (.int mid), .val (.ref b370), .val (.ref b380), .val (.ref b393), .val (.int sel), .val (.int q), .val (.int f1)]) rfl) ?_
              show Go p e below (T413.setTop (mkF m 403 #[.val (.int x1), .val (.int y1), .val (.int z1), .val (.int w1), .val (.int s_), .val (.long fq), .second, .val (.int (3 : Int32)), .val (.int f0), .val (.int f1), .val (.int f2), .val (.int lo), .val (.int hi), .val (.int mid), .val (.ref b370), .val (.ref b380), .val (.ref b393), .val (.int sel), .val (.int q), .val (.int f1)] [])) _
              refine Go.via (fun _ => XS.goto X413.here hx rfl (pc0 := 403) (pc' := 427) rfl (hb hby at_403) (by decide) (by decide)) ?_
              refine Go.via (fun _ => XS.aload X413.here hx rfl (hb hby at_427) rfl rfl) ?_
              refine Go.via (fun _ => XS.iload X413.here hx rfl (hb hby at_429) rfl) ?_
              obtain ⟨cq419, kq419, q419a, q419b, q419c⟩ := isOf hZ e413 fE413
              obtain ⟨_, _, ⟨T419, L419, k419, n419⟩, -, X419, ⟨Lc419, hQ419, l419, y419, z419⟩, st419⟩ := X413.virtualBack hx (y := (⟨"com/example/libcosearch/libcosearch/PostingList", "frequencyIn", "(I)I"⟩ : MethodName)) (z := (⟨"com/example/libcosearch/libcosearch/PostingList", "frequencyIn", "(I)I"⟩ : MethodName)) hown (mvT hZ (tw hw 24 rfl)) (mvT hZ (tw hw 25 rfl)) (notFace_of_selects (args := #[]) (mvT hZ (tw hw 27 rfl))) (mvT hZ (tw hw 27 rfl)) (mvT hZ (tw hw 26 rfl)) (by decide) (backOf (W := 0) (rmF3 l Z a0 hw [] b393 q b370 b380 lo mid hi f0 f1 f2 h413 n0 z413 fd413 ff413 fx413 fy413 hsrt.1 hsrt.2) hZ (tw hw 28 rfl) (tw hw 11 rfl) (by decide) (by decide)) q419a q419c (g := (mkF m 431 #[.val (.int x1), .val (.int y1), .val (.int z1), .val (.int w1), .val (.int s_), .val (.long fq), .second, .val (.int (3 : Int32)), .val (.int f0), .val (.int f1), .val (.int f2), .val (.int lo), .val (.int hi), .val (.int mid), .val (.ref b370), .val (.ref b380), .val (.ref b393), .val (.int sel), .val (.int q), .val (.int f1)] [(.int q), (.ref b393)])) rfl (by rw [hml]; rfl) (Steps.refl _) (argsL := [(.int q)]) (rest := []) (lenOf pd__28I_29I rfl) rfl (by show 2 * 0 + _ ≤ _; exact Nat.le_of_eq rfl) (hb hby at_431) (fun _ _ => ⟨rfl, e413, (by decide : 3 + 0 ≤ _), (by decide : 9 + 0 ≤ _)⟩)
              dsimp only [Pt.U, Pt.locs, Pt.cells, Pt.slots] at X419 l419 y419 z419 st419 hQ419
              subst l419 y419 z419
              obtain ⟨v420, rfl, N419q, eh419, qp421⟩ := hQ419
              have N419 := Fr.app N413 N419q
              refine Go.via (fun _ kQ => st419.trans kQ) ?_
              have e419 : T419.heap = h413 := eh419
              show Go p e below (T419.setTop (mkF m 434 #[.val (.int x1), .val (.int y1), .val (.int z1), .val (.int w1), .val (.int s_), .val (.long fq), .second, .val (.int (3 : Int32)), .val (.int f0), .val (.int f1), .val (.int f2), .val (.int lo), .val (.int hi), .val (.int mid), .val (.ref b370), .val (.ref b380), .val (.ref b393), .val (.int sel), .val (.int q), .val (.int f1)] [(.int v420)])) _
              refine Go.via (fun _ => XS.iload X419.here hx rfl (hb hby at_434) rfl) ?_
              refine Go.via (fun _ => XS.icmpNo X419.here hx rfl (hb hby at_436) rfl (teq (((own_f3 qp421 hsrt.1 hsrt.2).2.1 (by assumption) (by assumption)) : v420 = f1)).2) ?_
              show Go p e below (T419.setTop (mkF m 439 #[.val (.int x1), .val (.int y1), .val (.int z1), .val (.int w1), .val (.int s_), .val (.long fq), .second, .val (.int (3 : Int32)), .val (.int f0), .val (.int f1), .val (.int f2), .val (.int lo), .val (.int hi), .val (.int mid), .val (.ref b370), .val (.ref b380), .val (.ref b393), .val (.int sel), .val (.int q), .val (.int f1)] [])) _
              refine Go.via (fun _ => XS.iconst X419.here hx rfl (hb hby at_439)) ?_
              refine Go.via (fun _ => XS.goto X419.here hx rfl (pc0 := 440) (pc' := 444) rfl (hb hby at_440) (by decide) (by decide)) ?_
              exact Go.fin X419 hlk (v := some (.int (1 : Int32))) (fun h => by rw [Bd.returns] at h; cases h) (fun fs hr => retN X419 hx (t := .boolean) Bd.returns (by simp) (hb hby at_444) hr) (by rw [e419]; exact ⟨rfl, N419, k413⟩) (by decide) (by decide)
            · refine Go.via (fun _ => XS.icmpYes X413.here hx rfl (pc0 := 394) (pc' := 406) rfl (hb hby at_394) rfl (feq (hc418 : ¬ (q = mid))).2 (by decide) (by decide)) ?_
              show Go p e below (T413.setTop (mkF m 406 #[.val (.int x1), .val (.int y1), .val (.int z1), .val (.int w1), .val (.int s_), .val (.long fq), .second, .val (.int (3 : Int32)), .val (.int f0), .val (.int f1), .val (.int f2), .val (.int lo), .val (.int hi), .val (.int mid), .val (.ref b370), .val (.ref b380), .val (.ref b393), .val (.int sel), .val (.int q), .val (.int (0 : Int32))] [])) _
              refine Go.via (fun _ => XS.iload X413.here hx rfl (hb hby at_406) rfl) ?_
              refine Go.via (fun _ => XS.iconst X413.here hx rfl (hb hby at_408)) ?_
              refine Go.via (fun _ => XS.icmpNo X413.here hx rfl (hb hby at_409) rfl (flt ((by decide) : ¬ ((3 : Int32) < (3 : Int32)))).1) ?_
              show Go p e below (T413.setTop (mkF m 412 #[.val (.int x1), .val (.int y1), .val (.int z1), .val (.int w1), .val (.int s_), .val (.long fq), .second, .val (.int (3 : Int32)), .val (.int f0), .val (.int f1), .val (.int f2), .val (.int lo), .val (.int hi), .val (.int mid), .val (.ref b370), .val (.ref b380), .val (.ref b393), .val (.int sel), .val (.int q), .val (.int (0 : Int32))] [])) _
              refine Go.via (fun _ => XS.iload X413.here hx rfl (hb hby at_412) rfl) ?_
              refine Go.via (fun _ => XS.aload X413.here hx rfl (hb hby at_414) rfl rfl) ?_
              refine Go.via (fun _ => XS.iconst X413.here hx rfl (hb hby at_416)) ?_
              refine Go.via (ldI X413 hx hZ e413 fx413 (v := hi) (by decide) rfl (g := (mkF m 417 #[.val (.int x1), .val (.int y1), .val (.int z1), .val (.int w1), .val (.int s_), .val (.long fq), .second, .val (.int (3 : Int32)), .val (.int f0), .val (.int f1), .val (.int f2), .val (.int lo), .val (.int hi), .val (.int mid), .val (.ref b370), .val (.ref b380), .val (.ref b393), .val (.int sel), .val (.int q), .val (.int (0 : Int32))] [(.int (2 : Int32)), (.ref b370), (.int q)])) rfl rfl (hb hby at_417)) ?_
              show Go p e below (T413.setTop (mkF m 418 #[.val (.int x1), .val (.int y1), .val (.int z1), .val (.int w1), .val (.int s_), .val (.long fq), .second, .val (.int (3 : Int32)), .val (.int f0), .val (.int f1), .val (.int f2), .val (.int lo), .val (.int hi), .val (.int mid), .val (.ref b370), .val (.ref b380), .val (.ref b393), .val (.int sel), .val (.int q), .val (.int (0 : Int32))] [(.int hi), (.int q)])) _
              by_cases hc422 : q = hi
              · refine Go.via (fun _ => XS.icmpNo X413.here hx rfl (hb hby at_418) rfl (teq (hc422 : q = hi)).2) ?_
                show Go p e below (T413.setTop (mkF m 421 #[.val (.int x1), .val (.int y1), .val (.int z1), .val (.int w1), .val (.int s_), .val (.long fq), .second, .val (.int (3 : Int32)), .val (.int f0), .val (.int f1), .val (.int f2), .val (.int lo), .val (.int hi), .val (.int mid), .val (.ref b370), .val (.ref b380), .val (.ref b393), .val (.int sel), .val (.int q), .val (.int (0 : Int32))] [])) _
                refine Go.via (fun _ => XS.aload X413.here hx rfl (hb hby at_421) rfl rfl) ?_
                refine Go.via (fun _ => XS.iconst X413.here hx rfl (hb hby at_423)) ?_
                refine Go.via (ldI X413 hx hZ e413 fy413 (v := f2) (by decide) rfl (g := (mkF m 424 #[.val (.int x1), .val (.int y1), .val (.int z1), .val (.int w1), .val (.int s_), .val (.long fq), .second, .val (.int (3 : Int32)), .val (.int f0), .val (.int f1), .val (.int f2), .val (.int lo), .val (.int hi), .val (.int mid), .val (.ref b370), .val (.ref b380), .val (.ref b393), .val (.int sel), .val (.int q), .val (.int (0 : Int32))] [(.int (2 : Int32)), (.ref b380)])) rfl rfl (hb hby at_424)) ?_
                show Go p e below (T413.setTop (mkF m 425 #[.val (.int x1), .val (.int y1), .val (.int z1), .val (.int w1), .val (.int s_), .val (.long fq), .second, .val (.int (3 : Int32)), .val (.int f0), .val (.int f1), .val (.int f2), .val (.int lo), .val (.int hi), .val (.int mid), .val (.ref b370), .val (.ref b380), .val (.ref b393), .val (.int sel), .val (.int q), .val (.int (0 : Int32))] [(.int f2)])) _
                refine Go.via (fun _ => XS.istore X413.here hx rfl (hb hby at_425) rfl (l' := #[.val (.int x1), .val (.int y1), .val (.int z1), .val (.int w1), .val (.int s_), .val (.long fq), .second, .val (.int (3 : Int32)), .val (.int f0), .val (.int f1), .val (.int f2), .val (.int lo), .val (.int hi), .val (.int mid), .val (.ref b370), .val (.ref b380), .val (.ref b393), .val (.int sel), .val (.int q), .val (.int f2)]) rfl) ?_
                show Go p e below (T413.setTop (mkF m 427 #[.val (.int x1), .val (.int y1), .val (.int z1), .val (.int w1), .val (.int s_), .val (.long fq), .second, .val (.int (3 : Int32)), .val (.int f0), .val (.int f1), .val (.int f2), .val (.int lo), .val (.int hi), .val (.int mid), .val (.ref b370), .val (.ref b380), .val (.ref b393), .val (.int sel), .val (.int q), .val (.int f2)] [])) _
                refine Go.via (fun _ => XS.aload X413.here hx rfl (hb hby at_427) rfl rfl) ?_
                refine Go.via (fun _ => XS.iload X413.here hx rfl (hb hby at_429) rfl) ?_
                obtain ⟨cq423, kq423, q423a, q423b, q423c⟩ := isOf hZ e413 fE413
                obtain ⟨_, _, ⟨T423, L423, k423, n423⟩, -, X423, ⟨Lc423, hQ423, l423, y423, z423⟩, st423⟩ := X413.virtualBack hx (y := (⟨"com/example/libcosearch/libcosearch/PostingList", "frequencyIn", "(I)I"⟩ : MethodName)) (z := (⟨"com/example/libcosearch/libcosearch/PostingList", "frequencyIn", "(I)I"⟩ : MethodName)) hown (mvT hZ (tw hw 24 rfl)) (mvT hZ (tw hw 25 rfl)) (notFace_of_selects (args := #[]) (mvT hZ (tw hw 27 rfl))) (mvT hZ (tw hw 27 rfl)) (mvT hZ (tw hw 26 rfl)) (by decide) (backOf (W := 0) (rmF3 l Z a0 hw [] b393 q b370 b380 lo mid hi f0 f1 f2 h413 n0 z413 fd413 ff413 fx413 fy413 hsrt.1 hsrt.2) hZ (tw hw 28 rfl) (tw hw 11 rfl) (by decide) (by decide)) q423a q423c (g := (mkF m 431 #[.val (.int x1), .val (.int y1), .val (.int z1), .val (.int w1), .val (.int s_), .val (.long fq), .second, .val (.int (3 : Int32)), .val (.int f0), .val (.int f1), .val (.int f2), .val (.int lo), .val (.int hi), .val (.int mid), .val (.ref b370), .val (.ref b380), .val (.ref b393), .val (.int sel), .val (.int q), .val (.int f2)] [(.int q), (.ref b393)])) rfl (by rw [hml]; rfl) (Steps.refl _) (argsL := [(.int q)]) (rest := []) (lenOf pd__28I_29I rfl) rfl (by show 2 * 0 + _ ≤ _; exact Nat.le_of_eq rfl) (hb hby at_431) (fun _ _ => ⟨rfl, e413, (by decide : 3 + 0 ≤ _), (by decide : 9 + 0 ≤ _)⟩)
                dsimp only [Pt.U, Pt.locs, Pt.cells, Pt.slots] at X423 l423 y423 z423 st423 hQ423
                subst l423 y423 z423
                obtain ⟨v424, rfl, N423q, eh423, qp425⟩ := hQ423
                have N423 := Fr.app N413 N423q
                refine Go.via (fun _ kQ => st423.trans kQ) ?_
                have e423 : T423.heap = h413 := eh423
                show Go p e below (T423.setTop (mkF m 434 #[.val (.int x1), .val (.int y1), .val (.int z1), .val (.int w1), .val (.int s_), .val (.long fq), .second, .val (.int (3 : Int32)), .val (.int f0), .val (.int f1), .val (.int f2), .val (.int lo), .val (.int hi), .val (.int mid), .val (.ref b370), .val (.ref b380), .val (.ref b393), .val (.int sel), .val (.int q), .val (.int f2)] [(.int v424)])) _
                refine Go.via (fun _ => XS.iload X423.here hx rfl (hb hby at_434) rfl) ?_
                refine Go.via (fun _ => XS.icmpNo X423.here hx rfl (hb hby at_436) rfl (teq (((own_f3 qp425 hsrt.1 hsrt.2).2.2.1 (by assumption) (by assumption) (by assumption)) : v424 = f2)).2) ?_
                show Go p e below (T423.setTop (mkF m 439 #[.val (.int x1), .val (.int y1), .val (.int z1), .val (.int w1), .val (.int s_), .val (.long fq), .second, .val (.int (3 : Int32)), .val (.int f0), .val (.int f1), .val (.int f2), .val (.int lo), .val (.int hi), .val (.int mid), .val (.ref b370), .val (.ref b380), .val (.ref b393), .val (.int sel), .val (.int q), .val (.int f2)] [])) _
                refine Go.via (fun _ => XS.iconst X423.here hx rfl (hb hby at_439)) ?_
                refine Go.via (fun _ => XS.goto X423.here hx rfl (pc0 := 440) (pc' := 444) rfl (hb hby at_440) (by decide) (by decide)) ?_
                exact Go.fin X423 hlk (v := some (.int (1 : Int32))) (fun h => by rw [Bd.returns] at h; cases h) (fun fs hr => retN X423 hx (t := .boolean) Bd.returns (by simp) (hb hby at_444) hr) (by rw [e423]; exact ⟨rfl, N423, k413⟩) (by decide) (by decide)
              · refine Go.via (fun _ => XS.icmpYes X413.here hx rfl (pc0 := 418) (pc' := 427) rfl (hb hby at_418) rfl (feq (hc422 : ¬ (q = hi))).2 (by decide) (by decide)) ?_
                show Go p e below (T413.setTop (mkF m 427 #[.val (.int x1), .val (.int y1), .val (.int z1), .val (.int w1), .val (.int s_), .val (.long fq), .second, .val (.int (3 : Int32)), .val (.int f0), .val (.int f1), .val (.int f2), .val (.int lo), .val (.int hi), .val (.int mid), .val (.ref b370), .val (.ref b380), .val (.ref b393), .val (.int sel), .val (.int q), .val (.int (0 : Int32))] [])) _
                refine Go.via (fun _ => XS.aload X413.here hx rfl (hb hby at_427) rfl rfl) ?_
                refine Go.via (fun _ => XS.iload X413.here hx rfl (hb hby at_429) rfl) ?_
                obtain ⟨cq426, kq426, q426a, q426b, q426c⟩ := isOf hZ e413 fE413
                obtain ⟨_, _, ⟨T426, L426, k426, n426⟩, -, X426, ⟨Lc426, hQ426, l426, y426, z426⟩, st426⟩ := X413.virtualBack hx (y := (⟨"com/example/libcosearch/libcosearch/PostingList", "frequencyIn", "(I)I"⟩ : MethodName)) (z := (⟨"com/example/libcosearch/libcosearch/PostingList", "frequencyIn", "(I)I"⟩ : MethodName)) hown (mvT hZ (tw hw 24 rfl)) (mvT hZ (tw hw 25 rfl)) (notFace_of_selects (args := #[]) (mvT hZ (tw hw 27 rfl))) (mvT hZ (tw hw 27 rfl)) (mvT hZ (tw hw 26 rfl)) (by decide) (backOf (W := 0) (rmF3 l Z a0 hw [] b393 q b370 b380 lo mid hi f0 f1 f2 h413 n0 z413 fd413 ff413 fx413 fy413 hsrt.1 hsrt.2) hZ (tw hw 28 rfl) (tw hw 11 rfl) (by decide) (by decide)) q426a q426c (g := (mkF m 431 #[.val (.int x1), .val (.int y1), .val (.int z1), .val (.int w1), .val (.int s_), .val (.long fq), .second, .val (.int (3 : Int32)), .val (.int f0), .val (.int f1), .val (.int f2), .val (.int lo), .val (.int hi), .val (.int mid), .val (.ref b370), .val (.ref b380), .val (.ref b393), .val (.int sel), .val (.int q), .val (.int (0 : Int32))] [(.int q), (.ref b393)])) rfl (by rw [hml]; rfl) (Steps.refl _) (argsL := [(.int q)]) (rest := []) (lenOf pd__28I_29I rfl) rfl (by show 2 * 0 + _ ≤ _; exact Nat.le_of_eq rfl) (hb hby at_431) (fun _ _ => ⟨rfl, e413, (by decide : 3 + 0 ≤ _), (by decide : 9 + 0 ≤ _)⟩)
                dsimp only [Pt.U, Pt.locs, Pt.cells, Pt.slots] at X426 l426 y426 z426 st426 hQ426
                subst l426 y426 z426
                obtain ⟨v427, rfl, N426q, eh426, qp428⟩ := hQ426
                have N426 := Fr.app N413 N426q
                refine Go.via (fun _ kQ => st426.trans kQ) ?_
                have e426 : T426.heap = h413 := eh426
                show Go p e below (T426.setTop (mkF m 434 #[.val (.int x1), .val (.int y1), .val (.int z1), .val (.int w1), .val (.int s_), .val (.long fq), .second, .val (.int (3 : Int32)), .val (.int f0), .val (.int f1), .val (.int f2), .val (.int lo), .val (.int hi), .val (.int mid), .val (.ref b370), .val (.ref b380), .val (.ref b393), .val (.int sel), .val (.int q), .val (.int (0 : Int32))] [(.int v427)])) _
                refine Go.via (fun _ => XS.iload X426.here hx rfl (hb hby at_434) rfl) ?_
                refine Go.via (fun _ => XS.icmpNo X426.here hx rfl (hb hby at_436) rfl (teq (((own_f3 qp428 hsrt.1 hsrt.2).2.2.2 (by assumption) (by assumption) (by assumption)) : v427 = (0 : Int32))).2) ?_
                show Go p e below (T426.setTop (mkF m 439 #[.val (.int x1), .val (.int y1), .val (.int z1), .val (.int w1), .val (.int s_), .val (.long fq), .second, .val (.int (3 : Int32)), .val (.int f0), .val (.int f1), .val (.int f2), .val (.int lo), .val (.int hi), .val (.int mid), .val (.ref b370), .val (.ref b380), .val (.ref b393), .val (.int sel), .val (.int q), .val (.int (0 : Int32))] [])) _
                refine Go.via (fun _ => XS.iconst X426.here hx rfl (hb hby at_439)) ?_
                refine Go.via (fun _ => XS.goto X426.here hx rfl (pc0 := 440) (pc' := 444) rfl (hb hby at_440) (by decide) (by decide)) ?_
                exact Go.fin X426 hlk (v := some (.int (1 : Int32))) (fun h => by rw [Bd.returns] at h; cases h) (fun fs hr => retN X426 hx (t := .boolean) Bd.returns (by simp) (hb hby at_444) hr) (by rw [e426]; exact ⟨rfl, N426, k413⟩) (by decide) (by decide)
        refine Go.via (fun _ => XS.iload X405.here hx rfl (hb hby at_249) rfl) ?_
        refine Go.via (fun _ => XS.bipush X405.here hx rfl (hb hby at_251)) ?_
        refine Go.via (fun _ => XS.iand X405.here hx rfl (hb hby at_253) rfl) ?_
        show Go p e below (T405.setTop (mkF m 254 #[.val (.int x1), .val (.int y1), .val (.int z1), .val (.int w1), .val (.int s_), .val (.long fq), .second, .val (.int (3 : Int32)), .val (.int f0), .val (.int f1), .val (.int f2), .val (.int lo), .val (.int hi), .val (.int mid), .val (.ref b370), .val (.ref b380), .val (.ref b393), .unset, .unset, .unset] [(.int (s_ &&& (7 : Int32)))])) _
        generalize hsel : (s_ &&& (7 : Int32)) = sel
        show Go p e below (T405.setTop (mkF m 254 #[.val (.int x1), .val (.int y1), .val (.int z1), .val (.int w1), .val (.int s_), .val (.long fq), .second, .val (.int (3 : Int32)), .val (.int f0), .val (.int f1), .val (.int f2), .val (.int lo), .val (.int hi), .val (.int mid), .val (.ref b370), .val (.ref b380), .val (.ref b393), .unset, .unset, .unset] [(.int sel)])) _
        refine Go.via (fun _ => XS.istore X405.here hx rfl (hb hby at_254) rfl (l' := #[.val (.int x1), .val (.int y1), .val (.int z1), .val (.int w1), .val (.int s_), .val (.long fq), .second, .val (.int (3 : Int32)), .val (.int f0), .val (.int f1), .val (.int f2), .val (.int lo), .val (.int hi), .val (.int mid), .val (.ref b370), .val (.ref b380), .val (.ref b393), .val (.int sel), .unset, .unset]) rfl) ?_
        show Go p e below (T405.setTop (mkF m 256 #[.val (.int x1), .val (.int y1), .val (.int z1), .val (.int w1), .val (.int s_), .val (.long fq), .second, .val (.int (3 : Int32)), .val (.int f0), .val (.int f1), .val (.int f2), .val (.int lo), .val (.int hi), .val (.int mid), .val (.ref b370), .val (.ref b380), .val (.ref b393), .val (.int sel), .unset, .unset] [])) _
        refine Go.via (fun _ => XS.iload X405.here hx rfl (hb hby at_256) rfl) ?_
        by_cases hc429 : sel = (0 : Int32)
        · refine Go.via (fun _ => XS.ifNo X405.here hx rfl (hb hby at_258) rfl ((if0 _ _).trans (teq (hc429 : sel = (0 : Int32))).2)) ?_
          refine Go.via (fun _ => XS.iloadN X405.here hx rfl (hb hby at_261) rfl) ?_
          refine Go.via (fun _ => XS.istore X405.here hx rfl (hb hby at_262) rfl (l' := #[.val (.int x1), .val (.int y1), .val (.int z1), .val (.int w1), .val (.int s_), .val (.long fq), .second, .val (.int (3 : Int32)), .val (.int f0), .val (.int f1), .val (.int f2), .val (.int lo), .val (.int hi), .val (.int mid), .val (.ref b370), .val (.ref b380), .val (.ref b393), .val (.int sel), .val (.int x1), .unset]) rfl) ?_
          show Go p e below (T405.setTop (mkF m 264 #[.val (.int x1), .val (.int y1), .val (.int z1), .val (.int w1), .val (.int s_), .val (.long fq), .second, .val (.int (3 : Int32)), .val (.int f0), .val (.int f1), .val (.int f2), .val (.int lo), .val (.int hi), .val (.int mid), .val (.ref b370), .val (.ref b380), .val (.ref b393), .val (.int sel), .val (.int x1), .unset] [])) _
          refine Go.via (fun _ => XS.goto X405.here hx rfl (pc0 := 264) (pc' := 355) rfl (hb hby at_264) (by decide) (by decide)) ?_
          have f430 : Ia Z T405.heap b370 .int [lo, mid, hi] := ((f397.ext E393).keep K405q (ninS ne396 nin0))
          have f431 : Ia Z T405.heap b380 .int [f0, f1, f2] := (f404.keep K405q (ninS ne398 nin0))
          have z432 : n0 ≤ T405.heap.size := (Nat.le_trans z406 K405q.1)
          have k433 : Keep h0 T405.heap [] := ((k394.ext E393).trans K405q (allS (Or.inr sz400) all0))
          exact J3 T405 _ T405.heap x1 sel X405 e405 N405 z432 k433 f410 f411 f412 f430 f431
        · refine Go.via (fun _ => XS.ifYes X405.here hx rfl (pc0 := 258) (pc' := 267) rfl (hb hby at_258) rfl ((if0 _ _).trans (feq (hc429 : ¬ (sel = (0 : Int32)))).2) (by decide) (by decide)) ?_
          refine Go.via (fun _ => XS.iload X405.here hx rfl (hb hby at_267) rfl) ?_
          refine Go.via (fun _ => XS.iconst X405.here hx rfl (hb hby at_269)) ?_
          by_cases hc434 : sel = (1 : Int32)
          · refine Go.via (fun _ => XS.icmpNo X405.here hx rfl (hb hby at_270) rfl (teq (hc434 : sel = (1 : Int32))).2) ?_
            refine Go.via (fun _ => XS.iloadN X405.here hx rfl (hb hby at_273) rfl) ?_
            show Go p e below (T405.setTop (mkF m 274 #[.val (.int x1), .val (.int y1), .val (.int z1), .val (.int w1), .val (.int s_), .val (.long fq), .second, .val (.int (3 : Int32)), .val (.int f0), .val (.int f1), .val (.int f2), .val (.int lo), .val (.int hi), .val (.int mid), .val (.ref b370), .val (.ref b380), .val (.ref b393), .val (.int sel), .unset, .unset] [(.int y1)])) _
            refine Go.via (fun _ => XS.istore X405.here hx rfl (hb hby at_274) rfl (l' := #[.val (.int x1), .val (.int y1), .val (.int z1), .val (.int w1), .val (.int s_), .val (.long fq), .second, .val (.int (3 : Int32)), .val (.int f0), .val (.int f1), .val (.int f2), .val (.int lo), .val (.int hi), .val (.int mid), .val (.ref b370), .val (.ref b380), .val (.ref b393), .val (.int sel), .val (.int y1), .unset]) rfl) ?_
            show Go p e below (T405.setTop (mkF m 276 #[.val (.int x1), .val (.int y1), .val (.int z1), .val (.int w1), .val (.int s_), .val (.long fq), .second, .val (.int (3 : Int32)), .val (.int f0), .val (.int f1), .val (.int f2), .val (.int lo), .val (.int hi), .val (.int mid), .val (.ref b370), .val (.ref b380), .val (.ref b393), .val (.int sel), .val (.int y1), .unset] [])) _
            refine Go.via (fun _ => XS.goto X405.here hx rfl (pc0 := 276) (pc' := 355) rfl (hb hby at_276) (by decide) (by decide)) ?_
            have f435 : Ia Z T405.heap b370 .int [lo, mid, hi] := ((f397.ext E393).keep K405q (ninS ne396 nin0))
            have f436 : Ia Z T405.heap b380 .int [f0, f1, f2] := (f404.keep K405q (ninS ne398 nin0))
            have z437 : n0 ≤ T405.heap.size := (Nat.le_trans z406 K405q.1)
            have k438 : Keep h0 T405.heap [] := ((k394.ext E393).trans K405q (allS (Or.inr sz400) all0))
            exact J3 T405 _ T405.heap y1 sel X405 e405 N405 z437 k438 f410 f411 f412 f435 f436
          · refine Go.via (fun _ => XS.icmpYes X405.here hx rfl (pc0 := 270) (pc' := 279) rfl (hb hby at_270) rfl (feq (hc434 : ¬ (sel = (1 : Int32)))).2 (by decide) (by decide)) ?_
            refine Go.via (fun _ => XS.iload X405.here hx rfl (hb hby at_279) rfl) ?_
            show Go p e below (T405.setTop (mkF m 281 #[.val (.int x1), .val (.int y1), .val (.int z1), .val (.int w1), .val (.int s_), .val (.long fq), .second, .val (.int (3 : Int32)), .val (.int f0), .val (.int f1), .val (.int f2), .val (.int lo), .val (.int hi), .val (.int mid), .val (.ref b370), .val (.ref b380), .val (.ref b393), .val (.int sel), .unset, .unset] [(.int sel)])) _
            refine Go.via (fun _ => XS.iconst X405.here hx rfl (hb hby at_281)) ?_
            by_cases hc439 : sel = (2 : Int32)
            · refine Go.via (fun _ => XS.icmpNo X405.here hx rfl (hb hby at_282) rfl (teq (hc439 : sel = (2 : Int32))).2) ?_
              refine Go.via (fun _ => XS.iloadN X405.here hx rfl (hb hby at_285) rfl) ?_
              refine Go.via (fun _ => XS.istore X405.here hx rfl (hb hby at_286) rfl (l' := #[.val (.int x1), .val (.int y1), .val (.int z1), .val (.int w1), .val (.int s_), .val (.long fq), .second, .val (.int (3 : Int32)), .val (.int f0), .val (.int f1), .val (.int f2), .val (.int lo), .val (.int hi), .val (.int mid), .val (.ref b370), .val (.ref b380), .val (.ref b393), .val (.int sel), .val (.int z1), .unset]) rfl) ?_
              show Go p e below (T405.setTop (mkF m 288 #[.val (.int x1), .val (.int y1), .val (.int z1), .val (.int w1), .val (.int s_), .val (.long fq), .second, .val (.int (3 : Int32)), .val (.int f0), .val (.int f1), .val (.int f2), .val (.int lo), .val (.int hi), .val (.int mid), .val (.ref b370), .val (.ref b380), .val (.ref b393), .val (.int sel), .val (.int z1), .unset] [])) _
              refine Go.via (fun _ => XS.goto X405.here hx rfl (pc0 := 288) (pc' := 355) rfl (hb hby at_288) (by decide) (by decide)) ?_
              have f440 : Ia Z T405.heap b370 .int [lo, mid, hi] := ((f397.ext E393).keep K405q (ninS ne396 nin0))
              have f441 : Ia Z T405.heap b380 .int [f0, f1, f2] := (f404.keep K405q (ninS ne398 nin0))
              have z442 : n0 ≤ T405.heap.size := (Nat.le_trans z406 K405q.1)
              have k443 : Keep h0 T405.heap [] := ((k394.ext E393).trans K405q (allS (Or.inr sz400) all0))
              exact J3 T405 _ T405.heap z1 sel X405 e405 N405 z442 k443 f410 f411 f412 f440 f441
            · refine Go.via (fun _ => XS.icmpYes X405.here hx rfl (pc0 := 282) (pc' := 291) rfl (hb hby at_282) rfl (feq (hc439 : ¬ (sel = (2 : Int32)))).2 (by decide) (by decide)) ?_
              refine Go.via (fun _ => XS.iload X405.here hx rfl (hb hby at_291) rfl) ?_
              refine Go.via (fun _ => XS.iconst X405.here hx rfl (hb hby at_293)) ?_
              by_cases hc444 : sel = (3 : Int32)
              · refine Go.via (fun _ => XS.icmpNo X405.here hx rfl (hb hby at_294) rfl (teq (hc444 : sel = (3 : Int32))).2) ?_
                refine Go.via (fun _ => XS.iloadN X405.here hx rfl (hb hby at_297) rfl) ?_
                show Go p e below (T405.setTop (mkF m 298 #[.val (.int x1), .val (.int y1), .val (.int z1), .val (.int w1), .val (.int s_), .val (.long fq), .second, .val (.int (3 : Int32)), .val (.int f0), .val (.int f1), .val (.int f2), .val (.int lo), .val (.int hi), .val (.int mid), .val (.ref b370), .val (.ref b380), .val (.ref b393), .val (.int sel), .unset, .unset] [(.int w1)])) _
                refine Go.via (fun _ => XS.istore X405.here hx rfl (hb hby at_298) rfl (l' := #[.val (.int x1), .val (.int y1), .val (.int z1), .val (.int w1), .val (.int s_), .val (.long fq), .second, .val (.int (3 : Int32)), .val (.int f0), .val (.int f1), .val (.int f2), .val (.int lo), .val (.int hi), .val (.int mid), .val (.ref b370), .val (.ref b380), .val (.ref b393), .val (.int sel), .val (.int w1), .unset]) rfl) ?_
                show Go p e below (T405.setTop (mkF m 300 #[.val (.int x1), .val (.int y1), .val (.int z1), .val (.int w1), .val (.int s_), .val (.long fq), .second, .val (.int (3 : Int32)), .val (.int f0), .val (.int f1), .val (.int f2), .val (.int lo), .val (.int hi), .val (.int mid), .val (.ref b370), .val (.ref b380), .val (.ref b393), .val (.int sel), .val (.int w1), .unset] [])) _
                refine Go.via (fun _ => XS.goto X405.here hx rfl (pc0 := 300) (pc' := 355) rfl (hb hby at_300) (by decide) (by decide)) ?_
                have f445 : Ia Z T405.heap b370 .int [lo, mid, hi] := ((f397.ext E393).keep K405q (ninS ne396 nin0))
                have f446 : Ia Z T405.heap b380 .int [f0, f1, f2] := (f404.keep K405q (ninS ne398 nin0))
                have z447 : n0 ≤ T405.heap.size := (Nat.le_trans z406 K405q.1)
                have k448 : Keep h0 T405.heap [] := ((k394.ext E393).trans K405q (allS (Or.inr sz400) all0))
                exact J3 T405 _ T405.heap w1 sel X405 e405 N405 z447 k448 f410 f411 f412 f445 f446
              · refine Go.via (fun _ => XS.icmpYes X405.here hx rfl (pc0 := 294) (pc' := 303) rfl (hb hby at_294) rfl (feq (hc444 : ¬ (sel = (3 : Int32)))).2 (by decide) (by decide)) ?_
                refine Go.via (fun _ => XS.iload X405.here hx rfl (hb hby at_303) rfl) ?_
                show Go p e below (T405.setTop (mkF m 305 #[.val (.int x1), .val (.int y1), .val (.int z1), .val (.int w1), .val (.int s_), .val (.long fq), .second, .val (.int (3 : Int32)), .val (.int f0), .val (.int f1), .val (.int f2), .val (.int lo), .val (.int hi), .val (.int mid), .val (.ref b370), .val (.ref b380), .val (.ref b393), .val (.int sel), .unset, .unset] [(.int sel)])) _
                refine Go.via (fun _ => XS.iconst X405.here hx rfl (hb hby at_305)) ?_
                by_cases hc449 : sel = (4 : Int32)
                · refine Go.via (fun _ => XS.icmpNo X405.here hx rfl (hb hby at_306) rfl (teq (hc449 : sel = (4 : Int32))).2) ?_
                  refine Go.via (fun _ => XS.iload X405.here hx rfl (hb hby at_309) rfl) ?_
                  refine Go.via (fun _ => XS.iconst X405.here hx rfl (hb hby at_311)) ?_
                  refine Go.via (fun _ => XS.isub X405.here hx rfl (hb hby at_312) rfl) ?_
                  show Go p e below (T405.setTop (mkF m 313 #[.val (.int x1), .val (.int y1), .val (.int z1), .val (.int w1), .val (.int s_), .val (.long fq), .second, .val (.int (3 : Int32)), .val (.int f0), .val (.int f1), .val (.int f2), .val (.int lo), .val (.int hi), .val (.int mid), .val (.ref b370), .val (.ref b380), .val (.ref b393), .val (.int sel), .unset, .unset] [(.int (lo - (1 : Int32)))])) _
                  refine Go.via (fun _ => XS.istore X405.here hx rfl (hb hby at_313) rfl (l' := #[.val (.int x1), .val (.int y1), .val (.int z1), .val (.int w1), .val (.int s_), .val (.long fq), .second, .val (.int (3 : Int32)), .val (.int f0), .val (.int f1), .val (.int f2), .val (.int lo), .val (.int hi), .val (.int mid), .val (.ref b370), .val (.ref b380), .val (.ref b393), .val (.int sel), .val (.int (lo - (1 : Int32))), .unset]) rfl) ?_
                  show Go p e below (T405.setTop (mkF m 315 #[.val (.int x1), .val (.int y1), .val (.int z1), .val (.int w1), .val (.int s_), .val (.long fq), .second, .val (.int (3 : Int32)), .val (.int f0), .val (.int f1), .val (.int f2), .val (.int lo), .val (.int hi), .val (.int mid), .val (.ref b370), .val (.ref b380), .val (.ref b393), .val (.int sel), .val (.int (lo - (1 : Int32))), .unset] [])) _
                  refine Go.via (fun _ => XS.goto X405.here hx rfl (pc0 := 315) (pc' := 355) rfl (hb hby at_315) (by decide) (by decide)) ?_
                  have f450 : Ia Z T405.heap b370 .int [lo, mid, hi] := ((f397.ext E393).keep K405q (ninS ne396 nin0))
                  have f451 : Ia Z T405.heap b380 .int [f0, f1, f2] := (f404.keep K405q (ninS ne398 nin0))
                  have z452 : n0 ≤ T405.heap.size := (Nat.le_trans z406 K405q.1)
                  have k453 : Keep h0 T405.heap [] := ((k394.ext E393).trans K405q (allS (Or.inr sz400) all0))
                  exact J3 T405 _ T405.heap (lo - (1 : Int32)) sel X405 e405 N405 z452 k453 f410 f411 f412 f450 f451
                · refine Go.via (fun _ => XS.icmpYes X405.here hx rfl (pc0 := 306) (pc' := 318) rfl (hb hby at_306) rfl (feq (hc449 : ¬ (sel = (4 : Int32)))).2 (by decide) (by decide)) ?_
                  refine Go.via (fun _ => XS.iload X405.here hx rfl (hb hby at_318) rfl) ?_
                  refine Go.via (fun _ => XS.iconst X405.here hx rfl (hb hby at_320)) ?_
                  by_cases hc454 : sel = (5 : Int32)
                  · refine Go.via (fun _ => XS.icmpNo X405.here hx rfl (hb hby at_321) rfl (teq (hc454 : sel = (5 : Int32))).2) ?_
                    refine Go.via (fun _ => XS.iload X405.here hx rfl (hb hby at_324) rfl) ?_
                    show Go p e below (T405.setTop (mkF m 326 #[.val (.int x1), .val (.int y1), .val (.int z1), .val (.int w1), .val (.int s_), .val (.long fq), .second, .val (.int (3 : Int32)), .val (.int f0), .val (.int f1), .val (.int f2), .val (.int lo), .val (.int hi), .val (.int mid), .val (.ref b370), .val (.ref b380), .val (.ref b393), .val (.int sel), .unset, .unset] [(.int hi)])) _
                    refine Go.via (fun _ => XS.iconst X405.here hx rfl (hb hby at_326)) ?_
                    refine Go.via (fun _ => XS.iadd X405.here hx rfl (hb hby at_327) rfl) ?_
                    show Go p e below (T405.setTop (mkF m 328 #[.val (.int x1), .val (.int y1), .val (.int z1), .val (.int w1), .val (.int s_), .val (.long fq), .second, .val (.int (3 : Int32)), .val (.int f0), .val (.int f1), .val (.int f2), .val (.int lo), .val (.int hi), .val (.int mid), .val (.ref b370), .val (.ref b380), .val (.ref b393), .val (.int sel), .unset, .unset] [(.int (hi + (1 : Int32)))])) _
                    refine Go.via (fun _ => XS.istore X405.here hx rfl (hb hby at_328) rfl (l' := #[.val (.int x1), .val (.int y1), .val (.int z1), .val (.int w1), .val (.int s_), .val (.long fq), .second, .val (.int (3 : Int32)), .val (.int f0), .val (.int f1), .val (.int f2), .val (.int lo), .val (.int hi), .val (.int mid), .val (.ref b370), .val (.ref b380), .val (.ref b393), .val (.int sel), .val (.int (hi + (1 : Int32))), .unset]) rfl) ?_
                    show Go p e below (T405.setTop (mkF m 330 #[.val (.int x1), .val (.int y1), .val (.int z1), .val (.int w1), .val (.int s_), .val (.long fq), .second, .val (.int (3 : Int32)), .val (.int f0), .val (.int f1), .val (.int f2), .val (.int lo), .val (.int hi), .val (.int mid), .val (.ref b370), .val (.ref b380), .val (.ref b393), .val (.int sel), .val (.int (hi + (1 : Int32))), .unset] [])) _
                    refine Go.via (fun _ => XS.goto X405.here hx rfl (pc0 := 330) (pc' := 355) rfl (hb hby at_330) (by decide) (by decide)) ?_
                    have f455 : Ia Z T405.heap b370 .int [lo, mid, hi] := ((f397.ext E393).keep K405q (ninS ne396 nin0))
                    have f456 : Ia Z T405.heap b380 .int [f0, f1, f2] := (f404.keep K405q (ninS ne398 nin0))
                    have z457 : n0 ≤ T405.heap.size := (Nat.le_trans z406 K405q.1)
                    have k458 : Keep h0 T405.heap [] := ((k394.ext E393).trans K405q (allS (Or.inr sz400) all0))
                    exact J3 T405 _ T405.heap (hi + (1 : Int32)) sel X405 e405 N405 z457 k458 f410 f411 f412 f455 f456
                  · refine Go.via (fun _ => XS.icmpYes X405.here hx rfl (pc0 := 321) (pc' := 333) rfl (hb hby at_321) rfl (feq (hc454 : ¬ (sel = (5 : Int32)))).2 (by decide) (by decide)) ?_
                    refine Go.via (fun _ => XS.iload X405.here hx rfl (hb hby at_333) rfl) ?_
                    show Go p e below (T405.setTop (mkF m 335 #[.val (.int x1), .val (.int y1), .val (.int z1), .val (.int w1), .val (.int s_), .val (.long fq), .second, .val (.int (3 : Int32)), .val (.int f0), .val (.int f1), .val (.int f2), .val (.int lo), .val (.int hi), .val (.int mid), .val (.ref b370), .val (.ref b380), .val (.ref b393), .val (.int sel), .unset, .unset] [(.int sel)])) _
                    refine Go.via (fun _ => XS.bipush X405.here hx rfl (hb hby at_335)) ?_
                    by_cases hc459 : sel = (6 : Int32)
                    · refine Go.via (fun _ => XS.icmpNo X405.here hx rfl (hb hby at_337) rfl (teq (hc459 : sel = (6 : Int32))).2) ?_
                      refine Go.via (fun _ => XS.iload X405.here hx rfl (hb hby at_340) rfl) ?_
                      refine Go.via (fun _ => XS.iconst X405.here hx rfl (hb hby at_342)) ?_
                      refine Go.via (fun _ => XS.isub X405.here hx rfl (hb hby at_343) rfl) ?_
                      show Go p e below (T405.setTop (mkF m 344 #[.val (.int x1), .val (.int y1), .val (.int z1), .val (.int w1), .val (.int s_), .val (.long fq), .second, .val (.int (3 : Int32)), .val (.int f0), .val (.int f1), .val (.int f2), .val (.int lo), .val (.int hi), .val (.int mid), .val (.ref b370), .val (.ref b380), .val (.ref b393), .val (.int sel), .unset, .unset] [(.int (mid - (1 : Int32)))])) _
                      refine Go.via (fun _ => XS.istore X405.here hx rfl (hb hby at_344) rfl (l' := #[.val (.int x1), .val (.int y1), .val (.int z1), .val (.int w1), .val (.int s_), .val (.long fq), .second, .val (.int (3 : Int32)), .val (.int f0), .val (.int f1), .val (.int f2), .val (.int lo), .val (.int hi), .val (.int mid), .val (.ref b370), .val (.ref b380), .val (.ref b393), .val (.int sel), .val (.int (mid - (1 : Int32))), .unset]) rfl) ?_
                      show Go p e below (T405.setTop (mkF m 346 #[.val (.int x1), .val (.int y1), .val (.int z1), .val (.int w1), .val (.int s_), .val (.long fq), .second, .val (.int (3 : Int32)), .val (.int f0), .val (.int f1), .val (.int f2), .val (.int lo), .val (.int hi), .val (.int mid), .val (.ref b370), .val (.ref b380), .val (.ref b393), .val (.int sel), .val (.int (mid - (1 : Int32))), .unset] [])) _
                      refine Go.via (fun _ => XS.goto X405.here hx rfl (pc0 := 346) (pc' := 355) rfl (hb hby at_346) (by decide) (by decide)) ?_
                      have f460 : Ia Z T405.heap b370 .int [lo, mid, hi] := ((f397.ext E393).keep K405q (ninS ne396 nin0))
                      have f461 : Ia Z T405.heap b380 .int [f0, f1, f2] := (f404.keep K405q (ninS ne398 nin0))
                      have z462 : n0 ≤ T405.heap.size := (Nat.le_trans z406 K405q.1)
                      have k463 : Keep h0 T405.heap [] := ((k394.ext E393).trans K405q (allS (Or.inr sz400) all0))
                      exact J3 T405 _ T405.heap (mid - (1 : Int32)) sel X405 e405 N405 z462 k463 f410 f411 f412 f460 f461
                    · refine Go.via (fun _ => XS.icmpYes X405.here hx rfl (pc0 := 337) (pc' := 349) rfl (hb hby at_337) rfl (feq (hc459 : ¬ (sel = (6 : Int32)))).2 (by decide) (by decide)) ?_
                      refine Go.via (fun _ => XS.iload X405.here hx rfl (hb hby at_349) rfl) ?_
                      refine Go.via (fun _ => XS.iconst X405.here hx rfl (hb hby at_351)) ?_
                      refine Go.via (fun _ => XS.iadd X405.here hx rfl (hb hby at_352) rfl) ?_
                      show Go p e below (T405.setTop (mkF m 353 #[.val (.int x1), .val (.int y1), .val (.int z1), .val (.int w1), .val (.int s_), .val (.long fq), .second, .val (.int (3 : Int32)), .val (.int f0), .val (.int f1), .val (.int f2), .val (.int lo), .val (.int hi), .val (.int mid), .val (.ref b370), .val (.ref b380), .val (.ref b393), .val (.int sel), .unset, .unset] [(.int (mid + (1 : Int32)))])) _
                      refine Go.via (fun _ => XS.istore X405.here hx rfl (hb hby at_353) rfl (l' := #[.val (.int x1), .val (.int y1), .val (.int z1), .val (.int w1), .val (.int s_), .val (.long fq), .second, .val (.int (3 : Int32)), .val (.int f0), .val (.int f1), .val (.int f2), .val (.int lo), .val (.int hi), .val (.int mid), .val (.ref b370), .val (.ref b380), .val (.ref b393), .val (.int sel), .val (.int (mid + (1 : Int32))), .unset]) rfl) ?_
                      have f464 : Ia Z T405.heap b370 .int [lo, mid, hi] := ((f397.ext E393).keep K405q (ninS ne396 nin0))
                      have f465 : Ia Z T405.heap b380 .int [f0, f1, f2] := (f404.keep K405q (ninS ne398 nin0))
                      have z466 : n0 ≤ T405.heap.size := (Nat.le_trans z406 K405q.1)
                      have k467 : Keep h0 T405.heap [] := ((k394.ext E393).trans K405q (allS (Or.inr sz400) all0))
                      exact J3 T405 _ T405.heap (mid + (1 : Int32)) sel X405 e405 N405 z466 k467 f410 f411 f412 f464 f465
set_option maxRecDepth 65536 in
set_option maxHeartbeats 40000000 in
theorem comes_1 {Post : Tables → Env → Array Value → State → Outcome → State → Prop} (hpost : ∀ tb e args s v u, (limb_1_1.after args s (.returned v) u = true ∧ limb_1_2.after args s (.returned v) u = true ∧ True) → FrameEnd s (.returned v) u (Jvm.fieldLocs frame_1_writes args s ++ Jvm.arrayLocs frame_1_arrays args s ++ Jvm.staticLocs frame_1_statics s) 16 128 → Post tb e args s (.returned v) u) :
    ArmFor flags0 classFile x code maxLocals ret World_1 tables_1 room_1 Calls_1 rest_1 Pre_1 Post := by
  intro l hfl _ _ p e ha hc hk s m args below hf hA hF happ hP
  obtain ⟨hcalls, hrest, hpre⟩ := hP
  obtain ⟨-, -, -, hnamed, -, -, -, hat⟩ := (Spec.applies_iff hf).mp happ
  obtain ⟨hg, hn⟩ := and_e (Cond.before_iff.mp (show (Jvm.Cond.and given_1 narrow_1).before args s = true from hpre))
  obtain ⟨g0, r0⟩ := and_e hg
  obtain ⟨q0, r1⟩ := and_e r0
  obtain ⟨q1, r2⟩ := and_e r1
  obtain ⟨q2, r3⟩ := and_e r2
  obtain ⟨q3, r4⟩ := and_e r3
  obtain ⟨q4, r5⟩ := and_e r4
  have q5 := r5
  obtain ⟨w0, w1, w2, w3, w4, w5, rfl⟩ : ∃ w0 w1 w2 w3 w4 w5 : Value, args = #[w0, w1, w2, w3, w4, w5] := by
    have hs : args.size = 6 := by simpa [Cond.value, given_1] using g0
    obtain ⟨L⟩ := args
    match L, hs with
    | [w0, w1, w2, w3, w4, w5], _ => exact ⟨w0, w1, w2, w3, w4, w5, rfl⟩
  have hw := fun d (hd : d ∈ tables_1) => atoms_spec (ws := Jvm.Cond.code x code maxLocals ret :: tables_1) hat d (List.mem_cons_of_mem _ hd)
  have hfit : Fit s := fun {y c} hc i hi => by
    obtain ⟨ha, rfl⟩ := Array.getElem?_eq_some_iff.mp hc
    have q := List.all_eq_true.mp ((Array.all_eq_true_iff_forall_mem.mp hF) _ (Array.getElem_mem ha)) i (List.mem_range.mpr hi)
    simpa [Array.getElem?_eq_getElem hi] using q
  obtain ⟨i0, ei0⟩ := is_v q0
  obtain rfl : w0 = (.int i0) := Option.some.inj ei0
  obtain ⟨i1, ei1⟩ := is_v q1
  obtain rfl : w1 = (.int i1) := Option.some.inj ei1
  obtain ⟨i2, ei2⟩ := is_v q2
  obtain rfl : w2 = (.int i2) := Option.some.inj ei2
  obtain ⟨i3, ei3⟩ := is_v q3
  obtain rfl : w3 = (.int i3) := Option.some.inj ei3
  obtain ⟨i4, ei4⟩ := is_v q4
  obtain rfl : w4 = (.int i4) := Option.some.inj ei4
  obtain ⟨i5, ei5⟩ := isL_v q5
  obtain rfl : w5 = (.long i5) := Option.some.inj ei5
  obtain ⟨n, o, h1, h2, h3, _, L, rfl, ⟨rfl, N, -⟩, hq⟩ := rm0 l s _ hw tables_1 i0 i1 i2 i3 i4 i5  s.heap s.heap.size (Nat.le_refl _)  p e ha hc hk s m _ below hf ((Spec.applies_iff_loose hf).mp happ).1 ⟨rfl, State.Warmed39.refl s, rfl⟩ trivial
  refine ⟨n, _, h1, h2, h3, hpost _ _ _ _ _ _ ⟨Cond.after_iff.mpr rfl, Cond.after_iff.mpr (eq_i res_at (Term.int_eval (1)) rfl), trivial⟩ ⟨hq.1, hq.2.1, (hq.2.2.sift fun y hy => Or.inr (N y hy)).mono (by decide) (by decide)⟩⟩
theorem main_1_1 : Claimed_1_1 := comes_1 fun _ _ _ _ _ _ h hF => ⟨h.1, hF⟩
theorem main_1_2 : Claimed_1_2 := comes_1 fun _ _ _ _ _ _ h hF => ⟨h.2.1, hF⟩
end Jvm.Pilot.@@N@@
namespace Jvm.Pilot.@@N@@
open Jvm Jvm.ClassFile Sem Op Lib Jvm.Free Jvm.Stand Jvm.Pilot.@@N@@.Jvm.D
/-! MADE BY PROGRAM (witnessworld.py) out of the Statement's table words and the real class files: 11 classes; the members and pool entries that the words name. The judged class is class 1, her method 1. -/
namespace start1
open Jvm.ClassFile
def u (s : String) : CpInfo := .utf8 (stringToUtf16 s)
/-- a pool by its gaps: so many unusable entries, then the entry; so many at the end -/
def gap : Nat → List CpInfo → List CpInfo
  | 0, r => r
  | n + 1, r => .unusable :: gap n r
def poolList (es : List (Nat × CpInfo)) (last : Nat) : List CpInfo := es.foldr (fun e r => gap e.1 (e.2 :: r)) (gap last [])
def pool (es : List (Nat × CpInfo)) (last : Nat) : Array CpInfo := ⟨poolList es last⟩
def fileOf (pool : Array CpInfo) (this : Nat) (attrs : Array Attribute := #[]) (ms : Array MethodInfo := #[]) (fl : Nat := 33) (sup : Nat := 0) (ifs : Array Nat := #[]) (fds : Array FieldInfo := #[]) : ClassFile where
  minorVersion := 0
  majorVersion := 65
  constantPool := pool
  accessFlags := fl
  thisClass := this
  superClass := sup
  interfaces := ifs
  fields := fds
  methods := ms
  attributes := attrs
def plain (name : String) (sup : Option ClassId) : Class where
  name := name
  kind := .ordinary
  loader := none
  accessFlags := 33
  super := sup
  interfaces := #[]
  cf := none
  fields := #[]
  methods := #[]
  instanceTypes := #[]
  staticTypes := #[]
  resolved := #[]
  callSites := []
  init := .initialized
  statics := none
  mirror := none

def pool0 : Array CpInfo := pool [(5, u "<init>"), (0, u "()V"), (1, .class_ 10), (1, u "java/lang/Object")] 113

def k0c0 : Code := { maxStack := 0, maxLocals := 1, code := object_method_1_code, exceptionTable := #[], attributes := #[] }
def k0m0 : Method := { name := "<init>", desc := "()V", sig := { parameters := [], returnType := none }, accessFlags := 1, code := some k0c0 }
/-- java/lang/Object -/
def k0 : Class := { plain "java/lang/Object" none with
  accessFlags := 33
  interfaces := #[]
  cf := some (fileOf pool0 8 #[] #[{ accessFlags := 1, nameIndex := 5, descriptorIndex := 6, attributes := #[] }] 33 0 #[] #[])
  fields := #[]
  methods := #[k0m0]
  instanceTypes := #[]
  staticTypes := #[]
  resolved := Array.replicate 124 none
  statics := none }

def pool1 : Array CpInfo := pool [(2, .class_ 4), (1, u "java/lang/Object"), (0, u "<init>"), (0, u "()V"), (0, .long 1048575), (1, .methodref 10 11), (0, .class_ 12), (0, .nameAndType 13 14), (0, u "java/lang/Math"), (0, u "min"), (0, u "(II)I"), (0, .methodref 10 16), (0, .nameAndType 17 14), (0, u "max"), (0, .class_ 19), (0, u "com/example/libcosearch/libcosearch/PostingList"), (0, .methodref 18 21), (0, .nameAndType 5 22), (0, u "([I[I)V"), (0, .methodref 18 24), (0, .nameAndType 25 26), (0, u "frequencyIn"), (0, u "(I)I"), (0, .class_ 28), (0, u "com/example/libcosearch/libcosearch/PostingListFrequencyInPinLaw"), (2, u "law"), (0, u "(IIIIIJ)Z")] 5

def k1m0 : Method := { name := "<init>", desc := "()V", sig := { parameters := [], returnType := none }, accessFlags := 1, code := none }
def k1c1 : Code := { maxStack := 5, maxLocals := 20, code := code, exceptionTable := #[], attributes := #[] }
def k1m1 : Method := { name := "law", desc := "(IIIIIJ)Z", sig := { parameters := [.int, .int, .int, .int, .int, .long], returnType := some .boolean }, accessFlags := 9, code := some k1c1 }
/-- com/example/libcosearch/libcosearch/PostingListFrequencyInPinLaw -/
def k1 : Class := { plain "com/example/libcosearch/libcosearch/PostingListFrequencyInPinLaw" (some 0) with
  accessFlags := 49
  interfaces := #[]
  cf := some (fileOf pool1 27 #[] #[{ accessFlags := 1, nameIndex := 5, descriptorIndex := 6, attributes := #[] }, { accessFlags := 9, nameIndex := 31, descriptorIndex := 32, attributes := #[] }] 49 2 #[] #[])
  fields := #[]
  methods := #[k1m0, k1m1]
  instanceTypes := #[]
  staticTypes := #[]
  resolved := Array.replicate 38 none
  statics := none }

def pool2 : Array CpInfo := pool [(1, .class_ 2), (0, u "java/lang/Math"), (1, .class_ 6), (1, u "java/lang/Object"), (0, u "<init>"), (0, u "()V"), (89, .class_ 100), (1, u "java/lang/Math$RandomNumberGeneratorHolder"), (71, u "negativeZeroFloatBits"), (0, u "J"), (2, u "negativeZeroDoubleBits"), (21, u "max"), (2, u "min"), (43, u "$assertionsDisabled"), (0, u "Z"), (88, u "(II)I"), (2, u "twoToTheDoubleScaleDown"), (0, u "D"), (4, u "twoToTheDoubleScaleUp"), (9, u "E"), (3, u "PI"), (2, u "TAU"), (2, u "DEGREES_TO_RADIANS"), (0, u "RADIANS_TO_DEGREES")] 94

def k2m0 : Method := { name := "<init>", desc := "()V", sig := { parameters := [], returnType := none }, accessFlags := 2, code := none }
def k2c1 : Code := { maxStack := 2, maxLocals := 2, code := jdk_29_method_65_code, exceptionTable := #[], attributes := #[] }
def k2m1 : Method := { name := "max", desc := "(II)I", sig := { parameters := [.int, .int], returnType := some .int }, accessFlags := 9, code := some k2c1 }
def k2c2 : Code := { maxStack := 2, maxLocals := 2, code := jdk_29_method_69_code, exceptionTable := #[], attributes := #[] }
def k2m2 : Method := { name := "min", desc := "(II)I", sig := { parameters := [.int, .int], returnType := some .int }, accessFlags := 9, code := some k2c2 }
/-- java/lang/Math -/
def k2 : Class := { plain "java/lang/Math" (some 0) with
  accessFlags := 49
  interfaces := #[]
  cf := some (fileOf pool2 1 #[.nestMembers #[98]] #[{ accessFlags := 2, nameIndex := 7, descriptorIndex := 8, attributes := #[] }, { accessFlags := 9, nameIndex := 198, descriptorIndex := 335, attributes := #[] }, { accessFlags := 9, nameIndex := 201, descriptorIndex := 335, attributes := #[] }] 49 4 #[] #[{ accessFlags := 25, nameIndex := 354, descriptorIndex := 339, attributes := #[] }, { accessFlags := 25, nameIndex := 358, descriptorIndex := 339, attributes := #[] }, { accessFlags := 25, nameIndex := 361, descriptorIndex := 339, attributes := #[] }, { accessFlags := 26, nameIndex := 364, descriptorIndex := 339, attributes := #[] }, { accessFlags := 26, nameIndex := 365, descriptorIndex := 339, attributes := #[] }, { accessFlags := 26, nameIndex := 172, descriptorIndex := 173, attributes := #[] }, { accessFlags := 26, nameIndex := 176, descriptorIndex := 173, attributes := #[] }, { accessFlags := 8, nameIndex := 344, descriptorIndex := 339, attributes := #[] }, { accessFlags := 8, nameIndex := 338, descriptorIndex := 339, attributes := #[] }, { accessFlags := 4120, nameIndex := 245, descriptorIndex := 246, attributes := #[] }])
  fields := #[{ name := "E", type := .double, accessFlags := 25, slot := 0, constantValue := 0 }, { name := "PI", type := .double, accessFlags := 25, slot := 1, constantValue := 0 }, { name := "TAU", type := .double, accessFlags := 25, slot := 2, constantValue := 0 }, { name := "DEGREES_TO_RADIANS", type := .double, accessFlags := 26, slot := 3, constantValue := 0 }, { name := "RADIANS_TO_DEGREES", type := .double, accessFlags := 26, slot := 4, constantValue := 0 }, { name := "negativeZeroFloatBits", type := .long, accessFlags := 26, slot := 5, constantValue := 0 }, { name := "negativeZeroDoubleBits", type := .long, accessFlags := 26, slot := 6, constantValue := 0 }, { name := "twoToTheDoubleScaleUp", type := .double, accessFlags := 8, slot := 7, constantValue := 0 }, { name := "twoToTheDoubleScaleDown", type := .double, accessFlags := 8, slot := 8, constantValue := 0 }, { name := "$assertionsDisabled", type := .boolean, accessFlags := 4120, slot := 9, constantValue := 0 }]
  methods := #[k2m0, k2m1, k2m2]
  instanceTypes := #[]
  staticTypes := #[.double, .double, .double, .double, .double, .long, .long, .double, .double, .boolean]
  resolved := Array.replicate 460 none
  statics := none }

def pool3 : Array CpInfo := pool [(1, .methodref 2 3), (0, .class_ 4), (0, .nameAndType 5 6), (0, u "java/lang/Object"), (0, u "<init>"), (0, u "()V"), (0, .fieldref 8 9), (0, .class_ 10), (0, .nameAndType 11 12), (0, u "com/example/libcosearch/libcosearch/PostingList"), (0, u "documents"), (0, u "[I"), (0, .fieldref 8 14), (0, .nameAndType 15 12), (0, u "frequencies"), (0, .fieldref 8 17), (0, .nameAndType 18 19), (0, u "collectionFrequency"), (0, u "J"), (0, .methodref 21 22), (0, .class_ 23), (0, .nameAndType 24 25), (0, u "java/util/Arrays"), (0, u "binarySearch"), (0, u "([II)I"), (0, u "([I[I)V"), (7, u "(I)I"), (1, u "frequencyIn"), (5, .class_ 43), (0, u "com/example/libcosearch/libcosearch/PostingList$Builder")] 2

def k3c0 : Code := { maxStack := 4, maxLocals := 9, code := prog_22_method_1_code, exceptionTable := #[], attributes := #[] }
def k3m0 : Method := { name := "<init>", desc := "([I[I)V", sig := { parameters := [(.array .int), (.array .int)], returnType := none }, accessFlags := 0, code := some k3c0 }
def k3c1 : Code := { maxStack := 2, maxLocals := 3, code := prog_22_method_5_code, exceptionTable := #[], attributes := #[] }
def k3m1 : Method := { name := "frequencyIn", desc := "(I)I", sig := { parameters := [.int], returnType := some .int }, accessFlags := 0, code := some k3c1 }
/-- com/example/libcosearch/libcosearch/PostingList -/
def k3 : Class := { plain "com/example/libcosearch/libcosearch/PostingList" (some 0) with
  accessFlags := 32
  interfaces := #[]
  cf := some (fileOf pool3 8 #[.nestMembers #[42]] #[{ accessFlags := 0, nameIndex := 5, descriptorIndex := 26, attributes := #[] }, { accessFlags := 0, nameIndex := 36, descriptorIndex := 34, attributes := #[] }] 32 2 #[] #[{ accessFlags := 18, nameIndex := 11, descriptorIndex := 12, attributes := #[] }, { accessFlags := 18, nameIndex := 15, descriptorIndex := 12, attributes := #[] }, { accessFlags := 18, nameIndex := 18, descriptorIndex := 19, attributes := #[] }])
  fields := #[{ name := "documents", type := (.array .int), accessFlags := 18, slot := 0, constantValue := 0 }, { name := "frequencies", type := (.array .int), accessFlags := 18, slot := 1, constantValue := 0 }, { name := "collectionFrequency", type := .long, accessFlags := 18, slot := 2, constantValue := 0 }]
  methods := #[k3m0, k3m1]
  instanceTypes := #[(.array .int), (.array .int), .long]
  staticTypes := #[]
  resolved := Array.replicate 46 none
  statics := none }

def pool4 : Array CpInfo := pool [(2, .class_ 4), (1, u "java/lang/Object"), (0, u "<init>"), (0, u "()V"), (7, .class_ 16), (1, u "java/util/Arrays"), (57, .class_ 76), (1, u "java/util/Arrays$NaturalOrder"), (36, .class_ 115), (1, u "java/util/Arrays$LegacyMergeSort"), (1, u "Z"), (89, u "binarySearch0"), (1, .methodref 14 210), (0, .nameAndType 207 211), (0, u "([IIII)I"), (163, .class_ 376), (0, u "java/util/Arrays$ArrayList"), (68, u "$assertionsDisabled"), (269, u "MIN_ARRAY_SORT_GRAN"), (0, u "I"), (2, u "INSERTIONSORT_THRESHOLD"), (74, u "binarySearch"), (4, u "([II)I"), (175, .class_ 976), (0, u "java/util/Arrays$ArrayItr")] 52

def k4m0 : Method := { name := "<init>", desc := "()V", sig := { parameters := [], returnType := none }, accessFlags := 2, code := none }
def k4c1 : Code := { maxStack := 4, maxLocals := 2, code := jdk_65_method_57_code, exceptionTable := #[], attributes := #[] }
def k4m1 : Method := { name := "binarySearch", desc := "([II)I", sig := { parameters := [(.array .int), .int], returnType := some .int }, accessFlags := 9, code := some k4c1 }
def k4c2 : Code := { maxStack := 2, maxLocals := 8, code := jdk_65_method_59_code, exceptionTable := #[], attributes := #[] }
def k4m2 : Method := { name := "binarySearch0", desc := "([IIII)I", sig := { parameters := [(.array .int), .int, .int, .int], returnType := some .int }, accessFlags := 10, code := some k4c2 }
/-- java/util/Arrays -/
def k4 : Class := { plain "java/util/Arrays" (some 0) with
  accessFlags := 49
  interfaces := #[]
  cf := some (fileOf pool4 14 #[.nestMembers #[975, 375, 113, 74]] #[{ accessFlags := 2, nameIndex := 5, descriptorIndex := 6, attributes := #[] }, { accessFlags := 9, nameIndex := 794, descriptorIndex := 799, attributes := #[] }, { accessFlags := 10, nameIndex := 207, descriptorIndex := 211, attributes := #[] }] 49 2 #[] #[{ accessFlags := 26, nameIndex := 715, descriptorIndex := 716, attributes := #[] }, { accessFlags := 26, nameIndex := 719, descriptorIndex := 716, attributes := #[] }, { accessFlags := 4120, nameIndex := 445, descriptorIndex := 117, attributes := #[] }])
  fields := #[{ name := "MIN_ARRAY_SORT_GRAN", type := .int, accessFlags := 26, slot := 0, constantValue := 0 }, { name := "INSERTIONSORT_THRESHOLD", type := .int, accessFlags := 26, slot := 1, constantValue := 0 }, { name := "$assertionsDisabled", type := .boolean, accessFlags := 4120, slot := 2, constantValue := 0 }]
  methods := #[k4m0, k4m1, k4m2]
  instanceTypes := #[]
  staticTypes := #[.int, .int, .boolean]
  resolved := Array.replicate 1029 none
  statics := none }

def pool5 : Array CpInfo := pool [(1, u "java/lang/Cloneable"), (0, .class_ 1), (0, u "java/lang/Object"), (0, .class_ 3)] 3

/-- java/lang/Cloneable -/
def k5 : Class := { plain "java/lang/Cloneable" (some 0) with
  accessFlags := 1537
  interfaces := #[]
  cf := some (fileOf pool5 2 #[] #[] 1537 4 #[] #[])
  fields := #[]
  methods := #[]
  instanceTypes := #[]
  staticTypes := #[]
  resolved := Array.replicate 8 none
  statics := none }

def pool6 : Array CpInfo := pool [(1, u "java/io/Serializable"), (0, .class_ 1), (0, u "java/lang/Object"), (0, .class_ 3)] 3

/-- java/io/Serializable -/
def k6 : Class := { plain "java/io/Serializable" (some 0) with
  accessFlags := 1537
  interfaces := #[]
  cf := some (fileOf pool6 2 #[] #[] 1537 4 #[] #[])
  fields := #[]
  methods := #[]
  instanceTypes := #[]
  staticTypes := #[]
  resolved := Array.replicate 8 none
  statics := none }

/-- the primitive byte -/
def k7 : Class := { plain "byte" none with kind := .primitive 'B', accessFlags := 0x411 }
/-- [B -/
def k8 : Class := { plain "[B" (some 0) with kind := .array 7 .byte, interfaces := #[5, 6], accessFlags := 1041 }

/-- the primitive int -/
def k9 : Class := { plain "int" none with kind := .primitive 'I', accessFlags := 0x411 }
/-- [I -/
def k10 : Class := { plain "[I" (some 0) with kind := .array 9 .int, interfaces := #[5, 6], accessFlags := 1041 }

def heap : Heap := #[]
def classes : Array Class := #[k0, k1, k2, k3, k4, k5, k6, k7, k8, k9, k10]
def interned : List (Array UInt16 × Addr) := []
def slotsUsed : Nat := 0
def theMethod : MethodId := ⟨1, 1⟩
def args0 : Array Value := #[.int 3, .int 1, .int 7, .int 8, .int 25, .long 10]
def aboutOver (below : List Frame) : State where
  vm := { classes := classes, interned := interned.toArray }
  heap := heap
  slotsUsed := slotsUsed
  threads := #[{ frames := .invoking theMethod args0 :: below }]
def below0 : List Frame := [.native { method := ⟨0, 0⟩, args := #[] }]
def about1 : State := aboutOver below0
def p0 : Program := .bare "" "" ""
def e0 : Env := launch0.env 0 0 0
theorem w_frames : about1.frames = Frame.invoking theMethod args0 :: below0 := rfl
set_option maxRecDepth 65536 in
theorem w_args : argsFit about1.vm theMethod args0 = true := by decide +kernel
set_option maxRecDepth 65536 in
theorem w_heap : heapFits about1 = true := by decide +kernel
set_option maxRecDepth 65536 in
theorem w_runnable : about1.curStatus? = some .runnable := by decide +kernel
set_option maxRecDepth 65536 in
theorem w_alone : about1.alone = true := by decide +kernel
set_option maxRecDepth 65536 in
theorem w_named : about1.methodNamed? x = some theMethod := by decide +kernel
set_option maxRecDepth 65536 in
theorem w_hears : about1.hears theMethod below0 = true := by decide +kernel
set_option maxRecDepth 65536 in
theorem w_ripe : about1.ripe theMethod args0 below0 = true := by decide +kernel
theorem w_running : about1.status = .running := rfl
set_option maxRecDepth 65536 in
theorem w_room : about1.hasRoom e0.platform room_1 = true :=
  launch0.hasRoom_least _ room_1 (by decide +kernel) (by decide +kernel) (by decide +kernel) (by decide +kernel) (by decide +kernel) (by decide +kernel)
theorem allAtoms_all (ts : List Jvm.Cond) (a : Array Jvm.Value) (st : Jvm.State) : (allAtoms ts).before a st = ts.all (fun c => c.before a st) := by
  induction ts with
  | nil => rfl
  | cons c t ih =>
    show (Jvm.Cond.and c (allAtoms t)).before a st = _
    rw [Jvm.Cond.before_and, ih, List.all_cons]
def words1 : List Jvm.Cond := Jvm.Cond.code x code maxLocals ret :: tables_1
/-- a 'code' word, met by the world's own term for the bytes: nothing is compared byte by byte -/
theorem code_word {y : MethodName} {bytes : ByteArray} {mx : Nat} {rt : Option FieldType} {a : Array Value} {s : State} {m : MethodId} {meth : Method} {c : Code} (h1 : s.methodNamed? y = some m) (h2 : s.vm.method? m = some meth) (h3 : meth.code = some c) (h4 : c.code = bytes)
    (h5 : (c.maxLocals == mx && c.exceptionTable.isEmpty && decide (c.maxStack ≤ mostOperands) && decide (meth.sig.returnType = rt) && !meth.locks && decide (parseMethodDescriptor y.desc = some meth.sig)) = true) : (Jvm.Cond.code y bytes mx rt).before a s = true := by
  simp only [Bool.and_eq_true, beq_iff_eq, Bool.not_eq_true', decide_eq_true_eq] at h5
  obtain ⟨⟨⟨⟨⟨g1, g2⟩, g3⟩, g4⟩, g5⟩, g6⟩ := h5
  simp [Cond.before, Cond.holds, Cond.value, h1, h2, h3, h4, g1, g2, g3, g4, g5, g6]
def isCode : Jvm.Cond → Bool
  | .code _ _ _ _ => true
  | _ => false
theorem all_split {L : List Jvm.Cond} {P : Jvm.Cond → Bool} (h1 : L.all (fun c => isCode c || P c) = true) (h2 : ∀ c ∈ L.filter isCode, P c = true) : L.all P = true := by
  refine List.all_eq_true.mpr fun c hc => ?_
  have h := List.all_eq_true.mp h1 c hc
  rcases Bool.eq_false_or_eq_true (isCode c) with hi | hi
  · exact h2 c (List.mem_filter.mpr ⟨hc, hi⟩)
  · simpa [hi] using h
set_option maxRecDepth 65536 in
theorem w_c0 : (Jvm.Cond.code x code maxLocals ret).before args0 about1 = true := code_word (m := ⟨1, 1⟩) (meth := k1m1) (c := k1c1) (by decide +kernel) rfl rfl rfl (by decide +kernel)
set_option maxRecDepth 65536 in
theorem w_c1 : (Jvm.Cond.code ({ cls := "java/lang/Math", name := "min", desc := "(II)I" } : Jvm.MethodName) jdk_29_method_69_code (2 : Nat) (Option.some Jvm.ClassFile.FieldType.int)).before args0 about1 = true := code_word (m := ⟨2, 2⟩) (meth := k2m2) (c := k2c2) (by decide +kernel) rfl rfl rfl (by decide +kernel)
set_option maxRecDepth 65536 in
theorem w_c2 : (Jvm.Cond.code ({ cls := "java/lang/Math", name := "max", desc := "(II)I" } : Jvm.MethodName) jdk_29_method_65_code (2 : Nat) (Option.some Jvm.ClassFile.FieldType.int)).before args0 about1 = true := code_word (m := ⟨2, 1⟩) (meth := k2m1) (c := k2c1) (by decide +kernel) rfl rfl rfl (by decide +kernel)
set_option maxRecDepth 65536 in
theorem w_c3 : (Jvm.Cond.code ({ cls := "com/example/libcosearch/libcosearch/PostingList", name := "<init>", desc := "([I[I)V" } : Jvm.MethodName) prog_22_method_1_code (9 : Nat) (Option.none : Option Jvm.ClassFile.FieldType)).before args0 about1 = true := code_word (m := ⟨3, 0⟩) (meth := k3m0) (c := k3c0) (by decide +kernel) rfl rfl rfl (by decide +kernel)
set_option maxRecDepth 65536 in
theorem w_c4 : (Jvm.Cond.code ({ cls := "java/lang/Object", name := "<init>", desc := "()V" } : Jvm.MethodName) object_method_1_code (1 : Nat) (Option.none : Option Jvm.ClassFile.FieldType)).before args0 about1 = true := code_word (m := ⟨0, 0⟩) (meth := k0m0) (c := k0c0) (by decide +kernel) rfl rfl rfl (by decide +kernel)
set_option maxRecDepth 65536 in
theorem w_c5 : (Jvm.Cond.code ({ cls := "com/example/libcosearch/libcosearch/PostingList", name := "frequencyIn", desc := "(I)I" } : Jvm.MethodName) prog_22_method_5_code (3 : Nat) (Option.some Jvm.ClassFile.FieldType.int)).before args0 about1 = true := code_word (m := ⟨3, 1⟩) (meth := k3m1) (c := k3c1) (by decide +kernel) rfl rfl rfl (by decide +kernel)
set_option maxRecDepth 65536 in
theorem w_c6 : (Jvm.Cond.code ({ cls := "java/util/Arrays", name := "binarySearch", desc := "([II)I" } : Jvm.MethodName) jdk_65_method_57_code (2 : Nat) (Option.some Jvm.ClassFile.FieldType.int)).before args0 about1 = true := code_word (m := ⟨4, 1⟩) (meth := k4m1) (c := k4c1) (by decide +kernel) rfl rfl rfl (by decide +kernel)
set_option maxRecDepth 65536 in
theorem w_c7 : (Jvm.Cond.code ({ cls := "java/util/Arrays", name := "binarySearch0", desc := "([IIII)I" } : Jvm.MethodName) jdk_65_method_59_code (8 : Nat) (Option.some Jvm.ClassFile.FieldType.int)).before args0 about1 = true := code_word (m := ⟨4, 2⟩) (meth := k4m2) (c := k4c2) (by decide +kernel) rfl rfl rfl (by decide +kernel)
def codes1 : List Jvm.Cond := [Jvm.Cond.code x code maxLocals ret, Jvm.Cond.code ({ cls := "java/lang/Math", name := "min", desc := "(II)I" } : Jvm.MethodName) jdk_29_method_69_code (2 : Nat) (Option.some Jvm.ClassFile.FieldType.int), Jvm.Cond.code ({ cls := "java/lang/Math", name := "max", desc := "(II)I" } : Jvm.MethodName) jdk_29_method_65_code (2 : Nat) (Option.some Jvm.ClassFile.FieldType.int), Jvm.Cond.code ({ cls := "com/example/libcosearch/libcosearch/PostingList", name := "<init>", desc := "([I[I)V" } : Jvm.MethodName) prog_22_method_1_code (9 : Nat) (Option.none : Option Jvm.ClassFile.FieldType), Jvm.Cond.code ({ cls := "java/lang/Object", name := "<init>", desc := "()V" } : Jvm.MethodName) object_method_1_code (1 : Nat) (Option.none : Option Jvm.ClassFile.FieldType), Jvm.Cond.code ({ cls := "com/example/libcosearch/libcosearch/PostingList", name := "frequencyIn", desc := "(I)I" } : Jvm.MethodName) prog_22_method_5_code (3 : Nat) (Option.some Jvm.ClassFile.FieldType.int), Jvm.Cond.code ({ cls := "java/util/Arrays", name := "binarySearch", desc := "([II)I" } : Jvm.MethodName) jdk_65_method_57_code (2 : Nat) (Option.some Jvm.ClassFile.FieldType.int), Jvm.Cond.code ({ cls := "java/util/Arrays", name := "binarySearch0", desc := "([IIII)I" } : Jvm.MethodName) jdk_65_method_59_code (8 : Nat) (Option.some Jvm.ClassFile.FieldType.int)]
set_option maxRecDepth 65536 in
theorem codes_eq : words1.filter isCode = codes1 := rfl
theorem w_codes : ∀ c ∈ words1.filter isCode, c.before args0 about1 = true := by
  rw [codes_eq]
  intro c hc
  simp only [codes1, List.mem_cons, List.not_mem_nil, or_false] at hc
  rcases hc with rfl | rfl | rfl | rfl | rfl | rfl | rfl | rfl
  · exact w_c0
  · exact w_c1
  · exact w_c2
  · exact w_c3
  · exact w_c4
  · exact w_c5
  · exact w_c6
  · exact w_c7
set_option maxRecDepth 65536 in
theorem w_t1 : (words1.take 24).all (fun c => isCode c || c.before args0 about1) = true := by decide +kernel
set_option maxRecDepth 65536 in
theorem w_t2 : (words1.drop 24).all (fun c => isCode c || c.before args0 about1) = true := by decide +kernel
theorem w_tables : (allAtoms (Jvm.Cond.code x code maxLocals ret :: tables_1)).before args0 about1 = true := by
  rw [allAtoms_all]
  show words1.all (fun c => c.before args0 about1) = true
  refine all_split ?_ w_codes
  rw [← List.take_append_drop 24 words1, List.all_append, w_t1, w_t2]
  rfl
set_option maxRecDepth 65536 in
theorem w_case : (Jvm.Cond.and given_1 narrow_1).before args0 about1 = true := by decide +kernel
theorem w_applies : (headSpec (Jvm.Cond.code x code maxLocals ret :: tables_1) room_1).applies x e0.platform about1 = true :=
  (Spec.applies_iff w_frames).mpr ⟨w_running, w_runnable, w_alone, w_named, w_hears, w_ripe, w_room, w_tables⟩
theorem atStart : AtStart classFile x code maxLocals ret World_1 tables_1 room_1 Calls_1 rest_1 Pre_1 launch0 p0 e0 about1 theMethod args0 below0 :=
  ⟨lists_1, trivial, launch0.admits_env _ _ _, launch0.least_env, fairChoices_fair.cas, fairChoices_fair.clock, w_frames, w_args, w_heap, w_applies, trivial, trivial, w_case⟩
end start1
theorem witness_1 : WitnessClaimed_1 := ⟨start1.p0, start1.e0, start1.about1, start1.theMethod, start1.args0, start1.below0, start1.atStart⟩
end Jvm.Pilot.@@N@@
