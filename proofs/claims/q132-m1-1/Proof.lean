import JvmDerived
import JvmDerived.Pilot.@@N@@Statement
import JvmDerived.Pilot.@@N@@Code
set_option linter.unusedVariables false
set_option linter.unusedSimpArgs false
namespace Jvm.OwnKit
open Sem ClassFile Op Lib Jvm.Stand Jvm.Free Jvm.LawKit Jvm.RoadKit
section Own
variable {p : Program} {l : Launch} {e : Env} {R : Room} {s : State} {m : MethodId} {args : Array Value} {below : List Frame} {meth : Method} {c : Code} {T : State} {locs : List Loc} {cells slots : Nat} {Z : State} {h h' : Heap} {a b : Addr}
theorem retI (X : Stand p l e R s m args below meth c T locs cells slots) (hx : p.tables.exec = Jvm.exec) {pc : Nat} {Ls : Array Slot} {z : Int32} {rest : List Value} (hret : meth.sig.returnType = some .int) (hd : decode c.code pc = .ok (.ireturn, 1)) {fs : List Frame}
    (hl : ∀ (f : JFrame) (acts : List Action), f.method = m → f.locked = none → f.entered = [] → (doReturn e (T.setTop f) acts (some (.int z))).1 = T.setFrames fs) : Steps p.tables e below (T.setTop (mkF m pc Ls (.int z :: rest))) (T.setFrames fs) :=
  retOut X hx hret rfl (Or.inl ⟨rfl, Or.inl rfl, z, rfl⟩) hd hl
/-- the run goes on from S to an end of which G holds -/
def Go (p : Program) (e : Env) (below : List Frame) (S : State) (G : State → Outcome → Prop) : Prop := ∃ s₂ o, Steps p.tables e below S s₂ ∧ s₂.status = .running ∧ Ended s₂ below o ∧ G s₂ o
theorem Go.via {S S' : State} {G : State → Outcome → Prop} (h : ∀ t, Steps p.tables e below S' t → Steps p.tables e below S t) (k : Go p e below S' G) : Go p e below S G := by
  obtain ⟨a, o, h1, r⟩ := k; exact ⟨a, o, h a h1, r⟩
/-- the end: what is returned, what the heap says, what was written -/
abbrev Done (s : State) (Q : Option Value → Heap → List Loc → Prop) (kc ks : Nat) : State → Outcome → Prop := fun s₂ o => ∃ v L, o = .returned v ∧ Q v s₂.heap L ∧ FrameEnd s o s₂ L kc ks
theorem Go.fin {S : State} (X : Stand p l e R s m args below meth c T locs cells slots) (hlk : meth.locks = false) {v : Option Value} (hv : meth.sig.returnType = none → v = none) {Q : Option Value → Heap → List Loc → Prop} {kc ks : Nat}
    (hstep : ∀ fs, (∀ (f : JFrame) (acts : List Action), f.method = m → f.locked = none → f.entered = [] → (doReturn e (T.setTop f) acts v).1 = T.setFrames fs) → Steps p.tables e below S (T.setFrames fs))
    (hQ : Q v T.heap locs) (hc : cells ≤ kc) (hs : slots ≤ ks) : Go p e below S (Done s Q kc ks) := by
  obtain ⟨fs, hr, hrun, hended, hW, hsame⟩ := X.leave (v := v) hv hlk
  exact ⟨_, _, hstep fs hr, hrun, hended, _, _, rfl, hQ, ⟨_, rfl⟩, hW, hsame.mono hc hs⟩
/-- an array of ints, bytes, chars, shorts or booleans, whole -/
def Ia (Z : State) (h : Heap) (a : Addr) (ty : FieldType) (xs : List Int32) : Prop := ∃ c : Cell, Arr Z h a c ty ∧ c.slots = (xs.map Value.int).toArray ∧ xs.length < 2147483648 ∧ ∀ x ∈ xs, fits ty (.int x) = true
variable {ty : FieldType} {xs : List Int32} {ws : List Addr} {sl : Nat} {v w : Value} {j x n : Int32} {k : ClassId} {rest : List Value}
theorem Ia.lt (F : Ia Z h a ty xs) : a < h.size := by obtain ⟨c, A, -⟩ := F; exact A.lt
theorem Ia.ext (F : Ia Z h a ty xs) (E : Ext h h') : Ia Z h' a ty xs := by obtain ⟨c, A, r⟩ := F; exact ⟨c, A.ext E, r⟩
theorem Ia.other (F : Ia Z h b ty xs) (W : Wr h h' a sl v) (q : b ≠ a) : Ia Z h' b ty xs := by obtain ⟨c, A, r⟩ := F; exact ⟨c, A.other W q, r⟩
theorem Ia.keep (F : Ia Z h a ty xs) (K : Keep h h' ws) (q : a ∉ ws) : Ia Z h' a ty xs := by obtain ⟨c, A, r⟩ := F; exact ⟨c, ⟨K.2.1 a c A.1 q, A.2⟩, r⟩
theorem nn_lt {n : Int32} : n.toNatClampNeg < 2147483648 := by
  have h1 := n.toInt_lt
  simp only [Int32.toNatClampNeg]; omega
theorem Ia.new (A : Arr Z h a (newA k ty n) ty) (hd : defaultValue ty = .int 0) (hf : fits ty (.int 0) = true := by rfl) : Ia Z h a ty (List.replicate n.toNatClampNeg 0) := ⟨_, A, by simp [newA, hd], by simp [nn_lt], fun x hx => by rw [(List.mem_replicate.mp hx).2]; exact hf⟩
theorem Ia.hin {cl : Cell} (e : cl.slots = (xs.map Value.int).toArray) (hj : ¬ j < 0) (hlt : j.toNatClampNeg < xs.length) : ¬ (j < 0 ∨ cl.slots.size ≤ j.toNatClampNeg) := by
  rw [e]; simp only [List.size_toArray, List.length_map]; rintro (q | q); exact hj q; omega
theorem Ia.at {cl : Cell} (e : cl.slots = (xs.map Value.int).toArray) (hv : xs[j.toNatClampNeg]? = some x) : cl.slots[j.toNatClampNeg]? = some (.int x) := by
  rw [e]; simp [hv]
theorem lt_of_at (hv : xs[j.toNatClampNeg]? = some x) : j.toNatClampNeg < xs.length := (List.getElem?_eq_some_iff.mp hv).1
theorem Ia.set {cl : Cell} (A : Arr Z h a cl ty) (e : cl.slots = (xs.map Value.int).toArray) (hl : xs.length < 2147483648) (hf : ∀ x ∈ xs, fits ty (.int x) = true) (W : Wr h h' a j.toNatClampNeg (.int x)) (hx : fits ty (.int x) = true) : Ia Z h' a ty (xs.set j.toNatClampNeg x) :=
  ⟨_, A.same W, by simp [Cell.setSlot, e, List.map_set], by simpa using hl, fun y hy => by rcases List.mem_or_eq_of_mem_set hy with q | q; exact hf y q; rw [q]; exact hx⟩
theorem ldI (X : Stand p l e R s m args below meth c T locs cells slots) (hx : p.tables.exec = Jvm.exec) (hZ : Z.Warmed39 s.vm) (eT : T.heap = h) (F : Ia Z h a .int xs) {v : Int32} (hj : ¬ j < 0) (hv : xs[j.toNatClampNeg]? = some v) {g : JFrame} (hg : g.method = m) (hs : g.stack = .int j :: .ref a :: rest) (hd : decode c.code g.pc = .ok (.iaload, 1)) :
    ∀ t, Steps p.tables e below (T.setTop { g with pc := g.pc + 1, stack := .int v :: rest }) t → Steps p.tables e below (T.setTop g) t := by
  obtain ⟨cl, A, q, -⟩ := F
  exact X.iaload hx (j := j) (v := .int v) (by rw [eT]; exact A.1) (State.isArrayOf_alike hZ.alike A.2.1) A.2.2 (Ia.hin q hj (lt_of_at hv)) (Ia.at q hv) hg hs hd
theorem ldB (X : Stand p l e R s m args below meth c T locs cells slots) (hx : p.tables.exec = Jvm.exec) (hZ : Z.Warmed39 s.vm) (eT : T.heap = h) (F : Ia Z h a .byte xs) {v : Int32} (hj : ¬ j < 0) (hv : xs[j.toNatClampNeg]? = some v) {g : JFrame} (hg : g.method = m) (hs : g.stack = .int j :: .ref a :: rest) (hd : decode c.code g.pc = .ok (.baload, 1)) :
    ∀ t, Steps p.tables e below (T.setTop { g with pc := g.pc + 1, stack := .int v :: rest }) t → Steps p.tables e below (T.setTop g) t := by
  obtain ⟨cl, A, q, -⟩ := F
  exact X.baloadBytes hx (j := j) (v := .int v) (by rw [eT]; exact A.1) (State.isArrayOf_alike hZ.alike A.2.1) A.2.2 (Ia.hin q hj (lt_of_at hv)) (Ia.at q hv) hg hs hd
theorem ldC (X : Stand p l e R s m args below meth c T locs cells slots) (hx : p.tables.exec = Jvm.exec) (hZ : Z.Warmed39 s.vm) (eT : T.heap = h) (F : Ia Z h a .char xs) {v : Int32} (hj : ¬ j < 0) (hv : xs[j.toNatClampNeg]? = some v) {g : JFrame} (hg : g.method = m) (hs : g.stack = .int j :: .ref a :: rest) (hd : decode c.code g.pc = .ok (.caload, 1)) :
    ∀ t, Steps p.tables e below (T.setTop { g with pc := g.pc + 1, stack := .int v :: rest }) t → Steps p.tables e below (T.setTop g) t := by
  obtain ⟨cl, A, q, -⟩ := F
  exact X.caload hx (j := j) (v := .int v) (by rw [eT]; exact A.1) (State.isArrayOf_alike hZ.alike A.2.1) A.2.2 (Ia.hin q hj (lt_of_at hv)) (Ia.at q hv) hg hs hd
theorem stI' (X : Stand p l e R s m args below meth c T locs cells slots) (hx : p.tables.exec = Jvm.exec) (hZ : Z.Warmed39 s.vm) (eT : T.heap = h) (F : Ia Z h a .int xs) (hj : ¬ j < 0) (hlt : j.toNatClampNeg < xs.length) {g : JFrame} (hg : g.method = m) (hs : g.stack = .int x :: .int j :: .ref a :: rest) (hd : decode c.code g.pc = .ok (.iastore, 1)) :
    ∃ T' h', Stand p l e R s m args below meth c T' (locs ++ [⟨a, j.toNatClampNeg⟩]) cells slots ∧ T'.heap = h' ∧ Wr h h' a j.toNatClampNeg (.int x) ∧ Ia Z h' a .int (xs.set j.toNatClampNeg x) ∧ ∀ t, Steps p.tables e below (T'.setTop { g with pc := g.pc + 1, stack := rest }) t → Steps p.tables e below (T.setTop g) t := by
  obtain ⟨cl, A, q, hl, hf⟩ := F
  obtain ⟨T', h', X', e', W, st⟩ := stI X hx hZ eT A (Ia.hin q hj hlt) hg hs hd
  exact ⟨T', h', X', e', W, Ia.set A q hl hf W rfl, st⟩
theorem stB' (X : Stand p l e R s m args below meth c T locs cells slots) (hx : p.tables.exec = Jvm.exec) (hZ : Z.Warmed39 s.vm) (eT : T.heap = h) (F : Ia Z h a .byte xs) (hj : ¬ j < 0) (hlt : j.toNatClampNeg < xs.length) {g : JFrame} (hg : g.method = m) (hs : g.stack = .int x :: .int j :: .ref a :: rest) (hd : decode c.code g.pc = .ok (.bastore, 1)) :
    ∃ T' h', Stand p l e R s m args below meth c T' (locs ++ [⟨a, j.toNatClampNeg⟩]) cells slots ∧ T'.heap = h' ∧ Wr h h' a j.toNatClampNeg (.int (nar .byte x)) ∧ Ia Z h' a .byte (xs.set j.toNatClampNeg (nar .byte x)) ∧ ∀ t, Steps p.tables e below (T'.setTop { g with pc := g.pc + 1, stack := rest }) t → Steps p.tables e below (T.setTop g) t := by
  obtain ⟨cl, A, q, hl, hf⟩ := F
  obtain ⟨T', h', X', e', W, st⟩ := stB X hx hZ eT A (Ia.hin q hj hlt) hg hs hd
  exact ⟨T', h', X', e', W, Ia.set A q hl hf W (fits_nar_byte x), st⟩
theorem stC' (X : Stand p l e R s m args below meth c T locs cells slots) (hx : p.tables.exec = Jvm.exec) (hZ : Z.Warmed39 s.vm) (eT : T.heap = h) (F : Ia Z h a .char xs) (hj : ¬ j < 0) (hlt : j.toNatClampNeg < xs.length) {g : JFrame} (hg : g.method = m) (hs : g.stack = .int x :: .int j :: .ref a :: rest) (hd : decode c.code g.pc = .ok (.castore, 1)) :
    ∃ T' h', Stand p l e R s m args below meth c T' (locs ++ [⟨a, j.toNatClampNeg⟩]) cells slots ∧ T'.heap = h' ∧ Wr h h' a j.toNatClampNeg (.int (nar .char x)) ∧ Ia Z h' a .char (xs.set j.toNatClampNeg (nar .char x)) ∧ ∀ t, Steps p.tables e below (T'.setTop { g with pc := g.pc + 1, stack := rest }) t → Steps p.tables e below (T.setTop g) t := by
  obtain ⟨cl, A, q, hl, hf⟩ := F
  obtain ⟨T', h', X', e', W, st⟩ := stC X hx hZ eT A (Ia.hin q hj hlt) hg hs hd
  exact ⟨T', h', X', e', W, Ia.set A q hl hf W (fits_nar_char x), st⟩
theorem lenI (X : Stand p l e R s m args below meth c T locs cells slots) (hx : p.tables.exec = Jvm.exec) (hZ : Z.Warmed39 s.vm) (eT : T.heap = h) (F : Ia Z h a ty xs) (hn : xs.length.toInt32 = n) {g : JFrame} (hg : g.method = m) (hs : g.stack = .ref a :: rest) (hd : decode c.code g.pc = .ok (.arraylength, 1)) :
    ∀ t, Steps p.tables e below (T.setTop { g with pc := g.pc + 1, stack := .int n :: rest }) t → Steps p.tables e below (T.setTop g) t := by
  obtain ⟨cl, A, q, -⟩ := F
  have q2 : cl.slots.size.toInt32 = n := by rw [q]; simpa using hn
  have := X.arraylength hx (by rw [eT]; exact A.1) (State.isArrayOf_alike hZ.alike A.2.1) hg hs hd
  rw [q2] at this
  exact this
theorem len32 (hl : xs.length < 2147483648) : xs.length.toInt32.toNatClampNeg = xs.length ∧ ¬ xs.length.toInt32 < 0 := by
  have h1 : xs.length.toInt32.toInt = (xs.length : Int) := Int32.toInt_ofNat_small hl
  refine ⟨by simp only [Int32.toNatClampNeg]; omega, ?_⟩
  rw [Int32.lt_iff_toInt_lt, h1]
  have : (0 : Int32).toInt = 0 := rfl
  omega
theorem Ia.arv (F : Ia Z h a ty xs) : ∃ k, Arv Z h a k ty xs.length.toInt32 (xs.map Value.int) (.int 0) ∧ xs.length < 2147483648 := by
  obtain ⟨c, A, q, hl, hf⟩ := F
  refine ⟨c.cls, ⟨c, A, rfl, by rw [q, (len32 hl).1]; simp, (len32 hl).2, fun i hi => ?_, fun i hi => ?_⟩, hl⟩
  · have hi2 : i < xs.length := by rw [q] at hi; simpa using hi
    rw [q]; simp [List.getD, hi2]
  · have hi2 : i < xs.length := by rw [q] at hi; simpa using hi
    have := hf xs[i] (List.getElem_mem hi2)
    simpa [List.getD, hi2] using this
theorem Ia.of_arv {z : Int32} {d : Value} (F : Arv Z h a k ty z (xs.map Value.int) d) (hl : xs.length = z.toNatClampNeg) : Ia Z h a ty xs := by
  obtain ⟨c, A, q1, S, N, H, G⟩ := F
  have hn : z.toNatClampNeg < 2147483648 := nn_lt
  refine ⟨c, A, ?_, by omega, fun x hx => ?_⟩
  · apply Array.ext
    · rw [S, ← hl]; simp
    · intro i h1 h2
      have := H i h1
      have h3 : i < xs.length := by rw [hl, ← S]; exact h1
      rw [Array.getElem?_eq_getElem h1] at this
      simpa [List.getD, h3] using this
  · obtain ⟨i, hi, rfl⟩ := List.getElem_of_mem hx
    have := G i (by rw [S, ← hl]; exact hi)
    simpa [List.getD, hi] using this
theorem cpI {ys : List Int32} {sp dp nn : Int32} (X : Stand p l e R s m args below meth c T locs cells slots) (hx : p.tables.exec = Jvm.exec) (hZ : Z.Warmed39 s.vm) {a0 : Array Value} {own : String} {index : Nat} (hown : s.vm.findClass own = some m.cls)
    (w1 : (Cond.methodLink own index Jvm.Stand.acN).before a0 Z = true) (w2 : (Cond.native Jvm.Stand.acN).before a0 Z = true) (w3 : (Cond.static Jvm.Stand.acN).before a0 Z = true) (w4 : (Cond.initialized "java/lang/System").before a0 Z = true) (eT : T.heap = h)
    (A : Ia Z h a ty xs) (B : Ia Z h b ty ys) (hty : refKind ty = false) (h1 : ¬ sp < 0) (h2 : ¬ dp < 0) (h3 : ¬ nn < 0) (h4 : sp.toNatClampNeg + nn.toNatClampNeg ≤ xs.length) (h5 : dp.toNatClampNeg + nn.toNatClampNeg ≤ ys.length)
    {n0 : Nat} (N : Fr n0 locs) (ge : n0 ≤ b)
    {g : JFrame} (hg : g.method = m) (hsize : g.locals.size = c.maxLocals) {rest : List Value} (hs : g.stack = .int nn :: .int dp :: .ref b :: .int sp :: .ref a :: rest) (hd : decode c.code g.pc = .ok (.invokestatic index, 3))
    (hf : 1 ≤ R.frames) {W : Nat} (hW : 2 * g.monitorRoom + (rest.map fun v => v.category).sum ≤ W) (hlo : W + (nativeFrameWords "java/lang/System" "arraycopy" 5 + 11) ≤ R.locals) :
    ∃ T' h' L, Stand p l e R s m args below meth c T' L cells slots ∧ T'.heap = h' ∧ Fr n0 L ∧ Keep h h' [b] ∧ Ia Z h' b ty (ys.take dp.toNatClampNeg ++ (xs.drop sp.toNatClampNeg).take nn.toNatClampNeg ++ ys.drop (dp.toNatClampNeg + nn.toNatClampNeg)) ∧
      ∀ target, Steps p.tables e below (T'.setTop { g with pc := g.pc + 3, stack := rest }) target → Steps p.tables e below (T.setTop g) target := by
  obtain ⟨k, A', la⟩ := A.arv
  obtain ⟨k', B', lb⟩ := B.arv
  obtain ⟨T', h', L, X', e', N', K', V', st⟩ := cpA X hx hZ hown w1 w2 w3 w4 eT A' B' (us := ((xs.drop sp.toNatClampNeg).take nn.toNatClampNeg).map Value.int) (Or.inl ⟨rfl, hty⟩) h1 h2 h3 (by rw [(len32 la).1]; exact h4) (by rw [(len32 lb).1]; exact h5)
    (by
      apply List.ext_getElem
      · simp; omega
      · intro i q1 q2
        have q3 : i < nn.toNatClampNeg := by simpa using q2
        have q4 : sp.toNatClampNeg + i < xs.length := by omega
        simp [List.getD, q4])
    (by simpa using h5) N ge hg hsize hs hd hf hW hlo
  refine ⟨T', h', L, X', e', N', K', Ia.of_arv (k := k') (z := ys.length.toInt32) (d := .int 0) ?_ ?_, st⟩
  · simpa [List.map_append, List.map_take, List.map_drop] using V'
  · rw [(len32 lb).1]; simp; omega
theorem cloneI (X : Stand p l e R s m args below meth c T locs cells slots) (hx : p.tables.exec = Jvm.exec) (hZ : Z.Warmed39 s.vm) {a0 : Array Value} {own ad : String} {index : Nat} (hown : s.vm.findClass own = some m.cls)
    (w1 : (Cond.methodLink own index ⟨ad, "clone", "()Ljava/lang/Object;"⟩).before a0 Z = true) (w2 : (Cond.sameMethod ad "java/lang/Object" "clone" "()Ljava/lang/Object;").before a0 Z = true) (w3 : (Cond.native ⟨"java/lang/Object", "clone", "()Ljava/lang/Object;"⟩).before a0 Z = true)
    (w4 : (Cond.instanceMethod ⟨"java/lang/Object", "clone", "()Ljava/lang/Object;"⟩).before a0 Z = true) (w5 : (Cond.selects ad ⟨ad, "clone", "()Ljava/lang/Object;"⟩ ⟨"java/lang/Object", "clone", "()Ljava/lang/Object;"⟩).before a0 Z = true) (w6 : (Cond.castable ad "java/lang/Cloneable").before a0 Z = true)
    (eT : T.heap = h) (F : Ia Z h a ty xs) (E : Exa Z h a ad) {g : JFrame} (hg : g.method = m) (hsize : g.locals.size = c.maxLocals) {rest : List Value} (hst : g.stack = .ref a :: rest) (hd : decode c.code g.pc = .ok (.invokevirtual index, 3))
    (hf : 1 ≤ R.frames) {W cap : Nat} (hW : 2 * g.monitorRoom + (rest.map fun v => v.category).sum ≤ W) (hl : W + 14 ≤ R.locals) (hcap : xs.length ≤ cap) (hc : cells + 1 ≤ R.cells) (hsl : slots + cap ≤ R.slots) :
    ∃ T' h', Stand p l e R s m args below meth c T' locs (cells + 1) (slots + cap) ∧ T'.heap = h' ∧ Ext h h' ∧ Ia Z h' h.size ty xs ∧ Exa Z h' h.size ad ∧
      ∀ target, Steps p.tables e below (T'.setTop { g with pc := g.pc + 3, stack := .ref h.size :: rest }) target → Steps p.tables e below (T.setTop g) target := by
  obtain ⟨k, A, la⟩ := F.arv
  obtain ⟨T', h', X', e', ex, A', E', st⟩ := cloneH X hx hZ hown w1 w2 w3 w4 w5 w6 eT A.arh E hg hsize hst hd hf hW hl (by rw [(len32 la).1]; exact hcap) hc hsl
  exact ⟨T', h', X', e', ex, Ia.of_arv (k := k) (z := xs.length.toInt32) (d := .int 0) A' (len32 la).1.symm, E', st⟩
theorem selP {a0 : Array Value} {y : MethodName} {kk : Nat} (hZ : Z.Warmed39 s.vm) (wi : (Cond.instantiable y.cls kk).before a0 Z = true) (wp : (Cond.privateMethod y).before a0 Z = true) (wm : (Cond.instanceMethod y).before a0 Z = true) (hy : y.cls ≠ "java/lang/invoke/MethodHandle" ∧ y.cls ≠ "java/lang/invoke/VarHandle") : (Cond.selects y.cls y y).before args s = true := by
  obtain ⟨c, k, h1, h2, -, h4, -⟩ := Cond.instantiable_spec (mvT (args := args) hZ wi)
  exact selects_self_of_private h1 h2 (by simp only [Bool.or_eq_false_iff] at h4; exact h4.1) (Cond.privateMethod_at (mvP hZ wp (args := args))) (mvT hZ wm) hy
end Own
end Jvm.OwnKit
namespace Jvm.Pilot.@@N@@
open Jvm Jvm.ClassFile Sem Op Lib Jvm.Free Jvm.Stand Jvm.LawKit Jvm.RoadKit Bundle Jvm.Pilot.@@N@@.Jvm.D Jvm.OwnKit
theorem tw {a0 : Array Value} {Z : State} (hw : ∀ d ∈ tables_1, d.before a0 Z = true) (i : Nat) {d : Jvm.Cond} (h : tables_1[i]? = some d) : d.before a0 Z = true := hw d (List.mem_of_getElem? h)
theorem d1_0 : decode prog_23_method_1_code 0 = .ok (.aload_n 0, 1) := by decide +kernel
theorem d1_1 : decode prog_23_method_1_code 1 = .ok (.invokespecial 1, 3) := by decide +kernel
theorem d1_4 : decode prog_23_method_1_code 4 = .ok (.aload_n 0, 1) := by decide +kernel
theorem d1_5 : decode prog_23_method_1_code 5 = .ok (.bipush 7, 2) := by decide +kernel
theorem d1_7 : decode prog_23_method_1_code 7 = .ok (.newarray .int, 2) := by decide +kernel
theorem d1_9 : decode prog_23_method_1_code 9 = .ok (.putfield 9, 3) := by decide +kernel
theorem d1_12 : decode prog_23_method_1_code 12 = .ok (.return_, 1) := by decide +kernel
theorem pn_1 : plainName "com/example/relate_by_hash/relatebyhash/ctph/RollingHash" = true := by first | (simp [plainName, overriddenIn]; done) | decide +kernel
theorem ef_1 (m : MethodId) (x0 : Addr) : entryFrame m #[(.ref x0)] 1 = mkF m 0 #[.val (.ref x0)] [] := by first | (simp [entryFrame, mkF, argsToLocals, Value.category]; done) | rfl
def Q_rm1 (Z : State) (a : Addr)  (h0 : Heap) (n0 : Nat) (vQ : Option Value) (hQ : Heap) (LQ : List Loc) : Prop := ∃ b : Addr, vQ = none ∧ Fr n0 LQ ∧ Keep h0 hQ [a] ∧ h0.size ≤ b ∧ Exa Z hQ a "com/example/relate_by_hash/relatebyhash/ctph/RollingHash" ∧ Fld Z hQ a "com/example/relate_by_hash/relatebyhash/ctph/RollingHash" "window" "[I" (.ref b) ∧ Fld Z hQ a "com/example/relate_by_hash/relatebyhash/ctph/RollingHash" "weightedSum" "I" (.int (0 : Int32)) ∧ Fld Z hQ a "com/example/relate_by_hash/relatebyhash/ctph/RollingHash" "windowSum" "I" (.int (0 : Int32)) ∧ Fld Z hQ a "com/example/relate_by_hash/relatebyhash/ctph/RollingHash" "windowIndex" "I" (.int (0 : Int32)) ∧ Fld Z hQ a "com/example/relate_by_hash/relatebyhash/ctph/RollingHash" "shiftHash" "I" (.int (0 : Int32)) ∧ Ia Z hQ b .int [(0 : Int32), (0 : Int32), (0 : Int32), (0 : Int32), (0 : Int32), (0 : Int32), (0 : Int32)]
set_option maxRecDepth 65536 in
set_option maxHeartbeats 40000000 in
theorem rm1 (l : Launch) (Z : State) (a0 : Array Value) (hw : ∀ d ∈ tables_1, d.before a0 Z = true) (ws : List Jvm.Cond) (a : Addr)  (h0 : Heap) (n0 : Nat) (Z0 : n0 ≤ h0.size) (P0 : Exa Z h0 a "com/example/relate_by_hash/relatebyhash/ctph/RollingHash") (P1 : Fld Z h0 a "com/example/relate_by_hash/relatebyhash/ctph/RollingHash" "window" "[I" .null) (P2 : Fld Z h0 a "com/example/relate_by_hash/relatebyhash/ctph/RollingHash" "weightedSum" "I" (.int (0 : Int32))) (P3 : Fld Z h0 a "com/example/relate_by_hash/relatebyhash/ctph/RollingHash" "windowSum" "I" (.int (0 : Int32))) (P4 : Fld Z h0 a "com/example/relate_by_hash/relatebyhash/ctph/RollingHash" "windowIndex" "I" (.int (0 : Int32))) (P5 : Fld Z h0 a "com/example/relate_by_hash/relatebyhash/ctph/RollingHash" "shiftHash" "I" (.int (0 : Int32))) (g_a : n0 ≤ a) :
    MetFree l (⟨"com/example/relate_by_hash/relatebyhash/ctph/RollingHash", "<init>", "()V"⟩ : MethodName) (head1 (Jvm.Cond.code (⟨"com/example/relate_by_hash/relatebyhash/ctph/RollingHash", "<init>", "()V"⟩ : MethodName) prog_23_method_1_code 1 none :: ws) ({ frames := 1, cells := 1, slots := 7, locals := 12 } : Room)) (fun aQ UQ => aQ = #[(.ref a)] ∧ Z.Warmed39 UQ.vm ∧ UQ.heap = h0) (fun _ _ _ _ _ => True) (fun _ UQ oQ UR => ∃ vQ LQ, oQ = .returned vQ ∧ Q_rm1 Z a  h0 n0 vQ UR.heap LQ ∧ FrameEnd UQ oQ UR LQ ({ frames := 1, cells := 1, slots := 7, locals := 12 } : Room).cells ({ frames := 1, cells := 1, slots := 7, locals := 12 } : Room).slots) := by
  refine MetFree.of_bodySF (plainFor_of_name pn_1) hisR ?_
  intro p e s m args below meth c s₁ Bd hml0 hP hK
  obtain ⟨rfl, hZ, hh⟩ := hP
  have hx := Bd.exec
  have hby := Bd.bytes
  have hlk := Bd.notSynchronized
  have hml : c.maxLocals = 1 := hml0
  have hown : s.vm.findClass "com/example/relate_by_hash/relatebyhash/ctph/RollingHash" = some m.cls := findClass_of_methodNamed Bd.named
  have hnm := (name_of_methodNamed Bd.named Bd.method).1
  have X0 : Stand p l e ({ frames := 1, cells := 1, slots := 7, locals := 12 } : Room) s m #[(.ref a)] below meth c s₁ [] 0 0 := Stand.of_body Bd
  have e0 : s₁.heap = h0 := by rw [← hh, Bd.state]; rfl
  have N0 := Fr.nil n0
  show Go p e below _ (Done s (Q_rm1 Z a  h0 n0) ({ frames := 1, cells := 1, slots := 7, locals := 12 } : Room).cells ({ frames := 1, cells := 1, slots := 7, locals := 12 } : Room).slots)
  refine Go.via (fun tQ kQ => castTop (ef_1 m a) kQ) ?_
  show Go p e below (s₁.setTop (mkF m 0 #[.val (.ref a)] [])) _
  refine Go.via (fun _ => XS.aloadN X0.here hx rfl (hb hby d1_0) rfl rfl) ?_
  obtain ⟨T1, X1, e1, st1⟩ := initO X0 hx hZ hown (tw hw 8 rfl) (tw hw 9 rfl) (tw hw 10 rfl) e0 (g := (mkF m 1 #[.val (.ref a)] [(.ref a)])) rfl (by rw [hml]; rfl) rfl (hb hby d1_1) (by decide) (W := 0) (by show 2 * 0 + _ ≤ _; exact Nat.le_of_eq rfl) (by decide)
  refine Go.via (st1) ?_
  clear st1
  clear X0 e0
  show Go p e below (T1.setTop (mkF m 4 #[.val (.ref a)] [])) _
  refine Go.via (fun _ => XS.aloadN X1.here hx rfl (hb hby d1_4) rfl rfl) ?_
  refine Go.via (fun _ => XS.bipush X1.here hx rfl (hb hby d1_5)) ?_
  obtain ⟨T2, h2, k2, X2, e2, E2, A2, B2, st2⟩ := newPE X1 hx hZ (tw hw 0 rfl) e1 (g := (mkF m 7 #[.val (.ref a)] [(.int (7 : Int32)), (.ref a)])) rfl (hb hby d1_7) rfl (by decide) (cap := 7) (by decide) (by decide) (by decide) (by decide) (ad := "[I") (by decide)
  obtain ⟨b2, g2⟩ : ∃ z, z = h0.size := ⟨_, rfl⟩
  rw [← g2] at A2 B2 st2
  have ne3 : a ≠ b2 := Nat.ne_of_lt (Nat.lt_of_lt_of_le P0.lt (Nat.le_of_eq g2.symm))
  have ge4 : n0 ≤ b2 := Nat.le_trans Z0 (Nat.le_of_eq g2.symm)
  have sz5 : h0.size ≤ b2 := Nat.le_trans (Keep.refl h0 [a]).1 (Nat.le_of_eq g2.symm)
  refine Go.via (st2) ?_
  clear st2
  have f6 : Ia Z h2 b2 .int [(0 : Int32), (0 : Int32), (0 : Int32), (0 : Int32), (0 : Int32), (0 : Int32), (0 : Int32)] := Ia.new A2 rfl
  clear X1 e1
  show Go p e below (T2.setTop (mkF m 9 #[.val (.ref a)] [(.ref b2), (.ref a)])) _
  have f7 : Fld Z h2 a "com/example/relate_by_hash/relatebyhash/ctph/RollingHash" "window" "[I" .null := (P1.ext E2)
  have f8 : Exa Z h2 a "com/example/relate_by_hash/relatebyhash/ctph/RollingHash" := (P0.ext E2)
  obtain ⟨T9, h9, X9, e9, W9, st9⟩ := putF X2 hx hZ hown (host := "") (Or.inl (tw hw 11 rfl)) Via.refl e2 f7 f8 (Or.inr ⟨(tw hw 12 rfl), rfl, hnm⟩) (tw hw 3 rfl) (ty := (.array .int)) (by decide) rfl rfl (g := (mkF m 9 #[.val (.ref a)] [(.ref b2), (.ref a)])) rfl rfl (hb hby d1_9)
  refine Go.via (st9) ?_
  clear st9
  have N9 := Fr.snoc X9 N0 g_a
  have f10 : Fld Z h9 a "com/example/relate_by_hash/relatebyhash/ctph/RollingHash" "window" "[I" (.ref b2) := f7.same W9
  clear X2 e2
  show Go p e below (T9.setTop (mkF m 12 #[.val (.ref a)] [])) _
  have k11 : Keep h0 h9 [a] := (((Keep.refl h0 [a]).ext E2).wr W9 (Or.inl (List.mem_of_getElem? (i := 0) rfl)))
  have f12 : Exa Z h9 a "com/example/relate_by_hash/relatebyhash/ctph/RollingHash" := (f8.wr W9)
  have f13 : Fld Z h9 a "com/example/relate_by_hash/relatebyhash/ctph/RollingHash" "weightedSum" "I" (.int (0 : Int32)) := ((P2.ext E2).other W9 (Or.inr (slot_ne (Or.inl (tw hw 19 rfl)) (Or.inr (tw hw 12 rfl)) (by decide) (t := .int) (t' := (.array .int)) (by decide) (by decide))))
  have f14 : Fld Z h9 a "com/example/relate_by_hash/relatebyhash/ctph/RollingHash" "windowSum" "I" (.int (0 : Int32)) := ((P3.ext E2).other W9 (Or.inr (slot_ne (Or.inl (tw hw 21 rfl)) (Or.inr (tw hw 12 rfl)) (by decide) (t := .int) (t' := (.array .int)) (by decide) (by decide))))
  have f15 : Fld Z h9 a "com/example/relate_by_hash/relatebyhash/ctph/RollingHash" "windowIndex" "I" (.int (0 : Int32)) := ((P4.ext E2).other W9 (Or.inr (slot_ne (Or.inl (tw hw 23 rfl)) (Or.inr (tw hw 12 rfl)) (by decide) (t := .int) (t' := (.array .int)) (by decide) (by decide))))
  have f16 : Fld Z h9 a "com/example/relate_by_hash/relatebyhash/ctph/RollingHash" "shiftHash" "I" (.int (0 : Int32)) := ((P5.ext E2).other W9 (Or.inr (slot_ne (Or.inl (tw hw 25 rfl)) (Or.inr (tw hw 12 rfl)) (by decide) (t := .int) (t' := (.array .int)) (by decide) (by decide))))
  have f17 : Ia Z h9 b2 .int [(0 : Int32), (0 : Int32), (0 : Int32), (0 : Int32), (0 : Int32), (0 : Int32), (0 : Int32)] := (f6.other W9 (Ne.symm ne3))
  exact Go.fin X9 hlk (v := none) (fun _ => rfl) (fun fs hr => X9.returnOut hx Bd.returns (hb hby d1_12) hr) (by rw [e9]; exact ⟨b2, rfl, N9, k11, sz5, f12, f10, f13, f14, f15, f16, f17⟩) (by decide) (by decide)
theorem d3_0 : decode prog_23_method_2_code 0 = .ok (.aload_n 0, 1) := by decide +kernel
theorem d3_1 : decode prog_23_method_2_code 1 = .ok (.dup, 1) := by decide +kernel
theorem d3_2 : decode prog_23_method_2_code 2 = .ok (.getfield 13, 3) := by decide +kernel
theorem d3_5 : decode prog_23_method_2_code 5 = .ok (.bipush 7, 2) := by decide +kernel
theorem d3_7 : decode prog_23_method_2_code 7 = .ok (.iload_n 1, 1) := by decide +kernel
theorem d3_8 : decode prog_23_method_2_code 8 = .ok (.imul, 1) := by decide +kernel
theorem d3_9 : decode prog_23_method_2_code 9 = .ok (.aload_n 0, 1) := by decide +kernel
theorem d3_10 : decode prog_23_method_2_code 10 = .ok (.getfield 17, 3) := by decide +kernel
theorem d3_13 : decode prog_23_method_2_code 13 = .ok (.isub, 1) := by decide +kernel
theorem d3_14 : decode prog_23_method_2_code 14 = .ok (.iadd, 1) := by decide +kernel
theorem d3_15 : decode prog_23_method_2_code 15 = .ok (.putfield 13, 3) := by decide +kernel
theorem d3_18 : decode prog_23_method_2_code 18 = .ok (.aload_n 0, 1) := by decide +kernel
theorem d3_19 : decode prog_23_method_2_code 19 = .ok (.dup, 1) := by decide +kernel
theorem d3_20 : decode prog_23_method_2_code 20 = .ok (.getfield 17, 3) := by decide +kernel
theorem d3_23 : decode prog_23_method_2_code 23 = .ok (.iload_n 1, 1) := by decide +kernel
theorem d3_24 : decode prog_23_method_2_code 24 = .ok (.aload_n 0, 1) := by decide +kernel
theorem d3_25 : decode prog_23_method_2_code 25 = .ok (.getfield 9, 3) := by decide +kernel
theorem d3_28 : decode prog_23_method_2_code 28 = .ok (.aload_n 0, 1) := by decide +kernel
theorem d3_29 : decode prog_23_method_2_code 29 = .ok (.getfield 20, 3) := by decide +kernel
theorem d3_32 : decode prog_23_method_2_code 32 = .ok (.iaload, 1) := by decide +kernel
theorem d3_33 : decode prog_23_method_2_code 33 = .ok (.isub, 1) := by decide +kernel
theorem d3_34 : decode prog_23_method_2_code 34 = .ok (.iadd, 1) := by decide +kernel
theorem d3_35 : decode prog_23_method_2_code 35 = .ok (.putfield 17, 3) := by decide +kernel
theorem d3_38 : decode prog_23_method_2_code 38 = .ok (.aload_n 0, 1) := by decide +kernel
theorem d3_39 : decode prog_23_method_2_code 39 = .ok (.getfield 9, 3) := by decide +kernel
theorem d3_42 : decode prog_23_method_2_code 42 = .ok (.aload_n 0, 1) := by decide +kernel
theorem d3_43 : decode prog_23_method_2_code 43 = .ok (.getfield 20, 3) := by decide +kernel
theorem d3_46 : decode prog_23_method_2_code 46 = .ok (.iload_n 1, 1) := by decide +kernel
theorem d3_47 : decode prog_23_method_2_code 47 = .ok (.iastore, 1) := by decide +kernel
theorem d3_48 : decode prog_23_method_2_code 48 = .ok (.aload_n 0, 1) := by decide +kernel
theorem d3_49 : decode prog_23_method_2_code 49 = .ok (.aload_n 0, 1) := by decide +kernel
theorem d3_50 : decode prog_23_method_2_code 50 = .ok (.getfield 20, 3) := by decide +kernel
theorem d3_53 : decode prog_23_method_2_code 53 = .ok (.bipush 6, 2) := by decide +kernel
theorem d3_55 : decode prog_23_method_2_code 55 = .ok (.if_icmp .ne 7, 3) := by decide +kernel
theorem d3_58 : decode prog_23_method_2_code 58 = .ok (.iconst 0, 1) := by decide +kernel
theorem d3_59 : decode prog_23_method_2_code 59 = .ok (.goto 9, 3) := by decide +kernel
theorem d3_68 : decode prog_23_method_2_code 68 = .ok (.putfield 20, 3) := by decide +kernel
theorem d3_71 : decode prog_23_method_2_code 71 = .ok (.aload_n 0, 1) := by decide +kernel
theorem d3_72 : decode prog_23_method_2_code 72 = .ok (.aload_n 0, 1) := by decide +kernel
theorem d3_73 : decode prog_23_method_2_code 73 = .ok (.getfield 23, 3) := by decide +kernel
theorem d3_76 : decode prog_23_method_2_code 76 = .ok (.iconst 5, 1) := by decide +kernel
theorem d3_77 : decode prog_23_method_2_code 77 = .ok (.ishl, 1) := by decide +kernel
theorem d3_78 : decode prog_23_method_2_code 78 = .ok (.iload_n 1, 1) := by decide +kernel
theorem d3_79 : decode prog_23_method_2_code 79 = .ok (.ixor, 1) := by decide +kernel
theorem d3_80 : decode prog_23_method_2_code 80 = .ok (.putfield 23, 3) := by decide +kernel
theorem d3_83 : decode prog_23_method_2_code 83 = .ok (.aload_n 0, 1) := by decide +kernel
theorem d3_84 : decode prog_23_method_2_code 84 = .ok (.getfield 17, 3) := by decide +kernel
theorem d3_87 : decode prog_23_method_2_code 87 = .ok (.aload_n 0, 1) := by decide +kernel
theorem d3_88 : decode prog_23_method_2_code 88 = .ok (.getfield 13, 3) := by decide +kernel
theorem d3_91 : decode prog_23_method_2_code 91 = .ok (.iadd, 1) := by decide +kernel
theorem d3_92 : decode prog_23_method_2_code 92 = .ok (.aload_n 0, 1) := by decide +kernel
theorem d3_93 : decode prog_23_method_2_code 93 = .ok (.getfield 23, 3) := by decide +kernel
theorem d3_96 : decode prog_23_method_2_code 96 = .ok (.iadd, 1) := by decide +kernel
theorem d3_97 : decode prog_23_method_2_code 97 = .ok (.ireturn, 1) := by decide +kernel
theorem d3_62 : decode prog_23_method_2_code 62 = .ok (.aload_n 0, 1) := by decide +kernel
theorem d3_63 : decode prog_23_method_2_code 63 = .ok (.getfield 20, 3) := by decide +kernel
theorem d3_66 : decode prog_23_method_2_code 66 = .ok (.iconst 1, 1) := by decide +kernel
theorem d3_67 : decode prog_23_method_2_code 67 = .ok (.iadd, 1) := by decide +kernel
theorem pn_3 : plainName "com/example/relate_by_hash/relatebyhash/ctph/RollingHash" = true := by first | (simp [plainName, overriddenIn]; done) | decide +kernel
theorem ef_3 (m : MethodId) (x0 : Addr) (x1 : Int32) : entryFrame m #[(.ref x0), (.int x1)] 2 = mkF m 0 #[.val (.ref x0), .val (.int x1)] [] := by first | (simp [entryFrame, mkF, argsToLocals, Value.category]; done) | rfl
def Q_rm3 (Z : State) (a : Addr) (x : Int32) (b : Addr) (xs : List Int32) (wt : Int32) (sm : Int32) (ix : Int32) (sh : Int32) (old : Int32) (h0 : Heap) (n0 : Nat) (vQ : Option Value) (hQ : Heap) (LQ : List Loc) : Prop := ∃ sm2 : Int32, ∃ wt2 : Int32, ∃ sh2 : Int32, vQ = some (.int ((sm2 + wt2) + sh2)) ∧ Fr n0 LQ ∧ Keep h0 hQ [a, b] ∧ Exa Z hQ a "com/example/relate_by_hash/relatebyhash/ctph/RollingHash" ∧ Fld Z hQ a "com/example/relate_by_hash/relatebyhash/ctph/RollingHash" "window" "[I" (.ref b) ∧ Fld Z hQ a "com/example/relate_by_hash/relatebyhash/ctph/RollingHash" "weightedSum" "I" (.int wt2) ∧ Fld Z hQ a "com/example/relate_by_hash/relatebyhash/ctph/RollingHash" "windowSum" "I" (.int sm2) ∧ Fld Z hQ a "com/example/relate_by_hash/relatebyhash/ctph/RollingHash" "windowIndex" "I" (.int (if ix = (6 : Int32) then (0 : Int32) else ix + 1)) ∧ Fld Z hQ a "com/example/relate_by_hash/relatebyhash/ctph/RollingHash" "shiftHash" "I" (.int sh2) ∧ Ia Z hQ b .int (xs.set ix.toNatClampNeg x) ∧ (sm2 = sm + (x - old)) ∧ (wt2 = wt + ((7 : Int32) * x - sm)) ∧ (sh2 = (sh <<< ((5 : Int32) &&& 31)) ^^^ x)
set_option maxRecDepth 65536 in
set_option maxHeartbeats 40000000 in
theorem rm3 (l : Launch) (Z : State) (a0 : Array Value) (hw : ∀ d ∈ tables_1, d.before a0 Z = true) (ws : List Jvm.Cond) (a : Addr) (x : Int32) (b : Addr) (xs : List Int32) (wt : Int32) (sm : Int32) (ix : Int32) (sh : Int32) (old : Int32) (h0 : Heap) (n0 : Nat) (Z0 : n0 ≤ h0.size) (P0 : Exa Z h0 a "com/example/relate_by_hash/relatebyhash/ctph/RollingHash") (P1 : Fld Z h0 a "com/example/relate_by_hash/relatebyhash/ctph/RollingHash" "window" "[I" (.ref b)) (P2 : Fld Z h0 a "com/example/relate_by_hash/relatebyhash/ctph/RollingHash" "weightedSum" "I" (.int wt)) (P3 : Fld Z h0 a "com/example/relate_by_hash/relatebyhash/ctph/RollingHash" "windowSum" "I" (.int sm)) (P4 : Fld Z h0 a "com/example/relate_by_hash/relatebyhash/ctph/RollingHash" "windowIndex" "I" (.int ix)) (P5 : Fld Z h0 a "com/example/relate_by_hash/relatebyhash/ctph/RollingHash" "shiftHash" "I" (.int sh)) (P6 : Ia Z h0 b .int xs) (g_a : n0 ≤ a) (g_b : n0 ≤ b) (hne : a ≠ b) (hix : ¬ ix < 0) (hold : xs[ix.toNatClampNeg]? = some old) :
    MetFree l (⟨"com/example/relate_by_hash/relatebyhash/ctph/RollingHash", "update", "(I)I"⟩ : MethodName) (head1 (Jvm.Cond.code (⟨"com/example/relate_by_hash/relatebyhash/ctph/RollingHash", "update", "(I)I"⟩ : MethodName) prog_23_method_2_code 2 (some .int) :: ws) ({ frames := 0, cells := 0, slots := 0, locals := 0 } : Room)) (fun aQ UQ => aQ = #[(.ref a), (.int x)] ∧ Z.Warmed39 UQ.vm ∧ UQ.heap = h0) (fun _ _ _ _ _ => True) (fun _ UQ oQ UR => ∃ vQ LQ, oQ = .returned vQ ∧ Q_rm3 Z a x b xs wt sm ix sh old h0 n0 vQ UR.heap LQ ∧ FrameEnd UQ oQ UR LQ ({ frames := 0, cells := 0, slots := 0, locals := 0 } : Room).cells ({ frames := 0, cells := 0, slots := 0, locals := 0 } : Room).slots) := by
  refine MetFree.of_bodySF (plainFor_of_name pn_3) hisR ?_
  intro p e s m args below meth c s₁ Bd hml0 hP hK
  obtain ⟨rfl, hZ, hh⟩ := hP
  have hx := Bd.exec
  have hby := Bd.bytes
  have hlk := Bd.notSynchronized
  have hml : c.maxLocals = 2 := hml0
  have hown : s.vm.findClass "com/example/relate_by_hash/relatebyhash/ctph/RollingHash" = some m.cls := findClass_of_methodNamed Bd.named
  have hnm := (name_of_methodNamed Bd.named Bd.method).1
  have X0 : Stand p l e ({ frames := 0, cells := 0, slots := 0, locals := 0 } : Room) s m #[(.ref a), (.int x)] below meth c s₁ [] 0 0 := Stand.of_body Bd
  have e0 : s₁.heap = h0 := by rw [← hh, Bd.state]; rfl
  have N0 := Fr.nil n0
  show Go p e below _ (Done s (Q_rm3 Z a x b xs wt sm ix sh old h0 n0) ({ frames := 0, cells := 0, slots := 0, locals := 0 } : Room).cells ({ frames := 0, cells := 0, slots := 0, locals := 0 } : Room).slots)
  refine Go.via (fun tQ kQ => castTop (ef_3 m a x) kQ) ?_
  show Go p e below (s₁.setTop (mkF m 0 #[.val (.ref a), .val (.int x)] [])) _
  refine Go.via (fun _ => XS.aloadN X0.here hx rfl (hb hby d3_0) rfl rfl) ?_
  refine Go.via (fun _ => XS.dup X0.here hx rfl (hb hby d3_1) rfl rfl) ?_
  obtain ⟨T18, X18, e18, st18⟩ := getF X0 hx hZ hown (host := "") (Or.inl (tw hw 18 rfl)) Via.refl e0 P2 (g := (mkF m 2 #[.val (.ref a), .val (.int x)] [(.ref a), (.ref a)])) rfl rfl (hb hby d3_2)
  refine Go.via (st18) ?_
  clear st18
  clear X0 e0
  show Go p e below (T18.setTop (mkF m 5 #[.val (.ref a), .val (.int x)] [(.int wt), (.ref a)])) _
  refine Go.via (fun _ => XS.bipush X18.here hx rfl (hb hby d3_5)) ?_
  refine Go.via (fun _ => XS.iloadN X18.here hx rfl (hb hby d3_7) rfl) ?_
  refine Go.via (fun _ => XS.imul X18.here hx rfl (hb hby d3_8) rfl) ?_
  show Go p e below (T18.setTop (mkF m 9 #[.val (.ref a), .val (.int x)] [(.int ((7 : Int32) * x)), (.int wt), (.ref a)])) _
  refine Go.via (fun _ => XS.aloadN X18.here hx rfl (hb hby d3_9) rfl rfl) ?_
  obtain ⟨T19, X19, e19, st19⟩ := getF X18 hx hZ hown (host := "") (Or.inl (tw hw 20 rfl)) Via.refl e18 P3 (g := (mkF m 10 #[.val (.ref a), .val (.int x)] [(.ref a), (.int ((7 : Int32) * x)), (.int wt), (.ref a)])) rfl rfl (hb hby d3_10)
  refine Go.via (st19) ?_
  clear st19
  clear X18 e18
  show Go p e below (T19.setTop (mkF m 13 #[.val (.ref a), .val (.int x)] [(.int sm), (.int ((7 : Int32) * x)), (.int wt), (.ref a)])) _
  refine Go.via (fun _ => XS.isub X19.here hx rfl (hb hby d3_13) rfl) ?_
  show Go p e below (T19.setTop (mkF m 14 #[.val (.ref a), .val (.int x)] [(.int (((7 : Int32) * x) - sm)), (.int wt), (.ref a)])) _
  refine Go.via (fun _ => XS.iadd X19.here hx rfl (hb hby d3_14) rfl) ?_
  show Go p e below (T19.setTop (mkF m 15 #[.val (.ref a), .val (.int x)] [(.int (wt + (((7 : Int32) * x) - sm))), (.ref a)])) _
  obtain ⟨T20, h20, X20, e20, W20, st20⟩ := putF X19 hx hZ hown (host := "") (Or.inl (tw hw 18 rfl)) Via.refl e19 P2 P0 (Or.inl (tw hw 19 rfl)) (tw hw 3 rfl) (ty := .int) (by decide) rfl rfl (g := (mkF m 15 #[.val (.ref a), .val (.int x)] [(.int (wt + (((7 : Int32) * x) - sm))), (.ref a)])) rfl rfl (hb hby d3_15)
  refine Go.via (st20) ?_
  clear st20
  have N20 := Fr.snoc X20 N0 g_a
  have f21 : Fld Z h20 a "com/example/relate_by_hash/relatebyhash/ctph/RollingHash" "weightedSum" "I" (.int (wt + (((7 : Int32) * x) - sm))) := P2.same W20
  clear X19 e19
  show Go p e below (T20.setTop (mkF m 18 #[.val (.ref a), .val (.int x)] [])) _
  refine Go.via (fun _ => XS.aloadN X20.here hx rfl (hb hby d3_18) rfl rfl) ?_
  refine Go.via (fun _ => XS.dup X20.here hx rfl (hb hby d3_19) rfl rfl) ?_
  have f22 : Fld Z h20 a "com/example/relate_by_hash/relatebyhash/ctph/RollingHash" "windowSum" "I" (.int sm) := (P3.other W20 (Or.inr (slot_ne (Or.inl (tw hw 21 rfl)) (Or.inl (tw hw 19 rfl)) (by decide) (t := .int) (t' := .int) (by decide) (by decide))))
  obtain ⟨T23, X23, e23, st23⟩ := getF X20 hx hZ hown (host := "") (Or.inl (tw hw 20 rfl)) Via.refl e20 f22 (g := (mkF m 20 #[.val (.ref a), .val (.int x)] [(.ref a), (.ref a)])) rfl rfl (hb hby d3_20)
  refine Go.via (st23) ?_
  clear st23
  clear X20 e20
  show Go p e below (T23.setTop (mkF m 23 #[.val (.ref a), .val (.int x)] [(.int sm), (.ref a)])) _
  refine Go.via (fun _ => XS.iloadN X23.here hx rfl (hb hby d3_23) rfl) ?_
  refine Go.via (fun _ => XS.aloadN X23.here hx rfl (hb hby d3_24) rfl rfl) ?_
  have f24 : Fld Z h20 a "com/example/relate_by_hash/relatebyhash/ctph/RollingHash" "window" "[I" (.ref b) := (P1.other W20 (Or.inr (slot_ne (Or.inr (tw hw 12 rfl)) (Or.inl (tw hw 19 rfl)) (by decide) (t := (.array .int)) (t' := .int) (by decide) (by decide))))
  obtain ⟨T25, X25, e25, st25⟩ := getF X23 hx hZ hown (host := "") (Or.inl (tw hw 11 rfl)) Via.refl e23 f24 (g := (mkF m 25 #[.val (.ref a), .val (.int x)] [(.ref a), (.int x), (.int sm), (.ref a)])) rfl rfl (hb hby d3_25)
  refine Go.via (st25) ?_
  clear st25
  clear X23 e23
  show Go p e below (T25.setTop (mkF m 28 #[.val (.ref a), .val (.int x)] [(.ref b), (.int x), (.int sm), (.ref a)])) _
  refine Go.via (fun _ => XS.aloadN X25.here hx rfl (hb hby d3_28) rfl rfl) ?_
  have f26 : Fld Z h20 a "com/example/relate_by_hash/relatebyhash/ctph/RollingHash" "windowIndex" "I" (.int ix) := (P4.other W20 (Or.inr (slot_ne (Or.inl (tw hw 23 rfl)) (Or.inl (tw hw 19 rfl)) (by decide) (t := .int) (t' := .int) (by decide) (by decide))))
  obtain ⟨T27, X27, e27, st27⟩ := getF X25 hx hZ hown (host := "") (Or.inl (tw hw 22 rfl)) Via.refl e25 f26 (g := (mkF m 29 #[.val (.ref a), .val (.int x)] [(.ref a), (.ref b), (.int x), (.int sm), (.ref a)])) rfl rfl (hb hby d3_29)
  refine Go.via (st27) ?_
  clear st27
  clear X25 e25
  show Go p e below (T27.setTop (mkF m 32 #[.val (.ref a), .val (.int x)] [(.int ix), (.ref b), (.int x), (.int sm), (.ref a)])) _
  have f28 : Ia Z h20 b .int xs := (P6.other W20 (Ne.symm hne))
  refine Go.via (ldI X27 hx hZ e27 f28 (v := old) hix hold (g := (mkF m 32 #[.val (.ref a), .val (.int x)] [(.int ix), (.ref b), (.int x), (.int sm), (.ref a)])) rfl rfl (hb hby d3_32)) ?_
  show Go p e below (T27.setTop (mkF m 33 #[.val (.ref a), .val (.int x)] [(.int old), (.int x), (.int sm), (.ref a)])) _
  refine Go.via (fun _ => XS.isub X27.here hx rfl (hb hby d3_33) rfl) ?_
  show Go p e below (T27.setTop (mkF m 34 #[.val (.ref a), .val (.int x)] [(.int (x - old)), (.int sm), (.ref a)])) _
  refine Go.via (fun _ => XS.iadd X27.here hx rfl (hb hby d3_34) rfl) ?_
  show Go p e below (T27.setTop (mkF m 35 #[.val (.ref a), .val (.int x)] [(.int (sm + (x - old))), (.ref a)])) _
  have f29 : Exa Z h20 a "com/example/relate_by_hash/relatebyhash/ctph/RollingHash" := (P0.wr W20)
  obtain ⟨T30, h30, X30, e30, W30, st30⟩ := putF X27 hx hZ hown (host := "") (Or.inl (tw hw 20 rfl)) Via.refl e27 f22 f29 (Or.inl (tw hw 21 rfl)) (tw hw 3 rfl) (ty := .int) (by decide) rfl rfl (g := (mkF m 35 #[.val (.ref a), .val (.int x)] [(.int (sm + (x - old))), (.ref a)])) rfl rfl (hb hby d3_35)
  refine Go.via (st30) ?_
  clear st30
  have N30 := Fr.snoc X30 N20 g_a
  have f31 : Fld Z h30 a "com/example/relate_by_hash/relatebyhash/ctph/RollingHash" "windowSum" "I" (.int (sm + (x - old))) := f22.same W30
  clear X27 e27
  show Go p e below (T30.setTop (mkF m 38 #[.val (.ref a), .val (.int x)] [])) _
  refine Go.via (fun _ => XS.aloadN X30.here hx rfl (hb hby d3_38) rfl rfl) ?_
  have f32 : Fld Z h30 a "com/example/relate_by_hash/relatebyhash/ctph/RollingHash" "window" "[I" (.ref b) := (f24.other W30 (Or.inr (slot_ne (Or.inr (tw hw 12 rfl)) (Or.inl (tw hw 21 rfl)) (by decide) (t := (.array .int)) (t' := .int) (by decide) (by decide))))
  obtain ⟨T33, X33, e33, st33⟩ := getF X30 hx hZ hown (host := "") (Or.inl (tw hw 11 rfl)) Via.refl e30 f32 (g := (mkF m 39 #[.val (.ref a), .val (.int x)] [(.ref a)])) rfl rfl (hb hby d3_39)
  refine Go.via (st33) ?_
  clear st33
  clear X30 e30
  show Go p e below (T33.setTop (mkF m 42 #[.val (.ref a), .val (.int x)] [(.ref b)])) _
  refine Go.via (fun _ => XS.aloadN X33.here hx rfl (hb hby d3_42) rfl rfl) ?_
  have f34 : Fld Z h30 a "com/example/relate_by_hash/relatebyhash/ctph/RollingHash" "windowIndex" "I" (.int ix) := (f26.other W30 (Or.inr (slot_ne (Or.inl (tw hw 23 rfl)) (Or.inl (tw hw 21 rfl)) (by decide) (t := .int) (t' := .int) (by decide) (by decide))))
  obtain ⟨T35, X35, e35, st35⟩ := getF X33 hx hZ hown (host := "") (Or.inl (tw hw 22 rfl)) Via.refl e33 f34 (g := (mkF m 43 #[.val (.ref a), .val (.int x)] [(.ref a), (.ref b)])) rfl rfl (hb hby d3_43)
  refine Go.via (st35) ?_
  clear st35
  clear X33 e33
  show Go p e below (T35.setTop (mkF m 46 #[.val (.ref a), .val (.int x)] [(.int ix), (.ref b)])) _
  refine Go.via (fun _ => XS.iloadN X35.here hx rfl (hb hby d3_46) rfl) ?_
  have f36 : Ia Z h30 b .int xs := (f28.other W30 (Ne.symm hne))
  obtain ⟨T37, h37, X37, e37, W37, V37, st37⟩ := stI' X35 hx hZ e35 f36 (j := ix) hix (lt_of_at hold) (g := (mkF m 47 #[.val (.ref a), .val (.int x)] [(.int x), (.int ix), (.ref b)])) rfl rfl (hb hby d3_47)
  refine Go.via (st37) ?_
  clear st37
  have N37 := Fr.snoc X37 N30 g_b
  have f38 : Ia Z h37 b .int (List.set xs (ix).toNatClampNeg x) := V37
  clear X35 e35
  show Go p e below (T37.setTop (mkF m 48 #[.val (.ref a), .val (.int x)] [])) _
  refine Go.via (fun _ => XS.aloadN X37.here hx rfl (hb hby d3_48) rfl rfl) ?_
  refine Go.via (fun _ => XS.aloadN X37.here hx rfl (hb hby d3_49) rfl rfl) ?_
  have f39 : Fld Z h37 a "com/example/relate_by_hash/relatebyhash/ctph/RollingHash" "windowIndex" "I" (.int ix) := (f34.other W37 (Or.inl hne))
  obtain ⟨T40, X40, e40, st40⟩ := getF X37 hx hZ hown (host := "") (Or.inl (tw hw 22 rfl)) Via.refl e37 f39 (g := (mkF m 50 #[.val (.ref a), .val (.int x)] [(.ref a), (.ref a)])) rfl rfl (hb hby d3_50)
  refine Go.via (st40) ?_
  clear st40
  clear X37 e37
  show Go p e below (T40.setTop (mkF m 53 #[.val (.ref a), .val (.int x)] [(.int ix), (.ref a)])) _
  refine Go.via (fun _ => XS.bipush X40.here hx rfl (hb hby d3_53)) ?_
  by_cases hc41 : ix = (6 : Int32)
  · refine Go.via (fun _ => XS.icmpNo X40.here hx rfl (hb hby d3_55) rfl (teq (hc41 : ix = (6 : Int32))).2) ?_
    refine Go.via (fun _ => XS.iconst X40.here hx rfl (hb hby d3_58)) ?_
    refine Go.via (fun _ => XS.goto X40.here hx rfl (pc0 := 59) (pc' := 68) rfl (hb hby d3_59) (by decide) (by decide)) ?_
    have f42 : Exa Z h37 a "com/example/relate_by_hash/relatebyhash/ctph/RollingHash" := ((f29.wr W30).wr W37)
    obtain ⟨T43, h43, X43, e43, W43, st43⟩ := putF X40 hx hZ hown (host := "") (Or.inl (tw hw 22 rfl)) Via.refl e40 f39 f42 (Or.inl (tw hw 23 rfl)) (tw hw 3 rfl) (ty := .int) (by decide) rfl rfl (g := (mkF m 68 #[.val (.ref a), .val (.int x)] [(.int (0 : Int32)), (.ref a)])) rfl rfl (hb hby d3_68)
    refine Go.via (st43) ?_
    clear st43
    have N43 := Fr.snoc X43 N37 g_a
    have f44 : Fld Z h43 a "com/example/relate_by_hash/relatebyhash/ctph/RollingHash" "windowIndex" "I" (.int (0 : Int32)) := f39.same W43
    clear X40 e40
    show Go p e below (T43.setTop (mkF m 71 #[.val (.ref a), .val (.int x)] [])) _
    refine Go.via (fun _ => XS.aloadN X43.here hx rfl (hb hby d3_71) rfl rfl) ?_
    refine Go.via (fun _ => XS.aloadN X43.here hx rfl (hb hby d3_72) rfl rfl) ?_
    have f45 : Fld Z h43 a "com/example/relate_by_hash/relatebyhash/ctph/RollingHash" "shiftHash" "I" (.int sh) := ((((P5.other W20 (Or.inr (slot_ne (Or.inl (tw hw 25 rfl)) (Or.inl (tw hw 19 rfl)) (by decide) (t := .int) (t' := .int) (by decide) (by decide)))).other W30 (Or.inr (slot_ne (Or.inl (tw hw 25 rfl)) (Or.inl (tw hw 21 rfl)) (by decide) (t := .int) (t' := .int) (by decide) (by decide)))).other W37 (Or.inl hne)).other W43 (Or.inr (slot_ne (Or.inl (tw hw 25 rfl)) (Or.inl (tw hw 23 rfl)) (by decide) (t := .int) (t' := .int) (by decide) (by decide))))
    obtain ⟨T46, X46, e46, st46⟩ := getF X43 hx hZ hown (host := "") (Or.inl (tw hw 24 rfl)) Via.refl e43 f45 (g := (mkF m 73 #[.val (.ref a), .val (.int x)] [(.ref a), (.ref a)])) rfl rfl (hb hby d3_73)
    refine Go.via (st46) ?_
    clear st46
    clear X43 e43
    show Go p e below (T46.setTop (mkF m 76 #[.val (.ref a), .val (.int x)] [(.int sh), (.ref a)])) _
    refine Go.via (fun _ => XS.iconst X46.here hx rfl (hb hby d3_76)) ?_
    refine Go.via (fun _ => XS.ishl X46.here hx rfl (hb hby d3_77) rfl) ?_
    show Go p e below (T46.setTop (mkF m 78 #[.val (.ref a), .val (.int x)] [(.int (sh <<< ((5 : Int32) &&& 31))), (.ref a)])) _
    refine Go.via (fun _ => XS.iloadN X46.here hx rfl (hb hby d3_78) rfl) ?_
    refine Go.via (fun _ => XS.ixor X46.here hx rfl (hb hby d3_79) rfl) ?_
    show Go p e below (T46.setTop (mkF m 80 #[.val (.ref a), .val (.int x)] [(.int ((sh <<< ((5 : Int32) &&& 31)) ^^^ x)), (.ref a)])) _
    have f47 : Exa Z h43 a "com/example/relate_by_hash/relatebyhash/ctph/RollingHash" := (f42.wr W43)
    obtain ⟨T48, h48, X48, e48, W48, st48⟩ := putF X46 hx hZ hown (host := "") (Or.inl (tw hw 24 rfl)) Via.refl e46 f45 f47 (Or.inl (tw hw 25 rfl)) (tw hw 3 rfl) (ty := .int) (by decide) rfl rfl (g := (mkF m 80 #[.val (.ref a), .val (.int x)] [(.int ((sh <<< ((5 : Int32) &&& 31)) ^^^ x)), (.ref a)])) rfl rfl (hb hby d3_80)
    refine Go.via (st48) ?_
    clear st48
    have N48 := Fr.snoc X48 N43 g_a
    have f49 : Fld Z h48 a "com/example/relate_by_hash/relatebyhash/ctph/RollingHash" "shiftHash" "I" (.int ((sh <<< ((5 : Int32) &&& 31)) ^^^ x)) := f45.same W48
    clear X46 e46
    show Go p e below (T48.setTop (mkF m 83 #[.val (.ref a), .val (.int x)] [])) _
    refine Go.via (fun _ => XS.aloadN X48.here hx rfl (hb hby d3_83) rfl rfl) ?_
    have f50 : Fld Z h48 a "com/example/relate_by_hash/relatebyhash/ctph/RollingHash" "windowSum" "I" (.int (sm + (x - old))) := (((f31.other W37 (Or.inl hne)).other W43 (Or.inr (slot_ne (Or.inl (tw hw 21 rfl)) (Or.inl (tw hw 23 rfl)) (by decide) (t := .int) (t' := .int) (by decide) (by decide)))).other W48 (Or.inr (slot_ne (Or.inl (tw hw 21 rfl)) (Or.inl (tw hw 25 rfl)) (by decide) (t := .int) (t' := .int) (by decide) (by decide))))
    obtain ⟨T51, X51, e51, st51⟩ := getF X48 hx hZ hown (host := "") (Or.inl (tw hw 20 rfl)) Via.refl e48 f50 (g := (mkF m 84 #[.val (.ref a), .val (.int x)] [(.ref a)])) rfl rfl (hb hby d3_84)
    refine Go.via (st51) ?_
    clear st51
    clear X48 e48
    show Go p e below (T51.setTop (mkF m 87 #[.val (.ref a), .val (.int x)] [(.int (sm + (x - old)))])) _
    refine Go.via (fun _ => XS.aloadN X51.here hx rfl (hb hby d3_87) rfl rfl) ?_
    have f52 : Fld Z h48 a "com/example/relate_by_hash/relatebyhash/ctph/RollingHash" "weightedSum" "I" (.int (wt + (((7 : Int32) * x) - sm))) := ((((f21.other W30 (Or.inr (slot_ne (Or.inl (tw hw 19 rfl)) (Or.inl (tw hw 21 rfl)) (by decide) (t := .int) (t' := .int) (by decide) (by decide)))).other W37 (Or.inl hne)).other W43 (Or.inr (slot_ne (Or.inl (tw hw 19 rfl)) (Or.inl (tw hw 23 rfl)) (by decide) (t := .int) (t' := .int) (by decide) (by decide)))).other W48 (Or.inr (slot_ne (Or.inl (tw hw 19 rfl)) (Or.inl (tw hw 25 rfl)) (by decide) (t := .int) (t' := .int) (by decide) (by decide))))
    obtain ⟨T53, X53, e53, st53⟩ := getF X51 hx hZ hown (host := "") (Or.inl (tw hw 18 rfl)) Via.refl e51 f52 (g := (mkF m 88 #[.val (.ref a), .val (.int x)] [(.ref a), (.int (sm + (x - old)))])) rfl rfl (hb hby d3_88)
    refine Go.via (st53) ?_
    clear st53
    clear X51 e51
    show Go p e below (T53.setTop (mkF m 91 #[.val (.ref a), .val (.int x)] [(.int (wt + (((7 : Int32) * x) - sm))), (.int (sm + (x - old)))])) _
    refine Go.via (fun _ => XS.iadd X53.here hx rfl (hb hby d3_91) rfl) ?_
    show Go p e below (T53.setTop (mkF m 92 #[.val (.ref a), .val (.int x)] [(.int ((sm + (x - old)) + (wt + (((7 : Int32) * x) - sm))))])) _
    refine Go.via (fun _ => XS.aloadN X53.here hx rfl (hb hby d3_92) rfl rfl) ?_
    obtain ⟨T54, X54, e54, st54⟩ := getF X53 hx hZ hown (host := "") (Or.inl (tw hw 24 rfl)) Via.refl e53 f49 (g := (mkF m 93 #[.val (.ref a), .val (.int x)] [(.ref a), (.int ((sm + (x - old)) + (wt + (((7 : Int32) * x) - sm))))])) rfl rfl (hb hby d3_93)
    refine Go.via (st54) ?_
    clear st54
    clear X53 e53
    show Go p e below (T54.setTop (mkF m 96 #[.val (.ref a), .val (.int x)] [(.int ((sh <<< ((5 : Int32) &&& 31)) ^^^ x)), (.int ((sm + (x - old)) + (wt + (((7 : Int32) * x) - sm))))])) _
    refine Go.via (fun _ => XS.iadd X54.here hx rfl (hb hby d3_96) rfl) ?_
    show Go p e below (T54.setTop (mkF m 97 #[.val (.ref a), .val (.int x)] [(.int (((sm + (x - old)) + (wt + (((7 : Int32) * x) - sm))) + ((sh <<< ((5 : Int32) &&& 31)) ^^^ x)))])) _
    have f55 : Fld Z h48 a "com/example/relate_by_hash/relatebyhash/ctph/RollingHash" "windowIndex" "I" (.int (0 : Int32)) := (f44.other W48 (Or.inr (slot_ne (Or.inl (tw hw 23 rfl)) (Or.inl (tw hw 25 rfl)) (by decide) (t := .int) (t' := .int) (by decide) (by decide))))
    have k56 : Keep h0 h48 [a, b] := ((((((Keep.refl h0 [a, b]).wr W20 (Or.inl (List.mem_of_getElem? (i := 0) rfl))).wr W30 (Or.inl (List.mem_of_getElem? (i := 0) rfl))).wr W37 (Or.inl (List.mem_of_getElem? (i := 1) rfl))).wr W43 (Or.inl (List.mem_of_getElem? (i := 0) rfl))).wr W48 (Or.inl (List.mem_of_getElem? (i := 0) rfl)))
    have f57 : Exa Z h48 a "com/example/relate_by_hash/relatebyhash/ctph/RollingHash" := (f47.wr W48)
    have f58 : Fld Z h48 a "com/example/relate_by_hash/relatebyhash/ctph/RollingHash" "window" "[I" (.ref b) := (((f32.other W37 (Or.inl hne)).other W43 (Or.inr (slot_ne (Or.inr (tw hw 12 rfl)) (Or.inl (tw hw 23 rfl)) (by decide) (t := (.array .int)) (t' := .int) (by decide) (by decide)))).other W48 (Or.inr (slot_ne (Or.inr (tw hw 12 rfl)) (Or.inl (tw hw 25 rfl)) (by decide) (t := (.array .int)) (t' := .int) (by decide) (by decide))))
    have f59 : Ia Z h48 b .int (List.set xs (ix).toNatClampNeg x) := ((f38.other W43 (Ne.symm hne)).other W48 (Ne.symm hne))
    exact Go.fin X54 hlk (v := some (.int (((sm + (x - old)) + (wt + (((7 : Int32) * x) - sm))) + ((sh <<< ((5 : Int32) &&& 31)) ^^^ x)))) (fun h => by rw [Bd.returns] at h; cases h) (fun fs hr => OwnKit.retI X54 hx Bd.returns (hb hby d3_97) hr) (by rw [e54]; exact ⟨(sm + (x - old)), (wt + (((7 : Int32) * x) - sm)), ((sh <<< ((5 : Int32) &&& 31)) ^^^ x), rfl, N48, k56, f57, f58, f52, f50, (by first | (rw [if_pos (by assumption)]; exact f55) | (rw [if_neg (by assumption)]; exact f55)), f49, f59, rfl, rfl, rfl⟩) (by decide) (by decide)
  · refine Go.via (fun _ => XS.icmpYes X40.here hx rfl (pc0 := 55) (pc' := 62) rfl (hb hby d3_55) rfl (feq (hc41 : ¬ (ix = (6 : Int32)))).2 (by decide) (by decide)) ?_
    refine Go.via (fun _ => XS.aloadN X40.here hx rfl (hb hby d3_62) rfl rfl) ?_
    obtain ⟨T60, X60, e60, st60⟩ := getF X40 hx hZ hown (host := "") (Or.inl (tw hw 22 rfl)) Via.refl e40 f39 (g := (mkF m 63 #[.val (.ref a), .val (.int x)] [(.ref a), (.ref a)])) rfl rfl (hb hby d3_63)
    refine Go.via (st60) ?_
    clear st60
    clear X40 e40
    show Go p e below (T60.setTop (mkF m 66 #[.val (.ref a), .val (.int x)] [(.int ix), (.ref a)])) _
    refine Go.via (fun _ => XS.iconst X60.here hx rfl (hb hby d3_66)) ?_
    refine Go.via (fun _ => XS.iadd X60.here hx rfl (hb hby d3_67) rfl) ?_
    show Go p e below (T60.setTop (mkF m 68 #[.val (.ref a), .val (.int x)] [(.int (ix + (1 : Int32))), (.ref a)])) _
    have f61 : Exa Z h37 a "com/example/relate_by_hash/relatebyhash/ctph/RollingHash" := ((f29.wr W30).wr W37)
    obtain ⟨T62, h62, X62, e62, W62, st62⟩ := putF X60 hx hZ hown (host := "") (Or.inl (tw hw 22 rfl)) Via.refl e60 f39 f61 (Or.inl (tw hw 23 rfl)) (tw hw 3 rfl) (ty := .int) (by decide) rfl rfl (g := (mkF m 68 #[.val (.ref a), .val (.int x)] [(.int (ix + (1 : Int32))), (.ref a)])) rfl rfl (hb hby d3_68)
    refine Go.via (st62) ?_
    clear st62
    have N62 := Fr.snoc X62 N37 g_a
    have f63 : Fld Z h62 a "com/example/relate_by_hash/relatebyhash/ctph/RollingHash" "windowIndex" "I" (.int (ix + (1 : Int32))) := f39.same W62
    clear X60 e60
    show Go p e below (T62.setTop (mkF m 71 #[.val (.ref a), .val (.int x)] [])) _
    refine Go.via (fun _ => XS.aloadN X62.here hx rfl (hb hby d3_71) rfl rfl) ?_
    refine Go.via (fun _ => XS.aloadN X62.here hx rfl (hb hby d3_72) rfl rfl) ?_
    have f64 : Fld Z h62 a "com/example/relate_by_hash/relatebyhash/ctph/RollingHash" "shiftHash" "I" (.int sh) := ((((P5.other W20 (Or.inr (slot_ne (Or.inl (tw hw 25 rfl)) (Or.inl (tw hw 19 rfl)) (by decide) (t := .int) (t' := .int) (by decide) (by decide)))).other W30 (Or.inr (slot_ne (Or.inl (tw hw 25 rfl)) (Or.inl (tw hw 21 rfl)) (by decide) (t := .int) (t' := .int) (by decide) (by decide)))).other W37 (Or.inl hne)).other W62 (Or.inr (slot_ne (Or.inl (tw hw 25 rfl)) (Or.inl (tw hw 23 rfl)) (by decide) (t := .int) (t' := .int) (by decide) (by decide))))
    obtain ⟨T65, X65, e65, st65⟩ := getF X62 hx hZ hown (host := "") (Or.inl (tw hw 24 rfl)) Via.refl e62 f64 (g := (mkF m 73 #[.val (.ref a), .val (.int x)] [(.ref a), (.ref a)])) rfl rfl (hb hby d3_73)
    refine Go.via (st65) ?_
    clear st65
    clear X62 e62
    show Go p e below (T65.setTop (mkF m 76 #[.val (.ref a), .val (.int x)] [(.int sh), (.ref a)])) _
    refine Go.via (fun _ => XS.iconst X65.here hx rfl (hb hby d3_76)) ?_
    refine Go.via (fun _ => XS.ishl X65.here hx rfl (hb hby d3_77) rfl) ?_
    show Go p e below (T65.setTop (mkF m 78 #[.val (.ref a), .val (.int x)] [(.int (sh <<< ((5 : Int32) &&& 31))), (.ref a)])) _
    refine Go.via (fun _ => XS.iloadN X65.here hx rfl (hb hby d3_78) rfl) ?_
    refine Go.via (fun _ => XS.ixor X65.here hx rfl (hb hby d3_79) rfl) ?_
    show Go p e below (T65.setTop (mkF m 80 #[.val (.ref a), .val (.int x)] [(.int ((sh <<< ((5 : Int32) &&& 31)) ^^^ x)), (.ref a)])) _
    have f66 : Exa Z h62 a "com/example/relate_by_hash/relatebyhash/ctph/RollingHash" := (f61.wr W62)
    obtain ⟨T67, h67, X67, e67, W67, st67⟩ := putF X65 hx hZ hown (host := "") (Or.inl (tw hw 24 rfl)) Via.refl e65 f64 f66 (Or.inl (tw hw 25 rfl)) (tw hw 3 rfl) (ty := .int) (by decide) rfl rfl (g := (mkF m 80 #[.val (.ref a), .val (.int x)] [(.int ((sh <<< ((5 : Int32) &&& 31)) ^^^ x)), (.ref a)])) rfl rfl (hb hby d3_80)
    refine Go.via (st67) ?_
    clear st67
    have N67 := Fr.snoc X67 N62 g_a
    have f68 : Fld Z h67 a "com/example/relate_by_hash/relatebyhash/ctph/RollingHash" "shiftHash" "I" (.int ((sh <<< ((5 : Int32) &&& 31)) ^^^ x)) := f64.same W67
    clear X65 e65
    show Go p e below (T67.setTop (mkF m 83 #[.val (.ref a), .val (.int x)] [])) _
    refine Go.via (fun _ => XS.aloadN X67.here hx rfl (hb hby d3_83) rfl rfl) ?_
    have f69 : Fld Z h67 a "com/example/relate_by_hash/relatebyhash/ctph/RollingHash" "windowSum" "I" (.int (sm + (x - old))) := (((f31.other W37 (Or.inl hne)).other W62 (Or.inr (slot_ne (Or.inl (tw hw 21 rfl)) (Or.inl (tw hw 23 rfl)) (by decide) (t := .int) (t' := .int) (by decide) (by decide)))).other W67 (Or.inr (slot_ne (Or.inl (tw hw 21 rfl)) (Or.inl (tw hw 25 rfl)) (by decide) (t := .int) (t' := .int) (by decide) (by decide))))
    obtain ⟨T70, X70, e70, st70⟩ := getF X67 hx hZ hown (host := "") (Or.inl (tw hw 20 rfl)) Via.refl e67 f69 (g := (mkF m 84 #[.val (.ref a), .val (.int x)] [(.ref a)])) rfl rfl (hb hby d3_84)
    refine Go.via (st70) ?_
    clear st70
    clear X67 e67
    show Go p e below (T70.setTop (mkF m 87 #[.val (.ref a), .val (.int x)] [(.int (sm + (x - old)))])) _
    refine Go.via (fun _ => XS.aloadN X70.here hx rfl (hb hby d3_87) rfl rfl) ?_
    have f71 : Fld Z h67 a "com/example/relate_by_hash/relatebyhash/ctph/RollingHash" "weightedSum" "I" (.int (wt + (((7 : Int32) * x) - sm))) := ((((f21.other W30 (Or.inr (slot_ne (Or.inl (tw hw 19 rfl)) (Or.inl (tw hw 21 rfl)) (by decide) (t := .int) (t' := .int) (by decide) (by decide)))).other W37 (Or.inl hne)).other W62 (Or.inr (slot_ne (Or.inl (tw hw 19 rfl)) (Or.inl (tw hw 23 rfl)) (by decide) (t := .int) (t' := .int) (by decide) (by decide)))).other W67 (Or.inr (slot_ne (Or.inl (tw hw 19 rfl)) (Or.inl (tw hw 25 rfl)) (by decide) (t := .int) (t' := .int) (by decide) (by decide))))
    obtain ⟨T72, X72, e72, st72⟩ := getF X70 hx hZ hown (host := "") (Or.inl (tw hw 18 rfl)) Via.refl e70 f71 (g := (mkF m 88 #[.val (.ref a), .val (.int x)] [(.ref a), (.int (sm + (x - old)))])) rfl rfl (hb hby d3_88)
    refine Go.via (st72) ?_
    clear st72
    clear X70 e70
    show Go p e below (T72.setTop (mkF m 91 #[.val (.ref a), .val (.int x)] [(.int (wt + (((7 : Int32) * x) - sm))), (.int (sm + (x - old)))])) _
    refine Go.via (fun _ => XS.iadd X72.here hx rfl (hb hby d3_91) rfl) ?_
    show Go p e below (T72.setTop (mkF m 92 #[.val (.ref a), .val (.int x)] [(.int ((sm + (x - old)) + (wt + (((7 : Int32) * x) - sm))))])) _
    refine Go.via (fun _ => XS.aloadN X72.here hx rfl (hb hby d3_92) rfl rfl) ?_
    obtain ⟨T73, X73, e73, st73⟩ := getF X72 hx hZ hown (host := "") (Or.inl (tw hw 24 rfl)) Via.refl e72 f68 (g := (mkF m 93 #[.val (.ref a), .val (.int x)] [(.ref a), (.int ((sm + (x - old)) + (wt + (((7 : Int32) * x) - sm))))])) rfl rfl (hb hby d3_93)
    refine Go.via (st73) ?_
    clear st73
    clear X72 e72
    show Go p e below (T73.setTop (mkF m 96 #[.val (.ref a), .val (.int x)] [(.int ((sh <<< ((5 : Int32) &&& 31)) ^^^ x)), (.int ((sm + (x - old)) + (wt + (((7 : Int32) * x) - sm))))])) _
    refine Go.via (fun _ => XS.iadd X73.here hx rfl (hb hby d3_96) rfl) ?_
    show Go p e below (T73.setTop (mkF m 97 #[.val (.ref a), .val (.int x)] [(.int (((sm + (x - old)) + (wt + (((7 : Int32) * x) - sm))) + ((sh <<< ((5 : Int32) &&& 31)) ^^^ x)))])) _
    have f74 : Fld Z h67 a "com/example/relate_by_hash/relatebyhash/ctph/RollingHash" "windowIndex" "I" (.int (ix + (1 : Int32))) := (f63.other W67 (Or.inr (slot_ne (Or.inl (tw hw 23 rfl)) (Or.inl (tw hw 25 rfl)) (by decide) (t := .int) (t' := .int) (by decide) (by decide))))
    have k75 : Keep h0 h67 [a, b] := ((((((Keep.refl h0 [a, b]).wr W20 (Or.inl (List.mem_of_getElem? (i := 0) rfl))).wr W30 (Or.inl (List.mem_of_getElem? (i := 0) rfl))).wr W37 (Or.inl (List.mem_of_getElem? (i := 1) rfl))).wr W62 (Or.inl (List.mem_of_getElem? (i := 0) rfl))).wr W67 (Or.inl (List.mem_of_getElem? (i := 0) rfl)))
    have f76 : Exa Z h67 a "com/example/relate_by_hash/relatebyhash/ctph/RollingHash" := (f66.wr W67)
    have f77 : Fld Z h67 a "com/example/relate_by_hash/relatebyhash/ctph/RollingHash" "window" "[I" (.ref b) := (((f32.other W37 (Or.inl hne)).other W62 (Or.inr (slot_ne (Or.inr (tw hw 12 rfl)) (Or.inl (tw hw 23 rfl)) (by decide) (t := (.array .int)) (t' := .int) (by decide) (by decide)))).other W67 (Or.inr (slot_ne (Or.inr (tw hw 12 rfl)) (Or.inl (tw hw 25 rfl)) (by decide) (t := (.array .int)) (t' := .int) (by decide) (by decide))))
    have f78 : Ia Z h67 b .int (List.set xs (ix).toNatClampNeg x) := ((f38.other W62 (Ne.symm hne)).other W67 (Ne.symm hne))
    exact Go.fin X73 hlk (v := some (.int (((sm + (x - old)) + (wt + (((7 : Int32) * x) - sm))) + ((sh <<< ((5 : Int32) &&& 31)) ^^^ x)))) (fun h => by rw [Bd.returns] at h; cases h) (fun fs hr => OwnKit.retI X73 hx Bd.returns (hb hby d3_97) hr) (by rw [e73]; exact ⟨(sm + (x - old)), (wt + (((7 : Int32) * x) - sm)), ((sh <<< ((5 : Int32) &&& 31)) ^^^ x), rfl, N67, k75, f76, f77, f71, f69, (by first | (rw [if_pos (by assumption)]; exact f74) | (rw [if_neg (by assumption)]; exact f74)), f68, f78, rfl, rfl, rfl⟩) (by decide) (by decide)
def own_at (xs : List Int32) (i : Int32) : Int32 := if i < 0 then 0 else xs.getD i.toNatClampNeg 0
theorem own_get {xs : List Int32} {i : Int32} (h0 : ¬ i < 0) (h : i.toInt < (xs.length : Int)) : xs[i.toNatClampNeg]? = some (xs.getD i.toNatClampNeg 0) := by
  have h1 := nat_of h0
  have h2 : i.toNatClampNeg < xs.length := by omega
  simp [List.getD, List.getElem?_eq_getElem h2]
theorem own_sub {n k : Int32} {z : Int} (h0 : 0 ≤ n.toInt) (h : n.toInt < z) (hk : 0 ≤ k.toInt) : (n - k).toInt < z := by
  have h1 := c_isub n k
  have h2 := rng32 (n - k)
  have h3 := rng32 n
  have h4 := rng32 k
  omega
def own_s (a0 a1 a2 a3 a4 a5 a6 : Int32) : Int32 := ((((((a0 + a1) + a2) + a3) + a4) + a5) + a6)
def own_w (a0 a1 a2 a3 a4 a5 a6 : Int32) : Int32 := ((((((((7 : Int32) * a0) + ((6 : Int32) * a1)) + ((5 : Int32) * a2)) + ((4 : Int32) * a3)) + ((3 : Int32) * a4)) + ((2 : Int32) * a5)) + a6)
def own_l5 (a : Int32) : Int32 := a <<< ((5 : Int32) &&& 31)
def own_l10 (a : Int32) : Int32 := a <<< ((10 : Int32) &&& 31)
def own_l15 (a : Int32) : Int32 := a <<< ((15 : Int32) &&& 31)
def own_l20 (a : Int32) : Int32 := a <<< ((20 : Int32) &&& 31)
def own_l25 (a : Int32) : Int32 := a <<< ((25 : Int32) &&& 31)
def own_l30 (a : Int32) : Int32 := a <<< ((30 : Int32) &&& 31)
def own_t (a0 a1 a2 a3 a4 a5 a6 : Int32) : Int32 := ((((((a0 ^^^ own_l5 a1) ^^^ own_l10 a2) ^^^ own_l15 a3) ^^^ own_l20 a4) ^^^ own_l25 a5) ^^^ own_l30 a6)
def own_ref (a0 a1 a2 a3 a4 a5 a6 : Int32) : Int32 := (own_s a0 a1 a2 a3 a4 a5 a6 + own_w a0 a1 a2 a3 a4 a5 a6) + own_t a0 a1 a2 a3 a4 a5 a6
theorem d5_0 : decode method_3_code 0 = .ok (.iload_n 1, 1) := by decide +kernel
theorem d5_1 : decode method_3_code 1 = .ok (.ifCond .ge 7, 3) := by decide +kernel
theorem d5_4 : decode method_3_code 4 = .ok (.iconst 0, 1) := by decide +kernel
theorem d5_5 : decode method_3_code 5 = .ok (.goto 6, 3) := by decide +kernel
theorem d5_11 : decode method_3_code 11 = .ok (.ireturn, 1) := by decide +kernel
theorem d5_8 : decode method_3_code 8 = .ok (.aload_n 0, 1) := by decide +kernel
theorem d5_9 : decode method_3_code 9 = .ok (.iload_n 1, 1) := by decide +kernel
theorem d5_10 : decode method_3_code 10 = .ok (.iaload, 1) := by decide +kernel
theorem pn_5 : plainName "com/example/relate_by_hash/relatebyhash/ctph/RollingHashUpdatePinLaw" = true := by first | (simp [plainName, overriddenIn]; done) | decide +kernel
theorem ef_5 (m : MethodId) (x0 : Addr) (x1 : Int32) : entryFrame m #[(.ref x0), (.int x1)] 2 = mkF m 0 #[.val (.ref x0), .val (.int x1)] [] := by first | (simp [entryFrame, mkF, argsToLocals, Value.category]; done) | rfl
def Q_rm5 (Z : State) (b : Addr) (i : Int32) (xs : List Int32) (h0 : Heap) (n0 : Nat) (vQ : Option Value) (hQ : Heap) (LQ : List Loc) : Prop := vQ = some (.int (own_at xs i)) ∧ Fr n0 LQ ∧ hQ = h0
set_option maxRecDepth 65536 in
set_option maxHeartbeats 40000000 in
theorem rm5 (l : Launch) (Z : State) (a0 : Array Value) (hw : ∀ d ∈ tables_1, d.before a0 Z = true) (ws : List Jvm.Cond) (b : Addr) (i : Int32) (xs : List Int32) (h0 : Heap) (n0 : Nat) (Z0 : n0 ≤ h0.size) (P0 : Ia Z h0 b .int xs) (hlt : i.toInt < (xs.length : Int)) :
    MetFree l (⟨"com/example/relate_by_hash/relatebyhash/ctph/RollingHashUpdatePinLaw", "at", "([II)I"⟩ : MethodName) (head1 (Jvm.Cond.code (⟨"com/example/relate_by_hash/relatebyhash/ctph/RollingHashUpdatePinLaw", "at", "([II)I"⟩ : MethodName) method_3_code 2 (some .int) :: ws) ({ frames := 0, cells := 0, slots := 0, locals := 0 } : Room)) (fun aQ UQ => aQ = #[(.ref b), (.int i)] ∧ Z.Warmed39 UQ.vm ∧ UQ.heap = h0) (fun _ _ _ _ _ => True) (fun _ UQ oQ UR => ∃ vQ LQ, oQ = .returned vQ ∧ Q_rm5 Z b i xs h0 n0 vQ UR.heap LQ ∧ FrameEnd UQ oQ UR LQ ({ frames := 0, cells := 0, slots := 0, locals := 0 } : Room).cells ({ frames := 0, cells := 0, slots := 0, locals := 0 } : Room).slots) := by
  refine MetFree.of_bodySF (plainFor_of_name pn_5) hisR ?_
  intro p e s m args below meth c s₁ Bd hml0 hP hK
  obtain ⟨rfl, hZ, hh⟩ := hP
  have hx := Bd.exec
  have hby := Bd.bytes
  have hlk := Bd.notSynchronized
  have hml : c.maxLocals = 2 := hml0
  have hown : s.vm.findClass "com/example/relate_by_hash/relatebyhash/ctph/RollingHashUpdatePinLaw" = some m.cls := findClass_of_methodNamed Bd.named
  have hnm := (name_of_methodNamed Bd.named Bd.method).1
  have X0 : Stand p l e ({ frames := 0, cells := 0, slots := 0, locals := 0 } : Room) s m #[(.ref b), (.int i)] below meth c s₁ [] 0 0 := Stand.of_body Bd
  have e0 : s₁.heap = h0 := by rw [← hh, Bd.state]; rfl
  have N0 := Fr.nil n0
  show Go p e below _ (Done s (Q_rm5 Z b i xs h0 n0) ({ frames := 0, cells := 0, slots := 0, locals := 0 } : Room).cells ({ frames := 0, cells := 0, slots := 0, locals := 0 } : Room).slots)
  refine Go.via (fun tQ kQ => castTop (ef_5 m b i) kQ) ?_
  show Go p e below (s₁.setTop (mkF m 0 #[.val (.ref b), .val (.int i)] [])) _
  refine Go.via (fun _ => XS.iloadN X0.here hx rfl (hb hby d5_0) rfl) ?_
  by_cases hc79 : i < (0 : Int32)
  · refine Go.via (fun _ => XS.ifNo X0.here hx rfl (hb hby d5_1) rfl ((if0 _ _).trans (tlt (hc79 : i < (0 : Int32))).2.1)) ?_
    refine Go.via (fun _ => XS.iconst X0.here hx rfl (hb hby d5_4)) ?_
    refine Go.via (fun _ => XS.goto X0.here hx rfl (pc0 := 5) (pc' := 11) rfl (hb hby d5_5) (by decide) (by decide)) ?_
    exact Go.fin X0 hlk (v := some (.int (0 : Int32))) (fun h => by rw [Bd.returns] at h; cases h) (fun fs hr => OwnKit.retI X0 hx Bd.returns (hb hby d5_11) hr) (by rw [e0]; exact ⟨(by simp only [own_at]; first | rw [if_pos (by assumption)] | rw [if_neg (by assumption)]), N0, rfl⟩) (by decide) (by decide)
  · refine Go.via (fun _ => XS.ifYes X0.here hx rfl (pc0 := 1) (pc' := 8) rfl (hb hby d5_1) rfl ((if0 _ _).trans (flt (hc79 : ¬ (i < (0 : Int32)))).2.1) (by decide) (by decide)) ?_
    refine Go.via (fun _ => XS.aloadN X0.here hx rfl (hb hby d5_8) rfl rfl) ?_
    refine Go.via (fun _ => XS.iloadN X0.here hx rfl (hb hby d5_9) rfl) ?_
    refine Go.via (ldI X0 hx hZ e0 P0 (v := (xs.getD i.toNatClampNeg 0)) (by assumption) (own_get (by assumption) hlt) (g := (mkF m 10 #[.val (.ref b), .val (.int i)] [(.int i), (.ref b)])) rfl rfl (hb hby d5_10)) ?_
    show Go p e below (s₁.setTop (mkF m 11 #[.val (.ref b), .val (.int i)] [(.int (xs.getD i.toNatClampNeg 0))])) _
    exact Go.fin X0 hlk (v := some (.int (xs.getD i.toNatClampNeg 0))) (fun h => by rw [Bd.returns] at h; cases h) (fun fs hr => OwnKit.retI X0 hx Bd.returns (hb hby d5_11) hr) (by rw [e0]; exact ⟨(by simp only [own_at]; first | rw [if_pos (by assumption)] | rw [if_neg (by assumption)]), N0, rfl⟩) (by decide) (by decide)
theorem d4_0 : decode method_4_code 0 = .ok (.aload_n 0, 1) := by decide +kernel
theorem d4_1 : decode method_4_code 1 = .ok (.iload_n 1, 1) := by decide +kernel
theorem d4_2 : decode method_4_code 2 = .ok (.invokestatic 22, 3) := by decide +kernel
theorem pd__28_5bII_29I : parseMethodDescriptor "([II)I" = some ⟨[(.array .int), .int], some .int⟩ := by decide +kernel
theorem d4_5 : decode method_4_code 5 = .ok (.istore_n 2, 1) := by decide +kernel
theorem d4_6 : decode method_4_code 6 = .ok (.aload_n 0, 1) := by decide +kernel
theorem d4_7 : decode method_4_code 7 = .ok (.iload_n 1, 1) := by decide +kernel
theorem d4_8 : decode method_4_code 8 = .ok (.iconst 1, 1) := by decide +kernel
theorem d4_9 : decode method_4_code 9 = .ok (.isub, 1) := by decide +kernel
theorem d4_10 : decode method_4_code 10 = .ok (.invokestatic 22, 3) := by decide +kernel
theorem d4_13 : decode method_4_code 13 = .ok (.istore_n 3, 1) := by decide +kernel
theorem d4_14 : decode method_4_code 14 = .ok (.aload_n 0, 1) := by decide +kernel
theorem d4_15 : decode method_4_code 15 = .ok (.iload_n 1, 1) := by decide +kernel
theorem d4_16 : decode method_4_code 16 = .ok (.iconst 2, 1) := by decide +kernel
theorem d4_17 : decode method_4_code 17 = .ok (.isub, 1) := by decide +kernel
theorem d4_18 : decode method_4_code 18 = .ok (.invokestatic 22, 3) := by decide +kernel
theorem d4_21 : decode method_4_code 21 = .ok (.istore 4, 2) := by decide +kernel
theorem d4_23 : decode method_4_code 23 = .ok (.aload_n 0, 1) := by decide +kernel
theorem d4_24 : decode method_4_code 24 = .ok (.iload_n 1, 1) := by decide +kernel
theorem d4_25 : decode method_4_code 25 = .ok (.iconst 3, 1) := by decide +kernel
theorem d4_26 : decode method_4_code 26 = .ok (.isub, 1) := by decide +kernel
theorem d4_27 : decode method_4_code 27 = .ok (.invokestatic 22, 3) := by decide +kernel
theorem d4_30 : decode method_4_code 30 = .ok (.istore 5, 2) := by decide +kernel
theorem d4_32 : decode method_4_code 32 = .ok (.aload_n 0, 1) := by decide +kernel
theorem d4_33 : decode method_4_code 33 = .ok (.iload_n 1, 1) := by decide +kernel
theorem d4_34 : decode method_4_code 34 = .ok (.iconst 4, 1) := by decide +kernel
theorem d4_35 : decode method_4_code 35 = .ok (.isub, 1) := by decide +kernel
theorem d4_36 : decode method_4_code 36 = .ok (.invokestatic 22, 3) := by decide +kernel
theorem d4_39 : decode method_4_code 39 = .ok (.istore 6, 2) := by decide +kernel
theorem d4_41 : decode method_4_code 41 = .ok (.aload_n 0, 1) := by decide +kernel
theorem d4_42 : decode method_4_code 42 = .ok (.iload_n 1, 1) := by decide +kernel
theorem d4_43 : decode method_4_code 43 = .ok (.iconst 5, 1) := by decide +kernel
theorem d4_44 : decode method_4_code 44 = .ok (.isub, 1) := by decide +kernel
theorem d4_45 : decode method_4_code 45 = .ok (.invokestatic 22, 3) := by decide +kernel
theorem d4_48 : decode method_4_code 48 = .ok (.istore 7, 2) := by decide +kernel
theorem d4_50 : decode method_4_code 50 = .ok (.aload_n 0, 1) := by decide +kernel
theorem d4_51 : decode method_4_code 51 = .ok (.iload_n 1, 1) := by decide +kernel
theorem d4_52 : decode method_4_code 52 = .ok (.bipush 6, 2) := by decide +kernel
theorem d4_54 : decode method_4_code 54 = .ok (.isub, 1) := by decide +kernel
theorem d4_55 : decode method_4_code 55 = .ok (.invokestatic 22, 3) := by decide +kernel
theorem d4_58 : decode method_4_code 58 = .ok (.istore 8, 2) := by decide +kernel
theorem d4_60 : decode method_4_code 60 = .ok (.iload_n 2, 1) := by decide +kernel
theorem d4_61 : decode method_4_code 61 = .ok (.iload_n 3, 1) := by decide +kernel
theorem d4_62 : decode method_4_code 62 = .ok (.iadd, 1) := by decide +kernel
theorem d4_63 : decode method_4_code 63 = .ok (.iload 4, 2) := by decide +kernel
theorem d4_65 : decode method_4_code 65 = .ok (.iadd, 1) := by decide +kernel
theorem d4_66 : decode method_4_code 66 = .ok (.iload 5, 2) := by decide +kernel
theorem d4_68 : decode method_4_code 68 = .ok (.iadd, 1) := by decide +kernel
theorem d4_69 : decode method_4_code 69 = .ok (.iload 6, 2) := by decide +kernel
theorem d4_71 : decode method_4_code 71 = .ok (.iadd, 1) := by decide +kernel
theorem d4_72 : decode method_4_code 72 = .ok (.iload 7, 2) := by decide +kernel
theorem d4_74 : decode method_4_code 74 = .ok (.iadd, 1) := by decide +kernel
theorem d4_75 : decode method_4_code 75 = .ok (.iload 8, 2) := by decide +kernel
theorem d4_77 : decode method_4_code 77 = .ok (.iadd, 1) := by decide +kernel
theorem d4_78 : decode method_4_code 78 = .ok (.istore 9, 2) := by decide +kernel
theorem d4_80 : decode method_4_code 80 = .ok (.bipush 7, 2) := by decide +kernel
theorem d4_82 : decode method_4_code 82 = .ok (.iload_n 2, 1) := by decide +kernel
theorem d4_83 : decode method_4_code 83 = .ok (.imul, 1) := by decide +kernel
theorem d4_84 : decode method_4_code 84 = .ok (.bipush 6, 2) := by decide +kernel
theorem d4_86 : decode method_4_code 86 = .ok (.iload_n 3, 1) := by decide +kernel
theorem d4_87 : decode method_4_code 87 = .ok (.imul, 1) := by decide +kernel
theorem d4_88 : decode method_4_code 88 = .ok (.iadd, 1) := by decide +kernel
theorem d4_89 : decode method_4_code 89 = .ok (.iconst 5, 1) := by decide +kernel
theorem d4_90 : decode method_4_code 90 = .ok (.iload 4, 2) := by decide +kernel
theorem d4_92 : decode method_4_code 92 = .ok (.imul, 1) := by decide +kernel
theorem d4_93 : decode method_4_code 93 = .ok (.iadd, 1) := by decide +kernel
theorem d4_94 : decode method_4_code 94 = .ok (.iconst 4, 1) := by decide +kernel
theorem d4_95 : decode method_4_code 95 = .ok (.iload 5, 2) := by decide +kernel
theorem d4_97 : decode method_4_code 97 = .ok (.imul, 1) := by decide +kernel
theorem d4_98 : decode method_4_code 98 = .ok (.iadd, 1) := by decide +kernel
theorem d4_99 : decode method_4_code 99 = .ok (.iconst 3, 1) := by decide +kernel
theorem d4_100 : decode method_4_code 100 = .ok (.iload 6, 2) := by decide +kernel
theorem d4_102 : decode method_4_code 102 = .ok (.imul, 1) := by decide +kernel
theorem d4_103 : decode method_4_code 103 = .ok (.iadd, 1) := by decide +kernel
theorem d4_104 : decode method_4_code 104 = .ok (.iconst 2, 1) := by decide +kernel
theorem d4_105 : decode method_4_code 105 = .ok (.iload 7, 2) := by decide +kernel
theorem d4_107 : decode method_4_code 107 = .ok (.imul, 1) := by decide +kernel
theorem d4_108 : decode method_4_code 108 = .ok (.iadd, 1) := by decide +kernel
theorem d4_109 : decode method_4_code 109 = .ok (.iload 8, 2) := by decide +kernel
theorem d4_111 : decode method_4_code 111 = .ok (.iadd, 1) := by decide +kernel
theorem d4_112 : decode method_4_code 112 = .ok (.istore 10, 2) := by decide +kernel
theorem d4_114 : decode method_4_code 114 = .ok (.iload_n 2, 1) := by decide +kernel
theorem d4_115 : decode method_4_code 115 = .ok (.iload_n 3, 1) := by decide +kernel
theorem d4_116 : decode method_4_code 116 = .ok (.iconst 5, 1) := by decide +kernel
theorem d4_117 : decode method_4_code 117 = .ok (.ishl, 1) := by decide +kernel
theorem d4_118 : decode method_4_code 118 = .ok (.ixor, 1) := by decide +kernel
theorem d4_119 : decode method_4_code 119 = .ok (.iload 4, 2) := by decide +kernel
theorem d4_121 : decode method_4_code 121 = .ok (.bipush 10, 2) := by decide +kernel
theorem d4_123 : decode method_4_code 123 = .ok (.ishl, 1) := by decide +kernel
theorem d4_124 : decode method_4_code 124 = .ok (.ixor, 1) := by decide +kernel
theorem d4_125 : decode method_4_code 125 = .ok (.iload 5, 2) := by decide +kernel
theorem d4_127 : decode method_4_code 127 = .ok (.bipush 15, 2) := by decide +kernel
theorem d4_129 : decode method_4_code 129 = .ok (.ishl, 1) := by decide +kernel
theorem d4_130 : decode method_4_code 130 = .ok (.ixor, 1) := by decide +kernel
theorem d4_131 : decode method_4_code 131 = .ok (.iload 6, 2) := by decide +kernel
theorem d4_133 : decode method_4_code 133 = .ok (.bipush 20, 2) := by decide +kernel
theorem d4_135 : decode method_4_code 135 = .ok (.ishl, 1) := by decide +kernel
theorem d4_136 : decode method_4_code 136 = .ok (.ixor, 1) := by decide +kernel
theorem d4_137 : decode method_4_code 137 = .ok (.iload 7, 2) := by decide +kernel
theorem d4_139 : decode method_4_code 139 = .ok (.bipush 25, 2) := by decide +kernel
theorem d4_141 : decode method_4_code 141 = .ok (.ishl, 1) := by decide +kernel
theorem d4_142 : decode method_4_code 142 = .ok (.ixor, 1) := by decide +kernel
theorem d4_143 : decode method_4_code 143 = .ok (.iload 8, 2) := by decide +kernel
theorem d4_145 : decode method_4_code 145 = .ok (.bipush 30, 2) := by decide +kernel
theorem d4_147 : decode method_4_code 147 = .ok (.ishl, 1) := by decide +kernel
theorem d4_148 : decode method_4_code 148 = .ok (.ixor, 1) := by decide +kernel
theorem d4_149 : decode method_4_code 149 = .ok (.istore 11, 2) := by decide +kernel
theorem d4_151 : decode method_4_code 151 = .ok (.iload 9, 2) := by decide +kernel
theorem d4_153 : decode method_4_code 153 = .ok (.iload 10, 2) := by decide +kernel
theorem d4_155 : decode method_4_code 155 = .ok (.iadd, 1) := by decide +kernel
theorem d4_156 : decode method_4_code 156 = .ok (.iload 11, 2) := by decide +kernel
theorem d4_158 : decode method_4_code 158 = .ok (.iadd, 1) := by decide +kernel
theorem d4_159 : decode method_4_code 159 = .ok (.ireturn, 1) := by decide +kernel
theorem pn_4 : plainName "com/example/relate_by_hash/relatebyhash/ctph/RollingHashUpdatePinLaw" = true := by first | (simp [plainName, overriddenIn]; done) | decide +kernel
theorem ef_4 (m : MethodId) (x0 : Addr) (x1 : Int32) : entryFrame m #[(.ref x0), (.int x1)] 12 = mkF m 0 #[.val (.ref x0), .val (.int x1), .unset, .unset, .unset, .unset, .unset, .unset, .unset, .unset, .unset, .unset] [] := by first | (simp [entryFrame, mkF, argsToLocals, Value.category]; done) | rfl
def Q_rm4 (Z : State) (b : Addr) (n : Int32) (xs : List Int32) (h0 : Heap) (n0 : Nat) (vQ : Option Value) (hQ : Heap) (LQ : List Loc) : Prop := vQ = some (.int (own_ref (own_at xs n) (own_at xs (n - (1 : Int32))) (own_at xs (n - (2 : Int32))) (own_at xs (n - (3 : Int32))) (own_at xs (n - (4 : Int32))) (own_at xs (n - (5 : Int32))) (own_at xs (n - (6 : Int32))))) ∧ Fr n0 LQ ∧ hQ = h0
set_option maxRecDepth 65536 in
set_option maxHeartbeats 40000000 in
theorem rm4 (l : Launch) (Z : State) (a0 : Array Value) (hw : ∀ d ∈ tables_1, d.before a0 Z = true) (ws : List Jvm.Cond) (b : Addr) (n : Int32) (xs : List Int32) (h0 : Heap) (n0 : Nat) (Z0 : n0 ≤ h0.size) (P0 : Ia Z h0 b .int xs) (h0n : 0 ≤ n.toInt) (hlt : n.toInt < (xs.length : Int)) :
    MetFree l (⟨"com/example/relate_by_hash/relatebyhash/ctph/RollingHashUpdatePinLaw", "ref", "([II)I"⟩ : MethodName) (head1 (Jvm.Cond.code (⟨"com/example/relate_by_hash/relatebyhash/ctph/RollingHashUpdatePinLaw", "ref", "([II)I"⟩ : MethodName) method_4_code 12 (some .int) :: ws) ({ frames := 1, cells := 0, slots := 0, locals := 13 } : Room)) (fun aQ UQ => aQ = #[(.ref b), (.int n)] ∧ Z.Warmed39 UQ.vm ∧ UQ.heap = h0) (fun _ _ _ _ _ => True) (fun _ UQ oQ UR => ∃ vQ LQ, oQ = .returned vQ ∧ Q_rm4 Z b n xs h0 n0 vQ UR.heap LQ ∧ FrameEnd UQ oQ UR LQ ({ frames := 1, cells := 0, slots := 0, locals := 13 } : Room).cells ({ frames := 1, cells := 0, slots := 0, locals := 13 } : Room).slots) := by
  refine MetFree.of_bodySF (plainFor_of_name pn_4) hisR ?_
  intro p e s m args below meth c s₁ Bd hml0 hP hK
  obtain ⟨rfl, hZ, hh⟩ := hP
  have hx := Bd.exec
  have hby := Bd.bytes
  have hlk := Bd.notSynchronized
  have hml : c.maxLocals = 12 := hml0
  have hown : s.vm.findClass "com/example/relate_by_hash/relatebyhash/ctph/RollingHashUpdatePinLaw" = some m.cls := findClass_of_methodNamed Bd.named
  have hnm := (name_of_methodNamed Bd.named Bd.method).1
  have X0 : Stand p l e ({ frames := 1, cells := 0, slots := 0, locals := 13 } : Room) s m #[(.ref b), (.int n)] below meth c s₁ [] 0 0 := Stand.of_body Bd
  have e0 : s₁.heap = h0 := by rw [← hh, Bd.state]; rfl
  have N0 := Fr.nil n0
  show Go p e below _ (Done s (Q_rm4 Z b n xs h0 n0) ({ frames := 1, cells := 0, slots := 0, locals := 13 } : Room).cells ({ frames := 1, cells := 0, slots := 0, locals := 13 } : Room).slots)
  refine Go.via (fun tQ kQ => castTop (ef_4 m b n) kQ) ?_
  show Go p e below (s₁.setTop (mkF m 0 #[.val (.ref b), .val (.int n), .unset, .unset, .unset, .unset, .unset, .unset, .unset, .unset, .unset, .unset] [])) _
  refine Go.via (fun _ => XS.aloadN X0.here hx rfl (hb hby d4_0) rfl rfl) ?_
  refine Go.via (fun _ => XS.iloadN X0.here hx rfl (hb hby d4_1) rfl) ?_
  obtain ⟨r80, _, ⟨T80, L80, k80, n80⟩, -, X80, ⟨Lc80, hQ80, l80, y80, z80⟩, st80⟩ := Jvm.LawKit.callS X0 hx (y := (⟨"com/example/relate_by_hash/relatebyhash/ctph/RollingHashUpdatePinLaw", "at", "([II)I"⟩ : MethodName)) hown (mvT hZ (tw hw 30 rfl)) (mvT hZ (tw hw 31 rfl)) (mvT hZ (tw hw 28 rfl)) (mvT hZ (tw hw 32 rfl)) (by decide) (backOf (W := 0) (rm5 l Z a0 hw [] b n xs h0 n0 Z0 P0 hlt) hZ (tw hw 32 rfl) (tw hw 28 rfl) (by decide) (by decide)) (g := (mkF m 2 #[.val (.ref b), .val (.int n), .unset, .unset, .unset, .unset, .unset, .unset, .unset, .unset, .unset, .unset] [(.int n), (.ref b)])) rfl (by rw [hml]; rfl) (argsL := [(.ref b), (.int n)]) (rest := []) (lenOf pd__28_5bII_29I rfl) rfl (by show 2 * 0 + _ ≤ _; exact Nat.le_of_eq rfl) (hb hby d4_2) (fun _ _ => ⟨rfl, e0, (by decide : 0 + 0 ≤ _), (by decide : 0 + 0 ≤ _)⟩)
  dsimp only [Pt.U, Pt.locs, Pt.cells, Pt.slots] at X80 l80 y80 z80 st80 hQ80
  rw [l80, y80, z80] at X80
  clear l80 y80 z80
  obtain ⟨hr80, N80q, eh80⟩ := hQ80
  rw [hr80] at st80
  clear hr80
  have N80 := Fr.app N0 N80q
  refine Go.via (st80) ?_
  clear st80
  have e80 : T80.heap = h0 := eh80
  clear X0 e0
  show Go p e below (T80.setTop (mkF m 5 #[.val (.ref b), .val (.int n), .unset, .unset, .unset, .unset, .unset, .unset, .unset, .unset, .unset, .unset] [(.int (own_at xs n))])) _
  refine Go.via (fun _ => XS.istoreN X80.here hx rfl (hb hby d4_5) rfl (l' := #[.val (.ref b), .val (.int n), .val (.int (own_at xs n)), .unset, .unset, .unset, .unset, .unset, .unset, .unset, .unset, .unset]) rfl) ?_
  show Go p e below (T80.setTop (mkF m 6 #[.val (.ref b), .val (.int n), .val (.int (own_at xs n)), .unset, .unset, .unset, .unset, .unset, .unset, .unset, .unset, .unset] [])) _
  refine Go.via (fun _ => XS.aloadN X80.here hx rfl (hb hby d4_6) rfl rfl) ?_
  refine Go.via (fun _ => XS.iloadN X80.here hx rfl (hb hby d4_7) rfl) ?_
  refine Go.via (fun _ => XS.iconst X80.here hx rfl (hb hby d4_8)) ?_
  refine Go.via (fun _ => XS.isub X80.here hx rfl (hb hby d4_9) rfl) ?_
  show Go p e below (T80.setTop (mkF m 10 #[.val (.ref b), .val (.int n), .val (.int (own_at xs n)), .unset, .unset, .unset, .unset, .unset, .unset, .unset, .unset, .unset] [(.int (n - (1 : Int32))), (.ref b)])) _
  obtain ⟨r81, _, ⟨T81, L81, k81, n81⟩, -, X81, ⟨Lc81, hQ81, l81, y81, z81⟩, st81⟩ := Jvm.LawKit.callS X80 hx (y := (⟨"com/example/relate_by_hash/relatebyhash/ctph/RollingHashUpdatePinLaw", "at", "([II)I"⟩ : MethodName)) hown (mvT hZ (tw hw 30 rfl)) (mvT hZ (tw hw 31 rfl)) (mvT hZ (tw hw 28 rfl)) (mvT hZ (tw hw 32 rfl)) (by decide) (backOf (W := 0) (rm5 l Z a0 hw [] b (n - (1 : Int32)) xs h0 n0 Z0 P0 (own_sub h0n hlt (by decide))) hZ (tw hw 32 rfl) (tw hw 28 rfl) (by decide) (by decide)) (g := (mkF m 10 #[.val (.ref b), .val (.int n), .val (.int (own_at xs n)), .unset, .unset, .unset, .unset, .unset, .unset, .unset, .unset, .unset] [(.int (n - (1 : Int32))), (.ref b)])) rfl (by rw [hml]; rfl) (argsL := [(.ref b), (.int (n - (1 : Int32)))]) (rest := []) (lenOf pd__28_5bII_29I rfl) rfl (by show 2 * 0 + _ ≤ _; exact Nat.le_of_eq rfl) (hb hby d4_10) (fun _ _ => ⟨rfl, e80, (by decide : 0 + 0 ≤ _), (by decide : 0 + 0 ≤ _)⟩)
  dsimp only [Pt.U, Pt.locs, Pt.cells, Pt.slots] at X81 l81 y81 z81 st81 hQ81
  rw [l81, y81, z81] at X81
  clear l81 y81 z81
  obtain ⟨hr81, N81q, eh81⟩ := hQ81
  rw [hr81] at st81
  clear hr81
  have N81 := Fr.app N80 N81q
  refine Go.via (st81) ?_
  clear st81
  have e81 : T81.heap = h0 := eh81
  clear X80 e80
  show Go p e below (T81.setTop (mkF m 13 #[.val (.ref b), .val (.int n), .val (.int (own_at xs n)), .unset, .unset, .unset, .unset, .unset, .unset, .unset, .unset, .unset] [(.int (own_at xs (n - (1 : Int32))))])) _
  refine Go.via (fun _ => XS.istoreN X81.here hx rfl (hb hby d4_13) rfl (l' := #[.val (.ref b), .val (.int n), .val (.int (own_at xs n)), .val (.int (own_at xs (n - (1 : Int32)))), .unset, .unset, .unset, .unset, .unset, .unset, .unset, .unset]) rfl) ?_
  show Go p e below (T81.setTop (mkF m 14 #[.val (.ref b), .val (.int n), .val (.int (own_at xs n)), .val (.int (own_at xs (n - (1 : Int32)))), .unset, .unset, .unset, .unset, .unset, .unset, .unset, .unset] [])) _
  refine Go.via (fun _ => XS.aloadN X81.here hx rfl (hb hby d4_14) rfl rfl) ?_
  refine Go.via (fun _ => XS.iloadN X81.here hx rfl (hb hby d4_15) rfl) ?_
  refine Go.via (fun _ => XS.iconst X81.here hx rfl (hb hby d4_16)) ?_
  refine Go.via (fun _ => XS.isub X81.here hx rfl (hb hby d4_17) rfl) ?_
  show Go p e below (T81.setTop (mkF m 18 #[.val (.ref b), .val (.int n), .val (.int (own_at xs n)), .val (.int (own_at xs (n - (1 : Int32)))), .unset, .unset, .unset, .unset, .unset, .unset, .unset, .unset] [(.int (n - (2 : Int32))), (.ref b)])) _
  obtain ⟨r82, _, ⟨T82, L82, k82, n82⟩, -, X82, ⟨Lc82, hQ82, l82, y82, z82⟩, st82⟩ := Jvm.LawKit.callS X81 hx (y := (⟨"com/example/relate_by_hash/relatebyhash/ctph/RollingHashUpdatePinLaw", "at", "([II)I"⟩ : MethodName)) hown (mvT hZ (tw hw 30 rfl)) (mvT hZ (tw hw 31 rfl)) (mvT hZ (tw hw 28 rfl)) (mvT hZ (tw hw 32 rfl)) (by decide) (backOf (W := 0) (rm5 l Z a0 hw [] b (n - (2 : Int32)) xs h0 n0 Z0 P0 (own_sub h0n hlt (by decide))) hZ (tw hw 32 rfl) (tw hw 28 rfl) (by decide) (by decide)) (g := (mkF m 18 #[.val (.ref b), .val (.int n), .val (.int (own_at xs n)), .val (.int (own_at xs (n - (1 : Int32)))), .unset, .unset, .unset, .unset, .unset, .unset, .unset, .unset] [(.int (n - (2 : Int32))), (.ref b)])) rfl (by rw [hml]; rfl) (argsL := [(.ref b), (.int (n - (2 : Int32)))]) (rest := []) (lenOf pd__28_5bII_29I rfl) rfl (by show 2 * 0 + _ ≤ _; exact Nat.le_of_eq rfl) (hb hby d4_18) (fun _ _ => ⟨rfl, e81, (by decide : 0 + 0 ≤ _), (by decide : 0 + 0 ≤ _)⟩)
  dsimp only [Pt.U, Pt.locs, Pt.cells, Pt.slots] at X82 l82 y82 z82 st82 hQ82
  rw [l82, y82, z82] at X82
  clear l82 y82 z82
  obtain ⟨hr82, N82q, eh82⟩ := hQ82
  rw [hr82] at st82
  clear hr82
  have N82 := Fr.app N81 N82q
  refine Go.via (st82) ?_
  clear st82
  have e82 : T82.heap = h0 := eh82
  clear X81 e81
  show Go p e below (T82.setTop (mkF m 21 #[.val (.ref b), .val (.int n), .val (.int (own_at xs n)), .val (.int (own_at xs (n - (1 : Int32)))), .unset, .unset, .unset, .unset, .unset, .unset, .unset, .unset] [(.int (own_at xs (n - (2 : Int32))))])) _
  refine Go.via (fun _ => XS.istore X82.here hx rfl (hb hby d4_21) rfl (l' := #[.val (.ref b), .val (.int n), .val (.int (own_at xs n)), .val (.int (own_at xs (n - (1 : Int32)))), .val (.int (own_at xs (n - (2 : Int32)))), .unset, .unset, .unset, .unset, .unset, .unset, .unset]) rfl) ?_
  show Go p e below (T82.setTop (mkF m 23 #[.val (.ref b), .val (.int n), .val (.int (own_at xs n)), .val (.int (own_at xs (n - (1 : Int32)))), .val (.int (own_at xs (n - (2 : Int32)))), .unset, .unset, .unset, .unset, .unset, .unset, .unset] [])) _
  refine Go.via (fun _ => XS.aloadN X82.here hx rfl (hb hby d4_23) rfl rfl) ?_
  refine Go.via (fun _ => XS.iloadN X82.here hx rfl (hb hby d4_24) rfl) ?_
  refine Go.via (fun _ => XS.iconst X82.here hx rfl (hb hby d4_25)) ?_
  refine Go.via (fun _ => XS.isub X82.here hx rfl (hb hby d4_26) rfl) ?_
  show Go p e below (T82.setTop (mkF m 27 #[.val (.ref b), .val (.int n), .val (.int (own_at xs n)), .val (.int (own_at xs (n - (1 : Int32)))), .val (.int (own_at xs (n - (2 : Int32)))), .unset, .unset, .unset, .unset, .unset, .unset, .unset] [(.int (n - (3 : Int32))), (.ref b)])) _
  obtain ⟨r83, _, ⟨T83, L83, k83, n83⟩, -, X83, ⟨Lc83, hQ83, l83, y83, z83⟩, st83⟩ := Jvm.LawKit.callS X82 hx (y := (⟨"com/example/relate_by_hash/relatebyhash/ctph/RollingHashUpdatePinLaw", "at", "([II)I"⟩ : MethodName)) hown (mvT hZ (tw hw 30 rfl)) (mvT hZ (tw hw 31 rfl)) (mvT hZ (tw hw 28 rfl)) (mvT hZ (tw hw 32 rfl)) (by decide) (backOf (W := 0) (rm5 l Z a0 hw [] b (n - (3 : Int32)) xs h0 n0 Z0 P0 (own_sub h0n hlt (by decide))) hZ (tw hw 32 rfl) (tw hw 28 rfl) (by decide) (by decide)) (g := (mkF m 27 #[.val (.ref b), .val (.int n), .val (.int (own_at xs n)), .val (.int (own_at xs (n - (1 : Int32)))), .val (.int (own_at xs (n - (2 : Int32)))), .unset, .unset, .unset, .unset, .unset, .unset, .unset] [(.int (n - (3 : Int32))), (.ref b)])) rfl (by rw [hml]; rfl) (argsL := [(.ref b), (.int (n - (3 : Int32)))]) (rest := []) (lenOf pd__28_5bII_29I rfl) rfl (by show 2 * 0 + _ ≤ _; exact Nat.le_of_eq rfl) (hb hby d4_27) (fun _ _ => ⟨rfl, e82, (by decide : 0 + 0 ≤ _), (by decide : 0 + 0 ≤ _)⟩)
  dsimp only [Pt.U, Pt.locs, Pt.cells, Pt.slots] at X83 l83 y83 z83 st83 hQ83
  rw [l83, y83, z83] at X83
  clear l83 y83 z83
  obtain ⟨hr83, N83q, eh83⟩ := hQ83
  rw [hr83] at st83
  clear hr83
  have N83 := Fr.app N82 N83q
  refine Go.via (st83) ?_
  clear st83
  have e83 : T83.heap = h0 := eh83
  clear X82 e82
  show Go p e below (T83.setTop (mkF m 30 #[.val (.ref b), .val (.int n), .val (.int (own_at xs n)), .val (.int (own_at xs (n - (1 : Int32)))), .val (.int (own_at xs (n - (2 : Int32)))), .unset, .unset, .unset, .unset, .unset, .unset, .unset] [(.int (own_at xs (n - (3 : Int32))))])) _
  refine Go.via (fun _ => XS.istore X83.here hx rfl (hb hby d4_30) rfl (l' := #[.val (.ref b), .val (.int n), .val (.int (own_at xs n)), .val (.int (own_at xs (n - (1 : Int32)))), .val (.int (own_at xs (n - (2 : Int32)))), .val (.int (own_at xs (n - (3 : Int32)))), .unset, .unset, .unset, .unset, .unset, .unset]) rfl) ?_
  show Go p e below (T83.setTop (mkF m 32 #[.val (.ref b), .val (.int n), .val (.int (own_at xs n)), .val (.int (own_at xs (n - (1 : Int32)))), .val (.int (own_at xs (n - (2 : Int32)))), .val (.int (own_at xs (n - (3 : Int32)))), .unset, .unset, .unset, .unset, .unset, .unset] [])) _
  refine Go.via (fun _ => XS.aloadN X83.here hx rfl (hb hby d4_32) rfl rfl) ?_
  refine Go.via (fun _ => XS.iloadN X83.here hx rfl (hb hby d4_33) rfl) ?_
  refine Go.via (fun _ => XS.iconst X83.here hx rfl (hb hby d4_34)) ?_
  refine Go.via (fun _ => XS.isub X83.here hx rfl (hb hby d4_35) rfl) ?_
  show Go p e below (T83.setTop (mkF m 36 #[.val (.ref b), .val (.int n), .val (.int (own_at xs n)), .val (.int (own_at xs (n - (1 : Int32)))), .val (.int (own_at xs (n - (2 : Int32)))), .val (.int (own_at xs (n - (3 : Int32)))), .unset, .unset, .unset, .unset, .unset, .unset] [(.int (n - (4 : Int32))), (.ref b)])) _
  obtain ⟨r84, _, ⟨T84, L84, k84, n84⟩, -, X84, ⟨Lc84, hQ84, l84, y84, z84⟩, st84⟩ := Jvm.LawKit.callS X83 hx (y := (⟨"com/example/relate_by_hash/relatebyhash/ctph/RollingHashUpdatePinLaw", "at", "([II)I"⟩ : MethodName)) hown (mvT hZ (tw hw 30 rfl)) (mvT hZ (tw hw 31 rfl)) (mvT hZ (tw hw 28 rfl)) (mvT hZ (tw hw 32 rfl)) (by decide) (backOf (W := 0) (rm5 l Z a0 hw [] b (n - (4 : Int32)) xs h0 n0 Z0 P0 (own_sub h0n hlt (by decide))) hZ (tw hw 32 rfl) (tw hw 28 rfl) (by decide) (by decide)) (g := (mkF m 36 #[.val (.ref b), .val (.int n), .val (.int (own_at xs n)), .val (.int (own_at xs (n - (1 : Int32)))), .val (.int (own_at xs (n - (2 : Int32)))), .val (.int (own_at xs (n - (3 : Int32)))), .unset, .unset, .unset, .unset, .unset, .unset] [(.int (n - (4 : Int32))), (.ref b)])) rfl (by rw [hml]; rfl) (argsL := [(.ref b), (.int (n - (4 : Int32)))]) (rest := []) (lenOf pd__28_5bII_29I rfl) rfl (by show 2 * 0 + _ ≤ _; exact Nat.le_of_eq rfl) (hb hby d4_36) (fun _ _ => ⟨rfl, e83, (by decide : 0 + 0 ≤ _), (by decide : 0 + 0 ≤ _)⟩)
  dsimp only [Pt.U, Pt.locs, Pt.cells, Pt.slots] at X84 l84 y84 z84 st84 hQ84
  rw [l84, y84, z84] at X84
  clear l84 y84 z84
  obtain ⟨hr84, N84q, eh84⟩ := hQ84
  rw [hr84] at st84
  clear hr84
  have N84 := Fr.app N83 N84q
  refine Go.via (st84) ?_
  clear st84
  have e84 : T84.heap = h0 := eh84
  clear X83 e83
  show Go p e below (T84.setTop (mkF m 39 #[.val (.ref b), .val (.int n), .val (.int (own_at xs n)), .val (.int (own_at xs (n - (1 : Int32)))), .val (.int (own_at xs (n - (2 : Int32)))), .val (.int (own_at xs (n - (3 : Int32)))), .unset, .unset, .unset, .unset, .unset, .unset] [(.int (own_at xs (n - (4 : Int32))))])) _
  refine Go.via (fun _ => XS.istore X84.here hx rfl (hb hby d4_39) rfl (l' := #[.val (.ref b), .val (.int n), .val (.int (own_at xs n)), .val (.int (own_at xs (n - (1 : Int32)))), .val (.int (own_at xs (n - (2 : Int32)))), .val (.int (own_at xs (n - (3 : Int32)))), .val (.int (own_at xs (n - (4 : Int32)))), .unset, .unset, .unset, .unset, .unset]) rfl) ?_
  show Go p e below (T84.setTop (mkF m 41 #[.val (.ref b), .val (.int n), .val (.int (own_at xs n)), .val (.int (own_at xs (n - (1 : Int32)))), .val (.int (own_at xs (n - (2 : Int32)))), .val (.int (own_at xs (n - (3 : Int32)))), .val (.int (own_at xs (n - (4 : Int32)))), .unset, .unset, .unset, .unset, .unset] [])) _
  refine Go.via (fun _ => XS.aloadN X84.here hx rfl (hb hby d4_41) rfl rfl) ?_
  refine Go.via (fun _ => XS.iloadN X84.here hx rfl (hb hby d4_42) rfl) ?_
  refine Go.via (fun _ => XS.iconst X84.here hx rfl (hb hby d4_43)) ?_
  refine Go.via (fun _ => XS.isub X84.here hx rfl (hb hby d4_44) rfl) ?_
  show Go p e below (T84.setTop (mkF m 45 #[.val (.ref b), .val (.int n), .val (.int (own_at xs n)), .val (.int (own_at xs (n - (1 : Int32)))), .val (.int (own_at xs (n - (2 : Int32)))), .val (.int (own_at xs (n - (3 : Int32)))), .val (.int (own_at xs (n - (4 : Int32)))), .unset, .unset, .unset, .unset, .unset] [(.int (n - (5 : Int32))), (.ref b)])) _
  obtain ⟨r85, _, ⟨T85, L85, k85, n85⟩, -, X85, ⟨Lc85, hQ85, l85, y85, z85⟩, st85⟩ := Jvm.LawKit.callS X84 hx (y := (⟨"com/example/relate_by_hash/relatebyhash/ctph/RollingHashUpdatePinLaw", "at", "([II)I"⟩ : MethodName)) hown (mvT hZ (tw hw 30 rfl)) (mvT hZ (tw hw 31 rfl)) (mvT hZ (tw hw 28 rfl)) (mvT hZ (tw hw 32 rfl)) (by decide) (backOf (W := 0) (rm5 l Z a0 hw [] b (n - (5 : Int32)) xs h0 n0 Z0 P0 (own_sub h0n hlt (by decide))) hZ (tw hw 32 rfl) (tw hw 28 rfl) (by decide) (by decide)) (g := (mkF m 45 #[.val (.ref b), .val (.int n), .val (.int (own_at xs n)), .val (.int (own_at xs (n - (1 : Int32)))), .val (.int (own_at xs (n - (2 : Int32)))), .val (.int (own_at xs (n - (3 : Int32)))), .val (.int (own_at xs (n - (4 : Int32)))), .unset, .unset, .unset, .unset, .unset] [(.int (n - (5 : Int32))), (.ref b)])) rfl (by rw [hml]; rfl) (argsL := [(.ref b), (.int (n - (5 : Int32)))]) (rest := []) (lenOf pd__28_5bII_29I rfl) rfl (by show 2 * 0 + _ ≤ _; exact Nat.le_of_eq rfl) (hb hby d4_45) (fun _ _ => ⟨rfl, e84, (by decide : 0 + 0 ≤ _), (by decide : 0 + 0 ≤ _)⟩)
  dsimp only [Pt.U, Pt.locs, Pt.cells, Pt.slots] at X85 l85 y85 z85 st85 hQ85
  rw [l85, y85, z85] at X85
  clear l85 y85 z85
  obtain ⟨hr85, N85q, eh85⟩ := hQ85
  rw [hr85] at st85
  clear hr85
  have N85 := Fr.app N84 N85q
  refine Go.via (st85) ?_
  clear st85
  have e85 : T85.heap = h0 := eh85
  clear X84 e84
  show Go p e below (T85.setTop (mkF m 48 #[.val (.ref b), .val (.int n), .val (.int (own_at xs n)), .val (.int (own_at xs (n - (1 : Int32)))), .val (.int (own_at xs (n - (2 : Int32)))), .val (.int (own_at xs (n - (3 : Int32)))), .val (.int (own_at xs (n - (4 : Int32)))), .unset, .unset, .unset, .unset, .unset] [(.int (own_at xs (n - (5 : Int32))))])) _
  refine Go.via (fun _ => XS.istore X85.here hx rfl (hb hby d4_48) rfl (l' := #[.val (.ref b), .val (.int n), .val (.int (own_at xs n)), .val (.int (own_at xs (n - (1 : Int32)))), .val (.int (own_at xs (n - (2 : Int32)))), .val (.int (own_at xs (n - (3 : Int32)))), .val (.int (own_at xs (n - (4 : Int32)))), .val (.int (own_at xs (n - (5 : Int32)))), .unset, .unset, .unset, .unset]) rfl) ?_
  show Go p e below (T85.setTop (mkF m 50 #[.val (.ref b), .val (.int n), .val (.int (own_at xs n)), .val (.int (own_at xs (n - (1 : Int32)))), .val (.int (own_at xs (n - (2 : Int32)))), .val (.int (own_at xs (n - (3 : Int32)))), .val (.int (own_at xs (n - (4 : Int32)))), .val (.int (own_at xs (n - (5 : Int32)))), .unset, .unset, .unset, .unset] [])) _
  refine Go.via (fun _ => XS.aloadN X85.here hx rfl (hb hby d4_50) rfl rfl) ?_
  refine Go.via (fun _ => XS.iloadN X85.here hx rfl (hb hby d4_51) rfl) ?_
  refine Go.via (fun _ => XS.bipush X85.here hx rfl (hb hby d4_52)) ?_
  refine Go.via (fun _ => XS.isub X85.here hx rfl (hb hby d4_54) rfl) ?_
  show Go p e below (T85.setTop (mkF m 55 #[.val (.ref b), .val (.int n), .val (.int (own_at xs n)), .val (.int (own_at xs (n - (1 : Int32)))), .val (.int (own_at xs (n - (2 : Int32)))), .val (.int (own_at xs (n - (3 : Int32)))), .val (.int (own_at xs (n - (4 : Int32)))), .val (.int (own_at xs (n - (5 : Int32)))), .unset, .unset, .unset, .unset] [(.int (n - (6 : Int32))), (.ref b)])) _
  obtain ⟨r86, _, ⟨T86, L86, k86, n86⟩, -, X86, ⟨Lc86, hQ86, l86, y86, z86⟩, st86⟩ := Jvm.LawKit.callS X85 hx (y := (⟨"com/example/relate_by_hash/relatebyhash/ctph/RollingHashUpdatePinLaw", "at", "([II)I"⟩ : MethodName)) hown (mvT hZ (tw hw 30 rfl)) (mvT hZ (tw hw 31 rfl)) (mvT hZ (tw hw 28 rfl)) (mvT hZ (tw hw 32 rfl)) (by decide) (backOf (W := 0) (rm5 l Z a0 hw [] b (n - (6 : Int32)) xs h0 n0 Z0 P0 (own_sub h0n hlt (by decide))) hZ (tw hw 32 rfl) (tw hw 28 rfl) (by decide) (by decide)) (g := (mkF m 55 #[.val (.ref b), .val (.int n), .val (.int (own_at xs n)), .val (.int (own_at xs (n - (1 : Int32)))), .val (.int (own_at xs (n - (2 : Int32)))), .val (.int (own_at xs (n - (3 : Int32)))), .val (.int (own_at xs (n - (4 : Int32)))), .val (.int (own_at xs (n - (5 : Int32)))), .unset, .unset, .unset, .unset] [(.int (n - (6 : Int32))), (.ref b)])) rfl (by rw [hml]; rfl) (argsL := [(.ref b), (.int (n - (6 : Int32)))]) (rest := []) (lenOf pd__28_5bII_29I rfl) rfl (by show 2 * 0 + _ ≤ _; exact Nat.le_of_eq rfl) (hb hby d4_55) (fun _ _ => ⟨rfl, e85, (by decide : 0 + 0 ≤ _), (by decide : 0 + 0 ≤ _)⟩)
  dsimp only [Pt.U, Pt.locs, Pt.cells, Pt.slots] at X86 l86 y86 z86 st86 hQ86
  rw [l86, y86, z86] at X86
  clear l86 y86 z86
  obtain ⟨hr86, N86q, eh86⟩ := hQ86
  rw [hr86] at st86
  clear hr86
  have N86 := Fr.app N85 N86q
  refine Go.via (st86) ?_
  clear st86
  have e86 : T86.heap = h0 := eh86
  clear X85 e85
  show Go p e below (T86.setTop (mkF m 58 #[.val (.ref b), .val (.int n), .val (.int (own_at xs n)), .val (.int (own_at xs (n - (1 : Int32)))), .val (.int (own_at xs (n - (2 : Int32)))), .val (.int (own_at xs (n - (3 : Int32)))), .val (.int (own_at xs (n - (4 : Int32)))), .val (.int (own_at xs (n - (5 : Int32)))), .unset, .unset, .unset, .unset] [(.int (own_at xs (n - (6 : Int32))))])) _
  refine Go.via (fun _ => XS.istore X86.here hx rfl (hb hby d4_58) rfl (l' := #[.val (.ref b), .val (.int n), .val (.int (own_at xs n)), .val (.int (own_at xs (n - (1 : Int32)))), .val (.int (own_at xs (n - (2 : Int32)))), .val (.int (own_at xs (n - (3 : Int32)))), .val (.int (own_at xs (n - (4 : Int32)))), .val (.int (own_at xs (n - (5 : Int32)))), .val (.int (own_at xs (n - (6 : Int32)))), .unset, .unset, .unset]) rfl) ?_
  show Go p e below (T86.setTop (mkF m 60 #[.val (.ref b), .val (.int n), .val (.int (own_at xs n)), .val (.int (own_at xs (n - (1 : Int32)))), .val (.int (own_at xs (n - (2 : Int32)))), .val (.int (own_at xs (n - (3 : Int32)))), .val (.int (own_at xs (n - (4 : Int32)))), .val (.int (own_at xs (n - (5 : Int32)))), .val (.int (own_at xs (n - (6 : Int32)))), .unset, .unset, .unset] [])) _
  refine Go.via (fun _ => XS.iloadN X86.here hx rfl (hb hby d4_60) rfl) ?_
  refine Go.via (fun _ => XS.iloadN X86.here hx rfl (hb hby d4_61) rfl) ?_
  refine Go.via (fun _ => XS.iadd X86.here hx rfl (hb hby d4_62) rfl) ?_
  show Go p e below (T86.setTop (mkF m 63 #[.val (.ref b), .val (.int n), .val (.int (own_at xs n)), .val (.int (own_at xs (n - (1 : Int32)))), .val (.int (own_at xs (n - (2 : Int32)))), .val (.int (own_at xs (n - (3 : Int32)))), .val (.int (own_at xs (n - (4 : Int32)))), .val (.int (own_at xs (n - (5 : Int32)))), .val (.int (own_at xs (n - (6 : Int32)))), .unset, .unset, .unset] [(.int ((own_at xs n) + (own_at xs (n - (1 : Int32)))))])) _
  refine Go.via (fun _ => XS.iload X86.here hx rfl (hb hby d4_63) rfl) ?_
  refine Go.via (fun _ => XS.iadd X86.here hx rfl (hb hby d4_65) rfl) ?_
  show Go p e below (T86.setTop (mkF m 66 #[.val (.ref b), .val (.int n), .val (.int (own_at xs n)), .val (.int (own_at xs (n - (1 : Int32)))), .val (.int (own_at xs (n - (2 : Int32)))), .val (.int (own_at xs (n - (3 : Int32)))), .val (.int (own_at xs (n - (4 : Int32)))), .val (.int (own_at xs (n - (5 : Int32)))), .val (.int (own_at xs (n - (6 : Int32)))), .unset, .unset, .unset] [(.int (((own_at xs n) + (own_at xs (n - (1 : Int32)))) + (own_at xs (n - (2 : Int32)))))])) _
  refine Go.via (fun _ => XS.iload X86.here hx rfl (hb hby d4_66) rfl) ?_
  refine Go.via (fun _ => XS.iadd X86.here hx rfl (hb hby d4_68) rfl) ?_
  show Go p e below (T86.setTop (mkF m 69 #[.val (.ref b), .val (.int n), .val (.int (own_at xs n)), .val (.int (own_at xs (n - (1 : Int32)))), .val (.int (own_at xs (n - (2 : Int32)))), .val (.int (own_at xs (n - (3 : Int32)))), .val (.int (own_at xs (n - (4 : Int32)))), .val (.int (own_at xs (n - (5 : Int32)))), .val (.int (own_at xs (n - (6 : Int32)))), .unset, .unset, .unset] [(.int ((((own_at xs n) + (own_at xs (n - (1 : Int32)))) + (own_at xs (n - (2 : Int32)))) + (own_at xs (n - (3 : Int32)))))])) _
  refine Go.via (fun _ => XS.iload X86.here hx rfl (hb hby d4_69) rfl) ?_
  refine Go.via (fun _ => XS.iadd X86.here hx rfl (hb hby d4_71) rfl) ?_
  show Go p e below (T86.setTop (mkF m 72 #[.val (.ref b), .val (.int n), .val (.int (own_at xs n)), .val (.int (own_at xs (n - (1 : Int32)))), .val (.int (own_at xs (n - (2 : Int32)))), .val (.int (own_at xs (n - (3 : Int32)))), .val (.int (own_at xs (n - (4 : Int32)))), .val (.int (own_at xs (n - (5 : Int32)))), .val (.int (own_at xs (n - (6 : Int32)))), .unset, .unset, .unset] [(.int (((((own_at xs n) + (own_at xs (n - (1 : Int32)))) + (own_at xs (n - (2 : Int32)))) + (own_at xs (n - (3 : Int32)))) + (own_at xs (n - (4 : Int32)))))])) _
  refine Go.via (fun _ => XS.iload X86.here hx rfl (hb hby d4_72) rfl) ?_
  refine Go.via (fun _ => XS.iadd X86.here hx rfl (hb hby d4_74) rfl) ?_
  show Go p e below (T86.setTop (mkF m 75 #[.val (.ref b), .val (.int n), .val (.int (own_at xs n)), .val (.int (own_at xs (n - (1 : Int32)))), .val (.int (own_at xs (n - (2 : Int32)))), .val (.int (own_at xs (n - (3 : Int32)))), .val (.int (own_at xs (n - (4 : Int32)))), .val (.int (own_at xs (n - (5 : Int32)))), .val (.int (own_at xs (n - (6 : Int32)))), .unset, .unset, .unset] [(.int ((((((own_at xs n) + (own_at xs (n - (1 : Int32)))) + (own_at xs (n - (2 : Int32)))) + (own_at xs (n - (3 : Int32)))) + (own_at xs (n - (4 : Int32)))) + (own_at xs (n - (5 : Int32)))))])) _
  refine Go.via (fun _ => XS.iload X86.here hx rfl (hb hby d4_75) rfl) ?_
  refine Go.via (fun _ => XS.iadd X86.here hx rfl (hb hby d4_77) rfl) ?_
  show Go p e below (T86.setTop (mkF m 78 #[.val (.ref b), .val (.int n), .val (.int (own_at xs n)), .val (.int (own_at xs (n - (1 : Int32)))), .val (.int (own_at xs (n - (2 : Int32)))), .val (.int (own_at xs (n - (3 : Int32)))), .val (.int (own_at xs (n - (4 : Int32)))), .val (.int (own_at xs (n - (5 : Int32)))), .val (.int (own_at xs (n - (6 : Int32)))), .unset, .unset, .unset] [(.int (((((((own_at xs n) + (own_at xs (n - (1 : Int32)))) + (own_at xs (n - (2 : Int32)))) + (own_at xs (n - (3 : Int32)))) + (own_at xs (n - (4 : Int32)))) + (own_at xs (n - (5 : Int32)))) + (own_at xs (n - (6 : Int32)))))])) _
  refine Go.via (fun _ => XS.istore X86.here hx rfl (hb hby d4_78) rfl (l' := #[.val (.ref b), .val (.int n), .val (.int (own_at xs n)), .val (.int (own_at xs (n - (1 : Int32)))), .val (.int (own_at xs (n - (2 : Int32)))), .val (.int (own_at xs (n - (3 : Int32)))), .val (.int (own_at xs (n - (4 : Int32)))), .val (.int (own_at xs (n - (5 : Int32)))), .val (.int (own_at xs (n - (6 : Int32)))), .val (.int (((((((own_at xs n) + (own_at xs (n - (1 : Int32)))) + (own_at xs (n - (2 : Int32)))) + (own_at xs (n - (3 : Int32)))) + (own_at xs (n - (4 : Int32)))) + (own_at xs (n - (5 : Int32)))) + (own_at xs (n - (6 : Int32))))), .unset, .unset]) rfl) ?_
  show Go p e below (T86.setTop (mkF m 80 #[.val (.ref b), .val (.int n), .val (.int (own_at xs n)), .val (.int (own_at xs (n - (1 : Int32)))), .val (.int (own_at xs (n - (2 : Int32)))), .val (.int (own_at xs (n - (3 : Int32)))), .val (.int (own_at xs (n - (4 : Int32)))), .val (.int (own_at xs (n - (5 : Int32)))), .val (.int (own_at xs (n - (6 : Int32)))), .val (.int (((((((own_at xs n) + (own_at xs (n - (1 : Int32)))) + (own_at xs (n - (2 : Int32)))) + (own_at xs (n - (3 : Int32)))) + (own_at xs (n - (4 : Int32)))) + (own_at xs (n - (5 : Int32)))) + (own_at xs (n - (6 : Int32))))), .unset, .unset] [])) _
  refine Go.via (fun _ => XS.bipush X86.here hx rfl (hb hby d4_80)) ?_
  refine Go.via (fun _ => XS.iloadN X86.here hx rfl (hb hby d4_82) rfl) ?_
  refine Go.via (fun _ => XS.imul X86.here hx rfl (hb hby d4_83) rfl) ?_
  show Go p e below (T86.setTop (mkF m 84 #[.val (.ref b), .val (.int n), .val (.int (own_at xs n)), .val (.int (own_at xs (n - (1 : Int32)))), .val (.int (own_at xs (n - (2 : Int32)))), .val (.int (own_at xs (n - (3 : Int32)))), .val (.int (own_at xs (n - (4 : Int32)))), .val (.int (own_at xs (n - (5 : Int32)))), .val (.int (own_at xs (n - (6 : Int32)))), .val (.int (((((((own_at xs n) + (own_at xs (n - (1 : Int32)))) + (own_at xs (n - (2 : Int32)))) + (own_at xs (n - (3 : Int32)))) + (own_at xs (n - (4 : Int32)))) + (own_at xs (n - (5 : Int32)))) + (own_at xs (n - (6 : Int32))))), .unset, .unset] [(.int ((7 : Int32) * (own_at xs n)))])) _
  refine Go.via (fun _ => XS.bipush X86.here hx rfl (hb hby d4_84)) ?_
  refine Go.via (fun _ => XS.iloadN X86.here hx rfl (hb hby d4_86) rfl) ?_
  refine Go.via (fun _ => XS.imul X86.here hx rfl (hb hby d4_87) rfl) ?_
  show Go p e below (T86.setTop (mkF m 88 #[.val (.ref b), .val (.int n), .val (.int (own_at xs n)), .val (.int (own_at xs (n - (1 : Int32)))), .val (.int (own_at xs (n - (2 : Int32)))), .val (.int (own_at xs (n - (3 : Int32)))), .val (.int (own_at xs (n - (4 : Int32)))), .val (.int (own_at xs (n - (5 : Int32)))), .val (.int (own_at xs (n - (6 : Int32)))), .val (.int (((((((own_at xs n) + (own_at xs (n - (1 : Int32)))) + (own_at xs (n - (2 : Int32)))) + (own_at xs (n - (3 : Int32)))) + (own_at xs (n - (4 : Int32)))) + (own_at xs (n - (5 : Int32)))) + (own_at xs (n - (6 : Int32))))), .unset, .unset] [(.int ((6 : Int32) * (own_at xs (n - (1 : Int32))))), (.int ((7 : Int32) * (own_at xs n)))])) _
  refine Go.via (fun _ => XS.iadd X86.here hx rfl (hb hby d4_88) rfl) ?_
  show Go p e below (T86.setTop (mkF m 89 #[.val (.ref b), .val (.int n), .val (.int (own_at xs n)), .val (.int (own_at xs (n - (1 : Int32)))), .val (.int (own_at xs (n - (2 : Int32)))), .val (.int (own_at xs (n - (3 : Int32)))), .val (.int (own_at xs (n - (4 : Int32)))), .val (.int (own_at xs (n - (5 : Int32)))), .val (.int (own_at xs (n - (6 : Int32)))), .val (.int (((((((own_at xs n) + (own_at xs (n - (1 : Int32)))) + (own_at xs (n - (2 : Int32)))) + (own_at xs (n - (3 : Int32)))) + (own_at xs (n - (4 : Int32)))) + (own_at xs (n - (5 : Int32)))) + (own_at xs (n - (6 : Int32))))), .unset, .unset] [(.int (((7 : Int32) * (own_at xs n)) + ((6 : Int32) * (own_at xs (n - (1 : Int32))))))])) _
  refine Go.via (fun _ => XS.iconst X86.here hx rfl (hb hby d4_89)) ?_
  refine Go.via (fun _ => XS.iload X86.here hx rfl (hb hby d4_90) rfl) ?_
  refine Go.via (fun _ => XS.imul X86.here hx rfl (hb hby d4_92) rfl) ?_
  show Go p e below (T86.setTop (mkF m 93 #[.val (.ref b), .val (.int n), .val (.int (own_at xs n)), .val (.int (own_at xs (n - (1 : Int32)))), .val (.int (own_at xs (n - (2 : Int32)))), .val (.int (own_at xs (n - (3 : Int32)))), .val (.int (own_at xs (n - (4 : Int32)))), .val (.int (own_at xs (n - (5 : Int32)))), .val (.int (own_at xs (n - (6 : Int32)))), .val (.int (((((((own_at xs n) + (own_at xs (n - (1 : Int32)))) + (own_at xs (n - (2 : Int32)))) + (own_at xs (n - (3 : Int32)))) + (own_at xs (n - (4 : Int32)))) + (own_at xs (n - (5 : Int32)))) + (own_at xs (n - (6 : Int32))))), .unset, .unset] [(.int ((5 : Int32) * (own_at xs (n - (2 : Int32))))), (.int (((7 : Int32) * (own_at xs n)) + ((6 : Int32) * (own_at xs (n - (1 : Int32))))))])) _
  refine Go.via (fun _ => XS.iadd X86.here hx rfl (hb hby d4_93) rfl) ?_
  show Go p e below (T86.setTop (mkF m 94 #[.val (.ref b), .val (.int n), .val (.int (own_at xs n)), .val (.int (own_at xs (n - (1 : Int32)))), .val (.int (own_at xs (n - (2 : Int32)))), .val (.int (own_at xs (n - (3 : Int32)))), .val (.int (own_at xs (n - (4 : Int32)))), .val (.int (own_at xs (n - (5 : Int32)))), .val (.int (own_at xs (n - (6 : Int32)))), .val (.int (((((((own_at xs n) + (own_at xs (n - (1 : Int32)))) + (own_at xs (n - (2 : Int32)))) + (own_at xs (n - (3 : Int32)))) + (own_at xs (n - (4 : Int32)))) + (own_at xs (n - (5 : Int32)))) + (own_at xs (n - (6 : Int32))))), .unset, .unset] [(.int ((((7 : Int32) * (own_at xs n)) + ((6 : Int32) * (own_at xs (n - (1 : Int32))))) + ((5 : Int32) * (own_at xs (n - (2 : Int32))))))])) _
  refine Go.via (fun _ => XS.iconst X86.here hx rfl (hb hby d4_94)) ?_
  refine Go.via (fun _ => XS.iload X86.here hx rfl (hb hby d4_95) rfl) ?_
  refine Go.via (fun _ => XS.imul X86.here hx rfl (hb hby d4_97) rfl) ?_
  show Go p e below (T86.setTop (mkF m 98 #[.val (.ref b), .val (.int n), .val (.int (own_at xs n)), .val (.int (own_at xs (n - (1 : Int32)))), .val (.int (own_at xs (n - (2 : Int32)))), .val (.int (own_at xs (n - (3 : Int32)))), .val (.int (own_at xs (n - (4 : Int32)))), .val (.int (own_at xs (n - (5 : Int32)))), .val (.int (own_at xs (n - (6 : Int32)))), .val (.int (((((((own_at xs n) + (own_at xs (n - (1 : Int32)))) + (own_at xs (n - (2 : Int32)))) + (own_at xs (n - (3 : Int32)))) + (own_at xs (n - (4 : Int32)))) + (own_at xs (n - (5 : Int32)))) + (own_at xs (n - (6 : Int32))))), .unset, .unset] [(.int ((4 : Int32) * (own_at xs (n - (3 : Int32))))), (.int ((((7 : Int32) * (own_at xs n)) + ((6 : Int32) * (own_at xs (n - (1 : Int32))))) + ((5 : Int32) * (own_at xs (n - (2 : Int32))))))])) _
  refine Go.via (fun _ => XS.iadd X86.here hx rfl (hb hby d4_98) rfl) ?_
  show Go p e below (T86.setTop (mkF m 99 #[.val (.ref b), .val (.int n), .val (.int (own_at xs n)), .val (.int (own_at xs (n - (1 : Int32)))), .val (.int (own_at xs (n - (2 : Int32)))), .val (.int (own_at xs (n - (3 : Int32)))), .val (.int (own_at xs (n - (4 : Int32)))), .val (.int (own_at xs (n - (5 : Int32)))), .val (.int (own_at xs (n - (6 : Int32)))), .val (.int (((((((own_at xs n) + (own_at xs (n - (1 : Int32)))) + (own_at xs (n - (2 : Int32)))) + (own_at xs (n - (3 : Int32)))) + (own_at xs (n - (4 : Int32)))) + (own_at xs (n - (5 : Int32)))) + (own_at xs (n - (6 : Int32))))), .unset, .unset] [(.int (((((7 : Int32) * (own_at xs n)) + ((6 : Int32) * (own_at xs (n - (1 : Int32))))) + ((5 : Int32) * (own_at xs (n - (2 : Int32))))) + ((4 : Int32) * (own_at xs (n - (3 : Int32))))))])) _
  refine Go.via (fun _ => XS.iconst X86.here hx rfl (hb hby d4_99)) ?_
  refine Go.via (fun _ => XS.iload X86.here hx rfl (hb hby d4_100) rfl) ?_
  refine Go.via (fun _ => XS.imul X86.here hx rfl (hb hby d4_102) rfl) ?_
  show Go p e below (T86.setTop (mkF m 103 #[.val (.ref b), .val (.int n), .val (.int (own_at xs n)), .val (.int (own_at xs (n - (1 : Int32)))), .val (.int (own_at xs (n - (2 : Int32)))), .val (.int (own_at xs (n - (3 : Int32)))), .val (.int (own_at xs (n - (4 : Int32)))), .val (.int (own_at xs (n - (5 : Int32)))), .val (.int (own_at xs (n - (6 : Int32)))), .val (.int (((((((own_at xs n) + (own_at xs (n - (1 : Int32)))) + (own_at xs (n - (2 : Int32)))) + (own_at xs (n - (3 : Int32)))) + (own_at xs (n - (4 : Int32)))) + (own_at xs (n - (5 : Int32)))) + (own_at xs (n - (6 : Int32))))), .unset, .unset] [(.int ((3 : Int32) * (own_at xs (n - (4 : Int32))))), (.int (((((7 : Int32) * (own_at xs n)) + ((6 : Int32) * (own_at xs (n - (1 : Int32))))) + ((5 : Int32) * (own_at xs (n - (2 : Int32))))) + ((4 : Int32) * (own_at xs (n - (3 : Int32))))))])) _
  refine Go.via (fun _ => XS.iadd X86.here hx rfl (hb hby d4_103) rfl) ?_
  show Go p e below (T86.setTop (mkF m 104 #[.val (.ref b), .val (.int n), .val (.int (own_at xs n)), .val (.int (own_at xs (n - (1 : Int32)))), .val (.int (own_at xs (n - (2 : Int32)))), .val (.int (own_at xs (n - (3 : Int32)))), .val (.int (own_at xs (n - (4 : Int32)))), .val (.int (own_at xs (n - (5 : Int32)))), .val (.int (own_at xs (n - (6 : Int32)))), .val (.int (((((((own_at xs n) + (own_at xs (n - (1 : Int32)))) + (own_at xs (n - (2 : Int32)))) + (own_at xs (n - (3 : Int32)))) + (own_at xs (n - (4 : Int32)))) + (own_at xs (n - (5 : Int32)))) + (own_at xs (n - (6 : Int32))))), .unset, .unset] [(.int ((((((7 : Int32) * (own_at xs n)) + ((6 : Int32) * (own_at xs (n - (1 : Int32))))) + ((5 : Int32) * (own_at xs (n - (2 : Int32))))) + ((4 : Int32) * (own_at xs (n - (3 : Int32))))) + ((3 : Int32) * (own_at xs (n - (4 : Int32))))))])) _
  refine Go.via (fun _ => XS.iconst X86.here hx rfl (hb hby d4_104)) ?_
  refine Go.via (fun _ => XS.iload X86.here hx rfl (hb hby d4_105) rfl) ?_
  refine Go.via (fun _ => XS.imul X86.here hx rfl (hb hby d4_107) rfl) ?_
  show Go p e below (T86.setTop (mkF m 108 #[.val (.ref b), .val (.int n), .val (.int (own_at xs n)), .val (.int (own_at xs (n - (1 : Int32)))), .val (.int (own_at xs (n - (2 : Int32)))), .val (.int (own_at xs (n - (3 : Int32)))), .val (.int (own_at xs (n - (4 : Int32)))), .val (.int (own_at xs (n - (5 : Int32)))), .val (.int (own_at xs (n - (6 : Int32)))), .val (.int (((((((own_at xs n) + (own_at xs (n - (1 : Int32)))) + (own_at xs (n - (2 : Int32)))) + (own_at xs (n - (3 : Int32)))) + (own_at xs (n - (4 : Int32)))) + (own_at xs (n - (5 : Int32)))) + (own_at xs (n - (6 : Int32))))), .unset, .unset] [(.int ((2 : Int32) * (own_at xs (n - (5 : Int32))))), (.int ((((((7 : Int32) * (own_at xs n)) + ((6 : Int32) * (own_at xs (n - (1 : Int32))))) + ((5 : Int32) * (own_at xs (n - (2 : Int32))))) + ((4 : Int32) * (own_at xs (n - (3 : Int32))))) + ((3 : Int32) * (own_at xs (n - (4 : Int32))))))])) _
  refine Go.via (fun _ => XS.iadd X86.here hx rfl (hb hby d4_108) rfl) ?_
  show Go p e below (T86.setTop (mkF m 109 #[.val (.ref b), .val (.int n), .val (.int (own_at xs n)), .val (.int (own_at xs (n - (1 : Int32)))), .val (.int (own_at xs (n - (2 : Int32)))), .val (.int (own_at xs (n - (3 : Int32)))), .val (.int (own_at xs (n - (4 : Int32)))), .val (.int (own_at xs (n - (5 : Int32)))), .val (.int (own_at xs (n - (6 : Int32)))), .val (.int (((((((own_at xs n) + (own_at xs (n - (1 : Int32)))) + (own_at xs (n - (2 : Int32)))) + (own_at xs (n - (3 : Int32)))) + (own_at xs (n - (4 : Int32)))) + (own_at xs (n - (5 : Int32)))) + (own_at xs (n - (6 : Int32))))), .unset, .unset] [(.int (((((((7 : Int32) * (own_at xs n)) + ((6 : Int32) * (own_at xs (n - (1 : Int32))))) + ((5 : Int32) * (own_at xs (n - (2 : Int32))))) + ((4 : Int32) * (own_at xs (n - (3 : Int32))))) + ((3 : Int32) * (own_at xs (n - (4 : Int32))))) + ((2 : Int32) * (own_at xs (n - (5 : Int32))))))])) _
  refine Go.via (fun _ => XS.iload X86.here hx rfl (hb hby d4_109) rfl) ?_
  refine Go.via (fun _ => XS.iadd X86.here hx rfl (hb hby d4_111) rfl) ?_
  show Go p e below (T86.setTop (mkF m 112 #[.val (.ref b), .val (.int n), .val (.int (own_at xs n)), .val (.int (own_at xs (n - (1 : Int32)))), .val (.int (own_at xs (n - (2 : Int32)))), .val (.int (own_at xs (n - (3 : Int32)))), .val (.int (own_at xs (n - (4 : Int32)))), .val (.int (own_at xs (n - (5 : Int32)))), .val (.int (own_at xs (n - (6 : Int32)))), .val (.int (((((((own_at xs n) + (own_at xs (n - (1 : Int32)))) + (own_at xs (n - (2 : Int32)))) + (own_at xs (n - (3 : Int32)))) + (own_at xs (n - (4 : Int32)))) + (own_at xs (n - (5 : Int32)))) + (own_at xs (n - (6 : Int32))))), .unset, .unset] [(.int ((((((((7 : Int32) * (own_at xs n)) + ((6 : Int32) * (own_at xs (n - (1 : Int32))))) + ((5 : Int32) * (own_at xs (n - (2 : Int32))))) + ((4 : Int32) * (own_at xs (n - (3 : Int32))))) + ((3 : Int32) * (own_at xs (n - (4 : Int32))))) + ((2 : Int32) * (own_at xs (n - (5 : Int32))))) + (own_at xs (n - (6 : Int32)))))])) _
  refine Go.via (fun _ => XS.istore X86.here hx rfl (hb hby d4_112) rfl (l' := #[.val (.ref b), .val (.int n), .val (.int (own_at xs n)), .val (.int (own_at xs (n - (1 : Int32)))), .val (.int (own_at xs (n - (2 : Int32)))), .val (.int (own_at xs (n - (3 : Int32)))), .val (.int (own_at xs (n - (4 : Int32)))), .val (.int (own_at xs (n - (5 : Int32)))), .val (.int (own_at xs (n - (6 : Int32)))), .val (.int (((((((own_at xs n) + (own_at xs (n - (1 : Int32)))) + (own_at xs (n - (2 : Int32)))) + (own_at xs (n - (3 : Int32)))) + (own_at xs (n - (4 : Int32)))) + (own_at xs (n - (5 : Int32)))) + (own_at xs (n - (6 : Int32))))), .val (.int ((((((((7 : Int32) * (own_at xs n)) + ((6 : Int32) * (own_at xs (n - (1 : Int32))))) + ((5 : Int32) * (own_at xs (n - (2 : Int32))))) + ((4 : Int32) * (own_at xs (n - (3 : Int32))))) + ((3 : Int32) * (own_at xs (n - (4 : Int32))))) + ((2 : Int32) * (own_at xs (n - (5 : Int32))))) + (own_at xs (n - (6 : Int32))))), .unset]) rfl) ?_
  show Go p e below (T86.setTop (mkF m 114 #[.val (.ref b), .val (.int n), .val (.int (own_at xs n)), .val (.int (own_at xs (n - (1 : Int32)))), .val (.int (own_at xs (n - (2 : Int32)))), .val (.int (own_at xs (n - (3 : Int32)))), .val (.int (own_at xs (n - (4 : Int32)))), .val (.int (own_at xs (n - (5 : Int32)))), .val (.int (own_at xs (n - (6 : Int32)))), .val (.int (((((((own_at xs n) + (own_at xs (n - (1 : Int32)))) + (own_at xs (n - (2 : Int32)))) + (own_at xs (n - (3 : Int32)))) + (own_at xs (n - (4 : Int32)))) + (own_at xs (n - (5 : Int32)))) + (own_at xs (n - (6 : Int32))))), .val (.int ((((((((7 : Int32) * (own_at xs n)) + ((6 : Int32) * (own_at xs (n - (1 : Int32))))) + ((5 : Int32) * (own_at xs (n - (2 : Int32))))) + ((4 : Int32) * (own_at xs (n - (3 : Int32))))) + ((3 : Int32) * (own_at xs (n - (4 : Int32))))) + ((2 : Int32) * (own_at xs (n - (5 : Int32))))) + (own_at xs (n - (6 : Int32))))), .unset] [])) _
  refine Go.via (fun _ => XS.iloadN X86.here hx rfl (hb hby d4_114) rfl) ?_
  refine Go.via (fun _ => XS.iloadN X86.here hx rfl (hb hby d4_115) rfl) ?_
  refine Go.via (fun _ => XS.iconst X86.here hx rfl (hb hby d4_116)) ?_
  refine Go.via (fun _ => XS.ishl X86.here hx rfl (hb hby d4_117) rfl) ?_
  show Go p e below (T86.setTop (mkF m 118 #[.val (.ref b), .val (.int n), .val (.int (own_at xs n)), .val (.int (own_at xs (n - (1 : Int32)))), .val (.int (own_at xs (n - (2 : Int32)))), .val (.int (own_at xs (n - (3 : Int32)))), .val (.int (own_at xs (n - (4 : Int32)))), .val (.int (own_at xs (n - (5 : Int32)))), .val (.int (own_at xs (n - (6 : Int32)))), .val (.int (((((((own_at xs n) + (own_at xs (n - (1 : Int32)))) + (own_at xs (n - (2 : Int32)))) + (own_at xs (n - (3 : Int32)))) + (own_at xs (n - (4 : Int32)))) + (own_at xs (n - (5 : Int32)))) + (own_at xs (n - (6 : Int32))))), .val (.int ((((((((7 : Int32) * (own_at xs n)) + ((6 : Int32) * (own_at xs (n - (1 : Int32))))) + ((5 : Int32) * (own_at xs (n - (2 : Int32))))) + ((4 : Int32) * (own_at xs (n - (3 : Int32))))) + ((3 : Int32) * (own_at xs (n - (4 : Int32))))) + ((2 : Int32) * (own_at xs (n - (5 : Int32))))) + (own_at xs (n - (6 : Int32))))), .unset] [(.int ((own_at xs (n - (1 : Int32))) <<< ((5 : Int32) &&& 31))), (.int (own_at xs n))])) _
  refine Go.via (fun _ => XS.ixor X86.here hx rfl (hb hby d4_118) rfl) ?_
  show Go p e below (T86.setTop (mkF m 119 #[.val (.ref b), .val (.int n), .val (.int (own_at xs n)), .val (.int (own_at xs (n - (1 : Int32)))), .val (.int (own_at xs (n - (2 : Int32)))), .val (.int (own_at xs (n - (3 : Int32)))), .val (.int (own_at xs (n - (4 : Int32)))), .val (.int (own_at xs (n - (5 : Int32)))), .val (.int (own_at xs (n - (6 : Int32)))), .val (.int (((((((own_at xs n) + (own_at xs (n - (1 : Int32)))) + (own_at xs (n - (2 : Int32)))) + (own_at xs (n - (3 : Int32)))) + (own_at xs (n - (4 : Int32)))) + (own_at xs (n - (5 : Int32)))) + (own_at xs (n - (6 : Int32))))), .val (.int ((((((((7 : Int32) * (own_at xs n)) + ((6 : Int32) * (own_at xs (n - (1 : Int32))))) + ((5 : Int32) * (own_at xs (n - (2 : Int32))))) + ((4 : Int32) * (own_at xs (n - (3 : Int32))))) + ((3 : Int32) * (own_at xs (n - (4 : Int32))))) + ((2 : Int32) * (own_at xs (n - (5 : Int32))))) + (own_at xs (n - (6 : Int32))))), .unset] [(.int ((own_at xs n) ^^^ ((own_at xs (n - (1 : Int32))) <<< ((5 : Int32) &&& 31))))])) _
  refine Go.via (fun _ => XS.iload X86.here hx rfl (hb hby d4_119) rfl) ?_
  refine Go.via (fun _ => XS.bipush X86.here hx rfl (hb hby d4_121)) ?_
  refine Go.via (fun _ => XS.ishl X86.here hx rfl (hb hby d4_123) rfl) ?_
  show Go p e below (T86.setTop (mkF m 124 #[.val (.ref b), .val (.int n), .val (.int (own_at xs n)), .val (.int (own_at xs (n - (1 : Int32)))), .val (.int (own_at xs (n - (2 : Int32)))), .val (.int (own_at xs (n - (3 : Int32)))), .val (.int (own_at xs (n - (4 : Int32)))), .val (.int (own_at xs (n - (5 : Int32)))), .val (.int (own_at xs (n - (6 : Int32)))), .val (.int (((((((own_at xs n) + (own_at xs (n - (1 : Int32)))) + (own_at xs (n - (2 : Int32)))) + (own_at xs (n - (3 : Int32)))) + (own_at xs (n - (4 : Int32)))) + (own_at xs (n - (5 : Int32)))) + (own_at xs (n - (6 : Int32))))), .val (.int ((((((((7 : Int32) * (own_at xs n)) + ((6 : Int32) * (own_at xs (n - (1 : Int32))))) + ((5 : Int32) * (own_at xs (n - (2 : Int32))))) + ((4 : Int32) * (own_at xs (n - (3 : Int32))))) + ((3 : Int32) * (own_at xs (n - (4 : Int32))))) + ((2 : Int32) * (own_at xs (n - (5 : Int32))))) + (own_at xs (n - (6 : Int32))))), .unset] [(.int ((own_at xs (n - (2 : Int32))) <<< ((10 : Int32) &&& 31))), (.int ((own_at xs n) ^^^ ((own_at xs (n - (1 : Int32))) <<< ((5 : Int32) &&& 31))))])) _
  refine Go.via (fun _ => XS.ixor X86.here hx rfl (hb hby d4_124) rfl) ?_
  show Go p e below (T86.setTop (mkF m 125 #[.val (.ref b), .val (.int n), .val (.int (own_at xs n)), .val (.int (own_at xs (n - (1 : Int32)))), .val (.int (own_at xs (n - (2 : Int32)))), .val (.int (own_at xs (n - (3 : Int32)))), .val (.int (own_at xs (n - (4 : Int32)))), .val (.int (own_at xs (n - (5 : Int32)))), .val (.int (own_at xs (n - (6 : Int32)))), .val (.int (((((((own_at xs n) + (own_at xs (n - (1 : Int32)))) + (own_at xs (n - (2 : Int32)))) + (own_at xs (n - (3 : Int32)))) + (own_at xs (n - (4 : Int32)))) + (own_at xs (n - (5 : Int32)))) + (own_at xs (n - (6 : Int32))))), .val (.int ((((((((7 : Int32) * (own_at xs n)) + ((6 : Int32) * (own_at xs (n - (1 : Int32))))) + ((5 : Int32) * (own_at xs (n - (2 : Int32))))) + ((4 : Int32) * (own_at xs (n - (3 : Int32))))) + ((3 : Int32) * (own_at xs (n - (4 : Int32))))) + ((2 : Int32) * (own_at xs (n - (5 : Int32))))) + (own_at xs (n - (6 : Int32))))), .unset] [(.int (((own_at xs n) ^^^ ((own_at xs (n - (1 : Int32))) <<< ((5 : Int32) &&& 31))) ^^^ ((own_at xs (n - (2 : Int32))) <<< ((10 : Int32) &&& 31))))])) _
  refine Go.via (fun _ => XS.iload X86.here hx rfl (hb hby d4_125) rfl) ?_
  refine Go.via (fun _ => XS.bipush X86.here hx rfl (hb hby d4_127)) ?_
  refine Go.via (fun _ => XS.ishl X86.here hx rfl (hb hby d4_129) rfl) ?_
  show Go p e below (T86.setTop (mkF m 130 #[.val (.ref b), .val (.int n), .val (.int (own_at xs n)), .val (.int (own_at xs (n - (1 : Int32)))), .val (.int (own_at xs (n - (2 : Int32)))), .val (.int (own_at xs (n - (3 : Int32)))), .val (.int (own_at xs (n - (4 : Int32)))), .val (.int (own_at xs (n - (5 : Int32)))), .val (.int (own_at xs (n - (6 : Int32)))), .val (.int (((((((own_at xs n) + (own_at xs (n - (1 : Int32)))) + (own_at xs (n - (2 : Int32)))) + (own_at xs (n - (3 : Int32)))) + (own_at xs (n - (4 : Int32)))) + (own_at xs (n - (5 : Int32)))) + (own_at xs (n - (6 : Int32))))), .val (.int ((((((((7 : Int32) * (own_at xs n)) + ((6 : Int32) * (own_at xs (n - (1 : Int32))))) + ((5 : Int32) * (own_at xs (n - (2 : Int32))))) + ((4 : Int32) * (own_at xs (n - (3 : Int32))))) + ((3 : Int32) * (own_at xs (n - (4 : Int32))))) + ((2 : Int32) * (own_at xs (n - (5 : Int32))))) + (own_at xs (n - (6 : Int32))))), .unset] [(.int ((own_at xs (n - (3 : Int32))) <<< ((15 : Int32) &&& 31))), (.int (((own_at xs n) ^^^ ((own_at xs (n - (1 : Int32))) <<< ((5 : Int32) &&& 31))) ^^^ ((own_at xs (n - (2 : Int32))) <<< ((10 : Int32) &&& 31))))])) _
  refine Go.via (fun _ => XS.ixor X86.here hx rfl (hb hby d4_130) rfl) ?_
  show Go p e below (T86.setTop (mkF m 131 #[.val (.ref b), .val (.int n), .val (.int (own_at xs n)), .val (.int (own_at xs (n - (1 : Int32)))), .val (.int (own_at xs (n - (2 : Int32)))), .val (.int (own_at xs (n - (3 : Int32)))), .val (.int (own_at xs (n - (4 : Int32)))), .val (.int (own_at xs (n - (5 : Int32)))), .val (.int (own_at xs (n - (6 : Int32)))), .val (.int (((((((own_at xs n) + (own_at xs (n - (1 : Int32)))) + (own_at xs (n - (2 : Int32)))) + (own_at xs (n - (3 : Int32)))) + (own_at xs (n - (4 : Int32)))) + (own_at xs (n - (5 : Int32)))) + (own_at xs (n - (6 : Int32))))), .val (.int ((((((((7 : Int32) * (own_at xs n)) + ((6 : Int32) * (own_at xs (n - (1 : Int32))))) + ((5 : Int32) * (own_at xs (n - (2 : Int32))))) + ((4 : Int32) * (own_at xs (n - (3 : Int32))))) + ((3 : Int32) * (own_at xs (n - (4 : Int32))))) + ((2 : Int32) * (own_at xs (n - (5 : Int32))))) + (own_at xs (n - (6 : Int32))))), .unset] [(.int ((((own_at xs n) ^^^ ((own_at xs (n - (1 : Int32))) <<< ((5 : Int32) &&& 31))) ^^^ ((own_at xs (n - (2 : Int32))) <<< ((10 : Int32) &&& 31))) ^^^ ((own_at xs (n - (3 : Int32))) <<< ((15 : Int32) &&& 31))))])) _
  refine Go.via (fun _ => XS.iload X86.here hx rfl (hb hby d4_131) rfl) ?_
  refine Go.via (fun _ => XS.bipush X86.here hx rfl (hb hby d4_133)) ?_
  refine Go.via (fun _ => XS.ishl X86.here hx rfl (hb hby d4_135) rfl) ?_
  show Go p e below (T86.setTop (mkF m 136 #[.val (.ref b), .val (.int n), .val (.int (own_at xs n)), .val (.int (own_at xs (n - (1 : Int32)))), .val (.int (own_at xs (n - (2 : Int32)))), .val (.int (own_at xs (n - (3 : Int32)))), .val (.int (own_at xs (n - (4 : Int32)))), .val (.int (own_at xs (n - (5 : Int32)))), .val (.int (own_at xs (n - (6 : Int32)))), .val (.int (((((((own_at xs n) + (own_at xs (n - (1 : Int32)))) + (own_at xs (n - (2 : Int32)))) + (own_at xs (n - (3 : Int32)))) + (own_at xs (n - (4 : Int32)))) + (own_at xs (n - (5 : Int32)))) + (own_at xs (n - (6 : Int32))))), .val (.int ((((((((7 : Int32) * (own_at xs n)) + ((6 : Int32) * (own_at xs (n - (1 : Int32))))) + ((5 : Int32) * (own_at xs (n - (2 : Int32))))) + ((4 : Int32) * (own_at xs (n - (3 : Int32))))) + ((3 : Int32) * (own_at xs (n - (4 : Int32))))) + ((2 : Int32) * (own_at xs (n - (5 : Int32))))) + (own_at xs (n - (6 : Int32))))), .unset] [(.int ((own_at xs (n - (4 : Int32))) <<< ((20 : Int32) &&& 31))), (.int ((((own_at xs n) ^^^ ((own_at xs (n - (1 : Int32))) <<< ((5 : Int32) &&& 31))) ^^^ ((own_at xs (n - (2 : Int32))) <<< ((10 : Int32) &&& 31))) ^^^ ((own_at xs (n - (3 : Int32))) <<< ((15 : Int32) &&& 31))))])) _
  refine Go.via (fun _ => XS.ixor X86.here hx rfl (hb hby d4_136) rfl) ?_
  show Go p e below (T86.setTop (mkF m 137 #[.val (.ref b), .val (.int n), .val (.int (own_at xs n)), .val (.int (own_at xs (n - (1 : Int32)))), .val (.int (own_at xs (n - (2 : Int32)))), .val (.int (own_at xs (n - (3 : Int32)))), .val (.int (own_at xs (n - (4 : Int32)))), .val (.int (own_at xs (n - (5 : Int32)))), .val (.int (own_at xs (n - (6 : Int32)))), .val (.int (((((((own_at xs n) + (own_at xs (n - (1 : Int32)))) + (own_at xs (n - (2 : Int32)))) + (own_at xs (n - (3 : Int32)))) + (own_at xs (n - (4 : Int32)))) + (own_at xs (n - (5 : Int32)))) + (own_at xs (n - (6 : Int32))))), .val (.int ((((((((7 : Int32) * (own_at xs n)) + ((6 : Int32) * (own_at xs (n - (1 : Int32))))) + ((5 : Int32) * (own_at xs (n - (2 : Int32))))) + ((4 : Int32) * (own_at xs (n - (3 : Int32))))) + ((3 : Int32) * (own_at xs (n - (4 : Int32))))) + ((2 : Int32) * (own_at xs (n - (5 : Int32))))) + (own_at xs (n - (6 : Int32))))), .unset] [(.int (((((own_at xs n) ^^^ ((own_at xs (n - (1 : Int32))) <<< ((5 : Int32) &&& 31))) ^^^ ((own_at xs (n - (2 : Int32))) <<< ((10 : Int32) &&& 31))) ^^^ ((own_at xs (n - (3 : Int32))) <<< ((15 : Int32) &&& 31))) ^^^ ((own_at xs (n - (4 : Int32))) <<< ((20 : Int32) &&& 31))))])) _
  refine Go.via (fun _ => XS.iload X86.here hx rfl (hb hby d4_137) rfl) ?_
  refine Go.via (fun _ => XS.bipush X86.here hx rfl (hb hby d4_139)) ?_
  refine Go.via (fun _ => XS.ishl X86.here hx rfl (hb hby d4_141) rfl) ?_
  show Go p e below (T86.setTop (mkF m 142 #[.val (.ref b), .val (.int n), .val (.int (own_at xs n)), .val (.int (own_at xs (n - (1 : Int32)))), .val (.int (own_at xs (n - (2 : Int32)))), .val (.int (own_at xs (n - (3 : Int32)))), .val (.int (own_at xs (n - (4 : Int32)))), .val (.int (own_at xs (n - (5 : Int32)))), .val (.int (own_at xs (n - (6 : Int32)))), .val (.int (((((((own_at xs n) + (own_at xs (n - (1 : Int32)))) + (own_at xs (n - (2 : Int32)))) + (own_at xs (n - (3 : Int32)))) + (own_at xs (n - (4 : Int32)))) + (own_at xs (n - (5 : Int32)))) + (own_at xs (n - (6 : Int32))))), .val (.int ((((((((7 : Int32) * (own_at xs n)) + ((6 : Int32) * (own_at xs (n - (1 : Int32))))) + ((5 : Int32) * (own_at xs (n - (2 : Int32))))) + ((4 : Int32) * (own_at xs (n - (3 : Int32))))) + ((3 : Int32) * (own_at xs (n - (4 : Int32))))) + ((2 : Int32) * (own_at xs (n - (5 : Int32))))) + (own_at xs (n - (6 : Int32))))), .unset] [(.int ((own_at xs (n - (5 : Int32))) <<< ((25 : Int32) &&& 31))), (.int (((((own_at xs n) ^^^ ((own_at xs (n - (1 : Int32))) <<< ((5 : Int32) &&& 31))) ^^^ ((own_at xs (n - (2 : Int32))) <<< ((10 : Int32) &&& 31))) ^^^ ((own_at xs (n - (3 : Int32))) <<< ((15 : Int32) &&& 31))) ^^^ ((own_at xs (n - (4 : Int32))) <<< ((20 : Int32) &&& 31))))])) _
  refine Go.via (fun _ => XS.ixor X86.here hx rfl (hb hby d4_142) rfl) ?_
  show Go p e below (T86.setTop (mkF m 143 #[.val (.ref b), .val (.int n), .val (.int (own_at xs n)), .val (.int (own_at xs (n - (1 : Int32)))), .val (.int (own_at xs (n - (2 : Int32)))), .val (.int (own_at xs (n - (3 : Int32)))), .val (.int (own_at xs (n - (4 : Int32)))), .val (.int (own_at xs (n - (5 : Int32)))), .val (.int (own_at xs (n - (6 : Int32)))), .val (.int (((((((own_at xs n) + (own_at xs (n - (1 : Int32)))) + (own_at xs (n - (2 : Int32)))) + (own_at xs (n - (3 : Int32)))) + (own_at xs (n - (4 : Int32)))) + (own_at xs (n - (5 : Int32)))) + (own_at xs (n - (6 : Int32))))), .val (.int ((((((((7 : Int32) * (own_at xs n)) + ((6 : Int32) * (own_at xs (n - (1 : Int32))))) + ((5 : Int32) * (own_at xs (n - (2 : Int32))))) + ((4 : Int32) * (own_at xs (n - (3 : Int32))))) + ((3 : Int32) * (own_at xs (n - (4 : Int32))))) + ((2 : Int32) * (own_at xs (n - (5 : Int32))))) + (own_at xs (n - (6 : Int32))))), .unset] [(.int ((((((own_at xs n) ^^^ ((own_at xs (n - (1 : Int32))) <<< ((5 : Int32) &&& 31))) ^^^ ((own_at xs (n - (2 : Int32))) <<< ((10 : Int32) &&& 31))) ^^^ ((own_at xs (n - (3 : Int32))) <<< ((15 : Int32) &&& 31))) ^^^ ((own_at xs (n - (4 : Int32))) <<< ((20 : Int32) &&& 31))) ^^^ ((own_at xs (n - (5 : Int32))) <<< ((25 : Int32) &&& 31))))])) _
  refine Go.via (fun _ => XS.iload X86.here hx rfl (hb hby d4_143) rfl) ?_
  refine Go.via (fun _ => XS.bipush X86.here hx rfl (hb hby d4_145)) ?_
  refine Go.via (fun _ => XS.ishl X86.here hx rfl (hb hby d4_147) rfl) ?_
  show Go p e below (T86.setTop (mkF m 148 #[.val (.ref b), .val (.int n), .val (.int (own_at xs n)), .val (.int (own_at xs (n - (1 : Int32)))), .val (.int (own_at xs (n - (2 : Int32)))), .val (.int (own_at xs (n - (3 : Int32)))), .val (.int (own_at xs (n - (4 : Int32)))), .val (.int (own_at xs (n - (5 : Int32)))), .val (.int (own_at xs (n - (6 : Int32)))), .val (.int (((((((own_at xs n) + (own_at xs (n - (1 : Int32)))) + (own_at xs (n - (2 : Int32)))) + (own_at xs (n - (3 : Int32)))) + (own_at xs (n - (4 : Int32)))) + (own_at xs (n - (5 : Int32)))) + (own_at xs (n - (6 : Int32))))), .val (.int ((((((((7 : Int32) * (own_at xs n)) + ((6 : Int32) * (own_at xs (n - (1 : Int32))))) + ((5 : Int32) * (own_at xs (n - (2 : Int32))))) + ((4 : Int32) * (own_at xs (n - (3 : Int32))))) + ((3 : Int32) * (own_at xs (n - (4 : Int32))))) + ((2 : Int32) * (own_at xs (n - (5 : Int32))))) + (own_at xs (n - (6 : Int32))))), .unset] [(.int ((own_at xs (n - (6 : Int32))) <<< ((30 : Int32) &&& 31))), (.int ((((((own_at xs n) ^^^ ((own_at xs (n - (1 : Int32))) <<< ((5 : Int32) &&& 31))) ^^^ ((own_at xs (n - (2 : Int32))) <<< ((10 : Int32) &&& 31))) ^^^ ((own_at xs (n - (3 : Int32))) <<< ((15 : Int32) &&& 31))) ^^^ ((own_at xs (n - (4 : Int32))) <<< ((20 : Int32) &&& 31))) ^^^ ((own_at xs (n - (5 : Int32))) <<< ((25 : Int32) &&& 31))))])) _
  refine Go.via (fun _ => XS.ixor X86.here hx rfl (hb hby d4_148) rfl) ?_
  show Go p e below (T86.setTop (mkF m 149 #[.val (.ref b), .val (.int n), .val (.int (own_at xs n)), .val (.int (own_at xs (n - (1 : Int32)))), .val (.int (own_at xs (n - (2 : Int32)))), .val (.int (own_at xs (n - (3 : Int32)))), .val (.int (own_at xs (n - (4 : Int32)))), .val (.int (own_at xs (n - (5 : Int32)))), .val (.int (own_at xs (n - (6 : Int32)))), .val (.int (((((((own_at xs n) + (own_at xs (n - (1 : Int32)))) + (own_at xs (n - (2 : Int32)))) + (own_at xs (n - (3 : Int32)))) + (own_at xs (n - (4 : Int32)))) + (own_at xs (n - (5 : Int32)))) + (own_at xs (n - (6 : Int32))))), .val (.int ((((((((7 : Int32) * (own_at xs n)) + ((6 : Int32) * (own_at xs (n - (1 : Int32))))) + ((5 : Int32) * (own_at xs (n - (2 : Int32))))) + ((4 : Int32) * (own_at xs (n - (3 : Int32))))) + ((3 : Int32) * (own_at xs (n - (4 : Int32))))) + ((2 : Int32) * (own_at xs (n - (5 : Int32))))) + (own_at xs (n - (6 : Int32))))), .unset] [(.int (((((((own_at xs n) ^^^ ((own_at xs (n - (1 : Int32))) <<< ((5 : Int32) &&& 31))) ^^^ ((own_at xs (n - (2 : Int32))) <<< ((10 : Int32) &&& 31))) ^^^ ((own_at xs (n - (3 : Int32))) <<< ((15 : Int32) &&& 31))) ^^^ ((own_at xs (n - (4 : Int32))) <<< ((20 : Int32) &&& 31))) ^^^ ((own_at xs (n - (5 : Int32))) <<< ((25 : Int32) &&& 31))) ^^^ ((own_at xs (n - (6 : Int32))) <<< ((30 : Int32) &&& 31))))])) _
  refine Go.via (fun _ => XS.istore X86.here hx rfl (hb hby d4_149) rfl (l' := #[.val (.ref b), .val (.int n), .val (.int (own_at xs n)), .val (.int (own_at xs (n - (1 : Int32)))), .val (.int (own_at xs (n - (2 : Int32)))), .val (.int (own_at xs (n - (3 : Int32)))), .val (.int (own_at xs (n - (4 : Int32)))), .val (.int (own_at xs (n - (5 : Int32)))), .val (.int (own_at xs (n - (6 : Int32)))), .val (.int (((((((own_at xs n) + (own_at xs (n - (1 : Int32)))) + (own_at xs (n - (2 : Int32)))) + (own_at xs (n - (3 : Int32)))) + (own_at xs (n - (4 : Int32)))) + (own_at xs (n - (5 : Int32)))) + (own_at xs (n - (6 : Int32))))), .val (.int ((((((((7 : Int32) * (own_at xs n)) + ((6 : Int32) * (own_at xs (n - (1 : Int32))))) + ((5 : Int32) * (own_at xs (n - (2 : Int32))))) + ((4 : Int32) * (own_at xs (n - (3 : Int32))))) + ((3 : Int32) * (own_at xs (n - (4 : Int32))))) + ((2 : Int32) * (own_at xs (n - (5 : Int32))))) + (own_at xs (n - (6 : Int32))))), .val (.int (((((((own_at xs n) ^^^ ((own_at xs (n - (1 : Int32))) <<< ((5 : Int32) &&& 31))) ^^^ ((own_at xs (n - (2 : Int32))) <<< ((10 : Int32) &&& 31))) ^^^ ((own_at xs (n - (3 : Int32))) <<< ((15 : Int32) &&& 31))) ^^^ ((own_at xs (n - (4 : Int32))) <<< ((20 : Int32) &&& 31))) ^^^ ((own_at xs (n - (5 : Int32))) <<< ((25 : Int32) &&& 31))) ^^^ ((own_at xs (n - (6 : Int32))) <<< ((30 : Int32) &&& 31))))]) rfl) ?_
  show Go p e below (T86.setTop (mkF m 151 #[.val (.ref b), .val (.int n), .val (.int (own_at xs n)), .val (.int (own_at xs (n - (1 : Int32)))), .val (.int (own_at xs (n - (2 : Int32)))), .val (.int (own_at xs (n - (3 : Int32)))), .val (.int (own_at xs (n - (4 : Int32)))), .val (.int (own_at xs (n - (5 : Int32)))), .val (.int (own_at xs (n - (6 : Int32)))), .val (.int (((((((own_at xs n) + (own_at xs (n - (1 : Int32)))) + (own_at xs (n - (2 : Int32)))) + (own_at xs (n - (3 : Int32)))) + (own_at xs (n - (4 : Int32)))) + (own_at xs (n - (5 : Int32)))) + (own_at xs (n - (6 : Int32))))), .val (.int ((((((((7 : Int32) * (own_at xs n)) + ((6 : Int32) * (own_at xs (n - (1 : Int32))))) + ((5 : Int32) * (own_at xs (n - (2 : Int32))))) + ((4 : Int32) * (own_at xs (n - (3 : Int32))))) + ((3 : Int32) * (own_at xs (n - (4 : Int32))))) + ((2 : Int32) * (own_at xs (n - (5 : Int32))))) + (own_at xs (n - (6 : Int32))))), .val (.int (((((((own_at xs n) ^^^ ((own_at xs (n - (1 : Int32))) <<< ((5 : Int32) &&& 31))) ^^^ ((own_at xs (n - (2 : Int32))) <<< ((10 : Int32) &&& 31))) ^^^ ((own_at xs (n - (3 : Int32))) <<< ((15 : Int32) &&& 31))) ^^^ ((own_at xs (n - (4 : Int32))) <<< ((20 : Int32) &&& 31))) ^^^ ((own_at xs (n - (5 : Int32))) <<< ((25 : Int32) &&& 31))) ^^^ ((own_at xs (n - (6 : Int32))) <<< ((30 : Int32) &&& 31))))] [])) _
  refine Go.via (fun _ => XS.iload X86.here hx rfl (hb hby d4_151) rfl) ?_
  refine Go.via (fun _ => XS.iload X86.here hx rfl (hb hby d4_153) rfl) ?_
  refine Go.via (fun _ => XS.iadd X86.here hx rfl (hb hby d4_155) rfl) ?_
  show Go p e below (T86.setTop (mkF m 156 #[.val (.ref b), .val (.int n), .val (.int (own_at xs n)), .val (.int (own_at xs (n - (1 : Int32)))), .val (.int (own_at xs (n - (2 : Int32)))), .val (.int (own_at xs (n - (3 : Int32)))), .val (.int (own_at xs (n - (4 : Int32)))), .val (.int (own_at xs (n - (5 : Int32)))), .val (.int (own_at xs (n - (6 : Int32)))), .val (.int (((((((own_at xs n) + (own_at xs (n - (1 : Int32)))) + (own_at xs (n - (2 : Int32)))) + (own_at xs (n - (3 : Int32)))) + (own_at xs (n - (4 : Int32)))) + (own_at xs (n - (5 : Int32)))) + (own_at xs (n - (6 : Int32))))), .val (.int ((((((((7 : Int32) * (own_at xs n)) + ((6 : Int32) * (own_at xs (n - (1 : Int32))))) + ((5 : Int32) * (own_at xs (n - (2 : Int32))))) + ((4 : Int32) * (own_at xs (n - (3 : Int32))))) + ((3 : Int32) * (own_at xs (n - (4 : Int32))))) + ((2 : Int32) * (own_at xs (n - (5 : Int32))))) + (own_at xs (n - (6 : Int32))))), .val (.int (((((((own_at xs n) ^^^ ((own_at xs (n - (1 : Int32))) <<< ((5 : Int32) &&& 31))) ^^^ ((own_at xs (n - (2 : Int32))) <<< ((10 : Int32) &&& 31))) ^^^ ((own_at xs (n - (3 : Int32))) <<< ((15 : Int32) &&& 31))) ^^^ ((own_at xs (n - (4 : Int32))) <<< ((20 : Int32) &&& 31))) ^^^ ((own_at xs (n - (5 : Int32))) <<< ((25 : Int32) &&& 31))) ^^^ ((own_at xs (n - (6 : Int32))) <<< ((30 : Int32) &&& 31))))] [(.int ((((((((own_at xs n) + (own_at xs (n - (1 : Int32)))) + (own_at xs (n - (2 : Int32)))) + (own_at xs (n - (3 : Int32)))) + (own_at xs (n - (4 : Int32)))) + (own_at xs (n - (5 : Int32)))) + (own_at xs (n - (6 : Int32)))) + ((((((((7 : Int32) * (own_at xs n)) + ((6 : Int32) * (own_at xs (n - (1 : Int32))))) + ((5 : Int32) * (own_at xs (n - (2 : Int32))))) + ((4 : Int32) * (own_at xs (n - (3 : Int32))))) + ((3 : Int32) * (own_at xs (n - (4 : Int32))))) + ((2 : Int32) * (own_at xs (n - (5 : Int32))))) + (own_at xs (n - (6 : Int32))))))])) _
  refine Go.via (fun _ => XS.iload X86.here hx rfl (hb hby d4_156) rfl) ?_
  refine Go.via (fun _ => XS.iadd X86.here hx rfl (hb hby d4_158) rfl) ?_
  show Go p e below (T86.setTop (mkF m 159 #[.val (.ref b), .val (.int n), .val (.int (own_at xs n)), .val (.int (own_at xs (n - (1 : Int32)))), .val (.int (own_at xs (n - (2 : Int32)))), .val (.int (own_at xs (n - (3 : Int32)))), .val (.int (own_at xs (n - (4 : Int32)))), .val (.int (own_at xs (n - (5 : Int32)))), .val (.int (own_at xs (n - (6 : Int32)))), .val (.int (((((((own_at xs n) + (own_at xs (n - (1 : Int32)))) + (own_at xs (n - (2 : Int32)))) + (own_at xs (n - (3 : Int32)))) + (own_at xs (n - (4 : Int32)))) + (own_at xs (n - (5 : Int32)))) + (own_at xs (n - (6 : Int32))))), .val (.int ((((((((7 : Int32) * (own_at xs n)) + ((6 : Int32) * (own_at xs (n - (1 : Int32))))) + ((5 : Int32) * (own_at xs (n - (2 : Int32))))) + ((4 : Int32) * (own_at xs (n - (3 : Int32))))) + ((3 : Int32) * (own_at xs (n - (4 : Int32))))) + ((2 : Int32) * (own_at xs (n - (5 : Int32))))) + (own_at xs (n - (6 : Int32))))), .val (.int (((((((own_at xs n) ^^^ ((own_at xs (n - (1 : Int32))) <<< ((5 : Int32) &&& 31))) ^^^ ((own_at xs (n - (2 : Int32))) <<< ((10 : Int32) &&& 31))) ^^^ ((own_at xs (n - (3 : Int32))) <<< ((15 : Int32) &&& 31))) ^^^ ((own_at xs (n - (4 : Int32))) <<< ((20 : Int32) &&& 31))) ^^^ ((own_at xs (n - (5 : Int32))) <<< ((25 : Int32) &&& 31))) ^^^ ((own_at xs (n - (6 : Int32))) <<< ((30 : Int32) &&& 31))))] [(.int (((((((((own_at xs n) + (own_at xs (n - (1 : Int32)))) + (own_at xs (n - (2 : Int32)))) + (own_at xs (n - (3 : Int32)))) + (own_at xs (n - (4 : Int32)))) + (own_at xs (n - (5 : Int32)))) + (own_at xs (n - (6 : Int32)))) + ((((((((7 : Int32) * (own_at xs n)) + ((6 : Int32) * (own_at xs (n - (1 : Int32))))) + ((5 : Int32) * (own_at xs (n - (2 : Int32))))) + ((4 : Int32) * (own_at xs (n - (3 : Int32))))) + ((3 : Int32) * (own_at xs (n - (4 : Int32))))) + ((2 : Int32) * (own_at xs (n - (5 : Int32))))) + (own_at xs (n - (6 : Int32))))) + (((((((own_at xs n) ^^^ ((own_at xs (n - (1 : Int32))) <<< ((5 : Int32) &&& 31))) ^^^ ((own_at xs (n - (2 : Int32))) <<< ((10 : Int32) &&& 31))) ^^^ ((own_at xs (n - (3 : Int32))) <<< ((15 : Int32) &&& 31))) ^^^ ((own_at xs (n - (4 : Int32))) <<< ((20 : Int32) &&& 31))) ^^^ ((own_at xs (n - (5 : Int32))) <<< ((25 : Int32) &&& 31))) ^^^ ((own_at xs (n - (6 : Int32))) <<< ((30 : Int32) &&& 31)))))])) _
  exact Go.fin X86 hlk (v := some (.int (((((((((own_at xs n) + (own_at xs (n - (1 : Int32)))) + (own_at xs (n - (2 : Int32)))) + (own_at xs (n - (3 : Int32)))) + (own_at xs (n - (4 : Int32)))) + (own_at xs (n - (5 : Int32)))) + (own_at xs (n - (6 : Int32)))) + ((((((((7 : Int32) * (own_at xs n)) + ((6 : Int32) * (own_at xs (n - (1 : Int32))))) + ((5 : Int32) * (own_at xs (n - (2 : Int32))))) + ((4 : Int32) * (own_at xs (n - (3 : Int32))))) + ((3 : Int32) * (own_at xs (n - (4 : Int32))))) + ((2 : Int32) * (own_at xs (n - (5 : Int32))))) + (own_at xs (n - (6 : Int32))))) + (((((((own_at xs n) ^^^ ((own_at xs (n - (1 : Int32))) <<< ((5 : Int32) &&& 31))) ^^^ ((own_at xs (n - (2 : Int32))) <<< ((10 : Int32) &&& 31))) ^^^ ((own_at xs (n - (3 : Int32))) <<< ((15 : Int32) &&& 31))) ^^^ ((own_at xs (n - (4 : Int32))) <<< ((20 : Int32) &&& 31))) ^^^ ((own_at xs (n - (5 : Int32))) <<< ((25 : Int32) &&& 31))) ^^^ ((own_at xs (n - (6 : Int32))) <<< ((30 : Int32) &&& 31)))))) (fun h => by rw [Bd.returns] at h; cases h) (fun fs hr => OwnKit.retI X86 hx Bd.returns (hb hby d4_159) hr) (by rw [e86]; exact ⟨rfl, N86, rfl⟩) (by decide) (by decide)
theorem own_l5x (a b : Int32) : own_l5 (a ^^^ b) = own_l5 a ^^^ own_l5 b := by
  apply Int32.toBitVec_inj.mp
  simp only [own_l5, Int32.toBitVec_shiftLeft, Int32.toBitVec_xor]
  exact BitVec.shiftLeft_xor_distrib ..
theorem own_l5_5 (a : Int32) : own_l5 (own_l5 a) = own_l10 a := by
  apply Int32.toBitVec_inj.mp
  simp only [own_l5, own_l5, own_l10, Int32.toBitVec_shiftLeft]
  exact (BitVec.shiftLeft_add ..).symm
theorem own_l5_10 (a : Int32) : own_l5 (own_l10 a) = own_l15 a := by
  apply Int32.toBitVec_inj.mp
  simp only [own_l5, own_l10, own_l15, Int32.toBitVec_shiftLeft]
  exact (BitVec.shiftLeft_add ..).symm
theorem own_l5_15 (a : Int32) : own_l5 (own_l15 a) = own_l20 a := by
  apply Int32.toBitVec_inj.mp
  simp only [own_l5, own_l15, own_l20, Int32.toBitVec_shiftLeft]
  exact (BitVec.shiftLeft_add ..).symm
theorem own_l5_20 (a : Int32) : own_l5 (own_l20 a) = own_l25 a := by
  apply Int32.toBitVec_inj.mp
  simp only [own_l5, own_l20, own_l25, Int32.toBitVec_shiftLeft]
  exact (BitVec.shiftLeft_add ..).symm
theorem own_l5_25 (a : Int32) : own_l5 (own_l25 a) = own_l30 a := by
  apply Int32.toBitVec_inj.mp
  simp only [own_l5, own_l25, own_l30, Int32.toBitVec_shiftLeft]
  exact (BitVec.shiftLeft_add ..).symm
theorem own_l5_30 (a : Int32) : own_l5 (own_l30 a) = 0 := by
  apply Int32.toBitVec_inj.mp
  simp only [own_l5, own_l30, Int32.toBitVec_shiftLeft]
  refine (BitVec.shiftLeft_add ..).symm.trans ?_
  exact BitVec.shiftLeft_eq_zero (by decide)
theorem own_st {x a0 a1 a2 a3 a4 a5 a6 sm wt sh sm2 wt2 sh2 : Int32} (e : sm2 = sm + (x - a6)) (f : wt2 = wt + ((7 : Int32) * x - sm)) (g : sh2 = (sh <<< ((5 : Int32) &&& 31)) ^^^ x) (h : sm = own_s a0 a1 a2 a3 a4 a5 a6 ∧ wt = own_w a0 a1 a2 a3 a4 a5 a6 ∧ sh = own_t a0 a1 a2 a3 a4 a5 a6) :
    sm2 = own_s x a0 a1 a2 a3 a4 a5 ∧ wt2 = own_w x a0 a1 a2 a3 a4 a5 ∧ sh2 = own_t x a0 a1 a2 a3 a4 a5 := by
  obtain ⟨hs, hw, ht⟩ := h
  subst hs hw ht
  refine ⟨?_, ?_, ?_⟩
  · rw [e]; simp only [own_s]; grind
  · rw [f]; simp only [own_s, own_w]; grind
  · rw [g]
    show own_l5 (own_t a0 a1 a2 a3 a4 a5 a6) ^^^ x = own_t x a0 a1 a2 a3 a4 a5
    simp only [own_t, own_l5x, own_l5_5, own_l5_10, own_l5_15, own_l5_20, own_l5_25, own_l5_30, Int32.xor_zero]
    generalize own_l5 a0 = u1; generalize own_l10 a1 = u2; generalize own_l15 a2 = u3; generalize own_l20 a3 = u4; generalize own_l25 a4 = u5; generalize own_l30 a5 = u6
    ac_rfl
theorem own_fin {x a0 a1 a2 a3 a4 a5 sm2 wt2 sh2 : Int32} (h : sm2 = own_s x a0 a1 a2 a3 a4 a5 ∧ wt2 = own_w x a0 a1 a2 a3 a4 a5 ∧ sh2 = own_t x a0 a1 a2 a3 a4 a5) : ((sm2 + wt2) + sh2) = own_ref x a0 a1 a2 a3 a4 a5 := by
  rw [h.1, h.2.1, h.2.2]; rfl
theorem own_pure {x0 x1 x2 x3 x4 x5 x6 x7 x8 sm0 sm1 sm2 sm3 sm4 sm5 sm6 sm7 sm8 wt0 wt1 wt2 wt3 wt4 wt5 wt6 wt7 wt8 sh0 sh1 sh2 sh3 sh4 sh5 sh6 sh7 sh8 : Int32} (e0 : sm0 = (0 : Int32) + (x0 - (0 : Int32))) (f0 : wt0 = (0 : Int32) + ((7 : Int32) * x0 - (0 : Int32))) (g0 : sh0 = ((0 : Int32) <<< ((5 : Int32) &&& 31)) ^^^ x0) (e1 : sm1 = sm0 + (x1 - (0 : Int32))) (f1 : wt1 = wt0 + ((7 : Int32) * x1 - sm0)) (g1 : sh1 = (sh0 <<< ((5 : Int32) &&& 31)) ^^^ x1) (e2 : sm2 = sm1 + (x2 - (0 : Int32))) (f2 : wt2 = wt1 + ((7 : Int32) * x2 - sm1)) (g2 : sh2 = (sh1 <<< ((5 : Int32) &&& 31)) ^^^ x2) (e3 : sm3 = sm2 + (x3 - (0 : Int32))) (f3 : wt3 = wt2 + ((7 : Int32) * x3 - sm2)) (g3 : sh3 = (sh2 <<< ((5 : Int32) &&& 31)) ^^^ x3) (e4 : sm4 = sm3 + (x4 - (0 : Int32))) (f4 : wt4 = wt3 + ((7 : Int32) * x4 - sm3)) (g4 : sh4 = (sh3 <<< ((5 : Int32) &&& 31)) ^^^ x4) (e5 : sm5 = sm4 + (x5 - (0 : Int32))) (f5 : wt5 = wt4 + ((7 : Int32) * x5 - sm4)) (g5 : sh5 = (sh4 <<< ((5 : Int32) &&& 31)) ^^^ x5) (e6 : sm6 = sm5 + (x6 - (0 : Int32))) (f6 : wt6 = wt5 + ((7 : Int32) * x6 - sm5)) (g6 : sh6 = (sh5 <<< ((5 : Int32) &&& 31)) ^^^ x6) (e7 : sm7 = sm6 + (x7 - x0)) (f7 : wt7 = wt6 + ((7 : Int32) * x7 - sm6)) (g7 : sh7 = (sh6 <<< ((5 : Int32) &&& 31)) ^^^ x7) (e8 : sm8 = sm7 + (x8 - x1)) (f8 : wt8 = wt7 + ((7 : Int32) * x8 - sm7)) (g8 : sh8 = (sh7 <<< ((5 : Int32) &&& 31)) ^^^ x8) :
    ((sm0 + wt0) + sh0) = own_ref x0 (0 : Int32) (0 : Int32) (0 : Int32) (0 : Int32) (0 : Int32) (0 : Int32) ∧ ((sm1 + wt1) + sh1) = own_ref x1 x0 (0 : Int32) (0 : Int32) (0 : Int32) (0 : Int32) (0 : Int32) ∧ ((sm2 + wt2) + sh2) = own_ref x2 x1 x0 (0 : Int32) (0 : Int32) (0 : Int32) (0 : Int32) ∧ ((sm3 + wt3) + sh3) = own_ref x3 x2 x1 x0 (0 : Int32) (0 : Int32) (0 : Int32) ∧ ((sm4 + wt4) + sh4) = own_ref x4 x3 x2 x1 x0 (0 : Int32) (0 : Int32) ∧ ((sm5 + wt5) + sh5) = own_ref x5 x4 x3 x2 x1 x0 (0 : Int32) ∧ ((sm6 + wt6) + sh6) = own_ref x6 x5 x4 x3 x2 x1 x0 ∧ ((sm7 + wt7) + sh7) = own_ref x7 x6 x5 x4 x3 x2 x1 ∧ ((sm8 + wt8) + sh8) = own_ref x8 x7 x6 x5 x4 x3 x2 := by
  have q : (0 : Int32) = own_s 0 0 0 0 0 0 0 ∧ (0 : Int32) = own_w 0 0 0 0 0 0 0 ∧ (0 : Int32) = own_t 0 0 0 0 0 0 0 := by decide
  have s0 := own_st e0 f0 g0 q
  have s1 := own_st e1 f1 g1 s0
  have s2 := own_st e2 f2 g2 s1
  have s3 := own_st e3 f3 g3 s2
  have s4 := own_st e4 f4 g4 s3
  have s5 := own_st e5 f5 g5 s4
  have s6 := own_st e6 f6 g6 s5
  have s7 := own_st e7 f7 g7 s6
  have s8 := own_st e8 f8 g8 s7
  exact ⟨own_fin s0, own_fin s1, own_fin s2, own_fin s3, own_fin s4, own_fin s5, own_fin s6, own_fin s7, own_fin s8⟩

theorem pd__28_29V : parseMethodDescriptor "()V" = some ⟨[], none⟩ := by decide +kernel
theorem pd__28I_29I : parseMethodDescriptor "(I)I" = some ⟨[.int], some .int⟩ := by decide +kernel
theorem pn_0 : plainName "com/example/relate_by_hash/relatebyhash/ctph/RollingHashUpdatePinLaw" = true := by first | (simp [plainName, overriddenIn]; done) | decide +kernel
theorem ef_0 (m : MethodId) (x0 : Int64) (x1 : Int32) : entryFrame m #[(.long x0), (.int x1)] maxLocals = mkF m 0 #[.val (.long x0), .second, .val (.int x1), .unset, .unset, .unset, .unset, .unset, .unset, .unset, .unset, .unset, .unset, .unset] [] := by first | (simp [entryFrame, mkF, argsToLocals, Value.category, maxLocals]; done) | rfl
def Q_rm0 (Z : State) (lo : Int64) (hi : Int32)  (h0 : Heap) (n0 : Nat) (vQ : Option Value) (hQ : Heap) (LQ : List Loc) : Prop := vQ = some (.int (1 : Int32)) ∧ Fr n0 LQ ∧ Keep h0 hQ []
set_option maxRecDepth 65536 in
set_option maxHeartbeats 40000000 in
theorem rm0 (l : Launch) (Z : State) (a0 : Array Value) (hw : ∀ d ∈ tables_1, d.before a0 Z = true) (ws : List Jvm.Cond) (lo : Int64) (hi : Int32)  (h0 : Heap) (n0 : Nat) (Z0 : n0 ≤ h0.size) :
    MetFree l x (head1 (Jvm.Cond.code x code maxLocals ret :: ws) room_1) (fun aQ UQ => aQ = #[(.long lo), (.int hi)] ∧ Z.Warmed39 UQ.vm ∧ UQ.heap = h0) (fun _ _ _ _ _ => True) (fun _ UQ oQ UR => ∃ vQ LQ, oQ = .returned vQ ∧ Q_rm0 Z lo hi  h0 n0 vQ UR.heap LQ ∧ FrameEnd UQ oQ UR LQ room_1.cells room_1.slots) := by
  refine MetFree.of_bodySF (plainFor_of_name pn_0) hisR ?_
  intro p e s m args below meth c s₁ Bd hml0 hP hK
  obtain ⟨rfl, hZ, hh⟩ := hP
  have hx := Bd.exec
  have hby := Bd.bytes
  have hlk := Bd.notSynchronized
  have hml : c.maxLocals = 14 := hml0
  have hown : s.vm.findClass "com/example/relate_by_hash/relatebyhash/ctph/RollingHashUpdatePinLaw" = some m.cls := findClass_of_methodNamed Bd.named
  have hnm := (name_of_methodNamed Bd.named Bd.method).1
  have X0 : Stand p l e room_1 s m #[(.long lo), (.int hi)] below meth c s₁ [] 0 0 := Stand.of_body Bd
  have e0 : s₁.heap = h0 := by rw [← hh, Bd.state]; rfl
  have N0 := Fr.nil n0
  show Go p e below _ (Done s (Q_rm0 Z lo hi  h0 n0) room_1.cells room_1.slots)
  refine Go.via (fun tQ kQ => castTop (ef_0 m lo hi) kQ) ?_
  show Go p e below (s₁.setTop (mkF m 0 #[.val (.long lo), .second, .val (.int hi), .unset, .unset, .unset, .unset, .unset, .unset, .unset, .unset, .unset, .unset, .unset] [])) _
  refine Go.via (fun _ => XS.bipush X0.here hx rfl (hb hby at_0)) ?_
  obtain ⟨T87, h87, k87, X87, e87, E87, A87, B87, st87⟩ := newPE X0 hx hZ (tw hw 0 rfl) e0 (g := (mkF m 2 #[.val (.long lo), .second, .val (.int hi), .unset, .unset, .unset, .unset, .unset, .unset, .unset, .unset, .unset, .unset, .unset] [(.int (9 : Int32))])) rfl (hb hby at_2) rfl (by decide) (cap := 9) (by decide) (by decide) (by decide) (by decide) (ad := "[I") (by decide)
  obtain ⟨b87, g87⟩ : ∃ z, z = h0.size := ⟨_, rfl⟩
  rw [← g87] at A87 B87 st87
  have ge88 : n0 ≤ b87 := Nat.le_trans Z0 (Nat.le_of_eq g87.symm)
  have sz89 : h0.size ≤ b87 := Nat.le_trans (Keep.refl h0 []).1 (Nat.le_of_eq g87.symm)
  refine Go.via (st87) ?_
  clear st87
  have f90 : Ia Z h87 b87 .int [(0 : Int32), (0 : Int32), (0 : Int32), (0 : Int32), (0 : Int32), (0 : Int32), (0 : Int32), (0 : Int32), (0 : Int32)] := Ia.new A87 rfl
  clear X0 e0
  show Go p e below (T87.setTop (mkF m 4 #[.val (.long lo), .second, .val (.int hi), .unset, .unset, .unset, .unset, .unset, .unset, .unset, .unset, .unset, .unset, .unset] [(.ref b87)])) _
  refine Go.via (fun _ => XS.astoreN X87.here hx rfl (hb hby at_4) rfl rfl (l' := #[.val (.long lo), .second, .val (.int hi), .val (.ref b87), .unset, .unset, .unset, .unset, .unset, .unset, .unset, .unset, .unset, .unset]) rfl) ?_
  show Go p e below (T87.setTop (mkF m 5 #[.val (.long lo), .second, .val (.int hi), .val (.ref b87), .unset, .unset, .unset, .unset, .unset, .unset, .unset, .unset, .unset, .unset] [])) _
  refine Go.via (fun _ => XS.aloadN X87.here hx rfl (hb hby at_5) rfl rfl) ?_
  refine Go.via (fun _ => XS.iconst X87.here hx rfl (hb hby at_6)) ?_
  refine Go.via (fun _ => XS.lloadN X87.here hx rfl (hb hby at_7) rfl) ?_
  refine Go.via (X87.ldc2Long hx hown (mvT hZ (tw hw 1 rfl)) (g := (mkF m 8 #[.val (.long lo), .second, .val (.int hi), .val (.ref b87), .unset, .unset, .unset, .unset, .unset, .unset, .unset, .unset, .unset, .unset] [(.long lo), (.int (0 : Int32)), (.ref b87)])) rfl (hb hby at_8)) ?_
  show Go p e below (T87.setTop (mkF m 11 #[.val (.long lo), .second, .val (.int hi), .val (.ref b87), .unset, .unset, .unset, .unset, .unset, .unset, .unset, .unset, .unset, .unset] [(.long (255 : Int64)), (.long lo), (.int (0 : Int32)), (.ref b87)])) _
  refine Go.via (fun _ => XS.land X87.here hx rfl (hb hby at_11) rfl) ?_
  show Go p e below (T87.setTop (mkF m 12 #[.val (.long lo), .second, .val (.int hi), .val (.ref b87), .unset, .unset, .unset, .unset, .unset, .unset, .unset, .unset, .unset, .unset] [(.long (lo &&& (255 : Int64))), (.int (0 : Int32)), (.ref b87)])) _
  refine Go.via (fun _ => XS.l2i X87.here hx rfl (hb hby at_12) rfl) ?_
  show Go p e below (T87.setTop (mkF m 13 #[.val (.long lo), .second, .val (.int hi), .val (.ref b87), .unset, .unset, .unset, .unset, .unset, .unset, .unset, .unset, .unset, .unset] [(.int ((lo &&& (255 : Int64)).toInt32)), (.int (0 : Int32)), (.ref b87)])) _
  generalize hv_x0 : ((lo &&& (255 : Int64)).toInt32) = x0
  show Go p e below (T87.setTop (mkF m 13 #[.val (.long lo), .second, .val (.int hi), .val (.ref b87), .unset, .unset, .unset, .unset, .unset, .unset, .unset, .unset, .unset, .unset] [(.int x0), (.int (0 : Int32)), (.ref b87)])) _
  obtain ⟨T91, h91, X91, e91, W91, V91, st91⟩ := stI' X87 hx hZ e87 f90 (j := (0 : Int32)) (by decide) (by first | decide | (simp only [List.length_cons, List.length_nil]; decide) | rfl) (g := (mkF m 13 #[.val (.long lo), .second, .val (.int hi), .val (.ref b87), .unset, .unset, .unset, .unset, .unset, .unset, .unset, .unset, .unset, .unset] [(.int x0), (.int (0 : Int32)), (.ref b87)])) rfl rfl (hb hby at_13)
  refine Go.via (st91) ?_
  clear st91
  have N91 := Fr.snoc X91 N0 ge88
  have f92 : Ia Z h91 b87 .int [x0, (0 : Int32), (0 : Int32), (0 : Int32), (0 : Int32), (0 : Int32), (0 : Int32), (0 : Int32), (0 : Int32)] := V91
  clear X87 e87
  show Go p e below (T91.setTop (mkF m 14 #[.val (.long lo), .second, .val (.int hi), .val (.ref b87), .unset, .unset, .unset, .unset, .unset, .unset, .unset, .unset, .unset, .unset] [])) _
  refine Go.via (fun _ => XS.aloadN X91.here hx rfl (hb hby at_14) rfl rfl) ?_
  refine Go.via (fun _ => XS.iconst X91.here hx rfl (hb hby at_15)) ?_
  refine Go.via (fun _ => XS.lloadN X91.here hx rfl (hb hby at_16) rfl) ?_
  refine Go.via (fun _ => XS.bipush X91.here hx rfl (hb hby at_17)) ?_
  show Go p e below (T91.setTop (mkF m 19 #[.val (.long lo), .second, .val (.int hi), .val (.ref b87), .unset, .unset, .unset, .unset, .unset, .unset, .unset, .unset, .unset, .unset] [(.int (8 : Int32)), (.long lo), (.int (1 : Int32)), (.ref b87)])) _
  refine Go.via (fun _ => XS.lushr X91.here hx rfl (hb hby at_19) rfl) ?_
  show Go p e below (T91.setTop (mkF m 20 #[.val (.long lo), .second, .val (.int hi), .val (.ref b87), .unset, .unset, .unset, .unset, .unset, .unset, .unset, .unset, .unset, .unset] [(.long ((lo.toUInt64 >>> ((8 : Int32) &&& 0x3f).toInt64.toUInt64).toInt64)), (.int (1 : Int32)), (.ref b87)])) _
  refine Go.via (X91.ldc2Long hx hown (mvT hZ (tw hw 1 rfl)) (g := (mkF m 20 #[.val (.long lo), .second, .val (.int hi), .val (.ref b87), .unset, .unset, .unset, .unset, .unset, .unset, .unset, .unset, .unset, .unset] [(.long ((lo.toUInt64 >>> ((8 : Int32) &&& 0x3f).toInt64.toUInt64).toInt64)), (.int (1 : Int32)), (.ref b87)])) rfl (hb hby at_20)) ?_
  show Go p e below (T91.setTop (mkF m 23 #[.val (.long lo), .second, .val (.int hi), .val (.ref b87), .unset, .unset, .unset, .unset, .unset, .unset, .unset, .unset, .unset, .unset] [(.long (255 : Int64)), (.long ((lo.toUInt64 >>> ((8 : Int32) &&& 0x3f).toInt64.toUInt64).toInt64)), (.int (1 : Int32)), (.ref b87)])) _
  refine Go.via (fun _ => XS.land X91.here hx rfl (hb hby at_23) rfl) ?_
  show Go p e below (T91.setTop (mkF m 24 #[.val (.long lo), .second, .val (.int hi), .val (.ref b87), .unset, .unset, .unset, .unset, .unset, .unset, .unset, .unset, .unset, .unset] [(.long (((lo.toUInt64 >>> ((8 : Int32) &&& 0x3f).toInt64.toUInt64).toInt64) &&& (255 : Int64))), (.int (1 : Int32)), (.ref b87)])) _
  refine Go.via (fun _ => XS.l2i X91.here hx rfl (hb hby at_24) rfl) ?_
  show Go p e below (T91.setTop (mkF m 25 #[.val (.long lo), .second, .val (.int hi), .val (.ref b87), .unset, .unset, .unset, .unset, .unset, .unset, .unset, .unset, .unset, .unset] [(.int ((((lo.toUInt64 >>> ((8 : Int32) &&& 0x3f).toInt64.toUInt64).toInt64) &&& (255 : Int64)).toInt32)), (.int (1 : Int32)), (.ref b87)])) _
  generalize hv_x1 : ((((lo.toUInt64 >>> ((8 : Int32) &&& 0x3f).toInt64.toUInt64).toInt64) &&& (255 : Int64)).toInt32) = x1
  show Go p e below (T91.setTop (mkF m 25 #[.val (.long lo), .second, .val (.int hi), .val (.ref b87), .unset, .unset, .unset, .unset, .unset, .unset, .unset, .unset, .unset, .unset] [(.int x1), (.int (1 : Int32)), (.ref b87)])) _
  obtain ⟨T93, h93, X93, e93, W93, V93, st93⟩ := stI' X91 hx hZ e91 f92 (j := (1 : Int32)) (by decide) (by first | decide | (simp only [List.length_cons, List.length_nil]; decide) | rfl) (g := (mkF m 25 #[.val (.long lo), .second, .val (.int hi), .val (.ref b87), .unset, .unset, .unset, .unset, .unset, .unset, .unset, .unset, .unset, .unset] [(.int x1), (.int (1 : Int32)), (.ref b87)])) rfl rfl (hb hby at_25)
  refine Go.via (st93) ?_
  clear st93
  have N93 := Fr.snoc X93 N91 ge88
  have f94 : Ia Z h93 b87 .int [x0, x1, (0 : Int32), (0 : Int32), (0 : Int32), (0 : Int32), (0 : Int32), (0 : Int32), (0 : Int32)] := V93
  clear X91 e91
  show Go p e below (T93.setTop (mkF m 26 #[.val (.long lo), .second, .val (.int hi), .val (.ref b87), .unset, .unset, .unset, .unset, .unset, .unset, .unset, .unset, .unset, .unset] [])) _
  refine Go.via (fun _ => XS.aloadN X93.here hx rfl (hb hby at_26) rfl rfl) ?_
  refine Go.via (fun _ => XS.iconst X93.here hx rfl (hb hby at_27)) ?_
  refine Go.via (fun _ => XS.lloadN X93.here hx rfl (hb hby at_28) rfl) ?_
  refine Go.via (fun _ => XS.bipush X93.here hx rfl (hb hby at_29)) ?_
  show Go p e below (T93.setTop (mkF m 31 #[.val (.long lo), .second, .val (.int hi), .val (.ref b87), .unset, .unset, .unset, .unset, .unset, .unset, .unset, .unset, .unset, .unset] [(.int (16 : Int32)), (.long lo), (.int (2 : Int32)), (.ref b87)])) _
  refine Go.via (fun _ => XS.lushr X93.here hx rfl (hb hby at_31) rfl) ?_
  show Go p e below (T93.setTop (mkF m 32 #[.val (.long lo), .second, .val (.int hi), .val (.ref b87), .unset, .unset, .unset, .unset, .unset, .unset, .unset, .unset, .unset, .unset] [(.long ((lo.toUInt64 >>> ((16 : Int32) &&& 0x3f).toInt64.toUInt64).toInt64)), (.int (2 : Int32)), (.ref b87)])) _
  refine Go.via (X93.ldc2Long hx hown (mvT hZ (tw hw 1 rfl)) (g := (mkF m 32 #[.val (.long lo), .second, .val (.int hi), .val (.ref b87), .unset, .unset, .unset, .unset, .unset, .unset, .unset, .unset, .unset, .unset] [(.long ((lo.toUInt64 >>> ((16 : Int32) &&& 0x3f).toInt64.toUInt64).toInt64)), (.int (2 : Int32)), (.ref b87)])) rfl (hb hby at_32)) ?_
  show Go p e below (T93.setTop (mkF m 35 #[.val (.long lo), .second, .val (.int hi), .val (.ref b87), .unset, .unset, .unset, .unset, .unset, .unset, .unset, .unset, .unset, .unset] [(.long (255 : Int64)), (.long ((lo.toUInt64 >>> ((16 : Int32) &&& 0x3f).toInt64.toUInt64).toInt64)), (.int (2 : Int32)), (.ref b87)])) _
  refine Go.via (fun _ => XS.land X93.here hx rfl (hb hby at_35) rfl) ?_
  show Go p e below (T93.setTop (mkF m 36 #[.val (.long lo), .second, .val (.int hi), .val (.ref b87), .unset, .unset, .unset, .unset, .unset, .unset, .unset, .unset, .unset, .unset] [(.long (((lo.toUInt64 >>> ((16 : Int32) &&& 0x3f).toInt64.toUInt64).toInt64) &&& (255 : Int64))), (.int (2 : Int32)), (.ref b87)])) _
  refine Go.via (fun _ => XS.l2i X93.here hx rfl (hb hby at_36) rfl) ?_
  show Go p e below (T93.setTop (mkF m 37 #[.val (.long lo), .second, .val (.int hi), .val (.ref b87), .unset, .unset, .unset, .unset, .unset, .unset, .unset, .unset, .unset, .unset] [(.int ((((lo.toUInt64 >>> ((16 : Int32) &&& 0x3f).toInt64.toUInt64).toInt64) &&& (255 : Int64)).toInt32)), (.int (2 : Int32)), (.ref b87)])) _
  generalize hv_x2 : ((((lo.toUInt64 >>> ((16 : Int32) &&& 0x3f).toInt64.toUInt64).toInt64) &&& (255 : Int64)).toInt32) = x2
  show Go p e below (T93.setTop (mkF m 37 #[.val (.long lo), .second, .val (.int hi), .val (.ref b87), .unset, .unset, .unset, .unset, .unset, .unset, .unset, .unset, .unset, .unset] [(.int x2), (.int (2 : Int32)), (.ref b87)])) _
  obtain ⟨T95, h95, X95, e95, W95, V95, st95⟩ := stI' X93 hx hZ e93 f94 (j := (2 : Int32)) (by decide) (by first | decide | (simp only [List.length_cons, List.length_nil]; decide) | rfl) (g := (mkF m 37 #[.val (.long lo), .second, .val (.int hi), .val (.ref b87), .unset, .unset, .unset, .unset, .unset, .unset, .unset, .unset, .unset, .unset] [(.int x2), (.int (2 : Int32)), (.ref b87)])) rfl rfl (hb hby at_37)
  refine Go.via (st95) ?_
  clear st95
  have N95 := Fr.snoc X95 N93 ge88
  have f96 : Ia Z h95 b87 .int [x0, x1, x2, (0 : Int32), (0 : Int32), (0 : Int32), (0 : Int32), (0 : Int32), (0 : Int32)] := V95
  clear X93 e93
  show Go p e below (T95.setTop (mkF m 38 #[.val (.long lo), .second, .val (.int hi), .val (.ref b87), .unset, .unset, .unset, .unset, .unset, .unset, .unset, .unset, .unset, .unset] [])) _
  refine Go.via (fun _ => XS.aloadN X95.here hx rfl (hb hby at_38) rfl rfl) ?_
  refine Go.via (fun _ => XS.iconst X95.here hx rfl (hb hby at_39)) ?_
  refine Go.via (fun _ => XS.lloadN X95.here hx rfl (hb hby at_40) rfl) ?_
  refine Go.via (fun _ => XS.bipush X95.here hx rfl (hb hby at_41)) ?_
  show Go p e below (T95.setTop (mkF m 43 #[.val (.long lo), .second, .val (.int hi), .val (.ref b87), .unset, .unset, .unset, .unset, .unset, .unset, .unset, .unset, .unset, .unset] [(.int (24 : Int32)), (.long lo), (.int (3 : Int32)), (.ref b87)])) _
  refine Go.via (fun _ => XS.lushr X95.here hx rfl (hb hby at_43) rfl) ?_
  show Go p e below (T95.setTop (mkF m 44 #[.val (.long lo), .second, .val (.int hi), .val (.ref b87), .unset, .unset, .unset, .unset, .unset, .unset, .unset, .unset, .unset, .unset] [(.long ((lo.toUInt64 >>> ((24 : Int32) &&& 0x3f).toInt64.toUInt64).toInt64)), (.int (3 : Int32)), (.ref b87)])) _
  refine Go.via (X95.ldc2Long hx hown (mvT hZ (tw hw 1 rfl)) (g := (mkF m 44 #[.val (.long lo), .second, .val (.int hi), .val (.ref b87), .unset, .unset, .unset, .unset, .unset, .unset, .unset, .unset, .unset, .unset] [(.long ((lo.toUInt64 >>> ((24 : Int32) &&& 0x3f).toInt64.toUInt64).toInt64)), (.int (3 : Int32)), (.ref b87)])) rfl (hb hby at_44)) ?_
  show Go p e below (T95.setTop (mkF m 47 #[.val (.long lo), .second, .val (.int hi), .val (.ref b87), .unset, .unset, .unset, .unset, .unset, .unset, .unset, .unset, .unset, .unset] [(.long (255 : Int64)), (.long ((lo.toUInt64 >>> ((24 : Int32) &&& 0x3f).toInt64.toUInt64).toInt64)), (.int (3 : Int32)), (.ref b87)])) _
  refine Go.via (fun _ => XS.land X95.here hx rfl (hb hby at_47) rfl) ?_
  show Go p e below (T95.setTop (mkF m 48 #[.val (.long lo), .second, .val (.int hi), .val (.ref b87), .unset, .unset, .unset, .unset, .unset, .unset, .unset, .unset, .unset, .unset] [(.long (((lo.toUInt64 >>> ((24 : Int32) &&& 0x3f).toInt64.toUInt64).toInt64) &&& (255 : Int64))), (.int (3 : Int32)), (.ref b87)])) _
  refine Go.via (fun _ => XS.l2i X95.here hx rfl (hb hby at_48) rfl) ?_
  show Go p e below (T95.setTop (mkF m 49 #[.val (.long lo), .second, .val (.int hi), .val (.ref b87), .unset, .unset, .unset, .unset, .unset, .unset, .unset, .unset, .unset, .unset] [(.int ((((lo.toUInt64 >>> ((24 : Int32) &&& 0x3f).toInt64.toUInt64).toInt64) &&& (255 : Int64)).toInt32)), (.int (3 : Int32)), (.ref b87)])) _
  generalize hv_x3 : ((((lo.toUInt64 >>> ((24 : Int32) &&& 0x3f).toInt64.toUInt64).toInt64) &&& (255 : Int64)).toInt32) = x3
  show Go p e below (T95.setTop (mkF m 49 #[.val (.long lo), .second, .val (.int hi), .val (.ref b87), .unset, .unset, .unset, .unset, .unset, .unset, .unset, .unset, .unset, .unset] [(.int x3), (.int (3 : Int32)), (.ref b87)])) _
  obtain ⟨T97, h97, X97, e97, W97, V97, st97⟩ := stI' X95 hx hZ e95 f96 (j := (3 : Int32)) (by decide) (by first | decide | (simp only [List.length_cons, List.length_nil]; decide) | rfl) (g := (mkF m 49 #[.val (.long lo), .second, .val (.int hi), .val (.ref b87), .unset, .unset, .unset, .unset, .unset, .unset, .unset, .unset, .unset, .unset] [(.int x3), (.int (3 : Int32)), (.ref b87)])) rfl rfl (hb hby at_49)
  refine Go.via (st97) ?_
  clear st97
  have N97 := Fr.snoc X97 N95 ge88
  have f98 : Ia Z h97 b87 .int [x0, x1, x2, x3, (0 : Int32), (0 : Int32), (0 : Int32), (0 : Int32), (0 : Int32)] := V97
  clear X95 e95
  show Go p e below (T97.setTop (mkF m 50 #[.val (.long lo), .second, .val (.int hi), .val (.ref b87), .unset, .unset, .unset, .unset, .unset, .unset, .unset, .unset, .unset, .unset] [])) _
  refine Go.via (fun _ => XS.aloadN X97.here hx rfl (hb hby at_50) rfl rfl) ?_
  refine Go.via (fun _ => XS.iconst X97.here hx rfl (hb hby at_51)) ?_
  refine Go.via (fun _ => XS.lloadN X97.here hx rfl (hb hby at_52) rfl) ?_
  refine Go.via (fun _ => XS.bipush X97.here hx rfl (hb hby at_53)) ?_
  show Go p e below (T97.setTop (mkF m 55 #[.val (.long lo), .second, .val (.int hi), .val (.ref b87), .unset, .unset, .unset, .unset, .unset, .unset, .unset, .unset, .unset, .unset] [(.int (32 : Int32)), (.long lo), (.int (4 : Int32)), (.ref b87)])) _
  refine Go.via (fun _ => XS.lushr X97.here hx rfl (hb hby at_55) rfl) ?_
  show Go p e below (T97.setTop (mkF m 56 #[.val (.long lo), .second, .val (.int hi), .val (.ref b87), .unset, .unset, .unset, .unset, .unset, .unset, .unset, .unset, .unset, .unset] [(.long ((lo.toUInt64 >>> ((32 : Int32) &&& 0x3f).toInt64.toUInt64).toInt64)), (.int (4 : Int32)), (.ref b87)])) _
  refine Go.via (X97.ldc2Long hx hown (mvT hZ (tw hw 1 rfl)) (g := (mkF m 56 #[.val (.long lo), .second, .val (.int hi), .val (.ref b87), .unset, .unset, .unset, .unset, .unset, .unset, .unset, .unset, .unset, .unset] [(.long ((lo.toUInt64 >>> ((32 : Int32) &&& 0x3f).toInt64.toUInt64).toInt64)), (.int (4 : Int32)), (.ref b87)])) rfl (hb hby at_56)) ?_
  show Go p e below (T97.setTop (mkF m 59 #[.val (.long lo), .second, .val (.int hi), .val (.ref b87), .unset, .unset, .unset, .unset, .unset, .unset, .unset, .unset, .unset, .unset] [(.long (255 : Int64)), (.long ((lo.toUInt64 >>> ((32 : Int32) &&& 0x3f).toInt64.toUInt64).toInt64)), (.int (4 : Int32)), (.ref b87)])) _
  refine Go.via (fun _ => XS.land X97.here hx rfl (hb hby at_59) rfl) ?_
  show Go p e below (T97.setTop (mkF m 60 #[.val (.long lo), .second, .val (.int hi), .val (.ref b87), .unset, .unset, .unset, .unset, .unset, .unset, .unset, .unset, .unset, .unset] [(.long (((lo.toUInt64 >>> ((32 : Int32) &&& 0x3f).toInt64.toUInt64).toInt64) &&& (255 : Int64))), (.int (4 : Int32)), (.ref b87)])) _
  refine Go.via (fun _ => XS.l2i X97.here hx rfl (hb hby at_60) rfl) ?_
  show Go p e below (T97.setTop (mkF m 61 #[.val (.long lo), .second, .val (.int hi), .val (.ref b87), .unset, .unset, .unset, .unset, .unset, .unset, .unset, .unset, .unset, .unset] [(.int ((((lo.toUInt64 >>> ((32 : Int32) &&& 0x3f).toInt64.toUInt64).toInt64) &&& (255 : Int64)).toInt32)), (.int (4 : Int32)), (.ref b87)])) _
  generalize hv_x4 : ((((lo.toUInt64 >>> ((32 : Int32) &&& 0x3f).toInt64.toUInt64).toInt64) &&& (255 : Int64)).toInt32) = x4
  show Go p e below (T97.setTop (mkF m 61 #[.val (.long lo), .second, .val (.int hi), .val (.ref b87), .unset, .unset, .unset, .unset, .unset, .unset, .unset, .unset, .unset, .unset] [(.int x4), (.int (4 : Int32)), (.ref b87)])) _
  obtain ⟨T99, h99, X99, e99, W99, V99, st99⟩ := stI' X97 hx hZ e97 f98 (j := (4 : Int32)) (by decide) (by first | decide | (simp only [List.length_cons, List.length_nil]; decide) | rfl) (g := (mkF m 61 #[.val (.long lo), .second, .val (.int hi), .val (.ref b87), .unset, .unset, .unset, .unset, .unset, .unset, .unset, .unset, .unset, .unset] [(.int x4), (.int (4 : Int32)), (.ref b87)])) rfl rfl (hb hby at_61)
  refine Go.via (st99) ?_
  clear st99
  have N99 := Fr.snoc X99 N97 ge88
  have f100 : Ia Z h99 b87 .int [x0, x1, x2, x3, x4, (0 : Int32), (0 : Int32), (0 : Int32), (0 : Int32)] := V99
  clear X97 e97
  show Go p e below (T99.setTop (mkF m 62 #[.val (.long lo), .second, .val (.int hi), .val (.ref b87), .unset, .unset, .unset, .unset, .unset, .unset, .unset, .unset, .unset, .unset] [])) _
  refine Go.via (fun _ => XS.aloadN X99.here hx rfl (hb hby at_62) rfl rfl) ?_
  refine Go.via (fun _ => XS.iconst X99.here hx rfl (hb hby at_63)) ?_
  refine Go.via (fun _ => XS.lloadN X99.here hx rfl (hb hby at_64) rfl) ?_
  refine Go.via (fun _ => XS.bipush X99.here hx rfl (hb hby at_65)) ?_
  show Go p e below (T99.setTop (mkF m 67 #[.val (.long lo), .second, .val (.int hi), .val (.ref b87), .unset, .unset, .unset, .unset, .unset, .unset, .unset, .unset, .unset, .unset] [(.int (40 : Int32)), (.long lo), (.int (5 : Int32)), (.ref b87)])) _
  refine Go.via (fun _ => XS.lushr X99.here hx rfl (hb hby at_67) rfl) ?_
  show Go p e below (T99.setTop (mkF m 68 #[.val (.long lo), .second, .val (.int hi), .val (.ref b87), .unset, .unset, .unset, .unset, .unset, .unset, .unset, .unset, .unset, .unset] [(.long ((lo.toUInt64 >>> ((40 : Int32) &&& 0x3f).toInt64.toUInt64).toInt64)), (.int (5 : Int32)), (.ref b87)])) _
  refine Go.via (X99.ldc2Long hx hown (mvT hZ (tw hw 1 rfl)) (g := (mkF m 68 #[.val (.long lo), .second, .val (.int hi), .val (.ref b87), .unset, .unset, .unset, .unset, .unset, .unset, .unset, .unset, .unset, .unset] [(.long ((lo.toUInt64 >>> ((40 : Int32) &&& 0x3f).toInt64.toUInt64).toInt64)), (.int (5 : Int32)), (.ref b87)])) rfl (hb hby at_68)) ?_
  show Go p e below (T99.setTop (mkF m 71 #[.val (.long lo), .second, .val (.int hi), .val (.ref b87), .unset, .unset, .unset, .unset, .unset, .unset, .unset, .unset, .unset, .unset] [(.long (255 : Int64)), (.long ((lo.toUInt64 >>> ((40 : Int32) &&& 0x3f).toInt64.toUInt64).toInt64)), (.int (5 : Int32)), (.ref b87)])) _
  refine Go.via (fun _ => XS.land X99.here hx rfl (hb hby at_71) rfl) ?_
  show Go p e below (T99.setTop (mkF m 72 #[.val (.long lo), .second, .val (.int hi), .val (.ref b87), .unset, .unset, .unset, .unset, .unset, .unset, .unset, .unset, .unset, .unset] [(.long (((lo.toUInt64 >>> ((40 : Int32) &&& 0x3f).toInt64.toUInt64).toInt64) &&& (255 : Int64))), (.int (5 : Int32)), (.ref b87)])) _
  refine Go.via (fun _ => XS.l2i X99.here hx rfl (hb hby at_72) rfl) ?_
  show Go p e below (T99.setTop (mkF m 73 #[.val (.long lo), .second, .val (.int hi), .val (.ref b87), .unset, .unset, .unset, .unset, .unset, .unset, .unset, .unset, .unset, .unset] [(.int ((((lo.toUInt64 >>> ((40 : Int32) &&& 0x3f).toInt64.toUInt64).toInt64) &&& (255 : Int64)).toInt32)), (.int (5 : Int32)), (.ref b87)])) _
  generalize hv_x5 : ((((lo.toUInt64 >>> ((40 : Int32) &&& 0x3f).toInt64.toUInt64).toInt64) &&& (255 : Int64)).toInt32) = x5
  show Go p e below (T99.setTop (mkF m 73 #[.val (.long lo), .second, .val (.int hi), .val (.ref b87), .unset, .unset, .unset, .unset, .unset, .unset, .unset, .unset, .unset, .unset] [(.int x5), (.int (5 : Int32)), (.ref b87)])) _
  obtain ⟨T101, h101, X101, e101, W101, V101, st101⟩ := stI' X99 hx hZ e99 f100 (j := (5 : Int32)) (by decide) (by first | decide | (simp only [List.length_cons, List.length_nil]; decide) | rfl) (g := (mkF m 73 #[.val (.long lo), .second, .val (.int hi), .val (.ref b87), .unset, .unset, .unset, .unset, .unset, .unset, .unset, .unset, .unset, .unset] [(.int x5), (.int (5 : Int32)), (.ref b87)])) rfl rfl (hb hby at_73)
  refine Go.via (st101) ?_
  clear st101
  have N101 := Fr.snoc X101 N99 ge88
  have f102 : Ia Z h101 b87 .int [x0, x1, x2, x3, x4, x5, (0 : Int32), (0 : Int32), (0 : Int32)] := V101
  clear X99 e99
  show Go p e below (T101.setTop (mkF m 74 #[.val (.long lo), .second, .val (.int hi), .val (.ref b87), .unset, .unset, .unset, .unset, .unset, .unset, .unset, .unset, .unset, .unset] [])) _
  refine Go.via (fun _ => XS.aloadN X101.here hx rfl (hb hby at_74) rfl rfl) ?_
  refine Go.via (fun _ => XS.bipush X101.here hx rfl (hb hby at_75)) ?_
  refine Go.via (fun _ => XS.lloadN X101.here hx rfl (hb hby at_77) rfl) ?_
  refine Go.via (fun _ => XS.bipush X101.here hx rfl (hb hby at_78)) ?_
  show Go p e below (T101.setTop (mkF m 80 #[.val (.long lo), .second, .val (.int hi), .val (.ref b87), .unset, .unset, .unset, .unset, .unset, .unset, .unset, .unset, .unset, .unset] [(.int (48 : Int32)), (.long lo), (.int (6 : Int32)), (.ref b87)])) _
  refine Go.via (fun _ => XS.lushr X101.here hx rfl (hb hby at_80) rfl) ?_
  show Go p e below (T101.setTop (mkF m 81 #[.val (.long lo), .second, .val (.int hi), .val (.ref b87), .unset, .unset, .unset, .unset, .unset, .unset, .unset, .unset, .unset, .unset] [(.long ((lo.toUInt64 >>> ((48 : Int32) &&& 0x3f).toInt64.toUInt64).toInt64)), (.int (6 : Int32)), (.ref b87)])) _
  refine Go.via (X101.ldc2Long hx hown (mvT hZ (tw hw 1 rfl)) (g := (mkF m 81 #[.val (.long lo), .second, .val (.int hi), .val (.ref b87), .unset, .unset, .unset, .unset, .unset, .unset, .unset, .unset, .unset, .unset] [(.long ((lo.toUInt64 >>> ((48 : Int32) &&& 0x3f).toInt64.toUInt64).toInt64)), (.int (6 : Int32)), (.ref b87)])) rfl (hb hby at_81)) ?_
  show Go p e below (T101.setTop (mkF m 84 #[.val (.long lo), .second, .val (.int hi), .val (.ref b87), .unset, .unset, .unset, .unset, .unset, .unset, .unset, .unset, .unset, .unset] [(.long (255 : Int64)), (.long ((lo.toUInt64 >>> ((48 : Int32) &&& 0x3f).toInt64.toUInt64).toInt64)), (.int (6 : Int32)), (.ref b87)])) _
  refine Go.via (fun _ => XS.land X101.here hx rfl (hb hby at_84) rfl) ?_
  show Go p e below (T101.setTop (mkF m 85 #[.val (.long lo), .second, .val (.int hi), .val (.ref b87), .unset, .unset, .unset, .unset, .unset, .unset, .unset, .unset, .unset, .unset] [(.long (((lo.toUInt64 >>> ((48 : Int32) &&& 0x3f).toInt64.toUInt64).toInt64) &&& (255 : Int64))), (.int (6 : Int32)), (.ref b87)])) _
  refine Go.via (fun _ => XS.l2i X101.here hx rfl (hb hby at_85) rfl) ?_
  show Go p e below (T101.setTop (mkF m 86 #[.val (.long lo), .second, .val (.int hi), .val (.ref b87), .unset, .unset, .unset, .unset, .unset, .unset, .unset, .unset, .unset, .unset] [(.int ((((lo.toUInt64 >>> ((48 : Int32) &&& 0x3f).toInt64.toUInt64).toInt64) &&& (255 : Int64)).toInt32)), (.int (6 : Int32)), (.ref b87)])) _
  generalize hv_x6 : ((((lo.toUInt64 >>> ((48 : Int32) &&& 0x3f).toInt64.toUInt64).toInt64) &&& (255 : Int64)).toInt32) = x6
  show Go p e below (T101.setTop (mkF m 86 #[.val (.long lo), .second, .val (.int hi), .val (.ref b87), .unset, .unset, .unset, .unset, .unset, .unset, .unset, .unset, .unset, .unset] [(.int x6), (.int (6 : Int32)), (.ref b87)])) _
  obtain ⟨T103, h103, X103, e103, W103, V103, st103⟩ := stI' X101 hx hZ e101 f102 (j := (6 : Int32)) (by decide) (by first | decide | (simp only [List.length_cons, List.length_nil]; decide) | rfl) (g := (mkF m 86 #[.val (.long lo), .second, .val (.int hi), .val (.ref b87), .unset, .unset, .unset, .unset, .unset, .unset, .unset, .unset, .unset, .unset] [(.int x6), (.int (6 : Int32)), (.ref b87)])) rfl rfl (hb hby at_86)
  refine Go.via (st103) ?_
  clear st103
  have N103 := Fr.snoc X103 N101 ge88
  have f104 : Ia Z h103 b87 .int [x0, x1, x2, x3, x4, x5, x6, (0 : Int32), (0 : Int32)] := V103
  clear X101 e101
  show Go p e below (T103.setTop (mkF m 87 #[.val (.long lo), .second, .val (.int hi), .val (.ref b87), .unset, .unset, .unset, .unset, .unset, .unset, .unset, .unset, .unset, .unset] [])) _
  refine Go.via (fun _ => XS.aloadN X103.here hx rfl (hb hby at_87) rfl rfl) ?_
  refine Go.via (fun _ => XS.bipush X103.here hx rfl (hb hby at_88)) ?_
  refine Go.via (fun _ => XS.lloadN X103.here hx rfl (hb hby at_90) rfl) ?_
  refine Go.via (fun _ => XS.bipush X103.here hx rfl (hb hby at_91)) ?_
  show Go p e below (T103.setTop (mkF m 93 #[.val (.long lo), .second, .val (.int hi), .val (.ref b87), .unset, .unset, .unset, .unset, .unset, .unset, .unset, .unset, .unset, .unset] [(.int (56 : Int32)), (.long lo), (.int (7 : Int32)), (.ref b87)])) _
  refine Go.via (fun _ => XS.lushr X103.here hx rfl (hb hby at_93) rfl) ?_
  show Go p e below (T103.setTop (mkF m 94 #[.val (.long lo), .second, .val (.int hi), .val (.ref b87), .unset, .unset, .unset, .unset, .unset, .unset, .unset, .unset, .unset, .unset] [(.long ((lo.toUInt64 >>> ((56 : Int32) &&& 0x3f).toInt64.toUInt64).toInt64)), (.int (7 : Int32)), (.ref b87)])) _
  refine Go.via (X103.ldc2Long hx hown (mvT hZ (tw hw 1 rfl)) (g := (mkF m 94 #[.val (.long lo), .second, .val (.int hi), .val (.ref b87), .unset, .unset, .unset, .unset, .unset, .unset, .unset, .unset, .unset, .unset] [(.long ((lo.toUInt64 >>> ((56 : Int32) &&& 0x3f).toInt64.toUInt64).toInt64)), (.int (7 : Int32)), (.ref b87)])) rfl (hb hby at_94)) ?_
  show Go p e below (T103.setTop (mkF m 97 #[.val (.long lo), .second, .val (.int hi), .val (.ref b87), .unset, .unset, .unset, .unset, .unset, .unset, .unset, .unset, .unset, .unset] [(.long (255 : Int64)), (.long ((lo.toUInt64 >>> ((56 : Int32) &&& 0x3f).toInt64.toUInt64).toInt64)), (.int (7 : Int32)), (.ref b87)])) _
  refine Go.via (fun _ => XS.land X103.here hx rfl (hb hby at_97) rfl) ?_
  show Go p e below (T103.setTop (mkF m 98 #[.val (.long lo), .second, .val (.int hi), .val (.ref b87), .unset, .unset, .unset, .unset, .unset, .unset, .unset, .unset, .unset, .unset] [(.long (((lo.toUInt64 >>> ((56 : Int32) &&& 0x3f).toInt64.toUInt64).toInt64) &&& (255 : Int64))), (.int (7 : Int32)), (.ref b87)])) _
  refine Go.via (fun _ => XS.l2i X103.here hx rfl (hb hby at_98) rfl) ?_
  show Go p e below (T103.setTop (mkF m 99 #[.val (.long lo), .second, .val (.int hi), .val (.ref b87), .unset, .unset, .unset, .unset, .unset, .unset, .unset, .unset, .unset, .unset] [(.int ((((lo.toUInt64 >>> ((56 : Int32) &&& 0x3f).toInt64.toUInt64).toInt64) &&& (255 : Int64)).toInt32)), (.int (7 : Int32)), (.ref b87)])) _
  generalize hv_x7 : ((((lo.toUInt64 >>> ((56 : Int32) &&& 0x3f).toInt64.toUInt64).toInt64) &&& (255 : Int64)).toInt32) = x7
  show Go p e below (T103.setTop (mkF m 99 #[.val (.long lo), .second, .val (.int hi), .val (.ref b87), .unset, .unset, .unset, .unset, .unset, .unset, .unset, .unset, .unset, .unset] [(.int x7), (.int (7 : Int32)), (.ref b87)])) _
  obtain ⟨T105, h105, X105, e105, W105, V105, st105⟩ := stI' X103 hx hZ e103 f104 (j := (7 : Int32)) (by decide) (by first | decide | (simp only [List.length_cons, List.length_nil]; decide) | rfl) (g := (mkF m 99 #[.val (.long lo), .second, .val (.int hi), .val (.ref b87), .unset, .unset, .unset, .unset, .unset, .unset, .unset, .unset, .unset, .unset] [(.int x7), (.int (7 : Int32)), (.ref b87)])) rfl rfl (hb hby at_99)
  refine Go.via (st105) ?_
  clear st105
  have N105 := Fr.snoc X105 N103 ge88
  have f106 : Ia Z h105 b87 .int [x0, x1, x2, x3, x4, x5, x6, x7, (0 : Int32)] := V105
  clear X103 e103
  show Go p e below (T105.setTop (mkF m 100 #[.val (.long lo), .second, .val (.int hi), .val (.ref b87), .unset, .unset, .unset, .unset, .unset, .unset, .unset, .unset, .unset, .unset] [])) _
  refine Go.via (fun _ => XS.aloadN X105.here hx rfl (hb hby at_100) rfl rfl) ?_
  refine Go.via (fun _ => XS.bipush X105.here hx rfl (hb hby at_101)) ?_
  refine Go.via (fun _ => XS.iloadN X105.here hx rfl (hb hby at_103) rfl) ?_
  refine Go.via (fun _ => XS.sipush X105.here hx rfl (hb hby at_104)) ?_
  show Go p e below (T105.setTop (mkF m 107 #[.val (.long lo), .second, .val (.int hi), .val (.ref b87), .unset, .unset, .unset, .unset, .unset, .unset, .unset, .unset, .unset, .unset] [(.int (255 : Int32)), (.int hi), (.int (8 : Int32)), (.ref b87)])) _
  refine Go.via (fun _ => XS.iand X105.here hx rfl (hb hby at_107) rfl) ?_
  show Go p e below (T105.setTop (mkF m 108 #[.val (.long lo), .second, .val (.int hi), .val (.ref b87), .unset, .unset, .unset, .unset, .unset, .unset, .unset, .unset, .unset, .unset] [(.int (hi &&& (255 : Int32))), (.int (8 : Int32)), (.ref b87)])) _
  generalize hv_x8 : (hi &&& (255 : Int32)) = x8
  show Go p e below (T105.setTop (mkF m 108 #[.val (.long lo), .second, .val (.int hi), .val (.ref b87), .unset, .unset, .unset, .unset, .unset, .unset, .unset, .unset, .unset, .unset] [(.int x8), (.int (8 : Int32)), (.ref b87)])) _
  obtain ⟨T107, h107, X107, e107, W107, V107, st107⟩ := stI' X105 hx hZ e105 f106 (j := (8 : Int32)) (by decide) (by first | decide | (simp only [List.length_cons, List.length_nil]; decide) | rfl) (g := (mkF m 108 #[.val (.long lo), .second, .val (.int hi), .val (.ref b87), .unset, .unset, .unset, .unset, .unset, .unset, .unset, .unset, .unset, .unset] [(.int x8), (.int (8 : Int32)), (.ref b87)])) rfl rfl (hb hby at_108)
  refine Go.via (st107) ?_
  clear st107
  have N107 := Fr.snoc X107 N105 ge88
  have f108 : Ia Z h107 b87 .int [x0, x1, x2, x3, x4, x5, x6, x7, x8] := V107
  clear X105 e105
  show Go p e below (T107.setTop (mkF m 109 #[.val (.long lo), .second, .val (.int hi), .val (.ref b87), .unset, .unset, .unset, .unset, .unset, .unset, .unset, .unset, .unset, .unset] [])) _
  have k110 : Keep h0 h107 [] := (((((((((((Keep.refl h0 []).ext E87).wr W91 (Or.inr sz89)).wr W93 (Or.inr sz89)).wr W95 (Or.inr sz89)).wr W97 (Or.inr sz89)).wr W99 (Or.inr sz89)).wr W101 (Or.inr sz89)).wr W103 (Or.inr sz89)).wr W105 (Or.inr sz89)).wr W107 (Or.inr sz89))
  have z111 : n0 ≤ h107.size := (Nat.le_trans (Nat.le_trans (Nat.le_trans (Nat.le_trans (Nat.le_trans (Nat.le_trans (Nat.le_trans (Nat.le_trans (Nat.le_trans (Nat.le_trans Z0 E87.1) (Keep.of_wr W91).1) (Keep.of_wr W93).1) (Keep.of_wr W95).1) (Keep.of_wr W97).1) (Keep.of_wr W99).1) (Keep.of_wr W101).1) (Keep.of_wr W103).1) (Keep.of_wr W105).1) (Keep.of_wr W107).1)
  obtain ⟨T109, h109, X109, e109, E109, A109, D109, -, st109⟩ := newO X107 hx hZ hown (tw hw 2 rfl) (tw hw 3 rfl) (tw hw 4 rfl) e107 (g := (mkF m 109 #[.val (.long lo), .second, .val (.int hi), .val (.ref b87), .unset, .unset, .unset, .unset, .unset, .unset, .unset, .unset, .unset, .unset] [])) rfl (hb hby at_109) (by decide) (by decide)
  obtain ⟨b109, g109⟩ : ∃ z, z = h107.size := ⟨_, rfl⟩
  rw [← g109] at A109 D109 st109
  have ne112 : b87 ≠ b109 := Nat.ne_of_lt (Nat.lt_of_lt_of_le f108.lt (Nat.le_of_eq g109.symm))
  have ge113 : n0 ≤ b109 := Nat.le_trans z111 (Nat.le_of_eq g109.symm)
  have sz114 : h0.size ≤ b109 := Nat.le_trans k110.1 (Nat.le_of_eq g109.symm)
  refine Go.via (st109) ?_
  clear st109
  have f115 : Fld Z h109 b109 "com/example/relate_by_hash/relatebyhash/ctph/RollingHash" "window" "[I" .null := D109 (Or.inr (tw hw 12 rfl)) (ty := (.array .int)) (by decide)
  have f116 : Fld Z h109 b109 "com/example/relate_by_hash/relatebyhash/ctph/RollingHash" "weightedSum" "I" (.int (0 : Int32)) := D109 (Or.inl (tw hw 19 rfl)) (ty := .int) (by decide)
  have f117 : Fld Z h109 b109 "com/example/relate_by_hash/relatebyhash/ctph/RollingHash" "windowSum" "I" (.int (0 : Int32)) := D109 (Or.inl (tw hw 21 rfl)) (ty := .int) (by decide)
  have f118 : Fld Z h109 b109 "com/example/relate_by_hash/relatebyhash/ctph/RollingHash" "windowIndex" "I" (.int (0 : Int32)) := D109 (Or.inl (tw hw 23 rfl)) (ty := .int) (by decide)
  have f119 : Fld Z h109 b109 "com/example/relate_by_hash/relatebyhash/ctph/RollingHash" "shiftHash" "I" (.int (0 : Int32)) := D109 (Or.inl (tw hw 25 rfl)) (ty := .int) (by decide)
  clear X107 e107
  show Go p e below (T109.setTop (mkF m 112 #[.val (.long lo), .second, .val (.int hi), .val (.ref b87), .unset, .unset, .unset, .unset, .unset, .unset, .unset, .unset, .unset, .unset] [(.ref b109)])) _
  refine Go.via (fun _ => XS.dup X109.here hx rfl (hb hby at_112) rfl rfl) ?_
  have z121 : n0 ≤ h109.size := (Nat.le_trans z111 E109.1)
  obtain ⟨r120, _, ⟨T120, L120, k120, n120⟩, -, X120, ⟨Lc120, hQ120, l120, y120, z120⟩, st120⟩ := X109.specialBack hx (y := (⟨"com/example/relate_by_hash/relatebyhash/ctph/RollingHash", "<init>", "()V"⟩ : MethodName)) rfl hown (mvT hZ (tw hw 5 rfl)) (mvT hZ (tw hw 6 rfl)) (mvT hZ (tw hw 7 rfl)) (by decide) (backOf (W := 1) (rm1 l Z a0 hw [] b109  h109 n0 z121 A109 f115 f116 f117 f118 f119 ge113) hZ (tw hw 7 rfl) (tw hw 4 rfl) (by decide) (by decide)) (g := (mkF m 113 #[.val (.long lo), .second, .val (.int hi), .val (.ref b87), .unset, .unset, .unset, .unset, .unset, .unset, .unset, .unset, .unset, .unset] [(.ref b109), (.ref b109)])) rfl (by rw [hml]; rfl) (Steps.refl _) (a := b109) (argsL := []) (rest := [(.ref b109)]) (lenOf pd__28_29V rfl) rfl (by show 2 * 0 + _ ≤ _; exact Nat.le_of_eq rfl) (hb hby at_113) (fun _ _ => ⟨rfl, e109, (by decide : 2 + 1 ≤ _), (by decide : 14 + 7 ≤ _)⟩)
  dsimp only [Pt.U, Pt.locs, Pt.cells, Pt.slots] at X120 l120 y120 z120 st120 hQ120
  rw [l120, y120, z120] at X120
  clear l120 y120 z120
  obtain ⟨b122, hr120, N120q, K120q, fz_b122, f123, f124, f125, f126, f127, f128, f129⟩ := hQ120
  rw [hr120] at st120
  clear hr120
  have N120 := Fr.app N107 N120q
  refine Go.via (fun _ kQ => st120.trans kQ) ?_
  clear st120
  have ne130 : b109 ≠ b122 := Nat.ne_of_lt (Nat.lt_of_lt_of_le A109.lt fz_b122)
  have f131 : Ia Z h109 b87 .int [x0, x1, x2, x3, x4, x5, x6, x7, x8] := (f108.ext E109)
  have ne132 : b87 ≠ b122 := Nat.ne_of_lt (Nat.lt_of_lt_of_le f131.lt fz_b122)
  have ge133 : n0 ≤ b122 := Nat.le_trans z121 fz_b122
  have k135 : Keep h0 h109 [] := (k110.ext E109)
  have sz134 : h0.size ≤ b122 := Nat.le_trans k135.1 fz_b122
  have e120 : T120.heap = T120.heap := rfl
  have f136 : Exa Z T120.heap b109 "com/example/relate_by_hash/relatebyhash/ctph/RollingHash" := f123
  have f137 : Fld Z T120.heap b109 "com/example/relate_by_hash/relatebyhash/ctph/RollingHash" "window" "[I" (.ref b122) := f124
  have f138 : Fld Z T120.heap b109 "com/example/relate_by_hash/relatebyhash/ctph/RollingHash" "weightedSum" "I" (.int (0 : Int32)) := f125
  have f139 : Fld Z T120.heap b109 "com/example/relate_by_hash/relatebyhash/ctph/RollingHash" "windowSum" "I" (.int (0 : Int32)) := f126
  have f140 : Fld Z T120.heap b109 "com/example/relate_by_hash/relatebyhash/ctph/RollingHash" "windowIndex" "I" (.int (0 : Int32)) := f127
  have f141 : Fld Z T120.heap b109 "com/example/relate_by_hash/relatebyhash/ctph/RollingHash" "shiftHash" "I" (.int (0 : Int32)) := f128
  have f142 : Ia Z T120.heap b122 .int [(0 : Int32), (0 : Int32), (0 : Int32), (0 : Int32), (0 : Int32), (0 : Int32), (0 : Int32)] := f129
  clear X109 e109
  show Go p e below (T120.setTop (mkF m 116 #[.val (.long lo), .second, .val (.int hi), .val (.ref b87), .unset, .unset, .unset, .unset, .unset, .unset, .unset, .unset, .unset, .unset] [(.ref b109)])) _
  refine Go.via (fun _ => XS.astore X120.here hx rfl (hb hby at_116) rfl rfl (l' := #[.val (.long lo), .second, .val (.int hi), .val (.ref b87), .val (.ref b109), .unset, .unset, .unset, .unset, .unset, .unset, .unset, .unset, .unset]) rfl) ?_
  show Go p e below (T120.setTop (mkF m 118 #[.val (.long lo), .second, .val (.int hi), .val (.ref b87), .val (.ref b109), .unset, .unset, .unset, .unset, .unset, .unset, .unset, .unset, .unset] [])) _
  refine Go.via (fun _ => XS.aload X120.here hx rfl (hb hby at_118) rfl rfl) ?_
  refine Go.via (fun _ => XS.aloadN X120.here hx rfl (hb hby at_120) rfl rfl) ?_
  refine Go.via (fun _ => XS.iconst X120.here hx rfl (hb hby at_121)) ?_
  have f143 : Ia Z T120.heap b87 .int [x0, x1, x2, x3, x4, x5, x6, x7, x8] := (f131.keep K120q (ninS ne112 nin0))
  refine Go.via (ldI X120 hx hZ e120 f143 (v := x0) (by decide) rfl (g := (mkF m 122 #[.val (.long lo), .second, .val (.int hi), .val (.ref b87), .val (.ref b109), .unset, .unset, .unset, .unset, .unset, .unset, .unset, .unset, .unset] [(.int (0 : Int32)), (.ref b87), (.ref b109)])) rfl rfl (hb hby at_122)) ?_
  show Go p e below (T120.setTop (mkF m 123 #[.val (.long lo), .second, .val (.int hi), .val (.ref b87), .val (.ref b109), .unset, .unset, .unset, .unset, .unset, .unset, .unset, .unset, .unset] [(.int x0), (.ref b109)])) _
  have z145 : n0 ≤ T120.heap.size := (Nat.le_trans z121 K120q.1)
  obtain ⟨cq144, kq144, q144a, q144b, q144c⟩ := isOf hZ e120 f136
  obtain ⟨r144, _, ⟨T144, L144, k144, n144⟩, -, X144, ⟨Lc144, hQ144, l144, y144, z144⟩, st144⟩ := X120.virtualBack hx (y := (⟨"com/example/relate_by_hash/relatebyhash/ctph/RollingHash", "update", "(I)I"⟩ : MethodName)) (z := (⟨"com/example/relate_by_hash/relatebyhash/ctph/RollingHash", "update", "(I)I"⟩ : MethodName)) hown (mvT hZ (tw hw 13 rfl)) (mvT hZ (tw hw 14 rfl)) (notFace_of_selects (args := #[]) (mvT hZ (tw hw 16 rfl))) (mvT hZ (tw hw 16 rfl)) (mvT hZ (tw hw 15 rfl)) (by decide) (backOf (W := 0) (rm3 l Z a0 hw [] b109 x0 b122 [(0 : Int32), (0 : Int32), (0 : Int32), (0 : Int32), (0 : Int32), (0 : Int32), (0 : Int32)] (0 : Int32) (0 : Int32) (0 : Int32) (0 : Int32) (0 : Int32) T120.heap n0 z145 f136 f137 f138 f139 f140 f141 f142 ge113 ge133 ne130 (by decide) rfl) hZ (tw hw 17 rfl) (tw hw 4 rfl) (by decide) (by decide)) q144a q144c (g := (mkF m 123 #[.val (.long lo), .second, .val (.int hi), .val (.ref b87), .val (.ref b109), .unset, .unset, .unset, .unset, .unset, .unset, .unset, .unset, .unset] [(.int x0), (.ref b109)])) rfl (by rw [hml]; rfl) (Steps.refl _) (argsL := [(.int x0)]) (rest := []) (lenOf pd__28I_29I rfl) rfl (by show 2 * 0 + _ ≤ _; exact Nat.le_of_eq rfl) (hb hby at_123) (fun _ _ => ⟨rfl, e120, (by decide : 3 + 0 ≤ _), (by decide : 21 + 0 ≤ _)⟩)
  dsimp only [Pt.U, Pt.locs, Pt.cells, Pt.slots] at X144 l144 y144 z144 st144 hQ144
  rw [l144, y144, z144] at X144
  clear l144 y144 z144
  obtain ⟨v146, v147, v148, hr144, N144q, K144q, f149, f150, f151, f152, f153, f154, f155, qp156, qp157, qp158⟩ := hQ144
  rw [hr144] at st144
  clear hr144
  have N144 := Fr.app N120 N144q
  refine Go.via (fun _ kQ => st144.trans kQ) ?_
  clear st144
  have e144 : T144.heap = T144.heap := rfl
  have f159 : Exa Z T144.heap b109 "com/example/relate_by_hash/relatebyhash/ctph/RollingHash" := f149
  have f160 : Fld Z T144.heap b109 "com/example/relate_by_hash/relatebyhash/ctph/RollingHash" "window" "[I" (.ref b122) := f150
  have f161 : Fld Z T144.heap b109 "com/example/relate_by_hash/relatebyhash/ctph/RollingHash" "weightedSum" "I" (.int v147) := f151
  have f162 : Fld Z T144.heap b109 "com/example/relate_by_hash/relatebyhash/ctph/RollingHash" "windowSum" "I" (.int v146) := f152
  have f163 : Fld Z T144.heap b109 "com/example/relate_by_hash/relatebyhash/ctph/RollingHash" "windowIndex" "I" (.int (1 : Int32)) := f153
  have f164 : Fld Z T144.heap b109 "com/example/relate_by_hash/relatebyhash/ctph/RollingHash" "shiftHash" "I" (.int v148) := f154
  have f165 : Ia Z T144.heap b122 .int [x0, (0 : Int32), (0 : Int32), (0 : Int32), (0 : Int32), (0 : Int32), (0 : Int32)] := f155
  clear X120 e120
  show Go p e below (T144.setTop (mkF m 126 #[.val (.long lo), .second, .val (.int hi), .val (.ref b87), .val (.ref b109), .unset, .unset, .unset, .unset, .unset, .unset, .unset, .unset, .unset] [(.int ((v146 + v147) + v148))])) _
  refine Go.via (fun _ => XS.istore X144.here hx rfl (hb hby at_126) rfl (l' := #[.val (.long lo), .second, .val (.int hi), .val (.ref b87), .val (.ref b109), .val (.int ((v146 + v147) + v148)), .unset, .unset, .unset, .unset, .unset, .unset, .unset, .unset]) rfl) ?_
  show Go p e below (T144.setTop (mkF m 128 #[.val (.long lo), .second, .val (.int hi), .val (.ref b87), .val (.ref b109), .val (.int ((v146 + v147) + v148)), .unset, .unset, .unset, .unset, .unset, .unset, .unset, .unset] [])) _
  refine Go.via (fun _ => XS.aload X144.here hx rfl (hb hby at_128) rfl rfl) ?_
  refine Go.via (fun _ => XS.aloadN X144.here hx rfl (hb hby at_130) rfl rfl) ?_
  refine Go.via (fun _ => XS.iconst X144.here hx rfl (hb hby at_131)) ?_
  have f166 : Ia Z T144.heap b87 .int [x0, x1, x2, x3, x4, x5, x6, x7, x8] := (f143.keep K144q (ninS ne112 (ninS ne132 nin0)))
  refine Go.via (ldI X144 hx hZ e144 f166 (v := x1) (by decide) rfl (g := (mkF m 132 #[.val (.long lo), .second, .val (.int hi), .val (.ref b87), .val (.ref b109), .val (.int ((v146 + v147) + v148)), .unset, .unset, .unset, .unset, .unset, .unset, .unset, .unset] [(.int (1 : Int32)), (.ref b87), (.ref b109)])) rfl rfl (hb hby at_132)) ?_
  show Go p e below (T144.setTop (mkF m 133 #[.val (.long lo), .second, .val (.int hi), .val (.ref b87), .val (.ref b109), .val (.int ((v146 + v147) + v148)), .unset, .unset, .unset, .unset, .unset, .unset, .unset, .unset] [(.int x1), (.ref b109)])) _
  have z168 : n0 ≤ T144.heap.size := (Nat.le_trans z145 K144q.1)
  obtain ⟨cq167, kq167, q167a, q167b, q167c⟩ := isOf hZ e144 f159
  obtain ⟨r167, _, ⟨T167, L167, k167, n167⟩, -, X167, ⟨Lc167, hQ167, l167, y167, z167⟩, st167⟩ := X144.virtualBack hx (y := (⟨"com/example/relate_by_hash/relatebyhash/ctph/RollingHash", "update", "(I)I"⟩ : MethodName)) (z := (⟨"com/example/relate_by_hash/relatebyhash/ctph/RollingHash", "update", "(I)I"⟩ : MethodName)) hown (mvT hZ (tw hw 13 rfl)) (mvT hZ (tw hw 14 rfl)) (notFace_of_selects (args := #[]) (mvT hZ (tw hw 16 rfl))) (mvT hZ (tw hw 16 rfl)) (mvT hZ (tw hw 15 rfl)) (by decide) (backOf (W := 0) (rm3 l Z a0 hw [] b109 x1 b122 [x0, (0 : Int32), (0 : Int32), (0 : Int32), (0 : Int32), (0 : Int32), (0 : Int32)] v147 v146 (1 : Int32) v148 (0 : Int32) T144.heap n0 z168 f159 f160 f161 f162 f163 f164 f165 ge113 ge133 ne130 (by decide) rfl) hZ (tw hw 17 rfl) (tw hw 4 rfl) (by decide) (by decide)) q167a q167c (g := (mkF m 133 #[.val (.long lo), .second, .val (.int hi), .val (.ref b87), .val (.ref b109), .val (.int ((v146 + v147) + v148)), .unset, .unset, .unset, .unset, .unset, .unset, .unset, .unset] [(.int x1), (.ref b109)])) rfl (by rw [hml]; rfl) (Steps.refl _) (argsL := [(.int x1)]) (rest := []) (lenOf pd__28I_29I rfl) rfl (by show 2 * 0 + _ ≤ _; exact Nat.le_of_eq rfl) (hb hby at_133) (fun _ _ => ⟨rfl, e144, (by decide : 3 + 0 ≤ _), (by decide : 21 + 0 ≤ _)⟩)
  dsimp only [Pt.U, Pt.locs, Pt.cells, Pt.slots] at X167 l167 y167 z167 st167 hQ167
  rw [l167, y167, z167] at X167
  clear l167 y167 z167
  obtain ⟨v169, v170, v171, hr167, N167q, K167q, f172, f173, f174, f175, f176, f177, f178, qp179, qp180, qp181⟩ := hQ167
  rw [hr167] at st167
  clear hr167
  have N167 := Fr.app N144 N167q
  refine Go.via (fun _ kQ => st167.trans kQ) ?_
  clear st167
  have e167 : T167.heap = T167.heap := rfl
  have f182 : Exa Z T167.heap b109 "com/example/relate_by_hash/relatebyhash/ctph/RollingHash" := f172
  have f183 : Fld Z T167.heap b109 "com/example/relate_by_hash/relatebyhash/ctph/RollingHash" "window" "[I" (.ref b122) := f173
  have f184 : Fld Z T167.heap b109 "com/example/relate_by_hash/relatebyhash/ctph/RollingHash" "weightedSum" "I" (.int v170) := f174
  have f185 : Fld Z T167.heap b109 "com/example/relate_by_hash/relatebyhash/ctph/RollingHash" "windowSum" "I" (.int v169) := f175
  have f186 : Fld Z T167.heap b109 "com/example/relate_by_hash/relatebyhash/ctph/RollingHash" "windowIndex" "I" (.int (2 : Int32)) := f176
  have f187 : Fld Z T167.heap b109 "com/example/relate_by_hash/relatebyhash/ctph/RollingHash" "shiftHash" "I" (.int v171) := f177
  have f188 : Ia Z T167.heap b122 .int [x0, x1, (0 : Int32), (0 : Int32), (0 : Int32), (0 : Int32), (0 : Int32)] := f178
  clear X144 e144
  show Go p e below (T167.setTop (mkF m 136 #[.val (.long lo), .second, .val (.int hi), .val (.ref b87), .val (.ref b109), .val (.int ((v146 + v147) + v148)), .unset, .unset, .unset, .unset, .unset, .unset, .unset, .unset] [(.int ((v169 + v170) + v171))])) _
  refine Go.via (fun _ => XS.istore X167.here hx rfl (hb hby at_136) rfl (l' := #[.val (.long lo), .second, .val (.int hi), .val (.ref b87), .val (.ref b109), .val (.int ((v146 + v147) + v148)), .val (.int ((v169 + v170) + v171)), .unset, .unset, .unset, .unset, .unset, .unset, .unset]) rfl) ?_
  show Go p e below (T167.setTop (mkF m 138 #[.val (.long lo), .second, .val (.int hi), .val (.ref b87), .val (.ref b109), .val (.int ((v146 + v147) + v148)), .val (.int ((v169 + v170) + v171)), .unset, .unset, .unset, .unset, .unset, .unset, .unset] [])) _
  refine Go.via (fun _ => XS.aload X167.here hx rfl (hb hby at_138) rfl rfl) ?_
  refine Go.via (fun _ => XS.aloadN X167.here hx rfl (hb hby at_140) rfl rfl) ?_
  refine Go.via (fun _ => XS.iconst X167.here hx rfl (hb hby at_141)) ?_
  have f189 : Ia Z T167.heap b87 .int [x0, x1, x2, x3, x4, x5, x6, x7, x8] := (f166.keep K167q (ninS ne112 (ninS ne132 nin0)))
  refine Go.via (ldI X167 hx hZ e167 f189 (v := x2) (by decide) rfl (g := (mkF m 142 #[.val (.long lo), .second, .val (.int hi), .val (.ref b87), .val (.ref b109), .val (.int ((v146 + v147) + v148)), .val (.int ((v169 + v170) + v171)), .unset, .unset, .unset, .unset, .unset, .unset, .unset] [(.int (2 : Int32)), (.ref b87), (.ref b109)])) rfl rfl (hb hby at_142)) ?_
  show Go p e below (T167.setTop (mkF m 143 #[.val (.long lo), .second, .val (.int hi), .val (.ref b87), .val (.ref b109), .val (.int ((v146 + v147) + v148)), .val (.int ((v169 + v170) + v171)), .unset, .unset, .unset, .unset, .unset, .unset, .unset] [(.int x2), (.ref b109)])) _
  have z191 : n0 ≤ T167.heap.size := (Nat.le_trans z168 K167q.1)
  obtain ⟨cq190, kq190, q190a, q190b, q190c⟩ := isOf hZ e167 f182
  obtain ⟨r190, _, ⟨T190, L190, k190, n190⟩, -, X190, ⟨Lc190, hQ190, l190, y190, z190⟩, st190⟩ := X167.virtualBack hx (y := (⟨"com/example/relate_by_hash/relatebyhash/ctph/RollingHash", "update", "(I)I"⟩ : MethodName)) (z := (⟨"com/example/relate_by_hash/relatebyhash/ctph/RollingHash", "update", "(I)I"⟩ : MethodName)) hown (mvT hZ (tw hw 13 rfl)) (mvT hZ (tw hw 14 rfl)) (notFace_of_selects (args := #[]) (mvT hZ (tw hw 16 rfl))) (mvT hZ (tw hw 16 rfl)) (mvT hZ (tw hw 15 rfl)) (by decide) (backOf (W := 0) (rm3 l Z a0 hw [] b109 x2 b122 [x0, x1, (0 : Int32), (0 : Int32), (0 : Int32), (0 : Int32), (0 : Int32)] v170 v169 (2 : Int32) v171 (0 : Int32) T167.heap n0 z191 f182 f183 f184 f185 f186 f187 f188 ge113 ge133 ne130 (by decide) rfl) hZ (tw hw 17 rfl) (tw hw 4 rfl) (by decide) (by decide)) q190a q190c (g := (mkF m 143 #[.val (.long lo), .second, .val (.int hi), .val (.ref b87), .val (.ref b109), .val (.int ((v146 + v147) + v148)), .val (.int ((v169 + v170) + v171)), .unset, .unset, .unset, .unset, .unset, .unset, .unset] [(.int x2), (.ref b109)])) rfl (by rw [hml]; rfl) (Steps.refl _) (argsL := [(.int x2)]) (rest := []) (lenOf pd__28I_29I rfl) rfl (by show 2 * 0 + _ ≤ _; exact Nat.le_of_eq rfl) (hb hby at_143) (fun _ _ => ⟨rfl, e167, (by decide : 3 + 0 ≤ _), (by decide : 21 + 0 ≤ _)⟩)
  dsimp only [Pt.U, Pt.locs, Pt.cells, Pt.slots] at X190 l190 y190 z190 st190 hQ190
  rw [l190, y190, z190] at X190
  clear l190 y190 z190
  obtain ⟨v192, v193, v194, hr190, N190q, K190q, f195, f196, f197, f198, f199, f200, f201, qp202, qp203, qp204⟩ := hQ190
  rw [hr190] at st190
  clear hr190
  have N190 := Fr.app N167 N190q
  refine Go.via (fun _ kQ => st190.trans kQ) ?_
  clear st190
  have e190 : T190.heap = T190.heap := rfl
  have f205 : Exa Z T190.heap b109 "com/example/relate_by_hash/relatebyhash/ctph/RollingHash" := f195
  have f206 : Fld Z T190.heap b109 "com/example/relate_by_hash/relatebyhash/ctph/RollingHash" "window" "[I" (.ref b122) := f196
  have f207 : Fld Z T190.heap b109 "com/example/relate_by_hash/relatebyhash/ctph/RollingHash" "weightedSum" "I" (.int v193) := f197
  have f208 : Fld Z T190.heap b109 "com/example/relate_by_hash/relatebyhash/ctph/RollingHash" "windowSum" "I" (.int v192) := f198
  have f209 : Fld Z T190.heap b109 "com/example/relate_by_hash/relatebyhash/ctph/RollingHash" "windowIndex" "I" (.int (3 : Int32)) := f199
  have f210 : Fld Z T190.heap b109 "com/example/relate_by_hash/relatebyhash/ctph/RollingHash" "shiftHash" "I" (.int v194) := f200
  have f211 : Ia Z T190.heap b122 .int [x0, x1, x2, (0 : Int32), (0 : Int32), (0 : Int32), (0 : Int32)] := f201
  clear X167 e167
  show Go p e below (T190.setTop (mkF m 146 #[.val (.long lo), .second, .val (.int hi), .val (.ref b87), .val (.ref b109), .val (.int ((v146 + v147) + v148)), .val (.int ((v169 + v170) + v171)), .unset, .unset, .unset, .unset, .unset, .unset, .unset] [(.int ((v192 + v193) + v194))])) _
  refine Go.via (fun _ => XS.istore X190.here hx rfl (hb hby at_146) rfl (l' := #[.val (.long lo), .second, .val (.int hi), .val (.ref b87), .val (.ref b109), .val (.int ((v146 + v147) + v148)), .val (.int ((v169 + v170) + v171)), .val (.int ((v192 + v193) + v194)), .unset, .unset, .unset, .unset, .unset, .unset]) rfl) ?_
  show Go p e below (T190.setTop (mkF m 148 #[.val (.long lo), .second, .val (.int hi), .val (.ref b87), .val (.ref b109), .val (.int ((v146 + v147) + v148)), .val (.int ((v169 + v170) + v171)), .val (.int ((v192 + v193) + v194)), .unset, .unset, .unset, .unset, .unset, .unset] [])) _
  refine Go.via (fun _ => XS.aload X190.here hx rfl (hb hby at_148) rfl rfl) ?_
  refine Go.via (fun _ => XS.aloadN X190.here hx rfl (hb hby at_150) rfl rfl) ?_
  refine Go.via (fun _ => XS.iconst X190.here hx rfl (hb hby at_151)) ?_
  have f212 : Ia Z T190.heap b87 .int [x0, x1, x2, x3, x4, x5, x6, x7, x8] := (f189.keep K190q (ninS ne112 (ninS ne132 nin0)))
  refine Go.via (ldI X190 hx hZ e190 f212 (v := x3) (by decide) rfl (g := (mkF m 152 #[.val (.long lo), .second, .val (.int hi), .val (.ref b87), .val (.ref b109), .val (.int ((v146 + v147) + v148)), .val (.int ((v169 + v170) + v171)), .val (.int ((v192 + v193) + v194)), .unset, .unset, .unset, .unset, .unset, .unset] [(.int (3 : Int32)), (.ref b87), (.ref b109)])) rfl rfl (hb hby at_152)) ?_
  show Go p e below (T190.setTop (mkF m 153 #[.val (.long lo), .second, .val (.int hi), .val (.ref b87), .val (.ref b109), .val (.int ((v146 + v147) + v148)), .val (.int ((v169 + v170) + v171)), .val (.int ((v192 + v193) + v194)), .unset, .unset, .unset, .unset, .unset, .unset] [(.int x3), (.ref b109)])) _
  have z214 : n0 ≤ T190.heap.size := (Nat.le_trans z191 K190q.1)
  obtain ⟨cq213, kq213, q213a, q213b, q213c⟩ := isOf hZ e190 f205
  obtain ⟨r213, _, ⟨T213, L213, k213, n213⟩, -, X213, ⟨Lc213, hQ213, l213, y213, z213⟩, st213⟩ := X190.virtualBack hx (y := (⟨"com/example/relate_by_hash/relatebyhash/ctph/RollingHash", "update", "(I)I"⟩ : MethodName)) (z := (⟨"com/example/relate_by_hash/relatebyhash/ctph/RollingHash", "update", "(I)I"⟩ : MethodName)) hown (mvT hZ (tw hw 13 rfl)) (mvT hZ (tw hw 14 rfl)) (notFace_of_selects (args := #[]) (mvT hZ (tw hw 16 rfl))) (mvT hZ (tw hw 16 rfl)) (mvT hZ (tw hw 15 rfl)) (by decide) (backOf (W := 0) (rm3 l Z a0 hw [] b109 x3 b122 [x0, x1, x2, (0 : Int32), (0 : Int32), (0 : Int32), (0 : Int32)] v193 v192 (3 : Int32) v194 (0 : Int32) T190.heap n0 z214 f205 f206 f207 f208 f209 f210 f211 ge113 ge133 ne130 (by decide) rfl) hZ (tw hw 17 rfl) (tw hw 4 rfl) (by decide) (by decide)) q213a q213c (g := (mkF m 153 #[.val (.long lo), .second, .val (.int hi), .val (.ref b87), .val (.ref b109), .val (.int ((v146 + v147) + v148)), .val (.int ((v169 + v170) + v171)), .val (.int ((v192 + v193) + v194)), .unset, .unset, .unset, .unset, .unset, .unset] [(.int x3), (.ref b109)])) rfl (by rw [hml]; rfl) (Steps.refl _) (argsL := [(.int x3)]) (rest := []) (lenOf pd__28I_29I rfl) rfl (by show 2 * 0 + _ ≤ _; exact Nat.le_of_eq rfl) (hb hby at_153) (fun _ _ => ⟨rfl, e190, (by decide : 3 + 0 ≤ _), (by decide : 21 + 0 ≤ _)⟩)
  dsimp only [Pt.U, Pt.locs, Pt.cells, Pt.slots] at X213 l213 y213 z213 st213 hQ213
  rw [l213, y213, z213] at X213
  clear l213 y213 z213
  obtain ⟨v215, v216, v217, hr213, N213q, K213q, f218, f219, f220, f221, f222, f223, f224, qp225, qp226, qp227⟩ := hQ213
  rw [hr213] at st213
  clear hr213
  have N213 := Fr.app N190 N213q
  refine Go.via (fun _ kQ => st213.trans kQ) ?_
  clear st213
  have e213 : T213.heap = T213.heap := rfl
  have f228 : Exa Z T213.heap b109 "com/example/relate_by_hash/relatebyhash/ctph/RollingHash" := f218
  have f229 : Fld Z T213.heap b109 "com/example/relate_by_hash/relatebyhash/ctph/RollingHash" "window" "[I" (.ref b122) := f219
  have f230 : Fld Z T213.heap b109 "com/example/relate_by_hash/relatebyhash/ctph/RollingHash" "weightedSum" "I" (.int v216) := f220
  have f231 : Fld Z T213.heap b109 "com/example/relate_by_hash/relatebyhash/ctph/RollingHash" "windowSum" "I" (.int v215) := f221
  have f232 : Fld Z T213.heap b109 "com/example/relate_by_hash/relatebyhash/ctph/RollingHash" "windowIndex" "I" (.int (4 : Int32)) := f222
  have f233 : Fld Z T213.heap b109 "com/example/relate_by_hash/relatebyhash/ctph/RollingHash" "shiftHash" "I" (.int v217) := f223
  have f234 : Ia Z T213.heap b122 .int [x0, x1, x2, x3, (0 : Int32), (0 : Int32), (0 : Int32)] := f224
  clear X190 e190
  show Go p e below (T213.setTop (mkF m 156 #[.val (.long lo), .second, .val (.int hi), .val (.ref b87), .val (.ref b109), .val (.int ((v146 + v147) + v148)), .val (.int ((v169 + v170) + v171)), .val (.int ((v192 + v193) + v194)), .unset, .unset, .unset, .unset, .unset, .unset] [(.int ((v215 + v216) + v217))])) _
  refine Go.via (fun _ => XS.istore X213.here hx rfl (hb hby at_156) rfl (l' := #[.val (.long lo), .second, .val (.int hi), .val (.ref b87), .val (.ref b109), .val (.int ((v146 + v147) + v148)), .val (.int ((v169 + v170) + v171)), .val (.int ((v192 + v193) + v194)), .val (.int ((v215 + v216) + v217)), .unset, .unset, .unset, .unset, .unset]) rfl) ?_
  show Go p e below (T213.setTop (mkF m 158 #[.val (.long lo), .second, .val (.int hi), .val (.ref b87), .val (.ref b109), .val (.int ((v146 + v147) + v148)), .val (.int ((v169 + v170) + v171)), .val (.int ((v192 + v193) + v194)), .val (.int ((v215 + v216) + v217)), .unset, .unset, .unset, .unset, .unset] [])) _
  refine Go.via (fun _ => XS.aload X213.here hx rfl (hb hby at_158) rfl rfl) ?_
  refine Go.via (fun _ => XS.aloadN X213.here hx rfl (hb hby at_160) rfl rfl) ?_
  refine Go.via (fun _ => XS.iconst X213.here hx rfl (hb hby at_161)) ?_
  have f235 : Ia Z T213.heap b87 .int [x0, x1, x2, x3, x4, x5, x6, x7, x8] := (f212.keep K213q (ninS ne112 (ninS ne132 nin0)))
  refine Go.via (ldI X213 hx hZ e213 f235 (v := x4) (by decide) rfl (g := (mkF m 162 #[.val (.long lo), .second, .val (.int hi), .val (.ref b87), .val (.ref b109), .val (.int ((v146 + v147) + v148)), .val (.int ((v169 + v170) + v171)), .val (.int ((v192 + v193) + v194)), .val (.int ((v215 + v216) + v217)), .unset, .unset, .unset, .unset, .unset] [(.int (4 : Int32)), (.ref b87), (.ref b109)])) rfl rfl (hb hby at_162)) ?_
  show Go p e below (T213.setTop (mkF m 163 #[.val (.long lo), .second, .val (.int hi), .val (.ref b87), .val (.ref b109), .val (.int ((v146 + v147) + v148)), .val (.int ((v169 + v170) + v171)), .val (.int ((v192 + v193) + v194)), .val (.int ((v215 + v216) + v217)), .unset, .unset, .unset, .unset, .unset] [(.int x4), (.ref b109)])) _
  have z237 : n0 ≤ T213.heap.size := (Nat.le_trans z214 K213q.1)
  obtain ⟨cq236, kq236, q236a, q236b, q236c⟩ := isOf hZ e213 f228
  obtain ⟨r236, _, ⟨T236, L236, k236, n236⟩, -, X236, ⟨Lc236, hQ236, l236, y236, z236⟩, st236⟩ := X213.virtualBack hx (y := (⟨"com/example/relate_by_hash/relatebyhash/ctph/RollingHash", "update", "(I)I"⟩ : MethodName)) (z := (⟨"com/example/relate_by_hash/relatebyhash/ctph/RollingHash", "update", "(I)I"⟩ : MethodName)) hown (mvT hZ (tw hw 13 rfl)) (mvT hZ (tw hw 14 rfl)) (notFace_of_selects (args := #[]) (mvT hZ (tw hw 16 rfl))) (mvT hZ (tw hw 16 rfl)) (mvT hZ (tw hw 15 rfl)) (by decide) (backOf (W := 0) (rm3 l Z a0 hw [] b109 x4 b122 [x0, x1, x2, x3, (0 : Int32), (0 : Int32), (0 : Int32)] v216 v215 (4 : Int32) v217 (0 : Int32) T213.heap n0 z237 f228 f229 f230 f231 f232 f233 f234 ge113 ge133 ne130 (by decide) rfl) hZ (tw hw 17 rfl) (tw hw 4 rfl) (by decide) (by decide)) q236a q236c (g := (mkF m 163 #[.val (.long lo), .second, .val (.int hi), .val (.ref b87), .val (.ref b109), .val (.int ((v146 + v147) + v148)), .val (.int ((v169 + v170) + v171)), .val (.int ((v192 + v193) + v194)), .val (.int ((v215 + v216) + v217)), .unset, .unset, .unset, .unset, .unset] [(.int x4), (.ref b109)])) rfl (by rw [hml]; rfl) (Steps.refl _) (argsL := [(.int x4)]) (rest := []) (lenOf pd__28I_29I rfl) rfl (by show 2 * 0 + _ ≤ _; exact Nat.le_of_eq rfl) (hb hby at_163) (fun _ _ => ⟨rfl, e213, (by decide : 3 + 0 ≤ _), (by decide : 21 + 0 ≤ _)⟩)
  dsimp only [Pt.U, Pt.locs, Pt.cells, Pt.slots] at X236 l236 y236 z236 st236 hQ236
  rw [l236, y236, z236] at X236
  clear l236 y236 z236
  obtain ⟨v238, v239, v240, hr236, N236q, K236q, f241, f242, f243, f244, f245, f246, f247, qp248, qp249, qp250⟩ := hQ236
  rw [hr236] at st236
  clear hr236
  have N236 := Fr.app N213 N236q
  refine Go.via (fun _ kQ => st236.trans kQ) ?_
  clear st236
  have e236 : T236.heap = T236.heap := rfl
  have f251 : Exa Z T236.heap b109 "com/example/relate_by_hash/relatebyhash/ctph/RollingHash" := f241
  have f252 : Fld Z T236.heap b109 "com/example/relate_by_hash/relatebyhash/ctph/RollingHash" "window" "[I" (.ref b122) := f242
  have f253 : Fld Z T236.heap b109 "com/example/relate_by_hash/relatebyhash/ctph/RollingHash" "weightedSum" "I" (.int v239) := f243
  have f254 : Fld Z T236.heap b109 "com/example/relate_by_hash/relatebyhash/ctph/RollingHash" "windowSum" "I" (.int v238) := f244
  have f255 : Fld Z T236.heap b109 "com/example/relate_by_hash/relatebyhash/ctph/RollingHash" "windowIndex" "I" (.int (5 : Int32)) := f245
  have f256 : Fld Z T236.heap b109 "com/example/relate_by_hash/relatebyhash/ctph/RollingHash" "shiftHash" "I" (.int v240) := f246
  have f257 : Ia Z T236.heap b122 .int [x0, x1, x2, x3, x4, (0 : Int32), (0 : Int32)] := f247
  clear X213 e213
  show Go p e below (T236.setTop (mkF m 166 #[.val (.long lo), .second, .val (.int hi), .val (.ref b87), .val (.ref b109), .val (.int ((v146 + v147) + v148)), .val (.int ((v169 + v170) + v171)), .val (.int ((v192 + v193) + v194)), .val (.int ((v215 + v216) + v217)), .unset, .unset, .unset, .unset, .unset] [(.int ((v238 + v239) + v240))])) _
  refine Go.via (fun _ => XS.istore X236.here hx rfl (hb hby at_166) rfl (l' := #[.val (.long lo), .second, .val (.int hi), .val (.ref b87), .val (.ref b109), .val (.int ((v146 + v147) + v148)), .val (.int ((v169 + v170) + v171)), .val (.int ((v192 + v193) + v194)), .val (.int ((v215 + v216) + v217)), .val (.int ((v238 + v239) + v240)), .unset, .unset, .unset, .unset]) rfl) ?_
  show Go p e below (T236.setTop (mkF m 168 #[.val (.long lo), .second, .val (.int hi), .val (.ref b87), .val (.ref b109), .val (.int ((v146 + v147) + v148)), .val (.int ((v169 + v170) + v171)), .val (.int ((v192 + v193) + v194)), .val (.int ((v215 + v216) + v217)), .val (.int ((v238 + v239) + v240)), .unset, .unset, .unset, .unset] [])) _
  refine Go.via (fun _ => XS.aload X236.here hx rfl (hb hby at_168) rfl rfl) ?_
  refine Go.via (fun _ => XS.aloadN X236.here hx rfl (hb hby at_170) rfl rfl) ?_
  refine Go.via (fun _ => XS.iconst X236.here hx rfl (hb hby at_171)) ?_
  have f258 : Ia Z T236.heap b87 .int [x0, x1, x2, x3, x4, x5, x6, x7, x8] := (f235.keep K236q (ninS ne112 (ninS ne132 nin0)))
  refine Go.via (ldI X236 hx hZ e236 f258 (v := x5) (by decide) rfl (g := (mkF m 172 #[.val (.long lo), .second, .val (.int hi), .val (.ref b87), .val (.ref b109), .val (.int ((v146 + v147) + v148)), .val (.int ((v169 + v170) + v171)), .val (.int ((v192 + v193) + v194)), .val (.int ((v215 + v216) + v217)), .val (.int ((v238 + v239) + v240)), .unset, .unset, .unset, .unset] [(.int (5 : Int32)), (.ref b87), (.ref b109)])) rfl rfl (hb hby at_172)) ?_
  show Go p e below (T236.setTop (mkF m 173 #[.val (.long lo), .second, .val (.int hi), .val (.ref b87), .val (.ref b109), .val (.int ((v146 + v147) + v148)), .val (.int ((v169 + v170) + v171)), .val (.int ((v192 + v193) + v194)), .val (.int ((v215 + v216) + v217)), .val (.int ((v238 + v239) + v240)), .unset, .unset, .unset, .unset] [(.int x5), (.ref b109)])) _
  have z260 : n0 ≤ T236.heap.size := (Nat.le_trans z237 K236q.1)
  obtain ⟨cq259, kq259, q259a, q259b, q259c⟩ := isOf hZ e236 f251
  obtain ⟨r259, _, ⟨T259, L259, k259, n259⟩, -, X259, ⟨Lc259, hQ259, l259, y259, z259⟩, st259⟩ := X236.virtualBack hx (y := (⟨"com/example/relate_by_hash/relatebyhash/ctph/RollingHash", "update", "(I)I"⟩ : MethodName)) (z := (⟨"com/example/relate_by_hash/relatebyhash/ctph/RollingHash", "update", "(I)I"⟩ : MethodName)) hown (mvT hZ (tw hw 13 rfl)) (mvT hZ (tw hw 14 rfl)) (notFace_of_selects (args := #[]) (mvT hZ (tw hw 16 rfl))) (mvT hZ (tw hw 16 rfl)) (mvT hZ (tw hw 15 rfl)) (by decide) (backOf (W := 0) (rm3 l Z a0 hw [] b109 x5 b122 [x0, x1, x2, x3, x4, (0 : Int32), (0 : Int32)] v239 v238 (5 : Int32) v240 (0 : Int32) T236.heap n0 z260 f251 f252 f253 f254 f255 f256 f257 ge113 ge133 ne130 (by decide) rfl) hZ (tw hw 17 rfl) (tw hw 4 rfl) (by decide) (by decide)) q259a q259c (g := (mkF m 173 #[.val (.long lo), .second, .val (.int hi), .val (.ref b87), .val (.ref b109), .val (.int ((v146 + v147) + v148)), .val (.int ((v169 + v170) + v171)), .val (.int ((v192 + v193) + v194)), .val (.int ((v215 + v216) + v217)), .val (.int ((v238 + v239) + v240)), .unset, .unset, .unset, .unset] [(.int x5), (.ref b109)])) rfl (by rw [hml]; rfl) (Steps.refl _) (argsL := [(.int x5)]) (rest := []) (lenOf pd__28I_29I rfl) rfl (by show 2 * 0 + _ ≤ _; exact Nat.le_of_eq rfl) (hb hby at_173) (fun _ _ => ⟨rfl, e236, (by decide : 3 + 0 ≤ _), (by decide : 21 + 0 ≤ _)⟩)
  dsimp only [Pt.U, Pt.locs, Pt.cells, Pt.slots] at X259 l259 y259 z259 st259 hQ259
  rw [l259, y259, z259] at X259
  clear l259 y259 z259
  obtain ⟨v261, v262, v263, hr259, N259q, K259q, f264, f265, f266, f267, f268, f269, f270, qp271, qp272, qp273⟩ := hQ259
  rw [hr259] at st259
  clear hr259
  have N259 := Fr.app N236 N259q
  refine Go.via (fun _ kQ => st259.trans kQ) ?_
  clear st259
  have e259 : T259.heap = T259.heap := rfl
  have f274 : Exa Z T259.heap b109 "com/example/relate_by_hash/relatebyhash/ctph/RollingHash" := f264
  have f275 : Fld Z T259.heap b109 "com/example/relate_by_hash/relatebyhash/ctph/RollingHash" "window" "[I" (.ref b122) := f265
  have f276 : Fld Z T259.heap b109 "com/example/relate_by_hash/relatebyhash/ctph/RollingHash" "weightedSum" "I" (.int v262) := f266
  have f277 : Fld Z T259.heap b109 "com/example/relate_by_hash/relatebyhash/ctph/RollingHash" "windowSum" "I" (.int v261) := f267
  have f278 : Fld Z T259.heap b109 "com/example/relate_by_hash/relatebyhash/ctph/RollingHash" "windowIndex" "I" (.int (6 : Int32)) := f268
  have f279 : Fld Z T259.heap b109 "com/example/relate_by_hash/relatebyhash/ctph/RollingHash" "shiftHash" "I" (.int v263) := f269
  have f280 : Ia Z T259.heap b122 .int [x0, x1, x2, x3, x4, x5, (0 : Int32)] := f270
  clear X236 e236
  show Go p e below (T259.setTop (mkF m 176 #[.val (.long lo), .second, .val (.int hi), .val (.ref b87), .val (.ref b109), .val (.int ((v146 + v147) + v148)), .val (.int ((v169 + v170) + v171)), .val (.int ((v192 + v193) + v194)), .val (.int ((v215 + v216) + v217)), .val (.int ((v238 + v239) + v240)), .unset, .unset, .unset, .unset] [(.int ((v261 + v262) + v263))])) _
  refine Go.via (fun _ => XS.istore X259.here hx rfl (hb hby at_176) rfl (l' := #[.val (.long lo), .second, .val (.int hi), .val (.ref b87), .val (.ref b109), .val (.int ((v146 + v147) + v148)), .val (.int ((v169 + v170) + v171)), .val (.int ((v192 + v193) + v194)), .val (.int ((v215 + v216) + v217)), .val (.int ((v238 + v239) + v240)), .val (.int ((v261 + v262) + v263)), .unset, .unset, .unset]) rfl) ?_
  show Go p e below (T259.setTop (mkF m 178 #[.val (.long lo), .second, .val (.int hi), .val (.ref b87), .val (.ref b109), .val (.int ((v146 + v147) + v148)), .val (.int ((v169 + v170) + v171)), .val (.int ((v192 + v193) + v194)), .val (.int ((v215 + v216) + v217)), .val (.int ((v238 + v239) + v240)), .val (.int ((v261 + v262) + v263)), .unset, .unset, .unset] [])) _
  refine Go.via (fun _ => XS.aload X259.here hx rfl (hb hby at_178) rfl rfl) ?_
  refine Go.via (fun _ => XS.aloadN X259.here hx rfl (hb hby at_180) rfl rfl) ?_
  refine Go.via (fun _ => XS.bipush X259.here hx rfl (hb hby at_181)) ?_
  have f281 : Ia Z T259.heap b87 .int [x0, x1, x2, x3, x4, x5, x6, x7, x8] := (f258.keep K259q (ninS ne112 (ninS ne132 nin0)))
  refine Go.via (ldI X259 hx hZ e259 f281 (v := x6) (by decide) rfl (g := (mkF m 183 #[.val (.long lo), .second, .val (.int hi), .val (.ref b87), .val (.ref b109), .val (.int ((v146 + v147) + v148)), .val (.int ((v169 + v170) + v171)), .val (.int ((v192 + v193) + v194)), .val (.int ((v215 + v216) + v217)), .val (.int ((v238 + v239) + v240)), .val (.int ((v261 + v262) + v263)), .unset, .unset, .unset] [(.int (6 : Int32)), (.ref b87), (.ref b109)])) rfl rfl (hb hby at_183)) ?_
  show Go p e below (T259.setTop (mkF m 184 #[.val (.long lo), .second, .val (.int hi), .val (.ref b87), .val (.ref b109), .val (.int ((v146 + v147) + v148)), .val (.int ((v169 + v170) + v171)), .val (.int ((v192 + v193) + v194)), .val (.int ((v215 + v216) + v217)), .val (.int ((v238 + v239) + v240)), .val (.int ((v261 + v262) + v263)), .unset, .unset, .unset] [(.int x6), (.ref b109)])) _
  have z283 : n0 ≤ T259.heap.size := (Nat.le_trans z260 K259q.1)
  obtain ⟨cq282, kq282, q282a, q282b, q282c⟩ := isOf hZ e259 f274
  obtain ⟨r282, _, ⟨T282, L282, k282, n282⟩, -, X282, ⟨Lc282, hQ282, l282, y282, z282⟩, st282⟩ := X259.virtualBack hx (y := (⟨"com/example/relate_by_hash/relatebyhash/ctph/RollingHash", "update", "(I)I"⟩ : MethodName)) (z := (⟨"com/example/relate_by_hash/relatebyhash/ctph/RollingHash", "update", "(I)I"⟩ : MethodName)) hown (mvT hZ (tw hw 13 rfl)) (mvT hZ (tw hw 14 rfl)) (notFace_of_selects (args := #[]) (mvT hZ (tw hw 16 rfl))) (mvT hZ (tw hw 16 rfl)) (mvT hZ (tw hw 15 rfl)) (by decide) (backOf (W := 0) (rm3 l Z a0 hw [] b109 x6 b122 [x0, x1, x2, x3, x4, x5, (0 : Int32)] v262 v261 (6 : Int32) v263 (0 : Int32) T259.heap n0 z283 f274 f275 f276 f277 f278 f279 f280 ge113 ge133 ne130 (by decide) rfl) hZ (tw hw 17 rfl) (tw hw 4 rfl) (by decide) (by decide)) q282a q282c (g := (mkF m 184 #[.val (.long lo), .second, .val (.int hi), .val (.ref b87), .val (.ref b109), .val (.int ((v146 + v147) + v148)), .val (.int ((v169 + v170) + v171)), .val (.int ((v192 + v193) + v194)), .val (.int ((v215 + v216) + v217)), .val (.int ((v238 + v239) + v240)), .val (.int ((v261 + v262) + v263)), .unset, .unset, .unset] [(.int x6), (.ref b109)])) rfl (by rw [hml]; rfl) (Steps.refl _) (argsL := [(.int x6)]) (rest := []) (lenOf pd__28I_29I rfl) rfl (by show 2 * 0 + _ ≤ _; exact Nat.le_of_eq rfl) (hb hby at_184) (fun _ _ => ⟨rfl, e259, (by decide : 3 + 0 ≤ _), (by decide : 21 + 0 ≤ _)⟩)
  dsimp only [Pt.U, Pt.locs, Pt.cells, Pt.slots] at X282 l282 y282 z282 st282 hQ282
  rw [l282, y282, z282] at X282
  clear l282 y282 z282
  obtain ⟨v284, v285, v286, hr282, N282q, K282q, f287, f288, f289, f290, f291, f292, f293, qp294, qp295, qp296⟩ := hQ282
  rw [hr282] at st282
  clear hr282
  have N282 := Fr.app N259 N282q
  refine Go.via (fun _ kQ => st282.trans kQ) ?_
  clear st282
  have e282 : T282.heap = T282.heap := rfl
  have f297 : Exa Z T282.heap b109 "com/example/relate_by_hash/relatebyhash/ctph/RollingHash" := f287
  have f298 : Fld Z T282.heap b109 "com/example/relate_by_hash/relatebyhash/ctph/RollingHash" "window" "[I" (.ref b122) := f288
  have f299 : Fld Z T282.heap b109 "com/example/relate_by_hash/relatebyhash/ctph/RollingHash" "weightedSum" "I" (.int v285) := f289
  have f300 : Fld Z T282.heap b109 "com/example/relate_by_hash/relatebyhash/ctph/RollingHash" "windowSum" "I" (.int v284) := f290
  have f301 : Fld Z T282.heap b109 "com/example/relate_by_hash/relatebyhash/ctph/RollingHash" "windowIndex" "I" (.int (0 : Int32)) := f291
  have f302 : Fld Z T282.heap b109 "com/example/relate_by_hash/relatebyhash/ctph/RollingHash" "shiftHash" "I" (.int v286) := f292
  have f303 : Ia Z T282.heap b122 .int [x0, x1, x2, x3, x4, x5, x6] := f293
  clear X259 e259
  show Go p e below (T282.setTop (mkF m 187 #[.val (.long lo), .second, .val (.int hi), .val (.ref b87), .val (.ref b109), .val (.int ((v146 + v147) + v148)), .val (.int ((v169 + v170) + v171)), .val (.int ((v192 + v193) + v194)), .val (.int ((v215 + v216) + v217)), .val (.int ((v238 + v239) + v240)), .val (.int ((v261 + v262) + v263)), .unset, .unset, .unset] [(.int ((v284 + v285) + v286))])) _
  refine Go.via (fun _ => XS.istore X282.here hx rfl (hb hby at_187) rfl (l' := #[.val (.long lo), .second, .val (.int hi), .val (.ref b87), .val (.ref b109), .val (.int ((v146 + v147) + v148)), .val (.int ((v169 + v170) + v171)), .val (.int ((v192 + v193) + v194)), .val (.int ((v215 + v216) + v217)), .val (.int ((v238 + v239) + v240)), .val (.int ((v261 + v262) + v263)), .val (.int ((v284 + v285) + v286)), .unset, .unset]) rfl) ?_
  show Go p e below (T282.setTop (mkF m 189 #[.val (.long lo), .second, .val (.int hi), .val (.ref b87), .val (.ref b109), .val (.int ((v146 + v147) + v148)), .val (.int ((v169 + v170) + v171)), .val (.int ((v192 + v193) + v194)), .val (.int ((v215 + v216) + v217)), .val (.int ((v238 + v239) + v240)), .val (.int ((v261 + v262) + v263)), .val (.int ((v284 + v285) + v286)), .unset, .unset] [])) _
  refine Go.via (fun _ => XS.aload X282.here hx rfl (hb hby at_189) rfl rfl) ?_
  refine Go.via (fun _ => XS.aloadN X282.here hx rfl (hb hby at_191) rfl rfl) ?_
  refine Go.via (fun _ => XS.bipush X282.here hx rfl (hb hby at_192)) ?_
  have f304 : Ia Z T282.heap b87 .int [x0, x1, x2, x3, x4, x5, x6, x7, x8] := (f281.keep K282q (ninS ne112 (ninS ne132 nin0)))
  refine Go.via (ldI X282 hx hZ e282 f304 (v := x7) (by decide) rfl (g := (mkF m 194 #[.val (.long lo), .second, .val (.int hi), .val (.ref b87), .val (.ref b109), .val (.int ((v146 + v147) + v148)), .val (.int ((v169 + v170) + v171)), .val (.int ((v192 + v193) + v194)), .val (.int ((v215 + v216) + v217)), .val (.int ((v238 + v239) + v240)), .val (.int ((v261 + v262) + v263)), .val (.int ((v284 + v285) + v286)), .unset, .unset] [(.int (7 : Int32)), (.ref b87), (.ref b109)])) rfl rfl (hb hby at_194)) ?_
  show Go p e below (T282.setTop (mkF m 195 #[.val (.long lo), .second, .val (.int hi), .val (.ref b87), .val (.ref b109), .val (.int ((v146 + v147) + v148)), .val (.int ((v169 + v170) + v171)), .val (.int ((v192 + v193) + v194)), .val (.int ((v215 + v216) + v217)), .val (.int ((v238 + v239) + v240)), .val (.int ((v261 + v262) + v263)), .val (.int ((v284 + v285) + v286)), .unset, .unset] [(.int x7), (.ref b109)])) _
  have z306 : n0 ≤ T282.heap.size := (Nat.le_trans z283 K282q.1)
  obtain ⟨cq305, kq305, q305a, q305b, q305c⟩ := isOf hZ e282 f297
  obtain ⟨r305, _, ⟨T305, L305, k305, n305⟩, -, X305, ⟨Lc305, hQ305, l305, y305, z305⟩, st305⟩ := X282.virtualBack hx (y := (⟨"com/example/relate_by_hash/relatebyhash/ctph/RollingHash", "update", "(I)I"⟩ : MethodName)) (z := (⟨"com/example/relate_by_hash/relatebyhash/ctph/RollingHash", "update", "(I)I"⟩ : MethodName)) hown (mvT hZ (tw hw 13 rfl)) (mvT hZ (tw hw 14 rfl)) (notFace_of_selects (args := #[]) (mvT hZ (tw hw 16 rfl))) (mvT hZ (tw hw 16 rfl)) (mvT hZ (tw hw 15 rfl)) (by decide) (backOf (W := 0) (rm3 l Z a0 hw [] b109 x7 b122 [x0, x1, x2, x3, x4, x5, x6] v285 v284 (0 : Int32) v286 x0 T282.heap n0 z306 f297 f298 f299 f300 f301 f302 f303 ge113 ge133 ne130 (by decide) rfl) hZ (tw hw 17 rfl) (tw hw 4 rfl) (by decide) (by decide)) q305a q305c (g := (mkF m 195 #[.val (.long lo), .second, .val (.int hi), .val (.ref b87), .val (.ref b109), .val (.int ((v146 + v147) + v148)), .val (.int ((v169 + v170) + v171)), .val (.int ((v192 + v193) + v194)), .val (.int ((v215 + v216) + v217)), .val (.int ((v238 + v239) + v240)), .val (.int ((v261 + v262) + v263)), .val (.int ((v284 + v285) + v286)), .unset, .unset] [(.int x7), (.ref b109)])) rfl (by rw [hml]; rfl) (Steps.refl _) (argsL := [(.int x7)]) (rest := []) (lenOf pd__28I_29I rfl) rfl (by show 2 * 0 + _ ≤ _; exact Nat.le_of_eq rfl) (hb hby at_195) (fun _ _ => ⟨rfl, e282, (by decide : 3 + 0 ≤ _), (by decide : 21 + 0 ≤ _)⟩)
  dsimp only [Pt.U, Pt.locs, Pt.cells, Pt.slots] at X305 l305 y305 z305 st305 hQ305
  rw [l305, y305, z305] at X305
  clear l305 y305 z305
  obtain ⟨v307, v308, v309, hr305, N305q, K305q, f310, f311, f312, f313, f314, f315, f316, qp317, qp318, qp319⟩ := hQ305
  rw [hr305] at st305
  clear hr305
  have N305 := Fr.app N282 N305q
  refine Go.via (fun _ kQ => st305.trans kQ) ?_
  clear st305
  have e305 : T305.heap = T305.heap := rfl
  have f320 : Exa Z T305.heap b109 "com/example/relate_by_hash/relatebyhash/ctph/RollingHash" := f310
  have f321 : Fld Z T305.heap b109 "com/example/relate_by_hash/relatebyhash/ctph/RollingHash" "window" "[I" (.ref b122) := f311
  have f322 : Fld Z T305.heap b109 "com/example/relate_by_hash/relatebyhash/ctph/RollingHash" "weightedSum" "I" (.int v308) := f312
  have f323 : Fld Z T305.heap b109 "com/example/relate_by_hash/relatebyhash/ctph/RollingHash" "windowSum" "I" (.int v307) := f313
  have f324 : Fld Z T305.heap b109 "com/example/relate_by_hash/relatebyhash/ctph/RollingHash" "windowIndex" "I" (.int (1 : Int32)) := f314
  have f325 : Fld Z T305.heap b109 "com/example/relate_by_hash/relatebyhash/ctph/RollingHash" "shiftHash" "I" (.int v309) := f315
  have f326 : Ia Z T305.heap b122 .int [x7, x1, x2, x3, x4, x5, x6] := f316
  clear X282 e282
  show Go p e below (T305.setTop (mkF m 198 #[.val (.long lo), .second, .val (.int hi), .val (.ref b87), .val (.ref b109), .val (.int ((v146 + v147) + v148)), .val (.int ((v169 + v170) + v171)), .val (.int ((v192 + v193) + v194)), .val (.int ((v215 + v216) + v217)), .val (.int ((v238 + v239) + v240)), .val (.int ((v261 + v262) + v263)), .val (.int ((v284 + v285) + v286)), .unset, .unset] [(.int ((v307 + v308) + v309))])) _
  refine Go.via (fun _ => XS.istore X305.here hx rfl (hb hby at_198) rfl (l' := #[.val (.long lo), .second, .val (.int hi), .val (.ref b87), .val (.ref b109), .val (.int ((v146 + v147) + v148)), .val (.int ((v169 + v170) + v171)), .val (.int ((v192 + v193) + v194)), .val (.int ((v215 + v216) + v217)), .val (.int ((v238 + v239) + v240)), .val (.int ((v261 + v262) + v263)), .val (.int ((v284 + v285) + v286)), .val (.int ((v307 + v308) + v309)), .unset]) rfl) ?_
  show Go p e below (T305.setTop (mkF m 200 #[.val (.long lo), .second, .val (.int hi), .val (.ref b87), .val (.ref b109), .val (.int ((v146 + v147) + v148)), .val (.int ((v169 + v170) + v171)), .val (.int ((v192 + v193) + v194)), .val (.int ((v215 + v216) + v217)), .val (.int ((v238 + v239) + v240)), .val (.int ((v261 + v262) + v263)), .val (.int ((v284 + v285) + v286)), .val (.int ((v307 + v308) + v309)), .unset] [])) _
  refine Go.via (fun _ => XS.aload X305.here hx rfl (hb hby at_200) rfl rfl) ?_
  refine Go.via (fun _ => XS.aloadN X305.here hx rfl (hb hby at_202) rfl rfl) ?_
  refine Go.via (fun _ => XS.bipush X305.here hx rfl (hb hby at_203)) ?_
  have f327 : Ia Z T305.heap b87 .int [x0, x1, x2, x3, x4, x5, x6, x7, x8] := (f304.keep K305q (ninS ne112 (ninS ne132 nin0)))
  refine Go.via (ldI X305 hx hZ e305 f327 (v := x8) (by decide) rfl (g := (mkF m 205 #[.val (.long lo), .second, .val (.int hi), .val (.ref b87), .val (.ref b109), .val (.int ((v146 + v147) + v148)), .val (.int ((v169 + v170) + v171)), .val (.int ((v192 + v193) + v194)), .val (.int ((v215 + v216) + v217)), .val (.int ((v238 + v239) + v240)), .val (.int ((v261 + v262) + v263)), .val (.int ((v284 + v285) + v286)), .val (.int ((v307 + v308) + v309)), .unset] [(.int (8 : Int32)), (.ref b87), (.ref b109)])) rfl rfl (hb hby at_205)) ?_
  show Go p e below (T305.setTop (mkF m 206 #[.val (.long lo), .second, .val (.int hi), .val (.ref b87), .val (.ref b109), .val (.int ((v146 + v147) + v148)), .val (.int ((v169 + v170) + v171)), .val (.int ((v192 + v193) + v194)), .val (.int ((v215 + v216) + v217)), .val (.int ((v238 + v239) + v240)), .val (.int ((v261 + v262) + v263)), .val (.int ((v284 + v285) + v286)), .val (.int ((v307 + v308) + v309)), .unset] [(.int x8), (.ref b109)])) _
  have z329 : n0 ≤ T305.heap.size := (Nat.le_trans z306 K305q.1)
  obtain ⟨cq328, kq328, q328a, q328b, q328c⟩ := isOf hZ e305 f320
  obtain ⟨r328, _, ⟨T328, L328, k328, n328⟩, -, X328, ⟨Lc328, hQ328, l328, y328, z328⟩, st328⟩ := X305.virtualBack hx (y := (⟨"com/example/relate_by_hash/relatebyhash/ctph/RollingHash", "update", "(I)I"⟩ : MethodName)) (z := (⟨"com/example/relate_by_hash/relatebyhash/ctph/RollingHash", "update", "(I)I"⟩ : MethodName)) hown (mvT hZ (tw hw 13 rfl)) (mvT hZ (tw hw 14 rfl)) (notFace_of_selects (args := #[]) (mvT hZ (tw hw 16 rfl))) (mvT hZ (tw hw 16 rfl)) (mvT hZ (tw hw 15 rfl)) (by decide) (backOf (W := 0) (rm3 l Z a0 hw [] b109 x8 b122 [x7, x1, x2, x3, x4, x5, x6] v308 v307 (1 : Int32) v309 x1 T305.heap n0 z329 f320 f321 f322 f323 f324 f325 f326 ge113 ge133 ne130 (by decide) rfl) hZ (tw hw 17 rfl) (tw hw 4 rfl) (by decide) (by decide)) q328a q328c (g := (mkF m 206 #[.val (.long lo), .second, .val (.int hi), .val (.ref b87), .val (.ref b109), .val (.int ((v146 + v147) + v148)), .val (.int ((v169 + v170) + v171)), .val (.int ((v192 + v193) + v194)), .val (.int ((v215 + v216) + v217)), .val (.int ((v238 + v239) + v240)), .val (.int ((v261 + v262) + v263)), .val (.int ((v284 + v285) + v286)), .val (.int ((v307 + v308) + v309)), .unset] [(.int x8), (.ref b109)])) rfl (by rw [hml]; rfl) (Steps.refl _) (argsL := [(.int x8)]) (rest := []) (lenOf pd__28I_29I rfl) rfl (by show 2 * 0 + _ ≤ _; exact Nat.le_of_eq rfl) (hb hby at_206) (fun _ _ => ⟨rfl, e305, (by decide : 3 + 0 ≤ _), (by decide : 21 + 0 ≤ _)⟩)
  dsimp only [Pt.U, Pt.locs, Pt.cells, Pt.slots] at X328 l328 y328 z328 st328 hQ328
  rw [l328, y328, z328] at X328
  clear l328 y328 z328
  obtain ⟨v330, v331, v332, hr328, N328q, K328q, f333, f334, f335, f336, f337, f338, f339, qp340, qp341, qp342⟩ := hQ328
  rw [hr328] at st328
  clear hr328
  have N328 := Fr.app N305 N328q
  refine Go.via (fun _ kQ => st328.trans kQ) ?_
  clear st328
  have e328 : T328.heap = T328.heap := rfl
  have f343 : Exa Z T328.heap b109 "com/example/relate_by_hash/relatebyhash/ctph/RollingHash" := f333
  have f344 : Fld Z T328.heap b109 "com/example/relate_by_hash/relatebyhash/ctph/RollingHash" "window" "[I" (.ref b122) := f334
  have f345 : Fld Z T328.heap b109 "com/example/relate_by_hash/relatebyhash/ctph/RollingHash" "weightedSum" "I" (.int v331) := f335
  have f346 : Fld Z T328.heap b109 "com/example/relate_by_hash/relatebyhash/ctph/RollingHash" "windowSum" "I" (.int v330) := f336
  have f347 : Fld Z T328.heap b109 "com/example/relate_by_hash/relatebyhash/ctph/RollingHash" "windowIndex" "I" (.int (2 : Int32)) := f337
  have f348 : Fld Z T328.heap b109 "com/example/relate_by_hash/relatebyhash/ctph/RollingHash" "shiftHash" "I" (.int v332) := f338
  have f349 : Ia Z T328.heap b122 .int [x7, x8, x2, x3, x4, x5, x6] := f339
  clear X305 e305
  show Go p e below (T328.setTop (mkF m 209 #[.val (.long lo), .second, .val (.int hi), .val (.ref b87), .val (.ref b109), .val (.int ((v146 + v147) + v148)), .val (.int ((v169 + v170) + v171)), .val (.int ((v192 + v193) + v194)), .val (.int ((v215 + v216) + v217)), .val (.int ((v238 + v239) + v240)), .val (.int ((v261 + v262) + v263)), .val (.int ((v284 + v285) + v286)), .val (.int ((v307 + v308) + v309)), .unset] [(.int ((v330 + v331) + v332))])) _
  refine Go.via (fun _ => XS.istore X328.here hx rfl (hb hby at_209) rfl (l' := #[.val (.long lo), .second, .val (.int hi), .val (.ref b87), .val (.ref b109), .val (.int ((v146 + v147) + v148)), .val (.int ((v169 + v170) + v171)), .val (.int ((v192 + v193) + v194)), .val (.int ((v215 + v216) + v217)), .val (.int ((v238 + v239) + v240)), .val (.int ((v261 + v262) + v263)), .val (.int ((v284 + v285) + v286)), .val (.int ((v307 + v308) + v309)), .val (.int ((v330 + v331) + v332))]) rfl) ?_
  show Go p e below (T328.setTop (mkF m 211 #[.val (.long lo), .second, .val (.int hi), .val (.ref b87), .val (.ref b109), .val (.int ((v146 + v147) + v148)), .val (.int ((v169 + v170) + v171)), .val (.int ((v192 + v193) + v194)), .val (.int ((v215 + v216) + v217)), .val (.int ((v238 + v239) + v240)), .val (.int ((v261 + v262) + v263)), .val (.int ((v284 + v285) + v286)), .val (.int ((v307 + v308) + v309)), .val (.int ((v330 + v331) + v332))] [])) _
  obtain ⟨R0, R1, R2, R3, R4, R5, R6, R7, R8⟩ := own_pure qp156 qp157 qp158 qp179 qp180 qp181 qp202 qp203 qp204 qp225 qp226 qp227 qp248 qp249 qp250 qp271 qp272 qp273 qp294 qp295 qp296 qp317 qp318 qp319 qp340 qp341 qp342
  refine Go.via (fun _ => XS.iload X328.here hx rfl (hb hby at_211) rfl) ?_
  refine Go.via (fun _ => XS.aloadN X328.here hx rfl (hb hby at_213) rfl rfl) ?_
  refine Go.via (fun _ => XS.iconst X328.here hx rfl (hb hby at_214)) ?_
  have f350 : Ia Z T328.heap b87 .int [x0, x1, x2, x3, x4, x5, x6, x7, x8] := (f327.keep K328q (ninS ne112 (ninS ne132 nin0)))
  have z352 : n0 ≤ T328.heap.size := (Nat.le_trans z329 K328q.1)
  obtain ⟨r351, _, ⟨T351, L351, k351, n351⟩, -, X351, ⟨Lc351, hQ351, l351, y351, z351⟩, st351⟩ := Jvm.LawKit.callS X328 hx (y := (⟨"com/example/relate_by_hash/relatebyhash/ctph/RollingHashUpdatePinLaw", "ref", "([II)I"⟩ : MethodName)) hown (mvT hZ (tw hw 26 rfl)) (mvT hZ (tw hw 27 rfl)) (mvT hZ (tw hw 28 rfl)) (mvT hZ (tw hw 29 rfl)) (by decide) (backOf (W := 1) (rm4 l Z a0 hw [] b87 (0 : Int32) [x0, x1, x2, x3, x4, x5, x6, x7, x8] T328.heap n0 z352 f350 (by first | decide | (simp only [List.length_cons, List.length_nil]; decide) | rfl) (by first | decide | (simp only [List.length_cons, List.length_nil]; decide) | rfl)) hZ (tw hw 29 rfl) (tw hw 28 rfl) (by decide) (by decide)) (g := (mkF m 215 #[.val (.long lo), .second, .val (.int hi), .val (.ref b87), .val (.ref b109), .val (.int ((v146 + v147) + v148)), .val (.int ((v169 + v170) + v171)), .val (.int ((v192 + v193) + v194)), .val (.int ((v215 + v216) + v217)), .val (.int ((v238 + v239) + v240)), .val (.int ((v261 + v262) + v263)), .val (.int ((v284 + v285) + v286)), .val (.int ((v307 + v308) + v309)), .val (.int ((v330 + v331) + v332))] [(.int (0 : Int32)), (.ref b87), (.int ((v146 + v147) + v148))])) rfl (by rw [hml]; rfl) (argsL := [(.ref b87), (.int (0 : Int32))]) (rest := [(.int ((v146 + v147) + v148))]) (lenOf pd__28_5bII_29I rfl) rfl (by show 2 * 0 + _ ≤ _; exact Nat.le_of_eq rfl) (hb hby at_215) (fun _ _ => ⟨rfl, e328, (by decide : 3 + 0 ≤ _), (by decide : 21 + 0 ≤ _)⟩)
  dsimp only [Pt.U, Pt.locs, Pt.cells, Pt.slots] at X351 l351 y351 z351 st351 hQ351
  rw [l351, y351, z351] at X351
  clear l351 y351 z351
  obtain ⟨hr351, N351q, eh351⟩ := hQ351
  rw [hr351] at st351
  clear hr351
  have N351 := Fr.app N328 N351q
  refine Go.via (st351) ?_
  clear st351
  have e351 : T351.heap = T328.heap := eh351
  clear X328 e328
  show Go p e below (T351.setTop (mkF m 218 #[.val (.long lo), .second, .val (.int hi), .val (.ref b87), .val (.ref b109), .val (.int ((v146 + v147) + v148)), .val (.int ((v169 + v170) + v171)), .val (.int ((v192 + v193) + v194)), .val (.int ((v215 + v216) + v217)), .val (.int ((v238 + v239) + v240)), .val (.int ((v261 + v262) + v263)), .val (.int ((v284 + v285) + v286)), .val (.int ((v307 + v308) + v309)), .val (.int ((v330 + v331) + v332))] [(.int (own_ref x0 (0 : Int32) (0 : Int32) (0 : Int32) (0 : Int32) (0 : Int32) (0 : Int32))), (.int ((v146 + v147) + v148))])) _
  refine Go.via (fun _ => XS.icmpNo X351.here hx rfl (hb hby at_218) rfl (teq (R0 : ((v146 + v147) + v148) = (own_ref x0 (0 : Int32) (0 : Int32) (0 : Int32) (0 : Int32) (0 : Int32) (0 : Int32)))).2) ?_
  show Go p e below (T351.setTop (mkF m 221 #[.val (.long lo), .second, .val (.int hi), .val (.ref b87), .val (.ref b109), .val (.int ((v146 + v147) + v148)), .val (.int ((v169 + v170) + v171)), .val (.int ((v192 + v193) + v194)), .val (.int ((v215 + v216) + v217)), .val (.int ((v238 + v239) + v240)), .val (.int ((v261 + v262) + v263)), .val (.int ((v284 + v285) + v286)), .val (.int ((v307 + v308) + v309)), .val (.int ((v330 + v331) + v332))] [])) _
  refine Go.via (fun _ => XS.iload X351.here hx rfl (hb hby at_221) rfl) ?_
  refine Go.via (fun _ => XS.aloadN X351.here hx rfl (hb hby at_223) rfl rfl) ?_
  refine Go.via (fun _ => XS.iconst X351.here hx rfl (hb hby at_224)) ?_
  obtain ⟨r353, _, ⟨T353, L353, k353, n353⟩, -, X353, ⟨Lc353, hQ353, l353, y353, z353⟩, st353⟩ := Jvm.LawKit.callS X351 hx (y := (⟨"com/example/relate_by_hash/relatebyhash/ctph/RollingHashUpdatePinLaw", "ref", "([II)I"⟩ : MethodName)) hown (mvT hZ (tw hw 26 rfl)) (mvT hZ (tw hw 27 rfl)) (mvT hZ (tw hw 28 rfl)) (mvT hZ (tw hw 29 rfl)) (by decide) (backOf (W := 1) (rm4 l Z a0 hw [] b87 (1 : Int32) [x0, x1, x2, x3, x4, x5, x6, x7, x8] T328.heap n0 z352 f350 (by first | decide | (simp only [List.length_cons, List.length_nil]; decide) | rfl) (by first | decide | (simp only [List.length_cons, List.length_nil]; decide) | rfl)) hZ (tw hw 29 rfl) (tw hw 28 rfl) (by decide) (by decide)) (g := (mkF m 225 #[.val (.long lo), .second, .val (.int hi), .val (.ref b87), .val (.ref b109), .val (.int ((v146 + v147) + v148)), .val (.int ((v169 + v170) + v171)), .val (.int ((v192 + v193) + v194)), .val (.int ((v215 + v216) + v217)), .val (.int ((v238 + v239) + v240)), .val (.int ((v261 + v262) + v263)), .val (.int ((v284 + v285) + v286)), .val (.int ((v307 + v308) + v309)), .val (.int ((v330 + v331) + v332))] [(.int (1 : Int32)), (.ref b87), (.int ((v169 + v170) + v171))])) rfl (by rw [hml]; rfl) (argsL := [(.ref b87), (.int (1 : Int32))]) (rest := [(.int ((v169 + v170) + v171))]) (lenOf pd__28_5bII_29I rfl) rfl (by show 2 * 0 + _ ≤ _; exact Nat.le_of_eq rfl) (hb hby at_225) (fun _ _ => ⟨rfl, e351, (by decide : 3 + 0 ≤ _), (by decide : 21 + 0 ≤ _)⟩)
  dsimp only [Pt.U, Pt.locs, Pt.cells, Pt.slots] at X353 l353 y353 z353 st353 hQ353
  rw [l353, y353, z353] at X353
  clear l353 y353 z353
  obtain ⟨hr353, N353q, eh353⟩ := hQ353
  rw [hr353] at st353
  clear hr353
  have N353 := Fr.app N351 N353q
  refine Go.via (st353) ?_
  clear st353
  have e353 : T353.heap = T328.heap := eh353
  clear X351 e351
  show Go p e below (T353.setTop (mkF m 228 #[.val (.long lo), .second, .val (.int hi), .val (.ref b87), .val (.ref b109), .val (.int ((v146 + v147) + v148)), .val (.int ((v169 + v170) + v171)), .val (.int ((v192 + v193) + v194)), .val (.int ((v215 + v216) + v217)), .val (.int ((v238 + v239) + v240)), .val (.int ((v261 + v262) + v263)), .val (.int ((v284 + v285) + v286)), .val (.int ((v307 + v308) + v309)), .val (.int ((v330 + v331) + v332))] [(.int (own_ref x1 x0 (0 : Int32) (0 : Int32) (0 : Int32) (0 : Int32) (0 : Int32))), (.int ((v169 + v170) + v171))])) _
  refine Go.via (fun _ => XS.icmpNo X353.here hx rfl (hb hby at_228) rfl (teq (R1 : ((v169 + v170) + v171) = (own_ref x1 x0 (0 : Int32) (0 : Int32) (0 : Int32) (0 : Int32) (0 : Int32)))).2) ?_
  show Go p e below (T353.setTop (mkF m 231 #[.val (.long lo), .second, .val (.int hi), .val (.ref b87), .val (.ref b109), .val (.int ((v146 + v147) + v148)), .val (.int ((v169 + v170) + v171)), .val (.int ((v192 + v193) + v194)), .val (.int ((v215 + v216) + v217)), .val (.int ((v238 + v239) + v240)), .val (.int ((v261 + v262) + v263)), .val (.int ((v284 + v285) + v286)), .val (.int ((v307 + v308) + v309)), .val (.int ((v330 + v331) + v332))] [])) _
  refine Go.via (fun _ => XS.iload X353.here hx rfl (hb hby at_231) rfl) ?_
  refine Go.via (fun _ => XS.aloadN X353.here hx rfl (hb hby at_233) rfl rfl) ?_
  refine Go.via (fun _ => XS.iconst X353.here hx rfl (hb hby at_234)) ?_
  obtain ⟨r354, _, ⟨T354, L354, k354, n354⟩, -, X354, ⟨Lc354, hQ354, l354, y354, z354⟩, st354⟩ := Jvm.LawKit.callS X353 hx (y := (⟨"com/example/relate_by_hash/relatebyhash/ctph/RollingHashUpdatePinLaw", "ref", "([II)I"⟩ : MethodName)) hown (mvT hZ (tw hw 26 rfl)) (mvT hZ (tw hw 27 rfl)) (mvT hZ (tw hw 28 rfl)) (mvT hZ (tw hw 29 rfl)) (by decide) (backOf (W := 1) (rm4 l Z a0 hw [] b87 (2 : Int32) [x0, x1, x2, x3, x4, x5, x6, x7, x8] T328.heap n0 z352 f350 (by first | decide | (simp only [List.length_cons, List.length_nil]; decide) | rfl) (by first | decide | (simp only [List.length_cons, List.length_nil]; decide) | rfl)) hZ (tw hw 29 rfl) (tw hw 28 rfl) (by decide) (by decide)) (g := (mkF m 235 #[.val (.long lo), .second, .val (.int hi), .val (.ref b87), .val (.ref b109), .val (.int ((v146 + v147) + v148)), .val (.int ((v169 + v170) + v171)), .val (.int ((v192 + v193) + v194)), .val (.int ((v215 + v216) + v217)), .val (.int ((v238 + v239) + v240)), .val (.int ((v261 + v262) + v263)), .val (.int ((v284 + v285) + v286)), .val (.int ((v307 + v308) + v309)), .val (.int ((v330 + v331) + v332))] [(.int (2 : Int32)), (.ref b87), (.int ((v192 + v193) + v194))])) rfl (by rw [hml]; rfl) (argsL := [(.ref b87), (.int (2 : Int32))]) (rest := [(.int ((v192 + v193) + v194))]) (lenOf pd__28_5bII_29I rfl) rfl (by show 2 * 0 + _ ≤ _; exact Nat.le_of_eq rfl) (hb hby at_235) (fun _ _ => ⟨rfl, e353, (by decide : 3 + 0 ≤ _), (by decide : 21 + 0 ≤ _)⟩)
  dsimp only [Pt.U, Pt.locs, Pt.cells, Pt.slots] at X354 l354 y354 z354 st354 hQ354
  rw [l354, y354, z354] at X354
  clear l354 y354 z354
  obtain ⟨hr354, N354q, eh354⟩ := hQ354
  rw [hr354] at st354
  clear hr354
  have N354 := Fr.app N353 N354q
  refine Go.via (st354) ?_
  clear st354
  have e354 : T354.heap = T328.heap := eh354
  clear X353 e353
  show Go p e below (T354.setTop (mkF m 238 #[.val (.long lo), .second, .val (.int hi), .val (.ref b87), .val (.ref b109), .val (.int ((v146 + v147) + v148)), .val (.int ((v169 + v170) + v171)), .val (.int ((v192 + v193) + v194)), .val (.int ((v215 + v216) + v217)), .val (.int ((v238 + v239) + v240)), .val (.int ((v261 + v262) + v263)), .val (.int ((v284 + v285) + v286)), .val (.int ((v307 + v308) + v309)), .val (.int ((v330 + v331) + v332))] [(.int (own_ref x2 x1 x0 (0 : Int32) (0 : Int32) (0 : Int32) (0 : Int32))), (.int ((v192 + v193) + v194))])) _
  refine Go.via (fun _ => XS.icmpNo X354.here hx rfl (hb hby at_238) rfl (teq (R2 : ((v192 + v193) + v194) = (own_ref x2 x1 x0 (0 : Int32) (0 : Int32) (0 : Int32) (0 : Int32)))).2) ?_
  show Go p e below (T354.setTop (mkF m 241 #[.val (.long lo), .second, .val (.int hi), .val (.ref b87), .val (.ref b109), .val (.int ((v146 + v147) + v148)), .val (.int ((v169 + v170) + v171)), .val (.int ((v192 + v193) + v194)), .val (.int ((v215 + v216) + v217)), .val (.int ((v238 + v239) + v240)), .val (.int ((v261 + v262) + v263)), .val (.int ((v284 + v285) + v286)), .val (.int ((v307 + v308) + v309)), .val (.int ((v330 + v331) + v332))] [])) _
  refine Go.via (fun _ => XS.iload X354.here hx rfl (hb hby at_241) rfl) ?_
  refine Go.via (fun _ => XS.aloadN X354.here hx rfl (hb hby at_243) rfl rfl) ?_
  refine Go.via (fun _ => XS.iconst X354.here hx rfl (hb hby at_244)) ?_
  obtain ⟨r355, _, ⟨T355, L355, k355, n355⟩, -, X355, ⟨Lc355, hQ355, l355, y355, z355⟩, st355⟩ := Jvm.LawKit.callS X354 hx (y := (⟨"com/example/relate_by_hash/relatebyhash/ctph/RollingHashUpdatePinLaw", "ref", "([II)I"⟩ : MethodName)) hown (mvT hZ (tw hw 26 rfl)) (mvT hZ (tw hw 27 rfl)) (mvT hZ (tw hw 28 rfl)) (mvT hZ (tw hw 29 rfl)) (by decide) (backOf (W := 1) (rm4 l Z a0 hw [] b87 (3 : Int32) [x0, x1, x2, x3, x4, x5, x6, x7, x8] T328.heap n0 z352 f350 (by first | decide | (simp only [List.length_cons, List.length_nil]; decide) | rfl) (by first | decide | (simp only [List.length_cons, List.length_nil]; decide) | rfl)) hZ (tw hw 29 rfl) (tw hw 28 rfl) (by decide) (by decide)) (g := (mkF m 245 #[.val (.long lo), .second, .val (.int hi), .val (.ref b87), .val (.ref b109), .val (.int ((v146 + v147) + v148)), .val (.int ((v169 + v170) + v171)), .val (.int ((v192 + v193) + v194)), .val (.int ((v215 + v216) + v217)), .val (.int ((v238 + v239) + v240)), .val (.int ((v261 + v262) + v263)), .val (.int ((v284 + v285) + v286)), .val (.int ((v307 + v308) + v309)), .val (.int ((v330 + v331) + v332))] [(.int (3 : Int32)), (.ref b87), (.int ((v215 + v216) + v217))])) rfl (by rw [hml]; rfl) (argsL := [(.ref b87), (.int (3 : Int32))]) (rest := [(.int ((v215 + v216) + v217))]) (lenOf pd__28_5bII_29I rfl) rfl (by show 2 * 0 + _ ≤ _; exact Nat.le_of_eq rfl) (hb hby at_245) (fun _ _ => ⟨rfl, e354, (by decide : 3 + 0 ≤ _), (by decide : 21 + 0 ≤ _)⟩)
  dsimp only [Pt.U, Pt.locs, Pt.cells, Pt.slots] at X355 l355 y355 z355 st355 hQ355
  rw [l355, y355, z355] at X355
  clear l355 y355 z355
  obtain ⟨hr355, N355q, eh355⟩ := hQ355
  rw [hr355] at st355
  clear hr355
  have N355 := Fr.app N354 N355q
  refine Go.via (st355) ?_
  clear st355
  have e355 : T355.heap = T328.heap := eh355
  clear X354 e354
  show Go p e below (T355.setTop (mkF m 248 #[.val (.long lo), .second, .val (.int hi), .val (.ref b87), .val (.ref b109), .val (.int ((v146 + v147) + v148)), .val (.int ((v169 + v170) + v171)), .val (.int ((v192 + v193) + v194)), .val (.int ((v215 + v216) + v217)), .val (.int ((v238 + v239) + v240)), .val (.int ((v261 + v262) + v263)), .val (.int ((v284 + v285) + v286)), .val (.int ((v307 + v308) + v309)), .val (.int ((v330 + v331) + v332))] [(.int (own_ref x3 x2 x1 x0 (0 : Int32) (0 : Int32) (0 : Int32))), (.int ((v215 + v216) + v217))])) _
  refine Go.via (fun _ => XS.icmpNo X355.here hx rfl (hb hby at_248) rfl (teq (R3 : ((v215 + v216) + v217) = (own_ref x3 x2 x1 x0 (0 : Int32) (0 : Int32) (0 : Int32)))).2) ?_
  show Go p e below (T355.setTop (mkF m 251 #[.val (.long lo), .second, .val (.int hi), .val (.ref b87), .val (.ref b109), .val (.int ((v146 + v147) + v148)), .val (.int ((v169 + v170) + v171)), .val (.int ((v192 + v193) + v194)), .val (.int ((v215 + v216) + v217)), .val (.int ((v238 + v239) + v240)), .val (.int ((v261 + v262) + v263)), .val (.int ((v284 + v285) + v286)), .val (.int ((v307 + v308) + v309)), .val (.int ((v330 + v331) + v332))] [])) _
  refine Go.via (fun _ => XS.iload X355.here hx rfl (hb hby at_251) rfl) ?_
  refine Go.via (fun _ => XS.aloadN X355.here hx rfl (hb hby at_253) rfl rfl) ?_
  refine Go.via (fun _ => XS.iconst X355.here hx rfl (hb hby at_254)) ?_
  obtain ⟨r356, _, ⟨T356, L356, k356, n356⟩, -, X356, ⟨Lc356, hQ356, l356, y356, z356⟩, st356⟩ := Jvm.LawKit.callS X355 hx (y := (⟨"com/example/relate_by_hash/relatebyhash/ctph/RollingHashUpdatePinLaw", "ref", "([II)I"⟩ : MethodName)) hown (mvT hZ (tw hw 26 rfl)) (mvT hZ (tw hw 27 rfl)) (mvT hZ (tw hw 28 rfl)) (mvT hZ (tw hw 29 rfl)) (by decide) (backOf (W := 1) (rm4 l Z a0 hw [] b87 (4 : Int32) [x0, x1, x2, x3, x4, x5, x6, x7, x8] T328.heap n0 z352 f350 (by first | decide | (simp only [List.length_cons, List.length_nil]; decide) | rfl) (by first | decide | (simp only [List.length_cons, List.length_nil]; decide) | rfl)) hZ (tw hw 29 rfl) (tw hw 28 rfl) (by decide) (by decide)) (g := (mkF m 255 #[.val (.long lo), .second, .val (.int hi), .val (.ref b87), .val (.ref b109), .val (.int ((v146 + v147) + v148)), .val (.int ((v169 + v170) + v171)), .val (.int ((v192 + v193) + v194)), .val (.int ((v215 + v216) + v217)), .val (.int ((v238 + v239) + v240)), .val (.int ((v261 + v262) + v263)), .val (.int ((v284 + v285) + v286)), .val (.int ((v307 + v308) + v309)), .val (.int ((v330 + v331) + v332))] [(.int (4 : Int32)), (.ref b87), (.int ((v238 + v239) + v240))])) rfl (by rw [hml]; rfl) (argsL := [(.ref b87), (.int (4 : Int32))]) (rest := [(.int ((v238 + v239) + v240))]) (lenOf pd__28_5bII_29I rfl) rfl (by show 2 * 0 + _ ≤ _; exact Nat.le_of_eq rfl) (hb hby at_255) (fun _ _ => ⟨rfl, e355, (by decide : 3 + 0 ≤ _), (by decide : 21 + 0 ≤ _)⟩)
  dsimp only [Pt.U, Pt.locs, Pt.cells, Pt.slots] at X356 l356 y356 z356 st356 hQ356
  rw [l356, y356, z356] at X356
  clear l356 y356 z356
  obtain ⟨hr356, N356q, eh356⟩ := hQ356
  rw [hr356] at st356
  clear hr356
  have N356 := Fr.app N355 N356q
  refine Go.via (st356) ?_
  clear st356
  have e356 : T356.heap = T328.heap := eh356
  clear X355 e355
  show Go p e below (T356.setTop (mkF m 258 #[.val (.long lo), .second, .val (.int hi), .val (.ref b87), .val (.ref b109), .val (.int ((v146 + v147) + v148)), .val (.int ((v169 + v170) + v171)), .val (.int ((v192 + v193) + v194)), .val (.int ((v215 + v216) + v217)), .val (.int ((v238 + v239) + v240)), .val (.int ((v261 + v262) + v263)), .val (.int ((v284 + v285) + v286)), .val (.int ((v307 + v308) + v309)), .val (.int ((v330 + v331) + v332))] [(.int (own_ref x4 x3 x2 x1 x0 (0 : Int32) (0 : Int32))), (.int ((v238 + v239) + v240))])) _
  refine Go.via (fun _ => XS.icmpNo X356.here hx rfl (hb hby at_258) rfl (teq (R4 : ((v238 + v239) + v240) = (own_ref x4 x3 x2 x1 x0 (0 : Int32) (0 : Int32)))).2) ?_
  show Go p e below (T356.setTop (mkF m 261 #[.val (.long lo), .second, .val (.int hi), .val (.ref b87), .val (.ref b109), .val (.int ((v146 + v147) + v148)), .val (.int ((v169 + v170) + v171)), .val (.int ((v192 + v193) + v194)), .val (.int ((v215 + v216) + v217)), .val (.int ((v238 + v239) + v240)), .val (.int ((v261 + v262) + v263)), .val (.int ((v284 + v285) + v286)), .val (.int ((v307 + v308) + v309)), .val (.int ((v330 + v331) + v332))] [])) _
  refine Go.via (fun _ => XS.iload X356.here hx rfl (hb hby at_261) rfl) ?_
  refine Go.via (fun _ => XS.aloadN X356.here hx rfl (hb hby at_263) rfl rfl) ?_
  refine Go.via (fun _ => XS.iconst X356.here hx rfl (hb hby at_264)) ?_
  obtain ⟨r357, _, ⟨T357, L357, k357, n357⟩, -, X357, ⟨Lc357, hQ357, l357, y357, z357⟩, st357⟩ := Jvm.LawKit.callS X356 hx (y := (⟨"com/example/relate_by_hash/relatebyhash/ctph/RollingHashUpdatePinLaw", "ref", "([II)I"⟩ : MethodName)) hown (mvT hZ (tw hw 26 rfl)) (mvT hZ (tw hw 27 rfl)) (mvT hZ (tw hw 28 rfl)) (mvT hZ (tw hw 29 rfl)) (by decide) (backOf (W := 1) (rm4 l Z a0 hw [] b87 (5 : Int32) [x0, x1, x2, x3, x4, x5, x6, x7, x8] T328.heap n0 z352 f350 (by first | decide | (simp only [List.length_cons, List.length_nil]; decide) | rfl) (by first | decide | (simp only [List.length_cons, List.length_nil]; decide) | rfl)) hZ (tw hw 29 rfl) (tw hw 28 rfl) (by decide) (by decide)) (g := (mkF m 265 #[.val (.long lo), .second, .val (.int hi), .val (.ref b87), .val (.ref b109), .val (.int ((v146 + v147) + v148)), .val (.int ((v169 + v170) + v171)), .val (.int ((v192 + v193) + v194)), .val (.int ((v215 + v216) + v217)), .val (.int ((v238 + v239) + v240)), .val (.int ((v261 + v262) + v263)), .val (.int ((v284 + v285) + v286)), .val (.int ((v307 + v308) + v309)), .val (.int ((v330 + v331) + v332))] [(.int (5 : Int32)), (.ref b87), (.int ((v261 + v262) + v263))])) rfl (by rw [hml]; rfl) (argsL := [(.ref b87), (.int (5 : Int32))]) (rest := [(.int ((v261 + v262) + v263))]) (lenOf pd__28_5bII_29I rfl) rfl (by show 2 * 0 + _ ≤ _; exact Nat.le_of_eq rfl) (hb hby at_265) (fun _ _ => ⟨rfl, e356, (by decide : 3 + 0 ≤ _), (by decide : 21 + 0 ≤ _)⟩)
  dsimp only [Pt.U, Pt.locs, Pt.cells, Pt.slots] at X357 l357 y357 z357 st357 hQ357
  rw [l357, y357, z357] at X357
  clear l357 y357 z357
  obtain ⟨hr357, N357q, eh357⟩ := hQ357
  rw [hr357] at st357
  clear hr357
  have N357 := Fr.app N356 N357q
  refine Go.via (st357) ?_
  clear st357
  have e357 : T357.heap = T328.heap := eh357
  clear X356 e356
  show Go p e below (T357.setTop (mkF m 268 #[.val (.long lo), .second, .val (.int hi), .val (.ref b87), .val (.ref b109), .val (.int ((v146 + v147) + v148)), .val (.int ((v169 + v170) + v171)), .val (.int ((v192 + v193) + v194)), .val (.int ((v215 + v216) + v217)), .val (.int ((v238 + v239) + v240)), .val (.int ((v261 + v262) + v263)), .val (.int ((v284 + v285) + v286)), .val (.int ((v307 + v308) + v309)), .val (.int ((v330 + v331) + v332))] [(.int (own_ref x5 x4 x3 x2 x1 x0 (0 : Int32))), (.int ((v261 + v262) + v263))])) _
  refine Go.via (fun _ => XS.icmpNo X357.here hx rfl (hb hby at_268) rfl (teq (R5 : ((v261 + v262) + v263) = (own_ref x5 x4 x3 x2 x1 x0 (0 : Int32)))).2) ?_
  show Go p e below (T357.setTop (mkF m 271 #[.val (.long lo), .second, .val (.int hi), .val (.ref b87), .val (.ref b109), .val (.int ((v146 + v147) + v148)), .val (.int ((v169 + v170) + v171)), .val (.int ((v192 + v193) + v194)), .val (.int ((v215 + v216) + v217)), .val (.int ((v238 + v239) + v240)), .val (.int ((v261 + v262) + v263)), .val (.int ((v284 + v285) + v286)), .val (.int ((v307 + v308) + v309)), .val (.int ((v330 + v331) + v332))] [])) _
  refine Go.via (fun _ => XS.iload X357.here hx rfl (hb hby at_271) rfl) ?_
  refine Go.via (fun _ => XS.aloadN X357.here hx rfl (hb hby at_273) rfl rfl) ?_
  refine Go.via (fun _ => XS.bipush X357.here hx rfl (hb hby at_274)) ?_
  obtain ⟨r358, _, ⟨T358, L358, k358, n358⟩, -, X358, ⟨Lc358, hQ358, l358, y358, z358⟩, st358⟩ := Jvm.LawKit.callS X357 hx (y := (⟨"com/example/relate_by_hash/relatebyhash/ctph/RollingHashUpdatePinLaw", "ref", "([II)I"⟩ : MethodName)) hown (mvT hZ (tw hw 26 rfl)) (mvT hZ (tw hw 27 rfl)) (mvT hZ (tw hw 28 rfl)) (mvT hZ (tw hw 29 rfl)) (by decide) (backOf (W := 1) (rm4 l Z a0 hw [] b87 (6 : Int32) [x0, x1, x2, x3, x4, x5, x6, x7, x8] T328.heap n0 z352 f350 (by first | decide | (simp only [List.length_cons, List.length_nil]; decide) | rfl) (by first | decide | (simp only [List.length_cons, List.length_nil]; decide) | rfl)) hZ (tw hw 29 rfl) (tw hw 28 rfl) (by decide) (by decide)) (g := (mkF m 276 #[.val (.long lo), .second, .val (.int hi), .val (.ref b87), .val (.ref b109), .val (.int ((v146 + v147) + v148)), .val (.int ((v169 + v170) + v171)), .val (.int ((v192 + v193) + v194)), .val (.int ((v215 + v216) + v217)), .val (.int ((v238 + v239) + v240)), .val (.int ((v261 + v262) + v263)), .val (.int ((v284 + v285) + v286)), .val (.int ((v307 + v308) + v309)), .val (.int ((v330 + v331) + v332))] [(.int (6 : Int32)), (.ref b87), (.int ((v284 + v285) + v286))])) rfl (by rw [hml]; rfl) (argsL := [(.ref b87), (.int (6 : Int32))]) (rest := [(.int ((v284 + v285) + v286))]) (lenOf pd__28_5bII_29I rfl) rfl (by show 2 * 0 + _ ≤ _; exact Nat.le_of_eq rfl) (hb hby at_276) (fun _ _ => ⟨rfl, e357, (by decide : 3 + 0 ≤ _), (by decide : 21 + 0 ≤ _)⟩)
  dsimp only [Pt.U, Pt.locs, Pt.cells, Pt.slots] at X358 l358 y358 z358 st358 hQ358
  rw [l358, y358, z358] at X358
  clear l358 y358 z358
  obtain ⟨hr358, N358q, eh358⟩ := hQ358
  rw [hr358] at st358
  clear hr358
  have N358 := Fr.app N357 N358q
  refine Go.via (st358) ?_
  clear st358
  have e358 : T358.heap = T328.heap := eh358
  clear X357 e357
  show Go p e below (T358.setTop (mkF m 279 #[.val (.long lo), .second, .val (.int hi), .val (.ref b87), .val (.ref b109), .val (.int ((v146 + v147) + v148)), .val (.int ((v169 + v170) + v171)), .val (.int ((v192 + v193) + v194)), .val (.int ((v215 + v216) + v217)), .val (.int ((v238 + v239) + v240)), .val (.int ((v261 + v262) + v263)), .val (.int ((v284 + v285) + v286)), .val (.int ((v307 + v308) + v309)), .val (.int ((v330 + v331) + v332))] [(.int (own_ref x6 x5 x4 x3 x2 x1 x0)), (.int ((v284 + v285) + v286))])) _
  refine Go.via (fun _ => XS.icmpNo X358.here hx rfl (hb hby at_279) rfl (teq (R6 : ((v284 + v285) + v286) = (own_ref x6 x5 x4 x3 x2 x1 x0))).2) ?_
  show Go p e below (T358.setTop (mkF m 282 #[.val (.long lo), .second, .val (.int hi), .val (.ref b87), .val (.ref b109), .val (.int ((v146 + v147) + v148)), .val (.int ((v169 + v170) + v171)), .val (.int ((v192 + v193) + v194)), .val (.int ((v215 + v216) + v217)), .val (.int ((v238 + v239) + v240)), .val (.int ((v261 + v262) + v263)), .val (.int ((v284 + v285) + v286)), .val (.int ((v307 + v308) + v309)), .val (.int ((v330 + v331) + v332))] [])) _
  refine Go.via (fun _ => XS.iload X358.here hx rfl (hb hby at_282) rfl) ?_
  refine Go.via (fun _ => XS.aloadN X358.here hx rfl (hb hby at_284) rfl rfl) ?_
  refine Go.via (fun _ => XS.bipush X358.here hx rfl (hb hby at_285)) ?_
  obtain ⟨r359, _, ⟨T359, L359, k359, n359⟩, -, X359, ⟨Lc359, hQ359, l359, y359, z359⟩, st359⟩ := Jvm.LawKit.callS X358 hx (y := (⟨"com/example/relate_by_hash/relatebyhash/ctph/RollingHashUpdatePinLaw", "ref", "([II)I"⟩ : MethodName)) hown (mvT hZ (tw hw 26 rfl)) (mvT hZ (tw hw 27 rfl)) (mvT hZ (tw hw 28 rfl)) (mvT hZ (tw hw 29 rfl)) (by decide) (backOf (W := 1) (rm4 l Z a0 hw [] b87 (7 : Int32) [x0, x1, x2, x3, x4, x5, x6, x7, x8] T328.heap n0 z352 f350 (by first | decide | (simp only [List.length_cons, List.length_nil]; decide) | rfl) (by first | decide | (simp only [List.length_cons, List.length_nil]; decide) | rfl)) hZ (tw hw 29 rfl) (tw hw 28 rfl) (by decide) (by decide)) (g := (mkF m 287 #[.val (.long lo), .second, .val (.int hi), .val (.ref b87), .val (.ref b109), .val (.int ((v146 + v147) + v148)), .val (.int ((v169 + v170) + v171)), .val (.int ((v192 + v193) + v194)), .val (.int ((v215 + v216) + v217)), .val (.int ((v238 + v239) + v240)), .val (.int ((v261 + v262) + v263)), .val (.int ((v284 + v285) + v286)), .val (.int ((v307 + v308) + v309)), .val (.int ((v330 + v331) + v332))] [(.int (7 : Int32)), (.ref b87), (.int ((v307 + v308) + v309))])) rfl (by rw [hml]; rfl) (argsL := [(.ref b87), (.int (7 : Int32))]) (rest := [(.int ((v307 + v308) + v309))]) (lenOf pd__28_5bII_29I rfl) rfl (by show 2 * 0 + _ ≤ _; exact Nat.le_of_eq rfl) (hb hby at_287) (fun _ _ => ⟨rfl, e358, (by decide : 3 + 0 ≤ _), (by decide : 21 + 0 ≤ _)⟩)
  dsimp only [Pt.U, Pt.locs, Pt.cells, Pt.slots] at X359 l359 y359 z359 st359 hQ359
  rw [l359, y359, z359] at X359
  clear l359 y359 z359
  obtain ⟨hr359, N359q, eh359⟩ := hQ359
  rw [hr359] at st359
  clear hr359
  have N359 := Fr.app N358 N359q
  refine Go.via (st359) ?_
  clear st359
  have e359 : T359.heap = T328.heap := eh359
  clear X358 e358
  show Go p e below (T359.setTop (mkF m 290 #[.val (.long lo), .second, .val (.int hi), .val (.ref b87), .val (.ref b109), .val (.int ((v146 + v147) + v148)), .val (.int ((v169 + v170) + v171)), .val (.int ((v192 + v193) + v194)), .val (.int ((v215 + v216) + v217)), .val (.int ((v238 + v239) + v240)), .val (.int ((v261 + v262) + v263)), .val (.int ((v284 + v285) + v286)), .val (.int ((v307 + v308) + v309)), .val (.int ((v330 + v331) + v332))] [(.int (own_ref x7 x6 x5 x4 x3 x2 x1)), (.int ((v307 + v308) + v309))])) _
  refine Go.via (fun _ => XS.icmpNo X359.here hx rfl (hb hby at_290) rfl (teq (R7 : ((v307 + v308) + v309) = (own_ref x7 x6 x5 x4 x3 x2 x1))).2) ?_
  show Go p e below (T359.setTop (mkF m 293 #[.val (.long lo), .second, .val (.int hi), .val (.ref b87), .val (.ref b109), .val (.int ((v146 + v147) + v148)), .val (.int ((v169 + v170) + v171)), .val (.int ((v192 + v193) + v194)), .val (.int ((v215 + v216) + v217)), .val (.int ((v238 + v239) + v240)), .val (.int ((v261 + v262) + v263)), .val (.int ((v284 + v285) + v286)), .val (.int ((v307 + v308) + v309)), .val (.int ((v330 + v331) + v332))] [])) _
  refine Go.via (fun _ => XS.iload X359.here hx rfl (hb hby at_293) rfl) ?_
  refine Go.via (fun _ => XS.aloadN X359.here hx rfl (hb hby at_295) rfl rfl) ?_
  refine Go.via (fun _ => XS.bipush X359.here hx rfl (hb hby at_296)) ?_
  obtain ⟨r360, _, ⟨T360, L360, k360, n360⟩, -, X360, ⟨Lc360, hQ360, l360, y360, z360⟩, st360⟩ := Jvm.LawKit.callS X359 hx (y := (⟨"com/example/relate_by_hash/relatebyhash/ctph/RollingHashUpdatePinLaw", "ref", "([II)I"⟩ : MethodName)) hown (mvT hZ (tw hw 26 rfl)) (mvT hZ (tw hw 27 rfl)) (mvT hZ (tw hw 28 rfl)) (mvT hZ (tw hw 29 rfl)) (by decide) (backOf (W := 1) (rm4 l Z a0 hw [] b87 (8 : Int32) [x0, x1, x2, x3, x4, x5, x6, x7, x8] T328.heap n0 z352 f350 (by first | decide | (simp only [List.length_cons, List.length_nil]; decide) | rfl) (by first | decide | (simp only [List.length_cons, List.length_nil]; decide) | rfl)) hZ (tw hw 29 rfl) (tw hw 28 rfl) (by decide) (by decide)) (g := (mkF m 298 #[.val (.long lo), .second, .val (.int hi), .val (.ref b87), .val (.ref b109), .val (.int ((v146 + v147) + v148)), .val (.int ((v169 + v170) + v171)), .val (.int ((v192 + v193) + v194)), .val (.int ((v215 + v216) + v217)), .val (.int ((v238 + v239) + v240)), .val (.int ((v261 + v262) + v263)), .val (.int ((v284 + v285) + v286)), .val (.int ((v307 + v308) + v309)), .val (.int ((v330 + v331) + v332))] [(.int (8 : Int32)), (.ref b87), (.int ((v330 + v331) + v332))])) rfl (by rw [hml]; rfl) (argsL := [(.ref b87), (.int (8 : Int32))]) (rest := [(.int ((v330 + v331) + v332))]) (lenOf pd__28_5bII_29I rfl) rfl (by show 2 * 0 + _ ≤ _; exact Nat.le_of_eq rfl) (hb hby at_298) (fun _ _ => ⟨rfl, e359, (by decide : 3 + 0 ≤ _), (by decide : 21 + 0 ≤ _)⟩)
  dsimp only [Pt.U, Pt.locs, Pt.cells, Pt.slots] at X360 l360 y360 z360 st360 hQ360
  rw [l360, y360, z360] at X360
  clear l360 y360 z360
  obtain ⟨hr360, N360q, eh360⟩ := hQ360
  rw [hr360] at st360
  clear hr360
  have N360 := Fr.app N359 N360q
  refine Go.via (st360) ?_
  clear st360
  have e360 : T360.heap = T328.heap := eh360
  clear X359 e359
  show Go p e below (T360.setTop (mkF m 301 #[.val (.long lo), .second, .val (.int hi), .val (.ref b87), .val (.ref b109), .val (.int ((v146 + v147) + v148)), .val (.int ((v169 + v170) + v171)), .val (.int ((v192 + v193) + v194)), .val (.int ((v215 + v216) + v217)), .val (.int ((v238 + v239) + v240)), .val (.int ((v261 + v262) + v263)), .val (.int ((v284 + v285) + v286)), .val (.int ((v307 + v308) + v309)), .val (.int ((v330 + v331) + v332))] [(.int (own_ref x8 x7 x6 x5 x4 x3 x2)), (.int ((v330 + v331) + v332))])) _
  refine Go.via (fun _ => XS.icmpNo X360.here hx rfl (hb hby at_301) rfl (teq (R8 : ((v330 + v331) + v332) = (own_ref x8 x7 x6 x5 x4 x3 x2))).2) ?_
  show Go p e below (T360.setTop (mkF m 304 #[.val (.long lo), .second, .val (.int hi), .val (.ref b87), .val (.ref b109), .val (.int ((v146 + v147) + v148)), .val (.int ((v169 + v170) + v171)), .val (.int ((v192 + v193) + v194)), .val (.int ((v215 + v216) + v217)), .val (.int ((v238 + v239) + v240)), .val (.int ((v261 + v262) + v263)), .val (.int ((v284 + v285) + v286)), .val (.int ((v307 + v308) + v309)), .val (.int ((v330 + v331) + v332))] [])) _
  refine Go.via (fun _ => XS.iconst X360.here hx rfl (hb hby at_304)) ?_
  refine Go.via (fun _ => XS.goto X360.here hx rfl (pc0 := 305) (pc' := 309) rfl (hb hby at_305) (by decide) (by decide)) ?_
  have k361 : Keep h0 T328.heap [] := ((((((((((k135.trans K120q (allS (Or.inr sz114) all0)).trans K144q (allS (Or.inr sz114) (allS (Or.inr sz134) all0))).trans K167q (allS (Or.inr sz114) (allS (Or.inr sz134) all0))).trans K190q (allS (Or.inr sz114) (allS (Or.inr sz134) all0))).trans K213q (allS (Or.inr sz114) (allS (Or.inr sz134) all0))).trans K236q (allS (Or.inr sz114) (allS (Or.inr sz134) all0))).trans K259q (allS (Or.inr sz114) (allS (Or.inr sz134) all0))).trans K282q (allS (Or.inr sz114) (allS (Or.inr sz134) all0))).trans K305q (allS (Or.inr sz114) (allS (Or.inr sz134) all0))).trans K328q (allS (Or.inr sz114) (allS (Or.inr sz134) all0)))
  exact Go.fin X360 hlk (v := some (.int (1 : Int32))) (fun h => by rw [Bd.returns] at h; cases h) (fun fs hr => retN X360 hx (t := .boolean) Bd.returns (by simp) (hb hby at_309) hr) (by rw [e360]; exact ⟨rfl, N360, k361⟩) (by decide) (by decide)
set_option maxRecDepth 65536 in
set_option maxHeartbeats 40000000 in
theorem comes_1 {Post : Tables → Env → Array Value → State → Outcome → State → Prop} (hpost : ∀ tb e args s v u, (limb_1_1.after args s (.returned v) u = true ∧ limb_1_2.after args s (.returned v) u = true ∧ True) → FrameEnd s (.returned v) u (Jvm.fieldLocs frame_1_writes args s ++ Jvm.arrayLocs frame_1_arrays args s ++ Jvm.staticLocs frame_1_statics s) 16 128 → Post tb e args s (.returned v) u) :
    ArmFor flags0 classFile x code maxLocals ret World_1 tables_1 room_1 Calls_1 rest_1 Pre_1 Post := by
  intro l hfl _ _ p e ha hc hk s m args below hf hA hF happ hP
  obtain ⟨hcalls, hrest, hpre⟩ := hP
  obtain ⟨-, -, -, hnamed, -, -, -, hat⟩ := (Spec.applies_iff hf).mp happ
  obtain ⟨hg, hn⟩ := and_e (Cond.before_iff.mp (show (Jvm.Cond.and given_1 narrow_1).before args s = true from hpre))
  obtain ⟨g0, r0⟩ := and_e hg
  obtain ⟨q0, r1⟩ := and_e r0
  have q1 := r1
  obtain ⟨w0, w1, rfl⟩ : ∃ w0 w1 : Value, args = #[w0, w1] := by
    have hs : args.size = 2 := by simpa [Cond.value, given_1] using g0
    obtain ⟨L⟩ := args
    match L, hs with
    | [w0, w1], _ => exact ⟨w0, w1, rfl⟩
  have hw := fun d (hd : d ∈ tables_1) => atoms_spec (ws := Jvm.Cond.code x code maxLocals ret :: tables_1) hat d (List.mem_cons_of_mem _ hd)
  have hfit : Fit s := fun {y c} hc i hi => by
    obtain ⟨ha, rfl⟩ := Array.getElem?_eq_some_iff.mp hc
    have q := List.all_eq_true.mp ((Array.all_eq_true_iff_forall_mem.mp hF) _ (Array.getElem_mem ha)) i (List.mem_range.mpr hi)
    simpa [Array.getElem?_eq_getElem hi] using q
  obtain ⟨i0, ei0⟩ := isL_v q0
  obtain rfl : w0 = (.long i0) := Option.some.inj ei0
  obtain ⟨i1, ei1⟩ := is_v q1
  obtain rfl : w1 = (.int i1) := Option.some.inj ei1
  obtain ⟨n, o, h1, h2, h3, _, L, rfl, ⟨rfl, N, -⟩, hq⟩ := rm0 l s _ hw tables_1 i0 i1  s.heap s.heap.size (Nat.le_refl _)  p e ha hc hk s m _ below hf ((Spec.applies_iff_loose hf).mp happ).1 ⟨rfl, State.Warmed39.refl s, rfl⟩ trivial
  refine ⟨n, _, h1, h2, h3, hpost _ _ _ _ _ _ ⟨Cond.after_iff.mpr rfl, Cond.after_iff.mpr (eq_i res_at (Term.int_eval (1)) rfl), trivial⟩ ⟨hq.1, hq.2.1, (hq.2.2.sift fun y hy => Or.inr (N y hy)).mono (by decide) (by decide)⟩⟩
theorem main_1_1 : Claimed_1_1 := comes_1 fun _ _ _ _ _ _ h hF => ⟨h.1, hF⟩
theorem main_1_2 : Claimed_1_2 := comes_1 fun _ _ _ _ _ _ h hF => ⟨h.2.1, hF⟩
end Jvm.Pilot.@@N@@
namespace Jvm.Pilot.@@N@@
open Jvm Jvm.ClassFile Sem Op Lib Jvm.Free Jvm.Stand Jvm.Pilot.@@N@@.Jvm.D
/-! MADE BY PROGRAM (witnessworld.py) out of the Statement's table words and the real class files: 9 classes; the members and pool entries that the words name. The judged class is class 1, her method 1. -/
namespace start1
open Jvm.ClassFile
def u (s : String) : CpInfo := .utf8 (stringToUtf16 s)
/-- a pool by its gaps: so many unusable entries, then the entry; so many at the end -/
def gap : Nat → List CpInfo → List CpInfo
  | 0, r => r
  | n + 1, r => .unusable :: gap n r
def poolList (es : List (Nat × CpInfo)) (last : Nat) : List CpInfo := es.foldr (fun e r => gap e.1 (e.2 :: r)) (gap last [])
def pool (es : List (Nat × CpInfo)) (last : Nat) : Array CpInfo := ⟨poolList es last⟩
def fileOf (pool : Array CpInfo) (this : Nat) (attrs : Array Attribute := #[]) (ms : Array MethodInfo := #[]) (fl : Nat := 33) (sup : Nat := 0) (ifs : Array Nat := #[]) (fds : Array FieldInfo := #[]) : ClassFile where
  minorVersion := 0
  majorVersion := 65
  constantPool := pool
  accessFlags := fl
  thisClass := this
  superClass := sup
  interfaces := ifs
  fields := fds
  methods := ms
  attributes := attrs
def plain (name : String) (sup : Option ClassId) : Class where
  name := name
  kind := .ordinary
  loader := none
  accessFlags := 33
  super := sup
  interfaces := #[]
  cf := none
  fields := #[]
  methods := #[]
  instanceTypes := #[]
  staticTypes := #[]
  resolved := #[]
  callSites := []
  init := .initialized
  statics := none
  mirror := none

def pool0 : Array CpInfo := pool [(5, u "<init>"), (0, u "()V"), (1, .class_ 10), (1, u "java/lang/Object")] 113

def k0c0 : Code := { maxStack := 0, maxLocals := 1, code := object_method_1_code, exceptionTable := #[], attributes := #[] }
def k0m0 : Method := { name := "<init>", desc := "()V", sig := { parameters := [], returnType := none }, accessFlags := 1, code := some k0c0 }
/-- java/lang/Object -/
def k0 : Class := { plain "java/lang/Object" none with
  accessFlags := 33
  interfaces := #[]
  cf := some (fileOf pool0 8 #[] #[{ accessFlags := 1, nameIndex := 5, descriptorIndex := 6, attributes := #[] }] 33 0 #[] #[])
  fields := #[]
  methods := #[k0m0]
  instanceTypes := #[]
  staticTypes := #[]
  resolved := Array.replicate 124 none
  statics := none }

def pool1 : Array CpInfo := pool [(2, .class_ 4), (0, .nameAndType 5 6), (0, u "java/lang/Object"), (0, u "<init>"), (0, u "()V"), (0, .long 255), (1, .class_ 10), (0, u "com/example/relate_by_hash/relatebyhash/ctph/RollingHash"), (0, .methodref 9 3), (0, .methodref 9 13), (0, .nameAndType 14 15), (0, u "update"), (0, u "(I)I"), (0, .methodref 17 18), (0, .class_ 19), (0, .nameAndType 20 21), (0, u "com/example/relate_by_hash/relatebyhash/ctph/RollingHashUpdatePinLaw"), (0, u "ref"), (0, u "([II)I"), (0, .methodref 17 23), (0, .nameAndType 24 21), (0, u "at"), (2, u "law"), (0, u "(JI)Z")] 5

def k1m0 : Method := { name := "<init>", desc := "()V", sig := { parameters := [], returnType := none }, accessFlags := 1, code := none }
def k1c1 : Code := { maxStack := 6, maxLocals := 14, code := code, exceptionTable := #[], attributes := #[] }
def k1m1 : Method := { name := "law", desc := "(JI)Z", sig := { parameters := [.long, .int], returnType := some .boolean }, accessFlags := 9, code := some k1c1 }
def k1c2 : Code := { maxStack := 2, maxLocals := 2, code := method_3_code, exceptionTable := #[], attributes := #[] }
def k1m2 : Method := { name := "at", desc := "([II)I", sig := { parameters := [(.array .int), .int], returnType := some .int }, accessFlags := 10, code := some k1c2 }
def k1c3 : Code := { maxStack := 3, maxLocals := 12, code := method_4_code, exceptionTable := #[], attributes := #[] }
def k1m3 : Method := { name := "ref", desc := "([II)I", sig := { parameters := [(.array .int), .int], returnType := some .int }, accessFlags := 10, code := some k1c3 }
/-- com/example/relate_by_hash/relatebyhash/ctph/RollingHashUpdatePinLaw -/
def k1 : Class := { plain "com/example/relate_by_hash/relatebyhash/ctph/RollingHashUpdatePinLaw" (some 0) with
  accessFlags := 49
  interfaces := #[]
  cf := some (fileOf pool1 17 #[] #[{ accessFlags := 1, nameIndex := 5, descriptorIndex := 6, attributes := #[] }, { accessFlags := 9, nameIndex := 27, descriptorIndex := 28, attributes := #[] }, { accessFlags := 10, nameIndex := 24, descriptorIndex := 21, attributes := #[] }, { accessFlags := 10, nameIndex := 20, descriptorIndex := 21, attributes := #[] }] 49 2 #[] #[])
  fields := #[]
  methods := #[k1m0, k1m1, k1m2, k1m3]
  instanceTypes := #[]
  staticTypes := #[]
  resolved := Array.replicate 34 none
  statics := none }

def pool2 : Array CpInfo := pool [(1, .methodref 2 3), (0, .class_ 4), (0, .nameAndType 5 6), (0, u "java/lang/Object"), (0, u "<init>"), (0, u "()V"), (0, .class_ 8), (0, u "com/example/relate_by_hash/relatebyhash/ctph/RollingHash"), (0, .fieldref 7 10), (0, .nameAndType 11 12), (0, u "window"), (0, u "[I"), (0, .fieldref 7 14), (0, .nameAndType 15 16), (0, u "weightedSum"), (0, u "I"), (0, .fieldref 7 18), (0, .nameAndType 19 16), (0, u "windowSum"), (0, .fieldref 7 21), (0, .nameAndType 22 16), (0, u "windowIndex"), (0, .fieldref 7 24), (0, .nameAndType 25 16), (0, u "shiftHash"), (0, u "WINDOW_SIZE"), (4, u "update"), (0, u "(I)I")] 3

def k2c0 : Code := { maxStack := 2, maxLocals := 1, code := prog_23_method_1_code, exceptionTable := #[], attributes := #[] }
def k2m0 : Method := { name := "<init>", desc := "()V", sig := { parameters := [], returnType := none }, accessFlags := 1, code := some k2c0 }
def k2c1 : Code := { maxStack := 5, maxLocals := 2, code := prog_23_method_2_code, exceptionTable := #[], attributes := #[] }
def k2m1 : Method := { name := "update", desc := "(I)I", sig := { parameters := [.int], returnType := some .int }, accessFlags := 1, code := some k2c1 }
/-- com/example/relate_by_hash/relatebyhash/ctph/RollingHash -/
def k2 : Class := { plain "com/example/relate_by_hash/relatebyhash/ctph/RollingHash" (some 0) with
  accessFlags := 33
  interfaces := #[]
  cf := some (fileOf pool2 7 #[] #[{ accessFlags := 1, nameIndex := 5, descriptorIndex := 6, attributes := #[] }, { accessFlags := 1, nameIndex := 31, descriptorIndex := 32, attributes := #[] }] 33 2 #[] #[{ accessFlags := 26, nameIndex := 26, descriptorIndex := 16, attributes := #[] }, { accessFlags := 18, nameIndex := 11, descriptorIndex := 12, attributes := #[] }, { accessFlags := 2, nameIndex := 22, descriptorIndex := 16, attributes := #[] }, { accessFlags := 2, nameIndex := 19, descriptorIndex := 16, attributes := #[] }, { accessFlags := 2, nameIndex := 15, descriptorIndex := 16, attributes := #[] }, { accessFlags := 2, nameIndex := 25, descriptorIndex := 16, attributes := #[] }])
  fields := #[{ name := "WINDOW_SIZE", type := .int, accessFlags := 26, slot := 0, constantValue := 0 }, { name := "window", type := (.array .int), accessFlags := 18, slot := 0, constantValue := 0 }, { name := "windowIndex", type := .int, accessFlags := 2, slot := 1, constantValue := 0 }, { name := "windowSum", type := .int, accessFlags := 2, slot := 2, constantValue := 0 }, { name := "weightedSum", type := .int, accessFlags := 2, slot := 3, constantValue := 0 }, { name := "shiftHash", type := .int, accessFlags := 2, slot := 4, constantValue := 0 }]
  methods := #[k2m0, k2m1]
  instanceTypes := #[(.array .int), .int, .int, .int, .int]
  staticTypes := #[.int]
  resolved := Array.replicate 36 none
  statics := none }

def pool3 : Array CpInfo := pool [(1, u "java/lang/Cloneable"), (0, .class_ 1), (0, u "java/lang/Object"), (0, .class_ 3)] 3

/-- java/lang/Cloneable -/
def k3 : Class := { plain "java/lang/Cloneable" (some 0) with
  accessFlags := 1537
  interfaces := #[]
  cf := some (fileOf pool3 2 #[] #[] 1537 4 #[] #[])
  fields := #[]
  methods := #[]
  instanceTypes := #[]
  staticTypes := #[]
  resolved := Array.replicate 8 none
  statics := none }

def pool4 : Array CpInfo := pool [(1, u "java/io/Serializable"), (0, .class_ 1), (0, u "java/lang/Object"), (0, .class_ 3)] 3

/-- java/io/Serializable -/
def k4 : Class := { plain "java/io/Serializable" (some 0) with
  accessFlags := 1537
  interfaces := #[]
  cf := some (fileOf pool4 2 #[] #[] 1537 4 #[] #[])
  fields := #[]
  methods := #[]
  instanceTypes := #[]
  staticTypes := #[]
  resolved := Array.replicate 8 none
  statics := none }

/-- the primitive byte -/
def k5 : Class := { plain "byte" none with kind := .primitive 'B', accessFlags := 0x411 }
/-- [B -/
def k6 : Class := { plain "[B" (some 0) with kind := .array 5 .byte, interfaces := #[3, 4], accessFlags := 1041 }

/-- the primitive int -/
def k7 : Class := { plain "int" none with kind := .primitive 'I', accessFlags := 0x411 }
/-- [I -/
def k8 : Class := { plain "[I" (some 0) with kind := .array 7 .int, interfaces := #[3, 4], accessFlags := 1041 }

def heap : Heap := #[]
def classes : Array Class := #[k0, k1, k2, k3, k4, k5, k6, k7, k8]
def interned : List (Array UInt16 × Addr) := []
def slotsUsed : Nat := 0
def theMethod : MethodId := ⟨1, 1⟩
def args0 : Array Value := #[.long 3, .int 1]
def aboutOver (below : List Frame) : State where
  vm := { classes := classes, interned := interned.toArray }
  heap := heap
  slotsUsed := slotsUsed
  threads := #[{ frames := .invoking theMethod args0 :: below }]
def below0 : List Frame := [.native { method := ⟨0, 0⟩, args := #[] }]
def about1 : State := aboutOver below0
def p0 : Program := .bare "" "" ""
def e0 : Env := launch0.env 0 0 0
theorem w_frames : about1.frames = Frame.invoking theMethod args0 :: below0 := rfl
set_option maxRecDepth 65536 in
theorem w_args : argsFit about1.vm theMethod args0 = true := by decide +kernel
set_option maxRecDepth 65536 in
theorem w_heap : heapFits about1 = true := by decide +kernel
set_option maxRecDepth 65536 in
theorem w_runnable : about1.curStatus? = some .runnable := by decide +kernel
set_option maxRecDepth 65536 in
theorem w_alone : about1.alone = true := by decide +kernel
set_option maxRecDepth 65536 in
theorem w_named : about1.methodNamed? x = some theMethod := by decide +kernel
set_option maxRecDepth 65536 in
theorem w_hears : about1.hears theMethod below0 = true := by decide +kernel
set_option maxRecDepth 65536 in
theorem w_ripe : about1.ripe theMethod args0 below0 = true := by decide +kernel
theorem w_running : about1.status = .running := rfl
set_option maxRecDepth 65536 in
theorem w_room : about1.hasRoom e0.platform room_1 = true :=
  launch0.hasRoom_least _ room_1 (by decide +kernel) (by decide +kernel) (by decide +kernel) (by decide +kernel) (by decide +kernel) (by decide +kernel)
theorem allAtoms_all (ts : List Jvm.Cond) (a : Array Jvm.Value) (st : Jvm.State) : (allAtoms ts).before a st = ts.all (fun c => c.before a st) := by
  induction ts with
  | nil => rfl
  | cons c t ih =>
    show (Jvm.Cond.and c (allAtoms t)).before a st = _
    rw [Jvm.Cond.before_and, ih, List.all_cons]
def words1 : List Jvm.Cond := Jvm.Cond.code x code maxLocals ret :: tables_1
/-- a 'code' word, met by the world's own term for the bytes: nothing is compared byte by byte -/
theorem code_word {y : MethodName} {bytes : ByteArray} {mx : Nat} {rt : Option FieldType} {a : Array Value} {s : State} {m : MethodId} {meth : Method} {c : Code} (h1 : s.methodNamed? y = some m) (h2 : s.vm.method? m = some meth) (h3 : meth.code = some c) (h4 : c.code = bytes)
    (h5 : (c.maxLocals == mx && c.exceptionTable.isEmpty && decide (c.maxStack ≤ mostOperands) && decide (meth.sig.returnType = rt) && !meth.locks && decide (parseMethodDescriptor y.desc = some meth.sig)) = true) : (Jvm.Cond.code y bytes mx rt).before a s = true := by
  simp only [Bool.and_eq_true, beq_iff_eq, Bool.not_eq_true', decide_eq_true_eq] at h5
  obtain ⟨⟨⟨⟨⟨g1, g2⟩, g3⟩, g4⟩, g5⟩, g6⟩ := h5
  simp [Cond.before, Cond.holds, Cond.value, h1, h2, h3, h4, g1, g2, g3, g4, g5, g6]
def isCode : Jvm.Cond → Bool
  | .code _ _ _ _ => true
  | _ => false
theorem all_split {L : List Jvm.Cond} {P : Jvm.Cond → Bool} (h1 : L.all (fun c => isCode c || P c) = true) (h2 : ∀ c ∈ L.filter isCode, P c = true) : L.all P = true := by
  refine List.all_eq_true.mpr fun c hc => ?_
  have h := List.all_eq_true.mp h1 c hc
  rcases Bool.eq_false_or_eq_true (isCode c) with hi | hi
  · exact h2 c (List.mem_filter.mpr ⟨hc, hi⟩)
  · simpa [hi] using h
set_option maxRecDepth 65536 in
theorem w_c0 : (Jvm.Cond.code x code maxLocals ret).before args0 about1 = true := code_word (m := ⟨1, 1⟩) (meth := k1m1) (c := k1c1) (by decide +kernel) rfl rfl rfl (by decide +kernel)
set_option maxRecDepth 65536 in
theorem w_c1 : (Jvm.Cond.code ({ cls := "com/example/relate_by_hash/relatebyhash/ctph/RollingHash", name := "<init>", desc := "()V" } : Jvm.MethodName) prog_23_method_1_code (1 : Nat) (Option.none : Option Jvm.ClassFile.FieldType)).before args0 about1 = true := code_word (m := ⟨2, 0⟩) (meth := k2m0) (c := k2c0) (by decide +kernel) rfl rfl rfl (by decide +kernel)
set_option maxRecDepth 65536 in
theorem w_c2 : (Jvm.Cond.code ({ cls := "java/lang/Object", name := "<init>", desc := "()V" } : Jvm.MethodName) object_method_1_code (1 : Nat) (Option.none : Option Jvm.ClassFile.FieldType)).before args0 about1 = true := code_word (m := ⟨0, 0⟩) (meth := k0m0) (c := k0c0) (by decide +kernel) rfl rfl rfl (by decide +kernel)
set_option maxRecDepth 65536 in
theorem w_c3 : (Jvm.Cond.code ({ cls := "com/example/relate_by_hash/relatebyhash/ctph/RollingHash", name := "update", desc := "(I)I" } : Jvm.MethodName) prog_23_method_2_code (2 : Nat) (Option.some Jvm.ClassFile.FieldType.int)).before args0 about1 = true := code_word (m := ⟨2, 1⟩) (meth := k2m1) (c := k2c1) (by decide +kernel) rfl rfl rfl (by decide +kernel)
set_option maxRecDepth 65536 in
theorem w_c4 : (Jvm.Cond.code ({ cls := "com/example/relate_by_hash/relatebyhash/ctph/RollingHashUpdatePinLaw", name := "ref", desc := "([II)I" } : Jvm.MethodName) method_4_code (12 : Nat) (Option.some Jvm.ClassFile.FieldType.int)).before args0 about1 = true := code_word (m := ⟨1, 3⟩) (meth := k1m3) (c := k1c3) (by decide +kernel) rfl rfl rfl (by decide +kernel)
set_option maxRecDepth 65536 in
theorem w_c5 : (Jvm.Cond.code ({ cls := "com/example/relate_by_hash/relatebyhash/ctph/RollingHashUpdatePinLaw", name := "at", desc := "([II)I" } : Jvm.MethodName) method_3_code (2 : Nat) (Option.some Jvm.ClassFile.FieldType.int)).before args0 about1 = true := code_word (m := ⟨1, 2⟩) (meth := k1m2) (c := k1c2) (by decide +kernel) rfl rfl rfl (by decide +kernel)
def codes1 : List Jvm.Cond := [Jvm.Cond.code x code maxLocals ret, Jvm.Cond.code ({ cls := "com/example/relate_by_hash/relatebyhash/ctph/RollingHash", name := "<init>", desc := "()V" } : Jvm.MethodName) prog_23_method_1_code (1 : Nat) (Option.none : Option Jvm.ClassFile.FieldType), Jvm.Cond.code ({ cls := "java/lang/Object", name := "<init>", desc := "()V" } : Jvm.MethodName) object_method_1_code (1 : Nat) (Option.none : Option Jvm.ClassFile.FieldType), Jvm.Cond.code ({ cls := "com/example/relate_by_hash/relatebyhash/ctph/RollingHash", name := "update", desc := "(I)I" } : Jvm.MethodName) prog_23_method_2_code (2 : Nat) (Option.some Jvm.ClassFile.FieldType.int), Jvm.Cond.code ({ cls := "com/example/relate_by_hash/relatebyhash/ctph/RollingHashUpdatePinLaw", name := "ref", desc := "([II)I" } : Jvm.MethodName) method_4_code (12 : Nat) (Option.some Jvm.ClassFile.FieldType.int), Jvm.Cond.code ({ cls := "com/example/relate_by_hash/relatebyhash/ctph/RollingHashUpdatePinLaw", name := "at", desc := "([II)I" } : Jvm.MethodName) method_3_code (2 : Nat) (Option.some Jvm.ClassFile.FieldType.int)]
set_option maxRecDepth 65536 in
theorem codes_eq : words1.filter isCode = codes1 := rfl
theorem w_codes : ∀ c ∈ words1.filter isCode, c.before args0 about1 = true := by
  rw [codes_eq]
  intro c hc
  simp only [codes1, List.mem_cons, List.not_mem_nil, or_false] at hc
  rcases hc with rfl | rfl | rfl | rfl | rfl | rfl
  · exact w_c0
  · exact w_c1
  · exact w_c2
  · exact w_c3
  · exact w_c4
  · exact w_c5
set_option maxRecDepth 65536 in
theorem w_t1 : (words1.take 24).all (fun c => isCode c || c.before args0 about1) = true := by decide +kernel
set_option maxRecDepth 65536 in
theorem w_t2 : (words1.drop 24).all (fun c => isCode c || c.before args0 about1) = true := by decide +kernel
theorem w_tables : (allAtoms (Jvm.Cond.code x code maxLocals ret :: tables_1)).before args0 about1 = true := by
  rw [allAtoms_all]
  show words1.all (fun c => c.before args0 about1) = true
  refine all_split ?_ w_codes
  rw [← List.take_append_drop 24 words1, List.all_append, w_t1, w_t2]
  rfl
set_option maxRecDepth 65536 in
theorem w_case : (Jvm.Cond.and given_1 narrow_1).before args0 about1 = true := by decide +kernel
theorem w_applies : (headSpec (Jvm.Cond.code x code maxLocals ret :: tables_1) room_1).applies x e0.platform about1 = true :=
  (Spec.applies_iff w_frames).mpr ⟨w_running, w_runnable, w_alone, w_named, w_hears, w_ripe, w_room, w_tables⟩
theorem atStart : AtStart classFile x code maxLocals ret World_1 tables_1 room_1 Calls_1 rest_1 Pre_1 launch0 p0 e0 about1 theMethod args0 below0 :=
  ⟨lists_1, trivial, launch0.admits_env _ _ _, launch0.least_env, fairChoices_fair.cas, fairChoices_fair.clock, w_frames, w_args, w_heap, w_applies, trivial, trivial, w_case⟩
end start1
theorem witness_1 : WitnessClaimed_1 := ⟨start1.p0, start1.e0, start1.about1, start1.theMethod, start1.args0, start1.below0, start1.atStart⟩
end Jvm.Pilot.@@N@@
