import JvmDerived
import JvmDerived.Pilot.@@N@@Statement
import JvmDerived.Pilot.@@N@@Code
set_option linter.unusedVariables false
set_option linter.unusedSimpArgs false
namespace Jvm.OwnKit
open Sem ClassFile Op Lib Jvm.Stand Jvm.Free Jvm.LawKit Jvm.RoadKit
section Own
variable {p : Program} {l : Launch} {e : Env} {R : Room} {s : State} {m : MethodId} {args : Array Value} {below : List Frame} {meth : Method} {c : Code} {T : State} {locs : List Loc} {cells slots : Nat} {Z : State} {h h' : Heap} {a b : Addr}
theorem retI (X : Stand p l e R s m args below meth c T locs cells slots) (hx : p.tables.exec = Jvm.exec) {pc : Nat} {Ls : Array Slot} {z : Int32} {rest : List Value} (hret : meth.sig.returnType = some .int) (hd : decode c.code pc = .ok (.ireturn, 1)) {fs : List Frame}
    (hl : ∀ (f : JFrame) (acts : List Action), f.method = m → f.locked = none → f.entered = [] → (doReturn e (T.setTop f) acts (some (.int z))).1 = T.setFrames fs) : Steps p.tables e below (T.setTop (mkF m pc Ls (.int z :: rest))) (T.setFrames fs) :=
  retOut X hx hret rfl (Or.inl ⟨rfl, Or.inl rfl, z, rfl⟩) hd hl
/-- the run goes on from S to an end of which G holds -/
def Go (p : Program) (e : Env) (below : List Frame) (S : State) (G : State → Outcome → Prop) : Prop := ∃ s₂ o, Steps p.tables e below S s₂ ∧ s₂.status = .running ∧ Ended s₂ below o ∧ G s₂ o
theorem Go.via {S S' : State} {G : State → Outcome → Prop} (h : ∀ t, Steps p.tables e below S' t → Steps p.tables e below S t) (k : Go p e below S' G) : Go p e below S G := by
  obtain ⟨a, o, h1, r⟩ := k; exact ⟨a, o, h a h1, r⟩
/-- the end: what is returned, what the heap says, what was written -/
abbrev Done (s : State) (Q : Option Value → Heap → List Loc → Prop) (kc ks : Nat) : State → Outcome → Prop := fun s₂ o => ∃ v L, o = .returned v ∧ Q v s₂.heap L ∧ FrameEnd s o s₂ L kc ks
theorem Go.fin {S : State} (X : Stand p l e R s m args below meth c T locs cells slots) (hlk : meth.locks = false) {v : Option Value} (hv : meth.sig.returnType = none → v = none) {Q : Option Value → Heap → List Loc → Prop} {kc ks : Nat}
    (hstep : ∀ fs, (∀ (f : JFrame) (acts : List Action), f.method = m → f.locked = none → f.entered = [] → (doReturn e (T.setTop f) acts v).1 = T.setFrames fs) → Steps p.tables e below S (T.setFrames fs))
    (hQ : Q v T.heap locs) (hc : cells ≤ kc) (hs : slots ≤ ks) : Go p e below S (Done s Q kc ks) := by
  obtain ⟨fs, hr, hrun, hended, hW, hsame⟩ := X.leave (v := v) hv hlk
  exact ⟨_, _, hstep fs hr, hrun, hended, _, _, rfl, hQ, ⟨_, rfl⟩, hW, hsame.mono hc hs⟩
/-- an array of ints, bytes, chars, shorts or booleans, whole -/
def Ia (Z : State) (h : Heap) (a : Addr) (ty : FieldType) (xs : List Int32) : Prop := ∃ c : Cell, Arr Z h a c ty ∧ c.slots = (xs.map Value.int).toArray ∧ xs.length < 2147483648 ∧ ∀ x ∈ xs, fits ty (.int x) = true
variable {ty : FieldType} {xs : List Int32} {ws : List Addr} {sl : Nat} {v w : Value} {j x n : Int32} {k : ClassId} {rest : List Value}
theorem Ia.lt (F : Ia Z h a ty xs) : a < h.size := by obtain ⟨c, A, -⟩ := F; exact A.lt
theorem Ia.ext (F : Ia Z h a ty xs) (E : Ext h h') : Ia Z h' a ty xs := by obtain ⟨c, A, r⟩ := F; exact ⟨c, A.ext E, r⟩
theorem Ia.other (F : Ia Z h b ty xs) (W : Wr h h' a sl v) (q : b ≠ a) : Ia Z h' b ty xs := by obtain ⟨c, A, r⟩ := F; exact ⟨c, A.other W q, r⟩
theorem Ia.keep (F : Ia Z h a ty xs) (K : Keep h h' ws) (q : a ∉ ws) : Ia Z h' a ty xs := by obtain ⟨c, A, r⟩ := F; exact ⟨c, ⟨K.2.1 a c A.1 q, A.2⟩, r⟩
theorem nn_lt {n : Int32} : n.toNatClampNeg < 2147483648 := by
  have h1 := n.toInt_lt
  simp only [Int32.toNatClampNeg]; omega
theorem Ia.new (A : Arr Z h a (newA k ty n) ty) (hd : defaultValue ty = .int 0) (hf : fits ty (.int 0) = true := by rfl) : Ia Z h a ty (List.replicate n.toNatClampNeg 0) := ⟨_, A, by simp [newA, hd], by simp [nn_lt], fun x hx => by rw [(List.mem_replicate.mp hx).2]; exact hf⟩
theorem Ia.hin {cl : Cell} (e : cl.slots = (xs.map Value.int).toArray) (hj : ¬ j < 0) (hlt : j.toNatClampNeg < xs.length) : ¬ (j < 0 ∨ cl.slots.size ≤ j.toNatClampNeg) := by
  rw [e]; simp only [List.size_toArray, List.length_map]; rintro (q | q); exact hj q; omega
theorem Ia.at {cl : Cell} (e : cl.slots = (xs.map Value.int).toArray) (hv : xs[j.toNatClampNeg]? = some x) : cl.slots[j.toNatClampNeg]? = some (.int x) := by
  rw [e]; simp [hv]
theorem lt_of_at (hv : xs[j.toNatClampNeg]? = some x) : j.toNatClampNeg < xs.length := (List.getElem?_eq_some_iff.mp hv).1
theorem Ia.set {cl : Cell} (A : Arr Z h a cl ty) (e : cl.slots = (xs.map Value.int).toArray) (hl : xs.length < 2147483648) (hf : ∀ x ∈ xs, fits ty (.int x) = true) (W : Wr h h' a j.toNatClampNeg (.int x)) (hx : fits ty (.int x) = true) : Ia Z h' a ty (xs.set j.toNatClampNeg x) :=
  ⟨_, A.same W, by simp [Cell.setSlot, e, List.map_set], by simpa using hl, fun y hy => by rcases List.mem_or_eq_of_mem_set hy with q | q; exact hf y q; rw [q]; exact hx⟩
theorem ldI (X : Stand p l e R s m args below meth c T locs cells slots) (hx : p.tables.exec = Jvm.exec) (hZ : Z.Warmed39 s.vm) (eT : T.heap = h) (F : Ia Z h a .int xs) {v : Int32} (hj : ¬ j < 0) (hv : xs[j.toNatClampNeg]? = some v) {g : JFrame} (hg : g.method = m) (hs : g.stack = .int j :: .ref a :: rest) (hd : decode c.code g.pc = .ok (.iaload, 1)) :
    ∀ t, Steps p.tables e below (T.setTop { g with pc := g.pc + 1, stack := .int v :: rest }) t → Steps p.tables e below (T.setTop g) t := by
  obtain ⟨cl, A, q, -⟩ := F
  exact X.iaload hx (j := j) (v := .int v) (by rw [eT]; exact A.1) (State.isArrayOf_alike hZ.alike A.2.1) A.2.2 (Ia.hin q hj (lt_of_at hv)) (Ia.at q hv) hg hs hd
theorem ldB (X : Stand p l e R s m args below meth c T locs cells slots) (hx : p.tables.exec = Jvm.exec) (hZ : Z.Warmed39 s.vm) (eT : T.heap = h) (F : Ia Z h a .byte xs) {v : Int32} (hj : ¬ j < 0) (hv : xs[j.toNatClampNeg]? = some v) {g : JFrame} (hg : g.method = m) (hs : g.stack = .int j :: .ref a :: rest) (hd : decode c.code g.pc = .ok (.baload, 1)) :
    ∀ t, Steps p.tables e below (T.setTop { g with pc := g.pc + 1, stack := .int v :: rest }) t → Steps p.tables e below (T.setTop g) t := by
  obtain ⟨cl, A, q, -⟩ := F
  exact X.baloadBytes hx (j := j) (v := .int v) (by rw [eT]; exact A.1) (State.isArrayOf_alike hZ.alike A.2.1) A.2.2 (Ia.hin q hj (lt_of_at hv)) (Ia.at q hv) hg hs hd
theorem ldC (X : Stand p l e R s m args below meth c T locs cells slots) (hx : p.tables.exec = Jvm.exec) (hZ : Z.Warmed39 s.vm) (eT : T.heap = h) (F : Ia Z h a .char xs) {v : Int32} (hj : ¬ j < 0) (hv : xs[j.toNatClampNeg]? = some v) {g : JFrame} (hg : g.method = m) (hs : g.stack = .int j :: .ref a :: rest) (hd : decode c.code g.pc = .ok (.caload, 1)) :
    ∀ t, Steps p.tables e below (T.setTop { g with pc := g.pc + 1, stack := .int v :: rest }) t → Steps p.tables e below (T.setTop g) t := by
  obtain ⟨cl, A, q, -⟩ := F
  exact X.caload hx (j := j) (v := .int v) (by rw [eT]; exact A.1) (State.isArrayOf_alike hZ.alike A.2.1) A.2.2 (Ia.hin q hj (lt_of_at hv)) (Ia.at q hv) hg hs hd
theorem stI' (X : Stand p l e R s m args below meth c T locs cells slots) (hx : p.tables.exec = Jvm.exec) (hZ : Z.Warmed39 s.vm) (eT : T.heap = h) (F : Ia Z h a .int xs) (hj : ¬ j < 0) (hlt : j.toNatClampNeg < xs.length) {g : JFrame} (hg : g.method = m) (hs : g.stack = .int x :: .int j :: .ref a :: rest) (hd : decode c.code g.pc = .ok (.iastore, 1)) :
    ∃ T' h', Stand p l e R s m args below meth c T' (locs ++ [⟨a, j.toNatClampNeg⟩]) cells slots ∧ T'.heap = h' ∧ Wr h h' a j.toNatClampNeg (.int x) ∧ Ia Z h' a .int (xs.set j.toNatClampNeg x) ∧ ∀ t, Steps p.tables e below (T'.setTop { g with pc := g.pc + 1, stack := rest }) t → Steps p.tables e below (T.setTop g) t := by
  obtain ⟨cl, A, q, hl, hf⟩ := F
  obtain ⟨T', h', X', e', W, st⟩ := stI X hx hZ eT A (Ia.hin q hj hlt) hg hs hd
  exact ⟨T', h', X', e', W, Ia.set A q hl hf W rfl, st⟩
theorem stB' (X : Stand p l e R s m args below meth c T locs cells slots) (hx : p.tables.exec = Jvm.exec) (hZ : Z.Warmed39 s.vm) (eT : T.heap = h) (F : Ia Z h a .byte xs) (hj : ¬ j < 0) (hlt : j.toNatClampNeg < xs.length) {g : JFrame} (hg : g.method = m) (hs : g.stack = .int x :: .int j :: .ref a :: rest) (hd : decode c.code g.pc = .ok (.bastore, 1)) :
    ∃ T' h', Stand p l e R s m args below meth c T' (locs ++ [⟨a, j.toNatClampNeg⟩]) cells slots ∧ T'.heap = h' ∧ Wr h h' a j.toNatClampNeg (.int (nar .byte x)) ∧ Ia Z h' a .byte (xs.set j.toNatClampNeg (nar .byte x)) ∧ ∀ t, Steps p.tables e below (T'.setTop { g with pc := g.pc + 1, stack := rest }) t → Steps p.tables e below (T.setTop g) t := by
  obtain ⟨cl, A, q, hl, hf⟩ := F
  obtain ⟨T', h', X', e', W, st⟩ := stB X hx hZ eT A (Ia.hin q hj hlt) hg hs hd
  exact ⟨T', h', X', e', W, Ia.set A q hl hf W (fits_nar_byte x), st⟩
theorem stC' (X : Stand p l e R s m args below meth c T locs cells slots) (hx : p.tables.exec = Jvm.exec) (hZ : Z.Warmed39 s.vm) (eT : T.heap = h) (F : Ia Z h a .char xs) (hj : ¬ j < 0) (hlt : j.toNatClampNeg < xs.length) {g : JFrame} (hg : g.method = m) (hs : g.stack = .int x :: .int j :: .ref a :: rest) (hd : decode c.code g.pc = .ok (.castore, 1)) :
    ∃ T' h', Stand p l e R s m args below meth c T' (locs ++ [⟨a, j.toNatClampNeg⟩]) cells slots ∧ T'.heap = h' ∧ Wr h h' a j.toNatClampNeg (.int (nar .char x)) ∧ Ia Z h' a .char (xs.set j.toNatClampNeg (nar .char x)) ∧ ∀ t, Steps p.tables e below (T'.setTop { g with pc := g.pc + 1, stack := rest }) t → Steps p.tables e below (T.setTop g) t := by
  obtain ⟨cl, A, q, hl, hf⟩ := F
  obtain ⟨T', h', X', e', W, st⟩ := stC X hx hZ eT A (Ia.hin q hj hlt) hg hs hd
  exact ⟨T', h', X', e', W, Ia.set A q hl hf W (fits_nar_char x), st⟩
theorem lenI (X : Stand p l e R s m args below meth c T locs cells slots) (hx : p.tables.exec = Jvm.exec) (hZ : Z.Warmed39 s.vm) (eT : T.heap = h) (F : Ia Z h a ty xs) (hn : xs.length.toInt32 = n) {g : JFrame} (hg : g.method = m) (hs : g.stack = .ref a :: rest) (hd : decode c.code g.pc = .ok (.arraylength, 1)) :
    ∀ t, Steps p.tables e below (T.setTop { g with pc := g.pc + 1, stack := .int n :: rest }) t → Steps p.tables e below (T.setTop g) t := by
  obtain ⟨cl, A, q, -⟩ := F
  have q2 : cl.slots.size.toInt32 = n := by rw [q]; simpa using hn
  have := X.arraylength hx (by rw [eT]; exact A.1) (State.isArrayOf_alike hZ.alike A.2.1) hg hs hd
  rw [q2] at this
  exact this
theorem len32 (hl : xs.length < 2147483648) : xs.length.toInt32.toNatClampNeg = xs.length ∧ ¬ xs.length.toInt32 < 0 := by
  have h1 : xs.length.toInt32.toInt = (xs.length : Int) := Int32.toInt_ofNat_small hl
  refine ⟨by simp only [Int32.toNatClampNeg]; omega, ?_⟩
  rw [Int32.lt_iff_toInt_lt, h1]
  have : (0 : Int32).toInt = 0 := rfl
  omega
theorem Ia.arv (F : Ia Z h a ty xs) : ∃ k, Arv Z h a k ty xs.length.toInt32 (xs.map Value.int) (.int 0) ∧ xs.length < 2147483648 := by
  obtain ⟨c, A, q, hl, hf⟩ := F
  refine ⟨c.cls, ⟨c, A, rfl, by rw [q, (len32 hl).1]; simp, (len32 hl).2, fun i hi => ?_, fun i hi => ?_⟩, hl⟩
  · have hi2 : i < xs.length := by rw [q] at hi; simpa using hi
    rw [q]; simp [List.getD, hi2]
  · have hi2 : i < xs.length := by rw [q] at hi; simpa using hi
    have := hf xs[i] (List.getElem_mem hi2)
    simpa [List.getD, hi2] using this
theorem Ia.of_arv {z : Int32} {d : Value} (F : Arv Z h a k ty z (xs.map Value.int) d) (hl : xs.length = z.toNatClampNeg) : Ia Z h a ty xs := by
  obtain ⟨c, A, q1, S, N, H, G⟩ := F
  have hn : z.toNatClampNeg < 2147483648 := nn_lt
  refine ⟨c, A, ?_, by omega, fun x hx => ?_⟩
  · apply Array.ext
    · rw [S, ← hl]; simp
    · intro i h1 h2
      have := H i h1
      have h3 : i < xs.length := by rw [hl, ← S]; exact h1
      rw [Array.getElem?_eq_getElem h1] at this
      simpa [List.getD, h3] using this
  · obtain ⟨i, hi, rfl⟩ := List.getElem_of_mem hx
    have := G i (by rw [S, ← hl]; exact hi)
    simpa [List.getD, hi] using this
theorem cpI {ys : List Int32} {sp dp nn : Int32} (X : Stand p l e R s m args below meth c T locs cells slots) (hx : p.tables.exec = Jvm.exec) (hZ : Z.Warmed39 s.vm) {a0 : Array Value} {own : String} {index : Nat} (hown : s.vm.findClass own = some m.cls)
    (w1 : (Cond.methodLink own index Jvm.Stand.acN).before a0 Z = true) (w2 : (Cond.native Jvm.Stand.acN).before a0 Z = true) (w3 : (Cond.static Jvm.Stand.acN).before a0 Z = true) (w4 : (Cond.initialized "java/lang/System").before a0 Z = true) (eT : T.heap = h)
    (A : Ia Z h a ty xs) (B : Ia Z h b ty ys) (hty : refKind ty = false) (h1 : ¬ sp < 0) (h2 : ¬ dp < 0) (h3 : ¬ nn < 0) (h4 : sp.toNatClampNeg + nn.toNatClampNeg ≤ xs.length) (h5 : dp.toNatClampNeg + nn.toNatClampNeg ≤ ys.length)
    {n0 : Nat} (N : Fr n0 locs) (ge : n0 ≤ b)
    {g : JFrame} (hg : g.method = m) (hsize : g.locals.size = c.maxLocals) {rest : List Value} (hs : g.stack = .int nn :: .int dp :: .ref b :: .int sp :: .ref a :: rest) (hd : decode c.code g.pc = .ok (.invokestatic index, 3))
    (hf : 1 ≤ R.frames) {W : Nat} (hW : 2 * g.monitorRoom + (rest.map fun v => v.category).sum ≤ W) (hlo : W + (nativeFrameWords "java/lang/System" "arraycopy" 5 + 11) ≤ R.locals) :
    ∃ T' h' L, Stand p l e R s m args below meth c T' L cells slots ∧ T'.heap = h' ∧ Fr n0 L ∧ Keep h h' [b] ∧ Ia Z h' b ty (ys.take dp.toNatClampNeg ++ (xs.drop sp.toNatClampNeg).take nn.toNatClampNeg ++ ys.drop (dp.toNatClampNeg + nn.toNatClampNeg)) ∧
      ∀ target, Steps p.tables e below (T'.setTop { g with pc := g.pc + 3, stack := rest }) target → Steps p.tables e below (T.setTop g) target := by
  obtain ⟨k, A', la⟩ := A.arv
  obtain ⟨k', B', lb⟩ := B.arv
  obtain ⟨T', h', L, X', e', N', K', V', st⟩ := cpA X hx hZ hown w1 w2 w3 w4 eT A' B' (us := ((xs.drop sp.toNatClampNeg).take nn.toNatClampNeg).map Value.int) (Or.inl ⟨rfl, hty⟩) h1 h2 h3 (by rw [(len32 la).1]; exact h4) (by rw [(len32 lb).1]; exact h5)
    (by
      apply List.ext_getElem
      · simp; omega
      · intro i q1 q2
        have q3 : i < nn.toNatClampNeg := by simpa using q2
        have q4 : sp.toNatClampNeg + i < xs.length := by omega
        simp [List.getD, q4])
    (by simpa using h5) N ge hg hsize hs hd hf hW hlo
  refine ⟨T', h', L, X', e', N', K', Ia.of_arv (k := k') (z := ys.length.toInt32) (d := .int 0) ?_ ?_, st⟩
  · simpa [List.map_append, List.map_take, List.map_drop] using V'
  · rw [(len32 lb).1]; simp; omega
theorem cloneI (X : Stand p l e R s m args below meth c T locs cells slots) (hx : p.tables.exec = Jvm.exec) (hZ : Z.Warmed39 s.vm) {a0 : Array Value} {own ad : String} {index : Nat} (hown : s.vm.findClass own = some m.cls)
    (w1 : (Cond.methodLink own index ⟨ad, "clone", "()Ljava/lang/Object;"⟩).before a0 Z = true) (w2 : (Cond.sameMethod ad "java/lang/Object" "clone" "()Ljava/lang/Object;").before a0 Z = true) (w3 : (Cond.native ⟨"java/lang/Object", "clone", "()Ljava/lang/Object;"⟩).before a0 Z = true)
    (w4 : (Cond.instanceMethod ⟨"java/lang/Object", "clone", "()Ljava/lang/Object;"⟩).before a0 Z = true) (w5 : (Cond.selects ad ⟨ad, "clone", "()Ljava/lang/Object;"⟩ ⟨"java/lang/Object", "clone", "()Ljava/lang/Object;"⟩).before a0 Z = true) (w6 : (Cond.castable ad "java/lang/Cloneable").before a0 Z = true)
    (eT : T.heap = h) (F : Ia Z h a ty xs) (E : Exa Z h a ad) {g : JFrame} (hg : g.method = m) (hsize : g.locals.size = c.maxLocals) {rest : List Value} (hst : g.stack = .ref a :: rest) (hd : decode c.code g.pc = .ok (.invokevirtual index, 3))
    (hf : 1 ≤ R.frames) {W cap : Nat} (hW : 2 * g.monitorRoom + (rest.map fun v => v.category).sum ≤ W) (hl : W + 14 ≤ R.locals) (hcap : xs.length ≤ cap) (hc : cells + 1 ≤ R.cells) (hsl : slots + cap ≤ R.slots) :
    ∃ T' h', Stand p l e R s m args below meth c T' locs (cells + 1) (slots + cap) ∧ T'.heap = h' ∧ Ext h h' ∧ Ia Z h' h.size ty xs ∧ Exa Z h' h.size ad ∧
      ∀ target, Steps p.tables e below (T'.setTop { g with pc := g.pc + 3, stack := .ref h.size :: rest }) target → Steps p.tables e below (T.setTop g) target := by
  obtain ⟨k, A, la⟩ := F.arv
  obtain ⟨T', h', X', e', ex, A', E', st⟩ := cloneH X hx hZ hown w1 w2 w3 w4 w5 w6 eT A.arh E hg hsize hst hd hf hW hl (by rw [(len32 la).1]; exact hcap) hc hsl
  exact ⟨T', h', X', e', ex, Ia.of_arv (k := k) (z := xs.length.toInt32) (d := .int 0) A' (len32 la).1.symm, E', st⟩
theorem selP {a0 : Array Value} {y : MethodName} {kk : Nat} (hZ : Z.Warmed39 s.vm) (wi : (Cond.instantiable y.cls kk).before a0 Z = true) (wp : (Cond.privateMethod y).before a0 Z = true) (wm : (Cond.instanceMethod y).before a0 Z = true) (hy : y.cls ≠ "java/lang/invoke/MethodHandle" ∧ y.cls ≠ "java/lang/invoke/VarHandle") : (Cond.selects y.cls y y).before args s = true := by
  obtain ⟨c, k, h1, h2, -, h4, -⟩ := Cond.instantiable_spec (mvT (args := args) hZ wi)
  exact selects_self_of_private h1 h2 (by simp only [Bool.or_eq_false_iff] at h4; exact h4.1) (Cond.privateMethod_at (mvP hZ wp (args := args))) (mvT hZ wm) hy
end Own
end Jvm.OwnKit
namespace Jvm.OwnKit
open Sem ClassFile Op Lib Jvm.Stand Jvm.Free Jvm.LawKit Jvm.RoadKit
section Own2
variable {p : Program} {l : Launch} {e : Env} {R : Room} {s : State} {m : MethodId} {args : Array Value} {below : List Frame} {meth : Method} {c : Code} {T : State} {locs : List Loc} {cells slots : Nat} {Z : State} {h h' : Heap} {a b : Addr}
/-- an array of references, whole, with what may lie in it -/
def Ra (Z : State) (h : Heap) (a : Addr) (C : String) (vs : List Value) : Prop := ∃ c : Cell, Arr Z h a c (.object C) ∧ Ovr Z c.cls C ∧ c.slots = vs.toArray ∧ vs.length < 2147483648
/-- an array of which the length alone is known -/
def Rn (Z : State) (h : Heap) (a : Addr) (n : Int32) : Prop := ∃ (c : Cell) (ty : FieldType), Arr Z h a c ty ∧ c.slots.size.toInt32 = n
variable {C : String} {vs : List Value} {ws : List Addr} {sl : Nat} {v w : Value} {j n : Int32} {k : ClassId} {rest : List Value}
theorem Ra.lt (F : Ra Z h a C vs) : a < h.size := by obtain ⟨c, A, -⟩ := F; exact A.lt
theorem Ra.ext (F : Ra Z h a C vs) (E : Ext h h') : Ra Z h' a C vs := by obtain ⟨c, A, r⟩ := F; exact ⟨c, A.ext E, r⟩
theorem Ra.other (F : Ra Z h b C vs) (W : Wr h h' a sl v) (q : b ≠ a) : Ra Z h' b C vs := by obtain ⟨c, A, r⟩ := F; exact ⟨c, A.other W q, r⟩
theorem Ra.keep (F : Ra Z h a C vs) (K : Keep h h' ws) (q : a ∉ ws) : Ra Z h' a C vs := by obtain ⟨c, A, r⟩ := F; exact ⟨c, ⟨K.2.1 a c A.1 q, A.2⟩, r⟩
theorem Rn.lt (F : Rn Z h a n) : a < h.size := by obtain ⟨c, ty, A, -⟩ := F; exact A.lt
theorem Rn.ext (F : Rn Z h a n) (E : Ext h h') : Rn Z h' a n := by obtain ⟨c, ty, A, r⟩ := F; exact ⟨c, ty, A.ext E, r⟩
theorem Rn.other (F : Rn Z h b n) (W : Wr h h' a sl v) (q : b ≠ a) : Rn Z h' b n := by obtain ⟨c, ty, A, r⟩ := F; exact ⟨c, ty, A.other W q, r⟩
theorem Rn.keep (F : Rn Z h a n) (K : Keep h h' ws) (q : a ∉ ws) : Rn Z h' a n := by obtain ⟨c, ty, A, r⟩ := F; exact ⟨c, ty, ⟨K.2.1 a c A.1 q, A.2⟩, r⟩
theorem Ra.new (A : Arr Z h a (newA k (.object C) n) (.object C)) (O : Ovr Z k C) : Ra Z h a C (List.replicate n.toNatClampNeg .null) := ⟨_, A, O, by simp [newA, defaultValue], by simp [nn_lt]⟩
theorem Ra.hin {cl : Cell} (e : cl.slots = vs.toArray) (hj : ¬ j < 0) (hlt : j.toNatClampNeg < vs.length) : ¬ (j < 0 ∨ cl.slots.size ≤ j.toNatClampNeg) := by
  rw [e]; simp only [List.size_toArray]; rintro (q | q); exact hj q; omega
theorem ldR (X : Stand p l e R s m args below meth c T locs cells slots) (hx : p.tables.exec = Jvm.exec) (hZ : Z.Warmed39 s.vm) (eT : T.heap = h) (F : Ra Z h a C vs) {v : Value} (hj : ¬ j < 0) (hv : vs[j.toNatClampNeg]? = some v) {g : JFrame} (hg : g.method = m) (hs : g.stack = .int j :: .ref a :: rest) (hd : decode c.code g.pc = .ok (.aaload, 1)) :
    ∀ t, Steps p.tables e below (T.setTop { g with pc := g.pc + 1, stack := v :: rest }) t → Steps p.tables e below (T.setTop g) t := by
  obtain ⟨cl, A, -, q, -⟩ := F
  exact X.aaload hx (j := j) (v := v) (by rw [eT]; exact A.1) (State.isArrayOf_alike hZ.alike A.2.1) rfl A.2.2 (Ra.hin q hj (List.getElem?_eq_some_iff.mp hv).1) (by rw [q]; simpa using hv) hg hs hd
theorem stR' {y : Addr} (X : Stand p l e R s m args below meth c T locs cells slots) (hx : p.tables.exec = Jvm.exec) (hZ : Z.Warmed39 s.vm) (eT : T.heap = h) (F : Ra Z h a C vs) (I : Ins Z h y C true) (hj : ¬ j < 0) (hlt : j.toNatClampNeg < vs.length) {g : JFrame} (hg : g.method = m) (hs : g.stack = .ref y :: .int j :: .ref a :: rest) (hd : decode c.code g.pc = .ok (.aastore, 1)) :
    ∃ T' h', Stand p l e R s m args below meth c T' (locs ++ [⟨a, j.toNatClampNeg⟩]) cells slots ∧ T'.heap = h' ∧ Wr h h' a j.toNatClampNeg (.ref y) ∧ Ra Z h' a C (vs.set j.toNatClampNeg (.ref y)) ∧ ∀ t, Steps p.tables e below (T'.setTop { g with pc := g.pc + 1, stack := rest }) t → Steps p.tables e below (T.setTop g) t := by
  obtain ⟨cl, A, O, q, hl⟩ := F
  obtain ⟨T', h', X', e', W, st⟩ := stR X hx hZ eT A (Ra.hin q hj hlt) rfl (Sto.of A O I) hg hs hd
  exact ⟨T', h', X', e', W, ⟨_, A.same W, O, by simp [Cell.setSlot, q], by simpa using hl⟩, st⟩
theorem lenR (X : Stand p l e R s m args below meth c T locs cells slots) (hx : p.tables.exec = Jvm.exec) (hZ : Z.Warmed39 s.vm) (eT : T.heap = h) (F : Ra Z h a C vs) (hn : vs.length.toInt32 = n) {g : JFrame} (hg : g.method = m) (hs : g.stack = .ref a :: rest) (hd : decode c.code g.pc = .ok (.arraylength, 1)) :
    ∀ t, Steps p.tables e below (T.setTop { g with pc := g.pc + 1, stack := .int n :: rest }) t → Steps p.tables e below (T.setTop g) t := by
  obtain ⟨cl, A, -, q, -⟩ := F
  have q2 : cl.slots.size.toInt32 = n := by rw [q]; simpa using hn
  have := X.arraylength hx (by rw [eT]; exact A.1) (State.isArrayOf_alike hZ.alike A.2.1) hg hs hd
  rw [q2] at this
  exact this
theorem lenN (X : Stand p l e R s m args below meth c T locs cells slots) (hx : p.tables.exec = Jvm.exec) (hZ : Z.Warmed39 s.vm) (eT : T.heap = h) (F : Rn Z h a n) {g : JFrame} (hg : g.method = m) (hs : g.stack = .ref a :: rest) (hd : decode c.code g.pc = .ok (.arraylength, 1)) :
    ∀ t, Steps p.tables e below (T.setTop { g with pc := g.pc + 1, stack := .int n :: rest }) t → Steps p.tables e below (T.setTop g) t := by
  obtain ⟨cl, ty, A, q2⟩ := F
  have := X.arraylength hx (by rw [eT]; exact A.1) (State.isArrayOf_alike hZ.alike A.2.1) hg hs hd
  rw [q2] at this
  exact this
end Own2
end Jvm.OwnKit
namespace Jvm.OwnKit
open Sem ClassFile Op Lib Jvm.Stand Jvm.Free Jvm.LawKit Jvm.RoadKit Bundle
section Own3
variable {p : Program} {l : Launch} {e : Env} {R : Room} {s : State} {m : MethodId} {args : Array Value} {below : List Frame} {meth : Method} {c : Code} {T : State} {locs : List Loc} {cells slots : Nat} {Z : State} {h h' : Heap} {a b : Addr} {a0 : Array Value}
/-- the end of a body that may have interned -/
abbrev DoneW (s : State) (Q : Option Value → Heap → Vm → List Loc → Prop) (kc ks : Nat) : State → Outcome → Prop := fun s₂ o => ∃ v L, o = .returned v ∧ Q v s₂.heap s₂.vm L ∧ ReturnedEndW s o s₂ L kc ks
theorem rew_mono {s t : State} {o : Outcome} {L : List Loc} {k n k' n' : Nat} (h : ReturnedEndW s o t L k n) (hk : k ≤ k') (hn : n ≤ n') : ReturnedEndW s o t L k' n' := ⟨h.1, h.2.1, h.2.2.1, h.2.2.2.mono hk hn⟩
theorem Go.finW {S : State} {vm₁ : Vm} (X : Stand p l e R (s.setVm vm₁) m args below meth c T locs cells slots) {n : Nat} (hS : s.Since vm₁ n) (hn : n ≤ T.heap.size) (hlk : meth.locks = false) {v : Option Value} (hv : meth.sig.returnType = none → v = none) {Q : Option Value → Heap → Vm → List Loc → Prop} {kc ks : Nat}
    (hstep : ∀ fs, (∀ (f : JFrame) (acts : List Action), f.method = m → f.locked = none → f.entered = [] → (doReturn e (T.setTop f) acts v).1 = T.setFrames fs) → Steps p.tables e below S (T.setFrames fs))
    (hQ : Q v T.heap T.vm locs) (hc : cells ≤ kc) (hs : slots ≤ ks) : Go p e below S (DoneW s Q kc ks) := by
  obtain ⟨fs, hr, hrun, hended, hW⟩ := X.leaveW hS hn (v := v) hv hlk
  exact ⟨_, _, hstep fs hr, hrun, hended, _, _, rfl, hQ, rew_mono hW hc hs⟩
/-- RoadKit's backOfS with a word on the tables ahead of the call and behind it -/
theorem backOfV {y : MethodName} {bytes : ByteArray} {maxL : Nat} {ret : Option FieldType} {rm : Room} {len W : Nat} {as' : Array Value} {V : Vm → Prop} {Q : Option Value → Heap → Vm → List Loc → Prop}
    (hM : MetFree l y (head1 [Cond.code y bytes maxL ret] rm) (fun a U => a = as' ∧ Z.Warmed39 U.vm ∧ U.heap = h ∧ V U.vm) (fun _ _ _ _ _ => True) (fun _ U o U' => ∃ v L, o = .returned v ∧ Q v U'.heap U'.vm L ∧ ReturnedEndW U o U' L rm.cells rm.slots))
    (hZ : Z.Warmed39 s.vm) (wc : (Cond.code y bytes maxL ret).before a0 Z = true) (wz : (Cond.initialized y.cls).before a0 Z = true) (hf : rm.frames + 1 ≤ R.frames) (hl : W + (maxL + 11) + rm.locals ≤ R.locals) (hV : ∀ vm', s.WarmedH vm' → V vm') :
    BackS l R p e below s args y len W (fun A a => a = as' ∧ A.U.heap = h ∧ A.cells + rm.cells ≤ R.cells ∧ A.slots + rm.slots ≤ R.slots)
      (fun A _ v B => ∃ L, Q v B.U.heap B.U.vm L ∧ B.locs = A.locs ++ L ∧ B.cells = A.cells + rm.cells ∧ B.slots = A.slots + rm.slots) :=
  BackS.of_freeW (bytes := bytes) (maxL := maxL) (ret := ret) (E := fun _ _ o t L k n => k = rm.cells ∧ n = rm.slots ∧ ∃ v, o = .returned v ∧ Q v t.heap t.vm L) hM hf hl
    (fun m meth c A a Y hp => have hU : Z.Warmed39 A.U.vm := wtrans hZ Y.warmed
      ⟨by show (Cond.and _ .tt).before a A.U = true; rw [Cond.before_and, mv hU wc]; rfl, mv hU wc, mv hU wz, hp.2.2.1, hp.2.2.2⟩)
    (fun m meth c A a g mk Y hp => ⟨hp.1, wtrans hZ Y.warmed, hp.2.1, hV _ Y.warmed⟩) (fun _ _ _ _ _ _ _ _ _ => trivial)
    (fun _ _ _ _ ⟨v, L, h1, h2, h3⟩ => ⟨L, _, _, h3, rfl, rfl, v, h1, h2⟩)
    (fun m meth c A a g mk v t L k n Y hp _ _ ⟨e1, e2, v', e3, e4⟩ => by cases e3; subst e1 e2; exact ⟨L, e4, rfl, rfl, rfl⟩)
theorem IB.still {vm vm' : Vm} {Ts : List String} (I : IB Z vm Ts) (q : vm'.interned = vm.interned) : IB Z vm' Ts := by
  obtain ⟨more, h1, h2⟩ := I; exact ⟨more, q.trans h1, h2⟩
abbrev ST : String := "java/lang/String"
/-- what is known of the texts loaded so far: those of K, and "" whose object is known where it was loaded -/
def Em (Z : State) (vm : Vm) (h : Heap) (K : List String) : Prop := ∃ Ts, IB Z vm Ts ∧ (∀ t ∈ Ts, t = "" ∨ t ∈ K) ∧ ("" ∈ Ts → ∃ a b, Lit (Z.setVm vm) ST 7 a ∧ Exa Z h a ST ∧ Fld Z h a ST "coder" "B" (.int 0) ∧ Fld Z h a ST "value" "[B" (.ref b) ∧ Ia Z h b .byte [])
variable {vm vm' : Vm} {K : List String}
theorem Em.start : Em Z Z.vm h [] := ⟨[], IB.start, by simp, by simp⟩
theorem Em.ext (F : Em Z vm h K) (E : Ext h h') : Em Z vm h' K := by
  obtain ⟨Ts, h1, h2, h3⟩ := F
  refine ⟨Ts, h1, h2, fun q => ?_⟩
  obtain ⟨a, b, r1, r2, r3, r4, r5⟩ := h3 q
  exact ⟨a, b, r1, r2.ext E, r3.ext E, r4.ext E, r5.ext E⟩
theorem Em.keep {ws : List Addr} (F : Em Z vm h K) (W : Keep h h' ws) (hw : ∀ w ∈ ws, ∃ C n, Exa Z h w C ∧ C ≠ ST ∧ (Cond.instantiable C n).before a0 Z = true) : Em Z vm h' K := by
  obtain ⟨Ts, h1, h2, h3⟩ := F
  refine ⟨Ts, h1, h2, fun q => ?_⟩
  obtain ⟨a, b, r1, r2, r3, r4, r5⟩ := h3 q
  have na : a ∉ ws := fun z => by
    obtain ⟨C, n, e1, e2, -⟩ := hw a z
    exact ne_exa e1 r2 e2 rfl
  have nb : b ∉ ws := fun z => by
    obtain ⟨C, n, e1, -, e3⟩ := hw b z
    obtain ⟨c, A, -⟩ := r5
    exact ne_arr e1 e3 A rfl
  exact ⟨a, b, r1, r2.keep W, r3.keep W na, r4.keep W na, r5.keep W nb⟩
theorem Em.wr {w : Addr} {sl n : Nat} {v : Value} {C : String} (F : Em Z vm h K) (W : Wr h h' w sl v) (E : Exa Z h w C) (hC : C ≠ ST) (wi : (Cond.instantiable C n).before a0 Z = true) : Em Z vm h' K :=
  F.keep (Keep.of_wr W) (allS ⟨C, n, E, hC, wi⟩ all0)
theorem Em.still (F : Em Z vm h K) (q : vm'.interned = vm.interned) (hW : (Z.setVm vm).Warmed39 vm') : Em Z vm' h K := by
  obtain ⟨Ts, h1, h2, h3⟩ := F
  refine ⟨Ts, IB.still h1 q, h2, fun q => ?_⟩
  obtain ⟨a, b, r1, r⟩ := h3 q
  exact ⟨a, b, Lit.stays r1 hW, r⟩
theorem w39 {X : Vm} (h : (s.setVm vm).Warmed39 X) : (Z.setVm vm).Warmed39 X := h
/-- 'ldc ""' in String's own code: loaded for the first time or once more -/
theorem ldcE {vm0 : Vm} (X : Stand p l e R (s.setVm vm0) m args below meth c T locs cells slots) (hx : p.tables.exec = Jvm.exec) (hZ : Z.Warmed39 vm0) (hown : vm0.findClass ST = some m.cls) (w : (Cond.stringLink ST 7 "").before a0 Z = true) (wS : ∀ a ∈ Bundle.stringAtoms, a.before a0 Z = true)
    (eT : T.heap = h) {k0 : Nat} (hS : s.Since vm0 k0) (hk : k0 ≤ h.size) (N : Fr s.heap.size locs) (hkeep : ∀ (b : Addr) (cl : Cell), Z.heap[b]? = some cl → s.heap[b]? = some cl) (I : Em Z vm0 h K) (hK : "" ∉ K) (hh : Jvm.Lit.constHeld Z ST 7) (hcw : Jvm.Lit.compactW.before a0 Z = true)
    {g : JFrame} (hg : g.method = m) (hd : decode c.code g.pc = .ok (.ldc 7, 2)) (hc : cells + 2 ≤ R.cells) (hl : slots + 4 ≤ R.slots) :
    ∃ (a : Addr) (T' : State) (h' : Heap) (b : Addr) (k1 : Nat), Stand p l e R (s.setVm T'.vm) m args below meth c T' locs (cells + 2) (slots + 4) ∧ T'.heap = h' ∧ Ext h h' ∧ s.Since T'.vm k1 ∧ k1 ≤ h'.size ∧ Z.Warmed39 T'.vm ∧ T'.vm.findClass ST = some m.cls ∧
      Exa Z h' a ST ∧ Fld Z h' a ST "coder" "B" (.int 0) ∧ Fld Z h' a ST "value" "[B" (.ref b) ∧ Ia Z h' b .byte [] ∧ Lit (Z.setVm T'.vm) ST 7 a ∧ Em Z T'.vm h' K ∧
      ∀ target, Steps p.tables e below (T'.setTop { g with pc := g.pc + 2, stack := .ref a :: g.stack }) target → Steps p.tables e below (T.setTop g) target := by
  obtain ⟨Ts, h1, h2, h3⟩ := I
  by_cases hT : "" ∈ Ts
  · obtain ⟨a, b, r1, r2, r3, r4, r5⟩ := h3 hT
    have st := ldcAgain (Z := Z) (a0 := a0) X hx hZ hown w (L := (r1 : Lit (s.setVm vm0) ST 7 a)) hg hd
    have hW := X.warmed
    obtain ⟨X2, hS2, hZ2, ho2⟩ := rebS (Z := Z) (own := ST) hS hk (X.retabled hW.wide) (hW.since h.size) (Nat.le_refl _) hZ hown
    exact ⟨a, T, h, b, h.size, X2.more (by omega) (by omega), eT, ⟨Nat.le_refl _, fun _ _ q => q⟩, hS2, Nat.le_refl _, hZ2, ho2, r2, r3, r4, r5, Lit.stays r1 (w39 hW.wide), Em.still ⟨Ts, h1, h2, h3⟩ hW.interned_eq (w39 hW.wide), st⟩
  · obtain ⟨a, T', h', k1, b, k, X2, e2, E2, hS2, hk2, hZ2, ho2, r2, r3, r4, r5, -, -, I2, L2, st⟩ := ldcSVL (vs := []) (z := 0) X hx hZ hown w wS eT hS hk N hkeep h1 hT hh hcw ⟨fun c q => by simp at q, rfl⟩ (by decide) rfl hg hd (n := 0) (by decide) (by decide) hc hl
    have r5' : Ia Z h' b .byte [] := Ia.of_arv (xs := []) r5 rfl
    exact ⟨a, T', h', b, k1, X2, e2, E2, hS2, hk2, hZ2, ho2, r2, r3, r4, r5', L2, ⟨"" :: Ts, I2, fun t q => by rcases List.mem_cons.mp q with q | q; exact Or.inl q; exact h2 t q, fun _ => ⟨a, b, L2, r2, r3, r4, r5'⟩⟩, st⟩
end Own3
end Jvm.OwnKit
namespace Jvm.OwnKit
open Sem ClassFile Op Lib Jvm.Stand Jvm.Free Jvm.LawKit Jvm.RoadKit Bundle
section Own4
variable {p : Program} {l : Launch} {e : Env} {R : Room} {s : State} {m : MethodId} {args : Array Value} {below : List Frame} {meth : Method} {c : Code} {T : State} {locs : List Loc} {cells slots : Nat} {Z : State} {h h' : Heap} {a b : Addr} {a0 : Array Value} {vm vm' : Vm} {K : List String} {ty : FieldType} {xs : List Int32}
theorem Ia.neE {C : String} {n : Nat} (F : Ia Z h b ty xs) (E : Exa Z h a C) (wi : (Cond.instantiable C n).before a0 Z = true) : b ≠ a := by
  obtain ⟨c, A, -⟩ := F; exact Ne.symm (ne_arr E wi A)
theorem Em.keep0 (F : Em Z vm h K) (W : Keep h h' []) : Em Z vm h' K := by
  obtain ⟨Ts, h1, h2, h3⟩ := F
  refine ⟨Ts, h1, h2, fun q => ?_⟩
  obtain ⟨a, b, r1, r2, r3, r4, r5⟩ := h3 q
  exact ⟨a, b, r1, r2.keep W, r3.keep W nin0, r4.keep W nin0, r5.keep W nin0⟩
theorem Em.wrx {x : Addr} {n : Nat} (F : Em Z vm h K) (E : Exa Z h x ST) (N : Fld Z h x ST "value" "[B" .null) (wi : (Cond.instantiable ST n).before a0 Z = true) (W : Keep h h' [x]) : Em Z vm h' K := by
  obtain ⟨Ts, h1, h2, h3⟩ := F
  refine ⟨Ts, h1, h2, fun q => ?_⟩
  obtain ⟨a, b, r1, r2, r3, r4, r5⟩ := h3 q
  have na : a ≠ x := Fld.ne r4 N nofun
  have nb : b ≠ x := Ia.neE r5 E wi
  exact ⟨a, b, r1, r2.keep W, r3.keep W (ninS na nin0), r4.keep W (ninS na nin0), r5.keep W (ninS nb nin0)⟩
/-- a String constant whose text is one of K, loaded for the first time or not: what it says is not asked -/
theorem ldcT {vm0 : Vm} {own text : String} {index : Nat} (X : Stand p l e R (s.setVm vm0) m args below meth c T locs cells slots) (hx : p.tables.exec = Jvm.exec) (hZ : Z.Warmed39 vm0) (hown : vm0.findClass own = some m.cls) (w : (Cond.stringLink own index text).before a0 Z = true) (wS : ∀ a ∈ Bundle.stringAtoms, a.before a0 Z = true)
    (eT : T.heap = h) {k0 : Nat} (hS : s.Since vm0 k0) (hk : k0 ≤ h.size) (I : Em Z vm0 h K) (hK : text ∈ K) (hE : text ≠ "")
    {g : JFrame} (hg : g.method = m) (hd : decode c.code g.pc = .ok (.ldc index, 2)) {n : Nat} (hn : 4 * text.toList.length ≤ n) (hbig : n ≤ 536870912) (hc : cells + 2 ≤ R.cells) (hl : slots + (n + 4) ≤ R.slots) :
    ∃ (a : Addr) (T' : State) (h' : Heap) (k1 : Nat), Stand p l e R (s.setVm T'.vm) m args below meth c T' locs (cells + 2) (slots + (n + 4)) ∧ T'.heap = h' ∧ Ext h h' ∧ s.Since T'.vm k1 ∧ k1 ≤ h'.size ∧ Z.Warmed39 T'.vm ∧ T'.vm.findClass own = some m.cls ∧ Em Z T'.vm h' K ∧
      ∀ target, Steps p.tables e below (T'.setTop { g with pc := g.pc + 2, stack := .ref a :: g.stack }) target → Steps p.tables e below (T.setTop g) target := by
  obtain ⟨Ts, h1, h2, h3⟩ := I
  have wS' : ∀ d ∈ Bundle.stringAtoms, d.before args (s.setVm vm0) = true := fun d hd => by
    have q := wS d hd
    have e : Bundle.stringAtoms = [.initialized ST, .instantiable ST 4, .arrayClass .byte, .laysFinal ST ST "value" "[B", .laysFinal ST ST "coder" "B", .soleField ST "value", .soleField ST "coder"] := rfl
    rw [e] at hd
    simp only [List.mem_cons, List.not_mem_nil, or_false] at hd
    rcases hd with rfl | rfl | rfl | rfl | rfl | rfl | rfl
    · exact mv (s := s.setVm vm0) hZ q
    · exact mv (s := s.setVm vm0) hZ q
    · exact mvA (s := s.setVm vm0) hZ q
    · exact mv (s := s.setVm vm0) hZ q
    · exact mv (s := s.setVm vm0) hZ q
    · exact mv (s := s.setVm vm0) hZ q
    · exact mv (s := s.setVm vm0) hZ q
  obtain ⟨a, T', X', hS', -, hb, -, hint, st⟩ := X.ldcColdN hx (own := own) hown (mvS hZ w) wS' hg hd hn hbig hc hl
  subst eT
  have E := ext_of hb
  have hW : Z.Warmed39 T'.vm := State.Warmed39.trans (t := s.setVm vm0) hZ hS'.1
  have hf : T'.vm.findClass own = some m.cls := by rw [hS'.1.alike.findClass]; exact hown
  have hTi : T.vm.interned = vm0.interned := X.warmed.interned_eq
  have I2 : IB Z T'.vm (text :: Ts) := h1.step (by rw [← hTi]; exact hint.imp id fun ⟨us, q1, q2, _⟩ => ⟨us, a, q1, q2⟩)
  refine ⟨a, T', _, _, X', rfl, E, hS.trans hS' (Nat.le_trans hk E.1), Nat.le_refl _, hW, hf, ⟨text :: Ts, I2, fun t q => ?_, fun q => ?_⟩, st⟩
  · rcases List.mem_cons.mp q with q | q
    · exact Or.inr (q ▸ hK)
    · exact h2 t q
  · rcases List.mem_cons.mp q with q | q
    · exact absurd q.symm hE
    · obtain ⟨a', b', r1, r2, r3, r4, r5⟩ := h3 q
      exact ⟨a', b', Lit.stays r1 (w39 hS'.1), r2.ext E, r3.ext E, r4.ext E, r5.ext E⟩
theorem Em.begin : Em Z Z.vm h K := ⟨[], IB.start, by simp, by simp⟩
theorem nar_c (x : Int32) : nar .char (x.toUInt32.toUInt16.toUInt32.toInt32) = x.toUInt32.toUInt16.toUInt32.toInt32 := by
  have h1 := c_i2c x
  have h2 := c_i2c (x.toUInt32.toUInt16.toUInt32.toInt32)
  exact Int32.toInt_inj.mp (by show (x.toUInt32.toUInt16.toUInt32.toInt32).toUInt32.toUInt16.toUInt32.toInt32.toInt = _; omega)
theorem nar_v {x v : Int32} (h : (x.toUInt32.toUInt16.toUInt32.toInt32) = v) : nar .char v = v := h ▸ nar_c x
/-- no object of C is one of K: C's chain of superclasses does not meet K, a class of which there are objects -/
theorem ns_root {O K : String} {n : Nat} (w : (Cond.noSuperclass O).before a0 Z = true) (wk : (Cond.instantiable K n).before a0 Z = true) (hn : O ≠ K) : NS Z O K := by
  obtain ⟨c, k, h1, h2, h3, -, -⟩ := Cond.noSuperclass_spec w
  obtain ⟨t, kt, g1, -⟩ := Cond.instantiable_spec wk
  have ne := ids_ne h1 g1 hn
  refine ⟨c, t, h1, g1, fun fuel => ?_⟩
  cases fuel with
  | zero => rfl
  | succ f => simp [Vm.isSubclassAux, ne, h2, h3]
theorem ns_no {C S K : String} {n : Nat} (w : (Cond.superclass C S).before a0 Z = true) (wk : (Cond.instantiable K n).before a0 Z = true) (q : NS Z C K) (hn : C ≠ K) : ∃ c t, Z.vm.findClass C = some c ∧ Z.vm.findClass K = some t ∧ Z.vm.assignable c t = false := by
  obtain ⟨c, t, h0, g0, n3⟩ := q
  obtain ⟨p, k, kp, h1, h2, h3, h4, h5, -, h7⟩ := Cond.superclass_spec h0 w
  obtain ⟨t', kt, g1, g2, g3, g4, -⟩ := Cond.instantiable_spec wk
  cases g0.symm.trans g1
  have ne := ids_ne h0 g0 hn
  have g5 : kt.isInterface = false := by simp only [Bool.or_eq_false_iff] at g4; exact g4.1
  refine ⟨c, t, h0, g0, ?_⟩
  show Z.vm.assignableAux (255 + 1) c t = false
  simp [Vm.assignableAux, ne, h2, g2, h5, g3, g5, Vm.isSubclass, n3]
end Own4
end Jvm.OwnKit
namespace Jvm.Pilot.@@N@@
open Jvm Jvm.ClassFile Sem Op Lib Jvm.Free Jvm.Stand Jvm.LawKit Jvm.RoadKit Bundle Jvm.Pilot.@@N@@.Jvm.D Jvm.OwnKit
theorem tw {a0 : Array Value} {Z : State} (hw : ∀ d ∈ tables_1, d.before a0 Z = true) (i : Nat) {d : Jvm.Cond} (h : tables_1[i]? = some d) : d.before a0 Z = true := hw d (List.mem_of_getElem? h)
abbrev cST : String := "java/lang/String"
abbrev cCD : String := "com/example/relate_by_hash/relatebyhash/ctph/CtphDigest"
abbrev cLAW : String := "com/example/relate_by_hash/relatebyhash/ctph/CtphDigestEqualsPinLaw"
abbrev cIN : String := "java/lang/Integer"
abbrev cIC : String := "java/lang/Integer$IntegerCache"
abbrev cPR : String := "jdk/internal/util/Preconditions"
abbrev cL1 : String := "java/lang/StringLatin1"
abbrev cU6 : String := "java/lang/StringUTF16"
theorem wStr {a0 : Array Value} {Z : State} (hw : ∀ d ∈ tables_1, d.before a0 Z = true) : ∀ a ∈ Bundle.stringAtoms, a.before a0 Z = true := by
  intro a ha
  have q : Bundle.stringAtoms = [.initialized cST, .instantiable cST 4, .arrayClass .byte, .laysFinal cST cST "value" "[B", .laysFinal cST cST "coder" "B", .soleField cST "value", .soleField cST "coder"] := rfl
  rw [q] at ha
  simp only [List.mem_cons, List.not_mem_nil, or_false] at ha
  rcases ha with rfl | rfl | rfl | rfl | rfl | rfl | rfl
  · exact tw hw 14 rfl
  · exact tw hw 13 rfl
  · exact tw hw 27 rfl
  · exact tw hw 28 rfl
  · exact tw hw 29 rfl
  · exact tw hw 30 rfl
  · exact tw hw 31 rfl
def ALPH : List Int32 := [65, 66, 67, 68, 69, 70, 71, 72, 73, 74, 75, 76, 77, 78, 79, 80, 81, 82, 83, 84, 85, 86, 87, 88, 89, 90, 97, 98, 99, 100, 101, 102, 103, 104, 105, 106, 107, 108, 109, 110, 111, 112, 113, 114, 115, 116, 117, 118, 119, 120, 121, 122, 48, 49, 50, 51, 52, 53, 54, 55, 56, 57, 43, 47]
def b64F (v : Int32) : Int32 := if v < (26 : Int32) then (((65 : Int32) + v).toUInt32.toUInt16.toUInt32.toInt32) else if v < (52 : Int32) then (((97 : Int32) + (v - (26 : Int32))).toUInt32.toUInt16.toUInt32.toInt32) else if v < (62 : Int32) then (((48 : Int32) + (v - (52 : Int32))).toUInt32.toUInt16.toUInt32.toInt32) else if v = (62 : Int32) then (43 : Int32) else (47 : Int32)
def Sg (xs : List Int32) : Prop := xs = [] ∨ (∃ y0, y0 ∈ ALPH ∧ xs = [y0]) ∨ ∃ y0 y1, y0 ∈ ALPH ∧ y1 ∈ ALPH ∧ xs = [y0, y1]
def Sh (xs : List Int32) : Prop := xs = [] ∨ (∃ y0, xs = [y0]) ∨ ∃ y0 y1, xs = [y0, y1]
theorem own_Sh {xs : List Int32} (h : Sg xs) : Sh xs := by
  rcases h with h | ⟨y0, -, h⟩ | ⟨y0, y1, -, -, h⟩
  · exact Or.inl h
  · exact Or.inr (Or.inl ⟨_, h⟩)
  · exact Or.inr (Or.inr ⟨_, _, h⟩)
def seF (xs ys : List Int32) : Int32 := if xs = ys then 1 else 0
theorem own_se1 {xs ys : List Int32} (h : ¬ (seF xs ys) = (0 : Int32)) : seF xs ys = 1 := by
  by_cases q : xs = ys
  · exact if_pos q
  · exact absurd (if_neg q) h
theorem own_msk (y m : Int32) (k : Nat) (hk : k < 2147483647) (hm : m.toInt = k) : ∃ n : Fin (k + 1), (y &&& m) = n.val.toInt32 := by
  have q := c_and y m (by omega)
  refine ⟨⟨(y &&& m).toInt.toNat, by omega⟩, ?_⟩
  have e2 : ((y &&& m).toInt.toNat).toInt32.toInt = ((y &&& m).toInt.toNat : Int) := Int32.toInt_ofNat_small (by omega)
  exact Int32.toInt_inj.mp (by rw [e2]; omega)
theorem own_b64m : ∀ n : Fin 64, b64F n.val.toInt32 ∈ ALPH := by decide +kernel
theorem own_b64i : ∀ n k : Fin 64, b64F n.val.toInt32 = b64F k.val.toInt32 → n.val.toInt32 = k.val.toInt32 := by decide +kernel
theorem own_mem (y : Int32) : b64F (y &&& (63 : Int32)) ∈ ALPH := by
  obtain ⟨n, q⟩ := own_msk y 63 63 (by decide) (by decide); rw [q]; exact own_b64m n
theorem own_inj (y z : Int32) : (b64F (y &&& (63 : Int32)) = b64F (z &&& (63 : Int32))) ↔ (y &&& (63 : Int32)) = (z &&& (63 : Int32)) := by
  obtain ⟨n, q⟩ := own_msk y 63 63 (by decide) (by decide); obtain ⟨k, r⟩ := own_msk z 63 63 (by decide) (by decide); rw [q, r]; exact ⟨own_b64i n k, fun h => by rw [h]⟩
theorem own_ch : ∀ y ∈ ALPH, ((y &&& (255 : Int32)).toUInt32.toUInt16.toUInt32.toInt32) = y := by decide +kernel
theorem own_by : ∀ y ∈ ALPH, nar .byte ((nar .char y).toInt8.toInt32) = y := by decide +kernel
theorem own_le : ∀ y ∈ ALPH, ¬ ((255 : Int32) < nar .char y) := by decide +kernel
theorem own_no : ∀ y ∈ ALPH, ¬ ((y < (65 : Int32) ∨ (90 : Int32) < y) ∧ (y < (97 : Int32) ∨ (122 : Int32) < y) ∧ (y < (48 : Int32) ∨ (57 : Int32) < y) ∧ ¬ (y = (43 : Int32)) ∧ ¬ (y = (47 : Int32))) := by decide +kernel
theorem own_ia1 {Z : State} {h : Heap} {a : Addr} {y : Int32} (F : Ia Z h a .byte [nar .byte ((nar .char y).toInt8.toInt32)]) (q : y ∈ ALPH) : Ia Z h a .byte [y] := by rw [own_by y q] at F; exact F
theorem own_ia2 {Z : State} {h : Heap} {a : Addr} {y z : Int32} (F : Ia Z h a .byte [nar .byte ((nar .char y).toInt8.toInt32), nar .byte ((nar .char z).toInt8.toInt32)]) (q : y ∈ ALPH) (r : z ∈ ALPH) : Ia Z h a .byte [y, z] := by rw [own_by y q, own_by z r] at F; exact F
def sh3 (k : Int32) : Int64 := ((3 : Int64) <<< (k &&& 0x3f).toInt64)
def bcF (v : Int64) : Int32 :=
  let q1 := (v - (((v.toUInt64 >>> ((1 : Int32) &&& 0x3f).toInt64.toUInt64).toInt64) &&& (6148914691236517205 : Int64)))
  let q2 := ((q1 &&& (3689348814741910323 : Int64)) + (((q1.toUInt64 >>> ((2 : Int32) &&& 0x3f).toInt64.toUInt64).toInt64) &&& (3689348814741910323 : Int64)))
  let q3 := ((q2 + ((q2.toUInt64 >>> ((4 : Int32) &&& 0x3f).toInt64.toUInt64).toInt64)) &&& (1085102592571150095 : Int64))
  let q4 := (q3 + ((q3.toUInt64 >>> ((8 : Int32) &&& 0x3f).toInt64.toUInt64).toInt64))
  let q5 := (q4 + ((q4.toUInt64 >>> ((16 : Int32) &&& 0x3f).toInt64.toUInt64).toInt64))
  let q6 := (q5 + ((q5.toUInt64 >>> ((32 : Int32) &&& 0x3f).toInt64.toUInt64).toInt64))
  ((q6.toInt32) &&& (127 : Int32))
def Bv (v : Int64) : Prop := (lcmpW (v - (v / (3 : Int64)) * (3 : Int64)) (0 : Int64)) = (0 : Int32) ∧ ¬ ((0 : Int32) < (lcmpW v (3221225472 : Int64))) ∧ (bcF (v / (3 : Int64))) = (1 : Int32)
theorem own_bv0 : ∀ n : Fin 31, (lcmpW ((sh3 n.val.toInt32) - ((sh3 n.val.toInt32) / (3 : Int64)) * (3 : Int64)) (0 : Int64)) = (0 : Int32) ∧ ¬ ((0 : Int32) < (lcmpW (sh3 n.val.toInt32) (3221225472 : Int64))) ∧ (bcF ((sh3 n.val.toInt32) / (3 : Int64))) = (1 : Int32) := by decide +kernel
def R31 (k : Int32) : Prop := ∃ n : Fin 31, k = n.val.toInt32
theorem own_Bv {k : Int32} (h : R31 k) : Bv ((3 : Int64) <<< (k &&& 0x3f).toInt64) := by obtain ⟨n, rfl⟩ := h; exact own_bv0 n
theorem own_sh0 : ∀ n k : Fin 31, (lcmpW (sh3 n.val.toInt32) (sh3 k.val.toInt32)) = (0 : Int32) ↔ n.val.toInt32 = k.val.toInt32 := by decide +kernel
theorem own_sh {k j : Int32} (h : R31 k) (q : R31 j) : (lcmpW (sh3 k) (sh3 j)) = (0 : Int32) ↔ k = j := by obtain ⟨n, rfl⟩ := h; obtain ⟨i, rfl⟩ := q; exact own_sh0 n i
def eqF (v w : Int64) (xs ys us vs : List Int32) : Int32 := if (lcmpW v w) = (0 : Int32) then (if (seF xs ys) = (0 : Int32) then 0 else if (seF us vs) = (0 : Int32) then 0 else 1) else 0
theorem own_seC (xs ys : List Int32) : seF xs ys = seF ys xs := by
  unfold seF; by_cases h : xs = ys
  · rw [if_pos h, if_pos h.symm]
  · rw [if_neg h, if_neg (fun q => h q.symm)]
def i0F (y : Int32) : Int32 := (((y.toUInt32 >>> ((2 : Int32) &&& 31).toUInt32).toInt32) &&& (63 : Int32))
def i1F (y : Int32) : Int32 := (((y.toUInt32 >>> ((8 : Int32) &&& 31).toUInt32).toInt32) &&& (63 : Int32))
def lnF (y : Int32) : Int32 := ((y &&& (3 : Int32)) % (3 : Int32))
def sgF (y : Int32) : List Int32 := if lnF y = 0 then [] else if lnF y = 1 then [b64F (i0F y)] else [b64F (i0F y), b64F (i1F y)]
theorem own_l3 (y : Int32) : lnF y = 0 ∨ lnF y = 1 ∨ lnF y = 2 := by
  obtain ⟨n, q⟩ := own_msk y 3 3 (by decide) (by decide)
  unfold lnF; rw [q]; clear q; revert n; decide +kernel
theorem own_l3' {y ln : Int32} (h : ((y &&& (3 : Int32)) % (3 : Int32)) = ln) : ln = 0 ∨ ln = 1 ∨ ln = 2 := h ▸ own_l3 y
theorem own_sg0 {y : Int32} (h : lnF y = 0) : sgF y = [] := if_pos h
theorem own_sg1 {y : Int32} (h : lnF y = 1) : sgF y = [b64F (i0F y)] := by unfold sgF; rw [if_neg (by rw [h]; decide), if_pos h]
theorem own_sg2 {y : Int32} (h : lnF y = 2) : sgF y = [b64F (i0F y), b64F (i1F y)] := by unfold sgF; rw [if_neg (by rw [h]; decide), if_neg (by rw [h]; decide)]
theorem own_Sg (y : Int32) : Sg (sgF y) := by
  rcases own_l3 y with h | h | h
  · rw [own_sg0 h]; exact Or.inl rfl
  · rw [own_sg1 h]; exact Or.inr (Or.inl ⟨_, own_mem _, rfl⟩)
  · rw [own_sg2 h]; exact Or.inr (Or.inr ⟨_, _, own_mem _, own_mem _, rfl⟩)
def ssF (y z : Int32) : Int32 := if lnF y = lnF z then (if lnF y < (1 : Int32) then (if lnF y < (2 : Int32) then 1 else if i1F y = i1F z then 1 else 0) else if i0F y = i0F z then (if lnF y < (2 : Int32) then 1 else if i1F y = i1F z then 1 else 0) else 0) else 0
theorem own_ss (y z : Int32) : seF (sgF y) (sgF z) = ssF y z := by
  have j0 : (b64F (i0F y) = b64F (i0F z)) ↔ i0F y = i0F z := own_inj _ _
  have j1 : (b64F (i1F y) = b64F (i1F z)) ↔ i1F y = i1F z := own_inj _ _
  have d1 : ¬ ((1 : Int32) < 1) := by decide
  have d2 : (1 : Int32) < 2 := by decide
  have d3 : (0 : Int32) < 1 := by decide
  have d4 : (0 : Int32) < 2 := by decide
  have d5 : ¬ ((2 : Int32) < 1) := by decide
  have d6 : ¬ ((2 : Int32) < 2) := by decide
  have e1 : ¬ ((0 : Int32) = 1) := by decide
  have e2 : ¬ ((0 : Int32) = 2) := by decide
  have e3 : ¬ ((1 : Int32) = 0) := by decide
  have e4 : ¬ ((1 : Int32) = 2) := by decide
  have e5 : ¬ ((2 : Int32) = 0) := by decide
  have e6 : ¬ ((2 : Int32) = 1) := by decide
  rcases own_l3 y with h | h | h <;> rcases own_l3 z with q | q | q
  · rw [own_sg0 h, own_sg0 q]; simp [seF, ssF, h, q, d3, d4]
  · rw [own_sg0 h, own_sg1 q]; simp [seF, ssF, h, q, e1]
  · rw [own_sg0 h, own_sg2 q]; simp [seF, ssF, h, q, e2]
  · rw [own_sg1 h, own_sg0 q]; simp [seF, ssF, h, q, e3]
  · rw [own_sg1 h, own_sg1 q]; simp [seF, ssF, h, q, j0, d1, d2]
  · rw [own_sg1 h, own_sg2 q]; simp [seF, ssF, h, q, e4]
  · rw [own_sg2 h, own_sg0 q]; simp [seF, ssF, h, q, e5]
  · rw [own_sg2 h, own_sg1 q]; simp [seF, ssF, h, q, e6]
  · rw [own_sg2 h, own_sg2 q]; by_cases w0 : i0F y = i0F z <;> by_cases w1 : i1F y = i1F z <;> simp [seF, ssF, h, q, j0, j1, w0, w1, d5, d6]
theorem own_k31 {y k : Int32} (h : ((y &&& (2147483647 : Int32)) % (31 : Int32)) = k) : R31 k := by
  have q := c_and y 2147483647 (by decide)
  have e1 : ((y &&& (2147483647 : Int32)) % (31 : Int32)).toInt = (y &&& (2147483647 : Int32)).toInt % 31 := by
    rw [Int32.toInt_mod]; exact Int.tmod_eq_emod_of_nonneg q.1
  rw [h] at e1
  have e2 : (k.toInt.toNat).toInt32.toInt = (k.toInt.toNat : Int) := Int32.toInt_ofNat_small (by omega)
  exact ⟨⟨k.toInt.toNat, by omega⟩, Int32.toInt_inj.mp (by rw [e2]; omega)⟩
theorem own_kif {P : Prop} [Decidable P] {u v k : Int32} (h : (if P then u else v) = k) (hu : R31 u) (hv : R31 v) : R31 k := by
  rw [← h]; split
  · exact hu
  · exact hv
theorem own_eq {k j y z u v : Int32} (h : R31 k) (q : R31 j) : eqF (sh3 k) (sh3 j) (sgF y) (sgF z) (sgF u) (sgF v) = (if k = j then (if (ssF y z) = (0 : Int32) then 0 else if (ssF u v) = (0 : Int32) then 0 else 1) else 0) := by
  unfold eqF; rw [own_ss, own_ss]; by_cases w : k = j
  · rw [if_pos w, if_pos ((own_sh h q).mpr w)]
  · rw [if_neg w, if_neg (fun z => w ((own_sh h q).mp z))]
theorem own_eqs {k j y z u v : Int32} (h : R31 k) (q : R31 j) : eqF (sh3 j) (sh3 k) (sgF z) (sgF y) (sgF v) (sgF u) = (if k = j then (if (ssF y z) = (0 : Int32) then 0 else if (ssF u v) = (0 : Int32) then 0 else 1) else 0) := by
  unfold eqF; rw [own_seC (sgF z), own_seC (sgF v), own_ss, own_ss]; by_cases w : k = j
  · rw [if_pos w, if_pos ((own_sh q h).mpr w.symm)]
  · rw [if_neg w, if_neg (fun z => w ((own_sh q h).mp z).symm)]
theorem d2_0 : decode method_3_code 0 = .ok (.iload_n 0, 1) := by decide +kernel
theorem d2_1 : decode method_3_code 1 = .ok (.bipush 26, 2) := by decide +kernel
theorem d2_3 : decode method_3_code 3 = .ok (.if_icmp .ge 9, 3) := by decide +kernel
theorem d2_6 : decode method_3_code 6 = .ok (.bipush 65, 2) := by decide +kernel
theorem d2_8 : decode method_3_code 8 = .ok (.iload_n 0, 1) := by decide +kernel
theorem d2_9 : decode method_3_code 9 = .ok (.iadd, 1) := by decide +kernel
theorem d2_10 : decode method_3_code 10 = .ok (.i2c, 1) := by decide +kernel
theorem d2_11 : decode method_3_code 11 = .ok (.ireturn, 1) := by decide +kernel
theorem d2_12 : decode method_3_code 12 = .ok (.iload_n 0, 1) := by decide +kernel
theorem d2_13 : decode method_3_code 13 = .ok (.bipush 52, 2) := by decide +kernel
theorem d2_15 : decode method_3_code 15 = .ok (.if_icmp .ge 12, 3) := by decide +kernel
theorem d2_18 : decode method_3_code 18 = .ok (.bipush 97, 2) := by decide +kernel
theorem d2_20 : decode method_3_code 20 = .ok (.iload_n 0, 1) := by decide +kernel
theorem d2_21 : decode method_3_code 21 = .ok (.bipush 26, 2) := by decide +kernel
theorem d2_23 : decode method_3_code 23 = .ok (.isub, 1) := by decide +kernel
theorem d2_24 : decode method_3_code 24 = .ok (.iadd, 1) := by decide +kernel
theorem d2_25 : decode method_3_code 25 = .ok (.i2c, 1) := by decide +kernel
theorem d2_26 : decode method_3_code 26 = .ok (.ireturn, 1) := by decide +kernel
theorem d2_27 : decode method_3_code 27 = .ok (.iload_n 0, 1) := by decide +kernel
theorem d2_28 : decode method_3_code 28 = .ok (.bipush 62, 2) := by decide +kernel
theorem d2_30 : decode method_3_code 30 = .ok (.if_icmp .ge 12, 3) := by decide +kernel
theorem d2_33 : decode method_3_code 33 = .ok (.bipush 48, 2) := by decide +kernel
theorem d2_35 : decode method_3_code 35 = .ok (.iload_n 0, 1) := by decide +kernel
theorem d2_36 : decode method_3_code 36 = .ok (.bipush 52, 2) := by decide +kernel
theorem d2_38 : decode method_3_code 38 = .ok (.isub, 1) := by decide +kernel
theorem d2_39 : decode method_3_code 39 = .ok (.iadd, 1) := by decide +kernel
theorem d2_40 : decode method_3_code 40 = .ok (.i2c, 1) := by decide +kernel
theorem d2_41 : decode method_3_code 41 = .ok (.ireturn, 1) := by decide +kernel
theorem d2_42 : decode method_3_code 42 = .ok (.iload_n 0, 1) := by decide +kernel
theorem d2_43 : decode method_3_code 43 = .ok (.bipush 62, 2) := by decide +kernel
theorem d2_45 : decode method_3_code 45 = .ok (.if_icmp .ne 6, 3) := by decide +kernel
theorem d2_48 : decode method_3_code 48 = .ok (.bipush 43, 2) := by decide +kernel
theorem d2_50 : decode method_3_code 50 = .ok (.ireturn, 1) := by decide +kernel
theorem d2_51 : decode method_3_code 51 = .ok (.bipush 47, 2) := by decide +kernel
theorem d2_53 : decode method_3_code 53 = .ok (.ireturn, 1) := by decide +kernel
theorem pn_2 : plainName cLAW = true := by first | (simp [plainName, overriddenIn]; done) | decide +kernel
theorem ef_2 (m : MethodId) (x0 : Int32) : entryFrame m #[(.int x0)] 1 = mkF m 0 #[.val (.int x0)] [] := by first | (simp [entryFrame, mkF, argsToLocals, Value.category]; done) | rfl
def Q_rmB (Z : State) (v : Int32)  (h0 : Heap) (n0 : Nat) (vQ : Option Value) (hQ : Heap) (LQ : List Loc) : Prop := vQ = some (.int (b64F v)) ∧ LQ = [] ∧ hQ = h0
set_option maxRecDepth 65536 in
set_option maxHeartbeats 40000000 in
theorem rmB (l : Launch) (Z : State) (a0 : Array Value) (hw : ∀ d ∈ tables_1, d.before a0 Z = true) (ws : List Jvm.Cond) (v : Int32)  (h0 : Heap) (n0 : Nat) (Z0 : n0 ≤ h0.size) :
    MetFree l (⟨cLAW, "b64", "(I)C"⟩ : MethodName) (head1 (Jvm.Cond.code (⟨cLAW, "b64", "(I)C"⟩ : MethodName) method_3_code 1 (some .char) :: ws) ({ frames := 0, cells := 0, slots := 0, locals := 0 } : Room)) (fun aQ UQ => aQ = #[(.int v)] ∧ Z.Warmed39 UQ.vm ∧ UQ.heap = h0) (fun _ _ _ _ _ => True) (fun _ UQ oQ UR => ∃ vQ LQ, oQ = .returned vQ ∧ Q_rmB Z v  h0 n0 vQ UR.heap LQ ∧ FrameEnd UQ oQ UR LQ ({ frames := 0, cells := 0, slots := 0, locals := 0 } : Room).cells ({ frames := 0, cells := 0, slots := 0, locals := 0 } : Room).slots) := by
  refine MetFree.of_bodySF (plainFor_of_name pn_2) hisR ?_
  intro p e s m args below meth c s₁ Bd hml0 hP hK
  obtain ⟨rfl, hZ, hh⟩ := hP
  have hx := Bd.exec
  have hby := Bd.bytes
  have hlk := Bd.notSynchronized
  have hml : c.maxLocals = 1 := hml0
  have hown : s.vm.findClass cLAW = some m.cls := findClass_of_methodNamed Bd.named
  have hnm := (name_of_methodNamed Bd.named Bd.method).1
  have X0 : Stand p l e ({ frames := 0, cells := 0, slots := 0, locals := 0 } : Room) s m #[(.int v)] below meth c s₁ [] 0 0 := Stand.of_body Bd
  have e0 : s₁.heap = h0 := by rw [← hh, Bd.state]; rfl
  have N0 := Fr.nil n0
  show Go p e below _ (Done s (Q_rmB Z v  h0 n0) ({ frames := 0, cells := 0, slots := 0, locals := 0 } : Room).cells ({ frames := 0, cells := 0, slots := 0, locals := 0 } : Room).slots)
  refine Go.via (fun tQ kQ => castTop (ef_2 m v) kQ) ?_
  show Go p e below (s₁.setTop (mkF m 0 #[.val (.int v)] [])) _
  refine Go.via (fun _ => XS.iloadN X0.here hx rfl (hb hby d2_0) rfl) ?_
  refine Go.via (fun _ => XS.bipush X0.here hx rfl (hb hby d2_1)) ?_
  by_cases hc1 : v < (26 : Int32)
  · refine Go.via (fun _ => XS.icmpNo X0.here hx rfl (hb hby d2_3) rfl (tlt (hc1 : v < (26 : Int32))).2.1) ?_
    refine Go.via (fun _ => XS.bipush X0.here hx rfl (hb hby d2_6)) ?_
    refine Go.via (fun _ => XS.iloadN X0.here hx rfl (hb hby d2_8) rfl) ?_
    show Go p e below (s₁.setTop (mkF m 9 #[.val (.int v)] [(.int v), (.int (65 : Int32))])) _
    refine Go.via (fun _ => XS.iadd X0.here hx rfl (hb hby d2_9) rfl) ?_
    show Go p e below (s₁.setTop (mkF m 10 #[.val (.int v)] [(.int ((65 : Int32) + v))])) _
    refine Go.via (fun _ => XS.i2c X0.here hx rfl (hb hby d2_10) rfl) ?_
    show Go p e below (s₁.setTop (mkF m 11 #[.val (.int v)] [(.int (((65 : Int32) + v).toUInt32.toUInt16.toUInt32.toInt32))])) _
    exact Go.fin X0 hlk (v := some (.int (nar .char (((65 : Int32) + v).toUInt32.toUInt16.toUInt32.toInt32)))) (fun h => by rw [Bd.returns] at h; cases h) (fun fs hr => retN X0 hx (t := .char) Bd.returns (by simp) (hb hby d2_11) hr) (by rw [e0]; exact ⟨(congrArg (fun qq => some (Value.int qq)) ((nar_c _).trans (Eq.symm ((if_pos hc1).trans rfl)))), rfl, rfl⟩) (by decide) (by decide)
  · refine Go.via (fun _ => XS.icmpYes X0.here hx rfl (pc0 := 3) (pc' := 12) rfl (hb hby d2_3) rfl (flt (hc1 : ¬ (v < (26 : Int32)))).2.1 (by decide) (by decide)) ?_
    refine Go.via (fun _ => XS.iloadN X0.here hx rfl (hb hby d2_12) rfl) ?_
    refine Go.via (fun _ => XS.bipush X0.here hx rfl (hb hby d2_13)) ?_
    show Go p e below (s₁.setTop (mkF m 15 #[.val (.int v)] [(.int (52 : Int32)), (.int v)])) _
    by_cases hc2 : v < (52 : Int32)
    · refine Go.via (fun _ => XS.icmpNo X0.here hx rfl (hb hby d2_15) rfl (tlt (hc2 : v < (52 : Int32))).2.1) ?_
      show Go p e below (s₁.setTop (mkF m 18 #[.val (.int v)] [])) _
      refine Go.via (fun _ => XS.bipush X0.here hx rfl (hb hby d2_18)) ?_
      refine Go.via (fun _ => XS.iloadN X0.here hx rfl (hb hby d2_20) rfl) ?_
      refine Go.via (fun _ => XS.bipush X0.here hx rfl (hb hby d2_21)) ?_
      refine Go.via (fun _ => XS.isub X0.here hx rfl (hb hby d2_23) rfl) ?_
      show Go p e below (s₁.setTop (mkF m 24 #[.val (.int v)] [(.int (v - (26 : Int32))), (.int (97 : Int32))])) _
      refine Go.via (fun _ => XS.iadd X0.here hx rfl (hb hby d2_24) rfl) ?_
      show Go p e below (s₁.setTop (mkF m 25 #[.val (.int v)] [(.int ((97 : Int32) + (v - (26 : Int32))))])) _
      refine Go.via (fun _ => XS.i2c X0.here hx rfl (hb hby d2_25) rfl) ?_
      show Go p e below (s₁.setTop (mkF m 26 #[.val (.int v)] [(.int (((97 : Int32) + (v - (26 : Int32))).toUInt32.toUInt16.toUInt32.toInt32))])) _
      exact Go.fin X0 hlk (v := some (.int (nar .char (((97 : Int32) + (v - (26 : Int32))).toUInt32.toUInt16.toUInt32.toInt32)))) (fun h => by rw [Bd.returns] at h; cases h) (fun fs hr => retN X0 hx (t := .char) Bd.returns (by simp) (hb hby d2_26) hr) (by rw [e0]; exact ⟨(congrArg (fun qq => some (Value.int qq)) ((nar_c _).trans (Eq.symm ((if_neg hc1).trans ((if_pos hc2).trans rfl))))), rfl, rfl⟩) (by decide) (by decide)
    · refine Go.via (fun _ => XS.icmpYes X0.here hx rfl (pc0 := 15) (pc' := 27) rfl (hb hby d2_15) rfl (flt (hc2 : ¬ (v < (52 : Int32)))).2.1 (by decide) (by decide)) ?_
      show Go p e below (s₁.setTop (mkF m 27 #[.val (.int v)] [])) _
      refine Go.via (fun _ => XS.iloadN X0.here hx rfl (hb hby d2_27) rfl) ?_
      refine Go.via (fun _ => XS.bipush X0.here hx rfl (hb hby d2_28)) ?_
      by_cases hc3 : v < (62 : Int32)
      · refine Go.via (fun _ => XS.icmpNo X0.here hx rfl (hb hby d2_30) rfl (tlt (hc3 : v < (62 : Int32))).2.1) ?_
        refine Go.via (fun _ => XS.bipush X0.here hx rfl (hb hby d2_33)) ?_
        refine Go.via (fun _ => XS.iloadN X0.here hx rfl (hb hby d2_35) rfl) ?_
        show Go p e below (s₁.setTop (mkF m 36 #[.val (.int v)] [(.int v), (.int (48 : Int32))])) _
        refine Go.via (fun _ => XS.bipush X0.here hx rfl (hb hby d2_36)) ?_
        refine Go.via (fun _ => XS.isub X0.here hx rfl (hb hby d2_38) rfl) ?_
        show Go p e below (s₁.setTop (mkF m 39 #[.val (.int v)] [(.int (v - (52 : Int32))), (.int (48 : Int32))])) _
        refine Go.via (fun _ => XS.iadd X0.here hx rfl (hb hby d2_39) rfl) ?_
        show Go p e below (s₁.setTop (mkF m 40 #[.val (.int v)] [(.int ((48 : Int32) + (v - (52 : Int32))))])) _
        refine Go.via (fun _ => XS.i2c X0.here hx rfl (hb hby d2_40) rfl) ?_
        show Go p e below (s₁.setTop (mkF m 41 #[.val (.int v)] [(.int (((48 : Int32) + (v - (52 : Int32))).toUInt32.toUInt16.toUInt32.toInt32))])) _
        exact Go.fin X0 hlk (v := some (.int (nar .char (((48 : Int32) + (v - (52 : Int32))).toUInt32.toUInt16.toUInt32.toInt32)))) (fun h => by rw [Bd.returns] at h; cases h) (fun fs hr => retN X0 hx (t := .char) Bd.returns (by simp) (hb hby d2_41) hr) (by rw [e0]; exact ⟨(congrArg (fun qq => some (Value.int qq)) ((nar_c _).trans (Eq.symm ((if_neg hc1).trans ((if_neg hc2).trans ((if_pos hc3).trans rfl)))))), rfl, rfl⟩) (by decide) (by decide)
      · refine Go.via (fun _ => XS.icmpYes X0.here hx rfl (pc0 := 30) (pc' := 42) rfl (hb hby d2_30) rfl (flt (hc3 : ¬ (v < (62 : Int32)))).2.1 (by decide) (by decide)) ?_
        refine Go.via (fun _ => XS.iloadN X0.here hx rfl (hb hby d2_42) rfl) ?_
        refine Go.via (fun _ => XS.bipush X0.here hx rfl (hb hby d2_43)) ?_
        show Go p e below (s₁.setTop (mkF m 45 #[.val (.int v)] [(.int (62 : Int32)), (.int v)])) _
        by_cases hc4 : v = (62 : Int32)
        · refine Go.via (fun _ => XS.icmpNo X0.here hx rfl (hb hby d2_45) rfl (teq (hc4 : v = (62 : Int32))).2) ?_
          show Go p e below (s₁.setTop (mkF m 48 #[.val (.int v)] [])) _
          refine Go.via (fun _ => XS.bipush X0.here hx rfl (hb hby d2_48)) ?_
          exact Go.fin X0 hlk (v := some (.int (43 : Int32))) (fun h => by rw [Bd.returns] at h; cases h) (fun fs hr => retN X0 hx (t := .char) Bd.returns (by simp) (hb hby d2_50) hr) (by rw [e0]; exact ⟨(congrArg (fun qq => some (Value.int qq)) (Eq.symm ((if_neg hc1).trans ((if_neg hc2).trans ((if_neg hc3).trans ((if_pos hc4).trans rfl)))))), rfl, rfl⟩) (by decide) (by decide)
        · refine Go.via (fun _ => XS.icmpYes X0.here hx rfl (pc0 := 45) (pc' := 51) rfl (hb hby d2_45) rfl (feq (hc4 : ¬ (v = (62 : Int32)))).2 (by decide) (by decide)) ?_
          show Go p e below (s₁.setTop (mkF m 51 #[.val (.int v)] [])) _
          refine Go.via (fun _ => XS.bipush X0.here hx rfl (hb hby d2_51)) ?_
          exact Go.fin X0 hlk (v := some (.int (47 : Int32))) (fun h => by rw [Bd.returns] at h; cases h) (fun fs hr => retN X0 hx (t := .char) Bd.returns (by simp) (hb hby d2_53) hr) (by rw [e0]; exact ⟨(congrArg (fun qq => some (Value.int qq)) (Eq.symm ((if_neg hc1).trans ((if_neg hc2).trans ((if_neg hc3).trans ((if_neg hc4).trans rfl)))))), rfl, rfl⟩) (by decide) (by decide)
theorem d14_0 : decode jdk_42_method_152_code 0 = .ok (.getstatic 38, 3) := by decide +kernel
theorem d14_3 : decode jdk_42_method_152_code 3 = .ok (.ifCond .eq 10, 3) := by decide +kernel
theorem d14_6 : decode jdk_42_method_152_code 6 = .ok (.aload_n 0, 1) := by decide +kernel
theorem d14_7 : decode jdk_42_method_152_code 7 = .ok (.getfield 15, 3) := by decide +kernel
theorem d14_10 : decode jdk_42_method_152_code 10 = .ok (.goto 4, 3) := by decide +kernel
theorem d14_14 : decode jdk_42_method_152_code 14 = .ok (.ireturn, 1) := by decide +kernel
theorem pn_14 : plainName cST = true := by first | (simp [plainName, overriddenIn]; done) | decide +kernel
theorem ef_14 (m : MethodId) (x0 : Addr) : entryFrame m #[(.ref x0)] 1 = mkF m 0 #[.val (.ref x0)] [] := by first | (simp [entryFrame, mkF, argsToLocals, Value.category]; done) | rfl
def Q_rmCo (Z : State) (a : Addr) (cs : Int32) (h0 : Heap) (n0 : Nat) (vQ : Option Value) (hQ : Heap) (LQ : List Loc) : Prop := vQ = some (.int (0 : Int32)) ∧ LQ = [] ∧ hQ = h0
set_option maxRecDepth 65536 in
set_option maxHeartbeats 40000000 in
theorem rmCo (l : Launch) (Z : State) (a0 : Array Value) (hw : ∀ d ∈ tables_1, d.before a0 Z = true) (ws : List Jvm.Cond) (a : Addr) (cs : Int32) (h0 : Heap) (n0 : Nat) (Z0 : n0 ≤ h0.size) (P0 : Fld Z h0 a cST "coder" "B" (.int (0 : Int32))) (P1 : Old Z n0 h0) (zCS : Sta Z Z.heap cST "COMPACT_STRINGS" "Z" (.int cs)) (hcs : ¬ (cs = (0 : Int32))) :
    MetFree l (⟨cST, "coder", "()B"⟩ : MethodName) (head1 (Jvm.Cond.code (⟨cST, "coder", "()B"⟩ : MethodName) jdk_42_method_152_code 1 (some .byte) :: ws) ({ frames := 0, cells := 0, slots := 0, locals := 0 } : Room)) (fun aQ UQ => aQ = #[(.ref a)] ∧ Z.Warmed39 UQ.vm ∧ UQ.heap = h0) (fun _ _ _ _ _ => True) (fun _ UQ oQ UR => ∃ vQ LQ, oQ = .returned vQ ∧ Q_rmCo Z a cs h0 n0 vQ UR.heap LQ ∧ FrameEnd UQ oQ UR LQ ({ frames := 0, cells := 0, slots := 0, locals := 0 } : Room).cells ({ frames := 0, cells := 0, slots := 0, locals := 0 } : Room).slots) := by
  refine MetFree.of_bodySF (plainFor_of_name pn_14) hisR ?_
  intro p e s m args below meth c s₁ Bd hml0 hP hK
  obtain ⟨rfl, hZ, hh⟩ := hP
  have hx := Bd.exec
  have hby := Bd.bytes
  have hlk := Bd.notSynchronized
  have hml : c.maxLocals = 1 := hml0
  have hown : s.vm.findClass cST = some m.cls := findClass_of_methodNamed Bd.named
  have hnm := (name_of_methodNamed Bd.named Bd.method).1
  have X0 : Stand p l e ({ frames := 0, cells := 0, slots := 0, locals := 0 } : Room) s m #[(.ref a)] below meth c s₁ [] 0 0 := Stand.of_body Bd
  have e0 : s₁.heap = h0 := by rw [← hh, Bd.state]; rfl
  have N0 := Fr.nil n0
  show Go p e below _ (Done s (Q_rmCo Z a cs h0 n0) ({ frames := 0, cells := 0, slots := 0, locals := 0 } : Room).cells ({ frames := 0, cells := 0, slots := 0, locals := 0 } : Room).slots)
  refine Go.via (fun tQ kQ => castTop (ef_14 m a) kQ) ?_
  show Go p e below (s₁.setTop (mkF m 0 #[.val (.ref a)] [])) _
  have f5 : Sta Z h0 cST "COMPACT_STRINGS" "Z" (.int cs) := zCS.ext P1.2
  obtain ⟨T6, X6, e6, st6⟩ := getS2 X0 hx hZ hown (host := "") (Or.inl (tw hw 34 rfl)) Via.refl e0 f5 (g := (mkF m 0 #[.val (.ref a)] [])) rfl (hb hby d14_0)
  refine Go.via (st6) ?_
  clear st6
  clear X0 e0
  show Go p e below (T6.setTop (mkF m 3 #[.val (.ref a)] [(.int cs)])) _
  refine Go.via (fun _ => XS.ifNo X6.here hx rfl (hb hby d14_3) rfl ((if0 _ _).trans (feq (hcs : ¬ (cs = (0 : Int32)))).1)) ?_
  show Go p e below (T6.setTop (mkF m 6 #[.val (.ref a)] [])) _
  refine Go.via (fun _ => XS.aloadN X6.here hx rfl (hb hby d14_6) rfl rfl) ?_
  obtain ⟨T7, X7, e7, st7⟩ := getF X6 hx hZ hown (host := "") (Or.inl (tw hw 33 rfl)) Via.refl e6 P0 (g := (mkF m 7 #[.val (.ref a)] [(.ref a)])) rfl rfl (hb hby d14_7)
  refine Go.via (st7) ?_
  clear st7
  clear X6 e6
  show Go p e below (T7.setTop (mkF m 10 #[.val (.ref a)] [(.int (0 : Int32))])) _
  refine Go.via (fun _ => XS.goto X7.here hx rfl (pc0 := 10) (pc' := 14) rfl (hb hby d14_10) (by decide) (by decide)) ?_
  exact Go.fin X7 hlk (v := some (.int (0 : Int32))) (fun h => by rw [Bd.returns] at h; cases h) (fun fs hr => retN X7 hx (t := .byte) Bd.returns (by simp) (hb hby d14_14) hr) (by rw [e7]; exact ⟨rfl, rfl, rfl⟩) (by decide) (by decide)
theorem d16_0 : decode jdk_42_method_154_code 0 = .ok (.getstatic 38, 3) := by decide +kernel
theorem d16_3 : decode jdk_42_method_154_code 3 = .ok (.ifCond .eq 14, 3) := by decide +kernel
theorem d16_6 : decode jdk_42_method_154_code 6 = .ok (.aload_n 0, 1) := by decide +kernel
theorem d16_7 : decode jdk_42_method_154_code 7 = .ok (.getfield 15, 3) := by decide +kernel
theorem d16_10 : decode jdk_42_method_154_code 10 = .ok (.ifCond .ne 7, 3) := by decide +kernel
theorem d16_13 : decode jdk_42_method_154_code 13 = .ok (.iconst 1, 1) := by decide +kernel
theorem d16_14 : decode jdk_42_method_154_code 14 = .ok (.goto 4, 3) := by decide +kernel
theorem d16_18 : decode jdk_42_method_154_code 18 = .ok (.ireturn, 1) := by decide +kernel
theorem pn_16 : plainName cST = true := by first | (simp [plainName, overriddenIn]; done) | decide +kernel
theorem ef_16 (m : MethodId) (x0 : Addr) : entryFrame m #[(.ref x0)] 1 = mkF m 0 #[.val (.ref x0)] [] := by first | (simp [entryFrame, mkF, argsToLocals, Value.category]; done) | rfl
def Q_rmIL (Z : State) (a : Addr) (cs : Int32) (h0 : Heap) (n0 : Nat) (vQ : Option Value) (hQ : Heap) (LQ : List Loc) : Prop := vQ = some (.int (1 : Int32)) ∧ LQ = [] ∧ hQ = h0
set_option maxRecDepth 65536 in
set_option maxHeartbeats 40000000 in
theorem rmIL (l : Launch) (Z : State) (a0 : Array Value) (hw : ∀ d ∈ tables_1, d.before a0 Z = true) (ws : List Jvm.Cond) (a : Addr) (cs : Int32) (h0 : Heap) (n0 : Nat) (Z0 : n0 ≤ h0.size) (P0 : Fld Z h0 a cST "coder" "B" (.int (0 : Int32))) (P1 : Old Z n0 h0) (zCS : Sta Z Z.heap cST "COMPACT_STRINGS" "Z" (.int cs)) (hcs : ¬ (cs = (0 : Int32))) :
    MetFree l (⟨cST, "isLatin1", "()Z"⟩ : MethodName) (head1 (Jvm.Cond.code (⟨cST, "isLatin1", "()Z"⟩ : MethodName) jdk_42_method_154_code 1 (some .boolean) :: ws) ({ frames := 0, cells := 0, slots := 0, locals := 0 } : Room)) (fun aQ UQ => aQ = #[(.ref a)] ∧ Z.Warmed39 UQ.vm ∧ UQ.heap = h0) (fun _ _ _ _ _ => True) (fun _ UQ oQ UR => ∃ vQ LQ, oQ = .returned vQ ∧ Q_rmIL Z a cs h0 n0 vQ UR.heap LQ ∧ FrameEnd UQ oQ UR LQ ({ frames := 0, cells := 0, slots := 0, locals := 0 } : Room).cells ({ frames := 0, cells := 0, slots := 0, locals := 0 } : Room).slots) := by
  refine MetFree.of_bodySF (plainFor_of_name pn_16) hisR ?_
  intro p e s m args below meth c s₁ Bd hml0 hP hK
  obtain ⟨rfl, hZ, hh⟩ := hP
  have hx := Bd.exec
  have hby := Bd.bytes
  have hlk := Bd.notSynchronized
  have hml : c.maxLocals = 1 := hml0
  have hown : s.vm.findClass cST = some m.cls := findClass_of_methodNamed Bd.named
  have hnm := (name_of_methodNamed Bd.named Bd.method).1
  have X0 : Stand p l e ({ frames := 0, cells := 0, slots := 0, locals := 0 } : Room) s m #[(.ref a)] below meth c s₁ [] 0 0 := Stand.of_body Bd
  have e0 : s₁.heap = h0 := by rw [← hh, Bd.state]; rfl
  have N0 := Fr.nil n0
  show Go p e below _ (Done s (Q_rmIL Z a cs h0 n0) ({ frames := 0, cells := 0, slots := 0, locals := 0 } : Room).cells ({ frames := 0, cells := 0, slots := 0, locals := 0 } : Room).slots)
  refine Go.via (fun tQ kQ => castTop (ef_16 m a) kQ) ?_
  show Go p e below (s₁.setTop (mkF m 0 #[.val (.ref a)] [])) _
  have f8 : Sta Z h0 cST "COMPACT_STRINGS" "Z" (.int cs) := zCS.ext P1.2
  obtain ⟨T9, X9, e9, st9⟩ := getS2 X0 hx hZ hown (host := "") (Or.inl (tw hw 34 rfl)) Via.refl e0 f8 (g := (mkF m 0 #[.val (.ref a)] [])) rfl (hb hby d16_0)
  refine Go.via (st9) ?_
  clear st9
  clear X0 e0
  show Go p e below (T9.setTop (mkF m 3 #[.val (.ref a)] [(.int cs)])) _
  refine Go.via (fun _ => XS.ifNo X9.here hx rfl (hb hby d16_3) rfl ((if0 _ _).trans (feq (hcs : ¬ (cs = (0 : Int32)))).1)) ?_
  show Go p e below (T9.setTop (mkF m 6 #[.val (.ref a)] [])) _
  refine Go.via (fun _ => XS.aloadN X9.here hx rfl (hb hby d16_6) rfl rfl) ?_
  obtain ⟨T10, X10, e10, st10⟩ := getF X9 hx hZ hown (host := "") (Or.inl (tw hw 33 rfl)) Via.refl e9 P0 (g := (mkF m 7 #[.val (.ref a)] [(.ref a)])) rfl rfl (hb hby d16_7)
  refine Go.via (st10) ?_
  clear st10
  clear X9 e9
  show Go p e below (T10.setTop (mkF m 10 #[.val (.ref a)] [(.int (0 : Int32))])) _
  refine Go.via (fun _ => XS.ifNo X10.here hx rfl (hb hby d16_10) rfl ((if0 _ _).trans (teq ((by decide) : (0 : Int32) = (0 : Int32))).2)) ?_
  show Go p e below (T10.setTop (mkF m 13 #[.val (.ref a)] [])) _
  refine Go.via (fun _ => XS.iconst X10.here hx rfl (hb hby d16_13)) ?_
  refine Go.via (fun _ => XS.goto X10.here hx rfl (pc0 := 14) (pc' := 18) rfl (hb hby d16_14) (by decide) (by decide)) ?_
  exact Go.fin X10 hlk (v := some (.int (1 : Int32))) (fun h => by rw [Bd.returns] at h; cases h) (fun fs hr => retN X10 hx (t := .boolean) Bd.returns (by simp) (hb hby d16_18) hr) (by rw [e10]; exact ⟨rfl, rfl, rfl⟩) (by decide) (by decide)
theorem d13_0 : decode jdk_42_method_54_code 0 = .ok (.aload_n 0, 1) := by decide +kernel
theorem d13_1 : decode jdk_42_method_54_code 1 = .ok (.getfield 9, 3) := by decide +kernel
theorem d13_4 : decode jdk_42_method_54_code 4 = .ok (.arraylength, 1) := by decide +kernel
theorem d13_5 : decode jdk_42_method_54_code 5 = .ok (.aload_n 0, 1) := by decide +kernel
theorem d13_6 : decode jdk_42_method_54_code 6 = .ok (.invokevirtual 335, 3) := by decide +kernel
theorem pd__28_29B : parseMethodDescriptor "()B" = some ⟨[], some .byte⟩ := by decide +kernel
theorem d13_9 : decode jdk_42_method_54_code 9 = .ok (.ishr, 1) := by decide +kernel
theorem d13_10 : decode jdk_42_method_54_code 10 = .ok (.ireturn, 1) := by decide +kernel
theorem pn_13 : plainName cST = true := by first | (simp [plainName, overriddenIn]; done) | decide +kernel
theorem ef_13 (m : MethodId) (x0 : Addr) : entryFrame m #[(.ref x0)] 1 = mkF m 0 #[.val (.ref x0)] [] := by first | (simp [entryFrame, mkF, argsToLocals, Value.category]; done) | rfl
def Q_rmLn0 (Z : State) (a : Addr) (cs : Int32) (b_ : Addr) (h0 : Heap) (n0 : Nat) (vQ : Option Value) (hQ : Heap) (LQ : List Loc) : Prop := vQ = some (.int (0 : Int32)) ∧ LQ = [] ∧ hQ = h0
set_option maxRecDepth 65536 in
set_option maxHeartbeats 40000000 in
theorem rmLn0 (l : Launch) (Z : State) (a0 : Array Value) (hw : ∀ d ∈ tables_1, d.before a0 Z = true) (ws : List Jvm.Cond) (a : Addr) (cs : Int32) (b_ : Addr) (h0 : Heap) (n0 : Nat) (Z0 : n0 ≤ h0.size) (P0 : Exa Z h0 a cST) (P1 : Fld Z h0 a cST "coder" "B" (.int (0 : Int32))) (P2 : Fld Z h0 a cST "value" "[B" (.ref b_)) (P3 : Ia Z h0 b_ .byte []) (P4 : Old Z n0 h0) (zCS : Sta Z Z.heap cST "COMPACT_STRINGS" "Z" (.int cs)) (hcs : ¬ (cs = (0 : Int32))) :
    MetFree l (⟨cST, "length", "()I"⟩ : MethodName) (head1 (Jvm.Cond.code (⟨cST, "length", "()I"⟩ : MethodName) jdk_42_method_54_code 1 (some .int) :: ws) ({ frames := 1, cells := 0, slots := 0, locals := 13 } : Room)) (fun aQ UQ => aQ = #[(.ref a)] ∧ Z.Warmed39 UQ.vm ∧ UQ.heap = h0) (fun _ _ _ _ _ => True) (fun _ UQ oQ UR => ∃ vQ LQ, oQ = .returned vQ ∧ Q_rmLn0 Z a cs b_ h0 n0 vQ UR.heap LQ ∧ FrameEnd UQ oQ UR LQ ({ frames := 1, cells := 0, slots := 0, locals := 13 } : Room).cells ({ frames := 1, cells := 0, slots := 0, locals := 13 } : Room).slots) := by
  refine MetFree.of_bodySF (plainFor_of_name pn_13) hisR ?_
  intro p e s m args below meth c s₁ Bd hml0 hP hK
  obtain ⟨rfl, hZ, hh⟩ := hP
  have hx := Bd.exec
  have hby := Bd.bytes
  have hlk := Bd.notSynchronized
  have hml : c.maxLocals = 1 := hml0
  have hown : s.vm.findClass cST = some m.cls := findClass_of_methodNamed Bd.named
  have hnm := (name_of_methodNamed Bd.named Bd.method).1
  have X0 : Stand p l e ({ frames := 1, cells := 0, slots := 0, locals := 13 } : Room) s m #[(.ref a)] below meth c s₁ [] 0 0 := Stand.of_body Bd
  have e0 : s₁.heap = h0 := by rw [← hh, Bd.state]; rfl
  have N0 := Fr.nil n0
  show Go p e below _ (Done s (Q_rmLn0 Z a cs b_ h0 n0) ({ frames := 1, cells := 0, slots := 0, locals := 13 } : Room).cells ({ frames := 1, cells := 0, slots := 0, locals := 13 } : Room).slots)
  refine Go.via (fun tQ kQ => castTop (ef_13 m a) kQ) ?_
  show Go p e below (s₁.setTop (mkF m 0 #[.val (.ref a)] [])) _
  refine Go.via (fun _ => XS.aloadN X0.here hx rfl (hb hby d13_0) rfl rfl) ?_
  obtain ⟨T11, X11, e11, st11⟩ := getF X0 hx hZ hown (host := "") (Or.inl (tw hw 32 rfl)) Via.refl e0 P2 (g := (mkF m 1 #[.val (.ref a)] [(.ref a)])) rfl rfl (hb hby d13_1)
  refine Go.via (st11) ?_
  clear st11
  clear X0 e0
  show Go p e below (T11.setTop (mkF m 4 #[.val (.ref a)] [(.ref b_)])) _
  refine Go.via (lenI X11 hx hZ e11 P3 (n := (0 : Int32)) rfl (g := (mkF m 4 #[.val (.ref a)] [(.ref b_)])) rfl rfl (hb hby d13_4)) ?_
  show Go p e below (T11.setTop (mkF m 5 #[.val (.ref a)] [(.int (0 : Int32))])) _
  refine Go.via (fun _ => XS.aloadN X11.here hx rfl (hb hby d13_5) rfl rfl) ?_
  obtain ⟨cq12, kq12, q12a, q12b, q12c⟩ := isOf hZ e11 P0
  obtain ⟨r12, _, ⟨T12, L12, k12, n12⟩, -, X12, ⟨Lc12, hQ12, l12, y12, z12⟩, st12⟩ := X11.virtualBack hx (y := (⟨cST, "coder", "()B"⟩ : MethodName)) (z := (⟨cST, "coder", "()B"⟩ : MethodName)) hown (mvT hZ (tw hw 70 rfl)) (mvT hZ (tw hw 71 rfl)) (notFace_of_selects (args := #[]) (mvT hZ (tw hw 73 rfl))) (mvT hZ (tw hw 73 rfl)) (mvT hZ (tw hw 72 rfl)) (by decide) (backOf (W := 1) (rmCo l Z a0 hw [] a cs h0 n0 Z0 P1 P4 zCS hcs) hZ (tw hw 74 rfl) (tw hw 14 rfl) (by decide) (by decide)) q12a q12c (g := (mkF m 6 #[.val (.ref a)] [(.ref a), (.int (0 : Int32))])) rfl (by rw [hml]; rfl) (Steps.refl _) (argsL := []) (rest := [(.int (0 : Int32))]) (lenOf pd__28_29B rfl) rfl (by show 2 * 0 + _ ≤ _; exact Nat.le_of_eq rfl) (hb hby d13_6) (fun _ _ => ⟨rfl, e11, (by decide : 0 + 0 ≤ _), (by decide : 0 + 0 ≤ _)⟩)
  dsimp only [Pt.U, Pt.locs, Pt.cells, Pt.slots] at X12 l12 y12 z12 st12 hQ12
  rw [l12, y12, z12] at X12
  clear l12 y12 z12
  obtain ⟨hr12, N12q, eh12⟩ := hQ12
  rw [hr12] at st12
  clear hr12
  rw [N12q, List.append_nil] at X12
  refine Go.via (fun _ kQ => st12.trans kQ) ?_
  clear st12
  have e12 : T12.heap = h0 := eh12
  clear X11 e11
  show Go p e below (T12.setTop (mkF m 9 #[.val (.ref a)] [(.int (0 : Int32)), (.int (0 : Int32))])) _
  refine Go.via (fun _ => XS.ishr X12.here hx rfl (hb hby d13_9) rfl) ?_
  show Go p e below (T12.setTop (mkF m 10 #[.val (.ref a)] [(.int (0 : Int32))])) _
  exact Go.fin X12 hlk (v := some (.int (0 : Int32))) (fun h => by rw [Bd.returns] at h; cases h) (fun fs hr => OwnKit.retI X12 hx Bd.returns (hb hby d13_10) hr) (by rw [e12]; exact ⟨rfl, rfl, rfl⟩) (by decide) (by decide)
def Q_rmLn1 (Z : State) (a : Addr) (cs : Int32) (b_ : Addr) (y0 : Int32) (h0 : Heap) (n0 : Nat) (vQ : Option Value) (hQ : Heap) (LQ : List Loc) : Prop := vQ = some (.int (1 : Int32)) ∧ LQ = [] ∧ hQ = h0
set_option maxRecDepth 65536 in
set_option maxHeartbeats 40000000 in
theorem rmLn1 (l : Launch) (Z : State) (a0 : Array Value) (hw : ∀ d ∈ tables_1, d.before a0 Z = true) (ws : List Jvm.Cond) (a : Addr) (cs : Int32) (b_ : Addr) (y0 : Int32) (h0 : Heap) (n0 : Nat) (Z0 : n0 ≤ h0.size) (P0 : Exa Z h0 a cST) (P1 : Fld Z h0 a cST "coder" "B" (.int (0 : Int32))) (P2 : Fld Z h0 a cST "value" "[B" (.ref b_)) (P3 : Ia Z h0 b_ .byte [y0]) (P4 : Old Z n0 h0) (zCS : Sta Z Z.heap cST "COMPACT_STRINGS" "Z" (.int cs)) (hcs : ¬ (cs = (0 : Int32))) :
    MetFree l (⟨cST, "length", "()I"⟩ : MethodName) (head1 (Jvm.Cond.code (⟨cST, "length", "()I"⟩ : MethodName) jdk_42_method_54_code 1 (some .int) :: ws) ({ frames := 1, cells := 0, slots := 0, locals := 13 } : Room)) (fun aQ UQ => aQ = #[(.ref a)] ∧ Z.Warmed39 UQ.vm ∧ UQ.heap = h0) (fun _ _ _ _ _ => True) (fun _ UQ oQ UR => ∃ vQ LQ, oQ = .returned vQ ∧ Q_rmLn1 Z a cs b_ y0 h0 n0 vQ UR.heap LQ ∧ FrameEnd UQ oQ UR LQ ({ frames := 1, cells := 0, slots := 0, locals := 13 } : Room).cells ({ frames := 1, cells := 0, slots := 0, locals := 13 } : Room).slots) := by
  refine MetFree.of_bodySF (plainFor_of_name pn_13) hisR ?_
  intro p e s m args below meth c s₁ Bd hml0 hP hK
  obtain ⟨rfl, hZ, hh⟩ := hP
  have hx := Bd.exec
  have hby := Bd.bytes
  have hlk := Bd.notSynchronized
  have hml : c.maxLocals = 1 := hml0
  have hown : s.vm.findClass cST = some m.cls := findClass_of_methodNamed Bd.named
  have hnm := (name_of_methodNamed Bd.named Bd.method).1
  have X0 : Stand p l e ({ frames := 1, cells := 0, slots := 0, locals := 13 } : Room) s m #[(.ref a)] below meth c s₁ [] 0 0 := Stand.of_body Bd
  have e0 : s₁.heap = h0 := by rw [← hh, Bd.state]; rfl
  have N0 := Fr.nil n0
  show Go p e below _ (Done s (Q_rmLn1 Z a cs b_ y0 h0 n0) ({ frames := 1, cells := 0, slots := 0, locals := 13 } : Room).cells ({ frames := 1, cells := 0, slots := 0, locals := 13 } : Room).slots)
  refine Go.via (fun tQ kQ => castTop (ef_13 m a) kQ) ?_
  show Go p e below (s₁.setTop (mkF m 0 #[.val (.ref a)] [])) _
  refine Go.via (fun _ => XS.aloadN X0.here hx rfl (hb hby d13_0) rfl rfl) ?_
  obtain ⟨T13, X13, e13, st13⟩ := getF X0 hx hZ hown (host := "") (Or.inl (tw hw 32 rfl)) Via.refl e0 P2 (g := (mkF m 1 #[.val (.ref a)] [(.ref a)])) rfl rfl (hb hby d13_1)
  refine Go.via (st13) ?_
  clear st13
  clear X0 e0
  show Go p e below (T13.setTop (mkF m 4 #[.val (.ref a)] [(.ref b_)])) _
  refine Go.via (lenI X13 hx hZ e13 P3 (n := (1 : Int32)) rfl (g := (mkF m 4 #[.val (.ref a)] [(.ref b_)])) rfl rfl (hb hby d13_4)) ?_
  show Go p e below (T13.setTop (mkF m 5 #[.val (.ref a)] [(.int (1 : Int32))])) _
  refine Go.via (fun _ => XS.aloadN X13.here hx rfl (hb hby d13_5) rfl rfl) ?_
  obtain ⟨cq14, kq14, q14a, q14b, q14c⟩ := isOf hZ e13 P0
  obtain ⟨r14, _, ⟨T14, L14, k14, n14⟩, -, X14, ⟨Lc14, hQ14, l14, y14, z14⟩, st14⟩ := X13.virtualBack hx (y := (⟨cST, "coder", "()B"⟩ : MethodName)) (z := (⟨cST, "coder", "()B"⟩ : MethodName)) hown (mvT hZ (tw hw 70 rfl)) (mvT hZ (tw hw 71 rfl)) (notFace_of_selects (args := #[]) (mvT hZ (tw hw 73 rfl))) (mvT hZ (tw hw 73 rfl)) (mvT hZ (tw hw 72 rfl)) (by decide) (backOf (W := 1) (rmCo l Z a0 hw [] a cs h0 n0 Z0 P1 P4 zCS hcs) hZ (tw hw 74 rfl) (tw hw 14 rfl) (by decide) (by decide)) q14a q14c (g := (mkF m 6 #[.val (.ref a)] [(.ref a), (.int (1 : Int32))])) rfl (by rw [hml]; rfl) (Steps.refl _) (argsL := []) (rest := [(.int (1 : Int32))]) (lenOf pd__28_29B rfl) rfl (by show 2 * 0 + _ ≤ _; exact Nat.le_of_eq rfl) (hb hby d13_6) (fun _ _ => ⟨rfl, e13, (by decide : 0 + 0 ≤ _), (by decide : 0 + 0 ≤ _)⟩)
  dsimp only [Pt.U, Pt.locs, Pt.cells, Pt.slots] at X14 l14 y14 z14 st14 hQ14
  rw [l14, y14, z14] at X14
  clear l14 y14 z14
  obtain ⟨hr14, N14q, eh14⟩ := hQ14
  rw [hr14] at st14
  clear hr14
  rw [N14q, List.append_nil] at X14
  refine Go.via (fun _ kQ => st14.trans kQ) ?_
  clear st14
  have e14 : T14.heap = h0 := eh14
  clear X13 e13
  show Go p e below (T14.setTop (mkF m 9 #[.val (.ref a)] [(.int (0 : Int32)), (.int (1 : Int32))])) _
  refine Go.via (fun _ => XS.ishr X14.here hx rfl (hb hby d13_9) rfl) ?_
  show Go p e below (T14.setTop (mkF m 10 #[.val (.ref a)] [(.int (1 : Int32))])) _
  exact Go.fin X14 hlk (v := some (.int (1 : Int32))) (fun h => by rw [Bd.returns] at h; cases h) (fun fs hr => OwnKit.retI X14 hx Bd.returns (hb hby d13_10) hr) (by rw [e14]; exact ⟨rfl, rfl, rfl⟩) (by decide) (by decide)
def Q_rmLn2 (Z : State) (a : Addr) (cs : Int32) (b_ : Addr) (y0 : Int32) (y1 : Int32) (h0 : Heap) (n0 : Nat) (vQ : Option Value) (hQ : Heap) (LQ : List Loc) : Prop := vQ = some (.int (2 : Int32)) ∧ LQ = [] ∧ hQ = h0
set_option maxRecDepth 65536 in
set_option maxHeartbeats 40000000 in
theorem rmLn2 (l : Launch) (Z : State) (a0 : Array Value) (hw : ∀ d ∈ tables_1, d.before a0 Z = true) (ws : List Jvm.Cond) (a : Addr) (cs : Int32) (b_ : Addr) (y0 : Int32) (y1 : Int32) (h0 : Heap) (n0 : Nat) (Z0 : n0 ≤ h0.size) (P0 : Exa Z h0 a cST) (P1 : Fld Z h0 a cST "coder" "B" (.int (0 : Int32))) (P2 : Fld Z h0 a cST "value" "[B" (.ref b_)) (P3 : Ia Z h0 b_ .byte [y0, y1]) (P4 : Old Z n0 h0) (zCS : Sta Z Z.heap cST "COMPACT_STRINGS" "Z" (.int cs)) (hcs : ¬ (cs = (0 : Int32))) :
    MetFree l (⟨cST, "length", "()I"⟩ : MethodName) (head1 (Jvm.Cond.code (⟨cST, "length", "()I"⟩ : MethodName) jdk_42_method_54_code 1 (some .int) :: ws) ({ frames := 1, cells := 0, slots := 0, locals := 13 } : Room)) (fun aQ UQ => aQ = #[(.ref a)] ∧ Z.Warmed39 UQ.vm ∧ UQ.heap = h0) (fun _ _ _ _ _ => True) (fun _ UQ oQ UR => ∃ vQ LQ, oQ = .returned vQ ∧ Q_rmLn2 Z a cs b_ y0 y1 h0 n0 vQ UR.heap LQ ∧ FrameEnd UQ oQ UR LQ ({ frames := 1, cells := 0, slots := 0, locals := 13 } : Room).cells ({ frames := 1, cells := 0, slots := 0, locals := 13 } : Room).slots) := by
  refine MetFree.of_bodySF (plainFor_of_name pn_13) hisR ?_
  intro p e s m args below meth c s₁ Bd hml0 hP hK
  obtain ⟨rfl, hZ, hh⟩ := hP
  have hx := Bd.exec
  have hby := Bd.bytes
  have hlk := Bd.notSynchronized
  have hml : c.maxLocals = 1 := hml0
  have hown : s.vm.findClass cST = some m.cls := findClass_of_methodNamed Bd.named
  have hnm := (name_of_methodNamed Bd.named Bd.method).1
  have X0 : Stand p l e ({ frames := 1, cells := 0, slots := 0, locals := 13 } : Room) s m #[(.ref a)] below meth c s₁ [] 0 0 := Stand.of_body Bd
  have e0 : s₁.heap = h0 := by rw [← hh, Bd.state]; rfl
  have N0 := Fr.nil n0
  show Go p e below _ (Done s (Q_rmLn2 Z a cs b_ y0 y1 h0 n0) ({ frames := 1, cells := 0, slots := 0, locals := 13 } : Room).cells ({ frames := 1, cells := 0, slots := 0, locals := 13 } : Room).slots)
  refine Go.via (fun tQ kQ => castTop (ef_13 m a) kQ) ?_
  show Go p e below (s₁.setTop (mkF m 0 #[.val (.ref a)] [])) _
  refine Go.via (fun _ => XS.aloadN X0.here hx rfl (hb hby d13_0) rfl rfl) ?_
  obtain ⟨T15, X15, e15, st15⟩ := getF X0 hx hZ hown (host := "") (Or.inl (tw hw 32 rfl)) Via.refl e0 P2 (g := (mkF m 1 #[.val (.ref a)] [(.ref a)])) rfl rfl (hb hby d13_1)
  refine Go.via (st15) ?_
  clear st15
  clear X0 e0
  show Go p e below (T15.setTop (mkF m 4 #[.val (.ref a)] [(.ref b_)])) _
  refine Go.via (lenI X15 hx hZ e15 P3 (n := (2 : Int32)) rfl (g := (mkF m 4 #[.val (.ref a)] [(.ref b_)])) rfl rfl (hb hby d13_4)) ?_
  show Go p e below (T15.setTop (mkF m 5 #[.val (.ref a)] [(.int (2 : Int32))])) _
  refine Go.via (fun _ => XS.aloadN X15.here hx rfl (hb hby d13_5) rfl rfl) ?_
  obtain ⟨cq16, kq16, q16a, q16b, q16c⟩ := isOf hZ e15 P0
  obtain ⟨r16, _, ⟨T16, L16, k16, n16⟩, -, X16, ⟨Lc16, hQ16, l16, y16, z16⟩, st16⟩ := X15.virtualBack hx (y := (⟨cST, "coder", "()B"⟩ : MethodName)) (z := (⟨cST, "coder", "()B"⟩ : MethodName)) hown (mvT hZ (tw hw 70 rfl)) (mvT hZ (tw hw 71 rfl)) (notFace_of_selects (args := #[]) (mvT hZ (tw hw 73 rfl))) (mvT hZ (tw hw 73 rfl)) (mvT hZ (tw hw 72 rfl)) (by decide) (backOf (W := 1) (rmCo l Z a0 hw [] a cs h0 n0 Z0 P1 P4 zCS hcs) hZ (tw hw 74 rfl) (tw hw 14 rfl) (by decide) (by decide)) q16a q16c (g := (mkF m 6 #[.val (.ref a)] [(.ref a), (.int (2 : Int32))])) rfl (by rw [hml]; rfl) (Steps.refl _) (argsL := []) (rest := [(.int (2 : Int32))]) (lenOf pd__28_29B rfl) rfl (by show 2 * 0 + _ ≤ _; exact Nat.le_of_eq rfl) (hb hby d13_6) (fun _ _ => ⟨rfl, e15, (by decide : 0 + 0 ≤ _), (by decide : 0 + 0 ≤ _)⟩)
  dsimp only [Pt.U, Pt.locs, Pt.cells, Pt.slots] at X16 l16 y16 z16 st16 hQ16
  rw [l16, y16, z16] at X16
  clear l16 y16 z16
  obtain ⟨hr16, N16q, eh16⟩ := hQ16
  rw [hr16] at st16
  clear hr16
  rw [N16q, List.append_nil] at X16
  refine Go.via (fun _ kQ => st16.trans kQ) ?_
  clear st16
  have e16 : T16.heap = h0 := eh16
  clear X15 e15
  show Go p e below (T16.setTop (mkF m 9 #[.val (.ref a)] [(.int (0 : Int32)), (.int (2 : Int32))])) _
  refine Go.via (fun _ => XS.ishr X16.here hx rfl (hb hby d13_9) rfl) ?_
  show Go p e below (T16.setTop (mkF m 10 #[.val (.ref a)] [(.int (2 : Int32))])) _
  exact Go.fin X16 hlk (v := some (.int (2 : Int32))) (fun h => by rw [Bd.returns] at h; cases h) (fun fs hr => OwnKit.retI X16 hx Bd.returns (hb hby d13_10) hr) (by rw [e16]; exact ⟨rfl, rfl, rfl⟩) (by decide) (by decide)
theorem d19_0 : decode jdk_41_method_11_code 0 = .ok (.iload_n 0, 1) := by decide +kernel
theorem d19_1 : decode jdk_41_method_11_code 1 = .ok (.ifCond .lt 8, 3) := by decide +kernel
theorem d19_4 : decode jdk_41_method_11_code 4 = .ok (.iload_n 0, 1) := by decide +kernel
theorem d19_5 : decode jdk_41_method_11_code 5 = .ok (.iload_n 1, 1) := by decide +kernel
theorem d19_6 : decode jdk_41_method_11_code 6 = .ok (.if_icmp .lt 10, 3) := by decide +kernel
theorem d19_16 : decode jdk_41_method_11_code 16 = .ok (.iload_n 0, 1) := by decide +kernel
theorem d19_17 : decode jdk_41_method_11_code 17 = .ok (.ireturn, 1) := by decide +kernel
theorem pn_19 : plainName cPR = true := by first | (simp [plainName, overriddenIn]; done) | decide +kernel
theorem ef_19n2 (m : MethodId) (x0 : Int32) (x1 : Int32) : entryFrame m #[(.int x0), (.int x1), .null] 3 = mkF m 0 #[.val (.int x0), .val (.int x1), .val .null] [] := by first | (simp [entryFrame, mkF, argsToLocals, Value.category]; done) | rfl
def Q_rmPcN (Z : State) (i : Int32) (n : Int32)  (h0 : Heap) (n0 : Nat) (vQ : Option Value) (hQ : Heap) (LQ : List Loc) : Prop := vQ = some (.int i) ∧ LQ = [] ∧ hQ = h0
set_option maxRecDepth 65536 in
set_option maxHeartbeats 40000000 in
theorem rmPcN (l : Launch) (Z : State) (a0 : Array Value) (hw : ∀ d ∈ tables_1, d.before a0 Z = true) (ws : List Jvm.Cond) (i : Int32) (n : Int32)  (h0 : Heap) (n0 : Nat) (Z0 : n0 ≤ h0.size) (hi0 : ¬ i < (0 : Int32)) (hlt : i < n) :
    MetFree l (⟨cPR, "checkIndex", "(IILjava/util/function/BiFunction;)I"⟩ : MethodName) (head1 (Jvm.Cond.code (⟨cPR, "checkIndex", "(IILjava/util/function/BiFunction;)I"⟩ : MethodName) jdk_41_method_11_code 3 (some .int) :: ws) ({ frames := 0, cells := 0, slots := 0, locals := 0 } : Room)) (fun aQ UQ => aQ = #[(.int i), (.int n), .null] ∧ Z.Warmed39 UQ.vm ∧ UQ.heap = h0) (fun _ _ _ _ _ => True) (fun _ UQ oQ UR => ∃ vQ LQ, oQ = .returned vQ ∧ Q_rmPcN Z i n  h0 n0 vQ UR.heap LQ ∧ FrameEnd UQ oQ UR LQ ({ frames := 0, cells := 0, slots := 0, locals := 0 } : Room).cells ({ frames := 0, cells := 0, slots := 0, locals := 0 } : Room).slots) := by
  refine MetFree.of_bodySF (plainFor_of_name pn_19) hisR ?_
  intro p e s m args below meth c s₁ Bd hml0 hP hK
  obtain ⟨rfl, hZ, hh⟩ := hP
  have hx := Bd.exec
  have hby := Bd.bytes
  have hlk := Bd.notSynchronized
  have hml : c.maxLocals = 3 := hml0
  have hown : s.vm.findClass cPR = some m.cls := findClass_of_methodNamed Bd.named
  have hnm := (name_of_methodNamed Bd.named Bd.method).1
  have X0 : Stand p l e ({ frames := 0, cells := 0, slots := 0, locals := 0 } : Room) s m #[(.int i), (.int n), .null] below meth c s₁ [] 0 0 := Stand.of_body Bd
  have e0 : s₁.heap = h0 := by rw [← hh, Bd.state]; rfl
  have N0 := Fr.nil n0
  show Go p e below _ (Done s (Q_rmPcN Z i n  h0 n0) ({ frames := 0, cells := 0, slots := 0, locals := 0 } : Room).cells ({ frames := 0, cells := 0, slots := 0, locals := 0 } : Room).slots)
  refine Go.via (fun tQ kQ => castTop (ef_19n2 m i n) kQ) ?_
  show Go p e below (s₁.setTop (mkF m 0 #[.val (.int i), .val (.int n), .val .null] [])) _
  refine Go.via (fun _ => XS.iloadN X0.here hx rfl (hb hby d19_0) rfl) ?_
  refine Go.via (fun _ => XS.ifNo X0.here hx rfl (hb hby d19_1) rfl ((if0 _ _).trans (flt (hi0 : ¬ (i < (0 : Int32)))).1)) ?_
  show Go p e below (s₁.setTop (mkF m 4 #[.val (.int i), .val (.int n), .val .null] [])) _
  refine Go.via (fun _ => XS.iloadN X0.here hx rfl (hb hby d19_4) rfl) ?_
  refine Go.via (fun _ => XS.iloadN X0.here hx rfl (hb hby d19_5) rfl) ?_
  refine Go.via (fun _ => XS.icmpYes X0.here hx rfl (pc0 := 6) (pc' := 16) rfl (hb hby d19_6) rfl (tlt (hlt : i < n)).1 (by decide) (by decide)) ?_
  show Go p e below (s₁.setTop (mkF m 16 #[.val (.int i), .val (.int n), .val .null] [])) _
  refine Go.via (fun _ => XS.iloadN X0.here hx rfl (hb hby d19_16) rfl) ?_
  exact Go.fin X0 hlk (v := some (.int i)) (fun h => by rw [Bd.returns] at h; cases h) (fun fs hr => OwnKit.retI X0 hx Bd.returns (hb hby d19_17) hr) (by rw [e0]; exact ⟨rfl, rfl, rfl⟩) (by decide) (by decide)
theorem ef_19 (m : MethodId) (x0 : Int32) (x1 : Int32) (x2 : Addr) : entryFrame m #[(.int x0), (.int x1), (.ref x2)] 3 = mkF m 0 #[.val (.int x0), .val (.int x1), .val (.ref x2)] [] := by first | (simp [entryFrame, mkF, argsToLocals, Value.category]; done) | rfl
def Q_rmPcR (Z : State) (i : Int32) (n : Int32) (fa : Addr)  (h0 : Heap) (n0 : Nat) (vQ : Option Value) (hQ : Heap) (LQ : List Loc) : Prop := vQ = some (.int i) ∧ LQ = [] ∧ hQ = h0
set_option maxRecDepth 65536 in
set_option maxHeartbeats 40000000 in
theorem rmPcR (l : Launch) (Z : State) (a0 : Array Value) (hw : ∀ d ∈ tables_1, d.before a0 Z = true) (ws : List Jvm.Cond) (i : Int32) (n : Int32) (fa : Addr)  (h0 : Heap) (n0 : Nat) (Z0 : n0 ≤ h0.size) (hi0 : ¬ i < (0 : Int32)) (hlt : i < n) :
    MetFree l (⟨cPR, "checkIndex", "(IILjava/util/function/BiFunction;)I"⟩ : MethodName) (head1 (Jvm.Cond.code (⟨cPR, "checkIndex", "(IILjava/util/function/BiFunction;)I"⟩ : MethodName) jdk_41_method_11_code 3 (some .int) :: ws) ({ frames := 0, cells := 0, slots := 0, locals := 0 } : Room)) (fun aQ UQ => aQ = #[(.int i), (.int n), (.ref fa)] ∧ Z.Warmed39 UQ.vm ∧ UQ.heap = h0) (fun _ _ _ _ _ => True) (fun _ UQ oQ UR => ∃ vQ LQ, oQ = .returned vQ ∧ Q_rmPcR Z i n fa  h0 n0 vQ UR.heap LQ ∧ FrameEnd UQ oQ UR LQ ({ frames := 0, cells := 0, slots := 0, locals := 0 } : Room).cells ({ frames := 0, cells := 0, slots := 0, locals := 0 } : Room).slots) := by
  refine MetFree.of_bodySF (plainFor_of_name pn_19) hisR ?_
  intro p e s m args below meth c s₁ Bd hml0 hP hK
  obtain ⟨rfl, hZ, hh⟩ := hP
  have hx := Bd.exec
  have hby := Bd.bytes
  have hlk := Bd.notSynchronized
  have hml : c.maxLocals = 3 := hml0
  have hown : s.vm.findClass cPR = some m.cls := findClass_of_methodNamed Bd.named
  have hnm := (name_of_methodNamed Bd.named Bd.method).1
  have X0 : Stand p l e ({ frames := 0, cells := 0, slots := 0, locals := 0 } : Room) s m #[(.int i), (.int n), (.ref fa)] below meth c s₁ [] 0 0 := Stand.of_body Bd
  have e0 : s₁.heap = h0 := by rw [← hh, Bd.state]; rfl
  have N0 := Fr.nil n0
  show Go p e below _ (Done s (Q_rmPcR Z i n fa  h0 n0) ({ frames := 0, cells := 0, slots := 0, locals := 0 } : Room).cells ({ frames := 0, cells := 0, slots := 0, locals := 0 } : Room).slots)
  refine Go.via (fun tQ kQ => castTop (ef_19 m i n fa) kQ) ?_
  show Go p e below (s₁.setTop (mkF m 0 #[.val (.int i), .val (.int n), .val (.ref fa)] [])) _
  refine Go.via (fun _ => XS.iloadN X0.here hx rfl (hb hby d19_0) rfl) ?_
  refine Go.via (fun _ => XS.ifNo X0.here hx rfl (hb hby d19_1) rfl ((if0 _ _).trans (flt (hi0 : ¬ (i < (0 : Int32)))).1)) ?_
  show Go p e below (s₁.setTop (mkF m 4 #[.val (.int i), .val (.int n), .val (.ref fa)] [])) _
  refine Go.via (fun _ => XS.iloadN X0.here hx rfl (hb hby d19_4) rfl) ?_
  refine Go.via (fun _ => XS.iloadN X0.here hx rfl (hb hby d19_5) rfl) ?_
  refine Go.via (fun _ => XS.icmpYes X0.here hx rfl (pc0 := 6) (pc' := 16) rfl (hb hby d19_6) rfl (tlt (hlt : i < n)).1 (by decide) (by decide)) ?_
  show Go p e below (s₁.setTop (mkF m 16 #[.val (.int i), .val (.int n), .val (.ref fa)] [])) _
  refine Go.via (fun _ => XS.iloadN X0.here hx rfl (hb hby d19_16) rfl) ?_
  exact Go.fin X0 hlk (v := some (.int i)) (fun h => by rw [Bd.returns] at h; cases h) (fun fs hr => OwnKit.retI X0 hx Bd.returns (hb hby d19_17) hr) (by rw [e0]; exact ⟨rfl, rfl, rfl⟩) (by decide) (by decide)
theorem d18_0 : decode jdk_42_method_155_code 0 = .ok (.iload_n 0, 1) := by decide +kernel
theorem d18_1 : decode jdk_42_method_155_code 1 = .ok (.iload_n 1, 1) := by decide +kernel
theorem d18_2 : decode jdk_42_method_155_code 2 = .ok (.getstatic 1053, 3) := by decide +kernel
theorem d18_5 : decode jdk_42_method_155_code 5 = .ok (.invokestatic 1059, 3) := by decide +kernel
theorem pd__28IILjava_2futil_2ffunction_2fBiFunction_3b_29I : parseMethodDescriptor "(IILjava/util/function/BiFunction;)I" = some ⟨[.int, .int, (.object "java/util/function/BiFunction")], some .int⟩ := by decide +kernel
theorem d18_8 : decode jdk_42_method_155_code 8 = .ok (.pop, 1) := by decide +kernel
theorem d18_9 : decode jdk_42_method_155_code 9 = .ok (.return_, 1) := by decide +kernel
theorem pn_18 : plainName cST = true := by first | (simp [plainName, overriddenIn]; done) | decide +kernel
theorem ef_18 (m : MethodId) (x0 : Int32) (x1 : Int32) : entryFrame m #[(.int x0), (.int x1)] 2 = mkF m 0 #[.val (.int x0), .val (.int x1)] [] := by first | (simp [entryFrame, mkF, argsToLocals, Value.category]; done) | rfl
def Q_rmCx (Z : State) (i : Int32) (n : Int32) (fv : Value) (h0 : Heap) (n0 : Nat) (vQ : Option Value) (hQ : Heap) (LQ : List Loc) : Prop := vQ = none ∧ LQ = [] ∧ hQ = h0
set_option maxRecDepth 65536 in
set_option maxHeartbeats 40000000 in
theorem rmCx (l : Launch) (Z : State) (a0 : Array Value) (hw : ∀ d ∈ tables_1, d.before a0 Z = true) (ws : List Jvm.Cond) (i : Int32) (n : Int32) (fv : Value) (h0 : Heap) (n0 : Nat) (Z0 : n0 ≤ h0.size) (P0 : Old Z n0 h0) (zF : Sta Z Z.heap cPR "SIOOBE_FORMATTER" "Ljava/util/function/BiFunction;" fv) (hi0 : ¬ i < (0 : Int32)) (hlt : i < n) (hfv : fv = .null ∨ ∃ fa : Addr, fv = .ref fa) :
    MetFree l (⟨cST, "checkIndex", "(II)V"⟩ : MethodName) (head1 (Jvm.Cond.code (⟨cST, "checkIndex", "(II)V"⟩ : MethodName) jdk_42_method_155_code 2 none :: ws) ({ frames := 1, cells := 0, slots := 0, locals := 14 } : Room)) (fun aQ UQ => aQ = #[(.int i), (.int n)] ∧ Z.Warmed39 UQ.vm ∧ UQ.heap = h0) (fun _ _ _ _ _ => True) (fun _ UQ oQ UR => ∃ vQ LQ, oQ = .returned vQ ∧ Q_rmCx Z i n fv h0 n0 vQ UR.heap LQ ∧ FrameEnd UQ oQ UR LQ ({ frames := 1, cells := 0, slots := 0, locals := 14 } : Room).cells ({ frames := 1, cells := 0, slots := 0, locals := 14 } : Room).slots) := by
  refine MetFree.of_bodySF (plainFor_of_name pn_18) hisR ?_
  intro p e s m args below meth c s₁ Bd hml0 hP hK
  obtain ⟨rfl, hZ, hh⟩ := hP
  have hx := Bd.exec
  have hby := Bd.bytes
  have hlk := Bd.notSynchronized
  have hml : c.maxLocals = 2 := hml0
  have hown : s.vm.findClass cST = some m.cls := findClass_of_methodNamed Bd.named
  have hnm := (name_of_methodNamed Bd.named Bd.method).1
  have X0 : Stand p l e ({ frames := 1, cells := 0, slots := 0, locals := 14 } : Room) s m #[(.int i), (.int n)] below meth c s₁ [] 0 0 := Stand.of_body Bd
  have e0 : s₁.heap = h0 := by rw [← hh, Bd.state]; rfl
  have N0 := Fr.nil n0
  show Go p e below _ (Done s (Q_rmCx Z i n fv h0 n0) ({ frames := 1, cells := 0, slots := 0, locals := 14 } : Room).cells ({ frames := 1, cells := 0, slots := 0, locals := 14 } : Room).slots)
  refine Go.via (fun tQ kQ => castTop (ef_18 m i n) kQ) ?_
  show Go p e below (s₁.setTop (mkF m 0 #[.val (.int i), .val (.int n)] [])) _
  rcases hfv with rfl | ⟨fa, rfl⟩
  · show Go p e below (s₁.setTop (mkF m 0 #[.val (.int i), .val (.int n)] [])) _
    refine Go.via (fun _ => XS.iloadN X0.here hx rfl (hb hby d18_0) rfl) ?_
    refine Go.via (fun _ => XS.iloadN X0.here hx rfl (hb hby d18_1) rfl) ?_
    have f17 : Sta Z h0 cPR "SIOOBE_FORMATTER" "Ljava/util/function/BiFunction;" .null := zF.ext P0.2
    obtain ⟨T18, X18, e18, st18⟩ := getS2 X0 hx hZ hown (host := "") (Or.inl (tw hw 93 rfl)) Via.refl e0 f17 (g := (mkF m 2 #[.val (.int i), .val (.int n)] [(.int n), (.int i)])) rfl (hb hby d18_2)
    refine Go.via (st18) ?_
    clear st18
    clear X0 e0
    show Go p e below (T18.setTop (mkF m 5 #[.val (.int i), .val (.int n)] [.null, (.int n), (.int i)])) _
    obtain ⟨r19, _, ⟨T19, L19, k19, n19⟩, -, X19, ⟨Lc19, hQ19, l19, y19, z19⟩, st19⟩ := Jvm.LawKit.callS X18 hx (y := (⟨cPR, "checkIndex", "(IILjava/util/function/BiFunction;)I"⟩ : MethodName)) hown (mvT hZ (tw hw 95 rfl)) (mvT hZ (tw hw 96 rfl)) (mvT hZ (tw hw 94 rfl)) (mvT hZ (tw hw 97 rfl)) (by decide) (backOf (W := 0) (rmPcN l Z a0 hw [] i n  h0 n0 Z0 hi0 hlt) hZ (tw hw 97 rfl) (tw hw 94 rfl) (by decide) (by decide)) (g := (mkF m 5 #[.val (.int i), .val (.int n)] [.null, (.int n), (.int i)])) rfl (by rw [hml]; rfl) (argsL := [(.int i), (.int n), .null]) (rest := []) (lenOf pd__28IILjava_2futil_2ffunction_2fBiFunction_3b_29I rfl) rfl (by show 2 * 0 + _ ≤ _; exact Nat.le_of_eq rfl) (hb hby d18_5) (fun _ _ => ⟨rfl, e18, (by decide : 0 + 0 ≤ _), (by decide : 0 + 0 ≤ _)⟩)
    dsimp only [Pt.U, Pt.locs, Pt.cells, Pt.slots] at X19 l19 y19 z19 st19 hQ19
    rw [l19, y19, z19] at X19
    clear l19 y19 z19
    obtain ⟨hr19, N19q, eh19⟩ := hQ19
    rw [hr19] at st19
    clear hr19
    rw [N19q, List.append_nil] at X19
    refine Go.via (st19) ?_
    clear st19
    have e19 : T19.heap = h0 := eh19
    clear X18 e18
    show Go p e below (T19.setTop (mkF m 8 #[.val (.int i), .val (.int n)] [(.int i)])) _
    refine Go.via (fun _ => XS.pop X19.here hx rfl (hb hby d18_8) rfl rfl) ?_
    show Go p e below (T19.setTop (mkF m 9 #[.val (.int i), .val (.int n)] [])) _
    exact Go.fin X19 hlk (v := none) (fun _ => rfl) (fun fs hr => X19.returnOut hx Bd.returns (hb hby d18_9) hr) (by rw [e19]; exact ⟨rfl, rfl, rfl⟩) (by decide) (by decide)
  · show Go p e below (s₁.setTop (mkF m 0 #[.val (.int i), .val (.int n)] [])) _
    refine Go.via (fun _ => XS.iloadN X0.here hx rfl (hb hby d18_0) rfl) ?_
    refine Go.via (fun _ => XS.iloadN X0.here hx rfl (hb hby d18_1) rfl) ?_
    have f20 : Sta Z h0 cPR "SIOOBE_FORMATTER" "Ljava/util/function/BiFunction;" (.ref fa) := zF.ext P0.2
    obtain ⟨T21, X21, e21, st21⟩ := getS2 X0 hx hZ hown (host := "") (Or.inl (tw hw 93 rfl)) Via.refl e0 f20 (g := (mkF m 2 #[.val (.int i), .val (.int n)] [(.int n), (.int i)])) rfl (hb hby d18_2)
    refine Go.via (st21) ?_
    clear st21
    clear X0 e0
    show Go p e below (T21.setTop (mkF m 5 #[.val (.int i), .val (.int n)] [(.ref fa), (.int n), (.int i)])) _
    obtain ⟨r22, _, ⟨T22, L22, k22, n22⟩, -, X22, ⟨Lc22, hQ22, l22, y22, z22⟩, st22⟩ := Jvm.LawKit.callS X21 hx (y := (⟨cPR, "checkIndex", "(IILjava/util/function/BiFunction;)I"⟩ : MethodName)) hown (mvT hZ (tw hw 95 rfl)) (mvT hZ (tw hw 96 rfl)) (mvT hZ (tw hw 94 rfl)) (mvT hZ (tw hw 97 rfl)) (by decide) (backOf (W := 0) (rmPcR l Z a0 hw [] i n fa  h0 n0 Z0 hi0 hlt) hZ (tw hw 97 rfl) (tw hw 94 rfl) (by decide) (by decide)) (g := (mkF m 5 #[.val (.int i), .val (.int n)] [(.ref fa), (.int n), (.int i)])) rfl (by rw [hml]; rfl) (argsL := [(.int i), (.int n), (.ref fa)]) (rest := []) (lenOf pd__28IILjava_2futil_2ffunction_2fBiFunction_3b_29I rfl) rfl (by show 2 * 0 + _ ≤ _; exact Nat.le_of_eq rfl) (hb hby d18_5) (fun _ _ => ⟨rfl, e21, (by decide : 0 + 0 ≤ _), (by decide : 0 + 0 ≤ _)⟩)
    dsimp only [Pt.U, Pt.locs, Pt.cells, Pt.slots] at X22 l22 y22 z22 st22 hQ22
    rw [l22, y22, z22] at X22
    clear l22 y22 z22
    obtain ⟨hr22, N22q, eh22⟩ := hQ22
    rw [hr22] at st22
    clear hr22
    rw [N22q, List.append_nil] at X22
    refine Go.via (st22) ?_
    clear st22
    have e22 : T22.heap = h0 := eh22
    clear X21 e21
    show Go p e below (T22.setTop (mkF m 8 #[.val (.int i), .val (.int n)] [(.int i)])) _
    refine Go.via (fun _ => XS.pop X22.here hx rfl (hb hby d18_8) rfl rfl) ?_
    show Go p e below (T22.setTop (mkF m 9 #[.val (.int i), .val (.int n)] [])) _
    exact Go.fin X22 hlk (v := none) (fun _ => rfl) (fun fs hr => X22.returnOut hx Bd.returns (hb hby d18_9) hr) (by rw [e22]; exact ⟨rfl, rfl, rfl⟩) (by decide) (by decide)
theorem d17_0 : decode jdk_43_method_2_code 0 = .ok (.iload_n 1, 1) := by decide +kernel
theorem d17_1 : decode jdk_43_method_2_code 1 = .ok (.aload_n 0, 1) := by decide +kernel
theorem d17_2 : decode jdk_43_method_2_code 2 = .ok (.arraylength, 1) := by decide +kernel
theorem d17_3 : decode jdk_43_method_2_code 3 = .ok (.invokestatic 9, 3) := by decide +kernel
theorem pd__28II_29V : parseMethodDescriptor "(II)V" = some ⟨[.int, .int], none⟩ := by decide +kernel
theorem d17_6 : decode jdk_43_method_2_code 6 = .ok (.aload_n 0, 1) := by decide +kernel
theorem d17_7 : decode jdk_43_method_2_code 7 = .ok (.iload_n 1, 1) := by decide +kernel
theorem d17_8 : decode jdk_43_method_2_code 8 = .ok (.baload, 1) := by decide +kernel
theorem d17_9 : decode jdk_43_method_2_code 9 = .ok (.sipush 255, 3) := by decide +kernel
theorem d17_12 : decode jdk_43_method_2_code 12 = .ok (.iand, 1) := by decide +kernel
theorem d17_13 : decode jdk_43_method_2_code 13 = .ok (.i2c, 1) := by decide +kernel
theorem d17_14 : decode jdk_43_method_2_code 14 = .ok (.ireturn, 1) := by decide +kernel
theorem pn_17 : plainName cL1 = true := by first | (simp [plainName, overriddenIn]; done) | decide +kernel
theorem ef_17 (m : MethodId) (x0 : Addr) (x1 : Int32) : entryFrame m #[(.ref x0), (.int x1)] 2 = mkF m 0 #[.val (.ref x0), .val (.int x1)] [] := by first | (simp [entryFrame, mkF, argsToLocals, Value.category]; done) | rfl
def Q_rmLc (Z : State) (b_ : Addr) (i : Int32) (xs : List Int32) (v : Int32) (n : Int32) (fv : Value) (h0 : Heap) (n0 : Nat) (vQ : Option Value) (hQ : Heap) (LQ : List Loc) : Prop := vQ = some (.int v) ∧ LQ = [] ∧ hQ = h0
set_option maxRecDepth 65536 in
set_option maxHeartbeats 40000000 in
theorem rmLc (l : Launch) (Z : State) (a0 : Array Value) (hw : ∀ d ∈ tables_1, d.before a0 Z = true) (ws : List Jvm.Cond) (b_ : Addr) (i : Int32) (xs : List Int32) (v : Int32) (n : Int32) (fv : Value) (h0 : Heap) (n0 : Nat) (Z0 : n0 ≤ h0.size) (P0 : Ia Z h0 b_ .byte xs) (P1 : Old Z n0 h0) (zF : Sta Z Z.heap cPR "SIOOBE_FORMATTER" "Ljava/util/function/BiFunction;" fv) (hi0 : ¬ i < (0 : Int32)) (hlt : i < n) (hn : xs.length.toInt32 = n) (hv : xs[i.toNatClampNeg]? = some v) (hc : ((v &&& (255 : Int32)).toUInt32.toUInt16.toUInt32.toInt32) = v) (hfv : fv = .null ∨ ∃ fa : Addr, fv = .ref fa) :
    MetFree l (⟨cL1, "charAt", "([BI)C"⟩ : MethodName) (head1 (Jvm.Cond.code (⟨cL1, "charAt", "([BI)C"⟩ : MethodName) jdk_43_method_2_code 2 (some .char) :: ws) ({ frames := 2, cells := 0, slots := 0, locals := 27 } : Room)) (fun aQ UQ => aQ = #[(.ref b_), (.int i)] ∧ Z.Warmed39 UQ.vm ∧ UQ.heap = h0) (fun _ _ _ _ _ => True) (fun _ UQ oQ UR => ∃ vQ LQ, oQ = .returned vQ ∧ Q_rmLc Z b_ i xs v n fv h0 n0 vQ UR.heap LQ ∧ FrameEnd UQ oQ UR LQ ({ frames := 2, cells := 0, slots := 0, locals := 27 } : Room).cells ({ frames := 2, cells := 0, slots := 0, locals := 27 } : Room).slots) := by
  refine MetFree.of_bodySF (plainFor_of_name pn_17) hisR ?_
  intro p e s m args below meth c s₁ Bd hml0 hP hK
  obtain ⟨rfl, hZ, hh⟩ := hP
  have hx := Bd.exec
  have hby := Bd.bytes
  have hlk := Bd.notSynchronized
  have hml : c.maxLocals = 2 := hml0
  have hown : s.vm.findClass cL1 = some m.cls := findClass_of_methodNamed Bd.named
  have hnm := (name_of_methodNamed Bd.named Bd.method).1
  have X0 : Stand p l e ({ frames := 2, cells := 0, slots := 0, locals := 27 } : Room) s m #[(.ref b_), (.int i)] below meth c s₁ [] 0 0 := Stand.of_body Bd
  have e0 : s₁.heap = h0 := by rw [← hh, Bd.state]; rfl
  have N0 := Fr.nil n0
  show Go p e below _ (Done s (Q_rmLc Z b_ i xs v n fv h0 n0) ({ frames := 2, cells := 0, slots := 0, locals := 27 } : Room).cells ({ frames := 2, cells := 0, slots := 0, locals := 27 } : Room).slots)
  refine Go.via (fun tQ kQ => castTop (ef_17 m b_ i) kQ) ?_
  show Go p e below (s₁.setTop (mkF m 0 #[.val (.ref b_), .val (.int i)] [])) _
  refine Go.via (fun _ => XS.iloadN X0.here hx rfl (hb hby d17_0) rfl) ?_
  refine Go.via (fun _ => XS.aloadN X0.here hx rfl (hb hby d17_1) rfl rfl) ?_
  refine Go.via (lenI X0 hx hZ e0 P0 (n := n) hn (g := (mkF m 2 #[.val (.ref b_), .val (.int i)] [(.ref b_), (.int i)])) rfl rfl (hb hby d17_2)) ?_
  show Go p e below (s₁.setTop (mkF m 3 #[.val (.ref b_), .val (.int i)] [(.int n), (.int i)])) _
  obtain ⟨r23, _, ⟨T23, L23, k23, n23⟩, -, X23, ⟨Lc23, hQ23, l23, y23, z23⟩, st23⟩ := Jvm.LawKit.callS X0 hx (y := (⟨cST, "checkIndex", "(II)V"⟩ : MethodName)) hown (mvT hZ (tw hw 90 rfl)) (mvT hZ (tw hw 91 rfl)) (mvT hZ (tw hw 14 rfl)) (mvT hZ (tw hw 92 rfl)) (by decide) (backOf (W := 0) (rmCx l Z a0 hw [] i n fv h0 n0 Z0 P1 zF hi0 hlt hfv) hZ (tw hw 92 rfl) (tw hw 14 rfl) (by decide) (by decide)) (g := (mkF m 3 #[.val (.ref b_), .val (.int i)] [(.int n), (.int i)])) rfl (by rw [hml]; rfl) (argsL := [(.int i), (.int n)]) (rest := []) (lenOf pd__28II_29V rfl) rfl (by show 2 * 0 + _ ≤ _; exact Nat.le_of_eq rfl) (hb hby d17_3) (fun _ _ => ⟨rfl, e0, (by decide : 0 + 0 ≤ _), (by decide : 0 + 0 ≤ _)⟩)
  dsimp only [Pt.U, Pt.locs, Pt.cells, Pt.slots] at X23 l23 y23 z23 st23 hQ23
  rw [l23, y23, z23] at X23
  clear l23 y23 z23
  obtain ⟨hr23, N23q, eh23⟩ := hQ23
  rw [hr23] at st23
  clear hr23
  rw [N23q, List.append_nil] at X23
  refine Go.via (st23) ?_
  clear st23
  have e23 : T23.heap = h0 := eh23
  clear X0 e0
  show Go p e below (T23.setTop (mkF m 6 #[.val (.ref b_), .val (.int i)] [])) _
  refine Go.via (fun _ => XS.aloadN X23.here hx rfl (hb hby d17_6) rfl rfl) ?_
  refine Go.via (fun _ => XS.iloadN X23.here hx rfl (hb hby d17_7) rfl) ?_
  refine Go.via (ldB X23 hx hZ e23 P0 (v := v) hi0 hv (g := (mkF m 8 #[.val (.ref b_), .val (.int i)] [(.int i), (.ref b_)])) rfl rfl (hb hby d17_8)) ?_
  show Go p e below (T23.setTop (mkF m 9 #[.val (.ref b_), .val (.int i)] [(.int v)])) _
  refine Go.via (fun _ => XS.sipush X23.here hx rfl (hb hby d17_9)) ?_
  refine Go.via (fun _ => XS.iand X23.here hx rfl (hb hby d17_12) rfl) ?_
  show Go p e below (T23.setTop (mkF m 13 #[.val (.ref b_), .val (.int i)] [(.int (v &&& (255 : Int32)))])) _
  refine Go.via (fun _ => XS.i2c X23.here hx rfl (hb hby d17_13) rfl) ?_
  show Go p e below (T23.setTop (mkF m 14 #[.val (.ref b_), .val (.int i)] [(.int ((v &&& (255 : Int32)).toUInt32.toUInt16.toUInt32.toInt32))])) _
  exact Go.fin X23 hlk (v := some (.int (nar .char ((v &&& (255 : Int32)).toUInt32.toUInt16.toUInt32.toInt32)))) (fun h => by rw [Bd.returns] at h; cases h) (fun fs hr => retN X23 hx (t := .char) Bd.returns (by simp) (hb hby d17_14) hr) (by rw [e23]; exact ⟨(congrArg (fun qq => some (Value.int qq)) ((nar_c _).trans hc)), rfl, rfl⟩) (by decide) (by decide)
theorem d15_0 : decode jdk_42_method_56_code 0 = .ok (.aload_n 0, 1) := by decide +kernel
theorem d15_1 : decode jdk_42_method_56_code 1 = .ok (.invokevirtual 492, 3) := by decide +kernel
theorem pd__28_29Z : parseMethodDescriptor "()Z" = some ⟨[], some .boolean⟩ := by decide +kernel
theorem d15_4 : decode jdk_42_method_56_code 4 = .ok (.ifCond .eq 12, 3) := by decide +kernel
theorem d15_7 : decode jdk_42_method_56_code 7 = .ok (.aload_n 0, 1) := by decide +kernel
theorem d15_8 : decode jdk_42_method_56_code 8 = .ok (.getfield 9, 3) := by decide +kernel
theorem d15_11 : decode jdk_42_method_56_code 11 = .ok (.iload_n 1, 1) := by decide +kernel
theorem d15_12 : decode jdk_42_method_56_code 12 = .ok (.invokestatic 495, 3) := by decide +kernel
theorem pd__28_5bBI_29C : parseMethodDescriptor "([BI)C" = some ⟨[(.array .byte), .int], some .char⟩ := by decide +kernel
theorem d15_15 : decode jdk_42_method_56_code 15 = .ok (.ireturn, 1) := by decide +kernel
theorem pn_15 : plainName cST = true := by first | (simp [plainName, overriddenIn]; done) | decide +kernel
theorem ef_15 (m : MethodId) (x0 : Addr) (x1 : Int32) : entryFrame m #[(.ref x0), (.int x1)] 2 = mkF m 0 #[.val (.ref x0), .val (.int x1)] [] := by first | (simp [entryFrame, mkF, argsToLocals, Value.category]; done) | rfl
def Q_rmCa (Z : State) (a : Addr) (i : Int32) (b_ : Addr) (xs : List Int32) (v : Int32) (n : Int32) (cs : Int32) (fv : Value) (h0 : Heap) (n0 : Nat) (vQ : Option Value) (hQ : Heap) (LQ : List Loc) : Prop := vQ = some (.int v) ∧ LQ = [] ∧ hQ = h0
set_option maxRecDepth 65536 in
set_option maxHeartbeats 40000000 in
theorem rmCa (l : Launch) (Z : State) (a0 : Array Value) (hw : ∀ d ∈ tables_1, d.before a0 Z = true) (ws : List Jvm.Cond) (a : Addr) (i : Int32) (b_ : Addr) (xs : List Int32) (v : Int32) (n : Int32) (cs : Int32) (fv : Value) (h0 : Heap) (n0 : Nat) (Z0 : n0 ≤ h0.size) (P0 : Exa Z h0 a cST) (P1 : Fld Z h0 a cST "coder" "B" (.int (0 : Int32))) (P2 : Fld Z h0 a cST "value" "[B" (.ref b_)) (P3 : Ia Z h0 b_ .byte xs) (P4 : Old Z n0 h0) (zCS : Sta Z Z.heap cST "COMPACT_STRINGS" "Z" (.int cs)) (zF : Sta Z Z.heap cPR "SIOOBE_FORMATTER" "Ljava/util/function/BiFunction;" fv) (hi0 : ¬ i < (0 : Int32)) (hlt : i < n) (hn : xs.length.toInt32 = n) (hv : xs[i.toNatClampNeg]? = some v) (hc : ((v &&& (255 : Int32)).toUInt32.toUInt16.toUInt32.toInt32) = v) (hfv : fv = .null ∨ ∃ fa : Addr, fv = .ref fa) (hcs : ¬ (cs = (0 : Int32))) :
    MetFree l (⟨cST, "charAt", "(I)C"⟩ : MethodName) (head1 (Jvm.Cond.code (⟨cST, "charAt", "(I)C"⟩ : MethodName) jdk_42_method_56_code 2 (some .char) :: ws) ({ frames := 3, cells := 0, slots := 0, locals := 40 } : Room)) (fun aQ UQ => aQ = #[(.ref a), (.int i)] ∧ Z.Warmed39 UQ.vm ∧ UQ.heap = h0) (fun _ _ _ _ _ => True) (fun _ UQ oQ UR => ∃ vQ LQ, oQ = .returned vQ ∧ Q_rmCa Z a i b_ xs v n cs fv h0 n0 vQ UR.heap LQ ∧ FrameEnd UQ oQ UR LQ ({ frames := 3, cells := 0, slots := 0, locals := 40 } : Room).cells ({ frames := 3, cells := 0, slots := 0, locals := 40 } : Room).slots) := by
  refine MetFree.of_bodySF (plainFor_of_name pn_15) hisR ?_
  intro p e s m args below meth c s₁ Bd hml0 hP hK
  obtain ⟨rfl, hZ, hh⟩ := hP
  have hx := Bd.exec
  have hby := Bd.bytes
  have hlk := Bd.notSynchronized
  have hml : c.maxLocals = 2 := hml0
  have hown : s.vm.findClass cST = some m.cls := findClass_of_methodNamed Bd.named
  have hnm := (name_of_methodNamed Bd.named Bd.method).1
  have X0 : Stand p l e ({ frames := 3, cells := 0, slots := 0, locals := 40 } : Room) s m #[(.ref a), (.int i)] below meth c s₁ [] 0 0 := Stand.of_body Bd
  have e0 : s₁.heap = h0 := by rw [← hh, Bd.state]; rfl
  have N0 := Fr.nil n0
  show Go p e below _ (Done s (Q_rmCa Z a i b_ xs v n cs fv h0 n0) ({ frames := 3, cells := 0, slots := 0, locals := 40 } : Room).cells ({ frames := 3, cells := 0, slots := 0, locals := 40 } : Room).slots)
  refine Go.via (fun tQ kQ => castTop (ef_15 m a i) kQ) ?_
  show Go p e below (s₁.setTop (mkF m 0 #[.val (.ref a), .val (.int i)] [])) _
  refine Go.via (fun _ => XS.aloadN X0.here hx rfl (hb hby d15_0) rfl rfl) ?_
  obtain ⟨cq24, kq24, q24a, q24b, q24c⟩ := isOf hZ e0 P0
  obtain ⟨r24, _, ⟨T24, L24, k24, n24⟩, -, X24, ⟨Lc24, hQ24, l24, y24, z24⟩, st24⟩ := X0.virtualBack hx (y := (⟨cST, "isLatin1", "()Z"⟩ : MethodName)) (z := (⟨cST, "isLatin1", "()Z"⟩ : MethodName)) hown (mvT hZ (tw hw 81 rfl)) (mvT hZ (tw hw 82 rfl)) (notFace_of_selects (args := #[]) (mvT hZ (tw hw 84 rfl))) (mvT hZ (tw hw 84 rfl)) (mvT hZ (tw hw 83 rfl)) (by decide) (backOf (W := 0) (rmIL l Z a0 hw [] a cs h0 n0 Z0 P1 P4 zCS hcs) hZ (tw hw 85 rfl) (tw hw 14 rfl) (by decide) (by decide)) q24a q24c (g := (mkF m 1 #[.val (.ref a), .val (.int i)] [(.ref a)])) rfl (by rw [hml]; rfl) (Steps.refl _) (argsL := []) (rest := []) (lenOf pd__28_29Z rfl) rfl (by show 2 * 0 + _ ≤ _; exact Nat.le_of_eq rfl) (hb hby d15_1) (fun _ _ => ⟨rfl, e0, (by decide : 0 + 0 ≤ _), (by decide : 0 + 0 ≤ _)⟩)
  dsimp only [Pt.U, Pt.locs, Pt.cells, Pt.slots] at X24 l24 y24 z24 st24 hQ24
  rw [l24, y24, z24] at X24
  clear l24 y24 z24
  obtain ⟨hr24, N24q, eh24⟩ := hQ24
  rw [hr24] at st24
  clear hr24
  rw [N24q, List.append_nil] at X24
  refine Go.via (fun _ kQ => st24.trans kQ) ?_
  clear st24
  have e24 : T24.heap = h0 := eh24
  clear X0 e0
  show Go p e below (T24.setTop (mkF m 4 #[.val (.ref a), .val (.int i)] [(.int (1 : Int32))])) _
  refine Go.via (fun _ => XS.ifNo X24.here hx rfl (hb hby d15_4) rfl ((if0 _ _).trans (feq ((by decide) : ¬ ((1 : Int32) = (0 : Int32)))).1)) ?_
  show Go p e below (T24.setTop (mkF m 7 #[.val (.ref a), .val (.int i)] [])) _
  refine Go.via (fun _ => XS.aloadN X24.here hx rfl (hb hby d15_7) rfl rfl) ?_
  obtain ⟨T25, X25, e25, st25⟩ := getF X24 hx hZ hown (host := "") (Or.inl (tw hw 32 rfl)) Via.refl e24 P2 (g := (mkF m 8 #[.val (.ref a), .val (.int i)] [(.ref a)])) rfl rfl (hb hby d15_8)
  refine Go.via (st25) ?_
  clear st25
  clear X24 e24
  show Go p e below (T25.setTop (mkF m 11 #[.val (.ref a), .val (.int i)] [(.ref b_)])) _
  refine Go.via (fun _ => XS.iloadN X25.here hx rfl (hb hby d15_11) rfl) ?_
  obtain ⟨r26, _, ⟨T26, L26, k26, n26⟩, -, X26, ⟨Lc26, hQ26, l26, y26, z26⟩, st26⟩ := Jvm.LawKit.callS X25 hx (y := (⟨cL1, "charAt", "([BI)C"⟩ : MethodName)) hown (mvT hZ (tw hw 86 rfl)) (mvT hZ (tw hw 87 rfl)) (mvT hZ (tw hw 88 rfl)) (mvT hZ (tw hw 89 rfl)) (by decide) (backOf (W := 0) (rmLc l Z a0 hw [] b_ i xs v n fv h0 n0 Z0 P3 P4 zF hi0 hlt hn hv hc hfv) hZ (tw hw 89 rfl) (tw hw 88 rfl) (by decide) (by decide)) (g := (mkF m 12 #[.val (.ref a), .val (.int i)] [(.int i), (.ref b_)])) rfl (by rw [hml]; rfl) (argsL := [(.ref b_), (.int i)]) (rest := []) (lenOf pd__28_5bBI_29C rfl) rfl (by show 2 * 0 + _ ≤ _; exact Nat.le_of_eq rfl) (hb hby d15_12) (fun _ _ => ⟨rfl, e25, (by decide : 0 + 0 ≤ _), (by decide : 0 + 0 ≤ _)⟩)
  dsimp only [Pt.U, Pt.locs, Pt.cells, Pt.slots] at X26 l26 y26 z26 st26 hQ26
  rw [l26, y26, z26] at X26
  clear l26 y26 z26
  obtain ⟨hr26, N26q, eh26⟩ := hQ26
  rw [hr26] at st26
  clear hr26
  rw [N26q, List.append_nil] at X26
  refine Go.via (st26) ?_
  clear st26
  have e26 : T26.heap = h0 := eh26
  clear X25 e25
  show Go p e below (T26.setTop (mkF m 15 #[.val (.ref a), .val (.int i)] [(.int v)])) _
  exact Go.fin X26 hlk (v := some (.int (nar .char v))) (fun h => by rw [Bd.returns] at h; cases h) (fun fs hr => retN X26 hx (t := .char) Bd.returns (by simp) (hb hby d15_15) hr) (by rw [e26]; exact ⟨(congrArg (fun qq => some (Value.int qq)) (nar_v hc)), rfl, rfl⟩) (by decide) (by decide)
theorem d7_0 : decode jdk_52_method_21_code 0 = .ok (.iconst 0, 1) := by decide +kernel
theorem d7_1 : decode jdk_52_method_21_code 1 = .ok (.istore 5, 2) := by decide +kernel
theorem d7_3 : decode jdk_52_method_21_code 3 = .ok (.iload 5, 2) := by decide +kernel
theorem d7_5 : decode jdk_52_method_21_code 5 = .ok (.iload 4, 2) := by decide +kernel
theorem d7_7 : decode jdk_52_method_21_code 7 = .ok (.if_icmp .ge 37, 3) := by decide +kernel
theorem d7_10 : decode jdk_52_method_21_code 10 = .ok (.aload_n 0, 1) := by decide +kernel
theorem d7_11 : decode jdk_52_method_21_code 11 = .ok (.iload_n 1, 1) := by decide +kernel
theorem d7_12 : decode jdk_52_method_21_code 12 = .ok (.caload, 1) := by decide +kernel
theorem d7_13 : decode jdk_52_method_21_code 13 = .ok (.istore 6, 2) := by decide +kernel
theorem d7_15 : decode jdk_52_method_21_code 15 = .ok (.iload 6, 2) := by decide +kernel
theorem d7_17 : decode jdk_52_method_21_code 17 = .ok (.sipush 255, 3) := by decide +kernel
theorem d7_20 : decode jdk_52_method_21_code 20 = .ok (.if_icmp .le 6, 3) := by decide +kernel
theorem d7_26 : decode jdk_52_method_21_code 26 = .ok (.aload_n 2, 1) := by decide +kernel
theorem d7_27 : decode jdk_52_method_21_code 27 = .ok (.iload_n 3, 1) := by decide +kernel
theorem d7_28 : decode jdk_52_method_21_code 28 = .ok (.iload 6, 2) := by decide +kernel
theorem d7_30 : decode jdk_52_method_21_code 30 = .ok (.i2b, 1) := by decide +kernel
theorem d7_31 : decode jdk_52_method_21_code 31 = .ok (.bastore, 1) := by decide +kernel
theorem d7_32 : decode jdk_52_method_21_code 32 = .ok (.iinc 1 1, 3) := by decide +kernel
theorem d7_35 : decode jdk_52_method_21_code 35 = .ok (.iinc 3 1, 3) := by decide +kernel
theorem d7_38 : decode jdk_52_method_21_code 38 = .ok (.iinc 5 1, 3) := by decide +kernel
theorem d7_41 : decode jdk_52_method_21_code 41 = .ok (.goto (-38), 3) := by decide +kernel
theorem d7_44 : decode jdk_52_method_21_code 44 = .ok (.iload 4, 2) := by decide +kernel
theorem d7_46 : decode jdk_52_method_21_code 46 = .ok (.ireturn, 1) := by decide +kernel
theorem pn_7 : plainName cU6 = true := by first | (simp [plainName, overriddenIn]; done) | decide +kernel
theorem ef_7 (m : MethodId) (x0 : Addr) (x1 : Int32) (x2 : Addr) (x3 : Int32) (x4 : Int32) : entryFrame m #[(.ref x0), (.int x1), (.ref x2), (.int x3), (.int x4)] 7 = mkF m 0 #[.val (.ref x0), .val (.int x1), .val (.ref x2), .val (.int x3), .val (.int x4), .unset, .unset] [] := by first | (simp [entryFrame, mkF, argsToLocals, Value.category]; done) | rfl
def Q_rmC5_1 (Z : State) (ca : Addr) (i : Int32) (ba : Addr) (j : Int32) (n : Int32) (y0 : Int32) (h0 : Heap) (n0 : Nat) (vQ : Option Value) (hQ : Heap) (LQ : List Loc) : Prop := vQ = some (.int (1 : Int32)) ∧ Fr n0 LQ ∧ Keep h0 hQ [ba] ∧ Ia Z hQ ba .byte [(nar .byte (y0.toInt8.toInt32))]
set_option maxRecDepth 65536 in
set_option maxHeartbeats 40000000 in
theorem rmC5_1 (l : Launch) (Z : State) (a0 : Array Value) (hw : ∀ d ∈ tables_1, d.before a0 Z = true) (ws : List Jvm.Cond) (ca : Addr) (i : Int32) (ba : Addr) (j : Int32) (n : Int32) (y0 : Int32) (h0 : Heap) (n0 : Nat) (Z0 : n0 ≤ h0.size) (P0 : Ia Z h0 ca .char [y0]) (P1 : Ia Z h0 ba .byte [(0 : Int32)]) (g_ba : n0 ≤ ba) (hcb : ca ≠ ba) (hi : i = 0) (hj : j = 0) (hn : n = 1) (hy0 : ¬ ((255 : Int32) < y0)) :
    MetFree l (⟨cU6, "compress", "([CI[BII)I"⟩ : MethodName) (head1 (Jvm.Cond.code (⟨cU6, "compress", "([CI[BII)I"⟩ : MethodName) jdk_52_method_21_code 7 (some .int) :: ws) ({ frames := 0, cells := 0, slots := 0, locals := 0 } : Room)) (fun aQ UQ => aQ = #[(.ref ca), (.int i), (.ref ba), (.int j), (.int n)] ∧ Z.Warmed39 UQ.vm ∧ UQ.heap = h0) (fun _ _ _ _ _ => True) (fun _ UQ oQ UR => ∃ vQ LQ, oQ = .returned vQ ∧ Q_rmC5_1 Z ca i ba j n y0 h0 n0 vQ UR.heap LQ ∧ FrameEnd UQ oQ UR LQ ({ frames := 0, cells := 0, slots := 0, locals := 0 } : Room).cells ({ frames := 0, cells := 0, slots := 0, locals := 0 } : Room).slots) := by
  refine MetFree.of_bodySF (plainFor_of_name pn_7) hisR ?_
  intro p e s m args below meth c s₁ Bd hml0 hP hK
  obtain ⟨rfl, hZ, hh⟩ := hP
  have hx := Bd.exec
  have hby := Bd.bytes
  have hlk := Bd.notSynchronized
  have hml : c.maxLocals = 7 := hml0
  have hown : s.vm.findClass cU6 = some m.cls := findClass_of_methodNamed Bd.named
  have hnm := (name_of_methodNamed Bd.named Bd.method).1
  have X0 : Stand p l e ({ frames := 0, cells := 0, slots := 0, locals := 0 } : Room) s m #[(.ref ca), (.int i), (.ref ba), (.int j), (.int n)] below meth c s₁ [] 0 0 := Stand.of_body Bd
  have e0 : s₁.heap = h0 := by rw [← hh, Bd.state]; rfl
  have N0 := Fr.nil n0
  show Go p e below _ (Done s (Q_rmC5_1 Z ca i ba j n y0 h0 n0) ({ frames := 0, cells := 0, slots := 0, locals := 0 } : Room).cells ({ frames := 0, cells := 0, slots := 0, locals := 0 } : Room).slots)
  refine Go.via (fun tQ kQ => castTop (ef_7 m ca i ba j n) kQ) ?_
  show Go p e below (s₁.setTop (mkF m 0 #[.val (.ref ca), .val (.int i), .val (.ref ba), .val (.int j), .val (.int n), .unset, .unset] [])) _
  · subst hi hj hn
    show Go p e below (s₁.setTop (mkF m 0 #[.val (.ref ca), .val (.int (0 : Int32)), .val (.ref ba), .val (.int (0 : Int32)), .val (.int (1 : Int32)), .unset, .unset] [])) _
    refine Go.via (fun _ => XS.iconst X0.here hx rfl (hb hby d7_0)) ?_
    refine Go.via (fun _ => XS.istore X0.here hx rfl (hb hby d7_1) rfl (l' := #[.val (.ref ca), .val (.int (0 : Int32)), .val (.ref ba), .val (.int (0 : Int32)), .val (.int (1 : Int32)), .val (.int (0 : Int32)), .unset]) rfl) ?_
    show Go p e below (s₁.setTop (mkF m 3 #[.val (.ref ca), .val (.int (0 : Int32)), .val (.ref ba), .val (.int (0 : Int32)), .val (.int (1 : Int32)), .val (.int (0 : Int32)), .unset] [])) _
    refine Go.via (fun _ => XS.iload X0.here hx rfl (hb hby d7_3) rfl) ?_
    refine Go.via (fun _ => XS.iload X0.here hx rfl (hb hby d7_5) rfl) ?_
    refine Go.via (fun _ => XS.icmpNo X0.here hx rfl (hb hby d7_7) rfl (tlt ((by decide) : (0 : Int32) < (1 : Int32))).2.1) ?_
    show Go p e below (s₁.setTop (mkF m 10 #[.val (.ref ca), .val (.int (0 : Int32)), .val (.ref ba), .val (.int (0 : Int32)), .val (.int (1 : Int32)), .val (.int (0 : Int32)), .unset] [])) _
    refine Go.via (fun _ => XS.aloadN X0.here hx rfl (hb hby d7_10) rfl rfl) ?_
    refine Go.via (fun _ => XS.iloadN X0.here hx rfl (hb hby d7_11) rfl) ?_
    refine Go.via (ldC X0 hx hZ e0 P0 (v := y0) (by decide) rfl (g := (mkF m 12 #[.val (.ref ca), .val (.int (0 : Int32)), .val (.ref ba), .val (.int (0 : Int32)), .val (.int (1 : Int32)), .val (.int (0 : Int32)), .unset] [(.int (0 : Int32)), (.ref ca)])) rfl rfl (hb hby d7_12)) ?_
    show Go p e below (s₁.setTop (mkF m 13 #[.val (.ref ca), .val (.int (0 : Int32)), .val (.ref ba), .val (.int (0 : Int32)), .val (.int (1 : Int32)), .val (.int (0 : Int32)), .unset] [(.int y0)])) _
    refine Go.via (fun _ => XS.istore X0.here hx rfl (hb hby d7_13) rfl (l' := #[.val (.ref ca), .val (.int (0 : Int32)), .val (.ref ba), .val (.int (0 : Int32)), .val (.int (1 : Int32)), .val (.int (0 : Int32)), .val (.int y0)]) rfl) ?_
    show Go p e below (s₁.setTop (mkF m 15 #[.val (.ref ca), .val (.int (0 : Int32)), .val (.ref ba), .val (.int (0 : Int32)), .val (.int (1 : Int32)), .val (.int (0 : Int32)), .val (.int y0)] [])) _
    refine Go.via (fun _ => XS.iload X0.here hx rfl (hb hby d7_15) rfl) ?_
    refine Go.via (fun _ => XS.sipush X0.here hx rfl (hb hby d7_17)) ?_
    refine Go.via (fun _ => XS.icmpYes X0.here hx rfl (pc0 := 20) (pc' := 26) rfl (hb hby d7_20) rfl (flt (hy0 : ¬ ((255 : Int32) < y0))).2.2.2 (by decide) (by decide)) ?_
    show Go p e below (s₁.setTop (mkF m 26 #[.val (.ref ca), .val (.int (0 : Int32)), .val (.ref ba), .val (.int (0 : Int32)), .val (.int (1 : Int32)), .val (.int (0 : Int32)), .val (.int y0)] [])) _
    refine Go.via (fun _ => XS.aloadN X0.here hx rfl (hb hby d7_26) rfl rfl) ?_
    refine Go.via (fun _ => XS.iloadN X0.here hx rfl (hb hby d7_27) rfl) ?_
    refine Go.via (fun _ => XS.iload X0.here hx rfl (hb hby d7_28) rfl) ?_
    refine Go.via (fun _ => XS.i2b X0.here hx rfl (hb hby d7_30) rfl) ?_
    show Go p e below (s₁.setTop (mkF m 31 #[.val (.ref ca), .val (.int (0 : Int32)), .val (.ref ba), .val (.int (0 : Int32)), .val (.int (1 : Int32)), .val (.int (0 : Int32)), .val (.int y0)] [(.int (y0.toInt8.toInt32)), (.int (0 : Int32)), (.ref ba)])) _
    obtain ⟨T27, h27, X27, e27, W27, V27, st27⟩ := stB' X0 hx hZ e0 P1 (j := (0 : Int32)) (by decide) (by first | decide | (simp only [List.length_cons, List.length_nil]; decide) | rfl) (g := (mkF m 31 #[.val (.ref ca), .val (.int (0 : Int32)), .val (.ref ba), .val (.int (0 : Int32)), .val (.int (1 : Int32)), .val (.int (0 : Int32)), .val (.int y0)] [(.int (y0.toInt8.toInt32)), (.int (0 : Int32)), (.ref ba)])) rfl rfl (hb hby d7_31)
    refine Go.via (st27) ?_
    clear st27
    have N27 := Fr.snoc X27 N0 g_ba
    have f28 : Ia Z h27 ba .byte [(nar .byte (y0.toInt8.toInt32))] := V27
    clear X0 e0
    show Go p e below (T27.setTop (mkF m 32 #[.val (.ref ca), .val (.int (0 : Int32)), .val (.ref ba), .val (.int (0 : Int32)), .val (.int (1 : Int32)), .val (.int (0 : Int32)), .val (.int y0)] [])) _
    refine Go.via (fun _ => XS.iinc X27.here hx rfl (hb hby d7_32) rfl (l' := #[.val (.ref ca), .val (.int (1 : Int32)), .val (.ref ba), .val (.int (0 : Int32)), .val (.int (1 : Int32)), .val (.int (0 : Int32)), .val (.int y0)]) rfl) ?_
    show Go p e below (T27.setTop (mkF m 35 #[.val (.ref ca), .val (.int (1 : Int32)), .val (.ref ba), .val (.int (0 : Int32)), .val (.int (1 : Int32)), .val (.int (0 : Int32)), .val (.int y0)] [])) _
    refine Go.via (fun _ => XS.iinc X27.here hx rfl (hb hby d7_35) rfl (l' := #[.val (.ref ca), .val (.int (1 : Int32)), .val (.ref ba), .val (.int (1 : Int32)), .val (.int (1 : Int32)), .val (.int (0 : Int32)), .val (.int y0)]) rfl) ?_
    show Go p e below (T27.setTop (mkF m 38 #[.val (.ref ca), .val (.int (1 : Int32)), .val (.ref ba), .val (.int (1 : Int32)), .val (.int (1 : Int32)), .val (.int (0 : Int32)), .val (.int y0)] [])) _
    refine Go.via (fun _ => XS.iinc X27.here hx rfl (hb hby d7_38) rfl (l' := #[.val (.ref ca), .val (.int (1 : Int32)), .val (.ref ba), .val (.int (1 : Int32)), .val (.int (1 : Int32)), .val (.int (1 : Int32)), .val (.int y0)]) rfl) ?_
    show Go p e below (T27.setTop (mkF m 41 #[.val (.ref ca), .val (.int (1 : Int32)), .val (.ref ba), .val (.int (1 : Int32)), .val (.int (1 : Int32)), .val (.int (1 : Int32)), .val (.int y0)] [])) _
    refine Go.via (fun _ => XS.goto X27.here hx rfl (pc0 := 41) (pc' := 3) rfl (hb hby d7_41) (by decide) (by decide)) ?_
    refine Go.via (fun _ => XS.iload X27.here hx rfl (hb hby d7_3) rfl) ?_
    refine Go.via (fun _ => XS.iload X27.here hx rfl (hb hby d7_5) rfl) ?_
    refine Go.via (fun _ => XS.icmpYes X27.here hx rfl (pc0 := 7) (pc' := 44) rfl (hb hby d7_7) rfl (flt ((by decide) : ¬ ((1 : Int32) < (1 : Int32)))).2.1 (by decide) (by decide)) ?_
    show Go p e below (T27.setTop (mkF m 44 #[.val (.ref ca), .val (.int (1 : Int32)), .val (.ref ba), .val (.int (1 : Int32)), .val (.int (1 : Int32)), .val (.int (1 : Int32)), .val (.int y0)] [])) _
    refine Go.via (fun _ => XS.iload X27.here hx rfl (hb hby d7_44) rfl) ?_
    have k29 : Keep h0 h27 [ba] := ((Keep.refl h0 [ba]).wr W27 (Or.inl (List.mem_of_getElem? (i := 0) rfl)))
    exact Go.fin X27 hlk (v := some (.int (1 : Int32))) (fun h => by rw [Bd.returns] at h; cases h) (fun fs hr => OwnKit.retI X27 hx Bd.returns (hb hby d7_46) hr) (by rw [e27]; exact ⟨rfl, N27, k29, f28⟩) (by decide) (by decide)
theorem d6_0 : decode jdk_52_method_16_code 0 = .ok (.iload_n 2, 1) := by decide +kernel
theorem d6_1 : decode jdk_52_method_16_code 1 = .ok (.newarray .byte, 2) := by decide +kernel
theorem d6_3 : decode jdk_52_method_16_code 3 = .ok (.astore_n 3, 1) := by decide +kernel
theorem d6_4 : decode jdk_52_method_16_code 4 = .ok (.aload_n 0, 1) := by decide +kernel
theorem d6_5 : decode jdk_52_method_16_code 5 = .ok (.iload_n 1, 1) := by decide +kernel
theorem d6_6 : decode jdk_52_method_16_code 6 = .ok (.aload_n 3, 1) := by decide +kernel
theorem d6_7 : decode jdk_52_method_16_code 7 = .ok (.iconst 0, 1) := by decide +kernel
theorem d6_8 : decode jdk_52_method_16_code 8 = .ok (.iload_n 2, 1) := by decide +kernel
theorem d6_9 : decode jdk_52_method_16_code 9 = .ok (.invokestatic 115, 3) := by decide +kernel
theorem pd__28_5bCI_5bBII_29I : parseMethodDescriptor "([CI[BII)I" = some ⟨[(.array .char), .int, (.array .byte), .int, .int], some .int⟩ := by decide +kernel
theorem d6_12 : decode jdk_52_method_16_code 12 = .ok (.istore 4, 2) := by decide +kernel
theorem d6_14 : decode jdk_52_method_16_code 14 = .ok (.iload 4, 2) := by decide +kernel
theorem d6_16 : decode jdk_52_method_16_code 16 = .ok (.iload_n 2, 1) := by decide +kernel
theorem d6_17 : decode jdk_52_method_16_code 17 = .ok (.if_icmp .eq 40, 3) := by decide +kernel
theorem d6_57 : decode jdk_52_method_16_code 57 = .ok (.aload_n 3, 1) := by decide +kernel
theorem d6_58 : decode jdk_52_method_16_code 58 = .ok (.areturn, 1) := by decide +kernel
theorem pn_6 : plainName cU6 = true := by first | (simp [plainName, overriddenIn]; done) | decide +kernel
theorem ef_6 (m : MethodId) (x0 : Addr) (x1 : Int32) (x2 : Int32) : entryFrame m #[(.ref x0), (.int x1), (.int x2)] 6 = mkF m 0 #[.val (.ref x0), .val (.int x1), .val (.int x2), .unset, .unset, .unset] [] := by first | (simp [entryFrame, mkF, argsToLocals, Value.category]; done) | rfl
def Q_rmC3_1 (Z : State) (ca : Addr) (i : Int32) (n : Int32) (y0 : Int32) (h0 : Heap) (n0 : Nat) (vQ : Option Value) (hQ : Heap) (LQ : List Loc) : Prop := ∃ r : Addr, vQ = some (.ref r) ∧ Fr n0 LQ ∧ Keep h0 hQ [] ∧ h0.size ≤ r ∧ Ia Z hQ r .byte [(nar .byte (y0.toInt8.toInt32))]
set_option maxRecDepth 65536 in
set_option maxHeartbeats 40000000 in
theorem rmC3_1 (l : Launch) (Z : State) (a0 : Array Value) (hw : ∀ d ∈ tables_1, d.before a0 Z = true) (ws : List Jvm.Cond) (ca : Addr) (i : Int32) (n : Int32) (y0 : Int32) (h0 : Heap) (n0 : Nat) (Z0 : n0 ≤ h0.size) (P0 : Ia Z h0 ca .char [y0]) (hi : i = 0) (hn : n = 1) (hy0 : ¬ ((255 : Int32) < y0)) :
    MetFree l (⟨cU6, "compress", "([CII)[B"⟩ : MethodName) (head1 (Jvm.Cond.code (⟨cU6, "compress", "([CII)[B"⟩ : MethodName) jdk_52_method_16_code 6 (some (.array .byte)) :: ws) ({ frames := 1, cells := 1, slots := 1, locals := 18 } : Room)) (fun aQ UQ => aQ = #[(.ref ca), (.int i), (.int n)] ∧ Z.Warmed39 UQ.vm ∧ UQ.heap = h0) (fun _ _ _ _ _ => True) (fun _ UQ oQ UR => ∃ vQ LQ, oQ = .returned vQ ∧ Q_rmC3_1 Z ca i n y0 h0 n0 vQ UR.heap LQ ∧ FrameEnd UQ oQ UR LQ ({ frames := 1, cells := 1, slots := 1, locals := 18 } : Room).cells ({ frames := 1, cells := 1, slots := 1, locals := 18 } : Room).slots) := by
  refine MetFree.of_bodySF (plainFor_of_name pn_6) hisR ?_
  intro p e s m args below meth c s₁ Bd hml0 hP hK
  obtain ⟨rfl, hZ, hh⟩ := hP
  have hx := Bd.exec
  have hby := Bd.bytes
  have hlk := Bd.notSynchronized
  have hml : c.maxLocals = 6 := hml0
  have hown : s.vm.findClass cU6 = some m.cls := findClass_of_methodNamed Bd.named
  have hnm := (name_of_methodNamed Bd.named Bd.method).1
  have X0 : Stand p l e ({ frames := 1, cells := 1, slots := 1, locals := 18 } : Room) s m #[(.ref ca), (.int i), (.int n)] below meth c s₁ [] 0 0 := Stand.of_body Bd
  have e0 : s₁.heap = h0 := by rw [← hh, Bd.state]; rfl
  have N0 := Fr.nil n0
  show Go p e below _ (Done s (Q_rmC3_1 Z ca i n y0 h0 n0) ({ frames := 1, cells := 1, slots := 1, locals := 18 } : Room).cells ({ frames := 1, cells := 1, slots := 1, locals := 18 } : Room).slots)
  refine Go.via (fun tQ kQ => castTop (ef_6 m ca i n) kQ) ?_
  show Go p e below (s₁.setTop (mkF m 0 #[.val (.ref ca), .val (.int i), .val (.int n), .unset, .unset, .unset] [])) _
  · subst hi hn
    show Go p e below (s₁.setTop (mkF m 0 #[.val (.ref ca), .val (.int (0 : Int32)), .val (.int (1 : Int32)), .unset, .unset, .unset] [])) _
    refine Go.via (fun _ => XS.iloadN X0.here hx rfl (hb hby d6_0) rfl) ?_
    obtain ⟨T30, h30, k30, X30, e30, E30, A30, B30, st30⟩ := newPE X0 hx hZ (tw hw 27 rfl) e0 (g := (mkF m 1 #[.val (.ref ca), .val (.int (0 : Int32)), .val (.int (1 : Int32)), .unset, .unset, .unset] [(.int (1 : Int32))])) rfl (hb hby d6_1) rfl (by decide) (cap := 1) (by decide) (by decide) (by decide) (by decide) (ad := "[B") (by decide)
    obtain ⟨b30, g30⟩ : ∃ z, z = h0.size := ⟨_, rfl⟩
    rw [← g30] at A30 B30 st30
    have ne31 : ca ≠ b30 := Nat.ne_of_lt (Nat.lt_of_lt_of_le P0.lt (Nat.le_of_eq g30.symm))
    have ge32 : n0 ≤ b30 := Nat.le_trans Z0 (Nat.le_of_eq g30.symm)
    have sz33 : h0.size ≤ b30 := Nat.le_trans (Keep.refl h0 []).1 (Nat.le_of_eq g30.symm)
    refine Go.via (st30) ?_
    clear st30
    have f34 : Ia Z h30 b30 .byte [(0 : Int32)] := Ia.new A30 rfl
    clear X0 e0
    show Go p e below (T30.setTop (mkF m 3 #[.val (.ref ca), .val (.int (0 : Int32)), .val (.int (1 : Int32)), .unset, .unset, .unset] [(.ref b30)])) _
    refine Go.via (fun _ => XS.astoreN X30.here hx rfl (hb hby d6_3) rfl rfl (l' := #[.val (.ref ca), .val (.int (0 : Int32)), .val (.int (1 : Int32)), .val (.ref b30), .unset, .unset]) rfl) ?_
    show Go p e below (T30.setTop (mkF m 4 #[.val (.ref ca), .val (.int (0 : Int32)), .val (.int (1 : Int32)), .val (.ref b30), .unset, .unset] [])) _
    refine Go.via (fun _ => XS.aloadN X30.here hx rfl (hb hby d6_4) rfl rfl) ?_
    refine Go.via (fun _ => XS.iloadN X30.here hx rfl (hb hby d6_5) rfl) ?_
    refine Go.via (fun _ => XS.aloadN X30.here hx rfl (hb hby d6_6) rfl rfl) ?_
    refine Go.via (fun _ => XS.iconst X30.here hx rfl (hb hby d6_7)) ?_
    show Go p e below (T30.setTop (mkF m 8 #[.val (.ref ca), .val (.int (0 : Int32)), .val (.int (1 : Int32)), .val (.ref b30), .unset, .unset] [(.int (0 : Int32)), (.ref b30), (.int (0 : Int32)), (.ref ca)])) _
    refine Go.via (fun _ => XS.iloadN X30.here hx rfl (hb hby d6_8) rfl) ?_
    have f35 : Ia Z h30 ca .char [y0] := (P0.ext E30)
    have z37 : n0 ≤ h30.size := (Nat.le_trans Z0 E30.1)
    obtain ⟨r36, _, ⟨T36, L36, k36, n36⟩, -, X36, ⟨Lc36, hQ36, l36, y36, z36⟩, st36⟩ := Jvm.LawKit.callS X30 hx (y := (⟨cU6, "compress", "([CI[BII)I"⟩ : MethodName)) hown (mvT hZ (tw hw 39 rfl)) (mvT hZ (tw hw 40 rfl)) (mvT hZ (tw hw 37 rfl)) (mvT hZ (tw hw 41 rfl)) (by decide) (backOf (W := 0) (rmC5_1 l Z a0 hw [] ca (0 : Int32) b30 (0 : Int32) (1 : Int32) y0 h30 n0 z37 f35 f34 ge32 ne31 rfl rfl rfl hy0) hZ (tw hw 41 rfl) (tw hw 37 rfl) (by decide) (by decide)) (g := (mkF m 9 #[.val (.ref ca), .val (.int (0 : Int32)), .val (.int (1 : Int32)), .val (.ref b30), .unset, .unset] [(.int (1 : Int32)), (.int (0 : Int32)), (.ref b30), (.int (0 : Int32)), (.ref ca)])) rfl (by rw [hml]; rfl) (argsL := [(.ref ca), (.int (0 : Int32)), (.ref b30), (.int (0 : Int32)), (.int (1 : Int32))]) (rest := []) (lenOf pd__28_5bCI_5bBII_29I rfl) rfl (by show 2 * 0 + _ ≤ _; exact Nat.le_of_eq rfl) (hb hby d6_9) (fun _ _ => ⟨rfl, e30, (by decide : 1 + 0 ≤ _), (by decide : 1 + 0 ≤ _)⟩)
    dsimp only [Pt.U, Pt.locs, Pt.cells, Pt.slots] at X36 l36 y36 z36 st36 hQ36
    rw [l36, y36, z36] at X36
    clear l36 y36 z36
    obtain ⟨hr36, N36q, K36q, f38⟩ := hQ36
    rw [hr36] at st36
    clear hr36
    have N36 := Fr.app N0 N36q
    refine Go.via (st36) ?_
    clear st36
    have e36 : T36.heap = T36.heap := rfl
    have f39 : Ia Z T36.heap b30 .byte [(nar .byte (y0.toInt8.toInt32))] := f38
    clear X30 e30
    show Go p e below (T36.setTop (mkF m 12 #[.val (.ref ca), .val (.int (0 : Int32)), .val (.int (1 : Int32)), .val (.ref b30), .unset, .unset] [(.int (1 : Int32))])) _
    refine Go.via (fun _ => XS.istore X36.here hx rfl (hb hby d6_12) rfl (l' := #[.val (.ref ca), .val (.int (0 : Int32)), .val (.int (1 : Int32)), .val (.ref b30), .val (.int (1 : Int32)), .unset]) rfl) ?_
    show Go p e below (T36.setTop (mkF m 14 #[.val (.ref ca), .val (.int (0 : Int32)), .val (.int (1 : Int32)), .val (.ref b30), .val (.int (1 : Int32)), .unset] [])) _
    refine Go.via (fun _ => XS.iload X36.here hx rfl (hb hby d6_14) rfl) ?_
    refine Go.via (fun _ => XS.iloadN X36.here hx rfl (hb hby d6_16) rfl) ?_
    refine Go.via (fun _ => XS.icmpYes X36.here hx rfl (pc0 := 17) (pc' := 57) rfl (hb hby d6_17) rfl (teq ((by decide) : (1 : Int32) = (1 : Int32))).1 (by decide) (by decide)) ?_
    show Go p e below (T36.setTop (mkF m 57 #[.val (.ref ca), .val (.int (0 : Int32)), .val (.int (1 : Int32)), .val (.ref b30), .val (.int (1 : Int32)), .unset] [])) _
    refine Go.via (fun _ => XS.aloadN X36.here hx rfl (hb hby d6_57) rfl rfl) ?_
    have k40 : Keep h0 T36.heap [] := (((Keep.refl h0 []).ext E30).trans K36q (allS (Or.inr sz33) all0))
    exact Go.fin X36 hlk (v := some (.ref b30)) (fun h => by rw [Bd.returns] at h; cases h) (fun fs hr => retOut X36 hx Bd.returns rfl (Or.inr (Or.inr (Or.inr (Or.inr ⟨rfl, rfl, rfl⟩)))) (hb hby d6_58) hr) (by exact ⟨b30, rfl, N36, k40, sz33, f39⟩) (by decide) (by decide)
theorem d8_0 : decode jdk_52_method_15_code 0 = .ok (.iload_n 1, 1) := by decide +kernel
theorem d8_1 : decode jdk_52_method_15_code 1 = .ok (.aload_n 0, 1) := by decide +kernel
theorem d8_2 : decode jdk_52_method_15_code 2 = .ok (.arraylength, 1) := by decide +kernel
theorem d8_3 : decode jdk_52_method_15_code 3 = .ok (.isub, 1) := by decide +kernel
theorem d8_4 : decode jdk_52_method_15_code 4 = .ok (.bipush 31, 2) := by decide +kernel
theorem d8_6 : decode jdk_52_method_15_code 6 = .ok (.iushr, 1) := by decide +kernel
theorem d8_7 : decode jdk_52_method_15_code 7 = .ok (.i2b, 1) := by decide +kernel
theorem d8_8 : decode jdk_52_method_15_code 8 = .ok (.ireturn, 1) := by decide +kernel
theorem pn_8 : plainName cU6 = true := by first | (simp [plainName, overriddenIn]; done) | decide +kernel
theorem ef_8 (m : MethodId) (x0 : Addr) (x1 : Int32) : entryFrame m #[(.ref x0), (.int x1)] 2 = mkF m 0 #[.val (.ref x0), .val (.int x1)] [] := by first | (simp [entryFrame, mkF, argsToLocals, Value.category]; done) | rfl
def Q_rmCl_1 (Z : State) (ba : Addr) (n : Int32) (y0 : Int32) (h0 : Heap) (n0 : Nat) (vQ : Option Value) (hQ : Heap) (LQ : List Loc) : Prop := vQ = some (.int (0 : Int32)) ∧ Fr n0 LQ ∧ hQ = h0
set_option maxRecDepth 65536 in
set_option maxHeartbeats 40000000 in
theorem rmCl_1 (l : Launch) (Z : State) (a0 : Array Value) (hw : ∀ d ∈ tables_1, d.before a0 Z = true) (ws : List Jvm.Cond) (ba : Addr) (n : Int32) (y0 : Int32) (h0 : Heap) (n0 : Nat) (Z0 : n0 ≤ h0.size) (P0 : Ia Z h0 ba .byte [y0]) (hn : n = 1) :
    MetFree l (⟨cU6, "coderFromArrayLen", "([BI)B"⟩ : MethodName) (head1 (Jvm.Cond.code (⟨cU6, "coderFromArrayLen", "([BI)B"⟩ : MethodName) jdk_52_method_15_code 2 (some .byte) :: ws) ({ frames := 0, cells := 0, slots := 0, locals := 0 } : Room)) (fun aQ UQ => aQ = #[(.ref ba), (.int n)] ∧ Z.Warmed39 UQ.vm ∧ UQ.heap = h0) (fun _ _ _ _ _ => True) (fun _ UQ oQ UR => ∃ vQ LQ, oQ = .returned vQ ∧ Q_rmCl_1 Z ba n y0 h0 n0 vQ UR.heap LQ ∧ FrameEnd UQ oQ UR LQ ({ frames := 0, cells := 0, slots := 0, locals := 0 } : Room).cells ({ frames := 0, cells := 0, slots := 0, locals := 0 } : Room).slots) := by
  refine MetFree.of_bodySF (plainFor_of_name pn_8) hisR ?_
  intro p e s m args below meth c s₁ Bd hml0 hP hK
  obtain ⟨rfl, hZ, hh⟩ := hP
  have hx := Bd.exec
  have hby := Bd.bytes
  have hlk := Bd.notSynchronized
  have hml : c.maxLocals = 2 := hml0
  have hown : s.vm.findClass cU6 = some m.cls := findClass_of_methodNamed Bd.named
  have hnm := (name_of_methodNamed Bd.named Bd.method).1
  have X0 : Stand p l e ({ frames := 0, cells := 0, slots := 0, locals := 0 } : Room) s m #[(.ref ba), (.int n)] below meth c s₁ [] 0 0 := Stand.of_body Bd
  have e0 : s₁.heap = h0 := by rw [← hh, Bd.state]; rfl
  have N0 := Fr.nil n0
  show Go p e below _ (Done s (Q_rmCl_1 Z ba n y0 h0 n0) ({ frames := 0, cells := 0, slots := 0, locals := 0 } : Room).cells ({ frames := 0, cells := 0, slots := 0, locals := 0 } : Room).slots)
  refine Go.via (fun tQ kQ => castTop (ef_8 m ba n) kQ) ?_
  show Go p e below (s₁.setTop (mkF m 0 #[.val (.ref ba), .val (.int n)] [])) _
  · subst hn
    show Go p e below (s₁.setTop (mkF m 0 #[.val (.ref ba), .val (.int (1 : Int32))] [])) _
    refine Go.via (fun _ => XS.iloadN X0.here hx rfl (hb hby d8_0) rfl) ?_
    refine Go.via (fun _ => XS.aloadN X0.here hx rfl (hb hby d8_1) rfl rfl) ?_
    refine Go.via (lenI X0 hx hZ e0 P0 (n := (1 : Int32)) rfl (g := (mkF m 2 #[.val (.ref ba), .val (.int (1 : Int32))] [(.ref ba), (.int (1 : Int32))])) rfl rfl (hb hby d8_2)) ?_
    show Go p e below (s₁.setTop (mkF m 3 #[.val (.ref ba), .val (.int (1 : Int32))] [(.int (1 : Int32)), (.int (1 : Int32))])) _
    refine Go.via (fun _ => XS.isub X0.here hx rfl (hb hby d8_3) rfl) ?_
    show Go p e below (s₁.setTop (mkF m 4 #[.val (.ref ba), .val (.int (1 : Int32))] [(.int (0 : Int32))])) _
    refine Go.via (fun _ => XS.bipush X0.here hx rfl (hb hby d8_4)) ?_
    refine Go.via (fun _ => XS.iushr X0.here hx rfl (hb hby d8_6) rfl) ?_
    show Go p e below (s₁.setTop (mkF m 7 #[.val (.ref ba), .val (.int (1 : Int32))] [(.int (0 : Int32))])) _
    refine Go.via (fun _ => XS.i2b X0.here hx rfl (hb hby d8_7) rfl) ?_
    show Go p e below (s₁.setTop (mkF m 8 #[.val (.ref ba), .val (.int (1 : Int32))] [(.int ((0 : Int32).toInt8.toInt32))])) _
    exact Go.fin X0 hlk (v := some (.int (nar .byte ((0 : Int32).toInt8.toInt32)))) (fun h => by rw [Bd.returns] at h; cases h) (fun fs hr => retN X0 hx (t := .byte) Bd.returns (by simp) (hb hby d8_8) hr) (by rw [e0]; exact ⟨rfl, N0, rfl⟩) (by decide) (by decide)
theorem d4_0 : decode jdk_42_method_149_code 0 = .ok (.aload_n 0, 1) := by decide +kernel
theorem d4_1 : decode jdk_42_method_149_code 1 = .ok (.invokespecial 1, 3) := by decide +kernel
theorem d4_4 : decode jdk_42_method_149_code 4 = .ok (.iload_n 3, 1) := by decide +kernel
theorem d4_5 : decode jdk_42_method_149_code 5 = .ok (.ifCond .ne 22, 3) := by decide +kernel
theorem d4_27 : decode jdk_42_method_149_code 27 = .ok (.getstatic 38, 3) := by decide +kernel
theorem d4_30 : decode jdk_42_method_149_code 30 = .ok (.ifCond .eq 28, 3) := by decide +kernel
theorem d4_33 : decode jdk_42_method_149_code 33 = .ok (.aload_n 1, 1) := by decide +kernel
theorem d4_34 : decode jdk_42_method_149_code 34 = .ok (.iload_n 2, 1) := by decide +kernel
theorem d4_35 : decode jdk_42_method_149_code 35 = .ok (.iload_n 3, 1) := by decide +kernel
theorem d4_36 : decode jdk_42_method_149_code 36 = .ok (.invokestatic 177, 3) := by decide +kernel
theorem pd__28_5bCII_29_5bB : parseMethodDescriptor "([CII)[B" = some ⟨[(.array .char), .int, .int], some (.array .byte)⟩ := by decide +kernel
theorem d4_39 : decode jdk_42_method_149_code 39 = .ok (.astore 5, 2) := by decide +kernel
theorem d4_41 : decode jdk_42_method_149_code 41 = .ok (.aload_n 0, 1) := by decide +kernel
theorem d4_42 : decode jdk_42_method_149_code 42 = .ok (.aload 5, 2) := by decide +kernel
theorem d4_44 : decode jdk_42_method_149_code 44 = .ok (.iload_n 3, 1) := by decide +kernel
theorem d4_45 : decode jdk_42_method_149_code 45 = .ok (.invokestatic 47, 3) := by decide +kernel
theorem pd__28_5bBI_29B : parseMethodDescriptor "([BI)B" = some ⟨[(.array .byte), .int], some .byte⟩ := by decide +kernel
theorem d4_48 : decode jdk_42_method_149_code 48 = .ok (.putfield 15, 3) := by decide +kernel
theorem d4_51 : decode jdk_42_method_149_code 51 = .ok (.aload_n 0, 1) := by decide +kernel
theorem d4_52 : decode jdk_42_method_149_code 52 = .ok (.aload 5, 2) := by decide +kernel
theorem d4_54 : decode jdk_42_method_149_code 54 = .ok (.putfield 9, 3) := by decide +kernel
theorem d4_57 : decode jdk_42_method_149_code 57 = .ok (.return_, 1) := by decide +kernel
theorem pn_4 : plainName cST = true := by first | (simp [plainName, overriddenIn]; done) | decide +kernel
theorem ef_4n4 (m : MethodId) (x0 : Addr) (x1 : Addr) (x2 : Int32) (x3 : Int32) : entryFrame m #[(.ref x0), (.ref x1), (.int x2), (.int x3), .null] 6 = mkF m 0 #[.val (.ref x0), .val (.ref x1), .val (.int x2), .val (.int x3), .val .null, .unset] [] := by first | (simp [entryFrame, mkF, argsToLocals, Value.category]; done) | rfl
def Q_rmI5_1 (Z : State) (a : Addr) (ca : Addr) (i : Int32) (n : Int32) (y0 : Int32) (cs : Int32) (h0 : Heap) (n0 : Nat) (vQ : Option Value) (hQ : Heap) (LQ : List Loc) : Prop := ∃ r : Addr, vQ = none ∧ Fr n0 LQ ∧ Keep h0 hQ [a] ∧ h0.size ≤ r ∧ Exa Z hQ a cST ∧ Fld Z hQ a cST "coder" "B" (.int (0 : Int32)) ∧ Fld Z hQ a cST "value" "[B" (.ref r) ∧ Ia Z hQ r .byte [(nar .byte (y0.toInt8.toInt32))]
set_option maxRecDepth 65536 in
set_option maxHeartbeats 40000000 in
theorem rmI5_1 (l : Launch) (Z : State) (a0 : Array Value) (hw : ∀ d ∈ tables_1, d.before a0 Z = true) (ws : List Jvm.Cond) (a : Addr) (ca : Addr) (i : Int32) (n : Int32) (y0 : Int32) (cs : Int32) (h0 : Heap) (n0 : Nat) (Z0 : n0 ≤ h0.size) (P0 : Fld Z h0 a cST "coder" "B" (.int (0 : Int32))) (P1 : Fld Z h0 a cST "value" "[B" .null) (P2 : Exa Z h0 a cST) (P3 : Ia Z h0 ca .char [y0]) (P4 : Old Z n0 h0) (zCS : Sta Z Z.heap cST "COMPACT_STRINGS" "Z" (.int cs)) (g_a : n0 ≤ a) (hac : a ≠ ca) (hi : i = 0) (hn : n = 1) (hcs : ¬ (cs = (0 : Int32))) (hy0 : ¬ ((255 : Int32) < y0)) :
    MetFree l (⟨cST, "<init>", "([CIILjava/lang/Void;)V"⟩ : MethodName) (head1 (Jvm.Cond.code (⟨cST, "<init>", "([CIILjava/lang/Void;)V"⟩ : MethodName) jdk_42_method_149_code 6 none :: ws) ({ frames := 2, cells := 1, slots := 1, locals := 35 } : Room)) (fun aQ UQ => aQ = #[(.ref a), (.ref ca), (.int i), (.int n), .null] ∧ Z.Warmed39 UQ.vm ∧ UQ.heap = h0) (fun _ _ _ _ _ => True) (fun _ UQ oQ UR => ∃ vQ LQ, oQ = .returned vQ ∧ Q_rmI5_1 Z a ca i n y0 cs h0 n0 vQ UR.heap LQ ∧ FrameEnd UQ oQ UR LQ ({ frames := 2, cells := 1, slots := 1, locals := 35 } : Room).cells ({ frames := 2, cells := 1, slots := 1, locals := 35 } : Room).slots) := by
  refine MetFree.of_bodySF (plainFor_of_name pn_4) hisR ?_
  intro p e s m args below meth c s₁ Bd hml0 hP hK
  obtain ⟨rfl, hZ, hh⟩ := hP
  have hx := Bd.exec
  have hby := Bd.bytes
  have hlk := Bd.notSynchronized
  have hml : c.maxLocals = 6 := hml0
  have hown : s.vm.findClass cST = some m.cls := findClass_of_methodNamed Bd.named
  have hnm := (name_of_methodNamed Bd.named Bd.method).1
  have X0 : Stand p l e ({ frames := 2, cells := 1, slots := 1, locals := 35 } : Room) s m #[(.ref a), (.ref ca), (.int i), (.int n), .null] below meth c s₁ [] 0 0 := Stand.of_body Bd
  have e0 : s₁.heap = h0 := by rw [← hh, Bd.state]; rfl
  have N0 := Fr.nil n0
  show Go p e below _ (Done s (Q_rmI5_1 Z a ca i n y0 cs h0 n0) ({ frames := 2, cells := 1, slots := 1, locals := 35 } : Room).cells ({ frames := 2, cells := 1, slots := 1, locals := 35 } : Room).slots)
  refine Go.via (fun tQ kQ => castTop (ef_4n4 m a ca i n) kQ) ?_
  show Go p e below (s₁.setTop (mkF m 0 #[.val (.ref a), .val (.ref ca), .val (.int i), .val (.int n), .val .null, .unset] [])) _
  · subst hi hn
    show Go p e below (s₁.setTop (mkF m 0 #[.val (.ref a), .val (.ref ca), .val (.int (0 : Int32)), .val (.int (1 : Int32)), .val .null, .unset] [])) _
    refine Go.via (fun _ => XS.aloadN X0.here hx rfl (hb hby d4_0) rfl rfl) ?_
    obtain ⟨T41, X41, e41, st41⟩ := initO X0 hx hZ hown (tw hw 23 rfl) (tw hw 24 rfl) (tw hw 25 rfl) e0 (g := (mkF m 1 #[.val (.ref a), .val (.ref ca), .val (.int (0 : Int32)), .val (.int (1 : Int32)), .val .null, .unset] [(.ref a)])) rfl (by rw [hml]; rfl) rfl (hb hby d4_1) (by decide) (W := 0) (by show 2 * 0 + _ ≤ _; exact Nat.le_of_eq rfl) (by decide)
    refine Go.via (st41) ?_
    clear st41
    clear X0 e0
    show Go p e below (T41.setTop (mkF m 4 #[.val (.ref a), .val (.ref ca), .val (.int (0 : Int32)), .val (.int (1 : Int32)), .val .null, .unset] [])) _
    refine Go.via (fun _ => XS.iloadN X41.here hx rfl (hb hby d4_4) rfl) ?_
    refine Go.via (fun _ => XS.ifYes X41.here hx rfl (pc0 := 5) (pc' := 27) rfl (hb hby d4_5) rfl ((if0 _ _).trans (feq ((by decide) : ¬ ((1 : Int32) = (0 : Int32)))).2) (by decide) (by decide)) ?_
    show Go p e below (T41.setTop (mkF m 27 #[.val (.ref a), .val (.ref ca), .val (.int (0 : Int32)), .val (.int (1 : Int32)), .val .null, .unset] [])) _
    have f42 : Sta Z h0 cST "COMPACT_STRINGS" "Z" (.int cs) := zCS.ext P4.2
    obtain ⟨T43, X43, e43, st43⟩ := getS2 X41 hx hZ hown (host := "") (Or.inl (tw hw 34 rfl)) Via.refl e41 f42 (g := (mkF m 27 #[.val (.ref a), .val (.ref ca), .val (.int (0 : Int32)), .val (.int (1 : Int32)), .val .null, .unset] [])) rfl (hb hby d4_27)
    refine Go.via (st43) ?_
    clear st43
    clear X41 e41
    show Go p e below (T43.setTop (mkF m 30 #[.val (.ref a), .val (.ref ca), .val (.int (0 : Int32)), .val (.int (1 : Int32)), .val .null, .unset] [(.int cs)])) _
    refine Go.via (fun _ => XS.ifNo X43.here hx rfl (hb hby d4_30) rfl ((if0 _ _).trans (feq (hcs : ¬ (cs = (0 : Int32)))).1)) ?_
    show Go p e below (T43.setTop (mkF m 33 #[.val (.ref a), .val (.ref ca), .val (.int (0 : Int32)), .val (.int (1 : Int32)), .val .null, .unset] [])) _
    refine Go.via (fun _ => XS.aloadN X43.here hx rfl (hb hby d4_33) rfl rfl) ?_
    refine Go.via (fun _ => XS.iloadN X43.here hx rfl (hb hby d4_34) rfl) ?_
    refine Go.via (fun _ => XS.iloadN X43.here hx rfl (hb hby d4_35) rfl) ?_
    obtain ⟨r44, _, ⟨T44, L44, k44, n44⟩, -, X44, ⟨Lc44, hQ44, l44, y44, z44⟩, st44⟩ := Jvm.LawKit.callS X43 hx (y := (⟨cU6, "compress", "([CII)[B"⟩ : MethodName)) hown (mvT hZ (tw hw 35 rfl)) (mvT hZ (tw hw 36 rfl)) (mvT hZ (tw hw 37 rfl)) (mvT hZ (tw hw 38 rfl)) (by decide) (backOf (W := 0) (rmC3_1 l Z a0 hw [] ca (0 : Int32) (1 : Int32) y0 h0 n0 Z0 P3 rfl rfl hy0) hZ (tw hw 38 rfl) (tw hw 37 rfl) (by decide) (by decide)) (g := (mkF m 36 #[.val (.ref a), .val (.ref ca), .val (.int (0 : Int32)), .val (.int (1 : Int32)), .val .null, .unset] [(.int (1 : Int32)), (.int (0 : Int32)), (.ref ca)])) rfl (by rw [hml]; rfl) (argsL := [(.ref ca), (.int (0 : Int32)), (.int (1 : Int32))]) (rest := []) (lenOf pd__28_5bCII_29_5bB rfl) rfl (by show 2 * 0 + _ ≤ _; exact Nat.le_of_eq rfl) (hb hby d4_36) (fun _ _ => ⟨rfl, e43, (by decide : 0 + 1 ≤ _), (by decide : 0 + 1 ≤ _)⟩)
    dsimp only [Pt.U, Pt.locs, Pt.cells, Pt.slots] at X44 l44 y44 z44 st44 hQ44
    rw [l44, y44, z44] at X44
    clear l44 y44 z44
    obtain ⟨b45, hr44, N44q, K44q, fz_b45, f46⟩ := hQ44
    rw [hr44] at st44
    clear hr44
    have N44 := Fr.app N0 N44q
    refine Go.via (st44) ?_
    clear st44
    have ne47 : a ≠ b45 := Nat.ne_of_lt (Nat.lt_of_lt_of_le P0.lt fz_b45)
    have ne48 : ca ≠ b45 := Nat.ne_of_lt (Nat.lt_of_lt_of_le P3.lt fz_b45)
    have ge49 : n0 ≤ b45 := Nat.le_trans Z0 fz_b45
    have sz50 : h0.size ≤ b45 := Nat.le_trans (Keep.refl h0 [a]).1 fz_b45
    have e44 : T44.heap = T44.heap := rfl
    have f51 : Ia Z T44.heap b45 .byte [(nar .byte (y0.toInt8.toInt32))] := f46
    clear X43 e43
    show Go p e below (T44.setTop (mkF m 39 #[.val (.ref a), .val (.ref ca), .val (.int (0 : Int32)), .val (.int (1 : Int32)), .val .null, .unset] [(.ref b45)])) _
    refine Go.via (fun _ => XS.astore X44.here hx rfl (hb hby d4_39) rfl rfl (l' := #[.val (.ref a), .val (.ref ca), .val (.int (0 : Int32)), .val (.int (1 : Int32)), .val .null, .val (.ref b45)]) rfl) ?_
    show Go p e below (T44.setTop (mkF m 41 #[.val (.ref a), .val (.ref ca), .val (.int (0 : Int32)), .val (.int (1 : Int32)), .val .null, .val (.ref b45)] [])) _
    refine Go.via (fun _ => XS.aloadN X44.here hx rfl (hb hby d4_41) rfl rfl) ?_
    refine Go.via (fun _ => XS.aload X44.here hx rfl (hb hby d4_42) rfl rfl) ?_
    refine Go.via (fun _ => XS.iloadN X44.here hx rfl (hb hby d4_44) rfl) ?_
    have z53 : n0 ≤ T44.heap.size := (Nat.le_trans Z0 K44q.1)
    obtain ⟨r52, _, ⟨T52, L52, k52, n52⟩, -, X52, ⟨Lc52, hQ52, l52, y52, z52⟩, st52⟩ := Jvm.LawKit.callS X44 hx (y := (⟨cU6, "coderFromArrayLen", "([BI)B"⟩ : MethodName)) hown (mvT hZ (tw hw 42 rfl)) (mvT hZ (tw hw 43 rfl)) (mvT hZ (tw hw 37 rfl)) (mvT hZ (tw hw 44 rfl)) (by decide) (backOf (W := 1) (rmCl_1 l Z a0 hw [] b45 (1 : Int32) (nar .byte (y0.toInt8.toInt32)) T44.heap n0 z53 f51 rfl) hZ (tw hw 44 rfl) (tw hw 37 rfl) (by decide) (by decide)) (g := (mkF m 45 #[.val (.ref a), .val (.ref ca), .val (.int (0 : Int32)), .val (.int (1 : Int32)), .val .null, .val (.ref b45)] [(.int (1 : Int32)), (.ref b45), (.ref a)])) rfl (by rw [hml]; rfl) (argsL := [(.ref b45), (.int (1 : Int32))]) (rest := [(.ref a)]) (lenOf pd__28_5bBI_29B rfl) rfl (by show 2 * 0 + _ ≤ _; exact Nat.le_of_eq rfl) (hb hby d4_45) (fun _ _ => ⟨rfl, e44, (by decide : 1 + 0 ≤ _), (by decide : 1 + 0 ≤ _)⟩)
    dsimp only [Pt.U, Pt.locs, Pt.cells, Pt.slots] at X52 l52 y52 z52 st52 hQ52
    rw [l52, y52, z52] at X52
    clear l52 y52 z52
    obtain ⟨hr52, N52q, eh52⟩ := hQ52
    rw [hr52] at st52
    clear hr52
    have N52 := Fr.app N44 N52q
    refine Go.via (st52) ?_
    clear st52
    have e52 : T52.heap = T44.heap := eh52
    clear X44 e44
    show Go p e below (T52.setTop (mkF m 48 #[.val (.ref a), .val (.ref ca), .val (.int (0 : Int32)), .val (.int (1 : Int32)), .val .null, .val (.ref b45)] [(.int (0 : Int32)), (.ref a)])) _
    have f54 : Fld Z T44.heap a cST "coder" "B" (.int (0 : Int32)) := (P0.keep K44q nin0)
    have f55 : Exa Z T44.heap a cST := (P2.keep K44q)
    obtain ⟨T56, h56, X56, e56, W56, st56⟩ := putF X52 hx hZ hown (host := "") (Or.inl (tw hw 33 rfl)) Via.refl e52 f54 f55 (Or.inr ⟨(tw hw 29 rfl), rfl, hnm⟩) (tw hw 13 rfl) (ty := .byte) (by decide) rfl rfl (g := (mkF m 48 #[.val (.ref a), .val (.ref ca), .val (.int (0 : Int32)), .val (.int (1 : Int32)), .val .null, .val (.ref b45)] [(.int (0 : Int32)), (.ref a)])) rfl rfl (hb hby d4_48)
    refine Go.via (st56) ?_
    clear st56
    have N56 := Fr.snoc X56 N52 g_a
    have f57 : Fld Z h56 a cST "coder" "B" (.int (0 : Int32)) := f54.same W56
    clear X52 e52
    show Go p e below (T56.setTop (mkF m 51 #[.val (.ref a), .val (.ref ca), .val (.int (0 : Int32)), .val (.int (1 : Int32)), .val .null, .val (.ref b45)] [])) _
    refine Go.via (fun _ => XS.aloadN X56.here hx rfl (hb hby d4_51) rfl rfl) ?_
    refine Go.via (fun _ => XS.aload X56.here hx rfl (hb hby d4_52) rfl rfl) ?_
    have f58 : Fld Z h56 a cST "value" "[B" .null := ((P1.keep K44q nin0).other W56 (Or.inr (slot_ne (Or.inr (tw hw 28 rfl)) (Or.inr (tw hw 29 rfl)) (by decide) (t := (.array .byte)) (t' := .byte) (by decide) (by decide))))
    have f59 : Exa Z h56 a cST := (f55.wr W56)
    obtain ⟨T60, h60, X60, e60, W60, st60⟩ := putF X56 hx hZ hown (host := "") (Or.inl (tw hw 32 rfl)) Via.refl e56 f58 f59 (Or.inr ⟨(tw hw 28 rfl), rfl, hnm⟩) (tw hw 13 rfl) (ty := (.array .byte)) (by decide) rfl rfl (g := (mkF m 54 #[.val (.ref a), .val (.ref ca), .val (.int (0 : Int32)), .val (.int (1 : Int32)), .val .null, .val (.ref b45)] [(.ref b45), (.ref a)])) rfl rfl (hb hby d4_54)
    refine Go.via (st60) ?_
    clear st60
    have N60 := Fr.snoc X60 N56 g_a
    have f61 : Fld Z h60 a cST "value" "[B" (.ref b45) := f58.same W60
    clear X56 e56
    show Go p e below (T60.setTop (mkF m 57 #[.val (.ref a), .val (.ref ca), .val (.int (0 : Int32)), .val (.int (1 : Int32)), .val .null, .val (.ref b45)] [])) _
    have k62 : Keep h0 h60 [a] := ((((Keep.refl h0 [a]).trans K44q all0).wr W56 (Or.inl (List.mem_of_getElem? (i := 0) rfl))).wr W60 (Or.inl (List.mem_of_getElem? (i := 0) rfl)))
    have f63 : Exa Z h60 a cST := (f59.wr W60)
    have f64 : Fld Z h60 a cST "coder" "B" (.int (0 : Int32)) := (f57.other W60 (Or.inr (slot_ne (Or.inr (tw hw 29 rfl)) (Or.inr (tw hw 28 rfl)) (by decide) (t := .byte) (t' := (.array .byte)) (by decide) (by decide))))
    have f65 : Ia Z h60 b45 .byte [(nar .byte (y0.toInt8.toInt32))] := ((f51.other W56 (Ne.symm ne47)).other W60 (Ne.symm ne47))
    exact Go.fin X60 hlk (v := none) (fun _ => rfl) (fun fs hr => X60.returnOut hx Bd.returns (hb hby d4_57) hr) (by rw [e60]; exact ⟨b45, rfl, N60, k62, sz50, f63, f64, f61, f65⟩) (by decide) (by decide)
theorem d3_0 : decode jdk_42_method_3_code 0 = .ok (.aload_n 0, 1) := by decide +kernel
theorem d3_1 : decode jdk_42_method_3_code 1 = .ok (.aload_n 1, 1) := by decide +kernel
theorem d3_2 : decode jdk_42_method_3_code 2 = .ok (.iconst 0, 1) := by decide +kernel
theorem d3_3 : decode jdk_42_method_3_code 3 = .ok (.aload_n 1, 1) := by decide +kernel
theorem d3_4 : decode jdk_42_method_3_code 4 = .ok (.arraylength, 1) := by decide +kernel
theorem d3_5 : decode jdk_42_method_3_code 5 = .ok (.aconst_null, 1) := by decide +kernel
theorem d3_6 : decode jdk_42_method_3_code 6 = .ok (.invokespecial 27, 3) := by decide +kernel
theorem pd__28_5bCIILjava_2flang_2fVoid_3b_29V : parseMethodDescriptor "([CIILjava/lang/Void;)V" = some ⟨[(.array .char), .int, .int, (.object "java/lang/Void")], none⟩ := by decide +kernel
theorem d3_9 : decode jdk_42_method_3_code 9 = .ok (.return_, 1) := by decide +kernel
theorem pn_3 : plainName cST = true := by first | (simp [plainName, overriddenIn]; done) | decide +kernel
theorem ef_3 (m : MethodId) (x0 : Addr) (x1 : Addr) : entryFrame m #[(.ref x0), (.ref x1)] 2 = mkF m 0 #[.val (.ref x0), .val (.ref x1)] [] := by first | (simp [entryFrame, mkF, argsToLocals, Value.category]; done) | rfl
def Q_rmI1_1 (Z : State) (a : Addr) (ca : Addr) (y0 : Int32) (cs : Int32) (h0 : Heap) (n0 : Nat) (vQ : Option Value) (hQ : Heap) (LQ : List Loc) : Prop := ∃ r : Addr, vQ = none ∧ Fr n0 LQ ∧ Keep h0 hQ [a] ∧ h0.size ≤ r ∧ Exa Z hQ a cST ∧ Fld Z hQ a cST "coder" "B" (.int (0 : Int32)) ∧ Fld Z hQ a cST "value" "[B" (.ref r) ∧ Ia Z hQ r .byte [(nar .byte (y0.toInt8.toInt32))]
set_option maxRecDepth 65536 in
set_option maxHeartbeats 40000000 in
theorem rmI1_1 (l : Launch) (Z : State) (a0 : Array Value) (hw : ∀ d ∈ tables_1, d.before a0 Z = true) (ws : List Jvm.Cond) (a : Addr) (ca : Addr) (y0 : Int32) (cs : Int32) (h0 : Heap) (n0 : Nat) (Z0 : n0 ≤ h0.size) (P0 : Fld Z h0 a cST "coder" "B" (.int (0 : Int32))) (P1 : Fld Z h0 a cST "value" "[B" .null) (P2 : Exa Z h0 a cST) (P3 : Ia Z h0 ca .char [y0]) (P4 : Old Z n0 h0) (zCS : Sta Z Z.heap cST "COMPACT_STRINGS" "Z" (.int cs)) (g_a : n0 ≤ a) (hac : a ≠ ca) (hcs : ¬ (cs = (0 : Int32))) (hy0 : ¬ ((255 : Int32) < y0)) :
    MetFree l (⟨cST, "<init>", "([C)V"⟩ : MethodName) (head1 (Jvm.Cond.code (⟨cST, "<init>", "([C)V"⟩ : MethodName) jdk_42_method_3_code 2 none :: ws) ({ frames := 3, cells := 1, slots := 1, locals := 52 } : Room)) (fun aQ UQ => aQ = #[(.ref a), (.ref ca)] ∧ Z.Warmed39 UQ.vm ∧ UQ.heap = h0) (fun _ _ _ _ _ => True) (fun _ UQ oQ UR => ∃ vQ LQ, oQ = .returned vQ ∧ Q_rmI1_1 Z a ca y0 cs h0 n0 vQ UR.heap LQ ∧ FrameEnd UQ oQ UR LQ ({ frames := 3, cells := 1, slots := 1, locals := 52 } : Room).cells ({ frames := 3, cells := 1, slots := 1, locals := 52 } : Room).slots) := by
  refine MetFree.of_bodySF (plainFor_of_name pn_3) hisR ?_
  intro p e s m args below meth c s₁ Bd hml0 hP hK
  obtain ⟨rfl, hZ, hh⟩ := hP
  have hx := Bd.exec
  have hby := Bd.bytes
  have hlk := Bd.notSynchronized
  have hml : c.maxLocals = 2 := hml0
  have hown : s.vm.findClass cST = some m.cls := findClass_of_methodNamed Bd.named
  have hnm := (name_of_methodNamed Bd.named Bd.method).1
  have X0 : Stand p l e ({ frames := 3, cells := 1, slots := 1, locals := 52 } : Room) s m #[(.ref a), (.ref ca)] below meth c s₁ [] 0 0 := Stand.of_body Bd
  have e0 : s₁.heap = h0 := by rw [← hh, Bd.state]; rfl
  have N0 := Fr.nil n0
  show Go p e below _ (Done s (Q_rmI1_1 Z a ca y0 cs h0 n0) ({ frames := 3, cells := 1, slots := 1, locals := 52 } : Room).cells ({ frames := 3, cells := 1, slots := 1, locals := 52 } : Room).slots)
  refine Go.via (fun tQ kQ => castTop (ef_3 m a ca) kQ) ?_
  show Go p e below (s₁.setTop (mkF m 0 #[.val (.ref a), .val (.ref ca)] [])) _
  refine Go.via (fun _ => XS.aloadN X0.here hx rfl (hb hby d3_0) rfl rfl) ?_
  refine Go.via (fun _ => XS.aloadN X0.here hx rfl (hb hby d3_1) rfl rfl) ?_
  refine Go.via (fun _ => XS.iconst X0.here hx rfl (hb hby d3_2)) ?_
  refine Go.via (fun _ => XS.aloadN X0.here hx rfl (hb hby d3_3) rfl rfl) ?_
  show Go p e below (s₁.setTop (mkF m 4 #[.val (.ref a), .val (.ref ca)] [(.ref ca), (.int (0 : Int32)), (.ref ca), (.ref a)])) _
  refine Go.via (lenI X0 hx hZ e0 P3 (n := (1 : Int32)) rfl (g := (mkF m 4 #[.val (.ref a), .val (.ref ca)] [(.ref ca), (.int (0 : Int32)), (.ref ca), (.ref a)])) rfl rfl (hb hby d3_4)) ?_
  show Go p e below (s₁.setTop (mkF m 5 #[.val (.ref a), .val (.ref ca)] [(.int (1 : Int32)), (.int (0 : Int32)), (.ref ca), (.ref a)])) _
  refine Go.via (fun _ => XS.aconstNull X0.here hx rfl (hb hby d3_5)) ?_
  show Go p e below (s₁.setTop (mkF m 6 #[.val (.ref a), .val (.ref ca)] [.null, (.int (1 : Int32)), (.int (0 : Int32)), (.ref ca), (.ref a)])) _
  obtain ⟨r66, _, ⟨T66, L66, k66, n66⟩, -, X66, ⟨Lc66, hQ66, l66, y66, z66⟩, st66⟩ := X0.specialBack hx (y := (⟨cST, "<init>", "([CIILjava/lang/Void;)V"⟩ : MethodName)) rfl hown (mvT hZ (tw hw 19 rfl)) (mvT hZ (tw hw 20 rfl)) (mvT hZ (tw hw 22 rfl)) (by decide) (backOf (W := 0) (rmI5_1 l Z a0 hw [] a ca (0 : Int32) (1 : Int32) y0 cs h0 n0 Z0 P0 P1 P2 P3 P4 zCS g_a hac rfl rfl hcs hy0) hZ (tw hw 22 rfl) (tw hw 14 rfl) (by decide) (by decide)) (g := (mkF m 6 #[.val (.ref a), .val (.ref ca)] [.null, (.int (1 : Int32)), (.int (0 : Int32)), (.ref ca), (.ref a)])) rfl (by rw [hml]; rfl) (Steps.refl _) (a := a) (argsL := [(.ref ca), (.int (0 : Int32)), (.int (1 : Int32)), .null]) (rest := []) (lenOf pd__28_5bCIILjava_2flang_2fVoid_3b_29V rfl) rfl (by show 2 * 0 + _ ≤ _; exact Nat.le_of_eq rfl) (hb hby d3_6) (fun _ _ => ⟨rfl, e0, (by decide : 0 + 1 ≤ _), (by decide : 0 + 1 ≤ _)⟩)
  dsimp only [Pt.U, Pt.locs, Pt.cells, Pt.slots] at X66 l66 y66 z66 st66 hQ66
  rw [l66, y66, z66] at X66
  clear l66 y66 z66
  obtain ⟨b67, hr66, N66q, K66q, fz_b67, f68, f69, f70, f71⟩ := hQ66
  rw [hr66] at st66
  clear hr66
  have N66 := Fr.app N0 N66q
  refine Go.via (fun _ kQ => st66.trans kQ) ?_
  clear st66
  have ne72 : a ≠ b67 := Nat.ne_of_lt (Nat.lt_of_lt_of_le P0.lt fz_b67)
  have ne73 : ca ≠ b67 := Nat.ne_of_lt (Nat.lt_of_lt_of_le P3.lt fz_b67)
  have ge74 : n0 ≤ b67 := Nat.le_trans Z0 fz_b67
  have sz75 : h0.size ≤ b67 := Nat.le_trans (Keep.refl h0 [a]).1 fz_b67
  have e66 : T66.heap = T66.heap := rfl
  have f76 : Exa Z T66.heap a cST := f68
  have f77 : Fld Z T66.heap a cST "coder" "B" (.int (0 : Int32)) := f69
  have f78 : Fld Z T66.heap a cST "value" "[B" (.ref b67) := f70
  have f79 : Ia Z T66.heap b67 .byte [(nar .byte (y0.toInt8.toInt32))] := f71
  clear X0 e0
  show Go p e below (T66.setTop (mkF m 9 #[.val (.ref a), .val (.ref ca)] [])) _
  have k80 : Keep h0 T66.heap [a] := ((Keep.refl h0 [a]).trans K66q (allS (Or.inl (List.mem_of_getElem? (i := 0) rfl)) all0))
  exact Go.fin X66 hlk (v := none) (fun _ => rfl) (fun fs hr => X66.returnOut hx Bd.returns (hb hby d3_9) hr) (by exact ⟨b67, rfl, N66, k80, sz75, f76, f77, f78, f79⟩) (by decide) (by decide)
def Q_rmC5_2 (Z : State) (ca : Addr) (i : Int32) (ba : Addr) (j : Int32) (n : Int32) (y0 : Int32) (y1 : Int32) (h0 : Heap) (n0 : Nat) (vQ : Option Value) (hQ : Heap) (LQ : List Loc) : Prop := vQ = some (.int (2 : Int32)) ∧ Fr n0 LQ ∧ Keep h0 hQ [ba] ∧ Ia Z hQ ba .byte [(nar .byte (y0.toInt8.toInt32)), (nar .byte (y1.toInt8.toInt32))]
set_option maxRecDepth 65536 in
set_option maxHeartbeats 40000000 in
theorem rmC5_2 (l : Launch) (Z : State) (a0 : Array Value) (hw : ∀ d ∈ tables_1, d.before a0 Z = true) (ws : List Jvm.Cond) (ca : Addr) (i : Int32) (ba : Addr) (j : Int32) (n : Int32) (y0 : Int32) (y1 : Int32) (h0 : Heap) (n0 : Nat) (Z0 : n0 ≤ h0.size) (P0 : Ia Z h0 ca .char [y0, y1]) (P1 : Ia Z h0 ba .byte [(0 : Int32), (0 : Int32)]) (g_ba : n0 ≤ ba) (hcb : ca ≠ ba) (hi : i = 0) (hj : j = 0) (hn : n = 2) (hy0 : ¬ ((255 : Int32) < y0)) (hy1 : ¬ ((255 : Int32) < y1)) :
    MetFree l (⟨cU6, "compress", "([CI[BII)I"⟩ : MethodName) (head1 (Jvm.Cond.code (⟨cU6, "compress", "([CI[BII)I"⟩ : MethodName) jdk_52_method_21_code 7 (some .int) :: ws) ({ frames := 0, cells := 0, slots := 0, locals := 0 } : Room)) (fun aQ UQ => aQ = #[(.ref ca), (.int i), (.ref ba), (.int j), (.int n)] ∧ Z.Warmed39 UQ.vm ∧ UQ.heap = h0) (fun _ _ _ _ _ => True) (fun _ UQ oQ UR => ∃ vQ LQ, oQ = .returned vQ ∧ Q_rmC5_2 Z ca i ba j n y0 y1 h0 n0 vQ UR.heap LQ ∧ FrameEnd UQ oQ UR LQ ({ frames := 0, cells := 0, slots := 0, locals := 0 } : Room).cells ({ frames := 0, cells := 0, slots := 0, locals := 0 } : Room).slots) := by
  refine MetFree.of_bodySF (plainFor_of_name pn_7) hisR ?_
  intro p e s m args below meth c s₁ Bd hml0 hP hK
  obtain ⟨rfl, hZ, hh⟩ := hP
  have hx := Bd.exec
  have hby := Bd.bytes
  have hlk := Bd.notSynchronized
  have hml : c.maxLocals = 7 := hml0
  have hown : s.vm.findClass cU6 = some m.cls := findClass_of_methodNamed Bd.named
  have hnm := (name_of_methodNamed Bd.named Bd.method).1
  have X0 : Stand p l e ({ frames := 0, cells := 0, slots := 0, locals := 0 } : Room) s m #[(.ref ca), (.int i), (.ref ba), (.int j), (.int n)] below meth c s₁ [] 0 0 := Stand.of_body Bd
  have e0 : s₁.heap = h0 := by rw [← hh, Bd.state]; rfl
  have N0 := Fr.nil n0
  show Go p e below _ (Done s (Q_rmC5_2 Z ca i ba j n y0 y1 h0 n0) ({ frames := 0, cells := 0, slots := 0, locals := 0 } : Room).cells ({ frames := 0, cells := 0, slots := 0, locals := 0 } : Room).slots)
  refine Go.via (fun tQ kQ => castTop (ef_7 m ca i ba j n) kQ) ?_
  show Go p e below (s₁.setTop (mkF m 0 #[.val (.ref ca), .val (.int i), .val (.ref ba), .val (.int j), .val (.int n), .unset, .unset] [])) _
  · subst hi hj hn
    show Go p e below (s₁.setTop (mkF m 0 #[.val (.ref ca), .val (.int (0 : Int32)), .val (.ref ba), .val (.int (0 : Int32)), .val (.int (2 : Int32)), .unset, .unset] [])) _
    refine Go.via (fun _ => XS.iconst X0.here hx rfl (hb hby d7_0)) ?_
    refine Go.via (fun _ => XS.istore X0.here hx rfl (hb hby d7_1) rfl (l' := #[.val (.ref ca), .val (.int (0 : Int32)), .val (.ref ba), .val (.int (0 : Int32)), .val (.int (2 : Int32)), .val (.int (0 : Int32)), .unset]) rfl) ?_
    show Go p e below (s₁.setTop (mkF m 3 #[.val (.ref ca), .val (.int (0 : Int32)), .val (.ref ba), .val (.int (0 : Int32)), .val (.int (2 : Int32)), .val (.int (0 : Int32)), .unset] [])) _
    refine Go.via (fun _ => XS.iload X0.here hx rfl (hb hby d7_3) rfl) ?_
    refine Go.via (fun _ => XS.iload X0.here hx rfl (hb hby d7_5) rfl) ?_
    refine Go.via (fun _ => XS.icmpNo X0.here hx rfl (hb hby d7_7) rfl (tlt ((by decide) : (0 : Int32) < (2 : Int32))).2.1) ?_
    show Go p e below (s₁.setTop (mkF m 10 #[.val (.ref ca), .val (.int (0 : Int32)), .val (.ref ba), .val (.int (0 : Int32)), .val (.int (2 : Int32)), .val (.int (0 : Int32)), .unset] [])) _
    refine Go.via (fun _ => XS.aloadN X0.here hx rfl (hb hby d7_10) rfl rfl) ?_
    refine Go.via (fun _ => XS.iloadN X0.here hx rfl (hb hby d7_11) rfl) ?_
    refine Go.via (ldC X0 hx hZ e0 P0 (v := y0) (by decide) rfl (g := (mkF m 12 #[.val (.ref ca), .val (.int (0 : Int32)), .val (.ref ba), .val (.int (0 : Int32)), .val (.int (2 : Int32)), .val (.int (0 : Int32)), .unset] [(.int (0 : Int32)), (.ref ca)])) rfl rfl (hb hby d7_12)) ?_
    show Go p e below (s₁.setTop (mkF m 13 #[.val (.ref ca), .val (.int (0 : Int32)), .val (.ref ba), .val (.int (0 : Int32)), .val (.int (2 : Int32)), .val (.int (0 : Int32)), .unset] [(.int y0)])) _
    refine Go.via (fun _ => XS.istore X0.here hx rfl (hb hby d7_13) rfl (l' := #[.val (.ref ca), .val (.int (0 : Int32)), .val (.ref ba), .val (.int (0 : Int32)), .val (.int (2 : Int32)), .val (.int (0 : Int32)), .val (.int y0)]) rfl) ?_
    show Go p e below (s₁.setTop (mkF m 15 #[.val (.ref ca), .val (.int (0 : Int32)), .val (.ref ba), .val (.int (0 : Int32)), .val (.int (2 : Int32)), .val (.int (0 : Int32)), .val (.int y0)] [])) _
    refine Go.via (fun _ => XS.iload X0.here hx rfl (hb hby d7_15) rfl) ?_
    refine Go.via (fun _ => XS.sipush X0.here hx rfl (hb hby d7_17)) ?_
    refine Go.via (fun _ => XS.icmpYes X0.here hx rfl (pc0 := 20) (pc' := 26) rfl (hb hby d7_20) rfl (flt (hy0 : ¬ ((255 : Int32) < y0))).2.2.2 (by decide) (by decide)) ?_
    show Go p e below (s₁.setTop (mkF m 26 #[.val (.ref ca), .val (.int (0 : Int32)), .val (.ref ba), .val (.int (0 : Int32)), .val (.int (2 : Int32)), .val (.int (0 : Int32)), .val (.int y0)] [])) _
    refine Go.via (fun _ => XS.aloadN X0.here hx rfl (hb hby d7_26) rfl rfl) ?_
    refine Go.via (fun _ => XS.iloadN X0.here hx rfl (hb hby d7_27) rfl) ?_
    refine Go.via (fun _ => XS.iload X0.here hx rfl (hb hby d7_28) rfl) ?_
    refine Go.via (fun _ => XS.i2b X0.here hx rfl (hb hby d7_30) rfl) ?_
    show Go p e below (s₁.setTop (mkF m 31 #[.val (.ref ca), .val (.int (0 : Int32)), .val (.ref ba), .val (.int (0 : Int32)), .val (.int (2 : Int32)), .val (.int (0 : Int32)), .val (.int y0)] [(.int (y0.toInt8.toInt32)), (.int (0 : Int32)), (.ref ba)])) _
    obtain ⟨T81, h81, X81, e81, W81, V81, st81⟩ := stB' X0 hx hZ e0 P1 (j := (0 : Int32)) (by decide) (by first | decide | (simp only [List.length_cons, List.length_nil]; decide) | rfl) (g := (mkF m 31 #[.val (.ref ca), .val (.int (0 : Int32)), .val (.ref ba), .val (.int (0 : Int32)), .val (.int (2 : Int32)), .val (.int (0 : Int32)), .val (.int y0)] [(.int (y0.toInt8.toInt32)), (.int (0 : Int32)), (.ref ba)])) rfl rfl (hb hby d7_31)
    refine Go.via (st81) ?_
    clear st81
    have N81 := Fr.snoc X81 N0 g_ba
    have f82 : Ia Z h81 ba .byte [(nar .byte (y0.toInt8.toInt32)), (0 : Int32)] := V81
    clear X0 e0
    show Go p e below (T81.setTop (mkF m 32 #[.val (.ref ca), .val (.int (0 : Int32)), .val (.ref ba), .val (.int (0 : Int32)), .val (.int (2 : Int32)), .val (.int (0 : Int32)), .val (.int y0)] [])) _
    refine Go.via (fun _ => XS.iinc X81.here hx rfl (hb hby d7_32) rfl (l' := #[.val (.ref ca), .val (.int (1 : Int32)), .val (.ref ba), .val (.int (0 : Int32)), .val (.int (2 : Int32)), .val (.int (0 : Int32)), .val (.int y0)]) rfl) ?_
    show Go p e below (T81.setTop (mkF m 35 #[.val (.ref ca), .val (.int (1 : Int32)), .val (.ref ba), .val (.int (0 : Int32)), .val (.int (2 : Int32)), .val (.int (0 : Int32)), .val (.int y0)] [])) _
    refine Go.via (fun _ => XS.iinc X81.here hx rfl (hb hby d7_35) rfl (l' := #[.val (.ref ca), .val (.int (1 : Int32)), .val (.ref ba), .val (.int (1 : Int32)), .val (.int (2 : Int32)), .val (.int (0 : Int32)), .val (.int y0)]) rfl) ?_
    show Go p e below (T81.setTop (mkF m 38 #[.val (.ref ca), .val (.int (1 : Int32)), .val (.ref ba), .val (.int (1 : Int32)), .val (.int (2 : Int32)), .val (.int (0 : Int32)), .val (.int y0)] [])) _
    refine Go.via (fun _ => XS.iinc X81.here hx rfl (hb hby d7_38) rfl (l' := #[.val (.ref ca), .val (.int (1 : Int32)), .val (.ref ba), .val (.int (1 : Int32)), .val (.int (2 : Int32)), .val (.int (1 : Int32)), .val (.int y0)]) rfl) ?_
    show Go p e below (T81.setTop (mkF m 41 #[.val (.ref ca), .val (.int (1 : Int32)), .val (.ref ba), .val (.int (1 : Int32)), .val (.int (2 : Int32)), .val (.int (1 : Int32)), .val (.int y0)] [])) _
    refine Go.via (fun _ => XS.goto X81.here hx rfl (pc0 := 41) (pc' := 3) rfl (hb hby d7_41) (by decide) (by decide)) ?_
    refine Go.via (fun _ => XS.iload X81.here hx rfl (hb hby d7_3) rfl) ?_
    refine Go.via (fun _ => XS.iload X81.here hx rfl (hb hby d7_5) rfl) ?_
    refine Go.via (fun _ => XS.icmpNo X81.here hx rfl (hb hby d7_7) rfl (tlt ((by decide) : (1 : Int32) < (2 : Int32))).2.1) ?_
    show Go p e below (T81.setTop (mkF m 10 #[.val (.ref ca), .val (.int (1 : Int32)), .val (.ref ba), .val (.int (1 : Int32)), .val (.int (2 : Int32)), .val (.int (1 : Int32)), .val (.int y0)] [])) _
    refine Go.via (fun _ => XS.aloadN X81.here hx rfl (hb hby d7_10) rfl rfl) ?_
    refine Go.via (fun _ => XS.iloadN X81.here hx rfl (hb hby d7_11) rfl) ?_
    have f83 : Ia Z h81 ca .char [y0, y1] := (P0.other W81 hcb)
    refine Go.via (ldC X81 hx hZ e81 f83 (v := y1) (by decide) rfl (g := (mkF m 12 #[.val (.ref ca), .val (.int (1 : Int32)), .val (.ref ba), .val (.int (1 : Int32)), .val (.int (2 : Int32)), .val (.int (1 : Int32)), .val (.int y0)] [(.int (1 : Int32)), (.ref ca)])) rfl rfl (hb hby d7_12)) ?_
    show Go p e below (T81.setTop (mkF m 13 #[.val (.ref ca), .val (.int (1 : Int32)), .val (.ref ba), .val (.int (1 : Int32)), .val (.int (2 : Int32)), .val (.int (1 : Int32)), .val (.int y0)] [(.int y1)])) _
    refine Go.via (fun _ => XS.istore X81.here hx rfl (hb hby d7_13) rfl (l' := #[.val (.ref ca), .val (.int (1 : Int32)), .val (.ref ba), .val (.int (1 : Int32)), .val (.int (2 : Int32)), .val (.int (1 : Int32)), .val (.int y1)]) rfl) ?_
    show Go p e below (T81.setTop (mkF m 15 #[.val (.ref ca), .val (.int (1 : Int32)), .val (.ref ba), .val (.int (1 : Int32)), .val (.int (2 : Int32)), .val (.int (1 : Int32)), .val (.int y1)] [])) _
    refine Go.via (fun _ => XS.iload X81.here hx rfl (hb hby d7_15) rfl) ?_
    refine Go.via (fun _ => XS.sipush X81.here hx rfl (hb hby d7_17)) ?_
    refine Go.via (fun _ => XS.icmpYes X81.here hx rfl (pc0 := 20) (pc' := 26) rfl (hb hby d7_20) rfl (flt (hy1 : ¬ ((255 : Int32) < y1))).2.2.2 (by decide) (by decide)) ?_
    show Go p e below (T81.setTop (mkF m 26 #[.val (.ref ca), .val (.int (1 : Int32)), .val (.ref ba), .val (.int (1 : Int32)), .val (.int (2 : Int32)), .val (.int (1 : Int32)), .val (.int y1)] [])) _
    refine Go.via (fun _ => XS.aloadN X81.here hx rfl (hb hby d7_26) rfl rfl) ?_
    refine Go.via (fun _ => XS.iloadN X81.here hx rfl (hb hby d7_27) rfl) ?_
    refine Go.via (fun _ => XS.iload X81.here hx rfl (hb hby d7_28) rfl) ?_
    refine Go.via (fun _ => XS.i2b X81.here hx rfl (hb hby d7_30) rfl) ?_
    show Go p e below (T81.setTop (mkF m 31 #[.val (.ref ca), .val (.int (1 : Int32)), .val (.ref ba), .val (.int (1 : Int32)), .val (.int (2 : Int32)), .val (.int (1 : Int32)), .val (.int y1)] [(.int (y1.toInt8.toInt32)), (.int (1 : Int32)), (.ref ba)])) _
    obtain ⟨T84, h84, X84, e84, W84, V84, st84⟩ := stB' X81 hx hZ e81 f82 (j := (1 : Int32)) (by decide) (by first | decide | (simp only [List.length_cons, List.length_nil]; decide) | rfl) (g := (mkF m 31 #[.val (.ref ca), .val (.int (1 : Int32)), .val (.ref ba), .val (.int (1 : Int32)), .val (.int (2 : Int32)), .val (.int (1 : Int32)), .val (.int y1)] [(.int (y1.toInt8.toInt32)), (.int (1 : Int32)), (.ref ba)])) rfl rfl (hb hby d7_31)
    refine Go.via (st84) ?_
    clear st84
    have N84 := Fr.snoc X84 N81 g_ba
    have f85 : Ia Z h84 ba .byte [(nar .byte (y0.toInt8.toInt32)), (nar .byte (y1.toInt8.toInt32))] := V84
    clear X81 e81
    show Go p e below (T84.setTop (mkF m 32 #[.val (.ref ca), .val (.int (1 : Int32)), .val (.ref ba), .val (.int (1 : Int32)), .val (.int (2 : Int32)), .val (.int (1 : Int32)), .val (.int y1)] [])) _
    refine Go.via (fun _ => XS.iinc X84.here hx rfl (hb hby d7_32) rfl (l' := #[.val (.ref ca), .val (.int (2 : Int32)), .val (.ref ba), .val (.int (1 : Int32)), .val (.int (2 : Int32)), .val (.int (1 : Int32)), .val (.int y1)]) rfl) ?_
    show Go p e below (T84.setTop (mkF m 35 #[.val (.ref ca), .val (.int (2 : Int32)), .val (.ref ba), .val (.int (1 : Int32)), .val (.int (2 : Int32)), .val (.int (1 : Int32)), .val (.int y1)] [])) _
    refine Go.via (fun _ => XS.iinc X84.here hx rfl (hb hby d7_35) rfl (l' := #[.val (.ref ca), .val (.int (2 : Int32)), .val (.ref ba), .val (.int (2 : Int32)), .val (.int (2 : Int32)), .val (.int (1 : Int32)), .val (.int y1)]) rfl) ?_
    show Go p e below (T84.setTop (mkF m 38 #[.val (.ref ca), .val (.int (2 : Int32)), .val (.ref ba), .val (.int (2 : Int32)), .val (.int (2 : Int32)), .val (.int (1 : Int32)), .val (.int y1)] [])) _
    refine Go.via (fun _ => XS.iinc X84.here hx rfl (hb hby d7_38) rfl (l' := #[.val (.ref ca), .val (.int (2 : Int32)), .val (.ref ba), .val (.int (2 : Int32)), .val (.int (2 : Int32)), .val (.int (2 : Int32)), .val (.int y1)]) rfl) ?_
    show Go p e below (T84.setTop (mkF m 41 #[.val (.ref ca), .val (.int (2 : Int32)), .val (.ref ba), .val (.int (2 : Int32)), .val (.int (2 : Int32)), .val (.int (2 : Int32)), .val (.int y1)] [])) _
    refine Go.via (fun _ => XS.goto X84.here hx rfl (pc0 := 41) (pc' := 3) rfl (hb hby d7_41) (by decide) (by decide)) ?_
    refine Go.via (fun _ => XS.iload X84.here hx rfl (hb hby d7_3) rfl) ?_
    refine Go.via (fun _ => XS.iload X84.here hx rfl (hb hby d7_5) rfl) ?_
    refine Go.via (fun _ => XS.icmpYes X84.here hx rfl (pc0 := 7) (pc' := 44) rfl (hb hby d7_7) rfl (flt ((by decide) : ¬ ((2 : Int32) < (2 : Int32)))).2.1 (by decide) (by decide)) ?_
    show Go p e below (T84.setTop (mkF m 44 #[.val (.ref ca), .val (.int (2 : Int32)), .val (.ref ba), .val (.int (2 : Int32)), .val (.int (2 : Int32)), .val (.int (2 : Int32)), .val (.int y1)] [])) _
    refine Go.via (fun _ => XS.iload X84.here hx rfl (hb hby d7_44) rfl) ?_
    have k86 : Keep h0 h84 [ba] := (((Keep.refl h0 [ba]).wr W81 (Or.inl (List.mem_of_getElem? (i := 0) rfl))).wr W84 (Or.inl (List.mem_of_getElem? (i := 0) rfl)))
    exact Go.fin X84 hlk (v := some (.int (2 : Int32))) (fun h => by rw [Bd.returns] at h; cases h) (fun fs hr => OwnKit.retI X84 hx Bd.returns (hb hby d7_46) hr) (by rw [e84]; exact ⟨rfl, N84, k86, f85⟩) (by decide) (by decide)
def Q_rmC3_2 (Z : State) (ca : Addr) (i : Int32) (n : Int32) (y0 : Int32) (y1 : Int32) (h0 : Heap) (n0 : Nat) (vQ : Option Value) (hQ : Heap) (LQ : List Loc) : Prop := ∃ r : Addr, vQ = some (.ref r) ∧ Fr n0 LQ ∧ Keep h0 hQ [] ∧ h0.size ≤ r ∧ Ia Z hQ r .byte [(nar .byte (y0.toInt8.toInt32)), (nar .byte (y1.toInt8.toInt32))]
set_option maxRecDepth 65536 in
set_option maxHeartbeats 40000000 in
theorem rmC3_2 (l : Launch) (Z : State) (a0 : Array Value) (hw : ∀ d ∈ tables_1, d.before a0 Z = true) (ws : List Jvm.Cond) (ca : Addr) (i : Int32) (n : Int32) (y0 : Int32) (y1 : Int32) (h0 : Heap) (n0 : Nat) (Z0 : n0 ≤ h0.size) (P0 : Ia Z h0 ca .char [y0, y1]) (hi : i = 0) (hn : n = 2) (hy0 : ¬ ((255 : Int32) < y0)) (hy1 : ¬ ((255 : Int32) < y1)) :
    MetFree l (⟨cU6, "compress", "([CII)[B"⟩ : MethodName) (head1 (Jvm.Cond.code (⟨cU6, "compress", "([CII)[B"⟩ : MethodName) jdk_52_method_16_code 6 (some (.array .byte)) :: ws) ({ frames := 1, cells := 1, slots := 2, locals := 18 } : Room)) (fun aQ UQ => aQ = #[(.ref ca), (.int i), (.int n)] ∧ Z.Warmed39 UQ.vm ∧ UQ.heap = h0) (fun _ _ _ _ _ => True) (fun _ UQ oQ UR => ∃ vQ LQ, oQ = .returned vQ ∧ Q_rmC3_2 Z ca i n y0 y1 h0 n0 vQ UR.heap LQ ∧ FrameEnd UQ oQ UR LQ ({ frames := 1, cells := 1, slots := 2, locals := 18 } : Room).cells ({ frames := 1, cells := 1, slots := 2, locals := 18 } : Room).slots) := by
  refine MetFree.of_bodySF (plainFor_of_name pn_6) hisR ?_
  intro p e s m args below meth c s₁ Bd hml0 hP hK
  obtain ⟨rfl, hZ, hh⟩ := hP
  have hx := Bd.exec
  have hby := Bd.bytes
  have hlk := Bd.notSynchronized
  have hml : c.maxLocals = 6 := hml0
  have hown : s.vm.findClass cU6 = some m.cls := findClass_of_methodNamed Bd.named
  have hnm := (name_of_methodNamed Bd.named Bd.method).1
  have X0 : Stand p l e ({ frames := 1, cells := 1, slots := 2, locals := 18 } : Room) s m #[(.ref ca), (.int i), (.int n)] below meth c s₁ [] 0 0 := Stand.of_body Bd
  have e0 : s₁.heap = h0 := by rw [← hh, Bd.state]; rfl
  have N0 := Fr.nil n0
  show Go p e below _ (Done s (Q_rmC3_2 Z ca i n y0 y1 h0 n0) ({ frames := 1, cells := 1, slots := 2, locals := 18 } : Room).cells ({ frames := 1, cells := 1, slots := 2, locals := 18 } : Room).slots)
  refine Go.via (fun tQ kQ => castTop (ef_6 m ca i n) kQ) ?_
  show Go p e below (s₁.setTop (mkF m 0 #[.val (.ref ca), .val (.int i), .val (.int n), .unset, .unset, .unset] [])) _
  · subst hi hn
    show Go p e below (s₁.setTop (mkF m 0 #[.val (.ref ca), .val (.int (0 : Int32)), .val (.int (2 : Int32)), .unset, .unset, .unset] [])) _
    refine Go.via (fun _ => XS.iloadN X0.here hx rfl (hb hby d6_0) rfl) ?_
    obtain ⟨T87, h87, k87, X87, e87, E87, A87, B87, st87⟩ := newPE X0 hx hZ (tw hw 27 rfl) e0 (g := (mkF m 1 #[.val (.ref ca), .val (.int (0 : Int32)), .val (.int (2 : Int32)), .unset, .unset, .unset] [(.int (2 : Int32))])) rfl (hb hby d6_1) rfl (by decide) (cap := 2) (by decide) (by decide) (by decide) (by decide) (ad := "[B") (by decide)
    obtain ⟨b87, g87⟩ : ∃ z, z = h0.size := ⟨_, rfl⟩
    rw [← g87] at A87 B87 st87
    have ne88 : ca ≠ b87 := Nat.ne_of_lt (Nat.lt_of_lt_of_le P0.lt (Nat.le_of_eq g87.symm))
    have ge89 : n0 ≤ b87 := Nat.le_trans Z0 (Nat.le_of_eq g87.symm)
    have sz90 : h0.size ≤ b87 := Nat.le_trans (Keep.refl h0 []).1 (Nat.le_of_eq g87.symm)
    refine Go.via (st87) ?_
    clear st87
    have f91 : Ia Z h87 b87 .byte [(0 : Int32), (0 : Int32)] := Ia.new A87 rfl
    clear X0 e0
    show Go p e below (T87.setTop (mkF m 3 #[.val (.ref ca), .val (.int (0 : Int32)), .val (.int (2 : Int32)), .unset, .unset, .unset] [(.ref b87)])) _
    refine Go.via (fun _ => XS.astoreN X87.here hx rfl (hb hby d6_3) rfl rfl (l' := #[.val (.ref ca), .val (.int (0 : Int32)), .val (.int (2 : Int32)), .val (.ref b87), .unset, .unset]) rfl) ?_
    show Go p e below (T87.setTop (mkF m 4 #[.val (.ref ca), .val (.int (0 : Int32)), .val (.int (2 : Int32)), .val (.ref b87), .unset, .unset] [])) _
    refine Go.via (fun _ => XS.aloadN X87.here hx rfl (hb hby d6_4) rfl rfl) ?_
    refine Go.via (fun _ => XS.iloadN X87.here hx rfl (hb hby d6_5) rfl) ?_
    refine Go.via (fun _ => XS.aloadN X87.here hx rfl (hb hby d6_6) rfl rfl) ?_
    refine Go.via (fun _ => XS.iconst X87.here hx rfl (hb hby d6_7)) ?_
    show Go p e below (T87.setTop (mkF m 8 #[.val (.ref ca), .val (.int (0 : Int32)), .val (.int (2 : Int32)), .val (.ref b87), .unset, .unset] [(.int (0 : Int32)), (.ref b87), (.int (0 : Int32)), (.ref ca)])) _
    refine Go.via (fun _ => XS.iloadN X87.here hx rfl (hb hby d6_8) rfl) ?_
    have f92 : Ia Z h87 ca .char [y0, y1] := (P0.ext E87)
    have z94 : n0 ≤ h87.size := (Nat.le_trans Z0 E87.1)
    obtain ⟨r93, _, ⟨T93, L93, k93, n93⟩, -, X93, ⟨Lc93, hQ93, l93, y93, z93⟩, st93⟩ := Jvm.LawKit.callS X87 hx (y := (⟨cU6, "compress", "([CI[BII)I"⟩ : MethodName)) hown (mvT hZ (tw hw 39 rfl)) (mvT hZ (tw hw 40 rfl)) (mvT hZ (tw hw 37 rfl)) (mvT hZ (tw hw 41 rfl)) (by decide) (backOf (W := 0) (rmC5_2 l Z a0 hw [] ca (0 : Int32) b87 (0 : Int32) (2 : Int32) y0 y1 h87 n0 z94 f92 f91 ge89 ne88 rfl rfl rfl hy0 hy1) hZ (tw hw 41 rfl) (tw hw 37 rfl) (by decide) (by decide)) (g := (mkF m 9 #[.val (.ref ca), .val (.int (0 : Int32)), .val (.int (2 : Int32)), .val (.ref b87), .unset, .unset] [(.int (2 : Int32)), (.int (0 : Int32)), (.ref b87), (.int (0 : Int32)), (.ref ca)])) rfl (by rw [hml]; rfl) (argsL := [(.ref ca), (.int (0 : Int32)), (.ref b87), (.int (0 : Int32)), (.int (2 : Int32))]) (rest := []) (lenOf pd__28_5bCI_5bBII_29I rfl) rfl (by show 2 * 0 + _ ≤ _; exact Nat.le_of_eq rfl) (hb hby d6_9) (fun _ _ => ⟨rfl, e87, (by decide : 1 + 0 ≤ _), (by decide : 2 + 0 ≤ _)⟩)
    dsimp only [Pt.U, Pt.locs, Pt.cells, Pt.slots] at X93 l93 y93 z93 st93 hQ93
    rw [l93, y93, z93] at X93
    clear l93 y93 z93
    obtain ⟨hr93, N93q, K93q, f95⟩ := hQ93
    rw [hr93] at st93
    clear hr93
    have N93 := Fr.app N0 N93q
    refine Go.via (st93) ?_
    clear st93
    have e93 : T93.heap = T93.heap := rfl
    have f96 : Ia Z T93.heap b87 .byte [(nar .byte (y0.toInt8.toInt32)), (nar .byte (y1.toInt8.toInt32))] := f95
    clear X87 e87
    show Go p e below (T93.setTop (mkF m 12 #[.val (.ref ca), .val (.int (0 : Int32)), .val (.int (2 : Int32)), .val (.ref b87), .unset, .unset] [(.int (2 : Int32))])) _
    refine Go.via (fun _ => XS.istore X93.here hx rfl (hb hby d6_12) rfl (l' := #[.val (.ref ca), .val (.int (0 : Int32)), .val (.int (2 : Int32)), .val (.ref b87), .val (.int (2 : Int32)), .unset]) rfl) ?_
    show Go p e below (T93.setTop (mkF m 14 #[.val (.ref ca), .val (.int (0 : Int32)), .val (.int (2 : Int32)), .val (.ref b87), .val (.int (2 : Int32)), .unset] [])) _
    refine Go.via (fun _ => XS.iload X93.here hx rfl (hb hby d6_14) rfl) ?_
    refine Go.via (fun _ => XS.iloadN X93.here hx rfl (hb hby d6_16) rfl) ?_
    refine Go.via (fun _ => XS.icmpYes X93.here hx rfl (pc0 := 17) (pc' := 57) rfl (hb hby d6_17) rfl (teq ((by decide) : (2 : Int32) = (2 : Int32))).1 (by decide) (by decide)) ?_
    show Go p e below (T93.setTop (mkF m 57 #[.val (.ref ca), .val (.int (0 : Int32)), .val (.int (2 : Int32)), .val (.ref b87), .val (.int (2 : Int32)), .unset] [])) _
    refine Go.via (fun _ => XS.aloadN X93.here hx rfl (hb hby d6_57) rfl rfl) ?_
    have k97 : Keep h0 T93.heap [] := (((Keep.refl h0 []).ext E87).trans K93q (allS (Or.inr sz90) all0))
    exact Go.fin X93 hlk (v := some (.ref b87)) (fun h => by rw [Bd.returns] at h; cases h) (fun fs hr => retOut X93 hx Bd.returns rfl (Or.inr (Or.inr (Or.inr (Or.inr ⟨rfl, rfl, rfl⟩)))) (hb hby d6_58) hr) (by exact ⟨b87, rfl, N93, k97, sz90, f96⟩) (by decide) (by decide)
def Q_rmCl_2 (Z : State) (ba : Addr) (n : Int32) (y0 : Int32) (y1 : Int32) (h0 : Heap) (n0 : Nat) (vQ : Option Value) (hQ : Heap) (LQ : List Loc) : Prop := vQ = some (.int (0 : Int32)) ∧ Fr n0 LQ ∧ hQ = h0
set_option maxRecDepth 65536 in
set_option maxHeartbeats 40000000 in
theorem rmCl_2 (l : Launch) (Z : State) (a0 : Array Value) (hw : ∀ d ∈ tables_1, d.before a0 Z = true) (ws : List Jvm.Cond) (ba : Addr) (n : Int32) (y0 : Int32) (y1 : Int32) (h0 : Heap) (n0 : Nat) (Z0 : n0 ≤ h0.size) (P0 : Ia Z h0 ba .byte [y0, y1]) (hn : n = 2) :
    MetFree l (⟨cU6, "coderFromArrayLen", "([BI)B"⟩ : MethodName) (head1 (Jvm.Cond.code (⟨cU6, "coderFromArrayLen", "([BI)B"⟩ : MethodName) jdk_52_method_15_code 2 (some .byte) :: ws) ({ frames := 0, cells := 0, slots := 0, locals := 0 } : Room)) (fun aQ UQ => aQ = #[(.ref ba), (.int n)] ∧ Z.Warmed39 UQ.vm ∧ UQ.heap = h0) (fun _ _ _ _ _ => True) (fun _ UQ oQ UR => ∃ vQ LQ, oQ = .returned vQ ∧ Q_rmCl_2 Z ba n y0 y1 h0 n0 vQ UR.heap LQ ∧ FrameEnd UQ oQ UR LQ ({ frames := 0, cells := 0, slots := 0, locals := 0 } : Room).cells ({ frames := 0, cells := 0, slots := 0, locals := 0 } : Room).slots) := by
  refine MetFree.of_bodySF (plainFor_of_name pn_8) hisR ?_
  intro p e s m args below meth c s₁ Bd hml0 hP hK
  obtain ⟨rfl, hZ, hh⟩ := hP
  have hx := Bd.exec
  have hby := Bd.bytes
  have hlk := Bd.notSynchronized
  have hml : c.maxLocals = 2 := hml0
  have hown : s.vm.findClass cU6 = some m.cls := findClass_of_methodNamed Bd.named
  have hnm := (name_of_methodNamed Bd.named Bd.method).1
  have X0 : Stand p l e ({ frames := 0, cells := 0, slots := 0, locals := 0 } : Room) s m #[(.ref ba), (.int n)] below meth c s₁ [] 0 0 := Stand.of_body Bd
  have e0 : s₁.heap = h0 := by rw [← hh, Bd.state]; rfl
  have N0 := Fr.nil n0
  show Go p e below _ (Done s (Q_rmCl_2 Z ba n y0 y1 h0 n0) ({ frames := 0, cells := 0, slots := 0, locals := 0 } : Room).cells ({ frames := 0, cells := 0, slots := 0, locals := 0 } : Room).slots)
  refine Go.via (fun tQ kQ => castTop (ef_8 m ba n) kQ) ?_
  show Go p e below (s₁.setTop (mkF m 0 #[.val (.ref ba), .val (.int n)] [])) _
  · subst hn
    show Go p e below (s₁.setTop (mkF m 0 #[.val (.ref ba), .val (.int (2 : Int32))] [])) _
    refine Go.via (fun _ => XS.iloadN X0.here hx rfl (hb hby d8_0) rfl) ?_
    refine Go.via (fun _ => XS.aloadN X0.here hx rfl (hb hby d8_1) rfl rfl) ?_
    refine Go.via (lenI X0 hx hZ e0 P0 (n := (2 : Int32)) rfl (g := (mkF m 2 #[.val (.ref ba), .val (.int (2 : Int32))] [(.ref ba), (.int (2 : Int32))])) rfl rfl (hb hby d8_2)) ?_
    show Go p e below (s₁.setTop (mkF m 3 #[.val (.ref ba), .val (.int (2 : Int32))] [(.int (2 : Int32)), (.int (2 : Int32))])) _
    refine Go.via (fun _ => XS.isub X0.here hx rfl (hb hby d8_3) rfl) ?_
    show Go p e below (s₁.setTop (mkF m 4 #[.val (.ref ba), .val (.int (2 : Int32))] [(.int (0 : Int32))])) _
    refine Go.via (fun _ => XS.bipush X0.here hx rfl (hb hby d8_4)) ?_
    refine Go.via (fun _ => XS.iushr X0.here hx rfl (hb hby d8_6) rfl) ?_
    show Go p e below (s₁.setTop (mkF m 7 #[.val (.ref ba), .val (.int (2 : Int32))] [(.int (0 : Int32))])) _
    refine Go.via (fun _ => XS.i2b X0.here hx rfl (hb hby d8_7) rfl) ?_
    show Go p e below (s₁.setTop (mkF m 8 #[.val (.ref ba), .val (.int (2 : Int32))] [(.int ((0 : Int32).toInt8.toInt32))])) _
    exact Go.fin X0 hlk (v := some (.int (nar .byte ((0 : Int32).toInt8.toInt32)))) (fun h => by rw [Bd.returns] at h; cases h) (fun fs hr => retN X0 hx (t := .byte) Bd.returns (by simp) (hb hby d8_8) hr) (by rw [e0]; exact ⟨rfl, N0, rfl⟩) (by decide) (by decide)
def Q_rmI5_2 (Z : State) (a : Addr) (ca : Addr) (i : Int32) (n : Int32) (y0 : Int32) (y1 : Int32) (cs : Int32) (h0 : Heap) (n0 : Nat) (vQ : Option Value) (hQ : Heap) (LQ : List Loc) : Prop := ∃ r : Addr, vQ = none ∧ Fr n0 LQ ∧ Keep h0 hQ [a] ∧ h0.size ≤ r ∧ Exa Z hQ a cST ∧ Fld Z hQ a cST "coder" "B" (.int (0 : Int32)) ∧ Fld Z hQ a cST "value" "[B" (.ref r) ∧ Ia Z hQ r .byte [(nar .byte (y0.toInt8.toInt32)), (nar .byte (y1.toInt8.toInt32))]
set_option maxRecDepth 65536 in
set_option maxHeartbeats 40000000 in
theorem rmI5_2 (l : Launch) (Z : State) (a0 : Array Value) (hw : ∀ d ∈ tables_1, d.before a0 Z = true) (ws : List Jvm.Cond) (a : Addr) (ca : Addr) (i : Int32) (n : Int32) (y0 : Int32) (y1 : Int32) (cs : Int32) (h0 : Heap) (n0 : Nat) (Z0 : n0 ≤ h0.size) (P0 : Fld Z h0 a cST "coder" "B" (.int (0 : Int32))) (P1 : Fld Z h0 a cST "value" "[B" .null) (P2 : Exa Z h0 a cST) (P3 : Ia Z h0 ca .char [y0, y1]) (P4 : Old Z n0 h0) (zCS : Sta Z Z.heap cST "COMPACT_STRINGS" "Z" (.int cs)) (g_a : n0 ≤ a) (hac : a ≠ ca) (hi : i = 0) (hn : n = 2) (hcs : ¬ (cs = (0 : Int32))) (hy0 : ¬ ((255 : Int32) < y0)) (hy1 : ¬ ((255 : Int32) < y1)) :
    MetFree l (⟨cST, "<init>", "([CIILjava/lang/Void;)V"⟩ : MethodName) (head1 (Jvm.Cond.code (⟨cST, "<init>", "([CIILjava/lang/Void;)V"⟩ : MethodName) jdk_42_method_149_code 6 none :: ws) ({ frames := 2, cells := 1, slots := 2, locals := 35 } : Room)) (fun aQ UQ => aQ = #[(.ref a), (.ref ca), (.int i), (.int n), .null] ∧ Z.Warmed39 UQ.vm ∧ UQ.heap = h0) (fun _ _ _ _ _ => True) (fun _ UQ oQ UR => ∃ vQ LQ, oQ = .returned vQ ∧ Q_rmI5_2 Z a ca i n y0 y1 cs h0 n0 vQ UR.heap LQ ∧ FrameEnd UQ oQ UR LQ ({ frames := 2, cells := 1, slots := 2, locals := 35 } : Room).cells ({ frames := 2, cells := 1, slots := 2, locals := 35 } : Room).slots) := by
  refine MetFree.of_bodySF (plainFor_of_name pn_4) hisR ?_
  intro p e s m args below meth c s₁ Bd hml0 hP hK
  obtain ⟨rfl, hZ, hh⟩ := hP
  have hx := Bd.exec
  have hby := Bd.bytes
  have hlk := Bd.notSynchronized
  have hml : c.maxLocals = 6 := hml0
  have hown : s.vm.findClass cST = some m.cls := findClass_of_methodNamed Bd.named
  have hnm := (name_of_methodNamed Bd.named Bd.method).1
  have X0 : Stand p l e ({ frames := 2, cells := 1, slots := 2, locals := 35 } : Room) s m #[(.ref a), (.ref ca), (.int i), (.int n), .null] below meth c s₁ [] 0 0 := Stand.of_body Bd
  have e0 : s₁.heap = h0 := by rw [← hh, Bd.state]; rfl
  have N0 := Fr.nil n0
  show Go p e below _ (Done s (Q_rmI5_2 Z a ca i n y0 y1 cs h0 n0) ({ frames := 2, cells := 1, slots := 2, locals := 35 } : Room).cells ({ frames := 2, cells := 1, slots := 2, locals := 35 } : Room).slots)
  refine Go.via (fun tQ kQ => castTop (ef_4n4 m a ca i n) kQ) ?_
  show Go p e below (s₁.setTop (mkF m 0 #[.val (.ref a), .val (.ref ca), .val (.int i), .val (.int n), .val .null, .unset] [])) _
  · subst hi hn
    show Go p e below (s₁.setTop (mkF m 0 #[.val (.ref a), .val (.ref ca), .val (.int (0 : Int32)), .val (.int (2 : Int32)), .val .null, .unset] [])) _
    refine Go.via (fun _ => XS.aloadN X0.here hx rfl (hb hby d4_0) rfl rfl) ?_
    obtain ⟨T98, X98, e98, st98⟩ := initO X0 hx hZ hown (tw hw 23 rfl) (tw hw 24 rfl) (tw hw 25 rfl) e0 (g := (mkF m 1 #[.val (.ref a), .val (.ref ca), .val (.int (0 : Int32)), .val (.int (2 : Int32)), .val .null, .unset] [(.ref a)])) rfl (by rw [hml]; rfl) rfl (hb hby d4_1) (by decide) (W := 0) (by show 2 * 0 + _ ≤ _; exact Nat.le_of_eq rfl) (by decide)
    refine Go.via (st98) ?_
    clear st98
    clear X0 e0
    show Go p e below (T98.setTop (mkF m 4 #[.val (.ref a), .val (.ref ca), .val (.int (0 : Int32)), .val (.int (2 : Int32)), .val .null, .unset] [])) _
    refine Go.via (fun _ => XS.iloadN X98.here hx rfl (hb hby d4_4) rfl) ?_
    refine Go.via (fun _ => XS.ifYes X98.here hx rfl (pc0 := 5) (pc' := 27) rfl (hb hby d4_5) rfl ((if0 _ _).trans (feq ((by decide) : ¬ ((2 : Int32) = (0 : Int32)))).2) (by decide) (by decide)) ?_
    show Go p e below (T98.setTop (mkF m 27 #[.val (.ref a), .val (.ref ca), .val (.int (0 : Int32)), .val (.int (2 : Int32)), .val .null, .unset] [])) _
    have f99 : Sta Z h0 cST "COMPACT_STRINGS" "Z" (.int cs) := zCS.ext P4.2
    obtain ⟨T100, X100, e100, st100⟩ := getS2 X98 hx hZ hown (host := "") (Or.inl (tw hw 34 rfl)) Via.refl e98 f99 (g := (mkF m 27 #[.val (.ref a), .val (.ref ca), .val (.int (0 : Int32)), .val (.int (2 : Int32)), .val .null, .unset] [])) rfl (hb hby d4_27)
    refine Go.via (st100) ?_
    clear st100
    clear X98 e98
    show Go p e below (T100.setTop (mkF m 30 #[.val (.ref a), .val (.ref ca), .val (.int (0 : Int32)), .val (.int (2 : Int32)), .val .null, .unset] [(.int cs)])) _
    refine Go.via (fun _ => XS.ifNo X100.here hx rfl (hb hby d4_30) rfl ((if0 _ _).trans (feq (hcs : ¬ (cs = (0 : Int32)))).1)) ?_
    show Go p e below (T100.setTop (mkF m 33 #[.val (.ref a), .val (.ref ca), .val (.int (0 : Int32)), .val (.int (2 : Int32)), .val .null, .unset] [])) _
    refine Go.via (fun _ => XS.aloadN X100.here hx rfl (hb hby d4_33) rfl rfl) ?_
    refine Go.via (fun _ => XS.iloadN X100.here hx rfl (hb hby d4_34) rfl) ?_
    refine Go.via (fun _ => XS.iloadN X100.here hx rfl (hb hby d4_35) rfl) ?_
    obtain ⟨r101, _, ⟨T101, L101, k101, n101⟩, -, X101, ⟨Lc101, hQ101, l101, y101, z101⟩, st101⟩ := Jvm.LawKit.callS X100 hx (y := (⟨cU6, "compress", "([CII)[B"⟩ : MethodName)) hown (mvT hZ (tw hw 35 rfl)) (mvT hZ (tw hw 36 rfl)) (mvT hZ (tw hw 37 rfl)) (mvT hZ (tw hw 38 rfl)) (by decide) (backOf (W := 0) (rmC3_2 l Z a0 hw [] ca (0 : Int32) (2 : Int32) y0 y1 h0 n0 Z0 P3 rfl rfl hy0 hy1) hZ (tw hw 38 rfl) (tw hw 37 rfl) (by decide) (by decide)) (g := (mkF m 36 #[.val (.ref a), .val (.ref ca), .val (.int (0 : Int32)), .val (.int (2 : Int32)), .val .null, .unset] [(.int (2 : Int32)), (.int (0 : Int32)), (.ref ca)])) rfl (by rw [hml]; rfl) (argsL := [(.ref ca), (.int (0 : Int32)), (.int (2 : Int32))]) (rest := []) (lenOf pd__28_5bCII_29_5bB rfl) rfl (by show 2 * 0 + _ ≤ _; exact Nat.le_of_eq rfl) (hb hby d4_36) (fun _ _ => ⟨rfl, e100, (by decide : 0 + 1 ≤ _), (by decide : 0 + 2 ≤ _)⟩)
    dsimp only [Pt.U, Pt.locs, Pt.cells, Pt.slots] at X101 l101 y101 z101 st101 hQ101
    rw [l101, y101, z101] at X101
    clear l101 y101 z101
    obtain ⟨b102, hr101, N101q, K101q, fz_b102, f103⟩ := hQ101
    rw [hr101] at st101
    clear hr101
    have N101 := Fr.app N0 N101q
    refine Go.via (st101) ?_
    clear st101
    have ne104 : a ≠ b102 := Nat.ne_of_lt (Nat.lt_of_lt_of_le P0.lt fz_b102)
    have ne105 : ca ≠ b102 := Nat.ne_of_lt (Nat.lt_of_lt_of_le P3.lt fz_b102)
    have ge106 : n0 ≤ b102 := Nat.le_trans Z0 fz_b102
    have sz107 : h0.size ≤ b102 := Nat.le_trans (Keep.refl h0 [a]).1 fz_b102
    have e101 : T101.heap = T101.heap := rfl
    have f108 : Ia Z T101.heap b102 .byte [(nar .byte (y0.toInt8.toInt32)), (nar .byte (y1.toInt8.toInt32))] := f103
    clear X100 e100
    show Go p e below (T101.setTop (mkF m 39 #[.val (.ref a), .val (.ref ca), .val (.int (0 : Int32)), .val (.int (2 : Int32)), .val .null, .unset] [(.ref b102)])) _
    refine Go.via (fun _ => XS.astore X101.here hx rfl (hb hby d4_39) rfl rfl (l' := #[.val (.ref a), .val (.ref ca), .val (.int (0 : Int32)), .val (.int (2 : Int32)), .val .null, .val (.ref b102)]) rfl) ?_
    show Go p e below (T101.setTop (mkF m 41 #[.val (.ref a), .val (.ref ca), .val (.int (0 : Int32)), .val (.int (2 : Int32)), .val .null, .val (.ref b102)] [])) _
    refine Go.via (fun _ => XS.aloadN X101.here hx rfl (hb hby d4_41) rfl rfl) ?_
    refine Go.via (fun _ => XS.aload X101.here hx rfl (hb hby d4_42) rfl rfl) ?_
    refine Go.via (fun _ => XS.iloadN X101.here hx rfl (hb hby d4_44) rfl) ?_
    have z110 : n0 ≤ T101.heap.size := (Nat.le_trans Z0 K101q.1)
    obtain ⟨r109, _, ⟨T109, L109, k109, n109⟩, -, X109, ⟨Lc109, hQ109, l109, y109, z109⟩, st109⟩ := Jvm.LawKit.callS X101 hx (y := (⟨cU6, "coderFromArrayLen", "([BI)B"⟩ : MethodName)) hown (mvT hZ (tw hw 42 rfl)) (mvT hZ (tw hw 43 rfl)) (mvT hZ (tw hw 37 rfl)) (mvT hZ (tw hw 44 rfl)) (by decide) (backOf (W := 1) (rmCl_2 l Z a0 hw [] b102 (2 : Int32) (nar .byte (y0.toInt8.toInt32)) (nar .byte (y1.toInt8.toInt32)) T101.heap n0 z110 f108 rfl) hZ (tw hw 44 rfl) (tw hw 37 rfl) (by decide) (by decide)) (g := (mkF m 45 #[.val (.ref a), .val (.ref ca), .val (.int (0 : Int32)), .val (.int (2 : Int32)), .val .null, .val (.ref b102)] [(.int (2 : Int32)), (.ref b102), (.ref a)])) rfl (by rw [hml]; rfl) (argsL := [(.ref b102), (.int (2 : Int32))]) (rest := [(.ref a)]) (lenOf pd__28_5bBI_29B rfl) rfl (by show 2 * 0 + _ ≤ _; exact Nat.le_of_eq rfl) (hb hby d4_45) (fun _ _ => ⟨rfl, e101, (by decide : 1 + 0 ≤ _), (by decide : 2 + 0 ≤ _)⟩)
    dsimp only [Pt.U, Pt.locs, Pt.cells, Pt.slots] at X109 l109 y109 z109 st109 hQ109
    rw [l109, y109, z109] at X109
    clear l109 y109 z109
    obtain ⟨hr109, N109q, eh109⟩ := hQ109
    rw [hr109] at st109
    clear hr109
    have N109 := Fr.app N101 N109q
    refine Go.via (st109) ?_
    clear st109
    have e109 : T109.heap = T101.heap := eh109
    clear X101 e101
    show Go p e below (T109.setTop (mkF m 48 #[.val (.ref a), .val (.ref ca), .val (.int (0 : Int32)), .val (.int (2 : Int32)), .val .null, .val (.ref b102)] [(.int (0 : Int32)), (.ref a)])) _
    have f111 : Fld Z T101.heap a cST "coder" "B" (.int (0 : Int32)) := (P0.keep K101q nin0)
    have f112 : Exa Z T101.heap a cST := (P2.keep K101q)
    obtain ⟨T113, h113, X113, e113, W113, st113⟩ := putF X109 hx hZ hown (host := "") (Or.inl (tw hw 33 rfl)) Via.refl e109 f111 f112 (Or.inr ⟨(tw hw 29 rfl), rfl, hnm⟩) (tw hw 13 rfl) (ty := .byte) (by decide) rfl rfl (g := (mkF m 48 #[.val (.ref a), .val (.ref ca), .val (.int (0 : Int32)), .val (.int (2 : Int32)), .val .null, .val (.ref b102)] [(.int (0 : Int32)), (.ref a)])) rfl rfl (hb hby d4_48)
    refine Go.via (st113) ?_
    clear st113
    have N113 := Fr.snoc X113 N109 g_a
    have f114 : Fld Z h113 a cST "coder" "B" (.int (0 : Int32)) := f111.same W113
    clear X109 e109
    show Go p e below (T113.setTop (mkF m 51 #[.val (.ref a), .val (.ref ca), .val (.int (0 : Int32)), .val (.int (2 : Int32)), .val .null, .val (.ref b102)] [])) _
    refine Go.via (fun _ => XS.aloadN X113.here hx rfl (hb hby d4_51) rfl rfl) ?_
    refine Go.via (fun _ => XS.aload X113.here hx rfl (hb hby d4_52) rfl rfl) ?_
    have f115 : Fld Z h113 a cST "value" "[B" .null := ((P1.keep K101q nin0).other W113 (Or.inr (slot_ne (Or.inr (tw hw 28 rfl)) (Or.inr (tw hw 29 rfl)) (by decide) (t := (.array .byte)) (t' := .byte) (by decide) (by decide))))
    have f116 : Exa Z h113 a cST := (f112.wr W113)
    obtain ⟨T117, h117, X117, e117, W117, st117⟩ := putF X113 hx hZ hown (host := "") (Or.inl (tw hw 32 rfl)) Via.refl e113 f115 f116 (Or.inr ⟨(tw hw 28 rfl), rfl, hnm⟩) (tw hw 13 rfl) (ty := (.array .byte)) (by decide) rfl rfl (g := (mkF m 54 #[.val (.ref a), .val (.ref ca), .val (.int (0 : Int32)), .val (.int (2 : Int32)), .val .null, .val (.ref b102)] [(.ref b102), (.ref a)])) rfl rfl (hb hby d4_54)
    refine Go.via (st117) ?_
    clear st117
    have N117 := Fr.snoc X117 N113 g_a
    have f118 : Fld Z h117 a cST "value" "[B" (.ref b102) := f115.same W117
    clear X113 e113
    show Go p e below (T117.setTop (mkF m 57 #[.val (.ref a), .val (.ref ca), .val (.int (0 : Int32)), .val (.int (2 : Int32)), .val .null, .val (.ref b102)] [])) _
    have k119 : Keep h0 h117 [a] := ((((Keep.refl h0 [a]).trans K101q all0).wr W113 (Or.inl (List.mem_of_getElem? (i := 0) rfl))).wr W117 (Or.inl (List.mem_of_getElem? (i := 0) rfl)))
    have f120 : Exa Z h117 a cST := (f116.wr W117)
    have f121 : Fld Z h117 a cST "coder" "B" (.int (0 : Int32)) := (f114.other W117 (Or.inr (slot_ne (Or.inr (tw hw 29 rfl)) (Or.inr (tw hw 28 rfl)) (by decide) (t := .byte) (t' := (.array .byte)) (by decide) (by decide))))
    have f122 : Ia Z h117 b102 .byte [(nar .byte (y0.toInt8.toInt32)), (nar .byte (y1.toInt8.toInt32))] := ((f108.other W113 (Ne.symm ne104)).other W117 (Ne.symm ne104))
    exact Go.fin X117 hlk (v := none) (fun _ => rfl) (fun fs hr => X117.returnOut hx Bd.returns (hb hby d4_57) hr) (by rw [e117]; exact ⟨b102, rfl, N117, k119, sz107, f120, f121, f118, f122⟩) (by decide) (by decide)
def Q_rmI1_2 (Z : State) (a : Addr) (ca : Addr) (y0 : Int32) (y1 : Int32) (cs : Int32) (h0 : Heap) (n0 : Nat) (vQ : Option Value) (hQ : Heap) (LQ : List Loc) : Prop := ∃ r : Addr, vQ = none ∧ Fr n0 LQ ∧ Keep h0 hQ [a] ∧ h0.size ≤ r ∧ Exa Z hQ a cST ∧ Fld Z hQ a cST "coder" "B" (.int (0 : Int32)) ∧ Fld Z hQ a cST "value" "[B" (.ref r) ∧ Ia Z hQ r .byte [(nar .byte (y0.toInt8.toInt32)), (nar .byte (y1.toInt8.toInt32))]
set_option maxRecDepth 65536 in
set_option maxHeartbeats 40000000 in
theorem rmI1_2 (l : Launch) (Z : State) (a0 : Array Value) (hw : ∀ d ∈ tables_1, d.before a0 Z = true) (ws : List Jvm.Cond) (a : Addr) (ca : Addr) (y0 : Int32) (y1 : Int32) (cs : Int32) (h0 : Heap) (n0 : Nat) (Z0 : n0 ≤ h0.size) (P0 : Fld Z h0 a cST "coder" "B" (.int (0 : Int32))) (P1 : Fld Z h0 a cST "value" "[B" .null) (P2 : Exa Z h0 a cST) (P3 : Ia Z h0 ca .char [y0, y1]) (P4 : Old Z n0 h0) (zCS : Sta Z Z.heap cST "COMPACT_STRINGS" "Z" (.int cs)) (g_a : n0 ≤ a) (hac : a ≠ ca) (hcs : ¬ (cs = (0 : Int32))) (hy0 : ¬ ((255 : Int32) < y0)) (hy1 : ¬ ((255 : Int32) < y1)) :
    MetFree l (⟨cST, "<init>", "([C)V"⟩ : MethodName) (head1 (Jvm.Cond.code (⟨cST, "<init>", "([C)V"⟩ : MethodName) jdk_42_method_3_code 2 none :: ws) ({ frames := 3, cells := 1, slots := 2, locals := 52 } : Room)) (fun aQ UQ => aQ = #[(.ref a), (.ref ca)] ∧ Z.Warmed39 UQ.vm ∧ UQ.heap = h0) (fun _ _ _ _ _ => True) (fun _ UQ oQ UR => ∃ vQ LQ, oQ = .returned vQ ∧ Q_rmI1_2 Z a ca y0 y1 cs h0 n0 vQ UR.heap LQ ∧ FrameEnd UQ oQ UR LQ ({ frames := 3, cells := 1, slots := 2, locals := 52 } : Room).cells ({ frames := 3, cells := 1, slots := 2, locals := 52 } : Room).slots) := by
  refine MetFree.of_bodySF (plainFor_of_name pn_3) hisR ?_
  intro p e s m args below meth c s₁ Bd hml0 hP hK
  obtain ⟨rfl, hZ, hh⟩ := hP
  have hx := Bd.exec
  have hby := Bd.bytes
  have hlk := Bd.notSynchronized
  have hml : c.maxLocals = 2 := hml0
  have hown : s.vm.findClass cST = some m.cls := findClass_of_methodNamed Bd.named
  have hnm := (name_of_methodNamed Bd.named Bd.method).1
  have X0 : Stand p l e ({ frames := 3, cells := 1, slots := 2, locals := 52 } : Room) s m #[(.ref a), (.ref ca)] below meth c s₁ [] 0 0 := Stand.of_body Bd
  have e0 : s₁.heap = h0 := by rw [← hh, Bd.state]; rfl
  have N0 := Fr.nil n0
  show Go p e below _ (Done s (Q_rmI1_2 Z a ca y0 y1 cs h0 n0) ({ frames := 3, cells := 1, slots := 2, locals := 52 } : Room).cells ({ frames := 3, cells := 1, slots := 2, locals := 52 } : Room).slots)
  refine Go.via (fun tQ kQ => castTop (ef_3 m a ca) kQ) ?_
  show Go p e below (s₁.setTop (mkF m 0 #[.val (.ref a), .val (.ref ca)] [])) _
  refine Go.via (fun _ => XS.aloadN X0.here hx rfl (hb hby d3_0) rfl rfl) ?_
  refine Go.via (fun _ => XS.aloadN X0.here hx rfl (hb hby d3_1) rfl rfl) ?_
  refine Go.via (fun _ => XS.iconst X0.here hx rfl (hb hby d3_2)) ?_
  refine Go.via (fun _ => XS.aloadN X0.here hx rfl (hb hby d3_3) rfl rfl) ?_
  show Go p e below (s₁.setTop (mkF m 4 #[.val (.ref a), .val (.ref ca)] [(.ref ca), (.int (0 : Int32)), (.ref ca), (.ref a)])) _
  refine Go.via (lenI X0 hx hZ e0 P3 (n := (2 : Int32)) rfl (g := (mkF m 4 #[.val (.ref a), .val (.ref ca)] [(.ref ca), (.int (0 : Int32)), (.ref ca), (.ref a)])) rfl rfl (hb hby d3_4)) ?_
  show Go p e below (s₁.setTop (mkF m 5 #[.val (.ref a), .val (.ref ca)] [(.int (2 : Int32)), (.int (0 : Int32)), (.ref ca), (.ref a)])) _
  refine Go.via (fun _ => XS.aconstNull X0.here hx rfl (hb hby d3_5)) ?_
  show Go p e below (s₁.setTop (mkF m 6 #[.val (.ref a), .val (.ref ca)] [.null, (.int (2 : Int32)), (.int (0 : Int32)), (.ref ca), (.ref a)])) _
  obtain ⟨r123, _, ⟨T123, L123, k123, n123⟩, -, X123, ⟨Lc123, hQ123, l123, y123, z123⟩, st123⟩ := X0.specialBack hx (y := (⟨cST, "<init>", "([CIILjava/lang/Void;)V"⟩ : MethodName)) rfl hown (mvT hZ (tw hw 19 rfl)) (mvT hZ (tw hw 20 rfl)) (mvT hZ (tw hw 22 rfl)) (by decide) (backOf (W := 0) (rmI5_2 l Z a0 hw [] a ca (0 : Int32) (2 : Int32) y0 y1 cs h0 n0 Z0 P0 P1 P2 P3 P4 zCS g_a hac rfl rfl hcs hy0 hy1) hZ (tw hw 22 rfl) (tw hw 14 rfl) (by decide) (by decide)) (g := (mkF m 6 #[.val (.ref a), .val (.ref ca)] [.null, (.int (2 : Int32)), (.int (0 : Int32)), (.ref ca), (.ref a)])) rfl (by rw [hml]; rfl) (Steps.refl _) (a := a) (argsL := [(.ref ca), (.int (0 : Int32)), (.int (2 : Int32)), .null]) (rest := []) (lenOf pd__28_5bCIILjava_2flang_2fVoid_3b_29V rfl) rfl (by show 2 * 0 + _ ≤ _; exact Nat.le_of_eq rfl) (hb hby d3_6) (fun _ _ => ⟨rfl, e0, (by decide : 0 + 1 ≤ _), (by decide : 0 + 2 ≤ _)⟩)
  dsimp only [Pt.U, Pt.locs, Pt.cells, Pt.slots] at X123 l123 y123 z123 st123 hQ123
  rw [l123, y123, z123] at X123
  clear l123 y123 z123
  obtain ⟨b124, hr123, N123q, K123q, fz_b124, f125, f126, f127, f128⟩ := hQ123
  rw [hr123] at st123
  clear hr123
  have N123 := Fr.app N0 N123q
  refine Go.via (fun _ kQ => st123.trans kQ) ?_
  clear st123
  have ne129 : a ≠ b124 := Nat.ne_of_lt (Nat.lt_of_lt_of_le P0.lt fz_b124)
  have ne130 : ca ≠ b124 := Nat.ne_of_lt (Nat.lt_of_lt_of_le P3.lt fz_b124)
  have ge131 : n0 ≤ b124 := Nat.le_trans Z0 fz_b124
  have sz132 : h0.size ≤ b124 := Nat.le_trans (Keep.refl h0 [a]).1 fz_b124
  have e123 : T123.heap = T123.heap := rfl
  have f133 : Exa Z T123.heap a cST := f125
  have f134 : Fld Z T123.heap a cST "coder" "B" (.int (0 : Int32)) := f126
  have f135 : Fld Z T123.heap a cST "value" "[B" (.ref b124) := f127
  have f136 : Ia Z T123.heap b124 .byte [(nar .byte (y0.toInt8.toInt32)), (nar .byte (y1.toInt8.toInt32))] := f128
  clear X0 e0
  show Go p e below (T123.setTop (mkF m 9 #[.val (.ref a), .val (.ref ca)] [])) _
  have k137 : Keep h0 T123.heap [a] := ((Keep.refl h0 [a]).trans K123q (allS (Or.inl (List.mem_of_getElem? (i := 0) rfl)) all0))
  exact Go.fin X123 hlk (v := none) (fun _ => rfl) (fun fs hr => X123.returnOut hx Bd.returns (hb hby d3_9) hr) (by exact ⟨b124, rfl, N123, k137, sz132, f133, f134, f135, f136⟩) (by decide) (by decide)
theorem d4_8 : decode jdk_42_method_149_code 8 = .ok (.aload_n 0, 1) := by decide +kernel
theorem d4_9 : decode jdk_42_method_149_code 9 = .ok (.ldc 7, 2) := by decide +kernel
theorem d4_11 : decode jdk_42_method_149_code 11 = .ok (.getfield 9, 3) := by decide +kernel
theorem d4_14 : decode jdk_42_method_149_code 14 = .ok (.putfield 9, 3) := by decide +kernel
theorem d4_17 : decode jdk_42_method_149_code 17 = .ok (.aload_n 0, 1) := by decide +kernel
theorem d4_18 : decode jdk_42_method_149_code 18 = .ok (.ldc 7, 2) := by decide +kernel
theorem d4_20 : decode jdk_42_method_149_code 20 = .ok (.getfield 15, 3) := by decide +kernel
theorem d4_23 : decode jdk_42_method_149_code 23 = .ok (.putfield 15, 3) := by decide +kernel
theorem d4_26 : decode jdk_42_method_149_code 26 = .ok (.return_, 1) := by decide +kernel
def Q_rmI5_e0 (Z : State) (a : Addr) (ca : Addr) (i : Int32) (n : Int32)  (h0 : Heap) (n0 : Nat) (vQ : Option Value) (hQ : Heap) (vmQ : Vm) (LQ : List Loc) : Prop := ∃ b_ : Addr, vQ = none ∧ Fr n0 LQ ∧ Keep h0 hQ [a] ∧ Exa Z hQ a cST ∧ Fld Z hQ a cST "coder" "B" (.int (0 : Int32)) ∧ Fld Z hQ a cST "value" "[B" (.ref b_) ∧ Ia Z hQ b_ .byte [] ∧ Em Z vmQ hQ ["signature 2", "signature 1"]
def V_rmI5_e0 (Z : State) (a : Addr) (ca : Addr) (i : Int32) (n : Int32)  (h0 : Heap) (vmV : Vm) : Prop := Em Z vmV h0 ["signature 2", "signature 1"] ∧ True
set_option maxRecDepth 65536 in
set_option maxHeartbeats 40000000 in
theorem rmI5_e0 (l : Launch) (Z : State) (a0 : Array Value) (hw : ∀ d ∈ tables_1, d.before a0 Z = true) (ws : List Jvm.Cond) (a : Addr) (ca : Addr) (i : Int32) (n : Int32)  (h0 : Heap) (n0 : Nat) (Z0 : n0 ≤ h0.size) (P0 : Fld Z h0 a cST "coder" "B" (.int (0 : Int32))) (P1 : Fld Z h0 a cST "value" "[B" .null) (P2 : Exa Z h0 a cST) (P3 : Old Z n0 h0) (g_a : n0 ≤ a) (hn : n = 0) (hh7 : Jvm.Lit.constHeld Z cST 7) (hcw : Jvm.Lit.compactW.before a0 Z = true) :
    MetFree l (⟨cST, "<init>", "([CIILjava/lang/Void;)V"⟩ : MethodName) (head1 (Jvm.Cond.code (⟨cST, "<init>", "([CIILjava/lang/Void;)V"⟩ : MethodName) jdk_42_method_149_code 6 none :: ws) ({ frames := 1, cells := 2, slots := 4, locals := 12 } : Room)) (fun aQ UQ => aQ = #[(.ref a), (.ref ca), (.int i), (.int n), .null] ∧ Z.Warmed39 UQ.vm ∧ UQ.heap = h0 ∧ V_rmI5_e0 Z a ca i n  h0 UQ.vm) (fun _ _ _ _ _ => True) (fun _ UQ oQ UR => ∃ vQ LQ, oQ = .returned vQ ∧ Q_rmI5_e0 Z a ca i n  h0 n0 vQ UR.heap UR.vm LQ ∧ ReturnedEndW UQ oQ UR LQ ({ frames := 1, cells := 2, slots := 4, locals := 12 } : Room).cells ({ frames := 1, cells := 2, slots := 4, locals := 12 } : Room).slots) := by
  refine MetFree.of_bodySF (plainFor_of_name pn_4) hisR ?_
  intro p e s m args below meth c s₁ Bd hml0 hP hK
  obtain ⟨rfl, hZ0, hh, hV⟩ := hP
  obtain ⟨I0, -⟩ := hV
  have hx := Bd.exec
  have hby := Bd.bytes
  have hlk := Bd.notSynchronized
  have hml : c.maxLocals = 6 := hml0
  have hnm := (name_of_methodNamed Bd.named Bd.method).1
  have e0 : s₁.heap = h0 := by rw [← hh, Bd.state]; rfl
  have N0 := Fr.nil n0
  have hZ : Z.Warmed39 (s.setVm s.vm).vm := hZ0
  have hown : (s.setVm s.vm).vm.findClass cST = some m.cls := findClass_of_methodNamed Bd.named
  have X0 : Stand p l e ({ frames := 1, cells := 2, slots := 4, locals := 12 } : Room) (s.setVm s.vm) m #[(.ref a), (.ref ca), (.int i), (.int n), .null] below meth c s₁ [] 0 0 := Stand.of_body Bd
  have hS0 : s.Since s.vm s.heap.size := (State.WarmedH.refl _).since _
  have hk0 : s.heap.size ≤ h0.size := Nat.le_of_eq (congrArg Array.size hh)
  show Go p e below _ (DoneW s (Q_rmI5_e0 Z a ca i n  h0 n0) ({ frames := 1, cells := 2, slots := 4, locals := 12 } : Room).cells ({ frames := 1, cells := 2, slots := 4, locals := 12 } : Room).slots)
  refine Go.via (fun tQ kQ => castTop (ef_4n4 m a ca i n) kQ) ?_
  show Go p e below (s₁.setTop (mkF m 0 #[.val (.ref a), .val (.ref ca), .val (.int i), .val (.int n), .val .null, .unset] [])) _
  · subst hn
    show Go p e below (s₁.setTop (mkF m 0 #[.val (.ref a), .val (.ref ca), .val (.int i), .val (.int (0 : Int32)), .val .null, .unset] [])) _
    refine Go.via (fun _ => XS.aloadN X0.here hx rfl (hb hby d4_0) rfl rfl) ?_
    obtain ⟨T138, X138, e138, st138⟩ := initO X0 hx hZ hown (tw hw 23 rfl) (tw hw 24 rfl) (tw hw 25 rfl) e0 (g := (mkF m 1 #[.val (.ref a), .val (.ref ca), .val (.int i), .val (.int (0 : Int32)), .val .null, .unset] [(.ref a)])) rfl (by rw [hml]; rfl) rfl (hb hby d4_1) (by decide) (W := 0) (by show 2 * 0 + _ ≤ _; exact Nat.le_of_eq rfl) (by decide)
    refine Go.via (st138) ?_
    clear st138
    clear X0 e0
    show Go p e below (T138.setTop (mkF m 4 #[.val (.ref a), .val (.ref ca), .val (.int i), .val (.int (0 : Int32)), .val .null, .unset] [])) _
    refine Go.via (fun _ => XS.iloadN X138.here hx rfl (hb hby d4_4) rfl) ?_
    refine Go.via (fun _ => XS.ifNo X138.here hx rfl (hb hby d4_5) rfl ((if0 _ _).trans (teq ((by decide) : (0 : Int32) = (0 : Int32))).2)) ?_
    show Go p e below (T138.setTop (mkF m 8 #[.val (.ref a), .val (.ref ca), .val (.int i), .val (.int (0 : Int32)), .val .null, .unset] [])) _
    refine Go.via (fun _ => XS.aloadN X138.here hx rfl (hb hby d4_8) rfl rfl) ?_
    obtain ⟨b139, T139, h139, c139, k1139, X139, e139, E139, hS139, hk139, hZ139, ho139, fE139, fC139, fV139, fA139, fL139, I139, st139⟩ := ldcE X138 hx hZ hown (tw hw 26 rfl) (wStr hw) e138 hS0 hk0 (Fr.nil _) (fun b cl q => by rw [hh]; exact P3.2.2 b cl q) I0 (by decide) hh7 hcw (g := (mkF m 9 #[.val (.ref a), .val (.ref ca), .val (.int i), .val (.int (0 : Int32)), .val .null, .unset] [(.ref a)])) rfl (hb hby d4_9) (by decide) (by decide)
    have hZ : Z.Warmed39 (s.setVm T139.vm).vm := hZ139
    have hown : (s.setVm T139.vm).vm.findClass cST = some m.cls := ho139
    clear hZ139 ho139
    refine Go.via (st139) ?_
    clear st139
    have f140 : Exa Z h139 a cST := (P2.ext E139)
    have ne141 : c139 ≠ a := Ia.neE (a0 := a0) fA139 f140 (tw hw 13 rfl)
    have ne142 : c139 ≠ b139 := Ia.neE (a0 := a0) fA139 fE139 (tw hw 13 rfl)
    clear X138 e138
    show Go p e below (T139.setTop (mkF m 11 #[.val (.ref a), .val (.ref ca), .val (.int i), .val (.int (0 : Int32)), .val .null, .unset] [(.ref b139), (.ref a)])) _
    have f143 : Fld Z h139 a cST "value" "[B" .null := (P1.ext E139)
    have ne144 : a ≠ b139 := Fld.ne f143 fV139 nofun
    obtain ⟨T145, X145, e145, st145⟩ := getF X139 hx hZ hown (host := "") (Or.inl (tw hw 32 rfl)) Via.refl e139 fV139 (g := (mkF m 11 #[.val (.ref a), .val (.ref ca), .val (.int i), .val (.int (0 : Int32)), .val .null, .unset] [(.ref b139), (.ref a)])) rfl rfl (hb hby d4_11)
    refine Go.via (st145) ?_
    clear st145
    clear X139 e139
    show Go p e below (T145.setTop (mkF m 14 #[.val (.ref a), .val (.ref ca), .val (.int i), .val (.int (0 : Int32)), .val .null, .unset] [(.ref c139), (.ref a)])) _
    obtain ⟨T146, h146, X146, e146, W146, st146⟩ := putF X145 hx hZ hown (host := "") (Or.inl (tw hw 32 rfl)) Via.refl e145 f143 f140 (Or.inr ⟨(tw hw 28 rfl), rfl, hnm⟩) (tw hw 13 rfl) (ty := (.array .byte)) (by decide) rfl rfl (g := (mkF m 14 #[.val (.ref a), .val (.ref ca), .val (.int i), .val (.int (0 : Int32)), .val .null, .unset] [(.ref c139), (.ref a)])) rfl rfl (hb hby d4_14)
    refine Go.via (st146) ?_
    clear st146
    have N146 := Fr.snoc X146 N0 g_a
    have f147 : Fld Z h146 a cST "value" "[B" (.ref c139) := f143.same W146
    clear X145 e145
    show Go p e below (T146.setTop (mkF m 17 #[.val (.ref a), .val (.ref ca), .val (.int i), .val (.int (0 : Int32)), .val .null, .unset] [])) _
    refine Go.via (fun _ => XS.aloadN X146.here hx rfl (hb hby d4_17) rfl rfl) ?_
    refine Go.via (ldcAgain (Z := Z) (a0 := a0) X146 hx hZ hown (tw hw 26 rfl) (L := fL139) (g := (mkF m 18 #[.val (.ref a), .val (.ref ca), .val (.int i), .val (.int (0 : Int32)), .val .null, .unset] [(.ref a)])) rfl (hb hby d4_18)) ?_
    show Go p e below (T146.setTop (mkF m 20 #[.val (.ref a), .val (.ref ca), .val (.int i), .val (.int (0 : Int32)), .val .null, .unset] [(.ref b139), (.ref a)])) _
    have f149 : Fld Z h146 b139 cST "coder" "B" (.int (0 : Int32)) := (fC139.other W146 (Or.inl (Ne.symm ne144)))
    obtain ⟨T150, X150, e150, st150⟩ := getF X146 hx hZ hown (host := "") (Or.inl (tw hw 33 rfl)) Via.refl e146 f149 (g := (mkF m 20 #[.val (.ref a), .val (.ref ca), .val (.int i), .val (.int (0 : Int32)), .val .null, .unset] [(.ref b139), (.ref a)])) rfl rfl (hb hby d4_20)
    refine Go.via (st150) ?_
    clear st150
    clear X146 e146
    show Go p e below (T150.setTop (mkF m 23 #[.val (.ref a), .val (.ref ca), .val (.int i), .val (.int (0 : Int32)), .val .null, .unset] [(.int (0 : Int32)), (.ref a)])) _
    have f151 : Fld Z h146 a cST "coder" "B" (.int (0 : Int32)) := ((P0.ext E139).other W146 (Or.inr (slot_ne (Or.inr (tw hw 29 rfl)) (Or.inr (tw hw 28 rfl)) (by decide) (t := .byte) (t' := (.array .byte)) (by decide) (by decide))))
    have f152 : Exa Z h146 a cST := (f140.wr W146)
    obtain ⟨T153, h153, X153, e153, W153, st153⟩ := putF X150 hx hZ hown (host := "") (Or.inl (tw hw 33 rfl)) Via.refl e150 f151 f152 (Or.inr ⟨(tw hw 29 rfl), rfl, hnm⟩) (tw hw 13 rfl) (ty := .byte) (by decide) rfl rfl (g := (mkF m 23 #[.val (.ref a), .val (.ref ca), .val (.int i), .val (.int (0 : Int32)), .val .null, .unset] [(.int (0 : Int32)), (.ref a)])) rfl rfl (hb hby d4_23)
    refine Go.via (st153) ?_
    clear st153
    have N153 := Fr.snoc X153 N146 g_a
    have f154 : Fld Z h153 a cST "coder" "B" (.int (0 : Int32)) := f151.same W153
    clear X150 e150
    show Go p e below (T153.setTop (mkF m 26 #[.val (.ref a), .val (.ref ca), .val (.int i), .val (.int (0 : Int32)), .val .null, .unset] [])) _
    have k155 : Keep h0 h153 [a] := ((((Keep.refl h0 [a]).ext E139).wr W146 (Or.inl (List.mem_of_getElem? (i := 0) rfl))).wr W153 (Or.inl (List.mem_of_getElem? (i := 0) rfl)))
    have f156 : Exa Z h153 a cST := (f152.wr W153)
    have f157 : Fld Z h153 a cST "value" "[B" (.ref c139) := (f147.other W153 (Or.inr (slot_ne (Or.inr (tw hw 28 rfl)) (Or.inr (tw hw 29 rfl)) (by decide) (t := (.array .byte)) (t' := .byte) (by decide) (by decide))))
    have f158 : Ia Z h153 c139 .byte [] := ((fA139.other W146 ne141).other W153 ne141)
    have em159 : Em Z T139.vm h153 ["signature 2", "signature 1"] := (Em.wrx (a0 := a0) I139 f140 f143 (tw hw 13 rfl) ((Keep.of_wr W146).wr W153 (Or.inl (List.mem_cons_self ..))))
    have hk160 : _ ≤ h153.size := (Nat.le_trans (Nat.le_trans hk139 (Keep.of_wr W146).1) (Keep.of_wr W153).1)
    exact Go.finW X153 hS139 (Nat.le_trans hk160 (Nat.le_of_eq (congrArg Array.size (Eq.symm e153)))) hlk (v := none) (fun _ => rfl) (fun fs hr => X153.returnOut hx Bd.returns (hb hby d4_26) hr) (by rw [e153]; exact ⟨c139, rfl, N153, k155, f156, f154, f157, f158, Em.still em159 X153.warmed.interned_eq (w39 X153.warmed.wide)⟩) (by decide) (by decide)
def Q_rmI1_e0 (Z : State) (a : Addr) (ca : Addr)  (h0 : Heap) (n0 : Nat) (vQ : Option Value) (hQ : Heap) (vmQ : Vm) (LQ : List Loc) : Prop := ∃ b_ : Addr, vQ = none ∧ Fr n0 LQ ∧ Keep h0 hQ [a] ∧ Exa Z hQ a cST ∧ Fld Z hQ a cST "coder" "B" (.int (0 : Int32)) ∧ Fld Z hQ a cST "value" "[B" (.ref b_) ∧ Ia Z hQ b_ .byte [] ∧ Em Z vmQ hQ ["signature 2", "signature 1"]
def V_rmI1_e0 (Z : State) (a : Addr) (ca : Addr)  (h0 : Heap) (vmV : Vm) : Prop := Em Z vmV h0 ["signature 2", "signature 1"] ∧ True
set_option maxRecDepth 65536 in
set_option maxHeartbeats 40000000 in
theorem rmI1_e0 (l : Launch) (Z : State) (a0 : Array Value) (hw : ∀ d ∈ tables_1, d.before a0 Z = true) (ws : List Jvm.Cond) (a : Addr) (ca : Addr)  (h0 : Heap) (n0 : Nat) (Z0 : n0 ≤ h0.size) (P0 : Fld Z h0 a cST "coder" "B" (.int (0 : Int32))) (P1 : Fld Z h0 a cST "value" "[B" .null) (P2 : Exa Z h0 a cST) (P3 : Ia Z h0 ca .char []) (P4 : Old Z n0 h0) (g_a : n0 ≤ a) (hh7 : Jvm.Lit.constHeld Z cST 7) (hcw : Jvm.Lit.compactW.before a0 Z = true) :
    MetFree l (⟨cST, "<init>", "([C)V"⟩ : MethodName) (head1 (Jvm.Cond.code (⟨cST, "<init>", "([C)V"⟩ : MethodName) jdk_42_method_3_code 2 none :: ws) ({ frames := 2, cells := 2, slots := 4, locals := 29 } : Room)) (fun aQ UQ => aQ = #[(.ref a), (.ref ca)] ∧ Z.Warmed39 UQ.vm ∧ UQ.heap = h0 ∧ V_rmI1_e0 Z a ca  h0 UQ.vm) (fun _ _ _ _ _ => True) (fun _ UQ oQ UR => ∃ vQ LQ, oQ = .returned vQ ∧ Q_rmI1_e0 Z a ca  h0 n0 vQ UR.heap UR.vm LQ ∧ ReturnedEndW UQ oQ UR LQ ({ frames := 2, cells := 2, slots := 4, locals := 29 } : Room).cells ({ frames := 2, cells := 2, slots := 4, locals := 29 } : Room).slots) := by
  refine MetFree.of_bodySF (plainFor_of_name pn_3) hisR ?_
  intro p e s m args below meth c s₁ Bd hml0 hP hK
  obtain ⟨rfl, hZ0, hh, hV⟩ := hP
  obtain ⟨I0, -⟩ := hV
  have hx := Bd.exec
  have hby := Bd.bytes
  have hlk := Bd.notSynchronized
  have hml : c.maxLocals = 2 := hml0
  have hnm := (name_of_methodNamed Bd.named Bd.method).1
  have e0 : s₁.heap = h0 := by rw [← hh, Bd.state]; rfl
  have N0 := Fr.nil n0
  have hZ : Z.Warmed39 (s.setVm s.vm).vm := hZ0
  have hown : (s.setVm s.vm).vm.findClass cST = some m.cls := findClass_of_methodNamed Bd.named
  have X0 : Stand p l e ({ frames := 2, cells := 2, slots := 4, locals := 29 } : Room) (s.setVm s.vm) m #[(.ref a), (.ref ca)] below meth c s₁ [] 0 0 := Stand.of_body Bd
  have hS0 : s.Since s.vm s.heap.size := (State.WarmedH.refl _).since _
  have hk0 : s.heap.size ≤ h0.size := Nat.le_of_eq (congrArg Array.size hh)
  show Go p e below _ (DoneW s (Q_rmI1_e0 Z a ca  h0 n0) ({ frames := 2, cells := 2, slots := 4, locals := 29 } : Room).cells ({ frames := 2, cells := 2, slots := 4, locals := 29 } : Room).slots)
  refine Go.via (fun tQ kQ => castTop (ef_3 m a ca) kQ) ?_
  show Go p e below (s₁.setTop (mkF m 0 #[.val (.ref a), .val (.ref ca)] [])) _
  refine Go.via (fun _ => XS.aloadN X0.here hx rfl (hb hby d3_0) rfl rfl) ?_
  refine Go.via (fun _ => XS.aloadN X0.here hx rfl (hb hby d3_1) rfl rfl) ?_
  refine Go.via (fun _ => XS.iconst X0.here hx rfl (hb hby d3_2)) ?_
  refine Go.via (fun _ => XS.aloadN X0.here hx rfl (hb hby d3_3) rfl rfl) ?_
  show Go p e below (s₁.setTop (mkF m 4 #[.val (.ref a), .val (.ref ca)] [(.ref ca), (.int (0 : Int32)), (.ref ca), (.ref a)])) _
  refine Go.via (lenI X0 hx hZ e0 P3 (n := (0 : Int32)) rfl (g := (mkF m 4 #[.val (.ref a), .val (.ref ca)] [(.ref ca), (.int (0 : Int32)), (.ref ca), (.ref a)])) rfl rfl (hb hby d3_4)) ?_
  show Go p e below (s₁.setTop (mkF m 5 #[.val (.ref a), .val (.ref ca)] [(.int (0 : Int32)), (.int (0 : Int32)), (.ref ca), (.ref a)])) _
  refine Go.via (fun _ => XS.aconstNull X0.here hx rfl (hb hby d3_5)) ?_
  show Go p e below (s₁.setTop (mkF m 6 #[.val (.ref a), .val (.ref ca)] [.null, (.int (0 : Int32)), (.int (0 : Int32)), (.ref ca), (.ref a)])) _
  obtain ⟨r161, _, ⟨T161, L161, k161, n161⟩, -, X161, h2161, gS161, ⟨Lc161, hQ161, l161, y161, z161⟩, st161⟩ := X0.specialBackS hx (y := (⟨cST, "<init>", "([CIILjava/lang/Void;)V"⟩ : MethodName)) rfl hown (mvT hZ (tw hw 19 rfl)) (mvT hZ (tw hw 20 rfl)) (mvT hZ (tw hw 22 rfl)) (by decide) (backOfV (W := 0) (V := V_rmI5_e0 Z a ca (0 : Int32) (0 : Int32) h0) (rmI5_e0 l Z a0 hw [] a ca (0 : Int32) (0 : Int32)  h0 n0 Z0 P0 P1 P2 P4 g_a rfl hh7 hcw) hZ (tw hw 22 rfl) (tw hw 14 rfl) (by decide) (by decide) (fun vm' hW => ⟨Em.still I0 hW.interned_eq (w39 hW.wide), trivial⟩)) (g := (mkF m 6 #[.val (.ref a), .val (.ref ca)] [.null, (.int (0 : Int32)), (.int (0 : Int32)), (.ref ca), (.ref a)])) rfl (by rw [hml]; rfl) (Steps.refl _) (a := a) (argsL := [(.ref ca), (.int (0 : Int32)), (.int (0 : Int32)), .null]) (rest := []) (lenOf pd__28_5bCIILjava_2flang_2fVoid_3b_29V rfl) rfl (by show 2 * 0 + _ ≤ _; exact Nat.le_of_eq rfl) (hb hby d3_6) (fun _ _ => ⟨rfl, e0, (by decide : 0 + 2 ≤ _), (by decide : 0 + 4 ≤ _)⟩)
  dsimp only [Pt.U, Pt.locs, Pt.cells, Pt.slots] at X161 l161 y161 z161 st161 hQ161 h2161 gS161
  rw [l161, y161, z161] at X161
  clear l161 y161 z161
  obtain ⟨v162, hr161, N161q, K161q, f163, f164, f165, f166, I161⟩ := hQ161
  rw [hr161] at st161
  clear hr161
  have N161 := Fr.app N0 N161q
  refine Go.via (fun _ kQ => st161.trans kQ) ?_
  clear st161
  have e161 : T161.heap = T161.heap := rfl
  have f167 : Exa Z T161.heap a cST := f163
  have f168 : Fld Z T161.heap a cST "coder" "B" (.int (0 : Int32)) := f164
  have f169 : Fld Z T161.heap a cST "value" "[B" (.ref v162) := f165
  have f170 : Ia Z T161.heap v162 .byte [] := f166
  have ne171 : v162 ≠ a := Ia.neE (a0 := a0) f170 f167 (tw hw 13 rfl)
  obtain ⟨X161r, hS161, hZ, hown⟩ := rebS hS0 (Nat.le_trans hk0 (Nat.le_of_eq (congrArg Array.size (Eq.symm e0)))) X161 h2161 gS161 hZ hown
  clear X161 h2161 gS161
  clear X0 e0
  show Go p e below (T161.setTop (mkF m 9 #[.val (.ref a), .val (.ref ca)] [])) _
  have k172 : Keep h0 T161.heap [a] := ((Keep.refl h0 [a]).trans K161q (allS (Or.inl (List.mem_of_getElem? (i := 0) rfl)) all0))
  exact Go.finW X161r hS161 (Nat.le_trans (Nat.le_refl _) (Nat.le_of_eq (congrArg Array.size (Eq.symm e161)))) hlk (v := none) (fun _ => rfl) (fun fs hr => X161r.returnOut hx Bd.returns (hb hby d3_9) hr) (by exact ⟨v162, rfl, N161, k172, f167, f168, f169, f170, Em.still I161 X161r.warmed.interned_eq (w39 X161r.warmed.wide)⟩) (by decide) (by decide)
theorem d24_0 : decode jdk_43_method_13_code 0 = .ok (.aload_n 0, 1) := by decide +kernel
theorem d24_1 : decode jdk_43_method_13_code 1 = .ok (.arraylength, 1) := by decide +kernel
theorem d24_2 : decode jdk_43_method_13_code 2 = .ok (.aload_n 1, 1) := by decide +kernel
theorem d24_3 : decode jdk_43_method_13_code 3 = .ok (.arraylength, 1) := by decide +kernel
theorem d24_4 : decode jdk_43_method_13_code 4 = .ok (.if_icmp .ne 30, 3) := by decide +kernel
theorem d24_7 : decode jdk_43_method_13_code 7 = .ok (.iconst 0, 1) := by decide +kernel
theorem d24_8 : decode jdk_43_method_13_code 8 = .ok (.istore_n 2, 1) := by decide +kernel
theorem d24_9 : decode jdk_43_method_13_code 9 = .ok (.iload_n 2, 1) := by decide +kernel
theorem d24_10 : decode jdk_43_method_13_code 10 = .ok (.aload_n 0, 1) := by decide +kernel
theorem d24_11 : decode jdk_43_method_13_code 11 = .ok (.arraylength, 1) := by decide +kernel
theorem d24_12 : decode jdk_43_method_13_code 12 = .ok (.if_icmp .ge 20, 3) := by decide +kernel
theorem d24_32 : decode jdk_43_method_13_code 32 = .ok (.iconst 1, 1) := by decide +kernel
theorem d24_33 : decode jdk_43_method_13_code 33 = .ok (.ireturn, 1) := by decide +kernel
theorem d24_34 : decode jdk_43_method_13_code 34 = .ok (.iconst 0, 1) := by decide +kernel
theorem d24_35 : decode jdk_43_method_13_code 35 = .ok (.ireturn, 1) := by decide +kernel
theorem d24_15 : decode jdk_43_method_13_code 15 = .ok (.aload_n 0, 1) := by decide +kernel
theorem d24_16 : decode jdk_43_method_13_code 16 = .ok (.iload_n 2, 1) := by decide +kernel
theorem d24_17 : decode jdk_43_method_13_code 17 = .ok (.baload, 1) := by decide +kernel
theorem d24_18 : decode jdk_43_method_13_code 18 = .ok (.aload_n 1, 1) := by decide +kernel
theorem d24_19 : decode jdk_43_method_13_code 19 = .ok (.iload_n 2, 1) := by decide +kernel
theorem d24_20 : decode jdk_43_method_13_code 20 = .ok (.baload, 1) := by decide +kernel
theorem d24_21 : decode jdk_43_method_13_code 21 = .ok (.if_icmp .eq 5, 3) := by decide +kernel
theorem d24_26 : decode jdk_43_method_13_code 26 = .ok (.iinc 2 1, 3) := by decide +kernel
theorem d24_29 : decode jdk_43_method_13_code 29 = .ok (.goto (-20), 3) := by decide +kernel
theorem d24_24 : decode jdk_43_method_13_code 24 = .ok (.iconst 0, 1) := by decide +kernel
theorem d24_25 : decode jdk_43_method_13_code 25 = .ok (.ireturn, 1) := by decide +kernel
theorem pn_24 : plainName cL1 = true := by first | (simp [plainName, overriddenIn]; done) | decide +kernel
theorem ef_24 (m : MethodId) (x0 : Addr) (x1 : Addr) : entryFrame m #[(.ref x0), (.ref x1)] 3 = mkF m 0 #[.val (.ref x0), .val (.ref x1), .unset] [] := by first | (simp [entryFrame, mkF, argsToLocals, Value.category]; done) | rfl
def Q_rmLe (Z : State) (ba : Addr) (bb : Addr) (xs : List Int32) (ys : List Int32) (h0 : Heap) (n0 : Nat) (vQ : Option Value) (hQ : Heap) (LQ : List Loc) : Prop := vQ = some (.int (seF xs ys)) ∧ LQ = [] ∧ hQ = h0
set_option maxRecDepth 65536 in
set_option maxHeartbeats 40000000 in
theorem rmLe (l : Launch) (Z : State) (a0 : Array Value) (hw : ∀ d ∈ tables_1, d.before a0 Z = true) (ws : List Jvm.Cond) (ba : Addr) (bb : Addr) (xs : List Int32) (ys : List Int32) (h0 : Heap) (n0 : Nat) (Z0 : n0 ≤ h0.size) (P0 : Ia Z h0 ba .byte xs) (P1 : Ia Z h0 bb .byte ys) (hX : Sh xs) (hY : Sh ys) :
    MetFree l (⟨cL1, "equals", "([B[B)Z"⟩ : MethodName) (head1 (Jvm.Cond.code (⟨cL1, "equals", "([B[B)Z"⟩ : MethodName) jdk_43_method_13_code 3 (some .boolean) :: ws) ({ frames := 0, cells := 0, slots := 0, locals := 0 } : Room)) (fun aQ UQ => aQ = #[(.ref ba), (.ref bb)] ∧ Z.Warmed39 UQ.vm ∧ UQ.heap = h0) (fun _ _ _ _ _ => True) (fun _ UQ oQ UR => ∃ vQ LQ, oQ = .returned vQ ∧ Q_rmLe Z ba bb xs ys h0 n0 vQ UR.heap LQ ∧ FrameEnd UQ oQ UR LQ ({ frames := 0, cells := 0, slots := 0, locals := 0 } : Room).cells ({ frames := 0, cells := 0, slots := 0, locals := 0 } : Room).slots) := by
  refine MetFree.of_bodySF (plainFor_of_name pn_24) hisR ?_
  intro p e s m args below meth c s₁ Bd hml0 hP hK
  obtain ⟨rfl, hZ, hh⟩ := hP
  have hx := Bd.exec
  have hby := Bd.bytes
  have hlk := Bd.notSynchronized
  have hml : c.maxLocals = 3 := hml0
  have hown : s.vm.findClass cL1 = some m.cls := findClass_of_methodNamed Bd.named
  have hnm := (name_of_methodNamed Bd.named Bd.method).1
  have X0 : Stand p l e ({ frames := 0, cells := 0, slots := 0, locals := 0 } : Room) s m #[(.ref ba), (.ref bb)] below meth c s₁ [] 0 0 := Stand.of_body Bd
  have e0 : s₁.heap = h0 := by rw [← hh, Bd.state]; rfl
  have N0 := Fr.nil n0
  show Go p e below _ (Done s (Q_rmLe Z ba bb xs ys h0 n0) ({ frames := 0, cells := 0, slots := 0, locals := 0 } : Room).cells ({ frames := 0, cells := 0, slots := 0, locals := 0 } : Room).slots)
  refine Go.via (fun tQ kQ => castTop (ef_24 m ba bb) kQ) ?_
  show Go p e below (s₁.setTop (mkF m 0 #[.val (.ref ba), .val (.ref bb), .unset] [])) _
  rcases hX with rfl | ⟨x0, rfl⟩ | ⟨x0, x1, rfl⟩ <;> rcases hY with rfl | ⟨y0, rfl⟩ | ⟨y0, y1, rfl⟩
  · show Go p e below (s₁.setTop (mkF m 0 #[.val (.ref ba), .val (.ref bb), .unset] [])) _
    refine Go.via (fun _ => XS.aloadN X0.here hx rfl (hb hby d24_0) rfl rfl) ?_
    refine Go.via (lenI X0 hx hZ e0 P0 (n := (0 : Int32)) rfl (g := (mkF m 1 #[.val (.ref ba), .val (.ref bb), .unset] [(.ref ba)])) rfl rfl (hb hby d24_1)) ?_
    show Go p e below (s₁.setTop (mkF m 2 #[.val (.ref ba), .val (.ref bb), .unset] [(.int (0 : Int32))])) _
    refine Go.via (fun _ => XS.aloadN X0.here hx rfl (hb hby d24_2) rfl rfl) ?_
    refine Go.via (lenI X0 hx hZ e0 P1 (n := (0 : Int32)) rfl (g := (mkF m 3 #[.val (.ref ba), .val (.ref bb), .unset] [(.ref bb), (.int (0 : Int32))])) rfl rfl (hb hby d24_3)) ?_
    show Go p e below (s₁.setTop (mkF m 4 #[.val (.ref ba), .val (.ref bb), .unset] [(.int (0 : Int32)), (.int (0 : Int32))])) _
    refine Go.via (fun _ => XS.icmpNo X0.here hx rfl (hb hby d24_4) rfl (teq ((by decide) : (0 : Int32) = (0 : Int32))).2) ?_
    show Go p e below (s₁.setTop (mkF m 7 #[.val (.ref ba), .val (.ref bb), .unset] [])) _
    refine Go.via (fun _ => XS.iconst X0.here hx rfl (hb hby d24_7)) ?_
    refine Go.via (fun _ => XS.istoreN X0.here hx rfl (hb hby d24_8) rfl (l' := #[.val (.ref ba), .val (.ref bb), .val (.int (0 : Int32))]) rfl) ?_
    show Go p e below (s₁.setTop (mkF m 9 #[.val (.ref ba), .val (.ref bb), .val (.int (0 : Int32))] [])) _
    refine Go.via (fun _ => XS.iloadN X0.here hx rfl (hb hby d24_9) rfl) ?_
    refine Go.via (fun _ => XS.aloadN X0.here hx rfl (hb hby d24_10) rfl rfl) ?_
    refine Go.via (lenI X0 hx hZ e0 P0 (n := (0 : Int32)) rfl (g := (mkF m 11 #[.val (.ref ba), .val (.ref bb), .val (.int (0 : Int32))] [(.ref ba), (.int (0 : Int32))])) rfl rfl (hb hby d24_11)) ?_
    show Go p e below (s₁.setTop (mkF m 12 #[.val (.ref ba), .val (.ref bb), .val (.int (0 : Int32))] [(.int (0 : Int32)), (.int (0 : Int32))])) _
    refine Go.via (fun _ => XS.icmpYes X0.here hx rfl (pc0 := 12) (pc' := 32) rfl (hb hby d24_12) rfl (flt ((by decide) : ¬ ((0 : Int32) < (0 : Int32)))).2.1 (by decide) (by decide)) ?_
    show Go p e below (s₁.setTop (mkF m 32 #[.val (.ref ba), .val (.ref bb), .val (.int (0 : Int32))] [])) _
    refine Go.via (fun _ => XS.iconst X0.here hx rfl (hb hby d24_32)) ?_
    exact Go.fin X0 hlk (v := some (.int (1 : Int32))) (fun h => by rw [Bd.returns] at h; cases h) (fun fs hr => retN X0 hx (t := .boolean) Bd.returns (by simp) (hb hby d24_33) hr) (by rw [e0]; exact ⟨(by simp [seF]), rfl, rfl⟩) (by decide) (by decide)
  · show Go p e below (s₁.setTop (mkF m 0 #[.val (.ref ba), .val (.ref bb), .unset] [])) _
    refine Go.via (fun _ => XS.aloadN X0.here hx rfl (hb hby d24_0) rfl rfl) ?_
    refine Go.via (lenI X0 hx hZ e0 P0 (n := (0 : Int32)) rfl (g := (mkF m 1 #[.val (.ref ba), .val (.ref bb), .unset] [(.ref ba)])) rfl rfl (hb hby d24_1)) ?_
    show Go p e below (s₁.setTop (mkF m 2 #[.val (.ref ba), .val (.ref bb), .unset] [(.int (0 : Int32))])) _
    refine Go.via (fun _ => XS.aloadN X0.here hx rfl (hb hby d24_2) rfl rfl) ?_
    refine Go.via (lenI X0 hx hZ e0 P1 (n := (1 : Int32)) rfl (g := (mkF m 3 #[.val (.ref ba), .val (.ref bb), .unset] [(.ref bb), (.int (0 : Int32))])) rfl rfl (hb hby d24_3)) ?_
    show Go p e below (s₁.setTop (mkF m 4 #[.val (.ref ba), .val (.ref bb), .unset] [(.int (1 : Int32)), (.int (0 : Int32))])) _
    refine Go.via (fun _ => XS.icmpYes X0.here hx rfl (pc0 := 4) (pc' := 34) rfl (hb hby d24_4) rfl (feq ((by decide) : ¬ ((0 : Int32) = (1 : Int32)))).2 (by decide) (by decide)) ?_
    show Go p e below (s₁.setTop (mkF m 34 #[.val (.ref ba), .val (.ref bb), .unset] [])) _
    refine Go.via (fun _ => XS.iconst X0.here hx rfl (hb hby d24_34)) ?_
    exact Go.fin X0 hlk (v := some (.int (0 : Int32))) (fun h => by rw [Bd.returns] at h; cases h) (fun fs hr => retN X0 hx (t := .boolean) Bd.returns (by simp) (hb hby d24_35) hr) (by rw [e0]; exact ⟨(by simp [seF]), rfl, rfl⟩) (by decide) (by decide)
  · show Go p e below (s₁.setTop (mkF m 0 #[.val (.ref ba), .val (.ref bb), .unset] [])) _
    refine Go.via (fun _ => XS.aloadN X0.here hx rfl (hb hby d24_0) rfl rfl) ?_
    refine Go.via (lenI X0 hx hZ e0 P0 (n := (0 : Int32)) rfl (g := (mkF m 1 #[.val (.ref ba), .val (.ref bb), .unset] [(.ref ba)])) rfl rfl (hb hby d24_1)) ?_
    show Go p e below (s₁.setTop (mkF m 2 #[.val (.ref ba), .val (.ref bb), .unset] [(.int (0 : Int32))])) _
    refine Go.via (fun _ => XS.aloadN X0.here hx rfl (hb hby d24_2) rfl rfl) ?_
    refine Go.via (lenI X0 hx hZ e0 P1 (n := (2 : Int32)) rfl (g := (mkF m 3 #[.val (.ref ba), .val (.ref bb), .unset] [(.ref bb), (.int (0 : Int32))])) rfl rfl (hb hby d24_3)) ?_
    show Go p e below (s₁.setTop (mkF m 4 #[.val (.ref ba), .val (.ref bb), .unset] [(.int (2 : Int32)), (.int (0 : Int32))])) _
    refine Go.via (fun _ => XS.icmpYes X0.here hx rfl (pc0 := 4) (pc' := 34) rfl (hb hby d24_4) rfl (feq ((by decide) : ¬ ((0 : Int32) = (2 : Int32)))).2 (by decide) (by decide)) ?_
    show Go p e below (s₁.setTop (mkF m 34 #[.val (.ref ba), .val (.ref bb), .unset] [])) _
    refine Go.via (fun _ => XS.iconst X0.here hx rfl (hb hby d24_34)) ?_
    exact Go.fin X0 hlk (v := some (.int (0 : Int32))) (fun h => by rw [Bd.returns] at h; cases h) (fun fs hr => retN X0 hx (t := .boolean) Bd.returns (by simp) (hb hby d24_35) hr) (by rw [e0]; exact ⟨(by simp [seF]), rfl, rfl⟩) (by decide) (by decide)
  · show Go p e below (s₁.setTop (mkF m 0 #[.val (.ref ba), .val (.ref bb), .unset] [])) _
    refine Go.via (fun _ => XS.aloadN X0.here hx rfl (hb hby d24_0) rfl rfl) ?_
    refine Go.via (lenI X0 hx hZ e0 P0 (n := (1 : Int32)) rfl (g := (mkF m 1 #[.val (.ref ba), .val (.ref bb), .unset] [(.ref ba)])) rfl rfl (hb hby d24_1)) ?_
    show Go p e below (s₁.setTop (mkF m 2 #[.val (.ref ba), .val (.ref bb), .unset] [(.int (1 : Int32))])) _
    refine Go.via (fun _ => XS.aloadN X0.here hx rfl (hb hby d24_2) rfl rfl) ?_
    refine Go.via (lenI X0 hx hZ e0 P1 (n := (0 : Int32)) rfl (g := (mkF m 3 #[.val (.ref ba), .val (.ref bb), .unset] [(.ref bb), (.int (1 : Int32))])) rfl rfl (hb hby d24_3)) ?_
    show Go p e below (s₁.setTop (mkF m 4 #[.val (.ref ba), .val (.ref bb), .unset] [(.int (0 : Int32)), (.int (1 : Int32))])) _
    refine Go.via (fun _ => XS.icmpYes X0.here hx rfl (pc0 := 4) (pc' := 34) rfl (hb hby d24_4) rfl (feq ((by decide) : ¬ ((1 : Int32) = (0 : Int32)))).2 (by decide) (by decide)) ?_
    show Go p e below (s₁.setTop (mkF m 34 #[.val (.ref ba), .val (.ref bb), .unset] [])) _
    refine Go.via (fun _ => XS.iconst X0.here hx rfl (hb hby d24_34)) ?_
    exact Go.fin X0 hlk (v := some (.int (0 : Int32))) (fun h => by rw [Bd.returns] at h; cases h) (fun fs hr => retN X0 hx (t := .boolean) Bd.returns (by simp) (hb hby d24_35) hr) (by rw [e0]; exact ⟨(by simp [seF]), rfl, rfl⟩) (by decide) (by decide)
  · show Go p e below (s₁.setTop (mkF m 0 #[.val (.ref ba), .val (.ref bb), .unset] [])) _
    refine Go.via (fun _ => XS.aloadN X0.here hx rfl (hb hby d24_0) rfl rfl) ?_
    refine Go.via (lenI X0 hx hZ e0 P0 (n := (1 : Int32)) rfl (g := (mkF m 1 #[.val (.ref ba), .val (.ref bb), .unset] [(.ref ba)])) rfl rfl (hb hby d24_1)) ?_
    show Go p e below (s₁.setTop (mkF m 2 #[.val (.ref ba), .val (.ref bb), .unset] [(.int (1 : Int32))])) _
    refine Go.via (fun _ => XS.aloadN X0.here hx rfl (hb hby d24_2) rfl rfl) ?_
    refine Go.via (lenI X0 hx hZ e0 P1 (n := (1 : Int32)) rfl (g := (mkF m 3 #[.val (.ref ba), .val (.ref bb), .unset] [(.ref bb), (.int (1 : Int32))])) rfl rfl (hb hby d24_3)) ?_
    show Go p e below (s₁.setTop (mkF m 4 #[.val (.ref ba), .val (.ref bb), .unset] [(.int (1 : Int32)), (.int (1 : Int32))])) _
    refine Go.via (fun _ => XS.icmpNo X0.here hx rfl (hb hby d24_4) rfl (teq ((by decide) : (1 : Int32) = (1 : Int32))).2) ?_
    show Go p e below (s₁.setTop (mkF m 7 #[.val (.ref ba), .val (.ref bb), .unset] [])) _
    refine Go.via (fun _ => XS.iconst X0.here hx rfl (hb hby d24_7)) ?_
    refine Go.via (fun _ => XS.istoreN X0.here hx rfl (hb hby d24_8) rfl (l' := #[.val (.ref ba), .val (.ref bb), .val (.int (0 : Int32))]) rfl) ?_
    show Go p e below (s₁.setTop (mkF m 9 #[.val (.ref ba), .val (.ref bb), .val (.int (0 : Int32))] [])) _
    refine Go.via (fun _ => XS.iloadN X0.here hx rfl (hb hby d24_9) rfl) ?_
    refine Go.via (fun _ => XS.aloadN X0.here hx rfl (hb hby d24_10) rfl rfl) ?_
    refine Go.via (lenI X0 hx hZ e0 P0 (n := (1 : Int32)) rfl (g := (mkF m 11 #[.val (.ref ba), .val (.ref bb), .val (.int (0 : Int32))] [(.ref ba), (.int (0 : Int32))])) rfl rfl (hb hby d24_11)) ?_
    show Go p e below (s₁.setTop (mkF m 12 #[.val (.ref ba), .val (.ref bb), .val (.int (0 : Int32))] [(.int (1 : Int32)), (.int (0 : Int32))])) _
    refine Go.via (fun _ => XS.icmpNo X0.here hx rfl (hb hby d24_12) rfl (tlt ((by decide) : (0 : Int32) < (1 : Int32))).2.1) ?_
    show Go p e below (s₁.setTop (mkF m 15 #[.val (.ref ba), .val (.ref bb), .val (.int (0 : Int32))] [])) _
    refine Go.via (fun _ => XS.aloadN X0.here hx rfl (hb hby d24_15) rfl rfl) ?_
    refine Go.via (fun _ => XS.iloadN X0.here hx rfl (hb hby d24_16) rfl) ?_
    refine Go.via (ldB X0 hx hZ e0 P0 (v := x0) (by decide) rfl (g := (mkF m 17 #[.val (.ref ba), .val (.ref bb), .val (.int (0 : Int32))] [(.int (0 : Int32)), (.ref ba)])) rfl rfl (hb hby d24_17)) ?_
    show Go p e below (s₁.setTop (mkF m 18 #[.val (.ref ba), .val (.ref bb), .val (.int (0 : Int32))] [(.int x0)])) _
    refine Go.via (fun _ => XS.aloadN X0.here hx rfl (hb hby d24_18) rfl rfl) ?_
    refine Go.via (fun _ => XS.iloadN X0.here hx rfl (hb hby d24_19) rfl) ?_
    refine Go.via (ldB X0 hx hZ e0 P1 (v := y0) (by decide) rfl (g := (mkF m 20 #[.val (.ref ba), .val (.ref bb), .val (.int (0 : Int32))] [(.int (0 : Int32)), (.ref bb), (.int x0)])) rfl rfl (hb hby d24_20)) ?_
    show Go p e below (s₁.setTop (mkF m 21 #[.val (.ref ba), .val (.ref bb), .val (.int (0 : Int32))] [(.int y0), (.int x0)])) _
    by_cases hc173 : x0 = y0
    · refine Go.via (fun _ => XS.icmpYes X0.here hx rfl (pc0 := 21) (pc' := 26) rfl (hb hby d24_21) rfl (teq (hc173 : x0 = y0)).1 (by decide) (by decide)) ?_
      show Go p e below (s₁.setTop (mkF m 26 #[.val (.ref ba), .val (.ref bb), .val (.int (0 : Int32))] [])) _
      refine Go.via (fun _ => XS.iinc X0.here hx rfl (hb hby d24_26) rfl (l' := #[.val (.ref ba), .val (.ref bb), .val (.int (1 : Int32))]) rfl) ?_
      show Go p e below (s₁.setTop (mkF m 29 #[.val (.ref ba), .val (.ref bb), .val (.int (1 : Int32))] [])) _
      refine Go.via (fun _ => XS.goto X0.here hx rfl (pc0 := 29) (pc' := 9) rfl (hb hby d24_29) (by decide) (by decide)) ?_
      refine Go.via (fun _ => XS.iloadN X0.here hx rfl (hb hby d24_9) rfl) ?_
      refine Go.via (fun _ => XS.aloadN X0.here hx rfl (hb hby d24_10) rfl rfl) ?_
      refine Go.via (lenI X0 hx hZ e0 P0 (n := (1 : Int32)) rfl (g := (mkF m 11 #[.val (.ref ba), .val (.ref bb), .val (.int (1 : Int32))] [(.ref ba), (.int (1 : Int32))])) rfl rfl (hb hby d24_11)) ?_
      show Go p e below (s₁.setTop (mkF m 12 #[.val (.ref ba), .val (.ref bb), .val (.int (1 : Int32))] [(.int (1 : Int32)), (.int (1 : Int32))])) _
      refine Go.via (fun _ => XS.icmpYes X0.here hx rfl (pc0 := 12) (pc' := 32) rfl (hb hby d24_12) rfl (flt ((by decide) : ¬ ((1 : Int32) < (1 : Int32)))).2.1 (by decide) (by decide)) ?_
      show Go p e below (s₁.setTop (mkF m 32 #[.val (.ref ba), .val (.ref bb), .val (.int (1 : Int32))] [])) _
      refine Go.via (fun _ => XS.iconst X0.here hx rfl (hb hby d24_32)) ?_
      exact Go.fin X0 hlk (v := some (.int (1 : Int32))) (fun h => by rw [Bd.returns] at h; cases h) (fun fs hr => retN X0 hx (t := .boolean) Bd.returns (by simp) (hb hby d24_33) hr) (by rw [e0]; exact ⟨(by simp [seF, hc173]), rfl, rfl⟩) (by decide) (by decide)
    · refine Go.via (fun _ => XS.icmpNo X0.here hx rfl (hb hby d24_21) rfl (feq (hc173 : ¬ (x0 = y0))).1) ?_
      show Go p e below (s₁.setTop (mkF m 24 #[.val (.ref ba), .val (.ref bb), .val (.int (0 : Int32))] [])) _
      refine Go.via (fun _ => XS.iconst X0.here hx rfl (hb hby d24_24)) ?_
      exact Go.fin X0 hlk (v := some (.int (0 : Int32))) (fun h => by rw [Bd.returns] at h; cases h) (fun fs hr => retN X0 hx (t := .boolean) Bd.returns (by simp) (hb hby d24_25) hr) (by rw [e0]; exact ⟨(by simp [seF, hc173]), rfl, rfl⟩) (by decide) (by decide)
  · show Go p e below (s₁.setTop (mkF m 0 #[.val (.ref ba), .val (.ref bb), .unset] [])) _
    refine Go.via (fun _ => XS.aloadN X0.here hx rfl (hb hby d24_0) rfl rfl) ?_
    refine Go.via (lenI X0 hx hZ e0 P0 (n := (1 : Int32)) rfl (g := (mkF m 1 #[.val (.ref ba), .val (.ref bb), .unset] [(.ref ba)])) rfl rfl (hb hby d24_1)) ?_
    show Go p e below (s₁.setTop (mkF m 2 #[.val (.ref ba), .val (.ref bb), .unset] [(.int (1 : Int32))])) _
    refine Go.via (fun _ => XS.aloadN X0.here hx rfl (hb hby d24_2) rfl rfl) ?_
    refine Go.via (lenI X0 hx hZ e0 P1 (n := (2 : Int32)) rfl (g := (mkF m 3 #[.val (.ref ba), .val (.ref bb), .unset] [(.ref bb), (.int (1 : Int32))])) rfl rfl (hb hby d24_3)) ?_
    show Go p e below (s₁.setTop (mkF m 4 #[.val (.ref ba), .val (.ref bb), .unset] [(.int (2 : Int32)), (.int (1 : Int32))])) _
    refine Go.via (fun _ => XS.icmpYes X0.here hx rfl (pc0 := 4) (pc' := 34) rfl (hb hby d24_4) rfl (feq ((by decide) : ¬ ((1 : Int32) = (2 : Int32)))).2 (by decide) (by decide)) ?_
    show Go p e below (s₁.setTop (mkF m 34 #[.val (.ref ba), .val (.ref bb), .unset] [])) _
    refine Go.via (fun _ => XS.iconst X0.here hx rfl (hb hby d24_34)) ?_
    exact Go.fin X0 hlk (v := some (.int (0 : Int32))) (fun h => by rw [Bd.returns] at h; cases h) (fun fs hr => retN X0 hx (t := .boolean) Bd.returns (by simp) (hb hby d24_35) hr) (by rw [e0]; exact ⟨(by simp [seF]), rfl, rfl⟩) (by decide) (by decide)
  · show Go p e below (s₁.setTop (mkF m 0 #[.val (.ref ba), .val (.ref bb), .unset] [])) _
    refine Go.via (fun _ => XS.aloadN X0.here hx rfl (hb hby d24_0) rfl rfl) ?_
    refine Go.via (lenI X0 hx hZ e0 P0 (n := (2 : Int32)) rfl (g := (mkF m 1 #[.val (.ref ba), .val (.ref bb), .unset] [(.ref ba)])) rfl rfl (hb hby d24_1)) ?_
    show Go p e below (s₁.setTop (mkF m 2 #[.val (.ref ba), .val (.ref bb), .unset] [(.int (2 : Int32))])) _
    refine Go.via (fun _ => XS.aloadN X0.here hx rfl (hb hby d24_2) rfl rfl) ?_
    refine Go.via (lenI X0 hx hZ e0 P1 (n := (0 : Int32)) rfl (g := (mkF m 3 #[.val (.ref ba), .val (.ref bb), .unset] [(.ref bb), (.int (2 : Int32))])) rfl rfl (hb hby d24_3)) ?_
    show Go p e below (s₁.setTop (mkF m 4 #[.val (.ref ba), .val (.ref bb), .unset] [(.int (0 : Int32)), (.int (2 : Int32))])) _
    refine Go.via (fun _ => XS.icmpYes X0.here hx rfl (pc0 := 4) (pc' := 34) rfl (hb hby d24_4) rfl (feq ((by decide) : ¬ ((2 : Int32) = (0 : Int32)))).2 (by decide) (by decide)) ?_
    show Go p e below (s₁.setTop (mkF m 34 #[.val (.ref ba), .val (.ref bb), .unset] [])) _
    refine Go.via (fun _ => XS.iconst X0.here hx rfl (hb hby d24_34)) ?_
    exact Go.fin X0 hlk (v := some (.int (0 : Int32))) (fun h => by rw [Bd.returns] at h; cases h) (fun fs hr => retN X0 hx (t := .boolean) Bd.returns (by simp) (hb hby d24_35) hr) (by rw [e0]; exact ⟨(by simp [seF]), rfl, rfl⟩) (by decide) (by decide)
  · show Go p e below (s₁.setTop (mkF m 0 #[.val (.ref ba), .val (.ref bb), .unset] [])) _
    refine Go.via (fun _ => XS.aloadN X0.here hx rfl (hb hby d24_0) rfl rfl) ?_
    refine Go.via (lenI X0 hx hZ e0 P0 (n := (2 : Int32)) rfl (g := (mkF m 1 #[.val (.ref ba), .val (.ref bb), .unset] [(.ref ba)])) rfl rfl (hb hby d24_1)) ?_
    show Go p e below (s₁.setTop (mkF m 2 #[.val (.ref ba), .val (.ref bb), .unset] [(.int (2 : Int32))])) _
    refine Go.via (fun _ => XS.aloadN X0.here hx rfl (hb hby d24_2) rfl rfl) ?_
    refine Go.via (lenI X0 hx hZ e0 P1 (n := (1 : Int32)) rfl (g := (mkF m 3 #[.val (.ref ba), .val (.ref bb), .unset] [(.ref bb), (.int (2 : Int32))])) rfl rfl (hb hby d24_3)) ?_
    show Go p e below (s₁.setTop (mkF m 4 #[.val (.ref ba), .val (.ref bb), .unset] [(.int (1 : Int32)), (.int (2 : Int32))])) _
    refine Go.via (fun _ => XS.icmpYes X0.here hx rfl (pc0 := 4) (pc' := 34) rfl (hb hby d24_4) rfl (feq ((by decide) : ¬ ((2 : Int32) = (1 : Int32)))).2 (by decide) (by decide)) ?_
    show Go p e below (s₁.setTop (mkF m 34 #[.val (.ref ba), .val (.ref bb), .unset] [])) _
    refine Go.via (fun _ => XS.iconst X0.here hx rfl (hb hby d24_34)) ?_
    exact Go.fin X0 hlk (v := some (.int (0 : Int32))) (fun h => by rw [Bd.returns] at h; cases h) (fun fs hr => retN X0 hx (t := .boolean) Bd.returns (by simp) (hb hby d24_35) hr) (by rw [e0]; exact ⟨(by simp [seF]), rfl, rfl⟩) (by decide) (by decide)
  · show Go p e below (s₁.setTop (mkF m 0 #[.val (.ref ba), .val (.ref bb), .unset] [])) _
    refine Go.via (fun _ => XS.aloadN X0.here hx rfl (hb hby d24_0) rfl rfl) ?_
    refine Go.via (lenI X0 hx hZ e0 P0 (n := (2 : Int32)) rfl (g := (mkF m 1 #[.val (.ref ba), .val (.ref bb), .unset] [(.ref ba)])) rfl rfl (hb hby d24_1)) ?_
    show Go p e below (s₁.setTop (mkF m 2 #[.val (.ref ba), .val (.ref bb), .unset] [(.int (2 : Int32))])) _
    refine Go.via (fun _ => XS.aloadN X0.here hx rfl (hb hby d24_2) rfl rfl) ?_
    refine Go.via (lenI X0 hx hZ e0 P1 (n := (2 : Int32)) rfl (g := (mkF m 3 #[.val (.ref ba), .val (.ref bb), .unset] [(.ref bb), (.int (2 : Int32))])) rfl rfl (hb hby d24_3)) ?_
    show Go p e below (s₁.setTop (mkF m 4 #[.val (.ref ba), .val (.ref bb), .unset] [(.int (2 : Int32)), (.int (2 : Int32))])) _
    refine Go.via (fun _ => XS.icmpNo X0.here hx rfl (hb hby d24_4) rfl (teq ((by decide) : (2 : Int32) = (2 : Int32))).2) ?_
    show Go p e below (s₁.setTop (mkF m 7 #[.val (.ref ba), .val (.ref bb), .unset] [])) _
    refine Go.via (fun _ => XS.iconst X0.here hx rfl (hb hby d24_7)) ?_
    refine Go.via (fun _ => XS.istoreN X0.here hx rfl (hb hby d24_8) rfl (l' := #[.val (.ref ba), .val (.ref bb), .val (.int (0 : Int32))]) rfl) ?_
    show Go p e below (s₁.setTop (mkF m 9 #[.val (.ref ba), .val (.ref bb), .val (.int (0 : Int32))] [])) _
    refine Go.via (fun _ => XS.iloadN X0.here hx rfl (hb hby d24_9) rfl) ?_
    refine Go.via (fun _ => XS.aloadN X0.here hx rfl (hb hby d24_10) rfl rfl) ?_
    refine Go.via (lenI X0 hx hZ e0 P0 (n := (2 : Int32)) rfl (g := (mkF m 11 #[.val (.ref ba), .val (.ref bb), .val (.int (0 : Int32))] [(.ref ba), (.int (0 : Int32))])) rfl rfl (hb hby d24_11)) ?_
    show Go p e below (s₁.setTop (mkF m 12 #[.val (.ref ba), .val (.ref bb), .val (.int (0 : Int32))] [(.int (2 : Int32)), (.int (0 : Int32))])) _
    refine Go.via (fun _ => XS.icmpNo X0.here hx rfl (hb hby d24_12) rfl (tlt ((by decide) : (0 : Int32) < (2 : Int32))).2.1) ?_
    show Go p e below (s₁.setTop (mkF m 15 #[.val (.ref ba), .val (.ref bb), .val (.int (0 : Int32))] [])) _
    refine Go.via (fun _ => XS.aloadN X0.here hx rfl (hb hby d24_15) rfl rfl) ?_
    refine Go.via (fun _ => XS.iloadN X0.here hx rfl (hb hby d24_16) rfl) ?_
    refine Go.via (ldB X0 hx hZ e0 P0 (v := x0) (by decide) rfl (g := (mkF m 17 #[.val (.ref ba), .val (.ref bb), .val (.int (0 : Int32))] [(.int (0 : Int32)), (.ref ba)])) rfl rfl (hb hby d24_17)) ?_
    show Go p e below (s₁.setTop (mkF m 18 #[.val (.ref ba), .val (.ref bb), .val (.int (0 : Int32))] [(.int x0)])) _
    refine Go.via (fun _ => XS.aloadN X0.here hx rfl (hb hby d24_18) rfl rfl) ?_
    refine Go.via (fun _ => XS.iloadN X0.here hx rfl (hb hby d24_19) rfl) ?_
    refine Go.via (ldB X0 hx hZ e0 P1 (v := y0) (by decide) rfl (g := (mkF m 20 #[.val (.ref ba), .val (.ref bb), .val (.int (0 : Int32))] [(.int (0 : Int32)), (.ref bb), (.int x0)])) rfl rfl (hb hby d24_20)) ?_
    show Go p e below (s₁.setTop (mkF m 21 #[.val (.ref ba), .val (.ref bb), .val (.int (0 : Int32))] [(.int y0), (.int x0)])) _
    by_cases hc174 : x0 = y0
    · refine Go.via (fun _ => XS.icmpYes X0.here hx rfl (pc0 := 21) (pc' := 26) rfl (hb hby d24_21) rfl (teq (hc174 : x0 = y0)).1 (by decide) (by decide)) ?_
      show Go p e below (s₁.setTop (mkF m 26 #[.val (.ref ba), .val (.ref bb), .val (.int (0 : Int32))] [])) _
      refine Go.via (fun _ => XS.iinc X0.here hx rfl (hb hby d24_26) rfl (l' := #[.val (.ref ba), .val (.ref bb), .val (.int (1 : Int32))]) rfl) ?_
      show Go p e below (s₁.setTop (mkF m 29 #[.val (.ref ba), .val (.ref bb), .val (.int (1 : Int32))] [])) _
      refine Go.via (fun _ => XS.goto X0.here hx rfl (pc0 := 29) (pc' := 9) rfl (hb hby d24_29) (by decide) (by decide)) ?_
      refine Go.via (fun _ => XS.iloadN X0.here hx rfl (hb hby d24_9) rfl) ?_
      refine Go.via (fun _ => XS.aloadN X0.here hx rfl (hb hby d24_10) rfl rfl) ?_
      refine Go.via (lenI X0 hx hZ e0 P0 (n := (2 : Int32)) rfl (g := (mkF m 11 #[.val (.ref ba), .val (.ref bb), .val (.int (1 : Int32))] [(.ref ba), (.int (1 : Int32))])) rfl rfl (hb hby d24_11)) ?_
      show Go p e below (s₁.setTop (mkF m 12 #[.val (.ref ba), .val (.ref bb), .val (.int (1 : Int32))] [(.int (2 : Int32)), (.int (1 : Int32))])) _
      refine Go.via (fun _ => XS.icmpNo X0.here hx rfl (hb hby d24_12) rfl (tlt ((by decide) : (1 : Int32) < (2 : Int32))).2.1) ?_
      show Go p e below (s₁.setTop (mkF m 15 #[.val (.ref ba), .val (.ref bb), .val (.int (1 : Int32))] [])) _
      refine Go.via (fun _ => XS.aloadN X0.here hx rfl (hb hby d24_15) rfl rfl) ?_
      refine Go.via (fun _ => XS.iloadN X0.here hx rfl (hb hby d24_16) rfl) ?_
      refine Go.via (ldB X0 hx hZ e0 P0 (v := x1) (by decide) rfl (g := (mkF m 17 #[.val (.ref ba), .val (.ref bb), .val (.int (1 : Int32))] [(.int (1 : Int32)), (.ref ba)])) rfl rfl (hb hby d24_17)) ?_
      show Go p e below (s₁.setTop (mkF m 18 #[.val (.ref ba), .val (.ref bb), .val (.int (1 : Int32))] [(.int x1)])) _
      refine Go.via (fun _ => XS.aloadN X0.here hx rfl (hb hby d24_18) rfl rfl) ?_
      refine Go.via (fun _ => XS.iloadN X0.here hx rfl (hb hby d24_19) rfl) ?_
      refine Go.via (ldB X0 hx hZ e0 P1 (v := y1) (by decide) rfl (g := (mkF m 20 #[.val (.ref ba), .val (.ref bb), .val (.int (1 : Int32))] [(.int (1 : Int32)), (.ref bb), (.int x1)])) rfl rfl (hb hby d24_20)) ?_
      show Go p e below (s₁.setTop (mkF m 21 #[.val (.ref ba), .val (.ref bb), .val (.int (1 : Int32))] [(.int y1), (.int x1)])) _
      by_cases hc175 : x1 = y1
      · refine Go.via (fun _ => XS.icmpYes X0.here hx rfl (pc0 := 21) (pc' := 26) rfl (hb hby d24_21) rfl (teq (hc175 : x1 = y1)).1 (by decide) (by decide)) ?_
        show Go p e below (s₁.setTop (mkF m 26 #[.val (.ref ba), .val (.ref bb), .val (.int (1 : Int32))] [])) _
        refine Go.via (fun _ => XS.iinc X0.here hx rfl (hb hby d24_26) rfl (l' := #[.val (.ref ba), .val (.ref bb), .val (.int (2 : Int32))]) rfl) ?_
        show Go p e below (s₁.setTop (mkF m 29 #[.val (.ref ba), .val (.ref bb), .val (.int (2 : Int32))] [])) _
        refine Go.via (fun _ => XS.goto X0.here hx rfl (pc0 := 29) (pc' := 9) rfl (hb hby d24_29) (by decide) (by decide)) ?_
        refine Go.via (fun _ => XS.iloadN X0.here hx rfl (hb hby d24_9) rfl) ?_
        refine Go.via (fun _ => XS.aloadN X0.here hx rfl (hb hby d24_10) rfl rfl) ?_
        refine Go.via (lenI X0 hx hZ e0 P0 (n := (2 : Int32)) rfl (g := (mkF m 11 #[.val (.ref ba), .val (.ref bb), .val (.int (2 : Int32))] [(.ref ba), (.int (2 : Int32))])) rfl rfl (hb hby d24_11)) ?_
        show Go p e below (s₁.setTop (mkF m 12 #[.val (.ref ba), .val (.ref bb), .val (.int (2 : Int32))] [(.int (2 : Int32)), (.int (2 : Int32))])) _
        refine Go.via (fun _ => XS.icmpYes X0.here hx rfl (pc0 := 12) (pc' := 32) rfl (hb hby d24_12) rfl (flt ((by decide) : ¬ ((2 : Int32) < (2 : Int32)))).2.1 (by decide) (by decide)) ?_
        show Go p e below (s₁.setTop (mkF m 32 #[.val (.ref ba), .val (.ref bb), .val (.int (2 : Int32))] [])) _
        refine Go.via (fun _ => XS.iconst X0.here hx rfl (hb hby d24_32)) ?_
        exact Go.fin X0 hlk (v := some (.int (1 : Int32))) (fun h => by rw [Bd.returns] at h; cases h) (fun fs hr => retN X0 hx (t := .boolean) Bd.returns (by simp) (hb hby d24_33) hr) (by rw [e0]; exact ⟨(by simp [seF, hc174, hc175]), rfl, rfl⟩) (by decide) (by decide)
      · refine Go.via (fun _ => XS.icmpNo X0.here hx rfl (hb hby d24_21) rfl (feq (hc175 : ¬ (x1 = y1))).1) ?_
        show Go p e below (s₁.setTop (mkF m 24 #[.val (.ref ba), .val (.ref bb), .val (.int (1 : Int32))] [])) _
        refine Go.via (fun _ => XS.iconst X0.here hx rfl (hb hby d24_24)) ?_
        exact Go.fin X0 hlk (v := some (.int (0 : Int32))) (fun h => by rw [Bd.returns] at h; cases h) (fun fs hr => retN X0 hx (t := .boolean) Bd.returns (by simp) (hb hby d24_25) hr) (by rw [e0]; exact ⟨(by simp [seF, hc174, hc175]), rfl, rfl⟩) (by decide) (by decide)
    · refine Go.via (fun _ => XS.icmpNo X0.here hx rfl (hb hby d24_21) rfl (feq (hc174 : ¬ (x0 = y0))).1) ?_
      show Go p e below (s₁.setTop (mkF m 24 #[.val (.ref ba), .val (.ref bb), .val (.int (0 : Int32))] [])) _
      refine Go.via (fun _ => XS.iconst X0.here hx rfl (hb hby d24_24)) ?_
      exact Go.fin X0 hlk (v := some (.int (0 : Int32))) (fun h => by rw [Bd.returns] at h; cases h) (fun fs hr => retN X0 hx (t := .boolean) Bd.returns (by simp) (hb hby d24_25) hr) (by rw [e0]; exact ⟨(by simp [seF, hc174]), rfl, rfl⟩) (by decide) (by decide)
theorem d23_0 : decode jdk_42_method_66_code 0 = .ok (.aload_n 0, 1) := by decide +kernel
theorem d23_1 : decode jdk_42_method_66_code 1 = .ok (.aload_n 1, 1) := by decide +kernel
theorem d23_2 : decode jdk_42_method_66_code 2 = .ok (.if_acmp .ne 5, 3) := by decide +kernel
theorem d23_7 : decode jdk_42_method_66_code 7 = .ok (.aload_n 1, 1) := by decide +kernel
theorem d23_8 : decode jdk_42_method_66_code 8 = .ok (.instanceof 10, 3) := by decide +kernel
theorem d23_11 : decode jdk_42_method_66_code 11 = .ok (.ifCond .eq 43, 3) := by decide +kernel
theorem d23_14 : decode jdk_42_method_66_code 14 = .ok (.aload_n 1, 1) := by decide +kernel
theorem d23_15 : decode jdk_42_method_66_code 15 = .ok (.checkcast 10, 3) := by decide +kernel
theorem d23_18 : decode jdk_42_method_66_code 18 = .ok (.astore_n 2, 1) := by decide +kernel
theorem d23_19 : decode jdk_42_method_66_code 19 = .ok (.getstatic 38, 3) := by decide +kernel
theorem d23_22 : decode jdk_42_method_66_code 22 = .ok (.ifCond .eq 14, 3) := by decide +kernel
theorem d23_25 : decode jdk_42_method_66_code 25 = .ok (.aload_n 0, 1) := by decide +kernel
theorem d23_26 : decode jdk_42_method_66_code 26 = .ok (.getfield 15, 3) := by decide +kernel
theorem d23_29 : decode jdk_42_method_66_code 29 = .ok (.aload_n 2, 1) := by decide +kernel
theorem d23_30 : decode jdk_42_method_66_code 30 = .ok (.getfield 15, 3) := by decide +kernel
theorem d23_33 : decode jdk_42_method_66_code 33 = .ok (.if_icmp .ne 21, 3) := by decide +kernel
theorem d23_36 : decode jdk_42_method_66_code 36 = .ok (.aload_n 0, 1) := by decide +kernel
theorem d23_37 : decode jdk_42_method_66_code 37 = .ok (.getfield 9, 3) := by decide +kernel
theorem d23_40 : decode jdk_42_method_66_code 40 = .ok (.aload_n 2, 1) := by decide +kernel
theorem d23_41 : decode jdk_42_method_66_code 41 = .ok (.getfield 9, 3) := by decide +kernel
theorem d23_44 : decode jdk_42_method_66_code 44 = .ok (.invokestatic 541, 3) := by decide +kernel
theorem pd__28_5bB_5bB_29Z : parseMethodDescriptor "([B[B)Z" = some ⟨[(.array .byte), (.array .byte)], some .boolean⟩ := by decide +kernel
theorem d23_47 : decode jdk_42_method_66_code 47 = .ok (.ifCond .eq 7, 3) := by decide +kernel
theorem d23_54 : decode jdk_42_method_66_code 54 = .ok (.iconst 0, 1) := by decide +kernel
theorem d23_55 : decode jdk_42_method_66_code 55 = .ok (.ireturn, 1) := by decide +kernel
theorem d23_50 : decode jdk_42_method_66_code 50 = .ok (.iconst 1, 1) := by decide +kernel
theorem d23_51 : decode jdk_42_method_66_code 51 = .ok (.goto 4, 3) := by decide +kernel
theorem pn_23 : plainName cST = true := by first | (simp [plainName, overriddenIn]; done) | decide +kernel
theorem ef_23 (m : MethodId) (x0 : Addr) (x1 : Addr) : entryFrame m #[(.ref x0), (.ref x1)] 3 = mkF m 0 #[.val (.ref x0), .val (.ref x1), .unset] [] := by first | (simp [entryFrame, mkF, argsToLocals, Value.category]; done) | rfl
def Q_rmSe (Z : State) (a : Addr) (o : Addr) (cs : Int32) (ba : Addr) (bb : Addr) (xs : List Int32) (ys : List Int32) (h0 : Heap) (n0 : Nat) (vQ : Option Value) (hQ : Heap) (LQ : List Loc) : Prop := vQ = some (.int (seF xs ys)) ∧ LQ = [] ∧ hQ = h0
set_option maxRecDepth 65536 in
set_option maxHeartbeats 40000000 in
theorem rmSe (l : Launch) (Z : State) (a0 : Array Value) (hw : ∀ d ∈ tables_1, d.before a0 Z = true) (ws : List Jvm.Cond) (a : Addr) (o : Addr) (cs : Int32) (ba : Addr) (bb : Addr) (xs : List Int32) (ys : List Int32) (h0 : Heap) (n0 : Nat) (Z0 : n0 ≤ h0.size) (P0 : Exa Z h0 a cST) (P1 : Fld Z h0 a cST "coder" "B" (.int (0 : Int32))) (P2 : Fld Z h0 a cST "value" "[B" (.ref ba)) (P3 : Ia Z h0 ba .byte xs) (P4 : Exa Z h0 o cST) (P5 : Fld Z h0 o cST "coder" "B" (.int (0 : Int32))) (P6 : Fld Z h0 o cST "value" "[B" (.ref bb)) (P7 : Ia Z h0 bb .byte ys) (P8 : Old Z n0 h0) (zCS : Sta Z Z.heap cST "COMPACT_STRINGS" "Z" (.int cs)) (hao : a ≠ o) (hX : Sh xs) (hY : Sh ys) (hcs : ¬ (cs = (0 : Int32))) :
    MetFree l (⟨cST, "equals", "(Ljava/lang/Object;)Z"⟩ : MethodName) (head1 (Jvm.Cond.code (⟨cST, "equals", "(Ljava/lang/Object;)Z"⟩ : MethodName) jdk_42_method_66_code 3 (some .boolean) :: ws) ({ frames := 1, cells := 0, slots := 0, locals := 14 } : Room)) (fun aQ UQ => aQ = #[(.ref a), (.ref o)] ∧ Z.Warmed39 UQ.vm ∧ UQ.heap = h0) (fun _ _ _ _ _ => True) (fun _ UQ oQ UR => ∃ vQ LQ, oQ = .returned vQ ∧ Q_rmSe Z a o cs ba bb xs ys h0 n0 vQ UR.heap LQ ∧ FrameEnd UQ oQ UR LQ ({ frames := 1, cells := 0, slots := 0, locals := 14 } : Room).cells ({ frames := 1, cells := 0, slots := 0, locals := 14 } : Room).slots) := by
  refine MetFree.of_bodySF (plainFor_of_name pn_23) hisR ?_
  intro p e s m args below meth c s₁ Bd hml0 hP hK
  obtain ⟨rfl, hZ, hh⟩ := hP
  have hx := Bd.exec
  have hby := Bd.bytes
  have hlk := Bd.notSynchronized
  have hml : c.maxLocals = 3 := hml0
  have hown : s.vm.findClass cST = some m.cls := findClass_of_methodNamed Bd.named
  have hnm := (name_of_methodNamed Bd.named Bd.method).1
  have X0 : Stand p l e ({ frames := 1, cells := 0, slots := 0, locals := 14 } : Room) s m #[(.ref a), (.ref o)] below meth c s₁ [] 0 0 := Stand.of_body Bd
  have e0 : s₁.heap = h0 := by rw [← hh, Bd.state]; rfl
  have N0 := Fr.nil n0
  show Go p e below _ (Done s (Q_rmSe Z a o cs ba bb xs ys h0 n0) ({ frames := 1, cells := 0, slots := 0, locals := 14 } : Room).cells ({ frames := 1, cells := 0, slots := 0, locals := 14 } : Room).slots)
  refine Go.via (fun tQ kQ => castTop (ef_23 m a o) kQ) ?_
  show Go p e below (s₁.setTop (mkF m 0 #[.val (.ref a), .val (.ref o), .unset] [])) _
  refine Go.via (fun _ => XS.aloadN X0.here hx rfl (hb hby d23_0) rfl rfl) ?_
  refine Go.via (fun _ => XS.aloadN X0.here hx rfl (hb hby d23_1) rfl rfl) ?_
  refine Go.via (fun _ => Jvm.RoadKit.acmp (g := (mkF m 2 #[.val (.ref a), .val (.ref o), .unset] [(.ref o), (.ref a)])) X0 hx rfl rfl rfl (pc0 := 2) (pc' := 7) (same := false) rfl (hb hby d23_2) rfl (decide_eq_false fun q => hao (Value.ref.inj q)) (by decide) (by decide)) ?_
  show Go p e below (s₁.setTop (mkF m 7 #[.val (.ref a), .val (.ref o), .unset] [])) _
  refine Go.via (fun _ => XS.aloadN X0.here hx rfl (hb hby d23_7) rfl rfl) ?_
  obtain ⟨T176, X176, e176, st176⟩ := instY X0 hx hZ hown (tw hw 122 rfl) e0 (Ins.self P4) (g := (mkF m 8 #[.val (.ref a), .val (.ref o), .unset] [(.ref o)])) rfl rfl (hb hby d23_8)
  refine Go.via (st176) ?_
  clear st176
  clear X0 e0
  show Go p e below (T176.setTop (mkF m 11 #[.val (.ref a), .val (.ref o), .unset] [(.int (1 : Int32))])) _
  refine Go.via (fun _ => XS.ifNo X176.here hx rfl (hb hby d23_11) rfl ((if0 _ _).trans (feq ((by decide) : ¬ ((1 : Int32) = (0 : Int32)))).1)) ?_
  show Go p e below (T176.setTop (mkF m 14 #[.val (.ref a), .val (.ref o), .unset] [])) _
  refine Go.via (fun _ => XS.aloadN X176.here hx rfl (hb hby d23_14) rfl rfl) ?_
  obtain ⟨T177, X177, e177, st177⟩ := castY X176 hx hZ hown (tw hw 122 rfl) e176 (Ins.self P4) (g := (mkF m 15 #[.val (.ref a), .val (.ref o), .unset] [(.ref o)])) rfl rfl (hb hby d23_15)
  refine Go.via (st177) ?_
  clear st177
  clear X176 e176
  show Go p e below (T177.setTop (mkF m 18 #[.val (.ref a), .val (.ref o), .unset] [(.ref o)])) _
  refine Go.via (fun _ => XS.astoreN X177.here hx rfl (hb hby d23_18) rfl rfl (l' := #[.val (.ref a), .val (.ref o), .val (.ref o)]) rfl) ?_
  show Go p e below (T177.setTop (mkF m 19 #[.val (.ref a), .val (.ref o), .val (.ref o)] [])) _
  have f178 : Sta Z h0 cST "COMPACT_STRINGS" "Z" (.int cs) := zCS.ext P8.2
  obtain ⟨T179, X179, e179, st179⟩ := getS2 X177 hx hZ hown (host := "") (Or.inl (tw hw 34 rfl)) Via.refl e177 f178 (g := (mkF m 19 #[.val (.ref a), .val (.ref o), .val (.ref o)] [])) rfl (hb hby d23_19)
  refine Go.via (st179) ?_
  clear st179
  clear X177 e177
  show Go p e below (T179.setTop (mkF m 22 #[.val (.ref a), .val (.ref o), .val (.ref o)] [(.int cs)])) _
  refine Go.via (fun _ => XS.ifNo X179.here hx rfl (hb hby d23_22) rfl ((if0 _ _).trans (feq (hcs : ¬ (cs = (0 : Int32)))).1)) ?_
  show Go p e below (T179.setTop (mkF m 25 #[.val (.ref a), .val (.ref o), .val (.ref o)] [])) _
  refine Go.via (fun _ => XS.aloadN X179.here hx rfl (hb hby d23_25) rfl rfl) ?_
  obtain ⟨T180, X180, e180, st180⟩ := getF X179 hx hZ hown (host := "") (Or.inl (tw hw 33 rfl)) Via.refl e179 P1 (g := (mkF m 26 #[.val (.ref a), .val (.ref o), .val (.ref o)] [(.ref a)])) rfl rfl (hb hby d23_26)
  refine Go.via (st180) ?_
  clear st180
  clear X179 e179
  show Go p e below (T180.setTop (mkF m 29 #[.val (.ref a), .val (.ref o), .val (.ref o)] [(.int (0 : Int32))])) _
  refine Go.via (fun _ => XS.aloadN X180.here hx rfl (hb hby d23_29) rfl rfl) ?_
  obtain ⟨T181, X181, e181, st181⟩ := getF X180 hx hZ hown (host := "") (Or.inl (tw hw 33 rfl)) Via.refl e180 P5 (g := (mkF m 30 #[.val (.ref a), .val (.ref o), .val (.ref o)] [(.ref o), (.int (0 : Int32))])) rfl rfl (hb hby d23_30)
  refine Go.via (st181) ?_
  clear st181
  clear X180 e180
  show Go p e below (T181.setTop (mkF m 33 #[.val (.ref a), .val (.ref o), .val (.ref o)] [(.int (0 : Int32)), (.int (0 : Int32))])) _
  refine Go.via (fun _ => XS.icmpNo X181.here hx rfl (hb hby d23_33) rfl (teq ((by decide) : (0 : Int32) = (0 : Int32))).2) ?_
  show Go p e below (T181.setTop (mkF m 36 #[.val (.ref a), .val (.ref o), .val (.ref o)] [])) _
  refine Go.via (fun _ => XS.aloadN X181.here hx rfl (hb hby d23_36) rfl rfl) ?_
  obtain ⟨T182, X182, e182, st182⟩ := getF X181 hx hZ hown (host := "") (Or.inl (tw hw 32 rfl)) Via.refl e181 P2 (g := (mkF m 37 #[.val (.ref a), .val (.ref o), .val (.ref o)] [(.ref a)])) rfl rfl (hb hby d23_37)
  refine Go.via (st182) ?_
  clear st182
  clear X181 e181
  show Go p e below (T182.setTop (mkF m 40 #[.val (.ref a), .val (.ref o), .val (.ref o)] [(.ref ba)])) _
  refine Go.via (fun _ => XS.aloadN X182.here hx rfl (hb hby d23_40) rfl rfl) ?_
  obtain ⟨T183, X183, e183, st183⟩ := getF X182 hx hZ hown (host := "") (Or.inl (tw hw 32 rfl)) Via.refl e182 P6 (g := (mkF m 41 #[.val (.ref a), .val (.ref o), .val (.ref o)] [(.ref o), (.ref ba)])) rfl rfl (hb hby d23_41)
  refine Go.via (st183) ?_
  clear st183
  clear X182 e182
  show Go p e below (T183.setTop (mkF m 44 #[.val (.ref a), .val (.ref o), .val (.ref o)] [(.ref bb), (.ref ba)])) _
  obtain ⟨r184, _, ⟨T184, L184, k184, n184⟩, -, X184, ⟨Lc184, hQ184, l184, y184, z184⟩, st184⟩ := Jvm.LawKit.callS X183 hx (y := (⟨cL1, "equals", "([B[B)Z"⟩ : MethodName)) hown (mvT hZ (tw hw 123 rfl)) (mvT hZ (tw hw 124 rfl)) (mvT hZ (tw hw 88 rfl)) (mvT hZ (tw hw 125 rfl)) (by decide) (backOf (W := 0) (rmLe l Z a0 hw [] ba bb xs ys h0 n0 Z0 P3 P7 hX hY) hZ (tw hw 125 rfl) (tw hw 88 rfl) (by decide) (by decide)) (g := (mkF m 44 #[.val (.ref a), .val (.ref o), .val (.ref o)] [(.ref bb), (.ref ba)])) rfl (by rw [hml]; rfl) (argsL := [(.ref ba), (.ref bb)]) (rest := []) (lenOf pd__28_5bB_5bB_29Z rfl) rfl (by show 2 * 0 + _ ≤ _; exact Nat.le_of_eq rfl) (hb hby d23_44) (fun _ _ => ⟨rfl, e183, (by decide : 0 + 0 ≤ _), (by decide : 0 + 0 ≤ _)⟩)
  dsimp only [Pt.U, Pt.locs, Pt.cells, Pt.slots] at X184 l184 y184 z184 st184 hQ184
  rw [l184, y184, z184] at X184
  clear l184 y184 z184
  obtain ⟨hr184, N184q, eh184⟩ := hQ184
  rw [hr184] at st184
  clear hr184
  rw [N184q, List.append_nil] at X184
  refine Go.via (st184) ?_
  clear st184
  have e184 : T184.heap = h0 := eh184
  clear X183 e183
  show Go p e below (T184.setTop (mkF m 47 #[.val (.ref a), .val (.ref o), .val (.ref o)] [(.int (seF xs ys))])) _
  by_cases hc185 : (seF xs ys) = (0 : Int32)
  · refine Go.via (fun _ => XS.ifYes X184.here hx rfl (pc0 := 47) (pc' := 54) rfl (hb hby d23_47) rfl ((if0 _ _).trans (teq (hc185 : (seF xs ys) = (0 : Int32))).1) (by decide) (by decide)) ?_
    show Go p e below (T184.setTop (mkF m 54 #[.val (.ref a), .val (.ref o), .val (.ref o)] [])) _
    refine Go.via (fun _ => XS.iconst X184.here hx rfl (hb hby d23_54)) ?_
    exact Go.fin X184 hlk (v := some (.int (0 : Int32))) (fun h => by rw [Bd.returns] at h; cases h) (fun fs hr => retN X184 hx (t := .boolean) Bd.returns (by simp) (hb hby d23_55) hr) (by rw [e184]; exact ⟨(congrArg (fun qq => some (Value.int qq)) (Eq.symm hc185)), rfl, rfl⟩) (by decide) (by decide)
  · refine Go.via (fun _ => XS.ifNo X184.here hx rfl (hb hby d23_47) rfl ((if0 _ _).trans (feq (hc185 : ¬ ((seF xs ys) = (0 : Int32)))).1)) ?_
    show Go p e below (T184.setTop (mkF m 50 #[.val (.ref a), .val (.ref o), .val (.ref o)] [])) _
    refine Go.via (fun _ => XS.iconst X184.here hx rfl (hb hby d23_50)) ?_
    refine Go.via (fun _ => XS.goto X184.here hx rfl (pc0 := 51) (pc' := 55) rfl (hb hby d23_51) (by decide) (by decide)) ?_
    exact Go.fin X184 hlk (v := some (.int (1 : Int32))) (fun h => by rw [Bd.returns] at h; cases h) (fun fs hr => retN X184 hx (t := .boolean) Bd.returns (by simp) (hb hby d23_55) hr) (by rw [e184]; exact ⟨(congrArg (fun qq => some (Value.int qq)) (Eq.symm (own_se1 hc185))), rfl, rfl⟩) (by decide) (by decide)
theorem d20_0 : decode prog_15_method_12_code 0 = .ok (.iload_n 0, 1) := by decide +kernel
theorem d20_1 : decode prog_15_method_12_code 1 = .ok (.bipush 65, 2) := by decide +kernel
theorem d20_3 : decode prog_15_method_12_code 3 = .ok (.if_icmp .lt 9, 3) := by decide +kernel
theorem d20_12 : decode prog_15_method_12_code 12 = .ok (.iload_n 0, 1) := by decide +kernel
theorem d20_13 : decode prog_15_method_12_code 13 = .ok (.bipush 97, 2) := by decide +kernel
theorem d20_15 : decode prog_15_method_12_code 15 = .ok (.if_icmp .lt 9, 3) := by decide +kernel
theorem d20_24 : decode prog_15_method_12_code 24 = .ok (.iload_n 0, 1) := by decide +kernel
theorem d20_25 : decode prog_15_method_12_code 25 = .ok (.bipush 48, 2) := by decide +kernel
theorem d20_27 : decode prog_15_method_12_code 27 = .ok (.if_icmp .lt 9, 3) := by decide +kernel
theorem d20_36 : decode prog_15_method_12_code 36 = .ok (.iload_n 0, 1) := by decide +kernel
theorem d20_37 : decode prog_15_method_12_code 37 = .ok (.bipush 43, 2) := by decide +kernel
theorem d20_39 : decode prog_15_method_12_code 39 = .ok (.if_icmp .eq 9, 3) := by decide +kernel
theorem d20_48 : decode prog_15_method_12_code 48 = .ok (.iconst 1, 1) := by decide +kernel
theorem d20_49 : decode prog_15_method_12_code 49 = .ok (.goto 4, 3) := by decide +kernel
theorem d20_53 : decode prog_15_method_12_code 53 = .ok (.ireturn, 1) := by decide +kernel
theorem d20_42 : decode prog_15_method_12_code 42 = .ok (.iload_n 0, 1) := by decide +kernel
theorem d20_43 : decode prog_15_method_12_code 43 = .ok (.bipush 47, 2) := by decide +kernel
theorem d20_45 : decode prog_15_method_12_code 45 = .ok (.if_icmp .ne 7, 3) := by decide +kernel
theorem d20_52 : decode prog_15_method_12_code 52 = .ok (.iconst 0, 1) := by decide +kernel
theorem d20_30 : decode prog_15_method_12_code 30 = .ok (.iload_n 0, 1) := by decide +kernel
theorem d20_31 : decode prog_15_method_12_code 31 = .ok (.bipush 57, 2) := by decide +kernel
theorem d20_33 : decode prog_15_method_12_code 33 = .ok (.if_icmp .le 15, 3) := by decide +kernel
theorem d20_18 : decode prog_15_method_12_code 18 = .ok (.iload_n 0, 1) := by decide +kernel
theorem d20_19 : decode prog_15_method_12_code 19 = .ok (.bipush 122, 2) := by decide +kernel
theorem d20_21 : decode prog_15_method_12_code 21 = .ok (.if_icmp .le 27, 3) := by decide +kernel
theorem d20_6 : decode prog_15_method_12_code 6 = .ok (.iload_n 0, 1) := by decide +kernel
theorem d20_7 : decode prog_15_method_12_code 7 = .ok (.bipush 90, 2) := by decide +kernel
theorem d20_9 : decode prog_15_method_12_code 9 = .ok (.if_icmp .le 39, 3) := by decide +kernel
theorem pn_20 : plainName cCD = true := by first | (simp [plainName, overriddenIn]; done) | decide +kernel
theorem ef_20 (m : MethodId) (x0 : Int32) : entryFrame m #[(.int x0)] 1 = mkF m 0 #[.val (.int x0)] [] := by first | (simp [entryFrame, mkF, argsToLocals, Value.category]; done) | rfl
def Q_rm64 (Z : State) (v : Int32)  (h0 : Heap) (n0 : Nat) (vQ : Option Value) (hQ : Heap) (LQ : List Loc) : Prop := vQ = some (.int (1 : Int32)) ∧ LQ = [] ∧ hQ = h0
set_option maxRecDepth 65536 in
set_option maxHeartbeats 40000000 in
theorem rm64 (l : Launch) (Z : State) (a0 : Array Value) (hw : ∀ d ∈ tables_1, d.before a0 Z = true) (ws : List Jvm.Cond) (v : Int32)  (h0 : Heap) (n0 : Nat) (Z0 : n0 ≤ h0.size) (hm : v ∈ ALPH) :
    MetFree l (⟨cCD, "isBase64", "(C)Z"⟩ : MethodName) (head1 (Jvm.Cond.code (⟨cCD, "isBase64", "(C)Z"⟩ : MethodName) prog_15_method_12_code 1 (some .boolean) :: ws) ({ frames := 0, cells := 0, slots := 0, locals := 0 } : Room)) (fun aQ UQ => aQ = #[(.int v)] ∧ Z.Warmed39 UQ.vm ∧ UQ.heap = h0) (fun _ _ _ _ _ => True) (fun _ UQ oQ UR => ∃ vQ LQ, oQ = .returned vQ ∧ Q_rm64 Z v  h0 n0 vQ UR.heap LQ ∧ FrameEnd UQ oQ UR LQ ({ frames := 0, cells := 0, slots := 0, locals := 0 } : Room).cells ({ frames := 0, cells := 0, slots := 0, locals := 0 } : Room).slots) := by
  refine MetFree.of_bodySF (plainFor_of_name pn_20) hisR ?_
  intro p e s m args below meth c s₁ Bd hml0 hP hK
  obtain ⟨rfl, hZ, hh⟩ := hP
  have hx := Bd.exec
  have hby := Bd.bytes
  have hlk := Bd.notSynchronized
  have hml : c.maxLocals = 1 := hml0
  have hown : s.vm.findClass cCD = some m.cls := findClass_of_methodNamed Bd.named
  have hnm := (name_of_methodNamed Bd.named Bd.method).1
  have X0 : Stand p l e ({ frames := 0, cells := 0, slots := 0, locals := 0 } : Room) s m #[(.int v)] below meth c s₁ [] 0 0 := Stand.of_body Bd
  have e0 : s₁.heap = h0 := by rw [← hh, Bd.state]; rfl
  have N0 := Fr.nil n0
  show Go p e below _ (Done s (Q_rm64 Z v  h0 n0) ({ frames := 0, cells := 0, slots := 0, locals := 0 } : Room).cells ({ frames := 0, cells := 0, slots := 0, locals := 0 } : Room).slots)
  refine Go.via (fun tQ kQ => castTop (ef_20 m v) kQ) ?_
  show Go p e below (s₁.setTop (mkF m 0 #[.val (.int v)] [])) _
  refine Go.via (fun _ => XS.iloadN X0.here hx rfl (hb hby d20_0) rfl) ?_
  refine Go.via (fun _ => XS.bipush X0.here hx rfl (hb hby d20_1)) ?_
  by_cases hc186 : v < (65 : Int32)
  · refine Go.via (fun _ => XS.icmpYes X0.here hx rfl (pc0 := 3) (pc' := 12) rfl (hb hby d20_3) rfl (tlt (hc186 : v < (65 : Int32))).1 (by decide) (by decide)) ?_
    refine Go.via (fun _ => XS.iloadN X0.here hx rfl (hb hby d20_12) rfl) ?_
    refine Go.via (fun _ => XS.bipush X0.here hx rfl (hb hby d20_13)) ?_
    show Go p e below (s₁.setTop (mkF m 15 #[.val (.int v)] [(.int (97 : Int32)), (.int v)])) _
    by_cases hc187 : v < (97 : Int32)
    · refine Go.via (fun _ => XS.icmpYes X0.here hx rfl (pc0 := 15) (pc' := 24) rfl (hb hby d20_15) rfl (tlt (hc187 : v < (97 : Int32))).1 (by decide) (by decide)) ?_
      show Go p e below (s₁.setTop (mkF m 24 #[.val (.int v)] [])) _
      refine Go.via (fun _ => XS.iloadN X0.here hx rfl (hb hby d20_24) rfl) ?_
      refine Go.via (fun _ => XS.bipush X0.here hx rfl (hb hby d20_25)) ?_
      by_cases hc188 : v < (48 : Int32)
      · refine Go.via (fun _ => XS.icmpYes X0.here hx rfl (pc0 := 27) (pc' := 36) rfl (hb hby d20_27) rfl (tlt (hc188 : v < (48 : Int32))).1 (by decide) (by decide)) ?_
        refine Go.via (fun _ => XS.iloadN X0.here hx rfl (hb hby d20_36) rfl) ?_
        refine Go.via (fun _ => XS.bipush X0.here hx rfl (hb hby d20_37)) ?_
        show Go p e below (s₁.setTop (mkF m 39 #[.val (.int v)] [(.int (43 : Int32)), (.int v)])) _
        by_cases hc189 : v = (43 : Int32)
        · refine Go.via (fun _ => XS.icmpYes X0.here hx rfl (pc0 := 39) (pc' := 48) rfl (hb hby d20_39) rfl (teq (hc189 : v = (43 : Int32))).1 (by decide) (by decide)) ?_
          show Go p e below (s₁.setTop (mkF m 48 #[.val (.int v)] [])) _
          refine Go.via (fun _ => XS.iconst X0.here hx rfl (hb hby d20_48)) ?_
          refine Go.via (fun _ => XS.goto X0.here hx rfl (pc0 := 49) (pc' := 53) rfl (hb hby d20_49) (by decide) (by decide)) ?_
          exact Go.fin X0 hlk (v := some (.int (1 : Int32))) (fun h => by rw [Bd.returns] at h; cases h) (fun fs hr => retN X0 hx (t := .boolean) Bd.returns (by simp) (hb hby d20_53) hr) (by rw [e0]; exact ⟨rfl, rfl, rfl⟩) (by decide) (by decide)
        · refine Go.via (fun _ => XS.icmpNo X0.here hx rfl (hb hby d20_39) rfl (feq (hc189 : ¬ (v = (43 : Int32)))).1) ?_
          show Go p e below (s₁.setTop (mkF m 42 #[.val (.int v)] [])) _
          refine Go.via (fun _ => XS.iloadN X0.here hx rfl (hb hby d20_42) rfl) ?_
          refine Go.via (fun _ => XS.bipush X0.here hx rfl (hb hby d20_43)) ?_
          by_cases hc190 : v = (47 : Int32)
          · refine Go.via (fun _ => XS.icmpNo X0.here hx rfl (hb hby d20_45) rfl (teq (hc190 : v = (47 : Int32))).2) ?_
            refine Go.via (fun _ => XS.iconst X0.here hx rfl (hb hby d20_48)) ?_
            refine Go.via (fun _ => XS.goto X0.here hx rfl (pc0 := 49) (pc' := 53) rfl (hb hby d20_49) (by decide) (by decide)) ?_
            show Go p e below (s₁.setTop (mkF m 53 #[.val (.int v)] [(.int (1 : Int32))])) _
            exact Go.fin X0 hlk (v := some (.int (1 : Int32))) (fun h => by rw [Bd.returns] at h; cases h) (fun fs hr => retN X0 hx (t := .boolean) Bd.returns (by simp) (hb hby d20_53) hr) (by rw [e0]; exact ⟨rfl, rfl, rfl⟩) (by decide) (by decide)
          · refine Go.via (fun _ => XS.icmpYes X0.here hx rfl (pc0 := 45) (pc' := 52) rfl (hb hby d20_45) rfl (feq (hc190 : ¬ (v = (47 : Int32)))).2 (by decide) (by decide)) ?_
            refine Go.via (fun _ => XS.iconst X0.here hx rfl (hb hby d20_52)) ?_
            exact Go.fin X0 hlk (v := some (.int (0 : Int32))) (fun h => by rw [Bd.returns] at h; cases h) (fun fs hr => retN X0 hx (t := .boolean) Bd.returns (by simp) (hb hby d20_53) hr) (by rw [e0]; exact ⟨(absurd (⟨(by first | exact Or.inl (by assumption) | exact Or.inr (by assumption)), (by first | exact Or.inl (by assumption) | exact Or.inr (by assumption)), (by first | exact Or.inl (by assumption) | exact Or.inr (by assumption)), by assumption, by assumption⟩ : (v < (65 : Int32) ∨ (90 : Int32) < v) ∧ (v < (97 : Int32) ∨ (122 : Int32) < v) ∧ (v < (48 : Int32) ∨ (57 : Int32) < v) ∧ ¬ (v = (43 : Int32)) ∧ ¬ (v = (47 : Int32))) (own_no v hm)), rfl, rfl⟩) (by decide) (by decide)
      · refine Go.via (fun _ => XS.icmpNo X0.here hx rfl (hb hby d20_27) rfl (flt (hc188 : ¬ (v < (48 : Int32)))).1) ?_
        refine Go.via (fun _ => XS.iloadN X0.here hx rfl (hb hby d20_30) rfl) ?_
        refine Go.via (fun _ => XS.bipush X0.here hx rfl (hb hby d20_31)) ?_
        show Go p e below (s₁.setTop (mkF m 33 #[.val (.int v)] [(.int (57 : Int32)), (.int v)])) _
        by_cases hc191 : (57 : Int32) < v
        · refine Go.via (fun _ => XS.icmpNo X0.here hx rfl (hb hby d20_33) rfl (tlt (hc191 : (57 : Int32) < v)).2.2.2) ?_
          show Go p e below (s₁.setTop (mkF m 36 #[.val (.int v)] [])) _
          refine Go.via (fun _ => XS.iloadN X0.here hx rfl (hb hby d20_36) rfl) ?_
          refine Go.via (fun _ => XS.bipush X0.here hx rfl (hb hby d20_37)) ?_
          by_cases hc192 : v = (43 : Int32)
          · refine Go.via (fun _ => XS.icmpYes X0.here hx rfl (pc0 := 39) (pc' := 48) rfl (hb hby d20_39) rfl (teq (hc192 : v = (43 : Int32))).1 (by decide) (by decide)) ?_
            refine Go.via (fun _ => XS.iconst X0.here hx rfl (hb hby d20_48)) ?_
            refine Go.via (fun _ => XS.goto X0.here hx rfl (pc0 := 49) (pc' := 53) rfl (hb hby d20_49) (by decide) (by decide)) ?_
            show Go p e below (s₁.setTop (mkF m 53 #[.val (.int v)] [(.int (1 : Int32))])) _
            exact Go.fin X0 hlk (v := some (.int (1 : Int32))) (fun h => by rw [Bd.returns] at h; cases h) (fun fs hr => retN X0 hx (t := .boolean) Bd.returns (by simp) (hb hby d20_53) hr) (by rw [e0]; exact ⟨rfl, rfl, rfl⟩) (by decide) (by decide)
          · refine Go.via (fun _ => XS.icmpNo X0.here hx rfl (hb hby d20_39) rfl (feq (hc192 : ¬ (v = (43 : Int32)))).1) ?_
            refine Go.via (fun _ => XS.iloadN X0.here hx rfl (hb hby d20_42) rfl) ?_
            refine Go.via (fun _ => XS.bipush X0.here hx rfl (hb hby d20_43)) ?_
            show Go p e below (s₁.setTop (mkF m 45 #[.val (.int v)] [(.int (47 : Int32)), (.int v)])) _
            by_cases hc193 : v = (47 : Int32)
            · refine Go.via (fun _ => XS.icmpNo X0.here hx rfl (hb hby d20_45) rfl (teq (hc193 : v = (47 : Int32))).2) ?_
              show Go p e below (s₁.setTop (mkF m 48 #[.val (.int v)] [])) _
              refine Go.via (fun _ => XS.iconst X0.here hx rfl (hb hby d20_48)) ?_
              refine Go.via (fun _ => XS.goto X0.here hx rfl (pc0 := 49) (pc' := 53) rfl (hb hby d20_49) (by decide) (by decide)) ?_
              exact Go.fin X0 hlk (v := some (.int (1 : Int32))) (fun h => by rw [Bd.returns] at h; cases h) (fun fs hr => retN X0 hx (t := .boolean) Bd.returns (by simp) (hb hby d20_53) hr) (by rw [e0]; exact ⟨rfl, rfl, rfl⟩) (by decide) (by decide)
            · refine Go.via (fun _ => XS.icmpYes X0.here hx rfl (pc0 := 45) (pc' := 52) rfl (hb hby d20_45) rfl (feq (hc193 : ¬ (v = (47 : Int32)))).2 (by decide) (by decide)) ?_
              show Go p e below (s₁.setTop (mkF m 52 #[.val (.int v)] [])) _
              refine Go.via (fun _ => XS.iconst X0.here hx rfl (hb hby d20_52)) ?_
              exact Go.fin X0 hlk (v := some (.int (0 : Int32))) (fun h => by rw [Bd.returns] at h; cases h) (fun fs hr => retN X0 hx (t := .boolean) Bd.returns (by simp) (hb hby d20_53) hr) (by rw [e0]; exact ⟨(absurd (⟨(by first | exact Or.inl (by assumption) | exact Or.inr (by assumption)), (by first | exact Or.inl (by assumption) | exact Or.inr (by assumption)), (by first | exact Or.inl (by assumption) | exact Or.inr (by assumption)), by assumption, by assumption⟩ : (v < (65 : Int32) ∨ (90 : Int32) < v) ∧ (v < (97 : Int32) ∨ (122 : Int32) < v) ∧ (v < (48 : Int32) ∨ (57 : Int32) < v) ∧ ¬ (v = (43 : Int32)) ∧ ¬ (v = (47 : Int32))) (own_no v hm)), rfl, rfl⟩) (by decide) (by decide)
        · refine Go.via (fun _ => XS.icmpYes X0.here hx rfl (pc0 := 33) (pc' := 48) rfl (hb hby d20_33) rfl (flt (hc191 : ¬ ((57 : Int32) < v))).2.2.2 (by decide) (by decide)) ?_
          show Go p e below (s₁.setTop (mkF m 48 #[.val (.int v)] [])) _
          refine Go.via (fun _ => XS.iconst X0.here hx rfl (hb hby d20_48)) ?_
          refine Go.via (fun _ => XS.goto X0.here hx rfl (pc0 := 49) (pc' := 53) rfl (hb hby d20_49) (by decide) (by decide)) ?_
          exact Go.fin X0 hlk (v := some (.int (1 : Int32))) (fun h => by rw [Bd.returns] at h; cases h) (fun fs hr => retN X0 hx (t := .boolean) Bd.returns (by simp) (hb hby d20_53) hr) (by rw [e0]; exact ⟨rfl, rfl, rfl⟩) (by decide) (by decide)
    · refine Go.via (fun _ => XS.icmpNo X0.here hx rfl (hb hby d20_15) rfl (flt (hc187 : ¬ (v < (97 : Int32)))).1) ?_
      show Go p e below (s₁.setTop (mkF m 18 #[.val (.int v)] [])) _
      refine Go.via (fun _ => XS.iloadN X0.here hx rfl (hb hby d20_18) rfl) ?_
      refine Go.via (fun _ => XS.bipush X0.here hx rfl (hb hby d20_19)) ?_
      by_cases hc194 : (122 : Int32) < v
      · refine Go.via (fun _ => XS.icmpNo X0.here hx rfl (hb hby d20_21) rfl (tlt (hc194 : (122 : Int32) < v)).2.2.2) ?_
        refine Go.via (fun _ => XS.iloadN X0.here hx rfl (hb hby d20_24) rfl) ?_
        refine Go.via (fun _ => XS.bipush X0.here hx rfl (hb hby d20_25)) ?_
        show Go p e below (s₁.setTop (mkF m 27 #[.val (.int v)] [(.int (48 : Int32)), (.int v)])) _
        by_cases hc195 : v < (48 : Int32)
        · refine Go.via (fun _ => XS.icmpYes X0.here hx rfl (pc0 := 27) (pc' := 36) rfl (hb hby d20_27) rfl (tlt (hc195 : v < (48 : Int32))).1 (by decide) (by decide)) ?_
          show Go p e below (s₁.setTop (mkF m 36 #[.val (.int v)] [])) _
          refine Go.via (fun _ => XS.iloadN X0.here hx rfl (hb hby d20_36) rfl) ?_
          refine Go.via (fun _ => XS.bipush X0.here hx rfl (hb hby d20_37)) ?_
          by_cases hc196 : v = (43 : Int32)
          · refine Go.via (fun _ => XS.icmpYes X0.here hx rfl (pc0 := 39) (pc' := 48) rfl (hb hby d20_39) rfl (teq (hc196 : v = (43 : Int32))).1 (by decide) (by decide)) ?_
            refine Go.via (fun _ => XS.iconst X0.here hx rfl (hb hby d20_48)) ?_
            refine Go.via (fun _ => XS.goto X0.here hx rfl (pc0 := 49) (pc' := 53) rfl (hb hby d20_49) (by decide) (by decide)) ?_
            show Go p e below (s₁.setTop (mkF m 53 #[.val (.int v)] [(.int (1 : Int32))])) _
            exact Go.fin X0 hlk (v := some (.int (1 : Int32))) (fun h => by rw [Bd.returns] at h; cases h) (fun fs hr => retN X0 hx (t := .boolean) Bd.returns (by simp) (hb hby d20_53) hr) (by rw [e0]; exact ⟨rfl, rfl, rfl⟩) (by decide) (by decide)
          · refine Go.via (fun _ => XS.icmpNo X0.here hx rfl (hb hby d20_39) rfl (feq (hc196 : ¬ (v = (43 : Int32)))).1) ?_
            refine Go.via (fun _ => XS.iloadN X0.here hx rfl (hb hby d20_42) rfl) ?_
            refine Go.via (fun _ => XS.bipush X0.here hx rfl (hb hby d20_43)) ?_
            show Go p e below (s₁.setTop (mkF m 45 #[.val (.int v)] [(.int (47 : Int32)), (.int v)])) _
            by_cases hc197 : v = (47 : Int32)
            · refine Go.via (fun _ => XS.icmpNo X0.here hx rfl (hb hby d20_45) rfl (teq (hc197 : v = (47 : Int32))).2) ?_
              show Go p e below (s₁.setTop (mkF m 48 #[.val (.int v)] [])) _
              refine Go.via (fun _ => XS.iconst X0.here hx rfl (hb hby d20_48)) ?_
              refine Go.via (fun _ => XS.goto X0.here hx rfl (pc0 := 49) (pc' := 53) rfl (hb hby d20_49) (by decide) (by decide)) ?_
              exact Go.fin X0 hlk (v := some (.int (1 : Int32))) (fun h => by rw [Bd.returns] at h; cases h) (fun fs hr => retN X0 hx (t := .boolean) Bd.returns (by simp) (hb hby d20_53) hr) (by rw [e0]; exact ⟨rfl, rfl, rfl⟩) (by decide) (by decide)
            · refine Go.via (fun _ => XS.icmpYes X0.here hx rfl (pc0 := 45) (pc' := 52) rfl (hb hby d20_45) rfl (feq (hc197 : ¬ (v = (47 : Int32)))).2 (by decide) (by decide)) ?_
              show Go p e below (s₁.setTop (mkF m 52 #[.val (.int v)] [])) _
              refine Go.via (fun _ => XS.iconst X0.here hx rfl (hb hby d20_52)) ?_
              exact Go.fin X0 hlk (v := some (.int (0 : Int32))) (fun h => by rw [Bd.returns] at h; cases h) (fun fs hr => retN X0 hx (t := .boolean) Bd.returns (by simp) (hb hby d20_53) hr) (by rw [e0]; exact ⟨(absurd (⟨(by first | exact Or.inl (by assumption) | exact Or.inr (by assumption)), (by first | exact Or.inl (by assumption) | exact Or.inr (by assumption)), (by first | exact Or.inl (by assumption) | exact Or.inr (by assumption)), by assumption, by assumption⟩ : (v < (65 : Int32) ∨ (90 : Int32) < v) ∧ (v < (97 : Int32) ∨ (122 : Int32) < v) ∧ (v < (48 : Int32) ∨ (57 : Int32) < v) ∧ ¬ (v = (43 : Int32)) ∧ ¬ (v = (47 : Int32))) (own_no v hm)), rfl, rfl⟩) (by decide) (by decide)
        · refine Go.via (fun _ => XS.icmpNo X0.here hx rfl (hb hby d20_27) rfl (flt (hc195 : ¬ (v < (48 : Int32)))).1) ?_
          show Go p e below (s₁.setTop (mkF m 30 #[.val (.int v)] [])) _
          refine Go.via (fun _ => XS.iloadN X0.here hx rfl (hb hby d20_30) rfl) ?_
          refine Go.via (fun _ => XS.bipush X0.here hx rfl (hb hby d20_31)) ?_
          by_cases hc198 : (57 : Int32) < v
          · refine Go.via (fun _ => XS.icmpNo X0.here hx rfl (hb hby d20_33) rfl (tlt (hc198 : (57 : Int32) < v)).2.2.2) ?_
            refine Go.via (fun _ => XS.iloadN X0.here hx rfl (hb hby d20_36) rfl) ?_
            refine Go.via (fun _ => XS.bipush X0.here hx rfl (hb hby d20_37)) ?_
            show Go p e below (s₁.setTop (mkF m 39 #[.val (.int v)] [(.int (43 : Int32)), (.int v)])) _
            by_cases hc199 : v = (43 : Int32)
            · refine Go.via (fun _ => XS.icmpYes X0.here hx rfl (pc0 := 39) (pc' := 48) rfl (hb hby d20_39) rfl (teq (hc199 : v = (43 : Int32))).1 (by decide) (by decide)) ?_
              show Go p e below (s₁.setTop (mkF m 48 #[.val (.int v)] [])) _
              refine Go.via (fun _ => XS.iconst X0.here hx rfl (hb hby d20_48)) ?_
              refine Go.via (fun _ => XS.goto X0.here hx rfl (pc0 := 49) (pc' := 53) rfl (hb hby d20_49) (by decide) (by decide)) ?_
              exact Go.fin X0 hlk (v := some (.int (1 : Int32))) (fun h => by rw [Bd.returns] at h; cases h) (fun fs hr => retN X0 hx (t := .boolean) Bd.returns (by simp) (hb hby d20_53) hr) (by rw [e0]; exact ⟨rfl, rfl, rfl⟩) (by decide) (by decide)
            · refine Go.via (fun _ => XS.icmpNo X0.here hx rfl (hb hby d20_39) rfl (feq (hc199 : ¬ (v = (43 : Int32)))).1) ?_
              show Go p e below (s₁.setTop (mkF m 42 #[.val (.int v)] [])) _
              refine Go.via (fun _ => XS.iloadN X0.here hx rfl (hb hby d20_42) rfl) ?_
              refine Go.via (fun _ => XS.bipush X0.here hx rfl (hb hby d20_43)) ?_
              by_cases hc200 : v = (47 : Int32)
              · refine Go.via (fun _ => XS.icmpNo X0.here hx rfl (hb hby d20_45) rfl (teq (hc200 : v = (47 : Int32))).2) ?_
                refine Go.via (fun _ => XS.iconst X0.here hx rfl (hb hby d20_48)) ?_
                refine Go.via (fun _ => XS.goto X0.here hx rfl (pc0 := 49) (pc' := 53) rfl (hb hby d20_49) (by decide) (by decide)) ?_
                show Go p e below (s₁.setTop (mkF m 53 #[.val (.int v)] [(.int (1 : Int32))])) _
                exact Go.fin X0 hlk (v := some (.int (1 : Int32))) (fun h => by rw [Bd.returns] at h; cases h) (fun fs hr => retN X0 hx (t := .boolean) Bd.returns (by simp) (hb hby d20_53) hr) (by rw [e0]; exact ⟨rfl, rfl, rfl⟩) (by decide) (by decide)
              · refine Go.via (fun _ => XS.icmpYes X0.here hx rfl (pc0 := 45) (pc' := 52) rfl (hb hby d20_45) rfl (feq (hc200 : ¬ (v = (47 : Int32)))).2 (by decide) (by decide)) ?_
                refine Go.via (fun _ => XS.iconst X0.here hx rfl (hb hby d20_52)) ?_
                exact Go.fin X0 hlk (v := some (.int (0 : Int32))) (fun h => by rw [Bd.returns] at h; cases h) (fun fs hr => retN X0 hx (t := .boolean) Bd.returns (by simp) (hb hby d20_53) hr) (by rw [e0]; exact ⟨(absurd (⟨(by first | exact Or.inl (by assumption) | exact Or.inr (by assumption)), (by first | exact Or.inl (by assumption) | exact Or.inr (by assumption)), (by first | exact Or.inl (by assumption) | exact Or.inr (by assumption)), by assumption, by assumption⟩ : (v < (65 : Int32) ∨ (90 : Int32) < v) ∧ (v < (97 : Int32) ∨ (122 : Int32) < v) ∧ (v < (48 : Int32) ∨ (57 : Int32) < v) ∧ ¬ (v = (43 : Int32)) ∧ ¬ (v = (47 : Int32))) (own_no v hm)), rfl, rfl⟩) (by decide) (by decide)
          · refine Go.via (fun _ => XS.icmpYes X0.here hx rfl (pc0 := 33) (pc' := 48) rfl (hb hby d20_33) rfl (flt (hc198 : ¬ ((57 : Int32) < v))).2.2.2 (by decide) (by decide)) ?_
            refine Go.via (fun _ => XS.iconst X0.here hx rfl (hb hby d20_48)) ?_
            refine Go.via (fun _ => XS.goto X0.here hx rfl (pc0 := 49) (pc' := 53) rfl (hb hby d20_49) (by decide) (by decide)) ?_
            show Go p e below (s₁.setTop (mkF m 53 #[.val (.int v)] [(.int (1 : Int32))])) _
            exact Go.fin X0 hlk (v := some (.int (1 : Int32))) (fun h => by rw [Bd.returns] at h; cases h) (fun fs hr => retN X0 hx (t := .boolean) Bd.returns (by simp) (hb hby d20_53) hr) (by rw [e0]; exact ⟨rfl, rfl, rfl⟩) (by decide) (by decide)
      · refine Go.via (fun _ => XS.icmpYes X0.here hx rfl (pc0 := 21) (pc' := 48) rfl (hb hby d20_21) rfl (flt (hc194 : ¬ ((122 : Int32) < v))).2.2.2 (by decide) (by decide)) ?_
        refine Go.via (fun _ => XS.iconst X0.here hx rfl (hb hby d20_48)) ?_
        refine Go.via (fun _ => XS.goto X0.here hx rfl (pc0 := 49) (pc' := 53) rfl (hb hby d20_49) (by decide) (by decide)) ?_
        show Go p e below (s₁.setTop (mkF m 53 #[.val (.int v)] [(.int (1 : Int32))])) _
        exact Go.fin X0 hlk (v := some (.int (1 : Int32))) (fun h => by rw [Bd.returns] at h; cases h) (fun fs hr => retN X0 hx (t := .boolean) Bd.returns (by simp) (hb hby d20_53) hr) (by rw [e0]; exact ⟨rfl, rfl, rfl⟩) (by decide) (by decide)
  · refine Go.via (fun _ => XS.icmpNo X0.here hx rfl (hb hby d20_3) rfl (flt (hc186 : ¬ (v < (65 : Int32)))).1) ?_
    refine Go.via (fun _ => XS.iloadN X0.here hx rfl (hb hby d20_6) rfl) ?_
    refine Go.via (fun _ => XS.bipush X0.here hx rfl (hb hby d20_7)) ?_
    show Go p e below (s₁.setTop (mkF m 9 #[.val (.int v)] [(.int (90 : Int32)), (.int v)])) _
    by_cases hc201 : (90 : Int32) < v
    · refine Go.via (fun _ => XS.icmpNo X0.here hx rfl (hb hby d20_9) rfl (tlt (hc201 : (90 : Int32) < v)).2.2.2) ?_
      show Go p e below (s₁.setTop (mkF m 12 #[.val (.int v)] [])) _
      refine Go.via (fun _ => XS.iloadN X0.here hx rfl (hb hby d20_12) rfl) ?_
      refine Go.via (fun _ => XS.bipush X0.here hx rfl (hb hby d20_13)) ?_
      by_cases hc202 : v < (97 : Int32)
      · refine Go.via (fun _ => XS.icmpYes X0.here hx rfl (pc0 := 15) (pc' := 24) rfl (hb hby d20_15) rfl (tlt (hc202 : v < (97 : Int32))).1 (by decide) (by decide)) ?_
        refine Go.via (fun _ => XS.iloadN X0.here hx rfl (hb hby d20_24) rfl) ?_
        refine Go.via (fun _ => XS.bipush X0.here hx rfl (hb hby d20_25)) ?_
        show Go p e below (s₁.setTop (mkF m 27 #[.val (.int v)] [(.int (48 : Int32)), (.int v)])) _
        by_cases hc203 : v < (48 : Int32)
        · refine Go.via (fun _ => XS.icmpYes X0.here hx rfl (pc0 := 27) (pc' := 36) rfl (hb hby d20_27) rfl (tlt (hc203 : v < (48 : Int32))).1 (by decide) (by decide)) ?_
          show Go p e below (s₁.setTop (mkF m 36 #[.val (.int v)] [])) _
          refine Go.via (fun _ => XS.iloadN X0.here hx rfl (hb hby d20_36) rfl) ?_
          refine Go.via (fun _ => XS.bipush X0.here hx rfl (hb hby d20_37)) ?_
          by_cases hc204 : v = (43 : Int32)
          · refine Go.via (fun _ => XS.icmpYes X0.here hx rfl (pc0 := 39) (pc' := 48) rfl (hb hby d20_39) rfl (teq (hc204 : v = (43 : Int32))).1 (by decide) (by decide)) ?_
            refine Go.via (fun _ => XS.iconst X0.here hx rfl (hb hby d20_48)) ?_
            refine Go.via (fun _ => XS.goto X0.here hx rfl (pc0 := 49) (pc' := 53) rfl (hb hby d20_49) (by decide) (by decide)) ?_
            show Go p e below (s₁.setTop (mkF m 53 #[.val (.int v)] [(.int (1 : Int32))])) _
            exact Go.fin X0 hlk (v := some (.int (1 : Int32))) (fun h => by rw [Bd.returns] at h; cases h) (fun fs hr => retN X0 hx (t := .boolean) Bd.returns (by simp) (hb hby d20_53) hr) (by rw [e0]; exact ⟨rfl, rfl, rfl⟩) (by decide) (by decide)
          · refine Go.via (fun _ => XS.icmpNo X0.here hx rfl (hb hby d20_39) rfl (feq (hc204 : ¬ (v = (43 : Int32)))).1) ?_
            refine Go.via (fun _ => XS.iloadN X0.here hx rfl (hb hby d20_42) rfl) ?_
            refine Go.via (fun _ => XS.bipush X0.here hx rfl (hb hby d20_43)) ?_
            show Go p e below (s₁.setTop (mkF m 45 #[.val (.int v)] [(.int (47 : Int32)), (.int v)])) _
            by_cases hc205 : v = (47 : Int32)
            · refine Go.via (fun _ => XS.icmpNo X0.here hx rfl (hb hby d20_45) rfl (teq (hc205 : v = (47 : Int32))).2) ?_
              show Go p e below (s₁.setTop (mkF m 48 #[.val (.int v)] [])) _
              refine Go.via (fun _ => XS.iconst X0.here hx rfl (hb hby d20_48)) ?_
              refine Go.via (fun _ => XS.goto X0.here hx rfl (pc0 := 49) (pc' := 53) rfl (hb hby d20_49) (by decide) (by decide)) ?_
              exact Go.fin X0 hlk (v := some (.int (1 : Int32))) (fun h => by rw [Bd.returns] at h; cases h) (fun fs hr => retN X0 hx (t := .boolean) Bd.returns (by simp) (hb hby d20_53) hr) (by rw [e0]; exact ⟨rfl, rfl, rfl⟩) (by decide) (by decide)
            · refine Go.via (fun _ => XS.icmpYes X0.here hx rfl (pc0 := 45) (pc' := 52) rfl (hb hby d20_45) rfl (feq (hc205 : ¬ (v = (47 : Int32)))).2 (by decide) (by decide)) ?_
              show Go p e below (s₁.setTop (mkF m 52 #[.val (.int v)] [])) _
              refine Go.via (fun _ => XS.iconst X0.here hx rfl (hb hby d20_52)) ?_
              exact Go.fin X0 hlk (v := some (.int (0 : Int32))) (fun h => by rw [Bd.returns] at h; cases h) (fun fs hr => retN X0 hx (t := .boolean) Bd.returns (by simp) (hb hby d20_53) hr) (by rw [e0]; exact ⟨(absurd (⟨(by first | exact Or.inl (by assumption) | exact Or.inr (by assumption)), (by first | exact Or.inl (by assumption) | exact Or.inr (by assumption)), (by first | exact Or.inl (by assumption) | exact Or.inr (by assumption)), by assumption, by assumption⟩ : (v < (65 : Int32) ∨ (90 : Int32) < v) ∧ (v < (97 : Int32) ∨ (122 : Int32) < v) ∧ (v < (48 : Int32) ∨ (57 : Int32) < v) ∧ ¬ (v = (43 : Int32)) ∧ ¬ (v = (47 : Int32))) (own_no v hm)), rfl, rfl⟩) (by decide) (by decide)
        · refine Go.via (fun _ => XS.icmpNo X0.here hx rfl (hb hby d20_27) rfl (flt (hc203 : ¬ (v < (48 : Int32)))).1) ?_
          show Go p e below (s₁.setTop (mkF m 30 #[.val (.int v)] [])) _
          refine Go.via (fun _ => XS.iloadN X0.here hx rfl (hb hby d20_30) rfl) ?_
          refine Go.via (fun _ => XS.bipush X0.here hx rfl (hb hby d20_31)) ?_
          by_cases hc206 : (57 : Int32) < v
          · refine Go.via (fun _ => XS.icmpNo X0.here hx rfl (hb hby d20_33) rfl (tlt (hc206 : (57 : Int32) < v)).2.2.2) ?_
            refine Go.via (fun _ => XS.iloadN X0.here hx rfl (hb hby d20_36) rfl) ?_
            refine Go.via (fun _ => XS.bipush X0.here hx rfl (hb hby d20_37)) ?_
            show Go p e below (s₁.setTop (mkF m 39 #[.val (.int v)] [(.int (43 : Int32)), (.int v)])) _
            by_cases hc207 : v = (43 : Int32)
            · refine Go.via (fun _ => XS.icmpYes X0.here hx rfl (pc0 := 39) (pc' := 48) rfl (hb hby d20_39) rfl (teq (hc207 : v = (43 : Int32))).1 (by decide) (by decide)) ?_
              show Go p e below (s₁.setTop (mkF m 48 #[.val (.int v)] [])) _
              refine Go.via (fun _ => XS.iconst X0.here hx rfl (hb hby d20_48)) ?_
              refine Go.via (fun _ => XS.goto X0.here hx rfl (pc0 := 49) (pc' := 53) rfl (hb hby d20_49) (by decide) (by decide)) ?_
              exact Go.fin X0 hlk (v := some (.int (1 : Int32))) (fun h => by rw [Bd.returns] at h; cases h) (fun fs hr => retN X0 hx (t := .boolean) Bd.returns (by simp) (hb hby d20_53) hr) (by rw [e0]; exact ⟨rfl, rfl, rfl⟩) (by decide) (by decide)
            · refine Go.via (fun _ => XS.icmpNo X0.here hx rfl (hb hby d20_39) rfl (feq (hc207 : ¬ (v = (43 : Int32)))).1) ?_
              show Go p e below (s₁.setTop (mkF m 42 #[.val (.int v)] [])) _
              refine Go.via (fun _ => XS.iloadN X0.here hx rfl (hb hby d20_42) rfl) ?_
              refine Go.via (fun _ => XS.bipush X0.here hx rfl (hb hby d20_43)) ?_
              by_cases hc208 : v = (47 : Int32)
              · refine Go.via (fun _ => XS.icmpNo X0.here hx rfl (hb hby d20_45) rfl (teq (hc208 : v = (47 : Int32))).2) ?_
                refine Go.via (fun _ => XS.iconst X0.here hx rfl (hb hby d20_48)) ?_
                refine Go.via (fun _ => XS.goto X0.here hx rfl (pc0 := 49) (pc' := 53) rfl (hb hby d20_49) (by decide) (by decide)) ?_
                show Go p e below (s₁.setTop (mkF m 53 #[.val (.int v)] [(.int (1 : Int32))])) _
                exact Go.fin X0 hlk (v := some (.int (1 : Int32))) (fun h => by rw [Bd.returns] at h; cases h) (fun fs hr => retN X0 hx (t := .boolean) Bd.returns (by simp) (hb hby d20_53) hr) (by rw [e0]; exact ⟨rfl, rfl, rfl⟩) (by decide) (by decide)
              · refine Go.via (fun _ => XS.icmpYes X0.here hx rfl (pc0 := 45) (pc' := 52) rfl (hb hby d20_45) rfl (feq (hc208 : ¬ (v = (47 : Int32)))).2 (by decide) (by decide)) ?_
                refine Go.via (fun _ => XS.iconst X0.here hx rfl (hb hby d20_52)) ?_
                exact Go.fin X0 hlk (v := some (.int (0 : Int32))) (fun h => by rw [Bd.returns] at h; cases h) (fun fs hr => retN X0 hx (t := .boolean) Bd.returns (by simp) (hb hby d20_53) hr) (by rw [e0]; exact ⟨(absurd (⟨(by first | exact Or.inl (by assumption) | exact Or.inr (by assumption)), (by first | exact Or.inl (by assumption) | exact Or.inr (by assumption)), (by first | exact Or.inl (by assumption) | exact Or.inr (by assumption)), by assumption, by assumption⟩ : (v < (65 : Int32) ∨ (90 : Int32) < v) ∧ (v < (97 : Int32) ∨ (122 : Int32) < v) ∧ (v < (48 : Int32) ∨ (57 : Int32) < v) ∧ ¬ (v = (43 : Int32)) ∧ ¬ (v = (47 : Int32))) (own_no v hm)), rfl, rfl⟩) (by decide) (by decide)
          · refine Go.via (fun _ => XS.icmpYes X0.here hx rfl (pc0 := 33) (pc' := 48) rfl (hb hby d20_33) rfl (flt (hc206 : ¬ ((57 : Int32) < v))).2.2.2 (by decide) (by decide)) ?_
            refine Go.via (fun _ => XS.iconst X0.here hx rfl (hb hby d20_48)) ?_
            refine Go.via (fun _ => XS.goto X0.here hx rfl (pc0 := 49) (pc' := 53) rfl (hb hby d20_49) (by decide) (by decide)) ?_
            show Go p e below (s₁.setTop (mkF m 53 #[.val (.int v)] [(.int (1 : Int32))])) _
            exact Go.fin X0 hlk (v := some (.int (1 : Int32))) (fun h => by rw [Bd.returns] at h; cases h) (fun fs hr => retN X0 hx (t := .boolean) Bd.returns (by simp) (hb hby d20_53) hr) (by rw [e0]; exact ⟨rfl, rfl, rfl⟩) (by decide) (by decide)
      · refine Go.via (fun _ => XS.icmpNo X0.here hx rfl (hb hby d20_15) rfl (flt (hc202 : ¬ (v < (97 : Int32)))).1) ?_
        refine Go.via (fun _ => XS.iloadN X0.here hx rfl (hb hby d20_18) rfl) ?_
        refine Go.via (fun _ => XS.bipush X0.here hx rfl (hb hby d20_19)) ?_
        show Go p e below (s₁.setTop (mkF m 21 #[.val (.int v)] [(.int (122 : Int32)), (.int v)])) _
        by_cases hc209 : (122 : Int32) < v
        · refine Go.via (fun _ => XS.icmpNo X0.here hx rfl (hb hby d20_21) rfl (tlt (hc209 : (122 : Int32) < v)).2.2.2) ?_
          show Go p e below (s₁.setTop (mkF m 24 #[.val (.int v)] [])) _
          refine Go.via (fun _ => XS.iloadN X0.here hx rfl (hb hby d20_24) rfl) ?_
          refine Go.via (fun _ => XS.bipush X0.here hx rfl (hb hby d20_25)) ?_
          by_cases hc210 : v < (48 : Int32)
          · refine Go.via (fun _ => XS.icmpYes X0.here hx rfl (pc0 := 27) (pc' := 36) rfl (hb hby d20_27) rfl (tlt (hc210 : v < (48 : Int32))).1 (by decide) (by decide)) ?_
            refine Go.via (fun _ => XS.iloadN X0.here hx rfl (hb hby d20_36) rfl) ?_
            refine Go.via (fun _ => XS.bipush X0.here hx rfl (hb hby d20_37)) ?_
            show Go p e below (s₁.setTop (mkF m 39 #[.val (.int v)] [(.int (43 : Int32)), (.int v)])) _
            by_cases hc211 : v = (43 : Int32)
            · refine Go.via (fun _ => XS.icmpYes X0.here hx rfl (pc0 := 39) (pc' := 48) rfl (hb hby d20_39) rfl (teq (hc211 : v = (43 : Int32))).1 (by decide) (by decide)) ?_
              show Go p e below (s₁.setTop (mkF m 48 #[.val (.int v)] [])) _
              refine Go.via (fun _ => XS.iconst X0.here hx rfl (hb hby d20_48)) ?_
              refine Go.via (fun _ => XS.goto X0.here hx rfl (pc0 := 49) (pc' := 53) rfl (hb hby d20_49) (by decide) (by decide)) ?_
              exact Go.fin X0 hlk (v := some (.int (1 : Int32))) (fun h => by rw [Bd.returns] at h; cases h) (fun fs hr => retN X0 hx (t := .boolean) Bd.returns (by simp) (hb hby d20_53) hr) (by rw [e0]; exact ⟨rfl, rfl, rfl⟩) (by decide) (by decide)
            · refine Go.via (fun _ => XS.icmpNo X0.here hx rfl (hb hby d20_39) rfl (feq (hc211 : ¬ (v = (43 : Int32)))).1) ?_
              show Go p e below (s₁.setTop (mkF m 42 #[.val (.int v)] [])) _
              refine Go.via (fun _ => XS.iloadN X0.here hx rfl (hb hby d20_42) rfl) ?_
              refine Go.via (fun _ => XS.bipush X0.here hx rfl (hb hby d20_43)) ?_
              by_cases hc212 : v = (47 : Int32)
              · refine Go.via (fun _ => XS.icmpNo X0.here hx rfl (hb hby d20_45) rfl (teq (hc212 : v = (47 : Int32))).2) ?_
                refine Go.via (fun _ => XS.iconst X0.here hx rfl (hb hby d20_48)) ?_
                refine Go.via (fun _ => XS.goto X0.here hx rfl (pc0 := 49) (pc' := 53) rfl (hb hby d20_49) (by decide) (by decide)) ?_
                show Go p e below (s₁.setTop (mkF m 53 #[.val (.int v)] [(.int (1 : Int32))])) _
                exact Go.fin X0 hlk (v := some (.int (1 : Int32))) (fun h => by rw [Bd.returns] at h; cases h) (fun fs hr => retN X0 hx (t := .boolean) Bd.returns (by simp) (hb hby d20_53) hr) (by rw [e0]; exact ⟨rfl, rfl, rfl⟩) (by decide) (by decide)
              · refine Go.via (fun _ => XS.icmpYes X0.here hx rfl (pc0 := 45) (pc' := 52) rfl (hb hby d20_45) rfl (feq (hc212 : ¬ (v = (47 : Int32)))).2 (by decide) (by decide)) ?_
                refine Go.via (fun _ => XS.iconst X0.here hx rfl (hb hby d20_52)) ?_
                exact Go.fin X0 hlk (v := some (.int (0 : Int32))) (fun h => by rw [Bd.returns] at h; cases h) (fun fs hr => retN X0 hx (t := .boolean) Bd.returns (by simp) (hb hby d20_53) hr) (by rw [e0]; exact ⟨(absurd (⟨(by first | exact Or.inl (by assumption) | exact Or.inr (by assumption)), (by first | exact Or.inl (by assumption) | exact Or.inr (by assumption)), (by first | exact Or.inl (by assumption) | exact Or.inr (by assumption)), by assumption, by assumption⟩ : (v < (65 : Int32) ∨ (90 : Int32) < v) ∧ (v < (97 : Int32) ∨ (122 : Int32) < v) ∧ (v < (48 : Int32) ∨ (57 : Int32) < v) ∧ ¬ (v = (43 : Int32)) ∧ ¬ (v = (47 : Int32))) (own_no v hm)), rfl, rfl⟩) (by decide) (by decide)
          · refine Go.via (fun _ => XS.icmpNo X0.here hx rfl (hb hby d20_27) rfl (flt (hc210 : ¬ (v < (48 : Int32)))).1) ?_
            refine Go.via (fun _ => XS.iloadN X0.here hx rfl (hb hby d20_30) rfl) ?_
            refine Go.via (fun _ => XS.bipush X0.here hx rfl (hb hby d20_31)) ?_
            show Go p e below (s₁.setTop (mkF m 33 #[.val (.int v)] [(.int (57 : Int32)), (.int v)])) _
            by_cases hc213 : (57 : Int32) < v
            · refine Go.via (fun _ => XS.icmpNo X0.here hx rfl (hb hby d20_33) rfl (tlt (hc213 : (57 : Int32) < v)).2.2.2) ?_
              show Go p e below (s₁.setTop (mkF m 36 #[.val (.int v)] [])) _
              refine Go.via (fun _ => XS.iloadN X0.here hx rfl (hb hby d20_36) rfl) ?_
              refine Go.via (fun _ => XS.bipush X0.here hx rfl (hb hby d20_37)) ?_
              by_cases hc214 : v = (43 : Int32)
              · refine Go.via (fun _ => XS.icmpYes X0.here hx rfl (pc0 := 39) (pc' := 48) rfl (hb hby d20_39) rfl (teq (hc214 : v = (43 : Int32))).1 (by decide) (by decide)) ?_
                refine Go.via (fun _ => XS.iconst X0.here hx rfl (hb hby d20_48)) ?_
                refine Go.via (fun _ => XS.goto X0.here hx rfl (pc0 := 49) (pc' := 53) rfl (hb hby d20_49) (by decide) (by decide)) ?_
                show Go p e below (s₁.setTop (mkF m 53 #[.val (.int v)] [(.int (1 : Int32))])) _
                exact Go.fin X0 hlk (v := some (.int (1 : Int32))) (fun h => by rw [Bd.returns] at h; cases h) (fun fs hr => retN X0 hx (t := .boolean) Bd.returns (by simp) (hb hby d20_53) hr) (by rw [e0]; exact ⟨rfl, rfl, rfl⟩) (by decide) (by decide)
              · refine Go.via (fun _ => XS.icmpNo X0.here hx rfl (hb hby d20_39) rfl (feq (hc214 : ¬ (v = (43 : Int32)))).1) ?_
                refine Go.via (fun _ => XS.iloadN X0.here hx rfl (hb hby d20_42) rfl) ?_
                refine Go.via (fun _ => XS.bipush X0.here hx rfl (hb hby d20_43)) ?_
                show Go p e below (s₁.setTop (mkF m 45 #[.val (.int v)] [(.int (47 : Int32)), (.int v)])) _
                by_cases hc215 : v = (47 : Int32)
                · refine Go.via (fun _ => XS.icmpNo X0.here hx rfl (hb hby d20_45) rfl (teq (hc215 : v = (47 : Int32))).2) ?_
                  show Go p e below (s₁.setTop (mkF m 48 #[.val (.int v)] [])) _
                  refine Go.via (fun _ => XS.iconst X0.here hx rfl (hb hby d20_48)) ?_
                  refine Go.via (fun _ => XS.goto X0.here hx rfl (pc0 := 49) (pc' := 53) rfl (hb hby d20_49) (by decide) (by decide)) ?_
                  exact Go.fin X0 hlk (v := some (.int (1 : Int32))) (fun h => by rw [Bd.returns] at h; cases h) (fun fs hr => retN X0 hx (t := .boolean) Bd.returns (by simp) (hb hby d20_53) hr) (by rw [e0]; exact ⟨rfl, rfl, rfl⟩) (by decide) (by decide)
                · refine Go.via (fun _ => XS.icmpYes X0.here hx rfl (pc0 := 45) (pc' := 52) rfl (hb hby d20_45) rfl (feq (hc215 : ¬ (v = (47 : Int32)))).2 (by decide) (by decide)) ?_
                  show Go p e below (s₁.setTop (mkF m 52 #[.val (.int v)] [])) _
                  refine Go.via (fun _ => XS.iconst X0.here hx rfl (hb hby d20_52)) ?_
                  exact Go.fin X0 hlk (v := some (.int (0 : Int32))) (fun h => by rw [Bd.returns] at h; cases h) (fun fs hr => retN X0 hx (t := .boolean) Bd.returns (by simp) (hb hby d20_53) hr) (by rw [e0]; exact ⟨(absurd (⟨(by first | exact Or.inl (by assumption) | exact Or.inr (by assumption)), (by first | exact Or.inl (by assumption) | exact Or.inr (by assumption)), (by first | exact Or.inl (by assumption) | exact Or.inr (by assumption)), by assumption, by assumption⟩ : (v < (65 : Int32) ∨ (90 : Int32) < v) ∧ (v < (97 : Int32) ∨ (122 : Int32) < v) ∧ (v < (48 : Int32) ∨ (57 : Int32) < v) ∧ ¬ (v = (43 : Int32)) ∧ ¬ (v = (47 : Int32))) (own_no v hm)), rfl, rfl⟩) (by decide) (by decide)
            · refine Go.via (fun _ => XS.icmpYes X0.here hx rfl (pc0 := 33) (pc' := 48) rfl (hb hby d20_33) rfl (flt (hc213 : ¬ ((57 : Int32) < v))).2.2.2 (by decide) (by decide)) ?_
              show Go p e below (s₁.setTop (mkF m 48 #[.val (.int v)] [])) _
              refine Go.via (fun _ => XS.iconst X0.here hx rfl (hb hby d20_48)) ?_
              refine Go.via (fun _ => XS.goto X0.here hx rfl (pc0 := 49) (pc' := 53) rfl (hb hby d20_49) (by decide) (by decide)) ?_
              exact Go.fin X0 hlk (v := some (.int (1 : Int32))) (fun h => by rw [Bd.returns] at h; cases h) (fun fs hr => retN X0 hx (t := .boolean) Bd.returns (by simp) (hb hby d20_53) hr) (by rw [e0]; exact ⟨rfl, rfl, rfl⟩) (by decide) (by decide)
        · refine Go.via (fun _ => XS.icmpYes X0.here hx rfl (pc0 := 21) (pc' := 48) rfl (hb hby d20_21) rfl (flt (hc209 : ¬ ((122 : Int32) < v))).2.2.2 (by decide) (by decide)) ?_
          show Go p e below (s₁.setTop (mkF m 48 #[.val (.int v)] [])) _
          refine Go.via (fun _ => XS.iconst X0.here hx rfl (hb hby d20_48)) ?_
          refine Go.via (fun _ => XS.goto X0.here hx rfl (pc0 := 49) (pc' := 53) rfl (hb hby d20_49) (by decide) (by decide)) ?_
          exact Go.fin X0 hlk (v := some (.int (1 : Int32))) (fun h => by rw [Bd.returns] at h; cases h) (fun fs hr => retN X0 hx (t := .boolean) Bd.returns (by simp) (hb hby d20_53) hr) (by rw [e0]; exact ⟨rfl, rfl, rfl⟩) (by decide) (by decide)
    · refine Go.via (fun _ => XS.icmpYes X0.here hx rfl (pc0 := 9) (pc' := 48) rfl (hb hby d20_9) rfl (flt (hc201 : ¬ ((90 : Int32) < v))).2.2.2 (by decide) (by decide)) ?_
      show Go p e below (s₁.setTop (mkF m 48 #[.val (.int v)] [])) _
      refine Go.via (fun _ => XS.iconst X0.here hx rfl (hb hby d20_48)) ?_
      refine Go.via (fun _ => XS.goto X0.here hx rfl (pc0 := 49) (pc' := 53) rfl (hb hby d20_49) (by decide) (by decide)) ?_
      exact Go.fin X0 hlk (v := some (.int (1 : Int32))) (fun h => by rw [Bd.returns] at h; cases h) (fun fs hr => retN X0 hx (t := .boolean) Bd.returns (by simp) (hb hby d20_53) hr) (by rw [e0]; exact ⟨rfl, rfl, rfl⟩) (by decide) (by decide)
theorem d12_0 : decode prog_15_method_11_code 0 = .ok (.aload_n 1, 1) := by decide +kernel
theorem d12_1 : decode prog_15_method_11_code 1 = .ok (.invokevirtual 99, 3) := by decide +kernel
theorem pd__28_29I : parseMethodDescriptor "()I" = some ⟨[], some .int⟩ := by decide +kernel
theorem d12_4 : decode prog_15_method_11_code 4 = .ok (.iload_n 2, 1) := by decide +kernel
theorem d12_5 : decode prog_15_method_11_code 5 = .ok (.if_icmp .le 22, 3) := by decide +kernel
theorem d12_27 : decode prog_15_method_11_code 27 = .ok (.iconst 0, 1) := by decide +kernel
theorem d12_28 : decode prog_15_method_11_code 28 = .ok (.istore_n 3, 1) := by decide +kernel
theorem d12_29 : decode prog_15_method_11_code 29 = .ok (.iload_n 3, 1) := by decide +kernel
theorem d12_30 : decode prog_15_method_11_code 30 = .ok (.aload_n 1, 1) := by decide +kernel
theorem d12_31 : decode prog_15_method_11_code 31 = .ok (.invokevirtual 99, 3) := by decide +kernel
theorem d12_34 : decode prog_15_method_11_code 34 = .ok (.if_icmp .ge 46, 3) := by decide +kernel
theorem d12_80 : decode prog_15_method_11_code 80 = .ok (.return_, 1) := by decide +kernel
theorem d12_37 : decode prog_15_method_11_code 37 = .ok (.aload_n 1, 1) := by decide +kernel
theorem d12_38 : decode prog_15_method_11_code 38 = .ok (.iload_n 3, 1) := by decide +kernel
theorem d12_39 : decode prog_15_method_11_code 39 = .ok (.invokevirtual 103, 3) := by decide +kernel
theorem pd__28I_29C : parseMethodDescriptor "(I)C" = some ⟨[.int], some .char⟩ := by decide +kernel
theorem d12_42 : decode prog_15_method_11_code 42 = .ok (.istore 4, 2) := by decide +kernel
theorem d12_44 : decode prog_15_method_11_code 44 = .ok (.iload 4, 2) := by decide +kernel
theorem d12_46 : decode prog_15_method_11_code 46 = .ok (.invokestatic 128, 3) := by decide +kernel
theorem pd__28C_29Z : parseMethodDescriptor "(C)Z" = some ⟨[.char], some .boolean⟩ := by decide +kernel
theorem d12_49 : decode prog_15_method_11_code 49 = .ok (.ifCond .ne 25, 3) := by decide +kernel
theorem d12_74 : decode prog_15_method_11_code 74 = .ok (.iinc 3 1, 3) := by decide +kernel
theorem d12_77 : decode prog_15_method_11_code 77 = .ok (.goto (-48), 3) := by decide +kernel
theorem pn_12 : plainName cCD = true := by first | (simp [plainName, overriddenIn]; done) | decide +kernel
theorem ef_12 (m : MethodId) (x0 : Addr) (x1 : Addr) (x2 : Int32) : entryFrame m #[(.ref x0), (.ref x1), (.int x2)] 5 = mkF m 0 #[.val (.ref x0), .val (.ref x1), .val (.int x2), .unset, .unset] [] := by first | (simp [entryFrame, mkF, argsToLocals, Value.category]; done) | rfl
def Q_rmCk (Z : State) (nm : Addr) (a : Addr) (mx : Int32) (b_ : Addr) (xs : List Int32) (cs : Int32) (fv : Value) (h0 : Heap) (n0 : Nat) (vQ : Option Value) (hQ : Heap) (LQ : List Loc) : Prop := vQ = none ∧ LQ = [] ∧ hQ = h0
set_option maxRecDepth 65536 in
set_option maxHeartbeats 40000000 in
theorem rmCk (l : Launch) (Z : State) (a0 : Array Value) (hw : ∀ d ∈ tables_1, d.before a0 Z = true) (ws : List Jvm.Cond) (nm : Addr) (a : Addr) (mx : Int32) (b_ : Addr) (xs : List Int32) (cs : Int32) (fv : Value) (h0 : Heap) (n0 : Nat) (Z0 : n0 ≤ h0.size) (P0 : Exa Z h0 a cST) (P1 : Fld Z h0 a cST "coder" "B" (.int (0 : Int32))) (P2 : Fld Z h0 a cST "value" "[B" (.ref b_)) (P3 : Ia Z h0 b_ .byte xs) (P4 : Old Z n0 h0) (zCS : Sta Z Z.heap cST "COMPACT_STRINGS" "Z" (.int cs)) (zF : Sta Z Z.heap cPR "SIOOBE_FORMATTER" "Ljava/util/function/BiFunction;" fv) (hX : Sg xs) (hm0 : ¬ mx < (0 : Int32)) (hm1 : ¬ mx < (1 : Int32)) (hm2 : ¬ mx < (2 : Int32)) (hcs : ¬ (cs = (0 : Int32))) (hfv : fv = .null ∨ ∃ fa : Addr, fv = .ref fa) :
    MetFree l (⟨cCD, "checkSignature", "(Ljava/lang/String;Ljava/lang/String;I)V"⟩ : MethodName) (head1 (Jvm.Cond.code (⟨cCD, "checkSignature", "(Ljava/lang/String;Ljava/lang/String;I)V"⟩ : MethodName) prog_15_method_11_code 5 none :: ws) ({ frames := 4, cells := 0, slots := 0, locals := 53 } : Room)) (fun aQ UQ => aQ = #[(.ref nm), (.ref a), (.int mx)] ∧ Z.Warmed39 UQ.vm ∧ UQ.heap = h0) (fun _ _ _ _ _ => True) (fun _ UQ oQ UR => ∃ vQ LQ, oQ = .returned vQ ∧ Q_rmCk Z nm a mx b_ xs cs fv h0 n0 vQ UR.heap LQ ∧ FrameEnd UQ oQ UR LQ ({ frames := 4, cells := 0, slots := 0, locals := 53 } : Room).cells ({ frames := 4, cells := 0, slots := 0, locals := 53 } : Room).slots) := by
  refine MetFree.of_bodySF (plainFor_of_name pn_12) hisR ?_
  intro p e s m args below meth c s₁ Bd hml0 hP hK
  obtain ⟨rfl, hZ, hh⟩ := hP
  have hx := Bd.exec
  have hby := Bd.bytes
  have hlk := Bd.notSynchronized
  have hml : c.maxLocals = 5 := hml0
  have hown : s.vm.findClass cCD = some m.cls := findClass_of_methodNamed Bd.named
  have hnm := (name_of_methodNamed Bd.named Bd.method).1
  have X0 : Stand p l e ({ frames := 4, cells := 0, slots := 0, locals := 53 } : Room) s m #[(.ref nm), (.ref a), (.int mx)] below meth c s₁ [] 0 0 := Stand.of_body Bd
  have e0 : s₁.heap = h0 := by rw [← hh, Bd.state]; rfl
  have N0 := Fr.nil n0
  show Go p e below _ (Done s (Q_rmCk Z nm a mx b_ xs cs fv h0 n0) ({ frames := 4, cells := 0, slots := 0, locals := 53 } : Room).cells ({ frames := 4, cells := 0, slots := 0, locals := 53 } : Room).slots)
  refine Go.via (fun tQ kQ => castTop (ef_12 m nm a mx) kQ) ?_
  show Go p e below (s₁.setTop (mkF m 0 #[.val (.ref nm), .val (.ref a), .val (.int mx), .unset, .unset] [])) _
  rcases hX with rfl | ⟨y0, hy0, rfl⟩ | ⟨y0, y1, hy0, hy1, rfl⟩
  · show Go p e below (s₁.setTop (mkF m 0 #[.val (.ref nm), .val (.ref a), .val (.int mx), .unset, .unset] [])) _
    refine Go.via (fun _ => XS.aloadN X0.here hx rfl (hb hby d12_0) rfl rfl) ?_
    obtain ⟨cq216, kq216, q216a, q216b, q216c⟩ := isOf hZ e0 P0
    obtain ⟨r216, _, ⟨T216, L216, k216, n216⟩, -, X216, ⟨Lc216, hQ216, l216, y216, z216⟩, st216⟩ := X0.virtualBack hx (y := (⟨cST, "length", "()I"⟩ : MethodName)) (z := (⟨cST, "length", "()I"⟩ : MethodName)) hown (mvT hZ (tw hw 65 rfl)) (mvT hZ (tw hw 66 rfl)) (notFace_of_selects (args := #[]) (mvT hZ (tw hw 68 rfl))) (mvT hZ (tw hw 68 rfl)) (mvT hZ (tw hw 67 rfl)) (by decide) (backOf (W := 0) (rmLn0 l Z a0 hw [] a cs b_ h0 n0 Z0 P0 P1 P2 P3 P4 zCS hcs) hZ (tw hw 69 rfl) (tw hw 14 rfl) (by decide) (by decide)) q216a q216c (g := (mkF m 1 #[.val (.ref nm), .val (.ref a), .val (.int mx), .unset, .unset] [(.ref a)])) rfl (by rw [hml]; rfl) (Steps.refl _) (argsL := []) (rest := []) (lenOf pd__28_29I rfl) rfl (by show 2 * 0 + _ ≤ _; exact Nat.le_of_eq rfl) (hb hby d12_1) (fun _ _ => ⟨rfl, e0, (by decide : 0 + 0 ≤ _), (by decide : 0 + 0 ≤ _)⟩)
    dsimp only [Pt.U, Pt.locs, Pt.cells, Pt.slots] at X216 l216 y216 z216 st216 hQ216
    rw [l216, y216, z216] at X216
    clear l216 y216 z216
    obtain ⟨hr216, N216q, eh216⟩ := hQ216
    rw [hr216] at st216
    clear hr216
    rw [N216q, List.append_nil] at X216
    refine Go.via (fun _ kQ => st216.trans kQ) ?_
    clear st216
    have e216 : T216.heap = h0 := eh216
    clear X0 e0
    show Go p e below (T216.setTop (mkF m 4 #[.val (.ref nm), .val (.ref a), .val (.int mx), .unset, .unset] [(.int (0 : Int32))])) _
    refine Go.via (fun _ => XS.iloadN X216.here hx rfl (hb hby d12_4) rfl) ?_
    refine Go.via (fun _ => XS.icmpYes X216.here hx rfl (pc0 := 5) (pc' := 27) rfl (hb hby d12_5) rfl (flt (hm0 : ¬ (mx < (0 : Int32)))).2.2.2 (by decide) (by decide)) ?_
    show Go p e below (T216.setTop (mkF m 27 #[.val (.ref nm), .val (.ref a), .val (.int mx), .unset, .unset] [])) _
    refine Go.via (fun _ => XS.iconst X216.here hx rfl (hb hby d12_27)) ?_
    refine Go.via (fun _ => XS.istoreN X216.here hx rfl (hb hby d12_28) rfl (l' := #[.val (.ref nm), .val (.ref a), .val (.int mx), .val (.int (0 : Int32)), .unset]) rfl) ?_
    show Go p e below (T216.setTop (mkF m 29 #[.val (.ref nm), .val (.ref a), .val (.int mx), .val (.int (0 : Int32)), .unset] [])) _
    refine Go.via (fun _ => XS.iloadN X216.here hx rfl (hb hby d12_29) rfl) ?_
    refine Go.via (fun _ => XS.aloadN X216.here hx rfl (hb hby d12_30) rfl rfl) ?_
    obtain ⟨cq217, kq217, q217a, q217b, q217c⟩ := isOf hZ e216 P0
    obtain ⟨r217, _, ⟨T217, L217, k217, n217⟩, -, X217, ⟨Lc217, hQ217, l217, y217, z217⟩, st217⟩ := X216.virtualBack hx (y := (⟨cST, "length", "()I"⟩ : MethodName)) (z := (⟨cST, "length", "()I"⟩ : MethodName)) hown (mvT hZ (tw hw 65 rfl)) (mvT hZ (tw hw 66 rfl)) (notFace_of_selects (args := #[]) (mvT hZ (tw hw 68 rfl))) (mvT hZ (tw hw 68 rfl)) (mvT hZ (tw hw 67 rfl)) (by decide) (backOf (W := 1) (rmLn0 l Z a0 hw [] a cs b_ h0 n0 Z0 P0 P1 P2 P3 P4 zCS hcs) hZ (tw hw 69 rfl) (tw hw 14 rfl) (by decide) (by decide)) q217a q217c (g := (mkF m 31 #[.val (.ref nm), .val (.ref a), .val (.int mx), .val (.int (0 : Int32)), .unset] [(.ref a), (.int (0 : Int32))])) rfl (by rw [hml]; rfl) (Steps.refl _) (argsL := []) (rest := [(.int (0 : Int32))]) (lenOf pd__28_29I rfl) rfl (by show 2 * 0 + _ ≤ _; exact Nat.le_of_eq rfl) (hb hby d12_31) (fun _ _ => ⟨rfl, e216, (by decide : 0 + 0 ≤ _), (by decide : 0 + 0 ≤ _)⟩)
    dsimp only [Pt.U, Pt.locs, Pt.cells, Pt.slots] at X217 l217 y217 z217 st217 hQ217
    rw [l217, y217, z217] at X217
    clear l217 y217 z217
    obtain ⟨hr217, N217q, eh217⟩ := hQ217
    rw [hr217] at st217
    clear hr217
    rw [N217q, List.append_nil] at X217
    refine Go.via (fun _ kQ => st217.trans kQ) ?_
    clear st217
    have e217 : T217.heap = h0 := eh217
    clear X216 e216
    show Go p e below (T217.setTop (mkF m 34 #[.val (.ref nm), .val (.ref a), .val (.int mx), .val (.int (0 : Int32)), .unset] [(.int (0 : Int32)), (.int (0 : Int32))])) _
    refine Go.via (fun _ => XS.icmpYes X217.here hx rfl (pc0 := 34) (pc' := 80) rfl (hb hby d12_34) rfl (flt ((by decide) : ¬ ((0 : Int32) < (0 : Int32)))).2.1 (by decide) (by decide)) ?_
    show Go p e below (T217.setTop (mkF m 80 #[.val (.ref nm), .val (.ref a), .val (.int mx), .val (.int (0 : Int32)), .unset] [])) _
    exact Go.fin X217 hlk (v := none) (fun _ => rfl) (fun fs hr => X217.returnOut hx Bd.returns (hb hby d12_80) hr) (by rw [e217]; exact ⟨rfl, rfl, rfl⟩) (by decide) (by decide)
  · show Go p e below (s₁.setTop (mkF m 0 #[.val (.ref nm), .val (.ref a), .val (.int mx), .unset, .unset] [])) _
    refine Go.via (fun _ => XS.aloadN X0.here hx rfl (hb hby d12_0) rfl rfl) ?_
    obtain ⟨cq218, kq218, q218a, q218b, q218c⟩ := isOf hZ e0 P0
    obtain ⟨r218, _, ⟨T218, L218, k218, n218⟩, -, X218, ⟨Lc218, hQ218, l218, y218, z218⟩, st218⟩ := X0.virtualBack hx (y := (⟨cST, "length", "()I"⟩ : MethodName)) (z := (⟨cST, "length", "()I"⟩ : MethodName)) hown (mvT hZ (tw hw 65 rfl)) (mvT hZ (tw hw 66 rfl)) (notFace_of_selects (args := #[]) (mvT hZ (tw hw 68 rfl))) (mvT hZ (tw hw 68 rfl)) (mvT hZ (tw hw 67 rfl)) (by decide) (backOf (W := 0) (rmLn1 l Z a0 hw [] a cs b_ y0 h0 n0 Z0 P0 P1 P2 P3 P4 zCS hcs) hZ (tw hw 69 rfl) (tw hw 14 rfl) (by decide) (by decide)) q218a q218c (g := (mkF m 1 #[.val (.ref nm), .val (.ref a), .val (.int mx), .unset, .unset] [(.ref a)])) rfl (by rw [hml]; rfl) (Steps.refl _) (argsL := []) (rest := []) (lenOf pd__28_29I rfl) rfl (by show 2 * 0 + _ ≤ _; exact Nat.le_of_eq rfl) (hb hby d12_1) (fun _ _ => ⟨rfl, e0, (by decide : 0 + 0 ≤ _), (by decide : 0 + 0 ≤ _)⟩)
    dsimp only [Pt.U, Pt.locs, Pt.cells, Pt.slots] at X218 l218 y218 z218 st218 hQ218
    rw [l218, y218, z218] at X218
    clear l218 y218 z218
    obtain ⟨hr218, N218q, eh218⟩ := hQ218
    rw [hr218] at st218
    clear hr218
    rw [N218q, List.append_nil] at X218
    refine Go.via (fun _ kQ => st218.trans kQ) ?_
    clear st218
    have e218 : T218.heap = h0 := eh218
    clear X0 e0
    show Go p e below (T218.setTop (mkF m 4 #[.val (.ref nm), .val (.ref a), .val (.int mx), .unset, .unset] [(.int (1 : Int32))])) _
    refine Go.via (fun _ => XS.iloadN X218.here hx rfl (hb hby d12_4) rfl) ?_
    refine Go.via (fun _ => XS.icmpYes X218.here hx rfl (pc0 := 5) (pc' := 27) rfl (hb hby d12_5) rfl (flt (hm1 : ¬ (mx < (1 : Int32)))).2.2.2 (by decide) (by decide)) ?_
    show Go p e below (T218.setTop (mkF m 27 #[.val (.ref nm), .val (.ref a), .val (.int mx), .unset, .unset] [])) _
    refine Go.via (fun _ => XS.iconst X218.here hx rfl (hb hby d12_27)) ?_
    refine Go.via (fun _ => XS.istoreN X218.here hx rfl (hb hby d12_28) rfl (l' := #[.val (.ref nm), .val (.ref a), .val (.int mx), .val (.int (0 : Int32)), .unset]) rfl) ?_
    show Go p e below (T218.setTop (mkF m 29 #[.val (.ref nm), .val (.ref a), .val (.int mx), .val (.int (0 : Int32)), .unset] [])) _
    refine Go.via (fun _ => XS.iloadN X218.here hx rfl (hb hby d12_29) rfl) ?_
    refine Go.via (fun _ => XS.aloadN X218.here hx rfl (hb hby d12_30) rfl rfl) ?_
    obtain ⟨cq219, kq219, q219a, q219b, q219c⟩ := isOf hZ e218 P0
    obtain ⟨r219, _, ⟨T219, L219, k219, n219⟩, -, X219, ⟨Lc219, hQ219, l219, y219, z219⟩, st219⟩ := X218.virtualBack hx (y := (⟨cST, "length", "()I"⟩ : MethodName)) (z := (⟨cST, "length", "()I"⟩ : MethodName)) hown (mvT hZ (tw hw 65 rfl)) (mvT hZ (tw hw 66 rfl)) (notFace_of_selects (args := #[]) (mvT hZ (tw hw 68 rfl))) (mvT hZ (tw hw 68 rfl)) (mvT hZ (tw hw 67 rfl)) (by decide) (backOf (W := 1) (rmLn1 l Z a0 hw [] a cs b_ y0 h0 n0 Z0 P0 P1 P2 P3 P4 zCS hcs) hZ (tw hw 69 rfl) (tw hw 14 rfl) (by decide) (by decide)) q219a q219c (g := (mkF m 31 #[.val (.ref nm), .val (.ref a), .val (.int mx), .val (.int (0 : Int32)), .unset] [(.ref a), (.int (0 : Int32))])) rfl (by rw [hml]; rfl) (Steps.refl _) (argsL := []) (rest := [(.int (0 : Int32))]) (lenOf pd__28_29I rfl) rfl (by show 2 * 0 + _ ≤ _; exact Nat.le_of_eq rfl) (hb hby d12_31) (fun _ _ => ⟨rfl, e218, (by decide : 0 + 0 ≤ _), (by decide : 0 + 0 ≤ _)⟩)
    dsimp only [Pt.U, Pt.locs, Pt.cells, Pt.slots] at X219 l219 y219 z219 st219 hQ219
    rw [l219, y219, z219] at X219
    clear l219 y219 z219
    obtain ⟨hr219, N219q, eh219⟩ := hQ219
    rw [hr219] at st219
    clear hr219
    rw [N219q, List.append_nil] at X219
    refine Go.via (fun _ kQ => st219.trans kQ) ?_
    clear st219
    have e219 : T219.heap = h0 := eh219
    clear X218 e218
    show Go p e below (T219.setTop (mkF m 34 #[.val (.ref nm), .val (.ref a), .val (.int mx), .val (.int (0 : Int32)), .unset] [(.int (1 : Int32)), (.int (0 : Int32))])) _
    refine Go.via (fun _ => XS.icmpNo X219.here hx rfl (hb hby d12_34) rfl (tlt ((by decide) : (0 : Int32) < (1 : Int32))).2.1) ?_
    show Go p e below (T219.setTop (mkF m 37 #[.val (.ref nm), .val (.ref a), .val (.int mx), .val (.int (0 : Int32)), .unset] [])) _
    refine Go.via (fun _ => XS.aloadN X219.here hx rfl (hb hby d12_37) rfl rfl) ?_
    refine Go.via (fun _ => XS.iloadN X219.here hx rfl (hb hby d12_38) rfl) ?_
    obtain ⟨cq220, kq220, q220a, q220b, q220c⟩ := isOf hZ e219 P0
    obtain ⟨r220, _, ⟨T220, L220, k220, n220⟩, -, X220, ⟨Lc220, hQ220, l220, y220, z220⟩, st220⟩ := X219.virtualBack hx (y := (⟨cST, "charAt", "(I)C"⟩ : MethodName)) (z := (⟨cST, "charAt", "(I)C"⟩ : MethodName)) hown (mvT hZ (tw hw 76 rfl)) (mvT hZ (tw hw 77 rfl)) (notFace_of_selects (args := #[]) (mvT hZ (tw hw 79 rfl))) (mvT hZ (tw hw 79 rfl)) (mvT hZ (tw hw 78 rfl)) (by decide) (backOf (W := 0) (rmCa l Z a0 hw [] a (0 : Int32) b_ [y0] y0 (1 : Int32) cs fv h0 n0 Z0 P0 P1 P2 P3 P4 zCS zF (by first | decide | (simp only [List.length_cons, List.length_nil]; decide) | rfl) (by first | decide | (simp only [List.length_cons, List.length_nil]; decide) | rfl) rfl rfl (own_ch y0 hy0) hfv hcs) hZ (tw hw 80 rfl) (tw hw 14 rfl) (by decide) (by decide)) q220a q220c (g := (mkF m 39 #[.val (.ref nm), .val (.ref a), .val (.int mx), .val (.int (0 : Int32)), .unset] [(.int (0 : Int32)), (.ref a)])) rfl (by rw [hml]; rfl) (Steps.refl _) (argsL := [(.int (0 : Int32))]) (rest := []) (lenOf pd__28I_29C rfl) rfl (by show 2 * 0 + _ ≤ _; exact Nat.le_of_eq rfl) (hb hby d12_39) (fun _ _ => ⟨rfl, e219, (by decide : 0 + 0 ≤ _), (by decide : 0 + 0 ≤ _)⟩)
    dsimp only [Pt.U, Pt.locs, Pt.cells, Pt.slots] at X220 l220 y220 z220 st220 hQ220
    rw [l220, y220, z220] at X220
    clear l220 y220 z220
    obtain ⟨hr220, N220q, eh220⟩ := hQ220
    rw [hr220] at st220
    clear hr220
    rw [N220q, List.append_nil] at X220
    refine Go.via (fun _ kQ => st220.trans kQ) ?_
    clear st220
    have e220 : T220.heap = h0 := eh220
    clear X219 e219
    show Go p e below (T220.setTop (mkF m 42 #[.val (.ref nm), .val (.ref a), .val (.int mx), .val (.int (0 : Int32)), .unset] [(.int y0)])) _
    refine Go.via (fun _ => XS.istore X220.here hx rfl (hb hby d12_42) rfl (l' := #[.val (.ref nm), .val (.ref a), .val (.int mx), .val (.int (0 : Int32)), .val (.int y0)]) rfl) ?_
    show Go p e below (T220.setTop (mkF m 44 #[.val (.ref nm), .val (.ref a), .val (.int mx), .val (.int (0 : Int32)), .val (.int y0)] [])) _
    refine Go.via (fun _ => XS.iload X220.here hx rfl (hb hby d12_44) rfl) ?_
    obtain ⟨r221, _, ⟨T221, L221, k221, n221⟩, -, X221, ⟨Lc221, hQ221, l221, y221, z221⟩, st221⟩ := Jvm.LawKit.callS X220 hx (y := (⟨cCD, "isBase64", "(C)Z"⟩ : MethodName)) hown (mvT hZ (tw hw 98 rfl)) (mvT hZ (tw hw 99 rfl)) (mvT hZ (tw hw 3 rfl)) (mvT hZ (tw hw 100 rfl)) (by decide) (backOf (W := 0) (rm64 l Z a0 hw [] y0  h0 n0 Z0 hy0) hZ (tw hw 100 rfl) (tw hw 3 rfl) (by decide) (by decide)) (g := (mkF m 46 #[.val (.ref nm), .val (.ref a), .val (.int mx), .val (.int (0 : Int32)), .val (.int y0)] [(.int y0)])) rfl (by rw [hml]; rfl) (argsL := [(.int y0)]) (rest := []) (lenOf pd__28C_29Z rfl) rfl (by show 2 * 0 + _ ≤ _; exact Nat.le_of_eq rfl) (hb hby d12_46) (fun _ _ => ⟨rfl, e220, (by decide : 0 + 0 ≤ _), (by decide : 0 + 0 ≤ _)⟩)
    dsimp only [Pt.U, Pt.locs, Pt.cells, Pt.slots] at X221 l221 y221 z221 st221 hQ221
    rw [l221, y221, z221] at X221
    clear l221 y221 z221
    obtain ⟨hr221, N221q, eh221⟩ := hQ221
    rw [hr221] at st221
    clear hr221
    rw [N221q, List.append_nil] at X221
    refine Go.via (st221) ?_
    clear st221
    have e221 : T221.heap = h0 := eh221
    clear X220 e220
    show Go p e below (T221.setTop (mkF m 49 #[.val (.ref nm), .val (.ref a), .val (.int mx), .val (.int (0 : Int32)), .val (.int y0)] [(.int (1 : Int32))])) _
    refine Go.via (fun _ => XS.ifYes X221.here hx rfl (pc0 := 49) (pc' := 74) rfl (hb hby d12_49) rfl ((if0 _ _).trans (feq ((by decide) : ¬ ((1 : Int32) = (0 : Int32)))).2) (by decide) (by decide)) ?_
    show Go p e below (T221.setTop (mkF m 74 #[.val (.ref nm), .val (.ref a), .val (.int mx), .val (.int (0 : Int32)), .val (.int y0)] [])) _
    refine Go.via (fun _ => XS.iinc X221.here hx rfl (hb hby d12_74) rfl (l' := #[.val (.ref nm), .val (.ref a), .val (.int mx), .val (.int (1 : Int32)), .val (.int y0)]) rfl) ?_
    show Go p e below (T221.setTop (mkF m 77 #[.val (.ref nm), .val (.ref a), .val (.int mx), .val (.int (1 : Int32)), .val (.int y0)] [])) _
    refine Go.via (fun _ => XS.goto X221.here hx rfl (pc0 := 77) (pc' := 29) rfl (hb hby d12_77) (by decide) (by decide)) ?_
    refine Go.via (fun _ => XS.iloadN X221.here hx rfl (hb hby d12_29) rfl) ?_
    refine Go.via (fun _ => XS.aloadN X221.here hx rfl (hb hby d12_30) rfl rfl) ?_
    obtain ⟨cq222, kq222, q222a, q222b, q222c⟩ := isOf hZ e221 P0
    obtain ⟨r222, _, ⟨T222, L222, k222, n222⟩, -, X222, ⟨Lc222, hQ222, l222, y222, z222⟩, st222⟩ := X221.virtualBack hx (y := (⟨cST, "length", "()I"⟩ : MethodName)) (z := (⟨cST, "length", "()I"⟩ : MethodName)) hown (mvT hZ (tw hw 65 rfl)) (mvT hZ (tw hw 66 rfl)) (notFace_of_selects (args := #[]) (mvT hZ (tw hw 68 rfl))) (mvT hZ (tw hw 68 rfl)) (mvT hZ (tw hw 67 rfl)) (by decide) (backOf (W := 1) (rmLn1 l Z a0 hw [] a cs b_ y0 h0 n0 Z0 P0 P1 P2 P3 P4 zCS hcs) hZ (tw hw 69 rfl) (tw hw 14 rfl) (by decide) (by decide)) q222a q222c (g := (mkF m 31 #[.val (.ref nm), .val (.ref a), .val (.int mx), .val (.int (1 : Int32)), .val (.int y0)] [(.ref a), (.int (1 : Int32))])) rfl (by rw [hml]; rfl) (Steps.refl _) (argsL := []) (rest := [(.int (1 : Int32))]) (lenOf pd__28_29I rfl) rfl (by show 2 * 0 + _ ≤ _; exact Nat.le_of_eq rfl) (hb hby d12_31) (fun _ _ => ⟨rfl, e221, (by decide : 0 + 0 ≤ _), (by decide : 0 + 0 ≤ _)⟩)
    dsimp only [Pt.U, Pt.locs, Pt.cells, Pt.slots] at X222 l222 y222 z222 st222 hQ222
    rw [l222, y222, z222] at X222
    clear l222 y222 z222
    obtain ⟨hr222, N222q, eh222⟩ := hQ222
    rw [hr222] at st222
    clear hr222
    rw [N222q, List.append_nil] at X222
    refine Go.via (fun _ kQ => st222.trans kQ) ?_
    clear st222
    have e222 : T222.heap = h0 := eh222
    clear X221 e221
    show Go p e below (T222.setTop (mkF m 34 #[.val (.ref nm), .val (.ref a), .val (.int mx), .val (.int (1 : Int32)), .val (.int y0)] [(.int (1 : Int32)), (.int (1 : Int32))])) _
    refine Go.via (fun _ => XS.icmpYes X222.here hx rfl (pc0 := 34) (pc' := 80) rfl (hb hby d12_34) rfl (flt ((by decide) : ¬ ((1 : Int32) < (1 : Int32)))).2.1 (by decide) (by decide)) ?_
    show Go p e below (T222.setTop (mkF m 80 #[.val (.ref nm), .val (.ref a), .val (.int mx), .val (.int (1 : Int32)), .val (.int y0)] [])) _
    exact Go.fin X222 hlk (v := none) (fun _ => rfl) (fun fs hr => X222.returnOut hx Bd.returns (hb hby d12_80) hr) (by rw [e222]; exact ⟨rfl, rfl, rfl⟩) (by decide) (by decide)
  · show Go p e below (s₁.setTop (mkF m 0 #[.val (.ref nm), .val (.ref a), .val (.int mx), .unset, .unset] [])) _
    refine Go.via (fun _ => XS.aloadN X0.here hx rfl (hb hby d12_0) rfl rfl) ?_
    obtain ⟨cq223, kq223, q223a, q223b, q223c⟩ := isOf hZ e0 P0
    obtain ⟨r223, _, ⟨T223, L223, k223, n223⟩, -, X223, ⟨Lc223, hQ223, l223, y223, z223⟩, st223⟩ := X0.virtualBack hx (y := (⟨cST, "length", "()I"⟩ : MethodName)) (z := (⟨cST, "length", "()I"⟩ : MethodName)) hown (mvT hZ (tw hw 65 rfl)) (mvT hZ (tw hw 66 rfl)) (notFace_of_selects (args := #[]) (mvT hZ (tw hw 68 rfl))) (mvT hZ (tw hw 68 rfl)) (mvT hZ (tw hw 67 rfl)) (by decide) (backOf (W := 0) (rmLn2 l Z a0 hw [] a cs b_ y0 y1 h0 n0 Z0 P0 P1 P2 P3 P4 zCS hcs) hZ (tw hw 69 rfl) (tw hw 14 rfl) (by decide) (by decide)) q223a q223c (g := (mkF m 1 #[.val (.ref nm), .val (.ref a), .val (.int mx), .unset, .unset] [(.ref a)])) rfl (by rw [hml]; rfl) (Steps.refl _) (argsL := []) (rest := []) (lenOf pd__28_29I rfl) rfl (by show 2 * 0 + _ ≤ _; exact Nat.le_of_eq rfl) (hb hby d12_1) (fun _ _ => ⟨rfl, e0, (by decide : 0 + 0 ≤ _), (by decide : 0 + 0 ≤ _)⟩)
    dsimp only [Pt.U, Pt.locs, Pt.cells, Pt.slots] at X223 l223 y223 z223 st223 hQ223
    rw [l223, y223, z223] at X223
    clear l223 y223 z223
    obtain ⟨hr223, N223q, eh223⟩ := hQ223
    rw [hr223] at st223
    clear hr223
    rw [N223q, List.append_nil] at X223
    refine Go.via (fun _ kQ => st223.trans kQ) ?_
    clear st223
    have e223 : T223.heap = h0 := eh223
    clear X0 e0
    show Go p e below (T223.setTop (mkF m 4 #[.val (.ref nm), .val (.ref a), .val (.int mx), .unset, .unset] [(.int (2 : Int32))])) _
    refine Go.via (fun _ => XS.iloadN X223.here hx rfl (hb hby d12_4) rfl) ?_
    refine Go.via (fun _ => XS.icmpYes X223.here hx rfl (pc0 := 5) (pc' := 27) rfl (hb hby d12_5) rfl (flt (hm2 : ¬ (mx < (2 : Int32)))).2.2.2 (by decide) (by decide)) ?_
    show Go p e below (T223.setTop (mkF m 27 #[.val (.ref nm), .val (.ref a), .val (.int mx), .unset, .unset] [])) _
    refine Go.via (fun _ => XS.iconst X223.here hx rfl (hb hby d12_27)) ?_
    refine Go.via (fun _ => XS.istoreN X223.here hx rfl (hb hby d12_28) rfl (l' := #[.val (.ref nm), .val (.ref a), .val (.int mx), .val (.int (0 : Int32)), .unset]) rfl) ?_
    show Go p e below (T223.setTop (mkF m 29 #[.val (.ref nm), .val (.ref a), .val (.int mx), .val (.int (0 : Int32)), .unset] [])) _
    refine Go.via (fun _ => XS.iloadN X223.here hx rfl (hb hby d12_29) rfl) ?_
    refine Go.via (fun _ => XS.aloadN X223.here hx rfl (hb hby d12_30) rfl rfl) ?_
    obtain ⟨cq224, kq224, q224a, q224b, q224c⟩ := isOf hZ e223 P0
    obtain ⟨r224, _, ⟨T224, L224, k224, n224⟩, -, X224, ⟨Lc224, hQ224, l224, y224, z224⟩, st224⟩ := X223.virtualBack hx (y := (⟨cST, "length", "()I"⟩ : MethodName)) (z := (⟨cST, "length", "()I"⟩ : MethodName)) hown (mvT hZ (tw hw 65 rfl)) (mvT hZ (tw hw 66 rfl)) (notFace_of_selects (args := #[]) (mvT hZ (tw hw 68 rfl))) (mvT hZ (tw hw 68 rfl)) (mvT hZ (tw hw 67 rfl)) (by decide) (backOf (W := 1) (rmLn2 l Z a0 hw [] a cs b_ y0 y1 h0 n0 Z0 P0 P1 P2 P3 P4 zCS hcs) hZ (tw hw 69 rfl) (tw hw 14 rfl) (by decide) (by decide)) q224a q224c (g := (mkF m 31 #[.val (.ref nm), .val (.ref a), .val (.int mx), .val (.int (0 : Int32)), .unset] [(.ref a), (.int (0 : Int32))])) rfl (by rw [hml]; rfl) (Steps.refl _) (argsL := []) (rest := [(.int (0 : Int32))]) (lenOf pd__28_29I rfl) rfl (by show 2 * 0 + _ ≤ _; exact Nat.le_of_eq rfl) (hb hby d12_31) (fun _ _ => ⟨rfl, e223, (by decide : 0 + 0 ≤ _), (by decide : 0 + 0 ≤ _)⟩)
    dsimp only [Pt.U, Pt.locs, Pt.cells, Pt.slots] at X224 l224 y224 z224 st224 hQ224
    rw [l224, y224, z224] at X224
    clear l224 y224 z224
    obtain ⟨hr224, N224q, eh224⟩ := hQ224
    rw [hr224] at st224
    clear hr224
    rw [N224q, List.append_nil] at X224
    refine Go.via (fun _ kQ => st224.trans kQ) ?_
    clear st224
    have e224 : T224.heap = h0 := eh224
    clear X223 e223
    show Go p e below (T224.setTop (mkF m 34 #[.val (.ref nm), .val (.ref a), .val (.int mx), .val (.int (0 : Int32)), .unset] [(.int (2 : Int32)), (.int (0 : Int32))])) _
    refine Go.via (fun _ => XS.icmpNo X224.here hx rfl (hb hby d12_34) rfl (tlt ((by decide) : (0 : Int32) < (2 : Int32))).2.1) ?_
    show Go p e below (T224.setTop (mkF m 37 #[.val (.ref nm), .val (.ref a), .val (.int mx), .val (.int (0 : Int32)), .unset] [])) _
    refine Go.via (fun _ => XS.aloadN X224.here hx rfl (hb hby d12_37) rfl rfl) ?_
    refine Go.via (fun _ => XS.iloadN X224.here hx rfl (hb hby d12_38) rfl) ?_
    obtain ⟨cq225, kq225, q225a, q225b, q225c⟩ := isOf hZ e224 P0
    obtain ⟨r225, _, ⟨T225, L225, k225, n225⟩, -, X225, ⟨Lc225, hQ225, l225, y225, z225⟩, st225⟩ := X224.virtualBack hx (y := (⟨cST, "charAt", "(I)C"⟩ : MethodName)) (z := (⟨cST, "charAt", "(I)C"⟩ : MethodName)) hown (mvT hZ (tw hw 76 rfl)) (mvT hZ (tw hw 77 rfl)) (notFace_of_selects (args := #[]) (mvT hZ (tw hw 79 rfl))) (mvT hZ (tw hw 79 rfl)) (mvT hZ (tw hw 78 rfl)) (by decide) (backOf (W := 0) (rmCa l Z a0 hw [] a (0 : Int32) b_ [y0, y1] y0 (2 : Int32) cs fv h0 n0 Z0 P0 P1 P2 P3 P4 zCS zF (by first | decide | (simp only [List.length_cons, List.length_nil]; decide) | rfl) (by first | decide | (simp only [List.length_cons, List.length_nil]; decide) | rfl) rfl rfl (own_ch y0 hy0) hfv hcs) hZ (tw hw 80 rfl) (tw hw 14 rfl) (by decide) (by decide)) q225a q225c (g := (mkF m 39 #[.val (.ref nm), .val (.ref a), .val (.int mx), .val (.int (0 : Int32)), .unset] [(.int (0 : Int32)), (.ref a)])) rfl (by rw [hml]; rfl) (Steps.refl _) (argsL := [(.int (0 : Int32))]) (rest := []) (lenOf pd__28I_29C rfl) rfl (by show 2 * 0 + _ ≤ _; exact Nat.le_of_eq rfl) (hb hby d12_39) (fun _ _ => ⟨rfl, e224, (by decide : 0 + 0 ≤ _), (by decide : 0 + 0 ≤ _)⟩)
    dsimp only [Pt.U, Pt.locs, Pt.cells, Pt.slots] at X225 l225 y225 z225 st225 hQ225
    rw [l225, y225, z225] at X225
    clear l225 y225 z225
    obtain ⟨hr225, N225q, eh225⟩ := hQ225
    rw [hr225] at st225
    clear hr225
    rw [N225q, List.append_nil] at X225
    refine Go.via (fun _ kQ => st225.trans kQ) ?_
    clear st225
    have e225 : T225.heap = h0 := eh225
    clear X224 e224
    show Go p e below (T225.setTop (mkF m 42 #[.val (.ref nm), .val (.ref a), .val (.int mx), .val (.int (0 : Int32)), .unset] [(.int y0)])) _
    refine Go.via (fun _ => XS.istore X225.here hx rfl (hb hby d12_42) rfl (l' := #[.val (.ref nm), .val (.ref a), .val (.int mx), .val (.int (0 : Int32)), .val (.int y0)]) rfl) ?_
    show Go p e below (T225.setTop (mkF m 44 #[.val (.ref nm), .val (.ref a), .val (.int mx), .val (.int (0 : Int32)), .val (.int y0)] [])) _
    refine Go.via (fun _ => XS.iload X225.here hx rfl (hb hby d12_44) rfl) ?_
    obtain ⟨r226, _, ⟨T226, L226, k226, n226⟩, -, X226, ⟨Lc226, hQ226, l226, y226, z226⟩, st226⟩ := Jvm.LawKit.callS X225 hx (y := (⟨cCD, "isBase64", "(C)Z"⟩ : MethodName)) hown (mvT hZ (tw hw 98 rfl)) (mvT hZ (tw hw 99 rfl)) (mvT hZ (tw hw 3 rfl)) (mvT hZ (tw hw 100 rfl)) (by decide) (backOf (W := 0) (rm64 l Z a0 hw [] y0  h0 n0 Z0 hy0) hZ (tw hw 100 rfl) (tw hw 3 rfl) (by decide) (by decide)) (g := (mkF m 46 #[.val (.ref nm), .val (.ref a), .val (.int mx), .val (.int (0 : Int32)), .val (.int y0)] [(.int y0)])) rfl (by rw [hml]; rfl) (argsL := [(.int y0)]) (rest := []) (lenOf pd__28C_29Z rfl) rfl (by show 2 * 0 + _ ≤ _; exact Nat.le_of_eq rfl) (hb hby d12_46) (fun _ _ => ⟨rfl, e225, (by decide : 0 + 0 ≤ _), (by decide : 0 + 0 ≤ _)⟩)
    dsimp only [Pt.U, Pt.locs, Pt.cells, Pt.slots] at X226 l226 y226 z226 st226 hQ226
    rw [l226, y226, z226] at X226
    clear l226 y226 z226
    obtain ⟨hr226, N226q, eh226⟩ := hQ226
    rw [hr226] at st226
    clear hr226
    rw [N226q, List.append_nil] at X226
    refine Go.via (st226) ?_
    clear st226
    have e226 : T226.heap = h0 := eh226
    clear X225 e225
    show Go p e below (T226.setTop (mkF m 49 #[.val (.ref nm), .val (.ref a), .val (.int mx), .val (.int (0 : Int32)), .val (.int y0)] [(.int (1 : Int32))])) _
    refine Go.via (fun _ => XS.ifYes X226.here hx rfl (pc0 := 49) (pc' := 74) rfl (hb hby d12_49) rfl ((if0 _ _).trans (feq ((by decide) : ¬ ((1 : Int32) = (0 : Int32)))).2) (by decide) (by decide)) ?_
    show Go p e below (T226.setTop (mkF m 74 #[.val (.ref nm), .val (.ref a), .val (.int mx), .val (.int (0 : Int32)), .val (.int y0)] [])) _
    refine Go.via (fun _ => XS.iinc X226.here hx rfl (hb hby d12_74) rfl (l' := #[.val (.ref nm), .val (.ref a), .val (.int mx), .val (.int (1 : Int32)), .val (.int y0)]) rfl) ?_
    show Go p e below (T226.setTop (mkF m 77 #[.val (.ref nm), .val (.ref a), .val (.int mx), .val (.int (1 : Int32)), .val (.int y0)] [])) _
    refine Go.via (fun _ => XS.goto X226.here hx rfl (pc0 := 77) (pc' := 29) rfl (hb hby d12_77) (by decide) (by decide)) ?_
    refine Go.via (fun _ => XS.iloadN X226.here hx rfl (hb hby d12_29) rfl) ?_
    refine Go.via (fun _ => XS.aloadN X226.here hx rfl (hb hby d12_30) rfl rfl) ?_
    obtain ⟨cq227, kq227, q227a, q227b, q227c⟩ := isOf hZ e226 P0
    obtain ⟨r227, _, ⟨T227, L227, k227, n227⟩, -, X227, ⟨Lc227, hQ227, l227, y227, z227⟩, st227⟩ := X226.virtualBack hx (y := (⟨cST, "length", "()I"⟩ : MethodName)) (z := (⟨cST, "length", "()I"⟩ : MethodName)) hown (mvT hZ (tw hw 65 rfl)) (mvT hZ (tw hw 66 rfl)) (notFace_of_selects (args := #[]) (mvT hZ (tw hw 68 rfl))) (mvT hZ (tw hw 68 rfl)) (mvT hZ (tw hw 67 rfl)) (by decide) (backOf (W := 1) (rmLn2 l Z a0 hw [] a cs b_ y0 y1 h0 n0 Z0 P0 P1 P2 P3 P4 zCS hcs) hZ (tw hw 69 rfl) (tw hw 14 rfl) (by decide) (by decide)) q227a q227c (g := (mkF m 31 #[.val (.ref nm), .val (.ref a), .val (.int mx), .val (.int (1 : Int32)), .val (.int y0)] [(.ref a), (.int (1 : Int32))])) rfl (by rw [hml]; rfl) (Steps.refl _) (argsL := []) (rest := [(.int (1 : Int32))]) (lenOf pd__28_29I rfl) rfl (by show 2 * 0 + _ ≤ _; exact Nat.le_of_eq rfl) (hb hby d12_31) (fun _ _ => ⟨rfl, e226, (by decide : 0 + 0 ≤ _), (by decide : 0 + 0 ≤ _)⟩)
    dsimp only [Pt.U, Pt.locs, Pt.cells, Pt.slots] at X227 l227 y227 z227 st227 hQ227
    rw [l227, y227, z227] at X227
    clear l227 y227 z227
    obtain ⟨hr227, N227q, eh227⟩ := hQ227
    rw [hr227] at st227
    clear hr227
    rw [N227q, List.append_nil] at X227
    refine Go.via (fun _ kQ => st227.trans kQ) ?_
    clear st227
    have e227 : T227.heap = h0 := eh227
    clear X226 e226
    show Go p e below (T227.setTop (mkF m 34 #[.val (.ref nm), .val (.ref a), .val (.int mx), .val (.int (1 : Int32)), .val (.int y0)] [(.int (2 : Int32)), (.int (1 : Int32))])) _
    refine Go.via (fun _ => XS.icmpNo X227.here hx rfl (hb hby d12_34) rfl (tlt ((by decide) : (1 : Int32) < (2 : Int32))).2.1) ?_
    show Go p e below (T227.setTop (mkF m 37 #[.val (.ref nm), .val (.ref a), .val (.int mx), .val (.int (1 : Int32)), .val (.int y0)] [])) _
    refine Go.via (fun _ => XS.aloadN X227.here hx rfl (hb hby d12_37) rfl rfl) ?_
    refine Go.via (fun _ => XS.iloadN X227.here hx rfl (hb hby d12_38) rfl) ?_
    obtain ⟨cq228, kq228, q228a, q228b, q228c⟩ := isOf hZ e227 P0
    obtain ⟨r228, _, ⟨T228, L228, k228, n228⟩, -, X228, ⟨Lc228, hQ228, l228, y228, z228⟩, st228⟩ := X227.virtualBack hx (y := (⟨cST, "charAt", "(I)C"⟩ : MethodName)) (z := (⟨cST, "charAt", "(I)C"⟩ : MethodName)) hown (mvT hZ (tw hw 76 rfl)) (mvT hZ (tw hw 77 rfl)) (notFace_of_selects (args := #[]) (mvT hZ (tw hw 79 rfl))) (mvT hZ (tw hw 79 rfl)) (mvT hZ (tw hw 78 rfl)) (by decide) (backOf (W := 0) (rmCa l Z a0 hw [] a (1 : Int32) b_ [y0, y1] y1 (2 : Int32) cs fv h0 n0 Z0 P0 P1 P2 P3 P4 zCS zF (by first | decide | (simp only [List.length_cons, List.length_nil]; decide) | rfl) (by first | decide | (simp only [List.length_cons, List.length_nil]; decide) | rfl) rfl rfl (own_ch y1 hy1) hfv hcs) hZ (tw hw 80 rfl) (tw hw 14 rfl) (by decide) (by decide)) q228a q228c (g := (mkF m 39 #[.val (.ref nm), .val (.ref a), .val (.int mx), .val (.int (1 : Int32)), .val (.int y0)] [(.int (1 : Int32)), (.ref a)])) rfl (by rw [hml]; rfl) (Steps.refl _) (argsL := [(.int (1 : Int32))]) (rest := []) (lenOf pd__28I_29C rfl) rfl (by show 2 * 0 + _ ≤ _; exact Nat.le_of_eq rfl) (hb hby d12_39) (fun _ _ => ⟨rfl, e227, (by decide : 0 + 0 ≤ _), (by decide : 0 + 0 ≤ _)⟩)
    dsimp only [Pt.U, Pt.locs, Pt.cells, Pt.slots] at X228 l228 y228 z228 st228 hQ228
    rw [l228, y228, z228] at X228
    clear l228 y228 z228
    obtain ⟨hr228, N228q, eh228⟩ := hQ228
    rw [hr228] at st228
    clear hr228
    rw [N228q, List.append_nil] at X228
    refine Go.via (fun _ kQ => st228.trans kQ) ?_
    clear st228
    have e228 : T228.heap = h0 := eh228
    clear X227 e227
    show Go p e below (T228.setTop (mkF m 42 #[.val (.ref nm), .val (.ref a), .val (.int mx), .val (.int (1 : Int32)), .val (.int y0)] [(.int y1)])) _
    refine Go.via (fun _ => XS.istore X228.here hx rfl (hb hby d12_42) rfl (l' := #[.val (.ref nm), .val (.ref a), .val (.int mx), .val (.int (1 : Int32)), .val (.int y1)]) rfl) ?_
    show Go p e below (T228.setTop (mkF m 44 #[.val (.ref nm), .val (.ref a), .val (.int mx), .val (.int (1 : Int32)), .val (.int y1)] [])) _
    refine Go.via (fun _ => XS.iload X228.here hx rfl (hb hby d12_44) rfl) ?_
    obtain ⟨r229, _, ⟨T229, L229, k229, n229⟩, -, X229, ⟨Lc229, hQ229, l229, y229, z229⟩, st229⟩ := Jvm.LawKit.callS X228 hx (y := (⟨cCD, "isBase64", "(C)Z"⟩ : MethodName)) hown (mvT hZ (tw hw 98 rfl)) (mvT hZ (tw hw 99 rfl)) (mvT hZ (tw hw 3 rfl)) (mvT hZ (tw hw 100 rfl)) (by decide) (backOf (W := 0) (rm64 l Z a0 hw [] y1  h0 n0 Z0 hy1) hZ (tw hw 100 rfl) (tw hw 3 rfl) (by decide) (by decide)) (g := (mkF m 46 #[.val (.ref nm), .val (.ref a), .val (.int mx), .val (.int (1 : Int32)), .val (.int y1)] [(.int y1)])) rfl (by rw [hml]; rfl) (argsL := [(.int y1)]) (rest := []) (lenOf pd__28C_29Z rfl) rfl (by show 2 * 0 + _ ≤ _; exact Nat.le_of_eq rfl) (hb hby d12_46) (fun _ _ => ⟨rfl, e228, (by decide : 0 + 0 ≤ _), (by decide : 0 + 0 ≤ _)⟩)
    dsimp only [Pt.U, Pt.locs, Pt.cells, Pt.slots] at X229 l229 y229 z229 st229 hQ229
    rw [l229, y229, z229] at X229
    clear l229 y229 z229
    obtain ⟨hr229, N229q, eh229⟩ := hQ229
    rw [hr229] at st229
    clear hr229
    rw [N229q, List.append_nil] at X229
    refine Go.via (st229) ?_
    clear st229
    have e229 : T229.heap = h0 := eh229
    clear X228 e228
    show Go p e below (T229.setTop (mkF m 49 #[.val (.ref nm), .val (.ref a), .val (.int mx), .val (.int (1 : Int32)), .val (.int y1)] [(.int (1 : Int32))])) _
    refine Go.via (fun _ => XS.ifYes X229.here hx rfl (pc0 := 49) (pc' := 74) rfl (hb hby d12_49) rfl ((if0 _ _).trans (feq ((by decide) : ¬ ((1 : Int32) = (0 : Int32)))).2) (by decide) (by decide)) ?_
    show Go p e below (T229.setTop (mkF m 74 #[.val (.ref nm), .val (.ref a), .val (.int mx), .val (.int (1 : Int32)), .val (.int y1)] [])) _
    refine Go.via (fun _ => XS.iinc X229.here hx rfl (hb hby d12_74) rfl (l' := #[.val (.ref nm), .val (.ref a), .val (.int mx), .val (.int (2 : Int32)), .val (.int y1)]) rfl) ?_
    show Go p e below (T229.setTop (mkF m 77 #[.val (.ref nm), .val (.ref a), .val (.int mx), .val (.int (2 : Int32)), .val (.int y1)] [])) _
    refine Go.via (fun _ => XS.goto X229.here hx rfl (pc0 := 77) (pc' := 29) rfl (hb hby d12_77) (by decide) (by decide)) ?_
    refine Go.via (fun _ => XS.iloadN X229.here hx rfl (hb hby d12_29) rfl) ?_
    refine Go.via (fun _ => XS.aloadN X229.here hx rfl (hb hby d12_30) rfl rfl) ?_
    obtain ⟨cq230, kq230, q230a, q230b, q230c⟩ := isOf hZ e229 P0
    obtain ⟨r230, _, ⟨T230, L230, k230, n230⟩, -, X230, ⟨Lc230, hQ230, l230, y230, z230⟩, st230⟩ := X229.virtualBack hx (y := (⟨cST, "length", "()I"⟩ : MethodName)) (z := (⟨cST, "length", "()I"⟩ : MethodName)) hown (mvT hZ (tw hw 65 rfl)) (mvT hZ (tw hw 66 rfl)) (notFace_of_selects (args := #[]) (mvT hZ (tw hw 68 rfl))) (mvT hZ (tw hw 68 rfl)) (mvT hZ (tw hw 67 rfl)) (by decide) (backOf (W := 1) (rmLn2 l Z a0 hw [] a cs b_ y0 y1 h0 n0 Z0 P0 P1 P2 P3 P4 zCS hcs) hZ (tw hw 69 rfl) (tw hw 14 rfl) (by decide) (by decide)) q230a q230c (g := (mkF m 31 #[.val (.ref nm), .val (.ref a), .val (.int mx), .val (.int (2 : Int32)), .val (.int y1)] [(.ref a), (.int (2 : Int32))])) rfl (by rw [hml]; rfl) (Steps.refl _) (argsL := []) (rest := [(.int (2 : Int32))]) (lenOf pd__28_29I rfl) rfl (by show 2 * 0 + _ ≤ _; exact Nat.le_of_eq rfl) (hb hby d12_31) (fun _ _ => ⟨rfl, e229, (by decide : 0 + 0 ≤ _), (by decide : 0 + 0 ≤ _)⟩)
    dsimp only [Pt.U, Pt.locs, Pt.cells, Pt.slots] at X230 l230 y230 z230 st230 hQ230
    rw [l230, y230, z230] at X230
    clear l230 y230 z230
    obtain ⟨hr230, N230q, eh230⟩ := hQ230
    rw [hr230] at st230
    clear hr230
    rw [N230q, List.append_nil] at X230
    refine Go.via (fun _ kQ => st230.trans kQ) ?_
    clear st230
    have e230 : T230.heap = h0 := eh230
    clear X229 e229
    show Go p e below (T230.setTop (mkF m 34 #[.val (.ref nm), .val (.ref a), .val (.int mx), .val (.int (2 : Int32)), .val (.int y1)] [(.int (2 : Int32)), (.int (2 : Int32))])) _
    refine Go.via (fun _ => XS.icmpYes X230.here hx rfl (pc0 := 34) (pc' := 80) rfl (hb hby d12_34) rfl (flt ((by decide) : ¬ ((2 : Int32) < (2 : Int32)))).2.1 (by decide) (by decide)) ?_
    show Go p e below (T230.setTop (mkF m 80 #[.val (.ref nm), .val (.ref a), .val (.int mx), .val (.int (2 : Int32)), .val (.int y1)] [])) _
    exact Go.fin X230 hlk (v := none) (fun _ => rfl) (fun fs hr => X230.returnOut hx Bd.returns (hb hby d12_80) hr) (by rw [e230]; exact ⟨rfl, rfl, rfl⟩) (by decide) (by decide)
theorem d11_0 : decode jdk_35_method_50_code 0 = .ok (.lload_n 0, 1) := by decide +kernel
theorem d11_1 : decode jdk_35_method_50_code 1 = .ok (.lload_n 0, 1) := by decide +kernel
theorem d11_2 : decode jdk_35_method_50_code 2 = .ok (.iconst 1, 1) := by decide +kernel
theorem d11_3 : decode jdk_35_method_50_code 3 = .ok (.lushr, 1) := by decide +kernel
theorem d11_4 : decode jdk_35_method_50_code 4 = .ok (.ldc2_w 314, 3) := by decide +kernel
theorem d11_7 : decode jdk_35_method_50_code 7 = .ok (.land, 1) := by decide +kernel
theorem d11_8 : decode jdk_35_method_50_code 8 = .ok (.lsub, 1) := by decide +kernel
theorem d11_9 : decode jdk_35_method_50_code 9 = .ok (.lstore_n 0, 1) := by decide +kernel
theorem d11_10 : decode jdk_35_method_50_code 10 = .ok (.lload_n 0, 1) := by decide +kernel
theorem d11_11 : decode jdk_35_method_50_code 11 = .ok (.ldc2_w 316, 3) := by decide +kernel
theorem d11_14 : decode jdk_35_method_50_code 14 = .ok (.land, 1) := by decide +kernel
theorem d11_15 : decode jdk_35_method_50_code 15 = .ok (.lload_n 0, 1) := by decide +kernel
theorem d11_16 : decode jdk_35_method_50_code 16 = .ok (.iconst 2, 1) := by decide +kernel
theorem d11_17 : decode jdk_35_method_50_code 17 = .ok (.lushr, 1) := by decide +kernel
theorem d11_18 : decode jdk_35_method_50_code 18 = .ok (.ldc2_w 316, 3) := by decide +kernel
theorem d11_21 : decode jdk_35_method_50_code 21 = .ok (.land, 1) := by decide +kernel
theorem d11_22 : decode jdk_35_method_50_code 22 = .ok (.ladd, 1) := by decide +kernel
theorem d11_23 : decode jdk_35_method_50_code 23 = .ok (.lstore_n 0, 1) := by decide +kernel
theorem d11_24 : decode jdk_35_method_50_code 24 = .ok (.lload_n 0, 1) := by decide +kernel
theorem d11_25 : decode jdk_35_method_50_code 25 = .ok (.lload_n 0, 1) := by decide +kernel
theorem d11_26 : decode jdk_35_method_50_code 26 = .ok (.iconst 4, 1) := by decide +kernel
theorem d11_27 : decode jdk_35_method_50_code 27 = .ok (.lushr, 1) := by decide +kernel
theorem d11_28 : decode jdk_35_method_50_code 28 = .ok (.ladd, 1) := by decide +kernel
theorem d11_29 : decode jdk_35_method_50_code 29 = .ok (.ldc2_w 318, 3) := by decide +kernel
theorem d11_32 : decode jdk_35_method_50_code 32 = .ok (.land, 1) := by decide +kernel
theorem d11_33 : decode jdk_35_method_50_code 33 = .ok (.lstore_n 0, 1) := by decide +kernel
theorem d11_34 : decode jdk_35_method_50_code 34 = .ok (.lload_n 0, 1) := by decide +kernel
theorem d11_35 : decode jdk_35_method_50_code 35 = .ok (.lload_n 0, 1) := by decide +kernel
theorem d11_36 : decode jdk_35_method_50_code 36 = .ok (.bipush 8, 2) := by decide +kernel
theorem d11_38 : decode jdk_35_method_50_code 38 = .ok (.lushr, 1) := by decide +kernel
theorem d11_39 : decode jdk_35_method_50_code 39 = .ok (.ladd, 1) := by decide +kernel
theorem d11_40 : decode jdk_35_method_50_code 40 = .ok (.lstore_n 0, 1) := by decide +kernel
theorem d11_41 : decode jdk_35_method_50_code 41 = .ok (.lload_n 0, 1) := by decide +kernel
theorem d11_42 : decode jdk_35_method_50_code 42 = .ok (.lload_n 0, 1) := by decide +kernel
theorem d11_43 : decode jdk_35_method_50_code 43 = .ok (.bipush 16, 2) := by decide +kernel
theorem d11_45 : decode jdk_35_method_50_code 45 = .ok (.lushr, 1) := by decide +kernel
theorem d11_46 : decode jdk_35_method_50_code 46 = .ok (.ladd, 1) := by decide +kernel
theorem d11_47 : decode jdk_35_method_50_code 47 = .ok (.lstore_n 0, 1) := by decide +kernel
theorem d11_48 : decode jdk_35_method_50_code 48 = .ok (.lload_n 0, 1) := by decide +kernel
theorem d11_49 : decode jdk_35_method_50_code 49 = .ok (.lload_n 0, 1) := by decide +kernel
theorem d11_50 : decode jdk_35_method_50_code 50 = .ok (.bipush 32, 2) := by decide +kernel
theorem d11_52 : decode jdk_35_method_50_code 52 = .ok (.lushr, 1) := by decide +kernel
theorem d11_53 : decode jdk_35_method_50_code 53 = .ok (.ladd, 1) := by decide +kernel
theorem d11_54 : decode jdk_35_method_50_code 54 = .ok (.lstore_n 0, 1) := by decide +kernel
theorem d11_55 : decode jdk_35_method_50_code 55 = .ok (.lload_n 0, 1) := by decide +kernel
theorem d11_56 : decode jdk_35_method_50_code 56 = .ok (.l2i, 1) := by decide +kernel
theorem d11_57 : decode jdk_35_method_50_code 57 = .ok (.bipush 127, 2) := by decide +kernel
theorem d11_59 : decode jdk_35_method_50_code 59 = .ok (.iand, 1) := by decide +kernel
theorem d11_60 : decode jdk_35_method_50_code 60 = .ok (.ireturn, 1) := by decide +kernel
theorem pn_11 : plainName "java/lang/Long" = true := by first | (simp [plainName, overriddenIn]; done) | decide +kernel
theorem ef_11 (m : MethodId) (x0 : Int64) : entryFrame m #[(.long x0)] 2 = mkF m 0 #[.val (.long x0), .second] [] := by first | (simp [entryFrame, mkF, argsToLocals, Value.category]; done) | rfl
def Q_rmBc (Z : State) (v : Int64)  (h0 : Heap) (n0 : Nat) (vQ : Option Value) (hQ : Heap) (LQ : List Loc) : Prop := vQ = some (.int (bcF v)) ∧ LQ = [] ∧ hQ = h0
set_option maxRecDepth 65536 in
set_option maxHeartbeats 40000000 in
theorem rmBc (l : Launch) (Z : State) (a0 : Array Value) (hw : ∀ d ∈ tables_1, d.before a0 Z = true) (ws : List Jvm.Cond) (v : Int64)  (h0 : Heap) (n0 : Nat) (Z0 : n0 ≤ h0.size) :
    MetFree l (⟨"java/lang/Long", "bitCount", "(J)I"⟩ : MethodName) (head1 (Jvm.Cond.code (⟨"java/lang/Long", "bitCount", "(J)I"⟩ : MethodName) jdk_35_method_50_code 2 (some .int) :: ws) ({ frames := 0, cells := 0, slots := 0, locals := 0 } : Room)) (fun aQ UQ => aQ = #[(.long v)] ∧ Z.Warmed39 UQ.vm ∧ UQ.heap = h0) (fun _ _ _ _ _ => True) (fun _ UQ oQ UR => ∃ vQ LQ, oQ = .returned vQ ∧ Q_rmBc Z v  h0 n0 vQ UR.heap LQ ∧ FrameEnd UQ oQ UR LQ ({ frames := 0, cells := 0, slots := 0, locals := 0 } : Room).cells ({ frames := 0, cells := 0, slots := 0, locals := 0 } : Room).slots) := by
  refine MetFree.of_bodySF (plainFor_of_name pn_11) hisR ?_
  intro p e s m args below meth c s₁ Bd hml0 hP hK
  obtain ⟨rfl, hZ, hh⟩ := hP
  have hx := Bd.exec
  have hby := Bd.bytes
  have hlk := Bd.notSynchronized
  have hml : c.maxLocals = 2 := hml0
  have hown : s.vm.findClass "java/lang/Long" = some m.cls := findClass_of_methodNamed Bd.named
  have hnm := (name_of_methodNamed Bd.named Bd.method).1
  have X0 : Stand p l e ({ frames := 0, cells := 0, slots := 0, locals := 0 } : Room) s m #[(.long v)] below meth c s₁ [] 0 0 := Stand.of_body Bd
  have e0 : s₁.heap = h0 := by rw [← hh, Bd.state]; rfl
  have N0 := Fr.nil n0
  show Go p e below _ (Done s (Q_rmBc Z v  h0 n0) ({ frames := 0, cells := 0, slots := 0, locals := 0 } : Room).cells ({ frames := 0, cells := 0, slots := 0, locals := 0 } : Room).slots)
  refine Go.via (fun tQ kQ => castTop (ef_11 m v) kQ) ?_
  show Go p e below (s₁.setTop (mkF m 0 #[.val (.long v), .second] [])) _
  refine Go.via (fun _ => XS.lloadN X0.here hx rfl (hb hby d11_0) rfl) ?_
  refine Go.via (fun _ => XS.lloadN X0.here hx rfl (hb hby d11_1) rfl) ?_
  refine Go.via (fun _ => XS.iconst X0.here hx rfl (hb hby d11_2)) ?_
  refine Go.via (fun _ => XS.lushr X0.here hx rfl (hb hby d11_3) rfl) ?_
  show Go p e below (s₁.setTop (mkF m 4 #[.val (.long v), .second] [(.long ((v.toUInt64 >>> ((1 : Int32) &&& 0x3f).toInt64.toUInt64).toInt64)), (.long v)])) _
  refine Go.via (X0.ldc2Long hx hown (mvT hZ (tw hw 58 rfl)) (g := (mkF m 4 #[.val (.long v), .second] [(.long ((v.toUInt64 >>> ((1 : Int32) &&& 0x3f).toInt64.toUInt64).toInt64)), (.long v)])) rfl (hb hby d11_4)) ?_
  show Go p e below (s₁.setTop (mkF m 7 #[.val (.long v), .second] [(.long (6148914691236517205 : Int64)), (.long ((v.toUInt64 >>> ((1 : Int32) &&& 0x3f).toInt64.toUInt64).toInt64)), (.long v)])) _
  refine Go.via (fun _ => XS.land X0.here hx rfl (hb hby d11_7) rfl) ?_
  show Go p e below (s₁.setTop (mkF m 8 #[.val (.long v), .second] [(.long (((v.toUInt64 >>> ((1 : Int32) &&& 0x3f).toInt64.toUInt64).toInt64) &&& (6148914691236517205 : Int64))), (.long v)])) _
  refine Go.via (fun _ => XS.lsub X0.here hx rfl (hb hby d11_8) rfl) ?_
  show Go p e below (s₁.setTop (mkF m 9 #[.val (.long v), .second] [(.long (v - (((v.toUInt64 >>> ((1 : Int32) &&& 0x3f).toInt64.toUInt64).toInt64) &&& (6148914691236517205 : Int64))))])) _
  generalize hv_q1 : (v - (((v.toUInt64 >>> ((1 : Int32) &&& 0x3f).toInt64.toUInt64).toInt64) &&& (6148914691236517205 : Int64))) = q1
  show Go p e below (s₁.setTop (mkF m 9 #[.val (.long v), .second] [(.long q1)])) _
  refine Go.via (fun _ => XS.lstoreN X0.here hx rfl (hb hby d11_9) rfl (l' := #[.val (.long q1), .second]) rfl) ?_
  show Go p e below (s₁.setTop (mkF m 10 #[.val (.long q1), .second] [])) _
  refine Go.via (fun _ => XS.lloadN X0.here hx rfl (hb hby d11_10) rfl) ?_
  refine Go.via (X0.ldc2Long hx hown (mvT hZ (tw hw 59 rfl)) (g := (mkF m 11 #[.val (.long q1), .second] [(.long q1)])) rfl (hb hby d11_11)) ?_
  show Go p e below (s₁.setTop (mkF m 14 #[.val (.long q1), .second] [(.long (3689348814741910323 : Int64)), (.long q1)])) _
  refine Go.via (fun _ => XS.land X0.here hx rfl (hb hby d11_14) rfl) ?_
  show Go p e below (s₁.setTop (mkF m 15 #[.val (.long q1), .second] [(.long (q1 &&& (3689348814741910323 : Int64)))])) _
  refine Go.via (fun _ => XS.lloadN X0.here hx rfl (hb hby d11_15) rfl) ?_
  refine Go.via (fun _ => XS.iconst X0.here hx rfl (hb hby d11_16)) ?_
  refine Go.via (fun _ => XS.lushr X0.here hx rfl (hb hby d11_17) rfl) ?_
  show Go p e below (s₁.setTop (mkF m 18 #[.val (.long q1), .second] [(.long ((q1.toUInt64 >>> ((2 : Int32) &&& 0x3f).toInt64.toUInt64).toInt64)), (.long (q1 &&& (3689348814741910323 : Int64)))])) _
  refine Go.via (X0.ldc2Long hx hown (mvT hZ (tw hw 59 rfl)) (g := (mkF m 18 #[.val (.long q1), .second] [(.long ((q1.toUInt64 >>> ((2 : Int32) &&& 0x3f).toInt64.toUInt64).toInt64)), (.long (q1 &&& (3689348814741910323 : Int64)))])) rfl (hb hby d11_18)) ?_
  show Go p e below (s₁.setTop (mkF m 21 #[.val (.long q1), .second] [(.long (3689348814741910323 : Int64)), (.long ((q1.toUInt64 >>> ((2 : Int32) &&& 0x3f).toInt64.toUInt64).toInt64)), (.long (q1 &&& (3689348814741910323 : Int64)))])) _
  refine Go.via (fun _ => XS.land X0.here hx rfl (hb hby d11_21) rfl) ?_
  show Go p e below (s₁.setTop (mkF m 22 #[.val (.long q1), .second] [(.long (((q1.toUInt64 >>> ((2 : Int32) &&& 0x3f).toInt64.toUInt64).toInt64) &&& (3689348814741910323 : Int64))), (.long (q1 &&& (3689348814741910323 : Int64)))])) _
  refine Go.via (fun _ => XS.ladd X0.here hx rfl (hb hby d11_22) rfl) ?_
  show Go p e below (s₁.setTop (mkF m 23 #[.val (.long q1), .second] [(.long ((q1 &&& (3689348814741910323 : Int64)) + (((q1.toUInt64 >>> ((2 : Int32) &&& 0x3f).toInt64.toUInt64).toInt64) &&& (3689348814741910323 : Int64))))])) _
  generalize hv_q2 : ((q1 &&& (3689348814741910323 : Int64)) + (((q1.toUInt64 >>> ((2 : Int32) &&& 0x3f).toInt64.toUInt64).toInt64) &&& (3689348814741910323 : Int64))) = q2
  show Go p e below (s₁.setTop (mkF m 23 #[.val (.long q1), .second] [(.long q2)])) _
  refine Go.via (fun _ => XS.lstoreN X0.here hx rfl (hb hby d11_23) rfl (l' := #[.val (.long q2), .second]) rfl) ?_
  show Go p e below (s₁.setTop (mkF m 24 #[.val (.long q2), .second] [])) _
  refine Go.via (fun _ => XS.lloadN X0.here hx rfl (hb hby d11_24) rfl) ?_
  refine Go.via (fun _ => XS.lloadN X0.here hx rfl (hb hby d11_25) rfl) ?_
  refine Go.via (fun _ => XS.iconst X0.here hx rfl (hb hby d11_26)) ?_
  refine Go.via (fun _ => XS.lushr X0.here hx rfl (hb hby d11_27) rfl) ?_
  show Go p e below (s₁.setTop (mkF m 28 #[.val (.long q2), .second] [(.long ((q2.toUInt64 >>> ((4 : Int32) &&& 0x3f).toInt64.toUInt64).toInt64)), (.long q2)])) _
  refine Go.via (fun _ => XS.ladd X0.here hx rfl (hb hby d11_28) rfl) ?_
  show Go p e below (s₁.setTop (mkF m 29 #[.val (.long q2), .second] [(.long (q2 + ((q2.toUInt64 >>> ((4 : Int32) &&& 0x3f).toInt64.toUInt64).toInt64)))])) _
  refine Go.via (X0.ldc2Long hx hown (mvT hZ (tw hw 60 rfl)) (g := (mkF m 29 #[.val (.long q2), .second] [(.long (q2 + ((q2.toUInt64 >>> ((4 : Int32) &&& 0x3f).toInt64.toUInt64).toInt64)))])) rfl (hb hby d11_29)) ?_
  show Go p e below (s₁.setTop (mkF m 32 #[.val (.long q2), .second] [(.long (1085102592571150095 : Int64)), (.long (q2 + ((q2.toUInt64 >>> ((4 : Int32) &&& 0x3f).toInt64.toUInt64).toInt64)))])) _
  refine Go.via (fun _ => XS.land X0.here hx rfl (hb hby d11_32) rfl) ?_
  show Go p e below (s₁.setTop (mkF m 33 #[.val (.long q2), .second] [(.long ((q2 + ((q2.toUInt64 >>> ((4 : Int32) &&& 0x3f).toInt64.toUInt64).toInt64)) &&& (1085102592571150095 : Int64)))])) _
  generalize hv_q3 : ((q2 + ((q2.toUInt64 >>> ((4 : Int32) &&& 0x3f).toInt64.toUInt64).toInt64)) &&& (1085102592571150095 : Int64)) = q3
  show Go p e below (s₁.setTop (mkF m 33 #[.val (.long q2), .second] [(.long q3)])) _
  refine Go.via (fun _ => XS.lstoreN X0.here hx rfl (hb hby d11_33) rfl (l' := #[.val (.long q3), .second]) rfl) ?_
  show Go p e below (s₁.setTop (mkF m 34 #[.val (.long q3), .second] [])) _
  refine Go.via (fun _ => XS.lloadN X0.here hx rfl (hb hby d11_34) rfl) ?_
  refine Go.via (fun _ => XS.lloadN X0.here hx rfl (hb hby d11_35) rfl) ?_
  refine Go.via (fun _ => XS.bipush X0.here hx rfl (hb hby d11_36)) ?_
  refine Go.via (fun _ => XS.lushr X0.here hx rfl (hb hby d11_38) rfl) ?_
  show Go p e below (s₁.setTop (mkF m 39 #[.val (.long q3), .second] [(.long ((q3.toUInt64 >>> ((8 : Int32) &&& 0x3f).toInt64.toUInt64).toInt64)), (.long q3)])) _
  refine Go.via (fun _ => XS.ladd X0.here hx rfl (hb hby d11_39) rfl) ?_
  show Go p e below (s₁.setTop (mkF m 40 #[.val (.long q3), .second] [(.long (q3 + ((q3.toUInt64 >>> ((8 : Int32) &&& 0x3f).toInt64.toUInt64).toInt64)))])) _
  generalize hv_q4 : (q3 + ((q3.toUInt64 >>> ((8 : Int32) &&& 0x3f).toInt64.toUInt64).toInt64)) = q4
  show Go p e below (s₁.setTop (mkF m 40 #[.val (.long q3), .second] [(.long q4)])) _
  refine Go.via (fun _ => XS.lstoreN X0.here hx rfl (hb hby d11_40) rfl (l' := #[.val (.long q4), .second]) rfl) ?_
  show Go p e below (s₁.setTop (mkF m 41 #[.val (.long q4), .second] [])) _
  refine Go.via (fun _ => XS.lloadN X0.here hx rfl (hb hby d11_41) rfl) ?_
  refine Go.via (fun _ => XS.lloadN X0.here hx rfl (hb hby d11_42) rfl) ?_
  refine Go.via (fun _ => XS.bipush X0.here hx rfl (hb hby d11_43)) ?_
  refine Go.via (fun _ => XS.lushr X0.here hx rfl (hb hby d11_45) rfl) ?_
  show Go p e below (s₁.setTop (mkF m 46 #[.val (.long q4), .second] [(.long ((q4.toUInt64 >>> ((16 : Int32) &&& 0x3f).toInt64.toUInt64).toInt64)), (.long q4)])) _
  refine Go.via (fun _ => XS.ladd X0.here hx rfl (hb hby d11_46) rfl) ?_
  show Go p e below (s₁.setTop (mkF m 47 #[.val (.long q4), .second] [(.long (q4 + ((q4.toUInt64 >>> ((16 : Int32) &&& 0x3f).toInt64.toUInt64).toInt64)))])) _
  generalize hv_q5 : (q4 + ((q4.toUInt64 >>> ((16 : Int32) &&& 0x3f).toInt64.toUInt64).toInt64)) = q5
  show Go p e below (s₁.setTop (mkF m 47 #[.val (.long q4), .second] [(.long q5)])) _
  refine Go.via (fun _ => XS.lstoreN X0.here hx rfl (hb hby d11_47) rfl (l' := #[.val (.long q5), .second]) rfl) ?_
  show Go p e below (s₁.setTop (mkF m 48 #[.val (.long q5), .second] [])) _
  refine Go.via (fun _ => XS.lloadN X0.here hx rfl (hb hby d11_48) rfl) ?_
  refine Go.via (fun _ => XS.lloadN X0.here hx rfl (hb hby d11_49) rfl) ?_
  refine Go.via (fun _ => XS.bipush X0.here hx rfl (hb hby d11_50)) ?_
  refine Go.via (fun _ => XS.lushr X0.here hx rfl (hb hby d11_52) rfl) ?_
  show Go p e below (s₁.setTop (mkF m 53 #[.val (.long q5), .second] [(.long ((q5.toUInt64 >>> ((32 : Int32) &&& 0x3f).toInt64.toUInt64).toInt64)), (.long q5)])) _
  refine Go.via (fun _ => XS.ladd X0.here hx rfl (hb hby d11_53) rfl) ?_
  show Go p e below (s₁.setTop (mkF m 54 #[.val (.long q5), .second] [(.long (q5 + ((q5.toUInt64 >>> ((32 : Int32) &&& 0x3f).toInt64.toUInt64).toInt64)))])) _
  generalize hv_q6 : (q5 + ((q5.toUInt64 >>> ((32 : Int32) &&& 0x3f).toInt64.toUInt64).toInt64)) = q6
  show Go p e below (s₁.setTop (mkF m 54 #[.val (.long q5), .second] [(.long q6)])) _
  refine Go.via (fun _ => XS.lstoreN X0.here hx rfl (hb hby d11_54) rfl (l' := #[.val (.long q6), .second]) rfl) ?_
  show Go p e below (s₁.setTop (mkF m 55 #[.val (.long q6), .second] [])) _
  refine Go.via (fun _ => XS.lloadN X0.here hx rfl (hb hby d11_55) rfl) ?_
  refine Go.via (fun _ => XS.l2i X0.here hx rfl (hb hby d11_56) rfl) ?_
  show Go p e below (s₁.setTop (mkF m 57 #[.val (.long q6), .second] [(.int (q6.toInt32))])) _
  refine Go.via (fun _ => XS.bipush X0.here hx rfl (hb hby d11_57)) ?_
  refine Go.via (fun _ => XS.iand X0.here hx rfl (hb hby d11_59) rfl) ?_
  show Go p e below (s₁.setTop (mkF m 60 #[.val (.long q6), .second] [(.int ((q6.toInt32) &&& (127 : Int32)))])) _
  exact Go.fin X0 hlk (v := some (.int ((q6.toInt32) &&& (127 : Int32)))) (fun h => by rw [Bd.returns] at h; cases h) (fun fs hr => OwnKit.retI X0 hx Bd.returns (hb hby d11_60) hr) (by rw [e0]; exact ⟨(by subst hv_q1 hv_q2 hv_q3 hv_q4 hv_q5 hv_q6; rfl), rfl, rfl⟩) (by decide) (by decide)
theorem d10_0 : decode prog_15_method_9_code 0 = .ok (.lload_n 0, 1) := by decide +kernel
theorem d10_1 : decode prog_15_method_9_code 1 = .ok (.ldc2_w 85, 3) := by decide +kernel
theorem d10_4 : decode prog_15_method_9_code 4 = .ok (.lrem, 1) := by decide +kernel
theorem d10_5 : decode prog_15_method_9_code 5 = .ok (.lconst 0, 1) := by decide +kernel
theorem d10_6 : decode prog_15_method_9_code 6 = .ok (.lcmp, 1) := by decide +kernel
theorem d10_7 : decode prog_15_method_9_code 7 = .ok (.ifCond .ne 27, 3) := by decide +kernel
theorem d10_10 : decode prog_15_method_9_code 10 = .ok (.lload_n 0, 1) := by decide +kernel
theorem d10_11 : decode prog_15_method_9_code 11 = .ok (.ldc2_w 87, 3) := by decide +kernel
theorem d10_14 : decode prog_15_method_9_code 14 = .ok (.lcmp, 1) := by decide +kernel
theorem d10_15 : decode prog_15_method_9_code 15 = .ok (.ifCond .gt 19, 3) := by decide +kernel
theorem d10_18 : decode prog_15_method_9_code 18 = .ok (.lload_n 0, 1) := by decide +kernel
theorem d10_19 : decode prog_15_method_9_code 19 = .ok (.ldc2_w 85, 3) := by decide +kernel
theorem d10_22 : decode prog_15_method_9_code 22 = .ok (.ldiv, 1) := by decide +kernel
theorem d10_23 : decode prog_15_method_9_code 23 = .ok (.invokestatic 89, 3) := by decide +kernel
theorem pd__28J_29I : parseMethodDescriptor "(J)I" = some ⟨[.long], some .int⟩ := by decide +kernel
theorem d10_26 : decode prog_15_method_9_code 26 = .ok (.iconst 1, 1) := by decide +kernel
theorem d10_27 : decode prog_15_method_9_code 27 = .ok (.if_icmp .ne 7, 3) := by decide +kernel
theorem d10_30 : decode prog_15_method_9_code 30 = .ok (.iconst 1, 1) := by decide +kernel
theorem d10_31 : decode prog_15_method_9_code 31 = .ok (.goto 4, 3) := by decide +kernel
theorem d10_35 : decode prog_15_method_9_code 35 = .ok (.ireturn, 1) := by decide +kernel
theorem pn_10 : plainName cCD = true := by first | (simp [plainName, overriddenIn]; done) | decide +kernel
theorem ef_10 (m : MethodId) (x0 : Int64) : entryFrame m #[(.long x0)] 2 = mkF m 0 #[.val (.long x0), .second] [] := by first | (simp [entryFrame, mkF, argsToLocals, Value.category]; done) | rfl
def Q_rmVb (Z : State) (v : Int64)  (h0 : Heap) (n0 : Nat) (vQ : Option Value) (hQ : Heap) (LQ : List Loc) : Prop := vQ = some (.int (1 : Int32)) ∧ LQ = [] ∧ hQ = h0
set_option maxRecDepth 65536 in
set_option maxHeartbeats 40000000 in
theorem rmVb (l : Launch) (Z : State) (a0 : Array Value) (hw : ∀ d ∈ tables_1, d.before a0 Z = true) (ws : List Jvm.Cond) (v : Int64)  (h0 : Heap) (n0 : Nat) (Z0 : n0 ≤ h0.size) (hB : Bv v) :
    MetFree l (⟨cCD, "isValidBlockSize", "(J)Z"⟩ : MethodName) (head1 (Jvm.Cond.code (⟨cCD, "isValidBlockSize", "(J)Z"⟩ : MethodName) prog_15_method_9_code 2 (some .boolean) :: ws) ({ frames := 1, cells := 0, slots := 0, locals := 13 } : Room)) (fun aQ UQ => aQ = #[(.long v)] ∧ Z.Warmed39 UQ.vm ∧ UQ.heap = h0) (fun _ _ _ _ _ => True) (fun _ UQ oQ UR => ∃ vQ LQ, oQ = .returned vQ ∧ Q_rmVb Z v  h0 n0 vQ UR.heap LQ ∧ FrameEnd UQ oQ UR LQ ({ frames := 1, cells := 0, slots := 0, locals := 13 } : Room).cells ({ frames := 1, cells := 0, slots := 0, locals := 13 } : Room).slots) := by
  refine MetFree.of_bodySF (plainFor_of_name pn_10) hisR ?_
  intro p e s m args below meth c s₁ Bd hml0 hP hK
  obtain ⟨rfl, hZ, hh⟩ := hP
  have hx := Bd.exec
  have hby := Bd.bytes
  have hlk := Bd.notSynchronized
  have hml : c.maxLocals = 2 := hml0
  have hown : s.vm.findClass cCD = some m.cls := findClass_of_methodNamed Bd.named
  have hnm := (name_of_methodNamed Bd.named Bd.method).1
  have X0 : Stand p l e ({ frames := 1, cells := 0, slots := 0, locals := 13 } : Room) s m #[(.long v)] below meth c s₁ [] 0 0 := Stand.of_body Bd
  have e0 : s₁.heap = h0 := by rw [← hh, Bd.state]; rfl
  have N0 := Fr.nil n0
  show Go p e below _ (Done s (Q_rmVb Z v  h0 n0) ({ frames := 1, cells := 0, slots := 0, locals := 13 } : Room).cells ({ frames := 1, cells := 0, slots := 0, locals := 13 } : Room).slots)
  refine Go.via (fun tQ kQ => castTop (ef_10 m v) kQ) ?_
  show Go p e below (s₁.setTop (mkF m 0 #[.val (.long v), .second] [])) _
  refine Go.via (fun _ => XS.lloadN X0.here hx rfl (hb hby d10_0) rfl) ?_
  refine Go.via (X0.ldc2Long hx hown (mvT hZ (tw hw 52 rfl)) (g := (mkF m 1 #[.val (.long v), .second] [(.long v)])) rfl (hb hby d10_1)) ?_
  show Go p e below (s₁.setTop (mkF m 4 #[.val (.long v), .second] [(.long (3 : Int64)), (.long v)])) _
  refine Go.via (fun _ => XS.lrem X0.here hx rfl (hb hby d10_4) rfl (by decide)) ?_
  show Go p e below (s₁.setTop (mkF m 5 #[.val (.long v), .second] [(.long (v - (v / (3 : Int64)) * (3 : Int64)))])) _
  refine Go.via (fun _ => XS.lconst X0.here hx rfl (hb hby d10_5)) ?_
  refine Go.via (fun _ => XS.lcmp X0.here hx rfl (hb hby d10_6) rfl) ?_
  show Go p e below (s₁.setTop (mkF m 7 #[.val (.long v), .second] [(.int (lcmpW (v - (v / (3 : Int64)) * (3 : Int64)) (0 : Int64)))])) _
  refine Go.via (fun _ => XS.ifNo X0.here hx rfl (hb hby d10_7) rfl ((if0 _ _).trans (teq (hB.1 : (lcmpW (v - (v / (3 : Int64)) * (3 : Int64)) (0 : Int64)) = (0 : Int32))).2)) ?_
  show Go p e below (s₁.setTop (mkF m 10 #[.val (.long v), .second] [])) _
  refine Go.via (fun _ => XS.lloadN X0.here hx rfl (hb hby d10_10) rfl) ?_
  refine Go.via (X0.ldc2Long hx hown (mvT hZ (tw hw 53 rfl)) (g := (mkF m 11 #[.val (.long v), .second] [(.long v)])) rfl (hb hby d10_11)) ?_
  show Go p e below (s₁.setTop (mkF m 14 #[.val (.long v), .second] [(.long (3221225472 : Int64)), (.long v)])) _
  refine Go.via (fun _ => XS.lcmp X0.here hx rfl (hb hby d10_14) rfl) ?_
  show Go p e below (s₁.setTop (mkF m 15 #[.val (.long v), .second] [(.int (lcmpW v (3221225472 : Int64)))])) _
  refine Go.via (fun _ => XS.ifNo X0.here hx rfl (hb hby d10_15) rfl ((if0 _ _).trans (flt (hB.2.1 : ¬ ((0 : Int32) < (lcmpW v (3221225472 : Int64))))).2.2.1)) ?_
  show Go p e below (s₁.setTop (mkF m 18 #[.val (.long v), .second] [])) _
  refine Go.via (fun _ => XS.lloadN X0.here hx rfl (hb hby d10_18) rfl) ?_
  refine Go.via (X0.ldc2Long hx hown (mvT hZ (tw hw 52 rfl)) (g := (mkF m 19 #[.val (.long v), .second] [(.long v)])) rfl (hb hby d10_19)) ?_
  show Go p e below (s₁.setTop (mkF m 22 #[.val (.long v), .second] [(.long (3 : Int64)), (.long v)])) _
  refine Go.via (fun _ => XS.ldiv X0.here hx rfl (hb hby d10_22) rfl (by decide)) ?_
  show Go p e below (s₁.setTop (mkF m 23 #[.val (.long v), .second] [(.long (v / (3 : Int64)))])) _
  obtain ⟨r231, _, ⟨T231, L231, k231, n231⟩, -, X231, ⟨Lc231, hQ231, l231, y231, z231⟩, st231⟩ := Jvm.LawKit.callS X0 hx (y := (⟨"java/lang/Long", "bitCount", "(J)I"⟩ : MethodName)) hown (mvT hZ (tw hw 54 rfl)) (mvT hZ (tw hw 55 rfl)) (mvT hZ (tw hw 56 rfl)) (mvT hZ (tw hw 57 rfl)) (by decide) (backOf (W := 0) (rmBc l Z a0 hw [] (v / (3 : Int64))  h0 n0 Z0) hZ (tw hw 57 rfl) (tw hw 56 rfl) (by decide) (by decide)) (g := (mkF m 23 #[.val (.long v), .second] [(.long (v / (3 : Int64)))])) rfl (by rw [hml]; rfl) (argsL := [(.long (v / (3 : Int64)))]) (rest := []) (lenOf pd__28J_29I rfl) rfl (by show 2 * 0 + _ ≤ _; exact Nat.le_of_eq rfl) (hb hby d10_23) (fun _ _ => ⟨rfl, e0, (by decide : 0 + 0 ≤ _), (by decide : 0 + 0 ≤ _)⟩)
  dsimp only [Pt.U, Pt.locs, Pt.cells, Pt.slots] at X231 l231 y231 z231 st231 hQ231
  rw [l231, y231, z231] at X231
  clear l231 y231 z231
  obtain ⟨hr231, N231q, eh231⟩ := hQ231
  rw [hr231] at st231
  clear hr231
  rw [N231q, List.append_nil] at X231
  refine Go.via (st231) ?_
  clear st231
  have e231 : T231.heap = h0 := eh231
  clear X0 e0
  show Go p e below (T231.setTop (mkF m 26 #[.val (.long v), .second] [(.int (bcF (v / (3 : Int64))))])) _
  refine Go.via (fun _ => XS.iconst X231.here hx rfl (hb hby d10_26)) ?_
  refine Go.via (fun _ => XS.icmpNo X231.here hx rfl (hb hby d10_27) rfl (teq (hB.2.2 : (bcF (v / (3 : Int64))) = (1 : Int32))).2) ?_
  show Go p e below (T231.setTop (mkF m 30 #[.val (.long v), .second] [])) _
  refine Go.via (fun _ => XS.iconst X231.here hx rfl (hb hby d10_30)) ?_
  refine Go.via (fun _ => XS.goto X231.here hx rfl (pc0 := 31) (pc' := 35) rfl (hb hby d10_31) (by decide) (by decide)) ?_
  exact Go.fin X231 hlk (v := some (.int (1 : Int32))) (fun h => by rw [Bd.returns] at h; cases h) (fun fs hr => retN X231 hx (t := .boolean) Bd.returns (by simp) (hb hby d10_35) hr) (by rw [e231]; exact ⟨rfl, rfl, rfl⟩) (by decide) (by decide)
theorem d9_0 : decode prog_15_method_1_code 0 = .ok (.aload_n 0, 1) := by decide +kernel
theorem d9_1 : decode prog_15_method_1_code 1 = .ok (.invokespecial 3, 3) := by decide +kernel
theorem d9_4 : decode prog_15_method_1_code 4 = .ok (.lload_n 1, 1) := by decide +kernel
theorem d9_5 : decode prog_15_method_1_code 5 = .ok (.invokestatic 9, 3) := by decide +kernel
theorem pd__28J_29Z : parseMethodDescriptor "(J)Z" = some ⟨[.long], some .boolean⟩ := by decide +kernel
theorem d9_8 : decode prog_15_method_1_code 8 = .ok (.ifCond .ne 17, 3) := by decide +kernel
theorem d9_25 : decode prog_15_method_1_code 25 = .ok (.ldc 22, 2) := by decide +kernel
theorem d9_27 : decode prog_15_method_1_code 27 = .ok (.aload_n 3, 1) := by decide +kernel
theorem d9_28 : decode prog_15_method_1_code 28 = .ok (.bipush 64, 2) := by decide +kernel
theorem d9_30 : decode prog_15_method_1_code 30 = .ok (.invokestatic 24, 3) := by decide +kernel
theorem pd__28Ljava_2flang_2fString_3bLjava_2flang_2fString_3bI_29V : parseMethodDescriptor "(Ljava/lang/String;Ljava/lang/String;I)V" = some ⟨[(.object cST), (.object cST), .int], none⟩ := by decide +kernel
theorem d9_33 : decode prog_15_method_1_code 33 = .ok (.ldc 28, 2) := by decide +kernel
theorem d9_35 : decode prog_15_method_1_code 35 = .ok (.aload 4, 2) := by decide +kernel
theorem d9_37 : decode prog_15_method_1_code 37 = .ok (.bipush 32, 2) := by decide +kernel
theorem d9_39 : decode prog_15_method_1_code 39 = .ok (.invokestatic 24, 3) := by decide +kernel
theorem d9_42 : decode prog_15_method_1_code 42 = .ok (.aload_n 0, 1) := by decide +kernel
theorem d9_43 : decode prog_15_method_1_code 43 = .ok (.lload_n 1, 1) := by decide +kernel
theorem d9_44 : decode prog_15_method_1_code 44 = .ok (.putfield 30, 3) := by decide +kernel
theorem d9_47 : decode prog_15_method_1_code 47 = .ok (.aload_n 0, 1) := by decide +kernel
theorem d9_48 : decode prog_15_method_1_code 48 = .ok (.aload_n 3, 1) := by decide +kernel
theorem d9_49 : decode prog_15_method_1_code 49 = .ok (.putfield 34, 3) := by decide +kernel
theorem d9_52 : decode prog_15_method_1_code 52 = .ok (.aload_n 0, 1) := by decide +kernel
theorem d9_53 : decode prog_15_method_1_code 53 = .ok (.aload 4, 2) := by decide +kernel
theorem d9_55 : decode prog_15_method_1_code 55 = .ok (.putfield 38, 3) := by decide +kernel
theorem d9_58 : decode prog_15_method_1_code 58 = .ok (.return_, 1) := by decide +kernel
theorem pn_9 : plainName cCD = true := by first | (simp [plainName, overriddenIn]; done) | decide +kernel
theorem ef_9 (m : MethodId) (x0 : Addr) (x1 : Int64) (x2 : Addr) (x3 : Addr) : entryFrame m #[(.ref x0), (.long x1), (.ref x2), (.ref x3)] 5 = mkF m 0 #[.val (.ref x0), .val (.long x1), .second, .val (.ref x2), .val (.ref x3)] [] := by first | (simp [entryFrame, mkF, argsToLocals, Value.category]; done) | rfl
def Q_rmDc (Z : State) (f : Addr) (v : Int64) (s1 : Addr) (s2 : Addr) (b1 : Addr) (b2 : Addr) (xs1 : List Int32) (xs2 : List Int32) (cs : Int32) (fv : Value) (h0 : Heap) (n0 : Nat) (vQ : Option Value) (hQ : Heap) (vmQ : Vm) (LQ : List Loc) : Prop := vQ = none ∧ Fr n0 LQ ∧ Keep h0 hQ [f] ∧ Exa Z hQ f cCD ∧ Fld Z hQ f cCD "blockSize" "J" (.long v) ∧ Fld Z hQ f cCD "signature1" "Ljava/lang/String;" (.ref s1) ∧ Fld Z hQ f cCD "signature2" "Ljava/lang/String;" (.ref s2) ∧ Em Z vmQ hQ ["signature 2", "signature 1"]
def V_rmDc (Z : State) (f : Addr) (v : Int64) (s1 : Addr) (s2 : Addr) (b1 : Addr) (b2 : Addr) (xs1 : List Int32) (xs2 : List Int32) (cs : Int32) (fv : Value) (h0 : Heap) (vmV : Vm) : Prop := Em Z vmV h0 ["signature 2", "signature 1"] ∧ True
set_option maxRecDepth 65536 in
set_option maxHeartbeats 40000000 in
theorem rmDc (l : Launch) (Z : State) (a0 : Array Value) (hw : ∀ d ∈ tables_1, d.before a0 Z = true) (ws : List Jvm.Cond) (f : Addr) (v : Int64) (s1 : Addr) (s2 : Addr) (b1 : Addr) (b2 : Addr) (xs1 : List Int32) (xs2 : List Int32) (cs : Int32) (fv : Value) (h0 : Heap) (n0 : Nat) (Z0 : n0 ≤ h0.size) (P0 : Exa Z h0 f cCD) (P1 : Fld Z h0 f cCD "blockSize" "J" (.long (0 : Int64))) (P2 : Fld Z h0 f cCD "signature1" "Ljava/lang/String;" .null) (P3 : Fld Z h0 f cCD "signature2" "Ljava/lang/String;" .null) (P4 : Exa Z h0 s1 cST) (P5 : Fld Z h0 s1 cST "coder" "B" (.int (0 : Int32))) (P6 : Fld Z h0 s1 cST "value" "[B" (.ref b1)) (P7 : Ia Z h0 b1 .byte xs1) (P8 : Exa Z h0 s2 cST) (P9 : Fld Z h0 s2 cST "coder" "B" (.int (0 : Int32))) (P10 : Fld Z h0 s2 cST "value" "[B" (.ref b2)) (P11 : Ia Z h0 b2 .byte xs2) (P12 : Old Z n0 h0) (zCS : Sta Z Z.heap cST "COMPACT_STRINGS" "Z" (.int cs)) (zF : Sta Z Z.heap cPR "SIOOBE_FORMATTER" "Ljava/util/function/BiFunction;" fv) (g_f : n0 ≤ f) (hX1 : Sg xs1) (hX2 : Sg xs2) (hB : Bv v) (hcs : ¬ (cs = (0 : Int32))) (hfv : fv = .null ∨ ∃ fa : Addr, fv = .ref fa) :
    MetFree l (⟨cCD, "<init>", "(JLjava/lang/String;Ljava/lang/String;)V"⟩ : MethodName) (head1 (Jvm.Cond.code (⟨cCD, "<init>", "(JLjava/lang/String;Ljava/lang/String;)V"⟩ : MethodName) prog_15_method_1_code 5 none :: ws) ({ frames := 5, cells := 4, slots := 96, locals := 69 } : Room)) (fun aQ UQ => aQ = #[(.ref f), (.long v), (.ref s1), (.ref s2)] ∧ Z.Warmed39 UQ.vm ∧ UQ.heap = h0 ∧ V_rmDc Z f v s1 s2 b1 b2 xs1 xs2 cs fv h0 UQ.vm) (fun _ _ _ _ _ => True) (fun _ UQ oQ UR => ∃ vQ LQ, oQ = .returned vQ ∧ Q_rmDc Z f v s1 s2 b1 b2 xs1 xs2 cs fv h0 n0 vQ UR.heap UR.vm LQ ∧ ReturnedEndW UQ oQ UR LQ ({ frames := 5, cells := 4, slots := 96, locals := 69 } : Room).cells ({ frames := 5, cells := 4, slots := 96, locals := 69 } : Room).slots) := by
  refine MetFree.of_bodySF (plainFor_of_name pn_9) hisR ?_
  intro p e s m args below meth c s₁ Bd hml0 hP hK
  obtain ⟨rfl, hZ0, hh, hV⟩ := hP
  obtain ⟨I0, -⟩ := hV
  have hx := Bd.exec
  have hby := Bd.bytes
  have hlk := Bd.notSynchronized
  have hml : c.maxLocals = 5 := hml0
  have hnm := (name_of_methodNamed Bd.named Bd.method).1
  have e0 : s₁.heap = h0 := by rw [← hh, Bd.state]; rfl
  have N0 := Fr.nil n0
  have hZ : Z.Warmed39 (s.setVm s.vm).vm := hZ0
  have hown : (s.setVm s.vm).vm.findClass cCD = some m.cls := findClass_of_methodNamed Bd.named
  have X0 : Stand p l e ({ frames := 5, cells := 4, slots := 96, locals := 69 } : Room) (s.setVm s.vm) m #[(.ref f), (.long v), (.ref s1), (.ref s2)] below meth c s₁ [] 0 0 := Stand.of_body Bd
  have hS0 : s.Since s.vm s.heap.size := (State.WarmedH.refl _).since _
  have hk0 : s.heap.size ≤ h0.size := Nat.le_of_eq (congrArg Array.size hh)
  show Go p e below _ (DoneW s (Q_rmDc Z f v s1 s2 b1 b2 xs1 xs2 cs fv h0 n0) ({ frames := 5, cells := 4, slots := 96, locals := 69 } : Room).cells ({ frames := 5, cells := 4, slots := 96, locals := 69 } : Room).slots)
  refine Go.via (fun tQ kQ => castTop (ef_9 m f v s1 s2) kQ) ?_
  show Go p e below (s₁.setTop (mkF m 0 #[.val (.ref f), .val (.long v), .second, .val (.ref s1), .val (.ref s2)] [])) _
  refine Go.via (fun _ => XS.aloadN X0.here hx rfl (hb hby d9_0) rfl rfl) ?_
  obtain ⟨T232, X232, e232, st232⟩ := initO X0 hx hZ hown (tw hw 48 rfl) (tw hw 24 rfl) (tw hw 25 rfl) e0 (g := (mkF m 1 #[.val (.ref f), .val (.long v), .second, .val (.ref s1), .val (.ref s2)] [(.ref f)])) rfl (by rw [hml]; rfl) rfl (hb hby d9_1) (by decide) (W := 0) (by show 2 * 0 + _ ≤ _; exact Nat.le_of_eq rfl) (by decide)
  refine Go.via (st232) ?_
  clear st232
  clear X0 e0
  show Go p e below (T232.setTop (mkF m 4 #[.val (.ref f), .val (.long v), .second, .val (.ref s1), .val (.ref s2)] [])) _
  refine Go.via (fun _ => XS.lloadN X232.here hx rfl (hb hby d9_4) rfl) ?_
  obtain ⟨r233, _, ⟨T233, L233, k233, n233⟩, -, X233, ⟨Lc233, hQ233, l233, y233, z233⟩, st233⟩ := Jvm.LawKit.callS X232 hx (y := (⟨cCD, "isValidBlockSize", "(J)Z"⟩ : MethodName)) hown (mvT hZ (tw hw 49 rfl)) (mvT hZ (tw hw 50 rfl)) (mvT hZ (tw hw 3 rfl)) (mvT hZ (tw hw 51 rfl)) (by decide) (backOf (W := 0) (rmVb l Z a0 hw [] v  h0 n0 Z0 hB) hZ (tw hw 51 rfl) (tw hw 3 rfl) (by decide) (by decide)) (g := (mkF m 5 #[.val (.ref f), .val (.long v), .second, .val (.ref s1), .val (.ref s2)] [(.long v)])) rfl (by rw [hml]; rfl) (argsL := [(.long v)]) (rest := []) (lenOf pd__28J_29Z rfl) rfl (by show 2 * 0 + _ ≤ _; exact Nat.le_of_eq rfl) (hb hby d9_5) (fun _ _ => ⟨rfl, e232, (by decide : 0 + 0 ≤ _), (by decide : 0 + 0 ≤ _)⟩)
  dsimp only [Pt.U, Pt.locs, Pt.cells, Pt.slots] at X233 l233 y233 z233 st233 hQ233
  rw [l233, y233, z233] at X233
  clear l233 y233 z233
  obtain ⟨hr233, N233q, eh233⟩ := hQ233
  rw [hr233] at st233
  clear hr233
  rw [N233q, List.append_nil] at X233
  refine Go.via (st233) ?_
  clear st233
  have e233 : T233.heap = h0 := eh233
  clear X232 e232
  show Go p e below (T233.setTop (mkF m 8 #[.val (.ref f), .val (.long v), .second, .val (.ref s1), .val (.ref s2)] [(.int (1 : Int32))])) _
  refine Go.via (fun _ => XS.ifYes X233.here hx rfl (pc0 := 8) (pc' := 25) rfl (hb hby d9_8) rfl ((if0 _ _).trans (feq ((by decide) : ¬ ((1 : Int32) = (0 : Int32)))).2) (by decide) (by decide)) ?_
  show Go p e below (T233.setTop (mkF m 25 #[.val (.ref f), .val (.long v), .second, .val (.ref s1), .val (.ref s2)] [])) _
  obtain ⟨b234, T234, h234, k1234, X234, e234, E234, hS234, hk234, hZ234, ho234, I234, st234⟩ := ldcT (text := "signature 1") X233 hx hZ hown (tw hw 61 rfl) (wStr hw) e233 hS0 hk0 I0 (by decide) (by decide) (g := (mkF m 25 #[.val (.ref f), .val (.long v), .second, .val (.ref s1), .val (.ref s2)] [])) rfl (hb hby d9_25) (n := 44) (by decide) (by decide) (by decide) (by decide)
  have hZ : Z.Warmed39 (s.setVm T234.vm).vm := hZ234
  have hown : (s.setVm T234.vm).vm.findClass cCD = some m.cls := ho234
  clear hZ234 ho234
  refine Go.via (st234) ?_
  clear st234
  clear X233 e233
  show Go p e below (T234.setTop (mkF m 27 #[.val (.ref f), .val (.long v), .second, .val (.ref s1), .val (.ref s2)] [(.ref b234)])) _
  refine Go.via (fun _ => XS.aloadN X234.here hx rfl (hb hby d9_27) rfl rfl) ?_
  refine Go.via (fun _ => XS.bipush X234.here hx rfl (hb hby d9_28)) ?_
  have f235 : Exa Z h234 s1 cST := (P4.ext E234)
  have f236 : Fld Z h234 s1 cST "coder" "B" (.int (0 : Int32)) := (P5.ext E234)
  have f237 : Fld Z h234 s1 cST "value" "[B" (.ref b1) := (P6.ext E234)
  have f238 : Ia Z h234 b1 .byte xs1 := (P7.ext E234)
  have o239 : Old Z n0 h234 := (P12.ext E234)
  have z241 : n0 ≤ h234.size := (Nat.le_trans Z0 E234.1)
  obtain ⟨r240, _, ⟨T240, L240, k240, n240⟩, -, X240, ⟨Lc240, hQ240, l240, y240, z240⟩, st240⟩ := Jvm.LawKit.callS X234 hx (y := (⟨cCD, "checkSignature", "(Ljava/lang/String;Ljava/lang/String;I)V"⟩ : MethodName)) hown (mvT hZ (tw hw 62 rfl)) (mvT hZ (tw hw 63 rfl)) (mvT hZ (tw hw 3 rfl)) (mvT hZ (tw hw 64 rfl)) (by decide) (backOf (W := 0) (rmCk l Z a0 hw [] b234 s1 (64 : Int32) b1 xs1 cs fv h234 n0 z241 f235 f236 f237 f238 o239 zCS zF hX1 (by first | decide | (simp only [List.length_cons, List.length_nil]; decide) | rfl) (by first | decide | (simp only [List.length_cons, List.length_nil]; decide) | rfl) (by first | decide | (simp only [List.length_cons, List.length_nil]; decide) | rfl) hcs hfv) hZ (tw hw 64 rfl) (tw hw 3 rfl) (by decide) (by decide)) (g := (mkF m 30 #[.val (.ref f), .val (.long v), .second, .val (.ref s1), .val (.ref s2)] [(.int (64 : Int32)), (.ref s1), (.ref b234)])) rfl (by rw [hml]; rfl) (argsL := [(.ref b234), (.ref s1), (.int (64 : Int32))]) (rest := []) (lenOf pd__28Ljava_2flang_2fString_3bLjava_2flang_2fString_3bI_29V rfl) rfl (by show 2 * 0 + _ ≤ _; exact Nat.le_of_eq rfl) (hb hby d9_30) (fun _ _ => ⟨rfl, e234, (by decide : 2 + 0 ≤ _), (by decide : 48 + 0 ≤ _)⟩)
  dsimp only [Pt.U, Pt.locs, Pt.cells, Pt.slots] at X240 l240 y240 z240 st240 hQ240
  rw [l240, y240, z240] at X240
  clear l240 y240 z240
  obtain ⟨hr240, N240q, eh240⟩ := hQ240
  rw [hr240] at st240
  clear hr240
  rw [N240q, List.append_nil] at X240
  refine Go.via (st240) ?_
  clear st240
  have e240 : T240.heap = h234 := eh240
  clear X234 e234
  show Go p e below (T240.setTop (mkF m 33 #[.val (.ref f), .val (.long v), .second, .val (.ref s1), .val (.ref s2)] [])) _
  have k243 : Keep h0 h234 [f] := ((Keep.refl h0 [f]).ext E234)
  obtain ⟨b242, T242, h242, k1242, X242, e242, E242, hS242, hk242, hZ242, ho242, I242, st242⟩ := ldcT (text := "signature 2") X240 hx hZ hown (tw hw 75 rfl) (wStr hw) e240 hS234 hk234 I234 (by decide) (by decide) (g := (mkF m 33 #[.val (.ref f), .val (.long v), .second, .val (.ref s1), .val (.ref s2)] [])) rfl (hb hby d9_33) (n := 44) (by decide) (by decide) (by decide) (by decide)
  have hZ : Z.Warmed39 (s.setVm T242.vm).vm := hZ242
  have hown : (s.setVm T242.vm).vm.findClass cCD = some m.cls := ho242
  clear hZ242 ho242
  refine Go.via (st242) ?_
  clear st242
  clear X240 e240
  show Go p e below (T242.setTop (mkF m 35 #[.val (.ref f), .val (.long v), .second, .val (.ref s1), .val (.ref s2)] [(.ref b242)])) _
  refine Go.via (fun _ => XS.aload X242.here hx rfl (hb hby d9_35) rfl rfl) ?_
  refine Go.via (fun _ => XS.bipush X242.here hx rfl (hb hby d9_37)) ?_
  have f244 : Exa Z h242 s2 cST := ((P8.ext E234).ext E242)
  have f245 : Fld Z h242 s2 cST "coder" "B" (.int (0 : Int32)) := ((P9.ext E234).ext E242)
  have f246 : Fld Z h242 s2 cST "value" "[B" (.ref b2) := ((P10.ext E234).ext E242)
  have f247 : Ia Z h242 b2 .byte xs2 := ((P11.ext E234).ext E242)
  have o248 : Old Z n0 h242 := (o239.ext E242)
  have z250 : n0 ≤ h242.size := (Nat.le_trans z241 E242.1)
  obtain ⟨r249, _, ⟨T249, L249, k249, n249⟩, -, X249, ⟨Lc249, hQ249, l249, y249, z249⟩, st249⟩ := Jvm.LawKit.callS X242 hx (y := (⟨cCD, "checkSignature", "(Ljava/lang/String;Ljava/lang/String;I)V"⟩ : MethodName)) hown (mvT hZ (tw hw 62 rfl)) (mvT hZ (tw hw 63 rfl)) (mvT hZ (tw hw 3 rfl)) (mvT hZ (tw hw 64 rfl)) (by decide) (backOf (W := 0) (rmCk l Z a0 hw [] b242 s2 (32 : Int32) b2 xs2 cs fv h242 n0 z250 f244 f245 f246 f247 o248 zCS zF hX2 (by first | decide | (simp only [List.length_cons, List.length_nil]; decide) | rfl) (by first | decide | (simp only [List.length_cons, List.length_nil]; decide) | rfl) (by first | decide | (simp only [List.length_cons, List.length_nil]; decide) | rfl) hcs hfv) hZ (tw hw 64 rfl) (tw hw 3 rfl) (by decide) (by decide)) (g := (mkF m 39 #[.val (.ref f), .val (.long v), .second, .val (.ref s1), .val (.ref s2)] [(.int (32 : Int32)), (.ref s2), (.ref b242)])) rfl (by rw [hml]; rfl) (argsL := [(.ref b242), (.ref s2), (.int (32 : Int32))]) (rest := []) (lenOf pd__28Ljava_2flang_2fString_3bLjava_2flang_2fString_3bI_29V rfl) rfl (by show 2 * 0 + _ ≤ _; exact Nat.le_of_eq rfl) (hb hby d9_39) (fun _ _ => ⟨rfl, e242, (by decide : 4 + 0 ≤ _), (by decide : 96 + 0 ≤ _)⟩)
  dsimp only [Pt.U, Pt.locs, Pt.cells, Pt.slots] at X249 l249 y249 z249 st249 hQ249
  rw [l249, y249, z249] at X249
  clear l249 y249 z249
  obtain ⟨hr249, N249q, eh249⟩ := hQ249
  rw [hr249] at st249
  clear hr249
  rw [N249q, List.append_nil] at X249
  refine Go.via (st249) ?_
  clear st249
  have e249 : T249.heap = h242 := eh249
  clear X242 e242
  show Go p e below (T249.setTop (mkF m 42 #[.val (.ref f), .val (.long v), .second, .val (.ref s1), .val (.ref s2)] [])) _
  refine Go.via (fun _ => XS.aloadN X249.here hx rfl (hb hby d9_42) rfl rfl) ?_
  refine Go.via (fun _ => XS.lloadN X249.here hx rfl (hb hby d9_43) rfl) ?_
  have f251 : Fld Z h242 f cCD "blockSize" "J" (.long (0 : Int64)) := ((P1.ext E234).ext E242)
  have f252 : Exa Z h242 f cCD := ((P0.ext E234).ext E242)
  obtain ⟨T253, h253, X253, e253, W253, st253⟩ := putF X249 hx hZ hown (host := "") (Or.inl (tw hw 101 rfl)) Via.refl e249 f251 f252 (Or.inr ⟨(tw hw 102 rfl), rfl, hnm⟩) (tw hw 2 rfl) (ty := .long) (by decide) rfl rfl (g := (mkF m 44 #[.val (.ref f), .val (.long v), .second, .val (.ref s1), .val (.ref s2)] [(.long v), (.ref f)])) rfl rfl (hb hby d9_44)
  refine Go.via (st253) ?_
  clear st253
  have N253 := Fr.snoc X253 N0 g_f
  have f254 : Fld Z h253 f cCD "blockSize" "J" (.long v) := f251.same W253
  clear X249 e249
  show Go p e below (T253.setTop (mkF m 47 #[.val (.ref f), .val (.long v), .second, .val (.ref s1), .val (.ref s2)] [])) _
  refine Go.via (fun _ => XS.aloadN X253.here hx rfl (hb hby d9_47) rfl rfl) ?_
  refine Go.via (fun _ => XS.aloadN X253.here hx rfl (hb hby d9_48) rfl rfl) ?_
  have f255 : Fld Z h253 f cCD "signature1" "Ljava/lang/String;" .null := (((P2.ext E234).ext E242).other W253 (Or.inr (slot_ne (Or.inr (tw hw 104 rfl)) (Or.inr (tw hw 102 rfl)) (by decide) (t := (.object cST)) (t' := .long) (by decide) (by decide))))
  have f256 : Exa Z h253 f cCD := (f252.wr W253)
  obtain ⟨T257, h257, X257, e257, W257, st257⟩ := putF X253 hx hZ hown (host := "") (Or.inl (tw hw 103 rfl)) Via.refl e253 f255 f256 (Or.inr ⟨(tw hw 104 rfl), rfl, hnm⟩) (tw hw 2 rfl) (ty := (.object cST)) (by decide) rfl rfl (g := (mkF m 49 #[.val (.ref f), .val (.long v), .second, .val (.ref s1), .val (.ref s2)] [(.ref s1), (.ref f)])) rfl rfl (hb hby d9_49)
  refine Go.via (st257) ?_
  clear st257
  have N257 := Fr.snoc X257 N253 g_f
  have f258 : Fld Z h257 f cCD "signature1" "Ljava/lang/String;" (.ref s1) := f255.same W257
  clear X253 e253
  show Go p e below (T257.setTop (mkF m 52 #[.val (.ref f), .val (.long v), .second, .val (.ref s1), .val (.ref s2)] [])) _
  refine Go.via (fun _ => XS.aloadN X257.here hx rfl (hb hby d9_52) rfl rfl) ?_
  refine Go.via (fun _ => XS.aload X257.here hx rfl (hb hby d9_53) rfl rfl) ?_
  have f259 : Fld Z h257 f cCD "signature2" "Ljava/lang/String;" .null := ((((P3.ext E234).ext E242).other W253 (Or.inr (slot_ne (Or.inr (tw hw 106 rfl)) (Or.inr (tw hw 102 rfl)) (by decide) (t := (.object cST)) (t' := .long) (by decide) (by decide)))).other W257 (Or.inr (slot_ne (Or.inr (tw hw 106 rfl)) (Or.inr (tw hw 104 rfl)) (by decide) (t := (.object cST)) (t' := (.object cST)) (by decide) (by decide))))
  have f260 : Exa Z h257 f cCD := (f256.wr W257)
  obtain ⟨T261, h261, X261, e261, W261, st261⟩ := putF X257 hx hZ hown (host := "") (Or.inl (tw hw 105 rfl)) Via.refl e257 f259 f260 (Or.inr ⟨(tw hw 106 rfl), rfl, hnm⟩) (tw hw 2 rfl) (ty := (.object cST)) (by decide) rfl rfl (g := (mkF m 55 #[.val (.ref f), .val (.long v), .second, .val (.ref s1), .val (.ref s2)] [(.ref s2), (.ref f)])) rfl rfl (hb hby d9_55)
  refine Go.via (st261) ?_
  clear st261
  have N261 := Fr.snoc X261 N257 g_f
  have f262 : Fld Z h261 f cCD "signature2" "Ljava/lang/String;" (.ref s2) := f259.same W261
  clear X257 e257
  show Go p e below (T261.setTop (mkF m 58 #[.val (.ref f), .val (.long v), .second, .val (.ref s1), .val (.ref s2)] [])) _
  have k263 : Keep h0 h261 [f] := ((((k243.ext E242).wr W253 (Or.inl (List.mem_of_getElem? (i := 0) rfl))).wr W257 (Or.inl (List.mem_of_getElem? (i := 0) rfl))).wr W261 (Or.inl (List.mem_of_getElem? (i := 0) rfl)))
  have f264 : Exa Z h261 f cCD := (f260.wr W261)
  have f265 : Fld Z h261 f cCD "blockSize" "J" (.long v) := ((f254.other W257 (Or.inr (slot_ne (Or.inr (tw hw 102 rfl)) (Or.inr (tw hw 104 rfl)) (by decide) (t := .long) (t' := (.object cST)) (by decide) (by decide)))).other W261 (Or.inr (slot_ne (Or.inr (tw hw 102 rfl)) (Or.inr (tw hw 106 rfl)) (by decide) (t := .long) (t' := (.object cST)) (by decide) (by decide))))
  have f266 : Fld Z h261 f cCD "signature1" "Ljava/lang/String;" (.ref s1) := (f258.other W261 (Or.inr (slot_ne (Or.inr (tw hw 104 rfl)) (Or.inr (tw hw 106 rfl)) (by decide) (t := (.object cST)) (t' := (.object cST)) (by decide) (by decide))))
  have em267 : Em Z T242.vm h261 ["signature 2", "signature 1"] := (Em.wr (a0 := a0) (Em.wr (a0 := a0) (Em.wr (a0 := a0) I242 W253 f252 (by decide) (tw hw 2 rfl)) W257 f256 (by decide) (tw hw 2 rfl)) W261 f260 (by decide) (tw hw 2 rfl))
  have hk268 : _ ≤ h261.size := (Nat.le_trans (Nat.le_trans (Nat.le_trans hk242 (Keep.of_wr W253).1) (Keep.of_wr W257).1) (Keep.of_wr W261).1)
  exact Go.finW X261 hS242 (Nat.le_trans hk268 (Nat.le_of_eq (congrArg Array.size (Eq.symm e261)))) hlk (v := none) (fun _ => rfl) (fun fs hr => X261.returnOut hx Bd.returns (hb hby d9_58) hr) (by rw [e261]; exact ⟨rfl, N261, k263, f264, f265, f266, f262, Em.still em267 X261.warmed.interned_eq (w39 X261.warmed.wide)⟩) (by decide) (by decide)
theorem d22_0 : decode prog_15_method_7_code 0 = .ok (.aload_n 0, 1) := by decide +kernel
theorem d22_1 : decode prog_15_method_7_code 1 = .ok (.aload_n 1, 1) := by decide +kernel
theorem d22_2 : decode prog_15_method_7_code 2 = .ok (.if_acmp .ne 5, 3) := by decide +kernel
theorem d22_7 : decode prog_15_method_7_code 7 = .ok (.aload_n 1, 1) := by decide +kernel
theorem d22_8 : decode prog_15_method_7_code 8 = .ok (.instanceof 1, 3) := by decide +kernel
theorem d22_11 : decode prog_15_method_7_code 11 = .ok (.ifCond .ne 5, 3) := by decide +kernel
theorem d22_16 : decode prog_15_method_7_code 16 = .ok (.aload_n 1, 1) := by decide +kernel
theorem d22_17 : decode prog_15_method_7_code 17 = .ok (.checkcast 1, 3) := by decide +kernel
theorem d22_20 : decode prog_15_method_7_code 20 = .ok (.astore_n 2, 1) := by decide +kernel
theorem d22_21 : decode prog_15_method_7_code 21 = .ok (.aload_n 0, 1) := by decide +kernel
theorem d22_22 : decode prog_15_method_7_code 22 = .ok (.getfield 30, 3) := by decide +kernel
theorem d22_25 : decode prog_15_method_7_code 25 = .ok (.aload_n 2, 1) := by decide +kernel
theorem d22_26 : decode prog_15_method_7_code 26 = .ok (.getfield 30, 3) := by decide +kernel
theorem d22_29 : decode prog_15_method_7_code 29 = .ok (.lcmp, 1) := by decide +kernel
theorem d22_30 : decode prog_15_method_7_code 30 = .ok (.ifCond .ne 35, 3) := by decide +kernel
theorem d22_33 : decode prog_15_method_7_code 33 = .ok (.aload_n 0, 1) := by decide +kernel
theorem d22_34 : decode prog_15_method_7_code 34 = .ok (.getfield 34, 3) := by decide +kernel
theorem d22_37 : decode prog_15_method_7_code 37 = .ok (.aload_n 2, 1) := by decide +kernel
theorem d22_38 : decode prog_15_method_7_code 38 = .ok (.getfield 34, 3) := by decide +kernel
theorem d22_41 : decode prog_15_method_7_code 41 = .ok (.invokevirtual 69, 3) := by decide +kernel
theorem pd__28Ljava_2flang_2fObject_3b_29Z : parseMethodDescriptor "(Ljava/lang/Object;)Z" = some ⟨[(.object "java/lang/Object")], some .boolean⟩ := by decide +kernel
theorem d22_44 : decode prog_15_method_7_code 44 = .ok (.ifCond .eq 21, 3) := by decide +kernel
theorem d22_65 : decode prog_15_method_7_code 65 = .ok (.iconst 0, 1) := by decide +kernel
theorem d22_66 : decode prog_15_method_7_code 66 = .ok (.ireturn, 1) := by decide +kernel
theorem d22_47 : decode prog_15_method_7_code 47 = .ok (.aload_n 0, 1) := by decide +kernel
theorem d22_48 : decode prog_15_method_7_code 48 = .ok (.getfield 38, 3) := by decide +kernel
theorem d22_51 : decode prog_15_method_7_code 51 = .ok (.aload_n 2, 1) := by decide +kernel
theorem d22_52 : decode prog_15_method_7_code 52 = .ok (.getfield 38, 3) := by decide +kernel
theorem d22_55 : decode prog_15_method_7_code 55 = .ok (.invokevirtual 69, 3) := by decide +kernel
theorem d22_58 : decode prog_15_method_7_code 58 = .ok (.ifCond .eq 7, 3) := by decide +kernel
theorem d22_61 : decode prog_15_method_7_code 61 = .ok (.iconst 1, 1) := by decide +kernel
theorem d22_62 : decode prog_15_method_7_code 62 = .ok (.goto 4, 3) := by decide +kernel
theorem pn_22 : plainName cCD = true := by first | (simp [plainName, overriddenIn]; done) | decide +kernel
theorem ef_22 (m : MethodId) (x0 : Addr) (x1 : Addr) : entryFrame m #[(.ref x0), (.ref x1)] 3 = mkF m 0 #[.val (.ref x0), .val (.ref x1), .unset] [] := by first | (simp [entryFrame, mkF, argsToLocals, Value.category]; done) | rfl
def Q_rmEo (Z : State) (f : Addr) (g_ : Addr) (v : Int64) (w : Int64) (s1 : Addr) (s2 : Addr) (t1 : Addr) (t2 : Addr) (b1 : Addr) (b2 : Addr) (c1 : Addr) (c2 : Addr) (xs : List Int32) (us : List Int32) (ys : List Int32) (vs : List Int32) (cs : Int32) (h0 : Heap) (n0 : Nat) (vQ : Option Value) (hQ : Heap) (LQ : List Loc) : Prop := vQ = some (.int (eqF v w xs ys us vs)) ∧ LQ = [] ∧ hQ = h0
set_option maxRecDepth 65536 in
set_option maxHeartbeats 40000000 in
theorem rmEo (l : Launch) (Z : State) (a0 : Array Value) (hw : ∀ d ∈ tables_1, d.before a0 Z = true) (ws : List Jvm.Cond) (f : Addr) (g_ : Addr) (v : Int64) (w : Int64) (s1 : Addr) (s2 : Addr) (t1 : Addr) (t2 : Addr) (b1 : Addr) (b2 : Addr) (c1 : Addr) (c2 : Addr) (xs : List Int32) (us : List Int32) (ys : List Int32) (vs : List Int32) (cs : Int32) (h0 : Heap) (n0 : Nat) (Z0 : n0 ≤ h0.size) (P0 : Exa Z h0 f cCD) (P1 : Fld Z h0 f cCD "blockSize" "J" (.long v)) (P2 : Fld Z h0 f cCD "signature1" "Ljava/lang/String;" (.ref s1)) (P3 : Fld Z h0 f cCD "signature2" "Ljava/lang/String;" (.ref s2)) (P4 : Exa Z h0 g_ cCD) (P5 : Fld Z h0 g_ cCD "blockSize" "J" (.long w)) (P6 : Fld Z h0 g_ cCD "signature1" "Ljava/lang/String;" (.ref t1)) (P7 : Fld Z h0 g_ cCD "signature2" "Ljava/lang/String;" (.ref t2)) (P8 : Exa Z h0 s1 cST) (P9 : Fld Z h0 s1 cST "coder" "B" (.int (0 : Int32))) (P10 : Fld Z h0 s1 cST "value" "[B" (.ref b1)) (P11 : Ia Z h0 b1 .byte xs) (P12 : Exa Z h0 s2 cST) (P13 : Fld Z h0 s2 cST "coder" "B" (.int (0 : Int32))) (P14 : Fld Z h0 s2 cST "value" "[B" (.ref b2)) (P15 : Ia Z h0 b2 .byte us) (P16 : Exa Z h0 t1 cST) (P17 : Fld Z h0 t1 cST "coder" "B" (.int (0 : Int32))) (P18 : Fld Z h0 t1 cST "value" "[B" (.ref c1)) (P19 : Ia Z h0 c1 .byte ys) (P20 : Exa Z h0 t2 cST) (P21 : Fld Z h0 t2 cST "coder" "B" (.int (0 : Int32))) (P22 : Fld Z h0 t2 cST "value" "[B" (.ref c2)) (P23 : Ia Z h0 c2 .byte vs) (P24 : Old Z n0 h0) (zCS : Sta Z Z.heap cST "COMPACT_STRINGS" "Z" (.int cs)) (hfg : f ≠ g_) (h1 : s1 ≠ t1) (h2 : s2 ≠ t2) (hX : Sh xs) (hY : Sh ys) (hU : Sh us) (hV_ : Sh vs) (hcs : ¬ (cs = (0 : Int32))) :
    MetFree l (⟨cCD, "equals", "(Ljava/lang/Object;)Z"⟩ : MethodName) (head1 (Jvm.Cond.code (⟨cCD, "equals", "(Ljava/lang/Object;)Z"⟩ : MethodName) prog_15_method_7_code 3 (some .boolean) :: ws) ({ frames := 2, cells := 0, slots := 0, locals := 28 } : Room)) (fun aQ UQ => aQ = #[(.ref f), (.ref g_)] ∧ Z.Warmed39 UQ.vm ∧ UQ.heap = h0) (fun _ _ _ _ _ => True) (fun _ UQ oQ UR => ∃ vQ LQ, oQ = .returned vQ ∧ Q_rmEo Z f g_ v w s1 s2 t1 t2 b1 b2 c1 c2 xs us ys vs cs h0 n0 vQ UR.heap LQ ∧ FrameEnd UQ oQ UR LQ ({ frames := 2, cells := 0, slots := 0, locals := 28 } : Room).cells ({ frames := 2, cells := 0, slots := 0, locals := 28 } : Room).slots) := by
  refine MetFree.of_bodySF (plainFor_of_name pn_22) hisR ?_
  intro p e s m args below meth c s₁ Bd hml0 hP hK
  obtain ⟨rfl, hZ, hh⟩ := hP
  have hx := Bd.exec
  have hby := Bd.bytes
  have hlk := Bd.notSynchronized
  have hml : c.maxLocals = 3 := hml0
  have hown : s.vm.findClass cCD = some m.cls := findClass_of_methodNamed Bd.named
  have hnm := (name_of_methodNamed Bd.named Bd.method).1
  have X0 : Stand p l e ({ frames := 2, cells := 0, slots := 0, locals := 28 } : Room) s m #[(.ref f), (.ref g_)] below meth c s₁ [] 0 0 := Stand.of_body Bd
  have e0 : s₁.heap = h0 := by rw [← hh, Bd.state]; rfl
  have N0 := Fr.nil n0
  show Go p e below _ (Done s (Q_rmEo Z f g_ v w s1 s2 t1 t2 b1 b2 c1 c2 xs us ys vs cs h0 n0) ({ frames := 2, cells := 0, slots := 0, locals := 28 } : Room).cells ({ frames := 2, cells := 0, slots := 0, locals := 28 } : Room).slots)
  refine Go.via (fun tQ kQ => castTop (ef_22 m f g_) kQ) ?_
  show Go p e below (s₁.setTop (mkF m 0 #[.val (.ref f), .val (.ref g_), .unset] [])) _
  refine Go.via (fun _ => XS.aloadN X0.here hx rfl (hb hby d22_0) rfl rfl) ?_
  refine Go.via (fun _ => XS.aloadN X0.here hx rfl (hb hby d22_1) rfl rfl) ?_
  refine Go.via (fun _ => Jvm.RoadKit.acmp (g := (mkF m 2 #[.val (.ref f), .val (.ref g_), .unset] [(.ref g_), (.ref f)])) X0 hx rfl rfl rfl (pc0 := 2) (pc' := 7) (same := false) rfl (hb hby d22_2) rfl (decide_eq_false fun q => hfg (Value.ref.inj q)) (by decide) (by decide)) ?_
  show Go p e below (s₁.setTop (mkF m 7 #[.val (.ref f), .val (.ref g_), .unset] [])) _
  refine Go.via (fun _ => XS.aloadN X0.here hx rfl (hb hby d22_7) rfl rfl) ?_
  obtain ⟨T269, X269, e269, st269⟩ := instY X0 hx hZ hown (tw hw 115 rfl) e0 (Ins.self P4) (g := (mkF m 8 #[.val (.ref f), .val (.ref g_), .unset] [(.ref g_)])) rfl rfl (hb hby d22_8)
  refine Go.via (st269) ?_
  clear st269
  clear X0 e0
  show Go p e below (T269.setTop (mkF m 11 #[.val (.ref f), .val (.ref g_), .unset] [(.int (1 : Int32))])) _
  refine Go.via (fun _ => XS.ifYes X269.here hx rfl (pc0 := 11) (pc' := 16) rfl (hb hby d22_11) rfl ((if0 _ _).trans (feq ((by decide) : ¬ ((1 : Int32) = (0 : Int32)))).2) (by decide) (by decide)) ?_
  show Go p e below (T269.setTop (mkF m 16 #[.val (.ref f), .val (.ref g_), .unset] [])) _
  refine Go.via (fun _ => XS.aloadN X269.here hx rfl (hb hby d22_16) rfl rfl) ?_
  obtain ⟨T270, X270, e270, st270⟩ := castY X269 hx hZ hown (tw hw 115 rfl) e269 (Ins.self P4) (g := (mkF m 17 #[.val (.ref f), .val (.ref g_), .unset] [(.ref g_)])) rfl rfl (hb hby d22_17)
  refine Go.via (st270) ?_
  clear st270
  clear X269 e269
  show Go p e below (T270.setTop (mkF m 20 #[.val (.ref f), .val (.ref g_), .unset] [(.ref g_)])) _
  refine Go.via (fun _ => XS.astoreN X270.here hx rfl (hb hby d22_20) rfl rfl (l' := #[.val (.ref f), .val (.ref g_), .val (.ref g_)]) rfl) ?_
  show Go p e below (T270.setTop (mkF m 21 #[.val (.ref f), .val (.ref g_), .val (.ref g_)] [])) _
  refine Go.via (fun _ => XS.aloadN X270.here hx rfl (hb hby d22_21) rfl rfl) ?_
  obtain ⟨T271, X271, e271, st271⟩ := getF X270 hx hZ hown (host := "") (Or.inl (tw hw 101 rfl)) Via.refl e270 P1 (g := (mkF m 22 #[.val (.ref f), .val (.ref g_), .val (.ref g_)] [(.ref f)])) rfl rfl (hb hby d22_22)
  refine Go.via (st271) ?_
  clear st271
  clear X270 e270
  show Go p e below (T271.setTop (mkF m 25 #[.val (.ref f), .val (.ref g_), .val (.ref g_)] [(.long v)])) _
  refine Go.via (fun _ => XS.aloadN X271.here hx rfl (hb hby d22_25) rfl rfl) ?_
  obtain ⟨T272, X272, e272, st272⟩ := getF X271 hx hZ hown (host := "") (Or.inl (tw hw 101 rfl)) Via.refl e271 P5 (g := (mkF m 26 #[.val (.ref f), .val (.ref g_), .val (.ref g_)] [(.ref g_), (.long v)])) rfl rfl (hb hby d22_26)
  refine Go.via (st272) ?_
  clear st272
  clear X271 e271
  show Go p e below (T272.setTop (mkF m 29 #[.val (.ref f), .val (.ref g_), .val (.ref g_)] [(.long w), (.long v)])) _
  refine Go.via (fun _ => XS.lcmp X272.here hx rfl (hb hby d22_29) rfl) ?_
  show Go p e below (T272.setTop (mkF m 30 #[.val (.ref f), .val (.ref g_), .val (.ref g_)] [(.int (lcmpW v w))])) _
  by_cases hc273 : (lcmpW v w) = (0 : Int32)
  · refine Go.via (fun _ => XS.ifNo X272.here hx rfl (hb hby d22_30) rfl ((if0 _ _).trans (teq (hc273 : (lcmpW v w) = (0 : Int32))).2)) ?_
    show Go p e below (T272.setTop (mkF m 33 #[.val (.ref f), .val (.ref g_), .val (.ref g_)] [])) _
    refine Go.via (fun _ => XS.aloadN X272.here hx rfl (hb hby d22_33) rfl rfl) ?_
    obtain ⟨T274, X274, e274, st274⟩ := getF X272 hx hZ hown (host := "") (Or.inl (tw hw 103 rfl)) Via.refl e272 P2 (g := (mkF m 34 #[.val (.ref f), .val (.ref g_), .val (.ref g_)] [(.ref f)])) rfl rfl (hb hby d22_34)
    refine Go.via (st274) ?_
    clear st274
    clear X272 e272
    show Go p e below (T274.setTop (mkF m 37 #[.val (.ref f), .val (.ref g_), .val (.ref g_)] [(.ref s1)])) _
    refine Go.via (fun _ => XS.aloadN X274.here hx rfl (hb hby d22_37) rfl rfl) ?_
    obtain ⟨T275, X275, e275, st275⟩ := getF X274 hx hZ hown (host := "") (Or.inl (tw hw 103 rfl)) Via.refl e274 P6 (g := (mkF m 38 #[.val (.ref f), .val (.ref g_), .val (.ref g_)] [(.ref g_), (.ref s1)])) rfl rfl (hb hby d22_38)
    refine Go.via (st275) ?_
    clear st275
    clear X274 e274
    show Go p e below (T275.setTop (mkF m 41 #[.val (.ref f), .val (.ref g_), .val (.ref g_)] [(.ref t1), (.ref s1)])) _
    obtain ⟨cq276, kq276, q276a, q276b, q276c⟩ := isOf hZ e275 P8
    obtain ⟨r276, _, ⟨T276, L276, k276, n276⟩, -, X276, ⟨Lc276, hQ276, l276, y276, z276⟩, st276⟩ := X275.virtualBack hx (y := (⟨cST, "equals", "(Ljava/lang/Object;)Z"⟩ : MethodName)) (z := (⟨cST, "equals", "(Ljava/lang/Object;)Z"⟩ : MethodName)) hown (mvT hZ (tw hw 117 rfl)) (mvT hZ (tw hw 118 rfl)) (notFace_of_selects (args := #[]) (mvT hZ (tw hw 120 rfl))) (mvT hZ (tw hw 120 rfl)) (mvT hZ (tw hw 119 rfl)) (by decide) (backOf (W := 0) (rmSe l Z a0 hw [] s1 t1 cs b1 c1 xs ys h0 n0 Z0 P8 P9 P10 P11 P16 P17 P18 P19 P24 zCS h1 hX hY hcs) hZ (tw hw 121 rfl) (tw hw 14 rfl) (by decide) (by decide)) q276a q276c (g := (mkF m 41 #[.val (.ref f), .val (.ref g_), .val (.ref g_)] [(.ref t1), (.ref s1)])) rfl (by rw [hml]; rfl) (Steps.refl _) (argsL := [(.ref t1)]) (rest := []) (lenOf pd__28Ljava_2flang_2fObject_3b_29Z rfl) rfl (by show 2 * 0 + _ ≤ _; exact Nat.le_of_eq rfl) (hb hby d22_41) (fun _ _ => ⟨rfl, e275, (by decide : 0 + 0 ≤ _), (by decide : 0 + 0 ≤ _)⟩)
    dsimp only [Pt.U, Pt.locs, Pt.cells, Pt.slots] at X276 l276 y276 z276 st276 hQ276
    rw [l276, y276, z276] at X276
    clear l276 y276 z276
    obtain ⟨hr276, N276q, eh276⟩ := hQ276
    rw [hr276] at st276
    clear hr276
    rw [N276q, List.append_nil] at X276
    refine Go.via (fun _ kQ => st276.trans kQ) ?_
    clear st276
    have e276 : T276.heap = h0 := eh276
    clear X275 e275
    show Go p e below (T276.setTop (mkF m 44 #[.val (.ref f), .val (.ref g_), .val (.ref g_)] [(.int (seF xs ys))])) _
    by_cases hc277 : (seF xs ys) = (0 : Int32)
    · refine Go.via (fun _ => XS.ifYes X276.here hx rfl (pc0 := 44) (pc' := 65) rfl (hb hby d22_44) rfl ((if0 _ _).trans (teq (hc277 : (seF xs ys) = (0 : Int32))).1) (by decide) (by decide)) ?_
      show Go p e below (T276.setTop (mkF m 65 #[.val (.ref f), .val (.ref g_), .val (.ref g_)] [])) _
      refine Go.via (fun _ => XS.iconst X276.here hx rfl (hb hby d22_65)) ?_
      exact Go.fin X276 hlk (v := some (.int (0 : Int32))) (fun h => by rw [Bd.returns] at h; cases h) (fun fs hr => retN X276 hx (t := .boolean) Bd.returns (by simp) (hb hby d22_66) hr) (by rw [e276]; exact ⟨(congrArg (fun qq => some (Value.int qq)) (Eq.symm ((if_pos hc273).trans ((if_pos hc277).trans rfl)))), rfl, rfl⟩) (by decide) (by decide)
    · refine Go.via (fun _ => XS.ifNo X276.here hx rfl (hb hby d22_44) rfl ((if0 _ _).trans (feq (hc277 : ¬ ((seF xs ys) = (0 : Int32)))).1)) ?_
      show Go p e below (T276.setTop (mkF m 47 #[.val (.ref f), .val (.ref g_), .val (.ref g_)] [])) _
      refine Go.via (fun _ => XS.aloadN X276.here hx rfl (hb hby d22_47) rfl rfl) ?_
      obtain ⟨T278, X278, e278, st278⟩ := getF X276 hx hZ hown (host := "") (Or.inl (tw hw 105 rfl)) Via.refl e276 P3 (g := (mkF m 48 #[.val (.ref f), .val (.ref g_), .val (.ref g_)] [(.ref f)])) rfl rfl (hb hby d22_48)
      refine Go.via (st278) ?_
      clear st278
      clear X276 e276
      show Go p e below (T278.setTop (mkF m 51 #[.val (.ref f), .val (.ref g_), .val (.ref g_)] [(.ref s2)])) _
      refine Go.via (fun _ => XS.aloadN X278.here hx rfl (hb hby d22_51) rfl rfl) ?_
      obtain ⟨T279, X279, e279, st279⟩ := getF X278 hx hZ hown (host := "") (Or.inl (tw hw 105 rfl)) Via.refl e278 P7 (g := (mkF m 52 #[.val (.ref f), .val (.ref g_), .val (.ref g_)] [(.ref g_), (.ref s2)])) rfl rfl (hb hby d22_52)
      refine Go.via (st279) ?_
      clear st279
      clear X278 e278
      show Go p e below (T279.setTop (mkF m 55 #[.val (.ref f), .val (.ref g_), .val (.ref g_)] [(.ref t2), (.ref s2)])) _
      obtain ⟨cq280, kq280, q280a, q280b, q280c⟩ := isOf hZ e279 P12
      obtain ⟨r280, _, ⟨T280, L280, k280, n280⟩, -, X280, ⟨Lc280, hQ280, l280, y280, z280⟩, st280⟩ := X279.virtualBack hx (y := (⟨cST, "equals", "(Ljava/lang/Object;)Z"⟩ : MethodName)) (z := (⟨cST, "equals", "(Ljava/lang/Object;)Z"⟩ : MethodName)) hown (mvT hZ (tw hw 117 rfl)) (mvT hZ (tw hw 118 rfl)) (notFace_of_selects (args := #[]) (mvT hZ (tw hw 120 rfl))) (mvT hZ (tw hw 120 rfl)) (mvT hZ (tw hw 119 rfl)) (by decide) (backOf (W := 0) (rmSe l Z a0 hw [] s2 t2 cs b2 c2 us vs h0 n0 Z0 P12 P13 P14 P15 P20 P21 P22 P23 P24 zCS h2 hU hV_ hcs) hZ (tw hw 121 rfl) (tw hw 14 rfl) (by decide) (by decide)) q280a q280c (g := (mkF m 55 #[.val (.ref f), .val (.ref g_), .val (.ref g_)] [(.ref t2), (.ref s2)])) rfl (by rw [hml]; rfl) (Steps.refl _) (argsL := [(.ref t2)]) (rest := []) (lenOf pd__28Ljava_2flang_2fObject_3b_29Z rfl) rfl (by show 2 * 0 + _ ≤ _; exact Nat.le_of_eq rfl) (hb hby d22_55) (fun _ _ => ⟨rfl, e279, (by decide : 0 + 0 ≤ _), (by decide : 0 + 0 ≤ _)⟩)
      dsimp only [Pt.U, Pt.locs, Pt.cells, Pt.slots] at X280 l280 y280 z280 st280 hQ280
      rw [l280, y280, z280] at X280
      clear l280 y280 z280
      obtain ⟨hr280, N280q, eh280⟩ := hQ280
      rw [hr280] at st280
      clear hr280
      rw [N280q, List.append_nil] at X280
      refine Go.via (fun _ kQ => st280.trans kQ) ?_
      clear st280
      have e280 : T280.heap = h0 := eh280
      clear X279 e279
      show Go p e below (T280.setTop (mkF m 58 #[.val (.ref f), .val (.ref g_), .val (.ref g_)] [(.int (seF us vs))])) _
      by_cases hc281 : (seF us vs) = (0 : Int32)
      · refine Go.via (fun _ => XS.ifYes X280.here hx rfl (pc0 := 58) (pc' := 65) rfl (hb hby d22_58) rfl ((if0 _ _).trans (teq (hc281 : (seF us vs) = (0 : Int32))).1) (by decide) (by decide)) ?_
        show Go p e below (T280.setTop (mkF m 65 #[.val (.ref f), .val (.ref g_), .val (.ref g_)] [])) _
        refine Go.via (fun _ => XS.iconst X280.here hx rfl (hb hby d22_65)) ?_
        exact Go.fin X280 hlk (v := some (.int (0 : Int32))) (fun h => by rw [Bd.returns] at h; cases h) (fun fs hr => retN X280 hx (t := .boolean) Bd.returns (by simp) (hb hby d22_66) hr) (by rw [e280]; exact ⟨(congrArg (fun qq => some (Value.int qq)) (Eq.symm ((if_pos hc273).trans ((if_neg hc277).trans ((if_pos hc281).trans rfl))))), rfl, rfl⟩) (by decide) (by decide)
      · refine Go.via (fun _ => XS.ifNo X280.here hx rfl (hb hby d22_58) rfl ((if0 _ _).trans (feq (hc281 : ¬ ((seF us vs) = (0 : Int32)))).1)) ?_
        show Go p e below (T280.setTop (mkF m 61 #[.val (.ref f), .val (.ref g_), .val (.ref g_)] [])) _
        refine Go.via (fun _ => XS.iconst X280.here hx rfl (hb hby d22_61)) ?_
        refine Go.via (fun _ => XS.goto X280.here hx rfl (pc0 := 62) (pc' := 66) rfl (hb hby d22_62) (by decide) (by decide)) ?_
        exact Go.fin X280 hlk (v := some (.int (1 : Int32))) (fun h => by rw [Bd.returns] at h; cases h) (fun fs hr => retN X280 hx (t := .boolean) Bd.returns (by simp) (hb hby d22_66) hr) (by rw [e280]; exact ⟨(congrArg (fun qq => some (Value.int qq)) (Eq.symm ((if_pos hc273).trans ((if_neg hc277).trans ((if_neg hc281).trans rfl))))), rfl, rfl⟩) (by decide) (by decide)
  · refine Go.via (fun _ => XS.ifYes X272.here hx rfl (pc0 := 30) (pc' := 65) rfl (hb hby d22_30) rfl ((if0 _ _).trans (feq (hc273 : ¬ ((lcmpW v w) = (0 : Int32)))).2) (by decide) (by decide)) ?_
    show Go p e below (T272.setTop (mkF m 65 #[.val (.ref f), .val (.ref g_), .val (.ref g_)] [])) _
    refine Go.via (fun _ => XS.iconst X272.here hx rfl (hb hby d22_65)) ?_
    exact Go.fin X272 hlk (v := some (.int (0 : Int32))) (fun h => by rw [Bd.returns] at h; cases h) (fun fs hr => retN X272 hx (t := .boolean) Bd.returns (by simp) (hb hby d22_66) hr) (by rw [e272]; exact ⟨(congrArg (fun qq => some (Value.int qq)) (Eq.symm ((if_neg hc273).trans rfl))), rfl, rfl⟩) (by decide) (by decide)
theorem d1_0 : decode method_4_code 0 = .ok (.iload_n 0, 1) := by decide +kernel
theorem d1_1 : decode method_4_code 1 = .ok (.iconst 3, 1) := by decide +kernel
theorem d1_2 : decode method_4_code 2 = .ok (.iand, 1) := by decide +kernel
theorem d1_3 : decode method_4_code 3 = .ok (.iconst 3, 1) := by decide +kernel
theorem d1_4 : decode method_4_code 4 = .ok (.irem, 1) := by decide +kernel
theorem d1_5 : decode method_4_code 5 = .ok (.istore_n 1, 1) := by decide +kernel
theorem d1_6 : decode method_4_code 6 = .ok (.iload_n 0, 1) := by decide +kernel
theorem d1_7 : decode method_4_code 7 = .ok (.iconst 2, 1) := by decide +kernel
theorem d1_8 : decode method_4_code 8 = .ok (.iushr, 1) := by decide +kernel
theorem d1_9 : decode method_4_code 9 = .ok (.bipush 63, 2) := by decide +kernel
theorem d1_11 : decode method_4_code 11 = .ok (.iand, 1) := by decide +kernel
theorem d1_12 : decode method_4_code 12 = .ok (.invokestatic 35, 3) := by decide +kernel
theorem d1_15 : decode method_4_code 15 = .ok (.istore_n 2, 1) := by decide +kernel
theorem d1_16 : decode method_4_code 16 = .ok (.iload_n 0, 1) := by decide +kernel
theorem d1_17 : decode method_4_code 17 = .ok (.bipush 8, 2) := by decide +kernel
theorem d1_19 : decode method_4_code 19 = .ok (.iushr, 1) := by decide +kernel
theorem d1_20 : decode method_4_code 20 = .ok (.bipush 63, 2) := by decide +kernel
theorem d1_22 : decode method_4_code 22 = .ok (.iand, 1) := by decide +kernel
theorem d1_23 : decode method_4_code 23 = .ok (.invokestatic 35, 3) := by decide +kernel
theorem d1_26 : decode method_4_code 26 = .ok (.istore_n 3, 1) := by decide +kernel
theorem d1_27 : decode method_4_code 27 = .ok (.iload_n 1, 1) := by decide +kernel
theorem d1_28 : decode method_4_code 28 = .ok (.ifCond .ne 14, 3) := by decide +kernel
theorem d1_31 : decode method_4_code 31 = .ok (.new 39, 3) := by decide +kernel
theorem d1_34 : decode method_4_code 34 = .ok (.dup, 1) := by decide +kernel
theorem d1_35 : decode method_4_code 35 = .ok (.iconst 0, 1) := by decide +kernel
theorem d1_36 : decode method_4_code 36 = .ok (.newarray .char, 2) := by decide +kernel
theorem d1_38 : decode method_4_code 38 = .ok (.invokespecial 41, 3) := by decide +kernel
theorem pd__28_5bC_29V : parseMethodDescriptor "([C)V" = some ⟨[(.array .char)], none⟩ := by decide +kernel
theorem d1_41 : decode method_4_code 41 = .ok (.areturn, 1) := by decide +kernel
theorem d1_42 : decode method_4_code 42 = .ok (.iload_n 1, 1) := by decide +kernel
theorem d1_43 : decode method_4_code 43 = .ok (.iconst 1, 1) := by decide +kernel
theorem d1_44 : decode method_4_code 44 = .ok (.if_icmp .ne 23, 3) := by decide +kernel
theorem d1_47 : decode method_4_code 47 = .ok (.iconst 1, 1) := by decide +kernel
theorem d1_48 : decode method_4_code 48 = .ok (.newarray .char, 2) := by decide +kernel
theorem d1_50 : decode method_4_code 50 = .ok (.astore 4, 2) := by decide +kernel
theorem d1_52 : decode method_4_code 52 = .ok (.aload 4, 2) := by decide +kernel
theorem d1_54 : decode method_4_code 54 = .ok (.iconst 0, 1) := by decide +kernel
theorem d1_55 : decode method_4_code 55 = .ok (.iload_n 2, 1) := by decide +kernel
theorem d1_56 : decode method_4_code 56 = .ok (.castore, 1) := by decide +kernel
theorem d1_57 : decode method_4_code 57 = .ok (.new 39, 3) := by decide +kernel
theorem d1_60 : decode method_4_code 60 = .ok (.dup, 1) := by decide +kernel
theorem d1_61 : decode method_4_code 61 = .ok (.aload 4, 2) := by decide +kernel
theorem d1_63 : decode method_4_code 63 = .ok (.invokespecial 41, 3) := by decide +kernel
theorem d1_66 : decode method_4_code 66 = .ok (.areturn, 1) := by decide +kernel
theorem d1_67 : decode method_4_code 67 = .ok (.iconst 2, 1) := by decide +kernel
theorem d1_68 : decode method_4_code 68 = .ok (.newarray .char, 2) := by decide +kernel
theorem d1_70 : decode method_4_code 70 = .ok (.astore 4, 2) := by decide +kernel
theorem d1_72 : decode method_4_code 72 = .ok (.aload 4, 2) := by decide +kernel
theorem d1_74 : decode method_4_code 74 = .ok (.iconst 0, 1) := by decide +kernel
theorem d1_75 : decode method_4_code 75 = .ok (.iload_n 2, 1) := by decide +kernel
theorem d1_76 : decode method_4_code 76 = .ok (.castore, 1) := by decide +kernel
theorem d1_77 : decode method_4_code 77 = .ok (.aload 4, 2) := by decide +kernel
theorem d1_79 : decode method_4_code 79 = .ok (.iconst 1, 1) := by decide +kernel
theorem d1_80 : decode method_4_code 80 = .ok (.iload_n 3, 1) := by decide +kernel
theorem d1_81 : decode method_4_code 81 = .ok (.castore, 1) := by decide +kernel
theorem d1_82 : decode method_4_code 82 = .ok (.new 39, 3) := by decide +kernel
theorem d1_85 : decode method_4_code 85 = .ok (.dup, 1) := by decide +kernel
theorem d1_86 : decode method_4_code 86 = .ok (.aload 4, 2) := by decide +kernel
theorem d1_88 : decode method_4_code 88 = .ok (.invokespecial 41, 3) := by decide +kernel
theorem d1_91 : decode method_4_code 91 = .ok (.areturn, 1) := by decide +kernel
theorem pn_1 : plainName cLAW = true := by first | (simp [plainName, overriddenIn]; done) | decide +kernel
theorem ef_1 (m : MethodId) (x0 : Int32) : entryFrame m #[(.int x0)] 5 = mkF m 0 #[.val (.int x0), .unset, .unset, .unset, .unset] [] := by first | (simp [entryFrame, mkF, argsToLocals, Value.category]; done) | rfl
def Q_rmSg0 (Z : State) (xv : Int32) (cs : Int32) (h0 : Heap) (n0 : Nat) (vQ : Option Value) (hQ : Heap) (vmQ : Vm) (LQ : List Loc) : Prop := ∃ r : Addr, ∃ b_ : Addr, vQ = some (.ref r) ∧ Fr n0 LQ ∧ Keep h0 hQ [] ∧ h0.size ≤ r ∧ Exa Z hQ r cST ∧ Fld Z hQ r cST "coder" "B" (.int (0 : Int32)) ∧ Fld Z hQ r cST "value" "[B" (.ref b_) ∧ Ia Z hQ b_ .byte (sgF xv) ∧ Em Z vmQ hQ ["signature 2", "signature 1"]
def V_rmSg0 (Z : State) (xv : Int32) (cs : Int32) (h0 : Heap) (vmV : Vm) : Prop := Em Z vmV h0 ["signature 2", "signature 1"] ∧ True
set_option maxRecDepth 65536 in
set_option maxHeartbeats 40000000 in
theorem rmSg0 (l : Launch) (Z : State) (a0 : Array Value) (hw : ∀ d ∈ tables_1, d.before a0 Z = true) (ws : List Jvm.Cond) (xv : Int32) (cs : Int32) (h0 : Heap) (n0 : Nat) (Z0 : n0 ≤ h0.size) (P0 : Old Z n0 h0) (zCS : Sta Z Z.heap cST "COMPACT_STRINGS" "Z" (.int cs)) (hcs : ¬ (cs = (0 : Int32))) (hh7 : Jvm.Lit.constHeld Z cST 7) (hcw : Jvm.Lit.compactW.before a0 Z = true) :
    MetFree l (⟨cLAW, "sig", "(I)Ljava/lang/String;"⟩ : MethodName) (head1 (Jvm.Cond.code (⟨cLAW, "sig", "(I)Ljava/lang/String;"⟩ : MethodName) method_4_code 5 (some (.object cST)) :: ws) ({ frames := 4, cells := 4, slots := 8, locals := 66 } : Room)) (fun aQ UQ => aQ = #[(.int xv)] ∧ Z.Warmed39 UQ.vm ∧ UQ.heap = h0 ∧ V_rmSg0 Z xv cs h0 UQ.vm) (fun _ _ _ _ _ => True) (fun _ UQ oQ UR => ∃ vQ LQ, oQ = .returned vQ ∧ Q_rmSg0 Z xv cs h0 n0 vQ UR.heap UR.vm LQ ∧ ReturnedEndW UQ oQ UR LQ ({ frames := 4, cells := 4, slots := 8, locals := 66 } : Room).cells ({ frames := 4, cells := 4, slots := 8, locals := 66 } : Room).slots) := by
  refine MetFree.of_bodySF (plainFor_of_name pn_1) hisR ?_
  intro p e s m args below meth c s₁ Bd hml0 hP hK
  obtain ⟨rfl, hZ0, hh, hV⟩ := hP
  obtain ⟨I0, -⟩ := hV
  have hx := Bd.exec
  have hby := Bd.bytes
  have hlk := Bd.notSynchronized
  have hml : c.maxLocals = 5 := hml0
  have hnm := (name_of_methodNamed Bd.named Bd.method).1
  have e0 : s₁.heap = h0 := by rw [← hh, Bd.state]; rfl
  have N0 := Fr.nil n0
  have hZ : Z.Warmed39 (s.setVm s.vm).vm := hZ0
  have hown : (s.setVm s.vm).vm.findClass cLAW = some m.cls := findClass_of_methodNamed Bd.named
  have X0 : Stand p l e ({ frames := 4, cells := 4, slots := 8, locals := 66 } : Room) (s.setVm s.vm) m #[(.int xv)] below meth c s₁ [] 0 0 := Stand.of_body Bd
  have hS0 : s.Since s.vm s.heap.size := (State.WarmedH.refl _).since _
  have hk0 : s.heap.size ≤ h0.size := Nat.le_of_eq (congrArg Array.size hh)
  show Go p e below _ (DoneW s (Q_rmSg0 Z xv cs h0 n0) ({ frames := 4, cells := 4, slots := 8, locals := 66 } : Room).cells ({ frames := 4, cells := 4, slots := 8, locals := 66 } : Room).slots)
  refine Go.via (fun tQ kQ => castTop (ef_1 m xv) kQ) ?_
  show Go p e below (s₁.setTop (mkF m 0 #[.val (.int xv), .unset, .unset, .unset, .unset] [])) _
  refine Go.via (fun _ => XS.iloadN X0.here hx rfl (hb hby d1_0) rfl) ?_
  refine Go.via (fun _ => XS.iconst X0.here hx rfl (hb hby d1_1)) ?_
  refine Go.via (fun _ => XS.iand X0.here hx rfl (hb hby d1_2) rfl) ?_
  show Go p e below (s₁.setTop (mkF m 3 #[.val (.int xv), .unset, .unset, .unset, .unset] [(.int (xv &&& (3 : Int32)))])) _
  refine Go.via (fun _ => XS.iconst X0.here hx rfl (hb hby d1_3)) ?_
  refine Go.via (fun _ => iremM X0 hx rfl (hb hby d1_4) rfl (by decide)) ?_
  show Go p e below (s₁.setTop (mkF m 5 #[.val (.int xv), .unset, .unset, .unset, .unset] [(.int ((xv &&& (3 : Int32)) % (3 : Int32)))])) _
  generalize hv_ln : ((xv &&& (3 : Int32)) % (3 : Int32)) = ln
  show Go p e below (s₁.setTop (mkF m 5 #[.val (.int xv), .unset, .unset, .unset, .unset] [(.int ln)])) _
  refine Go.via (fun _ => XS.istoreN X0.here hx rfl (hb hby d1_5) rfl (l' := #[.val (.int xv), .val (.int ln), .unset, .unset, .unset]) rfl) ?_
  show Go p e below (s₁.setTop (mkF m 6 #[.val (.int xv), .val (.int ln), .unset, .unset, .unset] [])) _
  refine Go.via (fun _ => XS.iloadN X0.here hx rfl (hb hby d1_6) rfl) ?_
  refine Go.via (fun _ => XS.iconst X0.here hx rfl (hb hby d1_7)) ?_
  refine Go.via (fun _ => XS.iushr X0.here hx rfl (hb hby d1_8) rfl) ?_
  show Go p e below (s₁.setTop (mkF m 9 #[.val (.int xv), .val (.int ln), .unset, .unset, .unset] [(.int ((xv.toUInt32 >>> ((2 : Int32) &&& 31).toUInt32).toInt32))])) _
  refine Go.via (fun _ => XS.bipush X0.here hx rfl (hb hby d1_9)) ?_
  refine Go.via (fun _ => XS.iand X0.here hx rfl (hb hby d1_11) rfl) ?_
  show Go p e below (s₁.setTop (mkF m 12 #[.val (.int xv), .val (.int ln), .unset, .unset, .unset] [(.int (((xv.toUInt32 >>> ((2 : Int32) &&& 31).toUInt32).toInt32) &&& (63 : Int32)))])) _
  generalize hv_i0 : (((xv.toUInt32 >>> ((2 : Int32) &&& 31).toUInt32).toInt32) &&& (63 : Int32)) = i0
  show Go p e below (s₁.setTop (mkF m 12 #[.val (.int xv), .val (.int ln), .unset, .unset, .unset] [(.int i0)])) _
  obtain ⟨r282, _, ⟨T282, L282, k282, n282⟩, -, X282, ⟨Lc282, hQ282, l282, y282, z282⟩, st282⟩ := Jvm.LawKit.callS X0 hx (y := (⟨cLAW, "b64", "(I)C"⟩ : MethodName)) hown (mvT hZ (tw hw 9 rfl)) (mvT hZ (tw hw 10 rfl)) (mvT hZ (tw hw 7 rfl)) (mvT hZ (tw hw 11 rfl)) (by decide) (backOf (W := 0) (rmB l Z a0 hw [] i0  h0 n0 Z0) hZ (tw hw 11 rfl) (tw hw 7 rfl) (by decide) (by decide)) (g := (mkF m 12 #[.val (.int xv), .val (.int ln), .unset, .unset, .unset] [(.int i0)])) rfl (by rw [hml]; rfl) (argsL := [(.int i0)]) (rest := []) (lenOf pd__28I_29C rfl) rfl (by show 2 * 0 + _ ≤ _; exact Nat.le_of_eq rfl) (hb hby d1_12) (fun _ _ => ⟨rfl, e0, (by decide : 0 + 0 ≤ _), (by decide : 0 + 0 ≤ _)⟩)
  dsimp only [Pt.U, Pt.locs, Pt.cells, Pt.slots] at X282 l282 y282 z282 st282 hQ282
  rw [l282, y282, z282] at X282
  clear l282 y282 z282
  obtain ⟨hr282, N282q, eh282⟩ := hQ282
  rw [hr282] at st282
  clear hr282
  rw [N282q, List.append_nil] at X282
  refine Go.via (st282) ?_
  clear st282
  have e282 : T282.heap = h0 := eh282
  clear X0 e0
  show Go p e below (T282.setTop (mkF m 15 #[.val (.int xv), .val (.int ln), .unset, .unset, .unset] [(.int (b64F i0))])) _
  refine Go.via (fun _ => XS.istoreN X282.here hx rfl (hb hby d1_15) rfl (l' := #[.val (.int xv), .val (.int ln), .val (.int (b64F i0)), .unset, .unset]) rfl) ?_
  show Go p e below (T282.setTop (mkF m 16 #[.val (.int xv), .val (.int ln), .val (.int (b64F i0)), .unset, .unset] [])) _
  refine Go.via (fun _ => XS.iloadN X282.here hx rfl (hb hby d1_16) rfl) ?_
  refine Go.via (fun _ => XS.bipush X282.here hx rfl (hb hby d1_17)) ?_
  refine Go.via (fun _ => XS.iushr X282.here hx rfl (hb hby d1_19) rfl) ?_
  show Go p e below (T282.setTop (mkF m 20 #[.val (.int xv), .val (.int ln), .val (.int (b64F i0)), .unset, .unset] [(.int ((xv.toUInt32 >>> ((8 : Int32) &&& 31).toUInt32).toInt32))])) _
  refine Go.via (fun _ => XS.bipush X282.here hx rfl (hb hby d1_20)) ?_
  refine Go.via (fun _ => XS.iand X282.here hx rfl (hb hby d1_22) rfl) ?_
  show Go p e below (T282.setTop (mkF m 23 #[.val (.int xv), .val (.int ln), .val (.int (b64F i0)), .unset, .unset] [(.int (((xv.toUInt32 >>> ((8 : Int32) &&& 31).toUInt32).toInt32) &&& (63 : Int32)))])) _
  generalize hv_i1 : (((xv.toUInt32 >>> ((8 : Int32) &&& 31).toUInt32).toInt32) &&& (63 : Int32)) = i1
  show Go p e below (T282.setTop (mkF m 23 #[.val (.int xv), .val (.int ln), .val (.int (b64F i0)), .unset, .unset] [(.int i1)])) _
  obtain ⟨r283, _, ⟨T283, L283, k283, n283⟩, -, X283, ⟨Lc283, hQ283, l283, y283, z283⟩, st283⟩ := Jvm.LawKit.callS X282 hx (y := (⟨cLAW, "b64", "(I)C"⟩ : MethodName)) hown (mvT hZ (tw hw 9 rfl)) (mvT hZ (tw hw 10 rfl)) (mvT hZ (tw hw 7 rfl)) (mvT hZ (tw hw 11 rfl)) (by decide) (backOf (W := 0) (rmB l Z a0 hw [] i1  h0 n0 Z0) hZ (tw hw 11 rfl) (tw hw 7 rfl) (by decide) (by decide)) (g := (mkF m 23 #[.val (.int xv), .val (.int ln), .val (.int (b64F i0)), .unset, .unset] [(.int i1)])) rfl (by rw [hml]; rfl) (argsL := [(.int i1)]) (rest := []) (lenOf pd__28I_29C rfl) rfl (by show 2 * 0 + _ ≤ _; exact Nat.le_of_eq rfl) (hb hby d1_23) (fun _ _ => ⟨rfl, e282, (by decide : 0 + 0 ≤ _), (by decide : 0 + 0 ≤ _)⟩)
  dsimp only [Pt.U, Pt.locs, Pt.cells, Pt.slots] at X283 l283 y283 z283 st283 hQ283
  rw [l283, y283, z283] at X283
  clear l283 y283 z283
  obtain ⟨hr283, N283q, eh283⟩ := hQ283
  rw [hr283] at st283
  clear hr283
  rw [N283q, List.append_nil] at X283
  refine Go.via (st283) ?_
  clear st283
  have e283 : T283.heap = h0 := eh283
  clear X282 e282
  show Go p e below (T283.setTop (mkF m 26 #[.val (.int xv), .val (.int ln), .val (.int (b64F i0)), .unset, .unset] [(.int (b64F i1))])) _
  refine Go.via (fun _ => XS.istoreN X283.here hx rfl (hb hby d1_26) rfl (l' := #[.val (.int xv), .val (.int ln), .val (.int (b64F i0)), .val (.int (b64F i1)), .unset]) rfl) ?_
  show Go p e below (T283.setTop (mkF m 27 #[.val (.int xv), .val (.int ln), .val (.int (b64F i0)), .val (.int (b64F i1)), .unset] [])) _
  rcases own_l3' hv_ln with rfl | rfl | rfl
  · show Go p e below (T283.setTop (mkF m 27 #[.val (.int xv), .val (.int (0 : Int32)), .val (.int (b64F i0)), .val (.int (b64F i1)), .unset] [])) _
    refine Go.via (fun _ => XS.iloadN X283.here hx rfl (hb hby d1_27) rfl) ?_
    refine Go.via (fun _ => XS.ifNo X283.here hx rfl (hb hby d1_28) rfl ((if0 _ _).trans (teq ((by decide) : (0 : Int32) = (0 : Int32))).2)) ?_
    show Go p e below (T283.setTop (mkF m 31 #[.val (.int xv), .val (.int (0 : Int32)), .val (.int (b64F i0)), .val (.int (b64F i1)), .unset] [])) _
    obtain ⟨T284, h284, X284, e284, E284, A284, D284, -, st284⟩ := newO X283 hx hZ hown (tw hw 12 rfl) (tw hw 13 rfl) (tw hw 14 rfl) e283 (g := (mkF m 31 #[.val (.int xv), .val (.int (0 : Int32)), .val (.int (b64F i0)), .val (.int (b64F i1)), .unset] [])) rfl (hb hby d1_31) (by decide) (by decide)
    obtain ⟨b284, g284⟩ : ∃ z, z = h0.size := ⟨_, rfl⟩
    rw [← g284] at A284 D284 st284
    have ge285 : n0 ≤ b284 := Nat.le_trans Z0 (Nat.le_of_eq g284.symm)
    have sz286 : h0.size ≤ b284 := Nat.le_trans (Keep.refl h0 []).1 (Nat.le_of_eq g284.symm)
    refine Go.via (st284) ?_
    clear st284
    have f287 : Fld Z h284 b284 cST "value" "[B" .null := D284 (Or.inr (tw hw 28 rfl)) (ty := (.array .byte)) (by decide)
    have f288 : Fld Z h284 b284 cST "coder" "B" (.int (0 : Int32)) := D284 (Or.inr (tw hw 29 rfl)) (ty := .byte) (by decide)
    clear X283 e283
    show Go p e below (T284.setTop (mkF m 34 #[.val (.int xv), .val (.int (0 : Int32)), .val (.int (b64F i0)), .val (.int (b64F i1)), .unset] [(.ref b284)])) _
    refine Go.via (fun _ => XS.dup X284.here hx rfl (hb hby d1_34) rfl rfl) ?_
    refine Go.via (fun _ => XS.iconst X284.here hx rfl (hb hby d1_35)) ?_
    have k290 : Keep h0 h284 [] := ((Keep.refl h0 []).ext E284)
    have z291 : n0 ≤ h284.size := (Nat.le_trans Z0 E284.1)
    obtain ⟨T289, h289, k289, X289, e289, E289, A289, B289, st289⟩ := newPE X284 hx hZ (tw hw 15 rfl) e284 (g := (mkF m 36 #[.val (.int xv), .val (.int (0 : Int32)), .val (.int (b64F i0)), .val (.int (b64F i1)), .unset] [(.int (0 : Int32)), (.ref b284), (.ref b284)])) rfl (hb hby d1_36) rfl (by decide) (cap := 0) (by decide) (by decide) (by decide) (by decide) (ad := "[C") (by decide)
    obtain ⟨b289, g289⟩ : ∃ z, z = h284.size := ⟨_, rfl⟩
    rw [← g289] at A289 B289 st289
    have ne292 : b284 ≠ b289 := Nat.ne_of_lt (Nat.lt_of_lt_of_le A284.lt (Nat.le_of_eq g289.symm))
    have ge293 : n0 ≤ b289 := Nat.le_trans z291 (Nat.le_of_eq g289.symm)
    have sz294 : h0.size ≤ b289 := Nat.le_trans k290.1 (Nat.le_of_eq g289.symm)
    refine Go.via (st289) ?_
    clear st289
    have f295 : Ia Z h289 b289 .char [] := Ia.new A289 rfl
    clear X284 e284
    show Go p e below (T289.setTop (mkF m 38 #[.val (.int xv), .val (.int (0 : Int32)), .val (.int (b64F i0)), .val (.int (b64F i1)), .unset] [(.ref b289), (.ref b284), (.ref b284)])) _
    have f296 : Fld Z h289 b284 cST "coder" "B" (.int (0 : Int32)) := (f288.ext E289)
    have f297 : Fld Z h289 b284 cST "value" "[B" .null := (f287.ext E289)
    have f298 : Exa Z h289 b284 cST := (A284.ext E289)
    have o299 : Old Z n0 h289 := ((P0.ext E284).ext E289)
    have z301 : n0 ≤ h289.size := (Nat.le_trans z291 E289.1)
    have k302 : Keep h0 h289 [] := (k290.ext E289)
    have em303 : Em Z s.vm h289 ["signature 2", "signature 1"] := (Em.keep0 I0 k302)
    have hk304 : _ ≤ h289.size := (Nat.le_trans (Nat.le_trans hk0 E284.1) E289.1)
    obtain ⟨r300, _, ⟨T300, L300, k300, n300⟩, -, X300, h2300, gS300, ⟨Lc300, hQ300, l300, y300, z300⟩, st300⟩ := X289.specialBackS hx (y := (⟨cST, "<init>", "([C)V"⟩ : MethodName)) rfl hown (mvT hZ (tw hw 16 rfl)) (mvT hZ (tw hw 17 rfl)) (mvT hZ (tw hw 18 rfl)) (by decide) (backOfV (W := 1) (V := V_rmI1_e0 Z b284 b289 h289) (rmI1_e0 l Z a0 hw [] b284 b289  h289 n0 z301 f296 f297 f298 f295 o299 ge285 hh7 hcw) hZ (tw hw 18 rfl) (tw hw 14 rfl) (by decide) (by decide) (fun vm' hW => ⟨Em.still em303 hW.interned_eq (w39 hW.wide), trivial⟩)) (g := (mkF m 38 #[.val (.int xv), .val (.int (0 : Int32)), .val (.int (b64F i0)), .val (.int (b64F i1)), .unset] [(.ref b289), (.ref b284), (.ref b284)])) rfl (by rw [hml]; rfl) (Steps.refl _) (a := b284) (argsL := [(.ref b289)]) (rest := [(.ref b284)]) (lenOf pd__28_5bC_29V rfl) rfl (by show 2 * 0 + _ ≤ _; exact Nat.le_of_eq rfl) (hb hby d1_38) (fun _ _ => ⟨rfl, e289, (by decide : 2 + 2 ≤ _), (by decide : 4 + 4 ≤ _)⟩)
    dsimp only [Pt.U, Pt.locs, Pt.cells, Pt.slots] at X300 l300 y300 z300 st300 hQ300 h2300 gS300
    rw [l300, y300, z300] at X300
    clear l300 y300 z300
    obtain ⟨v305, hr300, N300q, K300q, f306, f307, f308, f309, I300⟩ := hQ300
    rw [hr300] at st300
    clear hr300
    have N300 := Fr.app N0 N300q
    refine Go.via (fun _ kQ => st300.trans kQ) ?_
    clear st300
    have e300 : T300.heap = T300.heap := rfl
    have f310 : Exa Z T300.heap b284 cST := f306
    have f311 : Fld Z T300.heap b284 cST "coder" "B" (.int (0 : Int32)) := f307
    have f312 : Fld Z T300.heap b284 cST "value" "[B" (.ref v305) := f308
    have f313 : Ia Z T300.heap v305 .byte [] := f309
    have ne314 : v305 ≠ b284 := Ia.neE (a0 := a0) f313 f310 (tw hw 13 rfl)
    obtain ⟨X300r, hS300, hZ, hown⟩ := rebS hS0 (Nat.le_trans hk304 (Nat.le_of_eq (congrArg Array.size (Eq.symm e289)))) X300 h2300 gS300 hZ hown
    clear X300 h2300 gS300
    clear X289 e289
    show Go p e below (T300.setTop (mkF m 41 #[.val (.int xv), .val (.int (0 : Int32)), .val (.int (b64F i0)), .val (.int (b64F i1)), .unset] [(.ref b284)])) _
    have k315 : Keep h0 T300.heap [] := (k302.trans K300q (allS (Or.inr sz286) all0))
    exact Go.finW X300r hS300 (Nat.le_trans (Nat.le_refl _) (Nat.le_of_eq (congrArg Array.size (Eq.symm e300)))) hlk (v := some (.ref b284)) (fun h => by rw [Bd.returns] at h; cases h) (fun fs hr => retOut X300r hx Bd.returns rfl (Or.inr (Or.inr (Or.inr (Or.inr ⟨rfl, rfl, rfl⟩)))) (hb hby d1_41) hr) (by exact ⟨b284, v305, rfl, N300, k315, sz286, f310, f311, f312, (by rw [own_sg0 hv_ln]; exact f313), Em.still I300 X300r.warmed.interned_eq (w39 X300r.warmed.wide)⟩) (by decide) (by decide)
  · show Go p e below (T283.setTop (mkF m 27 #[.val (.int xv), .val (.int (1 : Int32)), .val (.int (b64F i0)), .val (.int (b64F i1)), .unset] [])) _
    refine Go.via (fun _ => XS.iloadN X283.here hx rfl (hb hby d1_27) rfl) ?_
    refine Go.via (fun _ => XS.ifYes X283.here hx rfl (pc0 := 28) (pc' := 42) rfl (hb hby d1_28) rfl ((if0 _ _).trans (feq ((by decide) : ¬ ((1 : Int32) = (0 : Int32)))).2) (by decide) (by decide)) ?_
    show Go p e below (T283.setTop (mkF m 42 #[.val (.int xv), .val (.int (1 : Int32)), .val (.int (b64F i0)), .val (.int (b64F i1)), .unset] [])) _
    refine Go.via (fun _ => XS.iloadN X283.here hx rfl (hb hby d1_42) rfl) ?_
    refine Go.via (fun _ => XS.iconst X283.here hx rfl (hb hby d1_43)) ?_
    refine Go.via (fun _ => XS.icmpNo X283.here hx rfl (hb hby d1_44) rfl (teq ((by decide) : (1 : Int32) = (1 : Int32))).2) ?_
    show Go p e below (T283.setTop (mkF m 47 #[.val (.int xv), .val (.int (1 : Int32)), .val (.int (b64F i0)), .val (.int (b64F i1)), .unset] [])) _
    refine Go.via (fun _ => XS.iconst X283.here hx rfl (hb hby d1_47)) ?_
    obtain ⟨T316, h316, k316, X316, e316, E316, A316, B316, st316⟩ := newPE X283 hx hZ (tw hw 15 rfl) e283 (g := (mkF m 48 #[.val (.int xv), .val (.int (1 : Int32)), .val (.int (b64F i0)), .val (.int (b64F i1)), .unset] [(.int (1 : Int32))])) rfl (hb hby d1_48) rfl (by decide) (cap := 1) (by decide) (by decide) (by decide) (by decide) (ad := "[C") (by decide)
    obtain ⟨b316, g316⟩ : ∃ z, z = h0.size := ⟨_, rfl⟩
    rw [← g316] at A316 B316 st316
    have ge317 : n0 ≤ b316 := Nat.le_trans Z0 (Nat.le_of_eq g316.symm)
    have sz318 : h0.size ≤ b316 := Nat.le_trans (Keep.refl h0 []).1 (Nat.le_of_eq g316.symm)
    refine Go.via (st316) ?_
    clear st316
    have f319 : Ia Z h316 b316 .char [(0 : Int32)] := Ia.new A316 rfl
    clear X283 e283
    show Go p e below (T316.setTop (mkF m 50 #[.val (.int xv), .val (.int (1 : Int32)), .val (.int (b64F i0)), .val (.int (b64F i1)), .unset] [(.ref b316)])) _
    refine Go.via (fun _ => XS.astore X316.here hx rfl (hb hby d1_50) rfl rfl (l' := #[.val (.int xv), .val (.int (1 : Int32)), .val (.int (b64F i0)), .val (.int (b64F i1)), .val (.ref b316)]) rfl) ?_
    show Go p e below (T316.setTop (mkF m 52 #[.val (.int xv), .val (.int (1 : Int32)), .val (.int (b64F i0)), .val (.int (b64F i1)), .val (.ref b316)] [])) _
    refine Go.via (fun _ => XS.aload X316.here hx rfl (hb hby d1_52) rfl rfl) ?_
    refine Go.via (fun _ => XS.iconst X316.here hx rfl (hb hby d1_54)) ?_
    refine Go.via (fun _ => XS.iloadN X316.here hx rfl (hb hby d1_55) rfl) ?_
    obtain ⟨T320, h320, X320, e320, W320, V320, st320⟩ := stC' X316 hx hZ e316 f319 (j := (0 : Int32)) (by decide) (by first | decide | (simp only [List.length_cons, List.length_nil]; decide) | rfl) (g := (mkF m 56 #[.val (.int xv), .val (.int (1 : Int32)), .val (.int (b64F i0)), .val (.int (b64F i1)), .val (.ref b316)] [(.int (b64F i0)), (.int (0 : Int32)), (.ref b316)])) rfl rfl (hb hby d1_56)
    refine Go.via (st320) ?_
    clear st320
    have N320 := Fr.snoc X320 N0 ge317
    have f321 : Ia Z h320 b316 .char [(nar .char (b64F i0))] := V320
    clear X316 e316
    show Go p e below (T320.setTop (mkF m 57 #[.val (.int xv), .val (.int (1 : Int32)), .val (.int (b64F i0)), .val (.int (b64F i1)), .val (.ref b316)] [])) _
    have k323 : Keep h0 h320 [] := (((Keep.refl h0 []).ext E316).wr W320 (Or.inr sz318))
    have z324 : n0 ≤ h320.size := (Nat.le_trans (Nat.le_trans Z0 E316.1) (Keep.of_wr W320).1)
    obtain ⟨T322, h322, X322, e322, E322, A322, D322, -, st322⟩ := newO X320 hx hZ hown (tw hw 12 rfl) (tw hw 13 rfl) (tw hw 14 rfl) e320 (g := (mkF m 57 #[.val (.int xv), .val (.int (1 : Int32)), .val (.int (b64F i0)), .val (.int (b64F i1)), .val (.ref b316)] [])) rfl (hb hby d1_57) (by decide) (by decide)
    obtain ⟨b322, g322⟩ : ∃ z, z = h320.size := ⟨_, rfl⟩
    rw [← g322] at A322 D322 st322
    have ne325 : b316 ≠ b322 := Nat.ne_of_lt (Nat.lt_of_lt_of_le f321.lt (Nat.le_of_eq g322.symm))
    have ge326 : n0 ≤ b322 := Nat.le_trans z324 (Nat.le_of_eq g322.symm)
    have sz327 : h0.size ≤ b322 := Nat.le_trans k323.1 (Nat.le_of_eq g322.symm)
    refine Go.via (st322) ?_
    clear st322
    have f328 : Fld Z h322 b322 cST "value" "[B" .null := D322 (Or.inr (tw hw 28 rfl)) (ty := (.array .byte)) (by decide)
    have f329 : Fld Z h322 b322 cST "coder" "B" (.int (0 : Int32)) := D322 (Or.inr (tw hw 29 rfl)) (ty := .byte) (by decide)
    clear X320 e320
    show Go p e below (T322.setTop (mkF m 60 #[.val (.int xv), .val (.int (1 : Int32)), .val (.int (b64F i0)), .val (.int (b64F i1)), .val (.ref b316)] [(.ref b322)])) _
    refine Go.via (fun _ => XS.dup X322.here hx rfl (hb hby d1_60) rfl rfl) ?_
    refine Go.via (fun _ => XS.aload X322.here hx rfl (hb hby d1_61) rfl rfl) ?_
    have f330 : Ia Z h322 b316 .char [(nar .char (b64F i0))] := (f321.ext E322)
    have o331 : Old Z n0 h322 := (((P0.ext E316).wr W320 ge317).ext E322)
    have z333 : n0 ≤ h322.size := (Nat.le_trans z324 E322.1)
    obtain ⟨r332, _, ⟨T332, L332, k332, n332⟩, -, X332, ⟨Lc332, hQ332, l332, y332, z332⟩, st332⟩ := X322.specialBack hx (y := (⟨cST, "<init>", "([C)V"⟩ : MethodName)) rfl hown (mvT hZ (tw hw 16 rfl)) (mvT hZ (tw hw 17 rfl)) (mvT hZ (tw hw 18 rfl)) (by decide) (backOf (W := 1) (rmI1_1 l Z a0 hw [] b322 b316 (nar .char (b64F i0)) cs h322 n0 z333 f329 f328 A322 f330 o331 zCS ge326 (Ne.symm ne325) hcs (own_le _ (hv_i0 ▸ own_mem _))) hZ (tw hw 18 rfl) (tw hw 14 rfl) (by decide) (by decide)) (g := (mkF m 63 #[.val (.int xv), .val (.int (1 : Int32)), .val (.int (b64F i0)), .val (.int (b64F i1)), .val (.ref b316)] [(.ref b316), (.ref b322), (.ref b322)])) rfl (by rw [hml]; rfl) (Steps.refl _) (a := b322) (argsL := [(.ref b316)]) (rest := [(.ref b322)]) (lenOf pd__28_5bC_29V rfl) rfl (by show 2 * 0 + _ ≤ _; exact Nat.le_of_eq rfl) (hb hby d1_63) (fun _ _ => ⟨rfl, e322, (by decide : 2 + 1 ≤ _), (by decide : 5 + 1 ≤ _)⟩)
    dsimp only [Pt.U, Pt.locs, Pt.cells, Pt.slots] at X332 l332 y332 z332 st332 hQ332
    rw [l332, y332, z332] at X332
    clear l332 y332 z332
    obtain ⟨b334, hr332, N332q, K332q, fz_b334, f335, f336, f337, f338⟩ := hQ332
    rw [hr332] at st332
    clear hr332
    have N332 := Fr.app N320 N332q
    refine Go.via (fun _ kQ => st332.trans kQ) ?_
    clear st332
    have ne339 : b316 ≠ b334 := Nat.ne_of_lt (Nat.lt_of_lt_of_le f330.lt fz_b334)
    have ne340 : b322 ≠ b334 := Nat.ne_of_lt (Nat.lt_of_lt_of_le A322.lt fz_b334)
    have ge341 : n0 ≤ b334 := Nat.le_trans z333 fz_b334
    have k343 : Keep h0 h322 [] := (k323.ext E322)
    have sz342 : h0.size ≤ b334 := Nat.le_trans k343.1 fz_b334
    have e332 : T332.heap = T332.heap := rfl
    have f344 : Exa Z T332.heap b322 cST := f335
    have f345 : Fld Z T332.heap b322 cST "coder" "B" (.int (0 : Int32)) := f336
    have f346 : Fld Z T332.heap b322 cST "value" "[B" (.ref b334) := f337
    have f347 : Ia Z T332.heap b334 .byte [(nar .byte ((nar .char (b64F i0)).toInt8.toInt32))] := f338
    clear X322 e322
    show Go p e below (T332.setTop (mkF m 66 #[.val (.int xv), .val (.int (1 : Int32)), .val (.int (b64F i0)), .val (.int (b64F i1)), .val (.ref b316)] [(.ref b322)])) _
    have k348 : Keep h0 T332.heap [] := (k343.trans K332q (allS (Or.inr sz327) all0))
    have em349 : Em Z s.vm T332.heap ["signature 2", "signature 1"] := (Em.keep0 I0 k348)
    have hk350 : _ ≤ T332.heap.size := (Nat.le_trans (Nat.le_trans (Nat.le_trans (Nat.le_trans hk0 E316.1) (Keep.of_wr W320).1) E322.1) K332q.1)
    exact Go.finW X332 hS0 (Nat.le_trans hk350 (Nat.le_of_eq (congrArg Array.size (Eq.symm e332)))) hlk (v := some (.ref b322)) (fun h => by rw [Bd.returns] at h; cases h) (fun fs hr => retOut X332 hx Bd.returns rfl (Or.inr (Or.inr (Or.inr (Or.inr ⟨rfl, rfl, rfl⟩)))) (hb hby d1_66) hr) (by exact ⟨b322, b334, rfl, N332, k348, sz327, f344, f345, f346, (by rw [own_sg1 hv_ln, show i0F xv = i0 from hv_i0]; exact own_ia1 f347 (hv_i0 ▸ own_mem _)), Em.still em349 X332.warmed.interned_eq (w39 X332.warmed.wide)⟩) (by decide) (by decide)
  · show Go p e below (T283.setTop (mkF m 27 #[.val (.int xv), .val (.int (2 : Int32)), .val (.int (b64F i0)), .val (.int (b64F i1)), .unset] [])) _
    refine Go.via (fun _ => XS.iloadN X283.here hx rfl (hb hby d1_27) rfl) ?_
    refine Go.via (fun _ => XS.ifYes X283.here hx rfl (pc0 := 28) (pc' := 42) rfl (hb hby d1_28) rfl ((if0 _ _).trans (feq ((by decide) : ¬ ((2 : Int32) = (0 : Int32)))).2) (by decide) (by decide)) ?_
    show Go p e below (T283.setTop (mkF m 42 #[.val (.int xv), .val (.int (2 : Int32)), .val (.int (b64F i0)), .val (.int (b64F i1)), .unset] [])) _
    refine Go.via (fun _ => XS.iloadN X283.here hx rfl (hb hby d1_42) rfl) ?_
    refine Go.via (fun _ => XS.iconst X283.here hx rfl (hb hby d1_43)) ?_
    refine Go.via (fun _ => XS.icmpYes X283.here hx rfl (pc0 := 44) (pc' := 67) rfl (hb hby d1_44) rfl (feq ((by decide) : ¬ ((2 : Int32) = (1 : Int32)))).2 (by decide) (by decide)) ?_
    show Go p e below (T283.setTop (mkF m 67 #[.val (.int xv), .val (.int (2 : Int32)), .val (.int (b64F i0)), .val (.int (b64F i1)), .unset] [])) _
    refine Go.via (fun _ => XS.iconst X283.here hx rfl (hb hby d1_67)) ?_
    obtain ⟨T351, h351, k351, X351, e351, E351, A351, B351, st351⟩ := newPE X283 hx hZ (tw hw 15 rfl) e283 (g := (mkF m 68 #[.val (.int xv), .val (.int (2 : Int32)), .val (.int (b64F i0)), .val (.int (b64F i1)), .unset] [(.int (2 : Int32))])) rfl (hb hby d1_68) rfl (by decide) (cap := 2) (by decide) (by decide) (by decide) (by decide) (ad := "[C") (by decide)
    obtain ⟨b351, g351⟩ : ∃ z, z = h0.size := ⟨_, rfl⟩
    rw [← g351] at A351 B351 st351
    have ge352 : n0 ≤ b351 := Nat.le_trans Z0 (Nat.le_of_eq g351.symm)
    have sz353 : h0.size ≤ b351 := Nat.le_trans (Keep.refl h0 []).1 (Nat.le_of_eq g351.symm)
    refine Go.via (st351) ?_
    clear st351
    have f354 : Ia Z h351 b351 .char [(0 : Int32), (0 : Int32)] := Ia.new A351 rfl
    clear X283 e283
    show Go p e below (T351.setTop (mkF m 70 #[.val (.int xv), .val (.int (2 : Int32)), .val (.int (b64F i0)), .val (.int (b64F i1)), .unset] [(.ref b351)])) _
    refine Go.via (fun _ => XS.astore X351.here hx rfl (hb hby d1_70) rfl rfl (l' := #[.val (.int xv), .val (.int (2 : Int32)), .val (.int (b64F i0)), .val (.int (b64F i1)), .val (.ref b351)]) rfl) ?_
    show Go p e below (T351.setTop (mkF m 72 #[.val (.int xv), .val (.int (2 : Int32)), .val (.int (b64F i0)), .val (.int (b64F i1)), .val (.ref b351)] [])) _
    refine Go.via (fun _ => XS.aload X351.here hx rfl (hb hby d1_72) rfl rfl) ?_
    refine Go.via (fun _ => XS.iconst X351.here hx rfl (hb hby d1_74)) ?_
    refine Go.via (fun _ => XS.iloadN X351.here hx rfl (hb hby d1_75) rfl) ?_
    obtain ⟨T355, h355, X355, e355, W355, V355, st355⟩ := stC' X351 hx hZ e351 f354 (j := (0 : Int32)) (by decide) (by first | decide | (simp only [List.length_cons, List.length_nil]; decide) | rfl) (g := (mkF m 76 #[.val (.int xv), .val (.int (2 : Int32)), .val (.int (b64F i0)), .val (.int (b64F i1)), .val (.ref b351)] [(.int (b64F i0)), (.int (0 : Int32)), (.ref b351)])) rfl rfl (hb hby d1_76)
    refine Go.via (st355) ?_
    clear st355
    have N355 := Fr.snoc X355 N0 ge352
    have f356 : Ia Z h355 b351 .char [(nar .char (b64F i0)), (0 : Int32)] := V355
    clear X351 e351
    show Go p e below (T355.setTop (mkF m 77 #[.val (.int xv), .val (.int (2 : Int32)), .val (.int (b64F i0)), .val (.int (b64F i1)), .val (.ref b351)] [])) _
    refine Go.via (fun _ => XS.aload X355.here hx rfl (hb hby d1_77) rfl rfl) ?_
    refine Go.via (fun _ => XS.iconst X355.here hx rfl (hb hby d1_79)) ?_
    refine Go.via (fun _ => XS.iloadN X355.here hx rfl (hb hby d1_80) rfl) ?_
    obtain ⟨T357, h357, X357, e357, W357, V357, st357⟩ := stC' X355 hx hZ e355 f356 (j := (1 : Int32)) (by decide) (by first | decide | (simp only [List.length_cons, List.length_nil]; decide) | rfl) (g := (mkF m 81 #[.val (.int xv), .val (.int (2 : Int32)), .val (.int (b64F i0)), .val (.int (b64F i1)), .val (.ref b351)] [(.int (b64F i1)), (.int (1 : Int32)), (.ref b351)])) rfl rfl (hb hby d1_81)
    refine Go.via (st357) ?_
    clear st357
    have N357 := Fr.snoc X357 N355 ge352
    have f358 : Ia Z h357 b351 .char [(nar .char (b64F i0)), (nar .char (b64F i1))] := V357
    clear X355 e355
    show Go p e below (T357.setTop (mkF m 82 #[.val (.int xv), .val (.int (2 : Int32)), .val (.int (b64F i0)), .val (.int (b64F i1)), .val (.ref b351)] [])) _
    have k360 : Keep h0 h357 [] := ((((Keep.refl h0 []).ext E351).wr W355 (Or.inr sz353)).wr W357 (Or.inr sz353))
    have z361 : n0 ≤ h357.size := (Nat.le_trans (Nat.le_trans (Nat.le_trans Z0 E351.1) (Keep.of_wr W355).1) (Keep.of_wr W357).1)
    obtain ⟨T359, h359, X359, e359, E359, A359, D359, -, st359⟩ := newO X357 hx hZ hown (tw hw 12 rfl) (tw hw 13 rfl) (tw hw 14 rfl) e357 (g := (mkF m 82 #[.val (.int xv), .val (.int (2 : Int32)), .val (.int (b64F i0)), .val (.int (b64F i1)), .val (.ref b351)] [])) rfl (hb hby d1_82) (by decide) (by decide)
    obtain ⟨b359, g359⟩ : ∃ z, z = h357.size := ⟨_, rfl⟩
    rw [← g359] at A359 D359 st359
    have ne362 : b351 ≠ b359 := Nat.ne_of_lt (Nat.lt_of_lt_of_le f358.lt (Nat.le_of_eq g359.symm))
    have ge363 : n0 ≤ b359 := Nat.le_trans z361 (Nat.le_of_eq g359.symm)
    have sz364 : h0.size ≤ b359 := Nat.le_trans k360.1 (Nat.le_of_eq g359.symm)
    refine Go.via (st359) ?_
    clear st359
    have f365 : Fld Z h359 b359 cST "value" "[B" .null := D359 (Or.inr (tw hw 28 rfl)) (ty := (.array .byte)) (by decide)
    have f366 : Fld Z h359 b359 cST "coder" "B" (.int (0 : Int32)) := D359 (Or.inr (tw hw 29 rfl)) (ty := .byte) (by decide)
    clear X357 e357
    show Go p e below (T359.setTop (mkF m 85 #[.val (.int xv), .val (.int (2 : Int32)), .val (.int (b64F i0)), .val (.int (b64F i1)), .val (.ref b351)] [(.ref b359)])) _
    refine Go.via (fun _ => XS.dup X359.here hx rfl (hb hby d1_85) rfl rfl) ?_
    refine Go.via (fun _ => XS.aload X359.here hx rfl (hb hby d1_86) rfl rfl) ?_
    have f367 : Ia Z h359 b351 .char [(nar .char (b64F i0)), (nar .char (b64F i1))] := (f358.ext E359)
    have o368 : Old Z n0 h359 := ((((P0.ext E351).wr W355 ge352).wr W357 ge352).ext E359)
    have z370 : n0 ≤ h359.size := (Nat.le_trans z361 E359.1)
    obtain ⟨r369, _, ⟨T369, L369, k369, n369⟩, -, X369, ⟨Lc369, hQ369, l369, y369, z369⟩, st369⟩ := X359.specialBack hx (y := (⟨cST, "<init>", "([C)V"⟩ : MethodName)) rfl hown (mvT hZ (tw hw 16 rfl)) (mvT hZ (tw hw 17 rfl)) (mvT hZ (tw hw 18 rfl)) (by decide) (backOf (W := 1) (rmI1_2 l Z a0 hw [] b359 b351 (nar .char (b64F i0)) (nar .char (b64F i1)) cs h359 n0 z370 f366 f365 A359 f367 o368 zCS ge363 (Ne.symm ne362) hcs (own_le _ (hv_i0 ▸ own_mem _)) (own_le _ (hv_i1 ▸ own_mem _))) hZ (tw hw 18 rfl) (tw hw 14 rfl) (by decide) (by decide)) (g := (mkF m 88 #[.val (.int xv), .val (.int (2 : Int32)), .val (.int (b64F i0)), .val (.int (b64F i1)), .val (.ref b351)] [(.ref b351), (.ref b359), (.ref b359)])) rfl (by rw [hml]; rfl) (Steps.refl _) (a := b359) (argsL := [(.ref b351)]) (rest := [(.ref b359)]) (lenOf pd__28_5bC_29V rfl) rfl (by show 2 * 0 + _ ≤ _; exact Nat.le_of_eq rfl) (hb hby d1_88) (fun _ _ => ⟨rfl, e359, (by decide : 2 + 1 ≤ _), (by decide : 6 + 2 ≤ _)⟩)
    dsimp only [Pt.U, Pt.locs, Pt.cells, Pt.slots] at X369 l369 y369 z369 st369 hQ369
    rw [l369, y369, z369] at X369
    clear l369 y369 z369
    obtain ⟨b371, hr369, N369q, K369q, fz_b371, f372, f373, f374, f375⟩ := hQ369
    rw [hr369] at st369
    clear hr369
    have N369 := Fr.app N357 N369q
    refine Go.via (fun _ kQ => st369.trans kQ) ?_
    clear st369
    have ne376 : b351 ≠ b371 := Nat.ne_of_lt (Nat.lt_of_lt_of_le f367.lt fz_b371)
    have ne377 : b359 ≠ b371 := Nat.ne_of_lt (Nat.lt_of_lt_of_le A359.lt fz_b371)
    have ge378 : n0 ≤ b371 := Nat.le_trans z370 fz_b371
    have k380 : Keep h0 h359 [] := (k360.ext E359)
    have sz379 : h0.size ≤ b371 := Nat.le_trans k380.1 fz_b371
    have e369 : T369.heap = T369.heap := rfl
    have f381 : Exa Z T369.heap b359 cST := f372
    have f382 : Fld Z T369.heap b359 cST "coder" "B" (.int (0 : Int32)) := f373
    have f383 : Fld Z T369.heap b359 cST "value" "[B" (.ref b371) := f374
    have f384 : Ia Z T369.heap b371 .byte [(nar .byte ((nar .char (b64F i0)).toInt8.toInt32)), (nar .byte ((nar .char (b64F i1)).toInt8.toInt32))] := f375
    clear X359 e359
    show Go p e below (T369.setTop (mkF m 91 #[.val (.int xv), .val (.int (2 : Int32)), .val (.int (b64F i0)), .val (.int (b64F i1)), .val (.ref b351)] [(.ref b359)])) _
    have k385 : Keep h0 T369.heap [] := (k380.trans K369q (allS (Or.inr sz364) all0))
    have em386 : Em Z s.vm T369.heap ["signature 2", "signature 1"] := (Em.keep0 I0 k385)
    have hk387 : _ ≤ T369.heap.size := (Nat.le_trans (Nat.le_trans (Nat.le_trans (Nat.le_trans (Nat.le_trans hk0 E351.1) (Keep.of_wr W355).1) (Keep.of_wr W357).1) E359.1) K369q.1)
    exact Go.finW X369 hS0 (Nat.le_trans hk387 (Nat.le_of_eq (congrArg Array.size (Eq.symm e369)))) hlk (v := some (.ref b359)) (fun h => by rw [Bd.returns] at h; cases h) (fun fs hr => retOut X369 hx Bd.returns rfl (Or.inr (Or.inr (Or.inr (Or.inr ⟨rfl, rfl, rfl⟩)))) (hb hby d1_91) hr) (by exact ⟨b359, b371, rfl, N369, k385, sz364, f381, f382, f383, (by rw [own_sg2 hv_ln, show i0F xv = i0 from hv_i0, show i1F xv = i1 from hv_i1]; exact own_ia2 f384 (hv_i0 ▸ own_mem _) (hv_i1 ▸ own_mem _)), Em.still em386 X369.warmed.interned_eq (w39 X369.warmed.wide)⟩) (by decide) (by decide)
theorem d21_0 : decode method_5_code 0 = .ok (.iload_n 0, 1) := by decide +kernel
theorem d21_1 : decode method_5_code 1 = .ok (.iconst 3, 1) := by decide +kernel
theorem d21_2 : decode method_5_code 2 = .ok (.iand, 1) := by decide +kernel
theorem d21_3 : decode method_5_code 3 = .ok (.iconst 3, 1) := by decide +kernel
theorem d21_4 : decode method_5_code 4 = .ok (.irem, 1) := by decide +kernel
theorem d21_5 : decode method_5_code 5 = .ok (.istore_n 2, 1) := by decide +kernel
theorem d21_6 : decode method_5_code 6 = .ok (.iload_n 1, 1) := by decide +kernel
theorem d21_7 : decode method_5_code 7 = .ok (.iconst 3, 1) := by decide +kernel
theorem d21_8 : decode method_5_code 8 = .ok (.iand, 1) := by decide +kernel
theorem d21_9 : decode method_5_code 9 = .ok (.iconst 3, 1) := by decide +kernel
theorem d21_10 : decode method_5_code 10 = .ok (.irem, 1) := by decide +kernel
theorem d21_11 : decode method_5_code 11 = .ok (.istore_n 3, 1) := by decide +kernel
theorem d21_12 : decode method_5_code 12 = .ok (.iload_n 2, 1) := by decide +kernel
theorem d21_13 : decode method_5_code 13 = .ok (.iload_n 3, 1) := by decide +kernel
theorem d21_14 : decode method_5_code 14 = .ok (.if_icmp .eq 5, 3) := by decide +kernel
theorem d21_19 : decode method_5_code 19 = .ok (.iload_n 2, 1) := by decide +kernel
theorem d21_20 : decode method_5_code 20 = .ok (.iconst 1, 1) := by decide +kernel
theorem d21_21 : decode method_5_code 21 = .ok (.if_icmp .lt 20, 3) := by decide +kernel
theorem d21_41 : decode method_5_code 41 = .ok (.iload_n 2, 1) := by decide +kernel
theorem d21_42 : decode method_5_code 42 = .ok (.iconst 2, 1) := by decide +kernel
theorem d21_43 : decode method_5_code 43 = .ok (.if_icmp .lt 22, 3) := by decide +kernel
theorem d21_65 : decode method_5_code 65 = .ok (.iconst 1, 1) := by decide +kernel
theorem d21_66 : decode method_5_code 66 = .ok (.ireturn, 1) := by decide +kernel
theorem d21_46 : decode method_5_code 46 = .ok (.iload_n 0, 1) := by decide +kernel
theorem d21_47 : decode method_5_code 47 = .ok (.bipush 8, 2) := by decide +kernel
theorem d21_49 : decode method_5_code 49 = .ok (.iushr, 1) := by decide +kernel
theorem d21_50 : decode method_5_code 50 = .ok (.bipush 63, 2) := by decide +kernel
theorem d21_52 : decode method_5_code 52 = .ok (.iand, 1) := by decide +kernel
theorem d21_53 : decode method_5_code 53 = .ok (.iload_n 1, 1) := by decide +kernel
theorem d21_54 : decode method_5_code 54 = .ok (.bipush 8, 2) := by decide +kernel
theorem d21_56 : decode method_5_code 56 = .ok (.iushr, 1) := by decide +kernel
theorem d21_57 : decode method_5_code 57 = .ok (.bipush 63, 2) := by decide +kernel
theorem d21_59 : decode method_5_code 59 = .ok (.iand, 1) := by decide +kernel
theorem d21_60 : decode method_5_code 60 = .ok (.if_icmp .eq 5, 3) := by decide +kernel
theorem d21_63 : decode method_5_code 63 = .ok (.iconst 0, 1) := by decide +kernel
theorem d21_64 : decode method_5_code 64 = .ok (.ireturn, 1) := by decide +kernel
theorem d21_24 : decode method_5_code 24 = .ok (.iload_n 0, 1) := by decide +kernel
theorem d21_25 : decode method_5_code 25 = .ok (.iconst 2, 1) := by decide +kernel
theorem d21_26 : decode method_5_code 26 = .ok (.iushr, 1) := by decide +kernel
theorem d21_27 : decode method_5_code 27 = .ok (.bipush 63, 2) := by decide +kernel
theorem d21_29 : decode method_5_code 29 = .ok (.iand, 1) := by decide +kernel
theorem d21_30 : decode method_5_code 30 = .ok (.iload_n 1, 1) := by decide +kernel
theorem d21_31 : decode method_5_code 31 = .ok (.iconst 2, 1) := by decide +kernel
theorem d21_32 : decode method_5_code 32 = .ok (.iushr, 1) := by decide +kernel
theorem d21_33 : decode method_5_code 33 = .ok (.bipush 63, 2) := by decide +kernel
theorem d21_35 : decode method_5_code 35 = .ok (.iand, 1) := by decide +kernel
theorem d21_36 : decode method_5_code 36 = .ok (.if_icmp .eq 5, 3) := by decide +kernel
theorem d21_39 : decode method_5_code 39 = .ok (.iconst 0, 1) := by decide +kernel
theorem d21_40 : decode method_5_code 40 = .ok (.ireturn, 1) := by decide +kernel
theorem d21_17 : decode method_5_code 17 = .ok (.iconst 0, 1) := by decide +kernel
theorem d21_18 : decode method_5_code 18 = .ok (.ireturn, 1) := by decide +kernel
theorem pn_21 : plainName cLAW = true := by first | (simp [plainName, overriddenIn]; done) | decide +kernel
theorem ef_21 (m : MethodId) (x0 : Int32) (x1 : Int32) : entryFrame m #[(.int x0), (.int x1)] 4 = mkF m 0 #[.val (.int x0), .val (.int x1), .unset, .unset] [] := by first | (simp [entryFrame, mkF, argsToLocals, Value.category]; done) | rfl
def Q_rmSs (Z : State) (y : Int32) (z : Int32)  (h0 : Heap) (n0 : Nat) (vQ : Option Value) (hQ : Heap) (LQ : List Loc) : Prop := vQ = some (.int (ssF y z)) ∧ LQ = [] ∧ hQ = h0
set_option maxRecDepth 65536 in
set_option maxHeartbeats 40000000 in
theorem rmSs (l : Launch) (Z : State) (a0 : Array Value) (hw : ∀ d ∈ tables_1, d.before a0 Z = true) (ws : List Jvm.Cond) (y : Int32) (z : Int32)  (h0 : Heap) (n0 : Nat) (Z0 : n0 ≤ h0.size) :
    MetFree l (⟨cLAW, "sameSig", "(II)Z"⟩ : MethodName) (head1 (Jvm.Cond.code (⟨cLAW, "sameSig", "(II)Z"⟩ : MethodName) method_5_code 4 (some .boolean) :: ws) ({ frames := 0, cells := 0, slots := 0, locals := 0 } : Room)) (fun aQ UQ => aQ = #[(.int y), (.int z)] ∧ Z.Warmed39 UQ.vm ∧ UQ.heap = h0) (fun _ _ _ _ _ => True) (fun _ UQ oQ UR => ∃ vQ LQ, oQ = .returned vQ ∧ Q_rmSs Z y z  h0 n0 vQ UR.heap LQ ∧ FrameEnd UQ oQ UR LQ ({ frames := 0, cells := 0, slots := 0, locals := 0 } : Room).cells ({ frames := 0, cells := 0, slots := 0, locals := 0 } : Room).slots) := by
  refine MetFree.of_bodySF (plainFor_of_name pn_21) hisR ?_
  intro p e s m args below meth c s₁ Bd hml0 hP hK
  obtain ⟨rfl, hZ, hh⟩ := hP
  have hx := Bd.exec
  have hby := Bd.bytes
  have hlk := Bd.notSynchronized
  have hml : c.maxLocals = 4 := hml0
  have hown : s.vm.findClass cLAW = some m.cls := findClass_of_methodNamed Bd.named
  have hnm := (name_of_methodNamed Bd.named Bd.method).1
  have X0 : Stand p l e ({ frames := 0, cells := 0, slots := 0, locals := 0 } : Room) s m #[(.int y), (.int z)] below meth c s₁ [] 0 0 := Stand.of_body Bd
  have e0 : s₁.heap = h0 := by rw [← hh, Bd.state]; rfl
  have N0 := Fr.nil n0
  show Go p e below _ (Done s (Q_rmSs Z y z  h0 n0) ({ frames := 0, cells := 0, slots := 0, locals := 0 } : Room).cells ({ frames := 0, cells := 0, slots := 0, locals := 0 } : Room).slots)
  refine Go.via (fun tQ kQ => castTop (ef_21 m y z) kQ) ?_
  show Go p e below (s₁.setTop (mkF m 0 #[.val (.int y), .val (.int z), .unset, .unset] [])) _
  refine Go.via (fun _ => XS.iloadN X0.here hx rfl (hb hby d21_0) rfl) ?_
  refine Go.via (fun _ => XS.iconst X0.here hx rfl (hb hby d21_1)) ?_
  refine Go.via (fun _ => XS.iand X0.here hx rfl (hb hby d21_2) rfl) ?_
  show Go p e below (s₁.setTop (mkF m 3 #[.val (.int y), .val (.int z), .unset, .unset] [(.int (y &&& (3 : Int32)))])) _
  refine Go.via (fun _ => XS.iconst X0.here hx rfl (hb hby d21_3)) ?_
  refine Go.via (fun _ => iremM X0 hx rfl (hb hby d21_4) rfl (by decide)) ?_
  show Go p e below (s₁.setTop (mkF m 5 #[.val (.int y), .val (.int z), .unset, .unset] [(.int ((y &&& (3 : Int32)) % (3 : Int32)))])) _
  refine Go.via (fun _ => XS.istoreN X0.here hx rfl (hb hby d21_5) rfl (l' := #[.val (.int y), .val (.int z), .val (.int ((y &&& (3 : Int32)) % (3 : Int32))), .unset]) rfl) ?_
  show Go p e below (s₁.setTop (mkF m 6 #[.val (.int y), .val (.int z), .val (.int ((y &&& (3 : Int32)) % (3 : Int32))), .unset] [])) _
  refine Go.via (fun _ => XS.iloadN X0.here hx rfl (hb hby d21_6) rfl) ?_
  refine Go.via (fun _ => XS.iconst X0.here hx rfl (hb hby d21_7)) ?_
  refine Go.via (fun _ => XS.iand X0.here hx rfl (hb hby d21_8) rfl) ?_
  show Go p e below (s₁.setTop (mkF m 9 #[.val (.int y), .val (.int z), .val (.int ((y &&& (3 : Int32)) % (3 : Int32))), .unset] [(.int (z &&& (3 : Int32)))])) _
  refine Go.via (fun _ => XS.iconst X0.here hx rfl (hb hby d21_9)) ?_
  refine Go.via (fun _ => iremM X0 hx rfl (hb hby d21_10) rfl (by decide)) ?_
  show Go p e below (s₁.setTop (mkF m 11 #[.val (.int y), .val (.int z), .val (.int ((y &&& (3 : Int32)) % (3 : Int32))), .unset] [(.int ((z &&& (3 : Int32)) % (3 : Int32)))])) _
  refine Go.via (fun _ => XS.istoreN X0.here hx rfl (hb hby d21_11) rfl (l' := #[.val (.int y), .val (.int z), .val (.int ((y &&& (3 : Int32)) % (3 : Int32))), .val (.int ((z &&& (3 : Int32)) % (3 : Int32)))]) rfl) ?_
  show Go p e below (s₁.setTop (mkF m 12 #[.val (.int y), .val (.int z), .val (.int ((y &&& (3 : Int32)) % (3 : Int32))), .val (.int ((z &&& (3 : Int32)) % (3 : Int32)))] [])) _
  refine Go.via (fun _ => XS.iloadN X0.here hx rfl (hb hby d21_12) rfl) ?_
  refine Go.via (fun _ => XS.iloadN X0.here hx rfl (hb hby d21_13) rfl) ?_
  by_cases hc388 : ((y &&& (3 : Int32)) % (3 : Int32)) = ((z &&& (3 : Int32)) % (3 : Int32))
  · refine Go.via (fun _ => XS.icmpYes X0.here hx rfl (pc0 := 14) (pc' := 19) rfl (hb hby d21_14) rfl (teq (hc388 : ((y &&& (3 : Int32)) % (3 : Int32)) = ((z &&& (3 : Int32)) % (3 : Int32)))).1 (by decide) (by decide)) ?_
    refine Go.via (fun _ => XS.iloadN X0.here hx rfl (hb hby d21_19) rfl) ?_
    refine Go.via (fun _ => XS.iconst X0.here hx rfl (hb hby d21_20)) ?_
    show Go p e below (s₁.setTop (mkF m 21 #[.val (.int y), .val (.int z), .val (.int ((y &&& (3 : Int32)) % (3 : Int32))), .val (.int ((z &&& (3 : Int32)) % (3 : Int32)))] [(.int (1 : Int32)), (.int ((y &&& (3 : Int32)) % (3 : Int32)))])) _
    by_cases hc389 : ((y &&& (3 : Int32)) % (3 : Int32)) < (1 : Int32)
    · refine Go.via (fun _ => XS.icmpYes X0.here hx rfl (pc0 := 21) (pc' := 41) rfl (hb hby d21_21) rfl (tlt (hc389 : ((y &&& (3 : Int32)) % (3 : Int32)) < (1 : Int32))).1 (by decide) (by decide)) ?_
      show Go p e below (s₁.setTop (mkF m 41 #[.val (.int y), .val (.int z), .val (.int ((y &&& (3 : Int32)) % (3 : Int32))), .val (.int ((z &&& (3 : Int32)) % (3 : Int32)))] [])) _
      refine Go.via (fun _ => XS.iloadN X0.here hx rfl (hb hby d21_41) rfl) ?_
      refine Go.via (fun _ => XS.iconst X0.here hx rfl (hb hby d21_42)) ?_
      by_cases hc390 : ((y &&& (3 : Int32)) % (3 : Int32)) < (2 : Int32)
      · refine Go.via (fun _ => XS.icmpYes X0.here hx rfl (pc0 := 43) (pc' := 65) rfl (hb hby d21_43) rfl (tlt (hc390 : ((y &&& (3 : Int32)) % (3 : Int32)) < (2 : Int32))).1 (by decide) (by decide)) ?_
        refine Go.via (fun _ => XS.iconst X0.here hx rfl (hb hby d21_65)) ?_
        exact Go.fin X0 hlk (v := some (.int (1 : Int32))) (fun h => by rw [Bd.returns] at h; cases h) (fun fs hr => retN X0 hx (t := .boolean) Bd.returns (by simp) (hb hby d21_66) hr) (by rw [e0]; exact ⟨(congrArg (fun qq => some (Value.int qq)) (Eq.symm ((if_pos hc388).trans ((if_pos hc389).trans ((if_pos hc390).trans rfl))))), rfl, rfl⟩) (by decide) (by decide)
      · refine Go.via (fun _ => XS.icmpNo X0.here hx rfl (hb hby d21_43) rfl (flt (hc390 : ¬ (((y &&& (3 : Int32)) % (3 : Int32)) < (2 : Int32)))).1) ?_
        refine Go.via (fun _ => XS.iloadN X0.here hx rfl (hb hby d21_46) rfl) ?_
        refine Go.via (fun _ => XS.bipush X0.here hx rfl (hb hby d21_47)) ?_
        show Go p e below (s₁.setTop (mkF m 49 #[.val (.int y), .val (.int z), .val (.int ((y &&& (3 : Int32)) % (3 : Int32))), .val (.int ((z &&& (3 : Int32)) % (3 : Int32)))] [(.int (8 : Int32)), (.int y)])) _
        refine Go.via (fun _ => XS.iushr X0.here hx rfl (hb hby d21_49) rfl) ?_
        show Go p e below (s₁.setTop (mkF m 50 #[.val (.int y), .val (.int z), .val (.int ((y &&& (3 : Int32)) % (3 : Int32))), .val (.int ((z &&& (3 : Int32)) % (3 : Int32)))] [(.int ((y.toUInt32 >>> ((8 : Int32) &&& 31).toUInt32).toInt32))])) _
        refine Go.via (fun _ => XS.bipush X0.here hx rfl (hb hby d21_50)) ?_
        refine Go.via (fun _ => XS.iand X0.here hx rfl (hb hby d21_52) rfl) ?_
        show Go p e below (s₁.setTop (mkF m 53 #[.val (.int y), .val (.int z), .val (.int ((y &&& (3 : Int32)) % (3 : Int32))), .val (.int ((z &&& (3 : Int32)) % (3 : Int32)))] [(.int (((y.toUInt32 >>> ((8 : Int32) &&& 31).toUInt32).toInt32) &&& (63 : Int32)))])) _
        refine Go.via (fun _ => XS.iloadN X0.here hx rfl (hb hby d21_53) rfl) ?_
        refine Go.via (fun _ => XS.bipush X0.here hx rfl (hb hby d21_54)) ?_
        refine Go.via (fun _ => XS.iushr X0.here hx rfl (hb hby d21_56) rfl) ?_
        show Go p e below (s₁.setTop (mkF m 57 #[.val (.int y), .val (.int z), .val (.int ((y &&& (3 : Int32)) % (3 : Int32))), .val (.int ((z &&& (3 : Int32)) % (3 : Int32)))] [(.int ((z.toUInt32 >>> ((8 : Int32) &&& 31).toUInt32).toInt32)), (.int (((y.toUInt32 >>> ((8 : Int32) &&& 31).toUInt32).toInt32) &&& (63 : Int32)))])) _
        refine Go.via (fun _ => XS.bipush X0.here hx rfl (hb hby d21_57)) ?_
        refine Go.via (fun _ => XS.iand X0.here hx rfl (hb hby d21_59) rfl) ?_
        show Go p e below (s₁.setTop (mkF m 60 #[.val (.int y), .val (.int z), .val (.int ((y &&& (3 : Int32)) % (3 : Int32))), .val (.int ((z &&& (3 : Int32)) % (3 : Int32)))] [(.int (((z.toUInt32 >>> ((8 : Int32) &&& 31).toUInt32).toInt32) &&& (63 : Int32))), (.int (((y.toUInt32 >>> ((8 : Int32) &&& 31).toUInt32).toInt32) &&& (63 : Int32)))])) _
        by_cases hc391 : (((y.toUInt32 >>> ((8 : Int32) &&& 31).toUInt32).toInt32) &&& (63 : Int32)) = (((z.toUInt32 >>> ((8 : Int32) &&& 31).toUInt32).toInt32) &&& (63 : Int32))
        · refine Go.via (fun _ => XS.icmpYes X0.here hx rfl (pc0 := 60) (pc' := 65) rfl (hb hby d21_60) rfl (teq (hc391 : (((y.toUInt32 >>> ((8 : Int32) &&& 31).toUInt32).toInt32) &&& (63 : Int32)) = (((z.toUInt32 >>> ((8 : Int32) &&& 31).toUInt32).toInt32) &&& (63 : Int32)))).1 (by decide) (by decide)) ?_
          show Go p e below (s₁.setTop (mkF m 65 #[.val (.int y), .val (.int z), .val (.int ((y &&& (3 : Int32)) % (3 : Int32))), .val (.int ((z &&& (3 : Int32)) % (3 : Int32)))] [])) _
          refine Go.via (fun _ => XS.iconst X0.here hx rfl (hb hby d21_65)) ?_
          exact Go.fin X0 hlk (v := some (.int (1 : Int32))) (fun h => by rw [Bd.returns] at h; cases h) (fun fs hr => retN X0 hx (t := .boolean) Bd.returns (by simp) (hb hby d21_66) hr) (by rw [e0]; exact ⟨(congrArg (fun qq => some (Value.int qq)) (Eq.symm ((if_pos hc388).trans ((if_pos hc389).trans ((if_neg hc390).trans ((if_pos hc391).trans rfl)))))), rfl, rfl⟩) (by decide) (by decide)
        · refine Go.via (fun _ => XS.icmpNo X0.here hx rfl (hb hby d21_60) rfl (feq (hc391 : ¬ ((((y.toUInt32 >>> ((8 : Int32) &&& 31).toUInt32).toInt32) &&& (63 : Int32)) = (((z.toUInt32 >>> ((8 : Int32) &&& 31).toUInt32).toInt32) &&& (63 : Int32))))).1) ?_
          show Go p e below (s₁.setTop (mkF m 63 #[.val (.int y), .val (.int z), .val (.int ((y &&& (3 : Int32)) % (3 : Int32))), .val (.int ((z &&& (3 : Int32)) % (3 : Int32)))] [])) _
          refine Go.via (fun _ => XS.iconst X0.here hx rfl (hb hby d21_63)) ?_
          exact Go.fin X0 hlk (v := some (.int (0 : Int32))) (fun h => by rw [Bd.returns] at h; cases h) (fun fs hr => retN X0 hx (t := .boolean) Bd.returns (by simp) (hb hby d21_64) hr) (by rw [e0]; exact ⟨(congrArg (fun qq => some (Value.int qq)) (Eq.symm ((if_pos hc388).trans ((if_pos hc389).trans ((if_neg hc390).trans ((if_neg hc391).trans rfl)))))), rfl, rfl⟩) (by decide) (by decide)
    · refine Go.via (fun _ => XS.icmpNo X0.here hx rfl (hb hby d21_21) rfl (flt (hc389 : ¬ (((y &&& (3 : Int32)) % (3 : Int32)) < (1 : Int32)))).1) ?_
      show Go p e below (s₁.setTop (mkF m 24 #[.val (.int y), .val (.int z), .val (.int ((y &&& (3 : Int32)) % (3 : Int32))), .val (.int ((z &&& (3 : Int32)) % (3 : Int32)))] [])) _
      refine Go.via (fun _ => XS.iloadN X0.here hx rfl (hb hby d21_24) rfl) ?_
      refine Go.via (fun _ => XS.iconst X0.here hx rfl (hb hby d21_25)) ?_
      refine Go.via (fun _ => XS.iushr X0.here hx rfl (hb hby d21_26) rfl) ?_
      show Go p e below (s₁.setTop (mkF m 27 #[.val (.int y), .val (.int z), .val (.int ((y &&& (3 : Int32)) % (3 : Int32))), .val (.int ((z &&& (3 : Int32)) % (3 : Int32)))] [(.int ((y.toUInt32 >>> ((2 : Int32) &&& 31).toUInt32).toInt32))])) _
      refine Go.via (fun _ => XS.bipush X0.here hx rfl (hb hby d21_27)) ?_
      refine Go.via (fun _ => XS.iand X0.here hx rfl (hb hby d21_29) rfl) ?_
      show Go p e below (s₁.setTop (mkF m 30 #[.val (.int y), .val (.int z), .val (.int ((y &&& (3 : Int32)) % (3 : Int32))), .val (.int ((z &&& (3 : Int32)) % (3 : Int32)))] [(.int (((y.toUInt32 >>> ((2 : Int32) &&& 31).toUInt32).toInt32) &&& (63 : Int32)))])) _
      refine Go.via (fun _ => XS.iloadN X0.here hx rfl (hb hby d21_30) rfl) ?_
      refine Go.via (fun _ => XS.iconst X0.here hx rfl (hb hby d21_31)) ?_
      refine Go.via (fun _ => XS.iushr X0.here hx rfl (hb hby d21_32) rfl) ?_
      show Go p e below (s₁.setTop (mkF m 33 #[.val (.int y), .val (.int z), .val (.int ((y &&& (3 : Int32)) % (3 : Int32))), .val (.int ((z &&& (3 : Int32)) % (3 : Int32)))] [(.int ((z.toUInt32 >>> ((2 : Int32) &&& 31).toUInt32).toInt32)), (.int (((y.toUInt32 >>> ((2 : Int32) &&& 31).toUInt32).toInt32) &&& (63 : Int32)))])) _
      refine Go.via (fun _ => XS.bipush X0.here hx rfl (hb hby d21_33)) ?_
      refine Go.via (fun _ => XS.iand X0.here hx rfl (hb hby d21_35) rfl) ?_
      show Go p e below (s₁.setTop (mkF m 36 #[.val (.int y), .val (.int z), .val (.int ((y &&& (3 : Int32)) % (3 : Int32))), .val (.int ((z &&& (3 : Int32)) % (3 : Int32)))] [(.int (((z.toUInt32 >>> ((2 : Int32) &&& 31).toUInt32).toInt32) &&& (63 : Int32))), (.int (((y.toUInt32 >>> ((2 : Int32) &&& 31).toUInt32).toInt32) &&& (63 : Int32)))])) _
      by_cases hc392 : (((y.toUInt32 >>> ((2 : Int32) &&& 31).toUInt32).toInt32) &&& (63 : Int32)) = (((z.toUInt32 >>> ((2 : Int32) &&& 31).toUInt32).toInt32) &&& (63 : Int32))
      · refine Go.via (fun _ => XS.icmpYes X0.here hx rfl (pc0 := 36) (pc' := 41) rfl (hb hby d21_36) rfl (teq (hc392 : (((y.toUInt32 >>> ((2 : Int32) &&& 31).toUInt32).toInt32) &&& (63 : Int32)) = (((z.toUInt32 >>> ((2 : Int32) &&& 31).toUInt32).toInt32) &&& (63 : Int32)))).1 (by decide) (by decide)) ?_
        show Go p e below (s₁.setTop (mkF m 41 #[.val (.int y), .val (.int z), .val (.int ((y &&& (3 : Int32)) % (3 : Int32))), .val (.int ((z &&& (3 : Int32)) % (3 : Int32)))] [])) _
        refine Go.via (fun _ => XS.iloadN X0.here hx rfl (hb hby d21_41) rfl) ?_
        refine Go.via (fun _ => XS.iconst X0.here hx rfl (hb hby d21_42)) ?_
        by_cases hc393 : ((y &&& (3 : Int32)) % (3 : Int32)) < (2 : Int32)
        · refine Go.via (fun _ => XS.icmpYes X0.here hx rfl (pc0 := 43) (pc' := 65) rfl (hb hby d21_43) rfl (tlt (hc393 : ((y &&& (3 : Int32)) % (3 : Int32)) < (2 : Int32))).1 (by decide) (by decide)) ?_
          refine Go.via (fun _ => XS.iconst X0.here hx rfl (hb hby d21_65)) ?_
          exact Go.fin X0 hlk (v := some (.int (1 : Int32))) (fun h => by rw [Bd.returns] at h; cases h) (fun fs hr => retN X0 hx (t := .boolean) Bd.returns (by simp) (hb hby d21_66) hr) (by rw [e0]; exact ⟨(congrArg (fun qq => some (Value.int qq)) (Eq.symm ((if_pos hc388).trans ((if_neg hc389).trans ((if_pos hc392).trans ((if_pos hc393).trans rfl)))))), rfl, rfl⟩) (by decide) (by decide)
        · refine Go.via (fun _ => XS.icmpNo X0.here hx rfl (hb hby d21_43) rfl (flt (hc393 : ¬ (((y &&& (3 : Int32)) % (3 : Int32)) < (2 : Int32)))).1) ?_
          refine Go.via (fun _ => XS.iloadN X0.here hx rfl (hb hby d21_46) rfl) ?_
          refine Go.via (fun _ => XS.bipush X0.here hx rfl (hb hby d21_47)) ?_
          show Go p e below (s₁.setTop (mkF m 49 #[.val (.int y), .val (.int z), .val (.int ((y &&& (3 : Int32)) % (3 : Int32))), .val (.int ((z &&& (3 : Int32)) % (3 : Int32)))] [(.int (8 : Int32)), (.int y)])) _
          refine Go.via (fun _ => XS.iushr X0.here hx rfl (hb hby d21_49) rfl) ?_
          show Go p e below (s₁.setTop (mkF m 50 #[.val (.int y), .val (.int z), .val (.int ((y &&& (3 : Int32)) % (3 : Int32))), .val (.int ((z &&& (3 : Int32)) % (3 : Int32)))] [(.int ((y.toUInt32 >>> ((8 : Int32) &&& 31).toUInt32).toInt32))])) _
          refine Go.via (fun _ => XS.bipush X0.here hx rfl (hb hby d21_50)) ?_
          refine Go.via (fun _ => XS.iand X0.here hx rfl (hb hby d21_52) rfl) ?_
          show Go p e below (s₁.setTop (mkF m 53 #[.val (.int y), .val (.int z), .val (.int ((y &&& (3 : Int32)) % (3 : Int32))), .val (.int ((z &&& (3 : Int32)) % (3 : Int32)))] [(.int (((y.toUInt32 >>> ((8 : Int32) &&& 31).toUInt32).toInt32) &&& (63 : Int32)))])) _
          refine Go.via (fun _ => XS.iloadN X0.here hx rfl (hb hby d21_53) rfl) ?_
          refine Go.via (fun _ => XS.bipush X0.here hx rfl (hb hby d21_54)) ?_
          refine Go.via (fun _ => XS.iushr X0.here hx rfl (hb hby d21_56) rfl) ?_
          show Go p e below (s₁.setTop (mkF m 57 #[.val (.int y), .val (.int z), .val (.int ((y &&& (3 : Int32)) % (3 : Int32))), .val (.int ((z &&& (3 : Int32)) % (3 : Int32)))] [(.int ((z.toUInt32 >>> ((8 : Int32) &&& 31).toUInt32).toInt32)), (.int (((y.toUInt32 >>> ((8 : Int32) &&& 31).toUInt32).toInt32) &&& (63 : Int32)))])) _
          refine Go.via (fun _ => XS.bipush X0.here hx rfl (hb hby d21_57)) ?_
          refine Go.via (fun _ => XS.iand X0.here hx rfl (hb hby d21_59) rfl) ?_
          show Go p e below (s₁.setTop (mkF m 60 #[.val (.int y), .val (.int z), .val (.int ((y &&& (3 : Int32)) % (3 : Int32))), .val (.int ((z &&& (3 : Int32)) % (3 : Int32)))] [(.int (((z.toUInt32 >>> ((8 : Int32) &&& 31).toUInt32).toInt32) &&& (63 : Int32))), (.int (((y.toUInt32 >>> ((8 : Int32) &&& 31).toUInt32).toInt32) &&& (63 : Int32)))])) _
          by_cases hc394 : (((y.toUInt32 >>> ((8 : Int32) &&& 31).toUInt32).toInt32) &&& (63 : Int32)) = (((z.toUInt32 >>> ((8 : Int32) &&& 31).toUInt32).toInt32) &&& (63 : Int32))
          · refine Go.via (fun _ => XS.icmpYes X0.here hx rfl (pc0 := 60) (pc' := 65) rfl (hb hby d21_60) rfl (teq (hc394 : (((y.toUInt32 >>> ((8 : Int32) &&& 31).toUInt32).toInt32) &&& (63 : Int32)) = (((z.toUInt32 >>> ((8 : Int32) &&& 31).toUInt32).toInt32) &&& (63 : Int32)))).1 (by decide) (by decide)) ?_
            show Go p e below (s₁.setTop (mkF m 65 #[.val (.int y), .val (.int z), .val (.int ((y &&& (3 : Int32)) % (3 : Int32))), .val (.int ((z &&& (3 : Int32)) % (3 : Int32)))] [])) _
            refine Go.via (fun _ => XS.iconst X0.here hx rfl (hb hby d21_65)) ?_
            exact Go.fin X0 hlk (v := some (.int (1 : Int32))) (fun h => by rw [Bd.returns] at h; cases h) (fun fs hr => retN X0 hx (t := .boolean) Bd.returns (by simp) (hb hby d21_66) hr) (by rw [e0]; exact ⟨(congrArg (fun qq => some (Value.int qq)) (Eq.symm ((if_pos hc388).trans ((if_neg hc389).trans ((if_pos hc392).trans ((if_neg hc393).trans ((if_pos hc394).trans rfl))))))), rfl, rfl⟩) (by decide) (by decide)
          · refine Go.via (fun _ => XS.icmpNo X0.here hx rfl (hb hby d21_60) rfl (feq (hc394 : ¬ ((((y.toUInt32 >>> ((8 : Int32) &&& 31).toUInt32).toInt32) &&& (63 : Int32)) = (((z.toUInt32 >>> ((8 : Int32) &&& 31).toUInt32).toInt32) &&& (63 : Int32))))).1) ?_
            show Go p e below (s₁.setTop (mkF m 63 #[.val (.int y), .val (.int z), .val (.int ((y &&& (3 : Int32)) % (3 : Int32))), .val (.int ((z &&& (3 : Int32)) % (3 : Int32)))] [])) _
            refine Go.via (fun _ => XS.iconst X0.here hx rfl (hb hby d21_63)) ?_
            exact Go.fin X0 hlk (v := some (.int (0 : Int32))) (fun h => by rw [Bd.returns] at h; cases h) (fun fs hr => retN X0 hx (t := .boolean) Bd.returns (by simp) (hb hby d21_64) hr) (by rw [e0]; exact ⟨(congrArg (fun qq => some (Value.int qq)) (Eq.symm ((if_pos hc388).trans ((if_neg hc389).trans ((if_pos hc392).trans ((if_neg hc393).trans ((if_neg hc394).trans rfl))))))), rfl, rfl⟩) (by decide) (by decide)
      · refine Go.via (fun _ => XS.icmpNo X0.here hx rfl (hb hby d21_36) rfl (feq (hc392 : ¬ ((((y.toUInt32 >>> ((2 : Int32) &&& 31).toUInt32).toInt32) &&& (63 : Int32)) = (((z.toUInt32 >>> ((2 : Int32) &&& 31).toUInt32).toInt32) &&& (63 : Int32))))).1) ?_
        show Go p e below (s₁.setTop (mkF m 39 #[.val (.int y), .val (.int z), .val (.int ((y &&& (3 : Int32)) % (3 : Int32))), .val (.int ((z &&& (3 : Int32)) % (3 : Int32)))] [])) _
        refine Go.via (fun _ => XS.iconst X0.here hx rfl (hb hby d21_39)) ?_
        exact Go.fin X0 hlk (v := some (.int (0 : Int32))) (fun h => by rw [Bd.returns] at h; cases h) (fun fs hr => retN X0 hx (t := .boolean) Bd.returns (by simp) (hb hby d21_40) hr) (by rw [e0]; exact ⟨(congrArg (fun qq => some (Value.int qq)) (Eq.symm ((if_pos hc388).trans ((if_neg hc389).trans ((if_neg hc392).trans rfl))))), rfl, rfl⟩) (by decide) (by decide)
  · refine Go.via (fun _ => XS.icmpNo X0.here hx rfl (hb hby d21_14) rfl (feq (hc388 : ¬ (((y &&& (3 : Int32)) % (3 : Int32)) = ((z &&& (3 : Int32)) % (3 : Int32))))).1) ?_
    refine Go.via (fun _ => XS.iconst X0.here hx rfl (hb hby d21_17)) ?_
    exact Go.fin X0 hlk (v := some (.int (0 : Int32))) (fun h => by rw [Bd.returns] at h; cases h) (fun fs hr => retN X0 hx (t := .boolean) Bd.returns (by simp) (hb hby d21_18) hr) (by rw [e0]; exact ⟨(congrArg (fun qq => some (Value.int qq)) (Eq.symm ((if_neg hc388).trans rfl))), rfl, rfl⟩) (by decide) (by decide)
theorem d27_0 : decode jdk_18_method_1_code 0 = .ok (.aload_n 0, 1) := by decide +kernel
theorem d27_1 : decode jdk_18_method_1_code 1 = .ok (.invokespecial 1, 3) := by decide +kernel
theorem d27_4 : decode jdk_18_method_1_code 4 = .ok (.return_, 1) := by decide +kernel
theorem pn_27 : plainName "java/lang/Number" = true := by first | (simp [plainName, overriddenIn]; done) | decide +kernel
theorem ef_27 (m : MethodId) (x0 : Addr) : entryFrame m #[(.ref x0)] 1 = mkF m 0 #[.val (.ref x0)] [] := by first | (simp [entryFrame, mkF, argsToLocals, Value.category]; done) | rfl
def Q_rmNu (Z : State) (a : Addr)  (h0 : Heap) (n0 : Nat) (vQ : Option Value) (hQ : Heap) (LQ : List Loc) : Prop := vQ = none ∧ Fr n0 LQ ∧ hQ = h0
set_option maxRecDepth 65536 in
set_option maxHeartbeats 40000000 in
theorem rmNu (l : Launch) (Z : State) (a0 : Array Value) (hw : ∀ d ∈ tables_1, d.before a0 Z = true) (ws : List Jvm.Cond) (a : Addr)  (h0 : Heap) (n0 : Nat) (Z0 : n0 ≤ h0.size) :
    MetFree l (⟨"java/lang/Number", "<init>", "()V"⟩ : MethodName) (head1 (Jvm.Cond.code (⟨"java/lang/Number", "<init>", "()V"⟩ : MethodName) jdk_18_method_1_code 1 none :: ws) ({ frames := 1, cells := 0, slots := 0, locals := 12 } : Room)) (fun aQ UQ => aQ = #[(.ref a)] ∧ Z.Warmed39 UQ.vm ∧ UQ.heap = h0) (fun _ _ _ _ _ => True) (fun _ UQ oQ UR => ∃ vQ LQ, oQ = .returned vQ ∧ Q_rmNu Z a  h0 n0 vQ UR.heap LQ ∧ FrameEnd UQ oQ UR LQ ({ frames := 1, cells := 0, slots := 0, locals := 12 } : Room).cells ({ frames := 1, cells := 0, slots := 0, locals := 12 } : Room).slots) := by
  refine MetFree.of_bodySF (plainFor_of_name pn_27) hisR ?_
  intro p e s m args below meth c s₁ Bd hml0 hP hK
  obtain ⟨rfl, hZ, hh⟩ := hP
  have hx := Bd.exec
  have hby := Bd.bytes
  have hlk := Bd.notSynchronized
  have hml : c.maxLocals = 1 := hml0
  have hown : s.vm.findClass "java/lang/Number" = some m.cls := findClass_of_methodNamed Bd.named
  have hnm := (name_of_methodNamed Bd.named Bd.method).1
  have X0 : Stand p l e ({ frames := 1, cells := 0, slots := 0, locals := 12 } : Room) s m #[(.ref a)] below meth c s₁ [] 0 0 := Stand.of_body Bd
  have e0 : s₁.heap = h0 := by rw [← hh, Bd.state]; rfl
  have N0 := Fr.nil n0
  show Go p e below _ (Done s (Q_rmNu Z a  h0 n0) ({ frames := 1, cells := 0, slots := 0, locals := 12 } : Room).cells ({ frames := 1, cells := 0, slots := 0, locals := 12 } : Room).slots)
  refine Go.via (fun tQ kQ => castTop (ef_27 m a) kQ) ?_
  show Go p e below (s₁.setTop (mkF m 0 #[.val (.ref a)] [])) _
  refine Go.via (fun _ => XS.aloadN X0.here hx rfl (hb hby d27_0) rfl rfl) ?_
  obtain ⟨T395, X395, e395, st395⟩ := initO X0 hx hZ hown (tw hw 148 rfl) (tw hw 24 rfl) (tw hw 25 rfl) e0 (g := (mkF m 1 #[.val (.ref a)] [(.ref a)])) rfl (by rw [hml]; rfl) rfl (hb hby d27_1) (by decide) (W := 0) (by show 2 * 0 + _ ≤ _; exact Nat.le_of_eq rfl) (by decide)
  refine Go.via (st395) ?_
  clear st395
  clear X0 e0
  show Go p e below (T395.setTop (mkF m 4 #[.val (.ref a)] [])) _
  exact Go.fin X395 hlk (v := none) (fun _ => rfl) (fun fs hr => X395.returnOut hx Bd.returns (hb hby d27_4) hr) (by rw [e395]; exact ⟨rfl, N0, rfl⟩) (by decide) (by decide)
theorem d26_0 : decode jdk_33_method_23_code 0 = .ok (.aload_n 0, 1) := by decide +kernel
theorem d26_1 : decode jdk_33_method_23_code 1 = .ok (.invokespecial 202, 3) := by decide +kernel
theorem pd__28_29V : parseMethodDescriptor "()V" = some ⟨[], none⟩ := by decide +kernel
theorem d26_4 : decode jdk_33_method_23_code 4 = .ok (.aload_n 0, 1) := by decide +kernel
theorem d26_5 : decode jdk_33_method_23_code 5 = .ok (.iload_n 1, 1) := by decide +kernel
theorem d26_6 : decode jdk_33_method_23_code 6 = .ok (.putfield 205, 3) := by decide +kernel
theorem d26_9 : decode jdk_33_method_23_code 9 = .ok (.return_, 1) := by decide +kernel
theorem pn_26 : plainName cIN = true := by first | (simp [plainName, overriddenIn]; done) | decide +kernel
theorem ef_26 (m : MethodId) (x0 : Addr) (x1 : Int32) : entryFrame m #[(.ref x0), (.int x1)] 2 = mkF m 0 #[.val (.ref x0), .val (.int x1)] [] := by first | (simp [entryFrame, mkF, argsToLocals, Value.category]; done) | rfl
def Q_rmIi (Z : State) (a : Addr) (n : Int32)  (h0 : Heap) (n0 : Nat) (vQ : Option Value) (hQ : Heap) (LQ : List Loc) : Prop := vQ = none ∧ Fr n0 LQ ∧ Keep h0 hQ [a] ∧ Exa Z hQ a cIN
set_option maxRecDepth 65536 in
set_option maxHeartbeats 40000000 in
theorem rmIi (l : Launch) (Z : State) (a0 : Array Value) (hw : ∀ d ∈ tables_1, d.before a0 Z = true) (ws : List Jvm.Cond) (a : Addr) (n : Int32)  (h0 : Heap) (n0 : Nat) (Z0 : n0 ≤ h0.size) (P0 : Exa Z h0 a cIN) (P1 : Fld Z h0 a cIN "value" "I" (.int (0 : Int32))) (g_a : n0 ≤ a) :
    MetFree l (⟨cIN, "<init>", "(I)V"⟩ : MethodName) (head1 (Jvm.Cond.code (⟨cIN, "<init>", "(I)V"⟩ : MethodName) jdk_33_method_23_code 2 none :: ws) ({ frames := 2, cells := 0, slots := 0, locals := 24 } : Room)) (fun aQ UQ => aQ = #[(.ref a), (.int n)] ∧ Z.Warmed39 UQ.vm ∧ UQ.heap = h0) (fun _ _ _ _ _ => True) (fun _ UQ oQ UR => ∃ vQ LQ, oQ = .returned vQ ∧ Q_rmIi Z a n  h0 n0 vQ UR.heap LQ ∧ FrameEnd UQ oQ UR LQ ({ frames := 2, cells := 0, slots := 0, locals := 24 } : Room).cells ({ frames := 2, cells := 0, slots := 0, locals := 24 } : Room).slots) := by
  refine MetFree.of_bodySF (plainFor_of_name pn_26) hisR ?_
  intro p e s m args below meth c s₁ Bd hml0 hP hK
  obtain ⟨rfl, hZ, hh⟩ := hP
  have hx := Bd.exec
  have hby := Bd.bytes
  have hlk := Bd.notSynchronized
  have hml : c.maxLocals = 2 := hml0
  have hown : s.vm.findClass cIN = some m.cls := findClass_of_methodNamed Bd.named
  have hnm := (name_of_methodNamed Bd.named Bd.method).1
  have X0 : Stand p l e ({ frames := 2, cells := 0, slots := 0, locals := 24 } : Room) s m #[(.ref a), (.int n)] below meth c s₁ [] 0 0 := Stand.of_body Bd
  have e0 : s₁.heap = h0 := by rw [← hh, Bd.state]; rfl
  have N0 := Fr.nil n0
  show Go p e below _ (Done s (Q_rmIi Z a n  h0 n0) ({ frames := 2, cells := 0, slots := 0, locals := 24 } : Room).cells ({ frames := 2, cells := 0, slots := 0, locals := 24 } : Room).slots)
  refine Go.via (fun tQ kQ => castTop (ef_26 m a n) kQ) ?_
  show Go p e below (s₁.setTop (mkF m 0 #[.val (.ref a), .val (.int n)] [])) _
  refine Go.via (fun _ => XS.aloadN X0.here hx rfl (hb hby d26_0) rfl rfl) ?_
  obtain ⟨r396, _, ⟨T396, L396, k396, n396⟩, -, X396, ⟨Lc396, hQ396, l396, y396, z396⟩, st396⟩ := X0.specialBack hx (y := (⟨"java/lang/Number", "<init>", "()V"⟩ : MethodName)) rfl hown (mvT hZ (tw hw 142 rfl)) (mvT hZ (tw hw 143 rfl)) (mvT hZ (tw hw 147 rfl)) (by decide) (backOf (W := 0) (rmNu l Z a0 hw [] a  h0 n0 Z0) hZ (tw hw 147 rfl) (tw hw 146 rfl) (by decide) (by decide)) (g := (mkF m 1 #[.val (.ref a), .val (.int n)] [(.ref a)])) rfl (by rw [hml]; rfl) (Steps.refl _) (a := a) (argsL := []) (rest := []) (lenOf pd__28_29V rfl) rfl (by show 2 * 0 + _ ≤ _; exact Nat.le_of_eq rfl) (hb hby d26_1) (fun _ _ => ⟨rfl, e0, (by decide : 0 + 0 ≤ _), (by decide : 0 + 0 ≤ _)⟩)
  dsimp only [Pt.U, Pt.locs, Pt.cells, Pt.slots] at X396 l396 y396 z396 st396 hQ396
  rw [l396, y396, z396] at X396
  clear l396 y396 z396
  obtain ⟨hr396, N396q, eh396⟩ := hQ396
  rw [hr396] at st396
  clear hr396
  have N396 := Fr.app N0 N396q
  refine Go.via (fun _ kQ => st396.trans kQ) ?_
  clear st396
  have e396 : T396.heap = h0 := eh396
  clear X0 e0
  show Go p e below (T396.setTop (mkF m 4 #[.val (.ref a), .val (.int n)] [])) _
  refine Go.via (fun _ => XS.aloadN X396.here hx rfl (hb hby d26_4) rfl rfl) ?_
  refine Go.via (fun _ => XS.iloadN X396.here hx rfl (hb hby d26_5) rfl) ?_
  obtain ⟨T397, h397, X397, e397, W397, st397⟩ := putF X396 hx hZ hown (host := "") (Or.inl (tw hw 149 rfl)) Via.refl e396 P1 P0 (Or.inr ⟨(tw hw 150 rfl), rfl, hnm⟩) (tw hw 137 rfl) (ty := .int) (by decide) rfl rfl (g := (mkF m 6 #[.val (.ref a), .val (.int n)] [(.int n), (.ref a)])) rfl rfl (hb hby d26_6)
  refine Go.via (st397) ?_
  clear st397
  have N397 := Fr.snoc X397 N396 g_a
  have f398 : Fld Z h397 a cIN "value" "I" (.int n) := P1.same W397
  clear X396 e396
  show Go p e below (T397.setTop (mkF m 9 #[.val (.ref a), .val (.int n)] [])) _
  have k399 : Keep h0 h397 [a] := ((Keep.refl h0 [a]).wr W397 (Or.inl (List.mem_of_getElem? (i := 0) rfl)))
  have f400 : Exa Z h397 a cIN := (P0.wr W397)
  exact Go.fin X397 hlk (v := none) (fun _ => rfl) (fun fs hr => X397.returnOut hx Bd.returns (hb hby d26_9) hr) (by rw [e397]; exact ⟨rfl, N397, k399, f400⟩) (by decide) (by decide)
theorem d25_0 : decode jdk_33_method_22_code 0 = .ok (.iload_n 0, 1) := by decide +kernel
theorem d25_1 : decode jdk_33_method_22_code 1 = .ok (.bipush (-128), 2) := by decide +kernel
theorem d25_3 : decode jdk_33_method_22_code 3 = .ok (.if_icmp .lt 20, 3) := by decide +kernel
theorem d25_23 : decode jdk_33_method_22_code 23 = .ok (.new 1, 3) := by decide +kernel
theorem d25_26 : decode jdk_33_method_22_code 26 = .ok (.dup, 1) := by decide +kernel
theorem d25_27 : decode jdk_33_method_22_code 27 = .ok (.iload_n 0, 1) := by decide +kernel
theorem d25_28 : decode jdk_33_method_22_code 28 = .ok (.invokespecial 199, 3) := by decide +kernel
theorem pd__28I_29V : parseMethodDescriptor "(I)V" = some ⟨[.int], none⟩ := by decide +kernel
theorem d25_31 : decode jdk_33_method_22_code 31 = .ok (.areturn, 1) := by decide +kernel
theorem d25_6 : decode jdk_33_method_22_code 6 = .ok (.iload_n 0, 1) := by decide +kernel
theorem d25_7 : decode jdk_33_method_22_code 7 = .ok (.getstatic 191, 3) := by decide +kernel
theorem d25_10 : decode jdk_33_method_22_code 10 = .ok (.if_icmp .gt 13, 3) := by decide +kernel
theorem d25_13 : decode jdk_33_method_22_code 13 = .ok (.getstatic 195, 3) := by decide +kernel
theorem d25_16 : decode jdk_33_method_22_code 16 = .ok (.iload_n 0, 1) := by decide +kernel
theorem d25_17 : decode jdk_33_method_22_code 17 = .ok (.sipush 128, 3) := by decide +kernel
theorem d25_20 : decode jdk_33_method_22_code 20 = .ok (.iadd, 1) := by decide +kernel
theorem d25_21 : decode jdk_33_method_22_code 21 = .ok (.aaload, 1) := by decide +kernel
theorem d25_22 : decode jdk_33_method_22_code 22 = .ok (.areturn, 1) := by decide +kernel
theorem pn_25 : plainName cIN = true := by first | (simp [plainName, overriddenIn]; done) | decide +kernel
theorem ef_25 (m : MethodId) (x0 : Int32) : entryFrame m #[(.int x0)] 1 = mkF m 0 #[.val (.int x0)] [] := by first | (simp [entryFrame, mkF, argsToLocals, Value.category]; done) | rfl
def Q_rmVo (Z : State) (n : Int32) (ic : Addr) (cl : Cell) (h0 : Heap) (n0 : Nat) (vQ : Option Value) (hQ : Heap) (LQ : List Loc) : Prop := ∃ r : Addr, vQ = some (.ref r) ∧ Fr n0 LQ ∧ Keep h0 hQ [] ∧ Exa Z hQ r cIN
set_option maxRecDepth 65536 in
set_option maxHeartbeats 40000000 in
theorem rmVo (l : Launch) (Z : State) (a0 : Array Value) (hw : ∀ d ∈ tables_1, d.before a0 Z = true) (ws : List Jvm.Cond) (n : Int32) (ic : Addr) (cl : Cell) (h0 : Heap) (n0 : Nat) (Z0 : n0 ≤ h0.size) (P0 : Old Z n0 h0) (zH : Sta Z Z.heap cIC "high" "I" (.int (127 : Int32))) (zC : Sta Z Z.heap cIC "cache" "[Ljava/lang/Integer;" (.ref ic)) (hA : Arr Z Z.heap ic cl (.object cIN)) (hca : ∀ i : Int32, ¬ i < (-128 : Int32) → ¬ (127 : Int32) < i → ∃ bb : Addr, (¬ ((i + (128 : Int32)) < 0 ∨ cl.slots.size ≤ (i + (128 : Int32)).toNatClampNeg)) ∧ cl.slots[(i + (128 : Int32)).toNatClampNeg]? = some (.ref bb) ∧ Exa Z Z.heap bb cIN) :
    MetFree l (⟨cIN, "valueOf", "(I)Ljava/lang/Integer;"⟩ : MethodName) (head1 (Jvm.Cond.code (⟨cIN, "valueOf", "(I)Ljava/lang/Integer;"⟩ : MethodName) jdk_33_method_22_code 1 (some (.object cIN)) :: ws) ({ frames := 3, cells := 1, slots := 1, locals := 38 } : Room)) (fun aQ UQ => aQ = #[(.int n)] ∧ Z.Warmed39 UQ.vm ∧ UQ.heap = h0) (fun _ _ _ _ _ => True) (fun _ UQ oQ UR => ∃ vQ LQ, oQ = .returned vQ ∧ Q_rmVo Z n ic cl h0 n0 vQ UR.heap LQ ∧ FrameEnd UQ oQ UR LQ ({ frames := 3, cells := 1, slots := 1, locals := 38 } : Room).cells ({ frames := 3, cells := 1, slots := 1, locals := 38 } : Room).slots) := by
  refine MetFree.of_bodySF (plainFor_of_name pn_25) hisR ?_
  intro p e s m args below meth c s₁ Bd hml0 hP hK
  obtain ⟨rfl, hZ, hh⟩ := hP
  have hx := Bd.exec
  have hby := Bd.bytes
  have hlk := Bd.notSynchronized
  have hml : c.maxLocals = 1 := hml0
  have hown : s.vm.findClass cIN = some m.cls := findClass_of_methodNamed Bd.named
  have hnm := (name_of_methodNamed Bd.named Bd.method).1
  have X0 : Stand p l e ({ frames := 3, cells := 1, slots := 1, locals := 38 } : Room) s m #[(.int n)] below meth c s₁ [] 0 0 := Stand.of_body Bd
  have e0 : s₁.heap = h0 := by rw [← hh, Bd.state]; rfl
  have N0 := Fr.nil n0
  show Go p e below _ (Done s (Q_rmVo Z n ic cl h0 n0) ({ frames := 3, cells := 1, slots := 1, locals := 38 } : Room).cells ({ frames := 3, cells := 1, slots := 1, locals := 38 } : Room).slots)
  refine Go.via (fun tQ kQ => castTop (ef_25 m n) kQ) ?_
  show Go p e below (s₁.setTop (mkF m 0 #[.val (.int n)] [])) _
  refine Go.via (fun _ => XS.iloadN X0.here hx rfl (hb hby d25_0) rfl) ?_
  refine Go.via (fun _ => XS.bipush X0.here hx rfl (hb hby d25_1)) ?_
  by_cases hc401 : n < (-128 : Int32)
  · refine Go.via (fun _ => XS.icmpYes X0.here hx rfl (pc0 := 3) (pc' := 23) rfl (hb hby d25_3) rfl (tlt (hc401 : n < (-128 : Int32))).1 (by decide) (by decide)) ?_
    obtain ⟨T402, h402, X402, e402, E402, A402, D402, -, st402⟩ := newO X0 hx hZ hown (tw hw 136 rfl) (tw hw 137 rfl) (tw hw 128 rfl) e0 (g := (mkF m 23 #[.val (.int n)] [])) rfl (hb hby d25_23) (by decide) (by decide)
    obtain ⟨b402, g402⟩ : ∃ z, z = h0.size := ⟨_, rfl⟩
    rw [← g402] at A402 D402 st402
    have ge403 : n0 ≤ b402 := Nat.le_trans Z0 (Nat.le_of_eq g402.symm)
    have sz404 : h0.size ≤ b402 := Nat.le_trans (Keep.refl h0 []).1 (Nat.le_of_eq g402.symm)
    refine Go.via (st402) ?_
    clear st402
    have f405 : Fld Z h402 b402 cIN "value" "I" (.int (0 : Int32)) := D402 (Or.inr (tw hw 150 rfl)) (ty := .int) (by decide)
    clear X0 e0
    show Go p e below (T402.setTop (mkF m 26 #[.val (.int n)] [(.ref b402)])) _
    refine Go.via (fun _ => XS.dup X402.here hx rfl (hb hby d25_26) rfl rfl) ?_
    refine Go.via (fun _ => XS.iloadN X402.here hx rfl (hb hby d25_27) rfl) ?_
    have z407 : n0 ≤ h402.size := (Nat.le_trans Z0 E402.1)
    obtain ⟨r406, _, ⟨T406, L406, k406, n406⟩, -, X406, ⟨Lc406, hQ406, l406, y406, z406⟩, st406⟩ := X402.specialBack hx (y := (⟨cIN, "<init>", "(I)V"⟩ : MethodName)) rfl hown (mvT hZ (tw hw 138 rfl)) (mvT hZ (tw hw 139 rfl)) (mvT hZ (tw hw 141 rfl)) (by decide) (backOf (W := 1) (rmIi l Z a0 hw [] b402 n  h402 n0 z407 A402 f405 ge403) hZ (tw hw 141 rfl) (tw hw 128 rfl) (by decide) (by decide)) (g := (mkF m 28 #[.val (.int n)] [(.int n), (.ref b402), (.ref b402)])) rfl (by rw [hml]; rfl) (Steps.refl _) (a := b402) (argsL := [(.int n)]) (rest := [(.ref b402)]) (lenOf pd__28I_29V rfl) rfl (by show 2 * 0 + _ ≤ _; exact Nat.le_of_eq rfl) (hb hby d25_28) (fun _ _ => ⟨rfl, e402, (by decide : 1 + 0 ≤ _), (by decide : 1 + 0 ≤ _)⟩)
    dsimp only [Pt.U, Pt.locs, Pt.cells, Pt.slots] at X406 l406 y406 z406 st406 hQ406
    rw [l406, y406, z406] at X406
    clear l406 y406 z406
    obtain ⟨hr406, N406q, K406q, f408⟩ := hQ406
    rw [hr406] at st406
    clear hr406
    have N406 := Fr.app N0 N406q
    refine Go.via (fun _ kQ => st406.trans kQ) ?_
    clear st406
    have e406 : T406.heap = T406.heap := rfl
    have f409 : Exa Z T406.heap b402 cIN := f408
    clear X402 e402
    show Go p e below (T406.setTop (mkF m 31 #[.val (.int n)] [(.ref b402)])) _
    have k410 : Keep h0 T406.heap [] := (((Keep.refl h0 []).ext E402).trans K406q (allS (Or.inr sz404) all0))
    exact Go.fin X406 hlk (v := some (.ref b402)) (fun h => by rw [Bd.returns] at h; cases h) (fun fs hr => retOut X406 hx Bd.returns rfl (Or.inr (Or.inr (Or.inr (Or.inr ⟨rfl, rfl, rfl⟩)))) (hb hby d25_31) hr) (by exact ⟨b402, rfl, N406, k410, f409⟩) (by decide) (by decide)
  · refine Go.via (fun _ => XS.icmpNo X0.here hx rfl (hb hby d25_3) rfl (flt (hc401 : ¬ (n < (-128 : Int32)))).1) ?_
    refine Go.via (fun _ => XS.iloadN X0.here hx rfl (hb hby d25_6) rfl) ?_
    have f411 : Sta Z h0 cIC "high" "I" (.int (127 : Int32)) := zH.ext P0.2
    obtain ⟨T412, X412, e412, st412⟩ := getS2 X0 hx hZ hown (host := "") (Or.inl (tw hw 130 rfl)) Via.refl e0 f411 (g := (mkF m 7 #[.val (.int n)] [(.int n)])) rfl (hb hby d25_7)
    refine Go.via (st412) ?_
    clear st412
    clear X0 e0
    show Go p e below (T412.setTop (mkF m 10 #[.val (.int n)] [(.int (127 : Int32)), (.int n)])) _
    by_cases hc413 : (127 : Int32) < n
    · refine Go.via (fun _ => XS.icmpYes X412.here hx rfl (pc0 := 10) (pc' := 23) rfl (hb hby d25_10) rfl (tlt (hc413 : (127 : Int32) < n)).2.2.1 (by decide) (by decide)) ?_
      show Go p e below (T412.setTop (mkF m 23 #[.val (.int n)] [])) _
      obtain ⟨T414, h414, X414, e414, E414, A414, D414, -, st414⟩ := newO X412 hx hZ hown (tw hw 136 rfl) (tw hw 137 rfl) (tw hw 128 rfl) e412 (g := (mkF m 23 #[.val (.int n)] [])) rfl (hb hby d25_23) (by decide) (by decide)
      obtain ⟨b414, g414⟩ : ∃ z, z = h0.size := ⟨_, rfl⟩
      rw [← g414] at A414 D414 st414
      have ge415 : n0 ≤ b414 := Nat.le_trans Z0 (Nat.le_of_eq g414.symm)
      have sz416 : h0.size ≤ b414 := Nat.le_trans (Keep.refl h0 []).1 (Nat.le_of_eq g414.symm)
      refine Go.via (st414) ?_
      clear st414
      have f417 : Fld Z h414 b414 cIN "value" "I" (.int (0 : Int32)) := D414 (Or.inr (tw hw 150 rfl)) (ty := .int) (by decide)
      clear X412 e412
      show Go p e below (T414.setTop (mkF m 26 #[.val (.int n)] [(.ref b414)])) _
      refine Go.via (fun _ => XS.dup X414.here hx rfl (hb hby d25_26) rfl rfl) ?_
      refine Go.via (fun _ => XS.iloadN X414.here hx rfl (hb hby d25_27) rfl) ?_
      have z419 : n0 ≤ h414.size := (Nat.le_trans Z0 E414.1)
      obtain ⟨r418, _, ⟨T418, L418, k418, n418⟩, -, X418, ⟨Lc418, hQ418, l418, y418, z418⟩, st418⟩ := X414.specialBack hx (y := (⟨cIN, "<init>", "(I)V"⟩ : MethodName)) rfl hown (mvT hZ (tw hw 138 rfl)) (mvT hZ (tw hw 139 rfl)) (mvT hZ (tw hw 141 rfl)) (by decide) (backOf (W := 1) (rmIi l Z a0 hw [] b414 n  h414 n0 z419 A414 f417 ge415) hZ (tw hw 141 rfl) (tw hw 128 rfl) (by decide) (by decide)) (g := (mkF m 28 #[.val (.int n)] [(.int n), (.ref b414), (.ref b414)])) rfl (by rw [hml]; rfl) (Steps.refl _) (a := b414) (argsL := [(.int n)]) (rest := [(.ref b414)]) (lenOf pd__28I_29V rfl) rfl (by show 2 * 0 + _ ≤ _; exact Nat.le_of_eq rfl) (hb hby d25_28) (fun _ _ => ⟨rfl, e414, (by decide : 1 + 0 ≤ _), (by decide : 1 + 0 ≤ _)⟩)
      dsimp only [Pt.U, Pt.locs, Pt.cells, Pt.slots] at X418 l418 y418 z418 st418 hQ418
      rw [l418, y418, z418] at X418
      clear l418 y418 z418
      obtain ⟨hr418, N418q, K418q, f420⟩ := hQ418
      rw [hr418] at st418
      clear hr418
      have N418 := Fr.app N0 N418q
      refine Go.via (fun _ kQ => st418.trans kQ) ?_
      clear st418
      have e418 : T418.heap = T418.heap := rfl
      have f421 : Exa Z T418.heap b414 cIN := f420
      clear X414 e414
      show Go p e below (T418.setTop (mkF m 31 #[.val (.int n)] [(.ref b414)])) _
      have k422 : Keep h0 T418.heap [] := (((Keep.refl h0 []).ext E414).trans K418q (allS (Or.inr sz416) all0))
      exact Go.fin X418 hlk (v := some (.ref b414)) (fun h => by rw [Bd.returns] at h; cases h) (fun fs hr => retOut X418 hx Bd.returns rfl (Or.inr (Or.inr (Or.inr (Or.inr ⟨rfl, rfl, rfl⟩)))) (hb hby d25_31) hr) (by exact ⟨b414, rfl, N418, k422, f421⟩) (by decide) (by decide)
    · refine Go.via (fun _ => XS.icmpNo X412.here hx rfl (hb hby d25_10) rfl (flt (hc413 : ¬ ((127 : Int32) < n))).2.2.1) ?_
      show Go p e below (T412.setTop (mkF m 13 #[.val (.int n)] [])) _
      obtain ⟨bb, hin, hat, hE⟩ := hca n hc401 hc413
      have f423 : Sta Z h0 cIC "cache" "[Ljava/lang/Integer;" (.ref ic) := zC.ext P0.2
      obtain ⟨T424, X424, e424, st424⟩ := getS2 X412 hx hZ hown (host := "") (Or.inl (tw hw 132 rfl)) Via.refl e412 f423 (g := (mkF m 13 #[.val (.int n)] [])) rfl (hb hby d25_13)
      refine Go.via (st424) ?_
      clear st424
      clear X412 e412
      show Go p e below (T424.setTop (mkF m 16 #[.val (.int n)] [(.ref ic)])) _
      refine Go.via (fun _ => XS.iloadN X424.here hx rfl (hb hby d25_16) rfl) ?_
      refine Go.via (fun _ => XS.sipush X424.here hx rfl (hb hby d25_17)) ?_
      refine Go.via (fun _ => XS.iadd X424.here hx rfl (hb hby d25_20) rfl) ?_
      show Go p e below (T424.setTop (mkF m 21 #[.val (.int n)] [(.int (n + (128 : Int32))), (.ref ic)])) _
      refine Go.via (X424.aaload hx (j := (n + (128 : Int32))) (v := .ref bb) (by rw [e424]; exact (hA.ext P0.2).1) (State.isArrayOf_alike hZ.alike hA.2.1) rfl hA.2.2 hin hat (g := (mkF m 21 #[.val (.int n)] [(.int (n + (128 : Int32))), (.ref ic)])) rfl rfl (hb hby d25_21)) ?_
      show Go p e below (T424.setTop (mkF m 22 #[.val (.int n)] [(.ref bb)])) _
      exact Go.fin X424 hlk (v := some (.ref bb)) (fun h => by rw [Bd.returns] at h; cases h) (fun fs hr => retOut X424 hx Bd.returns rfl (Or.inr (Or.inr (Or.inr (Or.inr ⟨rfl, rfl, rfl⟩)))) (hb hby d25_22) hr) (by rw [e424]; exact ⟨bb, rfl, N0, (Keep.refl h0 []), (hE.ext P0.2)⟩) (by decide) (by decide)
theorem d22_5 : decode prog_15_method_7_code 5 = .ok (.iconst 1, 1) := by decide +kernel
theorem d22_6 : decode prog_15_method_7_code 6 = .ok (.ireturn, 1) := by decide +kernel
def Q_rmEs (Z : State) (f : Addr) (f : Addr)  (h0 : Heap) (n0 : Nat) (vQ : Option Value) (hQ : Heap) (LQ : List Loc) : Prop := vQ = some (.int (1 : Int32)) ∧ LQ = [] ∧ hQ = h0
set_option maxRecDepth 65536 in
set_option maxHeartbeats 40000000 in
theorem rmEs (l : Launch) (Z : State) (a0 : Array Value) (hw : ∀ d ∈ tables_1, d.before a0 Z = true) (ws : List Jvm.Cond) (f : Addr) (f : Addr)  (h0 : Heap) (n0 : Nat) (Z0 : n0 ≤ h0.size) :
    MetFree l (⟨cCD, "equals", "(Ljava/lang/Object;)Z"⟩ : MethodName) (head1 (Jvm.Cond.code (⟨cCD, "equals", "(Ljava/lang/Object;)Z"⟩ : MethodName) prog_15_method_7_code 3 (some .boolean) :: ws) ({ frames := 0, cells := 0, slots := 0, locals := 0 } : Room)) (fun aQ UQ => aQ = #[(.ref f), (.ref f)] ∧ Z.Warmed39 UQ.vm ∧ UQ.heap = h0) (fun _ _ _ _ _ => True) (fun _ UQ oQ UR => ∃ vQ LQ, oQ = .returned vQ ∧ Q_rmEs Z f f  h0 n0 vQ UR.heap LQ ∧ FrameEnd UQ oQ UR LQ ({ frames := 0, cells := 0, slots := 0, locals := 0 } : Room).cells ({ frames := 0, cells := 0, slots := 0, locals := 0 } : Room).slots) := by
  refine MetFree.of_bodySF (plainFor_of_name pn_22) hisR ?_
  intro p e s m args below meth c s₁ Bd hml0 hP hK
  obtain ⟨rfl, hZ, hh⟩ := hP
  have hx := Bd.exec
  have hby := Bd.bytes
  have hlk := Bd.notSynchronized
  have hml : c.maxLocals = 3 := hml0
  have hown : s.vm.findClass cCD = some m.cls := findClass_of_methodNamed Bd.named
  have hnm := (name_of_methodNamed Bd.named Bd.method).1
  have X0 : Stand p l e ({ frames := 0, cells := 0, slots := 0, locals := 0 } : Room) s m #[(.ref f), (.ref f)] below meth c s₁ [] 0 0 := Stand.of_body Bd
  have e0 : s₁.heap = h0 := by rw [← hh, Bd.state]; rfl
  have N0 := Fr.nil n0
  show Go p e below _ (Done s (Q_rmEs Z f f  h0 n0) ({ frames := 0, cells := 0, slots := 0, locals := 0 } : Room).cells ({ frames := 0, cells := 0, slots := 0, locals := 0 } : Room).slots)
  refine Go.via (fun tQ kQ => castTop (ef_22 m f f) kQ) ?_
  show Go p e below (s₁.setTop (mkF m 0 #[.val (.ref f), .val (.ref f), .unset] [])) _
  refine Go.via (fun _ => XS.aloadN X0.here hx rfl (hb hby d22_0) rfl rfl) ?_
  refine Go.via (fun _ => XS.aloadN X0.here hx rfl (hb hby d22_1) rfl rfl) ?_
  refine Go.via (fun _ => Jvm.RoadKit.acmp (g := (mkF m 2 #[.val (.ref f), .val (.ref f), .unset] [(.ref f), (.ref f)])) X0 hx rfl rfl rfl (pc0 := 2) (pc' := 5) (same := true) rfl (hb hby d22_2) rfl (decide_eq_true rfl) (by decide) (by decide)) ?_
  show Go p e below (s₁.setTop (mkF m 5 #[.val (.ref f), .val (.ref f), .unset] [])) _
  refine Go.via (fun _ => XS.iconst X0.here hx rfl (hb hby d22_5)) ?_
  exact Go.fin X0 hlk (v := some (.int (1 : Int32))) (fun h => by rw [Bd.returns] at h; cases h) (fun fs hr => retN X0 hx (t := .boolean) Bd.returns (by simp) (hb hby d22_6) hr) (by rw [e0]; exact ⟨rfl, rfl, rfl⟩) (by decide) (by decide)
theorem d22_14 : decode prog_15_method_7_code 14 = .ok (.iconst 0, 1) := by decide +kernel
theorem d22_15 : decode prog_15_method_7_code 15 = .ok (.ireturn, 1) := by decide +kernel
theorem ef_22n1 (m : MethodId) (x0 : Addr) : entryFrame m #[(.ref x0), .null] 3 = mkF m 0 #[.val (.ref x0), .val .null, .unset] [] := by first | (simp [entryFrame, mkF, argsToLocals, Value.category]; done) | rfl
def Q_rmEn (Z : State) (f : Addr)  (h0 : Heap) (n0 : Nat) (vQ : Option Value) (hQ : Heap) (LQ : List Loc) : Prop := vQ = some (.int (0 : Int32)) ∧ LQ = [] ∧ hQ = h0
set_option maxRecDepth 65536 in
set_option maxHeartbeats 40000000 in
theorem rmEn (l : Launch) (Z : State) (a0 : Array Value) (hw : ∀ d ∈ tables_1, d.before a0 Z = true) (ws : List Jvm.Cond) (f : Addr)  (h0 : Heap) (n0 : Nat) (Z0 : n0 ≤ h0.size) :
    MetFree l (⟨cCD, "equals", "(Ljava/lang/Object;)Z"⟩ : MethodName) (head1 (Jvm.Cond.code (⟨cCD, "equals", "(Ljava/lang/Object;)Z"⟩ : MethodName) prog_15_method_7_code 3 (some .boolean) :: ws) ({ frames := 0, cells := 0, slots := 0, locals := 0 } : Room)) (fun aQ UQ => aQ = #[(.ref f), .null] ∧ Z.Warmed39 UQ.vm ∧ UQ.heap = h0) (fun _ _ _ _ _ => True) (fun _ UQ oQ UR => ∃ vQ LQ, oQ = .returned vQ ∧ Q_rmEn Z f  h0 n0 vQ UR.heap LQ ∧ FrameEnd UQ oQ UR LQ ({ frames := 0, cells := 0, slots := 0, locals := 0 } : Room).cells ({ frames := 0, cells := 0, slots := 0, locals := 0 } : Room).slots) := by
  refine MetFree.of_bodySF (plainFor_of_name pn_22) hisR ?_
  intro p e s m args below meth c s₁ Bd hml0 hP hK
  obtain ⟨rfl, hZ, hh⟩ := hP
  have hx := Bd.exec
  have hby := Bd.bytes
  have hlk := Bd.notSynchronized
  have hml : c.maxLocals = 3 := hml0
  have hown : s.vm.findClass cCD = some m.cls := findClass_of_methodNamed Bd.named
  have hnm := (name_of_methodNamed Bd.named Bd.method).1
  have X0 : Stand p l e ({ frames := 0, cells := 0, slots := 0, locals := 0 } : Room) s m #[(.ref f), .null] below meth c s₁ [] 0 0 := Stand.of_body Bd
  have e0 : s₁.heap = h0 := by rw [← hh, Bd.state]; rfl
  have N0 := Fr.nil n0
  show Go p e below _ (Done s (Q_rmEn Z f  h0 n0) ({ frames := 0, cells := 0, slots := 0, locals := 0 } : Room).cells ({ frames := 0, cells := 0, slots := 0, locals := 0 } : Room).slots)
  refine Go.via (fun tQ kQ => castTop (ef_22n1 m f) kQ) ?_
  show Go p e below (s₁.setTop (mkF m 0 #[.val (.ref f), .val .null, .unset] [])) _
  refine Go.via (fun _ => XS.aloadN X0.here hx rfl (hb hby d22_0) rfl rfl) ?_
  refine Go.via (fun _ => XS.aloadN X0.here hx rfl (hb hby d22_1) rfl rfl) ?_
  refine Go.via (fun _ => Jvm.RoadKit.acmp (g := (mkF m 2 #[.val (.ref f), .val .null, .unset] [.null, (.ref f)])) X0 hx rfl rfl rfl (pc0 := 2) (pc' := 7) (same := false) rfl (hb hby d22_2) rfl (decide_eq_false nofun) (by decide) (by decide)) ?_
  show Go p e below (s₁.setTop (mkF m 7 #[.val (.ref f), .val .null, .unset] [])) _
  refine Go.via (fun _ => XS.aloadN X0.here hx rfl (hb hby d22_7) rfl rfl) ?_
  refine Go.via (X0.instanceofNull hx (g := (mkF m 8 #[.val (.ref f), .val .null, .unset] [.null])) rfl rfl (hb hby d22_8)) ?_
  show Go p e below (s₁.setTop (mkF m 11 #[.val (.ref f), .val .null, .unset] [(.int (0 : Int32))])) _
  refine Go.via (fun _ => XS.ifNo X0.here hx rfl (hb hby d22_11) rfl ((if0 _ _).trans (teq ((by decide) : (0 : Int32) = (0 : Int32))).2)) ?_
  show Go p e below (s₁.setTop (mkF m 14 #[.val (.ref f), .val .null, .unset] [])) _
  refine Go.via (fun _ => XS.iconst X0.here hx rfl (hb hby d22_14)) ?_
  exact Go.fin X0 hlk (v := some (.int (0 : Int32))) (fun h => by rw [Bd.returns] at h; cases h) (fun fs hr => retN X0 hx (t := .boolean) Bd.returns (by simp) (hb hby d22_15) hr) (by rw [e0]; exact ⟨rfl, rfl, rfl⟩) (by decide) (by decide)
def Q_rmEi (Z : State) (f : Addr) (g_ : Addr)  (h0 : Heap) (n0 : Nat) (vQ : Option Value) (hQ : Heap) (LQ : List Loc) : Prop := vQ = some (.int (0 : Int32)) ∧ LQ = [] ∧ hQ = h0
set_option maxRecDepth 65536 in
set_option maxHeartbeats 40000000 in
theorem rmEi (l : Launch) (Z : State) (a0 : Array Value) (hw : ∀ d ∈ tables_1, d.before a0 Z = true) (ws : List Jvm.Cond) (f : Addr) (g_ : Addr)  (h0 : Heap) (n0 : Nat) (Z0 : n0 ≤ h0.size) (P0 : Exa Z h0 g_ cIN) (hfg : f ≠ g_) :
    MetFree l (⟨cCD, "equals", "(Ljava/lang/Object;)Z"⟩ : MethodName) (head1 (Jvm.Cond.code (⟨cCD, "equals", "(Ljava/lang/Object;)Z"⟩ : MethodName) prog_15_method_7_code 3 (some .boolean) :: ws) ({ frames := 0, cells := 0, slots := 0, locals := 0 } : Room)) (fun aQ UQ => aQ = #[(.ref f), (.ref g_)] ∧ Z.Warmed39 UQ.vm ∧ UQ.heap = h0) (fun _ _ _ _ _ => True) (fun _ UQ oQ UR => ∃ vQ LQ, oQ = .returned vQ ∧ Q_rmEi Z f g_  h0 n0 vQ UR.heap LQ ∧ FrameEnd UQ oQ UR LQ ({ frames := 0, cells := 0, slots := 0, locals := 0 } : Room).cells ({ frames := 0, cells := 0, slots := 0, locals := 0 } : Room).slots) := by
  refine MetFree.of_bodySF (plainFor_of_name pn_22) hisR ?_
  intro p e s m args below meth c s₁ Bd hml0 hP hK
  obtain ⟨rfl, hZ, hh⟩ := hP
  have hx := Bd.exec
  have hby := Bd.bytes
  have hlk := Bd.notSynchronized
  have hml : c.maxLocals = 3 := hml0
  have hown : s.vm.findClass cCD = some m.cls := findClass_of_methodNamed Bd.named
  have hnm := (name_of_methodNamed Bd.named Bd.method).1
  have X0 : Stand p l e ({ frames := 0, cells := 0, slots := 0, locals := 0 } : Room) s m #[(.ref f), (.ref g_)] below meth c s₁ [] 0 0 := Stand.of_body Bd
  have e0 : s₁.heap = h0 := by rw [← hh, Bd.state]; rfl
  have N0 := Fr.nil n0
  show Go p e below _ (Done s (Q_rmEi Z f g_  h0 n0) ({ frames := 0, cells := 0, slots := 0, locals := 0 } : Room).cells ({ frames := 0, cells := 0, slots := 0, locals := 0 } : Room).slots)
  refine Go.via (fun tQ kQ => castTop (ef_22 m f g_) kQ) ?_
  show Go p e below (s₁.setTop (mkF m 0 #[.val (.ref f), .val (.ref g_), .unset] [])) _
  refine Go.via (fun _ => XS.aloadN X0.here hx rfl (hb hby d22_0) rfl rfl) ?_
  refine Go.via (fun _ => XS.aloadN X0.here hx rfl (hb hby d22_1) rfl rfl) ?_
  refine Go.via (fun _ => Jvm.RoadKit.acmp (g := (mkF m 2 #[.val (.ref f), .val (.ref g_), .unset] [(.ref g_), (.ref f)])) X0 hx rfl rfl rfl (pc0 := 2) (pc' := 7) (same := false) rfl (hb hby d22_2) rfl (decide_eq_false fun q => hfg (Value.ref.inj q)) (by decide) (by decide)) ?_
  show Go p e below (s₁.setTop (mkF m 7 #[.val (.ref f), .val (.ref g_), .unset] [])) _
  refine Go.via (fun _ => XS.aloadN X0.here hx rfl (hb hby d22_7) rfl rfl) ?_
  obtain ⟨T426, X426, e426, st426⟩ := instNo X0 hx hZ hown (tw hw 115 rfl) e0 P0 (ns_no (a0 := a0) (tw hw 133 rfl) (tw hw 2 rfl) (NS.step (tw hw 133 rfl) (NS.step (tw hw 134 rfl) (ns_root (a0 := a0) (tw hw 135 rfl) (tw hw 2 rfl) (by decide)) (by decide)) (by decide)) (by decide)) (g := (mkF m 8 #[.val (.ref f), .val (.ref g_), .unset] [(.ref g_)])) rfl rfl (hb hby d22_8)
  refine Go.via (st426) ?_
  clear st426
  clear X0 e0
  show Go p e below (T426.setTop (mkF m 11 #[.val (.ref f), .val (.ref g_), .unset] [(.int (0 : Int32))])) _
  refine Go.via (fun _ => XS.ifNo X426.here hx rfl (hb hby d22_11) rfl ((if0 _ _).trans (teq ((by decide) : (0 : Int32) = (0 : Int32))).2)) ?_
  show Go p e below (T426.setTop (mkF m 14 #[.val (.ref f), .val (.ref g_), .unset] [])) _
  refine Go.via (fun _ => XS.iconst X426.here hx rfl (hb hby d22_14)) ?_
  exact Go.fin X426 hlk (v := some (.int (0 : Int32))) (fun h => by rw [Bd.returns] at h; cases h) (fun fs hr => retN X426 hx (t := .boolean) Bd.returns (by simp) (hb hby d22_15) hr) (by rw [e426]; exact ⟨rfl, rfl, rfl⟩) (by decide) (by decide)
theorem pd__28I_29Ljava_2flang_2fString_3b : parseMethodDescriptor "(I)Ljava/lang/String;" = some ⟨[.int], some (.object cST)⟩ := by decide +kernel
theorem pd__28JLjava_2flang_2fString_3bLjava_2flang_2fString_3b_29V : parseMethodDescriptor "(JLjava/lang/String;Ljava/lang/String;)V" = some ⟨[.long, (.object cST), (.object cST)], none⟩ := by decide +kernel
theorem pd__28I_29Ljava_2flang_2fInteger_3b : parseMethodDescriptor "(I)Ljava/lang/Integer;" = some ⟨[.int], some (.object cIN)⟩ := by decide +kernel
theorem pd__28II_29Z : parseMethodDescriptor "(II)Z" = some ⟨[.int, .int], some .boolean⟩ := by decide +kernel
def Q_rm0 (Z : State) (p0 : Int32) (p1 : Int32) (p2 : Int32) (p3 : Int32) (p4 : Int32) (p5 : Int32) (cs : Int32) (fv : Value) (ic : Addr) (cl : Cell) (h0 : Heap) (n0 : Nat) (vQ : Option Value) (hQ : Heap) (vmQ : Vm) (LQ : List Loc) : Prop := vQ = some (.int (1 : Int32)) ∧ Fr n0 LQ ∧ Keep h0 hQ [] ∧ Em Z vmQ hQ ["signature 2", "signature 1"]
def V_rm0 (Z : State) (p0 : Int32) (p1 : Int32) (p2 : Int32) (p3 : Int32) (p4 : Int32) (p5 : Int32) (cs : Int32) (fv : Value) (ic : Addr) (cl : Cell) (h0 : Heap) (vmV : Vm) : Prop := Em Z vmV h0 ["signature 2", "signature 1"] ∧ True
set_option maxRecDepth 65536 in
set_option maxHeartbeats 40000000 in
theorem rm_rm0_l209_3 (l : Launch) (Z : State) (a0 : Array Value) (hw : ∀ d ∈ tables_1, d.before a0 Z = true) (p0 : Int32) (p1 : Int32) (p2 : Int32) (p3 : Int32) (p4 : Int32) (p5 : Int32) (cs : Int32) (fv : Value) (ic : Addr) (cl : Cell) (h0 : Heap) (n0 : Nat) (zCS : Sta Z Z.heap cST "COMPACT_STRINGS" "Z" (.int cs)) (zF : Sta Z Z.heap cPR "SIOOBE_FORMATTER" "Ljava/util/function/BiFunction;" fv) (zH : Sta Z Z.heap cIC "high" "I" (.int (127 : Int32))) (zC : Sta Z Z.heap cIC "cache" "[Ljava/lang/Integer;" (.ref ic)) (hcs : ¬ (cs = (0 : Int32))) (hfv : fv = .null ∨ ∃ fa : Addr, fv = .ref fa) (hh7 : Jvm.Lit.constHeld Z cST 7) (hcw : Jvm.Lit.compactW.before a0 Z = true) (hA : Arr Z Z.heap ic cl (.object cIN)) (hca : ∀ i : Int32, ¬ i < (-128 : Int32) → ¬ (127 : Int32) < i → ∃ bb : Addr, (¬ ((i + (128 : Int32)) < 0 ∨ cl.slots.size ≤ (i + (128 : Int32)).toNatClampNeg)) ∧ cl.slots[(i + (128 : Int32)).toNatClampNeg]? = some (.ref bb) ∧ Exa Z Z.heap bb cIN) {p : Program} {e : Env} {s : State} {m : MethodId} {below : List Frame} {meth : Method} {c : Code} (hx : p.tables.exec = Jvm.exec) (hby : c.code = code) (hlk : meth.locks = false) (hml : c.maxLocals = 14) (hret : meth.sig.returnType = ret) :
    ∀ (T627 : State) (L627 : List Loc) (h627 : Heap) (vm627 : Vm) (K627 : Nat) (k1 : Int32) (k2 : Int32) (s1y : Int32) (s2y : Int32) (md : Int32) (b433 : Addr) (b444 : Addr) (b464 : Addr) (b520 : Addr) (b536 : Addr) (b572 : Addr) (v445 : Addr) (v465 : Addr) (v537 : Addr) (v573 : Addr), Stand p l e room_1 (s.setVm vm627) m #[(.int p0), (.int p1), (.int p2), (.int p3), (.int p4), (.int p5)] below meth c T627 L627 26 230 → T627.heap = h627 → Fr n0 L627 → n0 ≤ h627.size → Keep h0 h627 [] → Z.Warmed39 (s.setVm vm627).vm → (s.setVm vm627).vm.findClass cLAW = some m.cls → s.Since vm627 K627 → K627 ≤ h627.size → Em Z vm627 h627 ["signature 2", "signature 1"] → Old Z n0 h627 → Exa Z h627 b433 cCD → Fld Z h627 b433 cCD "blockSize" "J" (.long ((3 : Int64) <<< (k1 &&& 0x3f).toInt64)) → Fld Z h627 b433 cCD "signature1" "Ljava/lang/String;" (.ref b444) → Fld Z h627 b433 cCD "signature2" "Ljava/lang/String;" (.ref b464) → Exa Z h627 b444 cST → Fld Z h627 b444 cST "coder" "B" (.int (0 : Int32)) → Fld Z h627 b444 cST "value" "[B" (.ref v445) → Ia Z h627 v445 .byte (sgF p1) → Exa Z h627 b464 cST → Fld Z h627 b464 cST "coder" "B" (.int (0 : Int32)) → Fld Z h627 b464 cST "value" "[B" (.ref v465) → Ia Z h627 v465 .byte (sgF p3) → Exa Z h627 b520 cCD → Fld Z h627 b520 cCD "blockSize" "J" (.long ((3 : Int64) <<< (k2 &&& 0x3f).toInt64)) → Fld Z h627 b520 cCD "signature1" "Ljava/lang/String;" (.ref b536) → Fld Z h627 b520 cCD "signature2" "Ljava/lang/String;" (.ref b572) → Exa Z h627 b536 cST → Fld Z h627 b536 cST "coder" "B" (.int (0 : Int32)) → Fld Z h627 b536 cST "value" "[B" (.ref v537) → Ia Z h627 v537 .byte (sgF s1y) → Exa Z h627 b572 cST → Fld Z h627 b572 cST "coder" "B" (.int (0 : Int32)) → Fld Z h627 b572 cST "value" "[B" (.ref v573) → Ia Z h627 v573 .byte (sgF s2y) → b433 ≠ b520 → b444 ≠ b536 → b464 ≠ b572 → ((p0 &&& (2147483647 : Int32)) % (31 : Int32)) = k1 → (if (p5 &&& (1 : Int32)) = (0 : Int32) then ((((p0.toUInt32 >>> ((8 : Int32) &&& 31).toUInt32).toInt32) &&& (2147483647 : Int32)) % (31 : Int32)) else k1) = k2 → k1 = k2 → (ssF p1 s1y) = (0 : Int32) → Go p e below (T627.setTop (mkF m 209 #[.val (.int p0), .val (.int p1), .val (.int p2), .val (.int p3), .val (.int p4), .val (.int p5), .val (.int k1), .val (.int k2), .val (.int s1y), .val (.int s2y), .val (.ref b433), .val (.int md), .val (.ref b520), .val (.int (0 : Int32))] [])) (DoneW s (Q_rm0 Z p0 p1 p2 p3 p4 p5 cs fv ic cl h0 n0) room_1.cells room_1.slots) := by
  intro T627 L627 h627 vm627 K627 k1 k2 s1y s2y md b433 b444 b464 b520 b536 b572 v445 v465 v537 v573 X627 e627 N627 z627 k627 hZ hown hS627 hk627 I627 lf0_627 lf1_627 lf2_627 lf3_627 lf4_627 lf5_627 lf6_627 lf7_627 lf8_627 lf9_627 lf10_627 lf11_627 lf12_627 lf13_627 lf14_627 lf15_627 lf16_627 lf17_627 lf18_627 lf19_627 lf20_627 lf21_627 lf22_627 lf23_627 lf24_627 lf34_627 lf40_627 lf52_627 hv_k1 hv_k2 hc623 hc626
  show Go p e below (T627.setTop (mkF m 209 #[.val (.int p0), .val (.int p1), .val (.int p2), .val (.int p3), .val (.int p4), .val (.int p5), .val (.int k1), .val (.int k2), .val (.int s1y), .val (.int s2y), .val (.ref b433), .val (.int md), .val (.ref b520), .val (.int (0 : Int32))] [])) _
  refine Go.via (fun _ => XS.aload X627.here hx rfl (hb hby at_209) rfl rfl) ?_
  refine Go.via (fun _ => XS.aload X627.here hx rfl (hb hby at_211) rfl rfl) ?_
  obtain ⟨cq628, kq628, q628a, q628b, q628c⟩ := isOf hZ e627 lf1_627
  obtain ⟨r628, _, ⟨T628, L628, k628, n628⟩, -, X628, ⟨Lc628, hQ628, l628, y628, z628⟩, st628⟩ := X627.virtualBack hx (y := (⟨cCD, "equals", "(Ljava/lang/Object;)Z"⟩ : MethodName)) (z := (⟨cCD, "equals", "(Ljava/lang/Object;)Z"⟩ : MethodName)) hown (mvT hZ (tw hw 110 rfl)) (mvT hZ (tw hw 111 rfl)) (notFace_of_selects (args := #[]) (mvT hZ (tw hw 113 rfl))) (mvT hZ (tw hw 113 rfl)) (mvT hZ (tw hw 112 rfl)) (by decide) (backOf (W := 0) (rmEo l Z a0 hw [] b433 b520 ((3 : Int64) <<< (k1 &&& 0x3f).toInt64) ((3 : Int64) <<< (k2 &&& 0x3f).toInt64) b444 b464 b536 b572 v445 v465 v537 v573 (sgF p1) (sgF p3) (sgF s1y) (sgF s2y) cs h627 n0 z627 lf1_627 lf2_627 lf3_627 lf4_627 lf13_627 lf14_627 lf15_627 lf16_627 lf5_627 lf6_627 lf7_627 lf8_627 lf9_627 lf10_627 lf11_627 lf12_627 lf17_627 lf18_627 lf19_627 lf20_627 lf21_627 lf22_627 lf23_627 lf24_627 lf0_627 zCS lf34_627 lf40_627 lf52_627 (own_Sh (own_Sg _)) (own_Sh (own_Sg _)) (own_Sh (own_Sg _)) (own_Sh (own_Sg _)) hcs) hZ (tw hw 114 rfl) (tw hw 3 rfl) (by decide) (by decide)) q628a q628c (g := (mkF m 213 #[.val (.int p0), .val (.int p1), .val (.int p2), .val (.int p3), .val (.int p4), .val (.int p5), .val (.int k1), .val (.int k2), .val (.int s1y), .val (.int s2y), .val (.ref b433), .val (.int md), .val (.ref b520), .val (.int (0 : Int32))] [(.ref b520), (.ref b433)])) rfl (by rw [hml]; rfl) (Steps.refl _) (argsL := [(.ref b520)]) (rest := []) (lenOf pd__28Ljava_2flang_2fObject_3b_29Z rfl) rfl (by show 2 * 0 + _ ≤ _; exact Nat.le_of_eq rfl) (hb hby at_213) (fun _ _ => ⟨rfl, e627, (by decide : 26 + 0 ≤ _), (by decide : 230 + 0 ≤ _)⟩)
  dsimp only [Pt.U, Pt.locs, Pt.cells, Pt.slots] at X628 l628 y628 z628 st628 hQ628
  rw [l628, y628, z628] at X628
  clear l628 y628 z628
  obtain ⟨hr628, N628q, eh628⟩ := hQ628
  rw [hr628] at st628
  clear hr628
  rw [N628q, List.append_nil] at X628
  refine Go.via (fun _ kQ => st628.trans kQ) ?_
  clear st628
  have e628 : T628.heap = h627 := eh628
  clear X627 e627
  show Go p e below (T628.setTop (mkF m 216 #[.val (.int p0), .val (.int p1), .val (.int p2), .val (.int p3), .val (.int p4), .val (.int p5), .val (.int k1), .val (.int k2), .val (.int s1y), .val (.int s2y), .val (.ref b433), .val (.int md), .val (.ref b520), .val (.int (0 : Int32))] [(.int (eqF ((3 : Int64) <<< (k1 &&& 0x3f).toInt64) ((3 : Int64) <<< (k2 &&& 0x3f).toInt64) (sgF p1) (sgF s1y) (sgF p3) (sgF s2y)))])) _
  refine Go.via (fun _ => XS.iload X628.here hx rfl (hb hby at_216) rfl) ?_
  refine Go.via (fun _ => XS.icmpNo X628.here hx rfl (hb hby at_218) rfl (teq (((own_eq (own_k31 hv_k1) (own_kif hv_k2 (own_k31 rfl) (own_k31 hv_k1))).trans ((if_pos hc623).trans ((if_pos hc626).trans rfl))) : (eqF ((3 : Int64) <<< (k1 &&& 0x3f).toInt64) ((3 : Int64) <<< (k2 &&& 0x3f).toInt64) (sgF p1) (sgF s1y) (sgF p3) (sgF s2y)) = (0 : Int32))).2) ?_
  show Go p e below (T628.setTop (mkF m 221 #[.val (.int p0), .val (.int p1), .val (.int p2), .val (.int p3), .val (.int p4), .val (.int p5), .val (.int k1), .val (.int k2), .val (.int s1y), .val (.int s2y), .val (.ref b433), .val (.int md), .val (.ref b520), .val (.int (0 : Int32))] [])) _
  refine Go.via (fun _ => XS.aload X628.here hx rfl (hb hby at_221) rfl rfl) ?_
  refine Go.via (fun _ => XS.aload X628.here hx rfl (hb hby at_223) rfl rfl) ?_
  obtain ⟨cq629, kq629, q629a, q629b, q629c⟩ := isOf hZ e628 lf13_627
  obtain ⟨r629, _, ⟨T629, L629, k629, n629⟩, -, X629, ⟨Lc629, hQ629, l629, y629, z629⟩, st629⟩ := X628.virtualBack hx (y := (⟨cCD, "equals", "(Ljava/lang/Object;)Z"⟩ : MethodName)) (z := (⟨cCD, "equals", "(Ljava/lang/Object;)Z"⟩ : MethodName)) hown (mvT hZ (tw hw 110 rfl)) (mvT hZ (tw hw 111 rfl)) (notFace_of_selects (args := #[]) (mvT hZ (tw hw 113 rfl))) (mvT hZ (tw hw 113 rfl)) (mvT hZ (tw hw 112 rfl)) (by decide) (backOf (W := 0) (rmEo l Z a0 hw [] b520 b433 ((3 : Int64) <<< (k2 &&& 0x3f).toInt64) ((3 : Int64) <<< (k1 &&& 0x3f).toInt64) b536 b572 b444 b464 v537 v573 v445 v465 (sgF s1y) (sgF s2y) (sgF p1) (sgF p3) cs h627 n0 z627 lf13_627 lf14_627 lf15_627 lf16_627 lf1_627 lf2_627 lf3_627 lf4_627 lf17_627 lf18_627 lf19_627 lf20_627 lf21_627 lf22_627 lf23_627 lf24_627 lf5_627 lf6_627 lf7_627 lf8_627 lf9_627 lf10_627 lf11_627 lf12_627 lf0_627 zCS (Ne.symm lf34_627) (Ne.symm lf40_627) (Ne.symm lf52_627) (own_Sh (own_Sg _)) (own_Sh (own_Sg _)) (own_Sh (own_Sg _)) (own_Sh (own_Sg _)) hcs) hZ (tw hw 114 rfl) (tw hw 3 rfl) (by decide) (by decide)) q629a q629c (g := (mkF m 225 #[.val (.int p0), .val (.int p1), .val (.int p2), .val (.int p3), .val (.int p4), .val (.int p5), .val (.int k1), .val (.int k2), .val (.int s1y), .val (.int s2y), .val (.ref b433), .val (.int md), .val (.ref b520), .val (.int (0 : Int32))] [(.ref b433), (.ref b520)])) rfl (by rw [hml]; rfl) (Steps.refl _) (argsL := [(.ref b433)]) (rest := []) (lenOf pd__28Ljava_2flang_2fObject_3b_29Z rfl) rfl (by show 2 * 0 + _ ≤ _; exact Nat.le_of_eq rfl) (hb hby at_225) (fun _ _ => ⟨rfl, e628, (by decide : 26 + 0 ≤ _), (by decide : 230 + 0 ≤ _)⟩)
  dsimp only [Pt.U, Pt.locs, Pt.cells, Pt.slots] at X629 l629 y629 z629 st629 hQ629
  rw [l629, y629, z629] at X629
  clear l629 y629 z629
  obtain ⟨hr629, N629q, eh629⟩ := hQ629
  rw [hr629] at st629
  clear hr629
  rw [N629q, List.append_nil] at X629
  refine Go.via (fun _ kQ => st629.trans kQ) ?_
  clear st629
  have e629 : T629.heap = h627 := eh629
  clear X628 e628
  show Go p e below (T629.setTop (mkF m 228 #[.val (.int p0), .val (.int p1), .val (.int p2), .val (.int p3), .val (.int p4), .val (.int p5), .val (.int k1), .val (.int k2), .val (.int s1y), .val (.int s2y), .val (.ref b433), .val (.int md), .val (.ref b520), .val (.int (0 : Int32))] [(.int (eqF ((3 : Int64) <<< (k2 &&& 0x3f).toInt64) ((3 : Int64) <<< (k1 &&& 0x3f).toInt64) (sgF s1y) (sgF p1) (sgF s2y) (sgF p3)))])) _
  refine Go.via (fun _ => XS.iload X629.here hx rfl (hb hby at_228) rfl) ?_
  refine Go.via (fun _ => XS.icmpNo X629.here hx rfl (hb hby at_230) rfl (teq (((own_eqs (own_k31 hv_k1) (own_kif hv_k2 (own_k31 rfl) (own_k31 hv_k1))).trans ((if_pos hc623).trans ((if_pos hc626).trans rfl))) : (eqF ((3 : Int64) <<< (k2 &&& 0x3f).toInt64) ((3 : Int64) <<< (k1 &&& 0x3f).toInt64) (sgF s1y) (sgF p1) (sgF s2y) (sgF p3)) = (0 : Int32))).2) ?_
  show Go p e below (T629.setTop (mkF m 233 #[.val (.int p0), .val (.int p1), .val (.int p2), .val (.int p3), .val (.int p4), .val (.int p5), .val (.int k1), .val (.int k2), .val (.int s1y), .val (.int s2y), .val (.ref b433), .val (.int md), .val (.ref b520), .val (.int (0 : Int32))] [])) _
  refine Go.via (fun _ => XS.iconst X629.here hx rfl (hb hby at_233)) ?_
  refine Go.via (fun _ => XS.goto X629.here hx rfl (pc0 := 234) (pc' := 238) rfl (hb hby at_234) (by decide) (by decide)) ?_
  exact Go.finW X629 hS627 (Nat.le_trans hk627 (Nat.le_of_eq (congrArg Array.size (Eq.symm e629)))) hlk (v := some (.int (1 : Int32))) (fun h => by rw [hret] at h; cases h) (fun fs hr => retN X629 hx (t := .boolean) hret (by simp) (hb hby at_238) hr) (by rw [e629]; exact ⟨rfl, N627, k627, Em.still I627 X629.warmed.interned_eq (w39 X629.warmed.wide)⟩) (by decide) (by decide)
set_option maxRecDepth 65536 in
set_option maxHeartbeats 40000000 in
theorem rm_rm0_l209_4 (l : Launch) (Z : State) (a0 : Array Value) (hw : ∀ d ∈ tables_1, d.before a0 Z = true) (p0 : Int32) (p1 : Int32) (p2 : Int32) (p3 : Int32) (p4 : Int32) (p5 : Int32) (cs : Int32) (fv : Value) (ic : Addr) (cl : Cell) (h0 : Heap) (n0 : Nat) (zCS : Sta Z Z.heap cST "COMPACT_STRINGS" "Z" (.int cs)) (zF : Sta Z Z.heap cPR "SIOOBE_FORMATTER" "Ljava/util/function/BiFunction;" fv) (zH : Sta Z Z.heap cIC "high" "I" (.int (127 : Int32))) (zC : Sta Z Z.heap cIC "cache" "[Ljava/lang/Integer;" (.ref ic)) (hcs : ¬ (cs = (0 : Int32))) (hfv : fv = .null ∨ ∃ fa : Addr, fv = .ref fa) (hh7 : Jvm.Lit.constHeld Z cST 7) (hcw : Jvm.Lit.compactW.before a0 Z = true) (hA : Arr Z Z.heap ic cl (.object cIN)) (hca : ∀ i : Int32, ¬ i < (-128 : Int32) → ¬ (127 : Int32) < i → ∃ bb : Addr, (¬ ((i + (128 : Int32)) < 0 ∨ cl.slots.size ≤ (i + (128 : Int32)).toNatClampNeg)) ∧ cl.slots[(i + (128 : Int32)).toNatClampNeg]? = some (.ref bb) ∧ Exa Z Z.heap bb cIN) {p : Program} {e : Env} {s : State} {m : MethodId} {below : List Frame} {meth : Method} {c : Code} (hx : p.tables.exec = Jvm.exec) (hby : c.code = code) (hlk : meth.locks = false) (hml : c.maxLocals = 14) (hret : meth.sig.returnType = ret) :
    ∀ (T654 : State) (L654 : List Loc) (h654 : Heap) (vm654 : Vm) (K654 : Nat) (k1 : Int32) (k2 : Int32) (s1y : Int32) (s2y : Int32) (md : Int32) (b433 : Addr) (b444 : Addr) (b464 : Addr) (b520 : Addr) (b536 : Addr) (b572 : Addr) (v445 : Addr) (v465 : Addr) (v537 : Addr) (v573 : Addr), Stand p l e room_1 (s.setVm vm654) m #[(.int p0), (.int p1), (.int p2), (.int p3), (.int p4), (.int p5)] below meth c T654 L654 26 230 → T654.heap = h654 → Fr n0 L654 → n0 ≤ h654.size → Keep h0 h654 [] → Z.Warmed39 (s.setVm vm654).vm → (s.setVm vm654).vm.findClass cLAW = some m.cls → s.Since vm654 K654 → K654 ≤ h654.size → Em Z vm654 h654 ["signature 2", "signature 1"] → Old Z n0 h654 → Exa Z h654 b433 cCD → Fld Z h654 b433 cCD "blockSize" "J" (.long ((3 : Int64) <<< (k1 &&& 0x3f).toInt64)) → Fld Z h654 b433 cCD "signature1" "Ljava/lang/String;" (.ref b444) → Fld Z h654 b433 cCD "signature2" "Ljava/lang/String;" (.ref b464) → Exa Z h654 b444 cST → Fld Z h654 b444 cST "coder" "B" (.int (0 : Int32)) → Fld Z h654 b444 cST "value" "[B" (.ref v445) → Ia Z h654 v445 .byte (sgF p1) → Exa Z h654 b464 cST → Fld Z h654 b464 cST "coder" "B" (.int (0 : Int32)) → Fld Z h654 b464 cST "value" "[B" (.ref v465) → Ia Z h654 v465 .byte (sgF p3) → Exa Z h654 b520 cCD → Fld Z h654 b520 cCD "blockSize" "J" (.long ((3 : Int64) <<< (k2 &&& 0x3f).toInt64)) → Fld Z h654 b520 cCD "signature1" "Ljava/lang/String;" (.ref b536) → Fld Z h654 b520 cCD "signature2" "Ljava/lang/String;" (.ref b572) → Exa Z h654 b536 cST → Fld Z h654 b536 cST "coder" "B" (.int (0 : Int32)) → Fld Z h654 b536 cST "value" "[B" (.ref v537) → Ia Z h654 v537 .byte (sgF s1y) → Exa Z h654 b572 cST → Fld Z h654 b572 cST "coder" "B" (.int (0 : Int32)) → Fld Z h654 b572 cST "value" "[B" (.ref v573) → Ia Z h654 v573 .byte (sgF s2y) → b433 ≠ b520 → b444 ≠ b536 → b464 ≠ b572 → ((p0 &&& (2147483647 : Int32)) % (31 : Int32)) = k1 → (if (p5 &&& (1 : Int32)) = (0 : Int32) then ((((p0.toUInt32 >>> ((8 : Int32) &&& 31).toUInt32).toInt32) &&& (2147483647 : Int32)) % (31 : Int32)) else k1) = k2 → k1 = k2 → ¬ ((ssF p1 s1y) = (0 : Int32)) → (ssF p3 s2y) = (0 : Int32) → Go p e below (T654.setTop (mkF m 209 #[.val (.int p0), .val (.int p1), .val (.int p2), .val (.int p3), .val (.int p4), .val (.int p5), .val (.int k1), .val (.int k2), .val (.int s1y), .val (.int s2y), .val (.ref b433), .val (.int md), .val (.ref b520), .val (.int (0 : Int32))] [])) (DoneW s (Q_rm0 Z p0 p1 p2 p3 p4 p5 cs fv ic cl h0 n0) room_1.cells room_1.slots) := by
  intro T654 L654 h654 vm654 K654 k1 k2 s1y s2y md b433 b444 b464 b520 b536 b572 v445 v465 v537 v573 X654 e654 N654 z654 k654 hZ hown hS654 hk654 I654 lf0_654 lf1_654 lf2_654 lf3_654 lf4_654 lf5_654 lf6_654 lf7_654 lf8_654 lf9_654 lf10_654 lf11_654 lf12_654 lf13_654 lf14_654 lf15_654 lf16_654 lf17_654 lf18_654 lf19_654 lf20_654 lf21_654 lf22_654 lf23_654 lf24_654 lf34_654 lf40_654 lf52_654 hv_k1 hv_k2 hc623 hc626 hc653
  show Go p e below (T654.setTop (mkF m 209 #[.val (.int p0), .val (.int p1), .val (.int p2), .val (.int p3), .val (.int p4), .val (.int p5), .val (.int k1), .val (.int k2), .val (.int s1y), .val (.int s2y), .val (.ref b433), .val (.int md), .val (.ref b520), .val (.int (0 : Int32))] [])) _
  refine Go.via (fun _ => XS.aload X654.here hx rfl (hb hby at_209) rfl rfl) ?_
  refine Go.via (fun _ => XS.aload X654.here hx rfl (hb hby at_211) rfl rfl) ?_
  obtain ⟨cq655, kq655, q655a, q655b, q655c⟩ := isOf hZ e654 lf1_654
  obtain ⟨r655, _, ⟨T655, L655, k655, n655⟩, -, X655, ⟨Lc655, hQ655, l655, y655, z655⟩, st655⟩ := X654.virtualBack hx (y := (⟨cCD, "equals", "(Ljava/lang/Object;)Z"⟩ : MethodName)) (z := (⟨cCD, "equals", "(Ljava/lang/Object;)Z"⟩ : MethodName)) hown (mvT hZ (tw hw 110 rfl)) (mvT hZ (tw hw 111 rfl)) (notFace_of_selects (args := #[]) (mvT hZ (tw hw 113 rfl))) (mvT hZ (tw hw 113 rfl)) (mvT hZ (tw hw 112 rfl)) (by decide) (backOf (W := 0) (rmEo l Z a0 hw [] b433 b520 ((3 : Int64) <<< (k1 &&& 0x3f).toInt64) ((3 : Int64) <<< (k2 &&& 0x3f).toInt64) b444 b464 b536 b572 v445 v465 v537 v573 (sgF p1) (sgF p3) (sgF s1y) (sgF s2y) cs h654 n0 z654 lf1_654 lf2_654 lf3_654 lf4_654 lf13_654 lf14_654 lf15_654 lf16_654 lf5_654 lf6_654 lf7_654 lf8_654 lf9_654 lf10_654 lf11_654 lf12_654 lf17_654 lf18_654 lf19_654 lf20_654 lf21_654 lf22_654 lf23_654 lf24_654 lf0_654 zCS lf34_654 lf40_654 lf52_654 (own_Sh (own_Sg _)) (own_Sh (own_Sg _)) (own_Sh (own_Sg _)) (own_Sh (own_Sg _)) hcs) hZ (tw hw 114 rfl) (tw hw 3 rfl) (by decide) (by decide)) q655a q655c (g := (mkF m 213 #[.val (.int p0), .val (.int p1), .val (.int p2), .val (.int p3), .val (.int p4), .val (.int p5), .val (.int k1), .val (.int k2), .val (.int s1y), .val (.int s2y), .val (.ref b433), .val (.int md), .val (.ref b520), .val (.int (0 : Int32))] [(.ref b520), (.ref b433)])) rfl (by rw [hml]; rfl) (Steps.refl _) (argsL := [(.ref b520)]) (rest := []) (lenOf pd__28Ljava_2flang_2fObject_3b_29Z rfl) rfl (by show 2 * 0 + _ ≤ _; exact Nat.le_of_eq rfl) (hb hby at_213) (fun _ _ => ⟨rfl, e654, (by decide : 26 + 0 ≤ _), (by decide : 230 + 0 ≤ _)⟩)
  dsimp only [Pt.U, Pt.locs, Pt.cells, Pt.slots] at X655 l655 y655 z655 st655 hQ655
  rw [l655, y655, z655] at X655
  clear l655 y655 z655
  obtain ⟨hr655, N655q, eh655⟩ := hQ655
  rw [hr655] at st655
  clear hr655
  rw [N655q, List.append_nil] at X655
  refine Go.via (fun _ kQ => st655.trans kQ) ?_
  clear st655
  have e655 : T655.heap = h654 := eh655
  clear X654 e654
  show Go p e below (T655.setTop (mkF m 216 #[.val (.int p0), .val (.int p1), .val (.int p2), .val (.int p3), .val (.int p4), .val (.int p5), .val (.int k1), .val (.int k2), .val (.int s1y), .val (.int s2y), .val (.ref b433), .val (.int md), .val (.ref b520), .val (.int (0 : Int32))] [(.int (eqF ((3 : Int64) <<< (k1 &&& 0x3f).toInt64) ((3 : Int64) <<< (k2 &&& 0x3f).toInt64) (sgF p1) (sgF s1y) (sgF p3) (sgF s2y)))])) _
  refine Go.via (fun _ => XS.iload X655.here hx rfl (hb hby at_216) rfl) ?_
  refine Go.via (fun _ => XS.icmpNo X655.here hx rfl (hb hby at_218) rfl (teq (((own_eq (own_k31 hv_k1) (own_kif hv_k2 (own_k31 rfl) (own_k31 hv_k1))).trans ((if_pos hc623).trans ((if_neg hc626).trans ((if_pos hc653).trans rfl)))) : (eqF ((3 : Int64) <<< (k1 &&& 0x3f).toInt64) ((3 : Int64) <<< (k2 &&& 0x3f).toInt64) (sgF p1) (sgF s1y) (sgF p3) (sgF s2y)) = (0 : Int32))).2) ?_
  show Go p e below (T655.setTop (mkF m 221 #[.val (.int p0), .val (.int p1), .val (.int p2), .val (.int p3), .val (.int p4), .val (.int p5), .val (.int k1), .val (.int k2), .val (.int s1y), .val (.int s2y), .val (.ref b433), .val (.int md), .val (.ref b520), .val (.int (0 : Int32))] [])) _
  refine Go.via (fun _ => XS.aload X655.here hx rfl (hb hby at_221) rfl rfl) ?_
  refine Go.via (fun _ => XS.aload X655.here hx rfl (hb hby at_223) rfl rfl) ?_
  obtain ⟨cq656, kq656, q656a, q656b, q656c⟩ := isOf hZ e655 lf13_654
  obtain ⟨r656, _, ⟨T656, L656, k656, n656⟩, -, X656, ⟨Lc656, hQ656, l656, y656, z656⟩, st656⟩ := X655.virtualBack hx (y := (⟨cCD, "equals", "(Ljava/lang/Object;)Z"⟩ : MethodName)) (z := (⟨cCD, "equals", "(Ljava/lang/Object;)Z"⟩ : MethodName)) hown (mvT hZ (tw hw 110 rfl)) (mvT hZ (tw hw 111 rfl)) (notFace_of_selects (args := #[]) (mvT hZ (tw hw 113 rfl))) (mvT hZ (tw hw 113 rfl)) (mvT hZ (tw hw 112 rfl)) (by decide) (backOf (W := 0) (rmEo l Z a0 hw [] b520 b433 ((3 : Int64) <<< (k2 &&& 0x3f).toInt64) ((3 : Int64) <<< (k1 &&& 0x3f).toInt64) b536 b572 b444 b464 v537 v573 v445 v465 (sgF s1y) (sgF s2y) (sgF p1) (sgF p3) cs h654 n0 z654 lf13_654 lf14_654 lf15_654 lf16_654 lf1_654 lf2_654 lf3_654 lf4_654 lf17_654 lf18_654 lf19_654 lf20_654 lf21_654 lf22_654 lf23_654 lf24_654 lf5_654 lf6_654 lf7_654 lf8_654 lf9_654 lf10_654 lf11_654 lf12_654 lf0_654 zCS (Ne.symm lf34_654) (Ne.symm lf40_654) (Ne.symm lf52_654) (own_Sh (own_Sg _)) (own_Sh (own_Sg _)) (own_Sh (own_Sg _)) (own_Sh (own_Sg _)) hcs) hZ (tw hw 114 rfl) (tw hw 3 rfl) (by decide) (by decide)) q656a q656c (g := (mkF m 225 #[.val (.int p0), .val (.int p1), .val (.int p2), .val (.int p3), .val (.int p4), .val (.int p5), .val (.int k1), .val (.int k2), .val (.int s1y), .val (.int s2y), .val (.ref b433), .val (.int md), .val (.ref b520), .val (.int (0 : Int32))] [(.ref b433), (.ref b520)])) rfl (by rw [hml]; rfl) (Steps.refl _) (argsL := [(.ref b433)]) (rest := []) (lenOf pd__28Ljava_2flang_2fObject_3b_29Z rfl) rfl (by show 2 * 0 + _ ≤ _; exact Nat.le_of_eq rfl) (hb hby at_225) (fun _ _ => ⟨rfl, e655, (by decide : 26 + 0 ≤ _), (by decide : 230 + 0 ≤ _)⟩)
  dsimp only [Pt.U, Pt.locs, Pt.cells, Pt.slots] at X656 l656 y656 z656 st656 hQ656
  rw [l656, y656, z656] at X656
  clear l656 y656 z656
  obtain ⟨hr656, N656q, eh656⟩ := hQ656
  rw [hr656] at st656
  clear hr656
  rw [N656q, List.append_nil] at X656
  refine Go.via (fun _ kQ => st656.trans kQ) ?_
  clear st656
  have e656 : T656.heap = h654 := eh656
  clear X655 e655
  show Go p e below (T656.setTop (mkF m 228 #[.val (.int p0), .val (.int p1), .val (.int p2), .val (.int p3), .val (.int p4), .val (.int p5), .val (.int k1), .val (.int k2), .val (.int s1y), .val (.int s2y), .val (.ref b433), .val (.int md), .val (.ref b520), .val (.int (0 : Int32))] [(.int (eqF ((3 : Int64) <<< (k2 &&& 0x3f).toInt64) ((3 : Int64) <<< (k1 &&& 0x3f).toInt64) (sgF s1y) (sgF p1) (sgF s2y) (sgF p3)))])) _
  refine Go.via (fun _ => XS.iload X656.here hx rfl (hb hby at_228) rfl) ?_
  refine Go.via (fun _ => XS.icmpNo X656.here hx rfl (hb hby at_230) rfl (teq (((own_eqs (own_k31 hv_k1) (own_kif hv_k2 (own_k31 rfl) (own_k31 hv_k1))).trans ((if_pos hc623).trans ((if_neg hc626).trans ((if_pos hc653).trans rfl)))) : (eqF ((3 : Int64) <<< (k2 &&& 0x3f).toInt64) ((3 : Int64) <<< (k1 &&& 0x3f).toInt64) (sgF s1y) (sgF p1) (sgF s2y) (sgF p3)) = (0 : Int32))).2) ?_
  show Go p e below (T656.setTop (mkF m 233 #[.val (.int p0), .val (.int p1), .val (.int p2), .val (.int p3), .val (.int p4), .val (.int p5), .val (.int k1), .val (.int k2), .val (.int s1y), .val (.int s2y), .val (.ref b433), .val (.int md), .val (.ref b520), .val (.int (0 : Int32))] [])) _
  refine Go.via (fun _ => XS.iconst X656.here hx rfl (hb hby at_233)) ?_
  refine Go.via (fun _ => XS.goto X656.here hx rfl (pc0 := 234) (pc' := 238) rfl (hb hby at_234) (by decide) (by decide)) ?_
  exact Go.finW X656 hS654 (Nat.le_trans hk654 (Nat.le_of_eq (congrArg Array.size (Eq.symm e656)))) hlk (v := some (.int (1 : Int32))) (fun h => by rw [hret] at h; cases h) (fun fs hr => retN X656 hx (t := .boolean) hret (by simp) (hb hby at_238) hr) (by rw [e656]; exact ⟨rfl, N654, k654, Em.still I654 X656.warmed.interned_eq (w39 X656.warmed.wide)⟩) (by decide) (by decide)
set_option maxRecDepth 65536 in
set_option maxHeartbeats 40000000 in
theorem rm_rm0_l209_5 (l : Launch) (Z : State) (a0 : Array Value) (hw : ∀ d ∈ tables_1, d.before a0 Z = true) (p0 : Int32) (p1 : Int32) (p2 : Int32) (p3 : Int32) (p4 : Int32) (p5 : Int32) (cs : Int32) (fv : Value) (ic : Addr) (cl : Cell) (h0 : Heap) (n0 : Nat) (zCS : Sta Z Z.heap cST "COMPACT_STRINGS" "Z" (.int cs)) (zF : Sta Z Z.heap cPR "SIOOBE_FORMATTER" "Ljava/util/function/BiFunction;" fv) (zH : Sta Z Z.heap cIC "high" "I" (.int (127 : Int32))) (zC : Sta Z Z.heap cIC "cache" "[Ljava/lang/Integer;" (.ref ic)) (hcs : ¬ (cs = (0 : Int32))) (hfv : fv = .null ∨ ∃ fa : Addr, fv = .ref fa) (hh7 : Jvm.Lit.constHeld Z cST 7) (hcw : Jvm.Lit.compactW.before a0 Z = true) (hA : Arr Z Z.heap ic cl (.object cIN)) (hca : ∀ i : Int32, ¬ i < (-128 : Int32) → ¬ (127 : Int32) < i → ∃ bb : Addr, (¬ ((i + (128 : Int32)) < 0 ∨ cl.slots.size ≤ (i + (128 : Int32)).toNatClampNeg)) ∧ cl.slots[(i + (128 : Int32)).toNatClampNeg]? = some (.ref bb) ∧ Exa Z Z.heap bb cIN) {p : Program} {e : Env} {s : State} {m : MethodId} {below : List Frame} {meth : Method} {c : Code} (hx : p.tables.exec = Jvm.exec) (hby : c.code = code) (hlk : meth.locks = false) (hml : c.maxLocals = 14) (hret : meth.sig.returnType = ret) :
    ∀ (T679 : State) (L679 : List Loc) (h679 : Heap) (vm679 : Vm) (K679 : Nat) (k1 : Int32) (k2 : Int32) (s1y : Int32) (s2y : Int32) (md : Int32) (b433 : Addr) (b444 : Addr) (b464 : Addr) (b520 : Addr) (b536 : Addr) (b572 : Addr) (v445 : Addr) (v465 : Addr) (v537 : Addr) (v573 : Addr), Stand p l e room_1 (s.setVm vm679) m #[(.int p0), (.int p1), (.int p2), (.int p3), (.int p4), (.int p5)] below meth c T679 L679 26 230 → T679.heap = h679 → Fr n0 L679 → n0 ≤ h679.size → Keep h0 h679 [] → Z.Warmed39 (s.setVm vm679).vm → (s.setVm vm679).vm.findClass cLAW = some m.cls → s.Since vm679 K679 → K679 ≤ h679.size → Em Z vm679 h679 ["signature 2", "signature 1"] → Old Z n0 h679 → Exa Z h679 b433 cCD → Fld Z h679 b433 cCD "blockSize" "J" (.long ((3 : Int64) <<< (k1 &&& 0x3f).toInt64)) → Fld Z h679 b433 cCD "signature1" "Ljava/lang/String;" (.ref b444) → Fld Z h679 b433 cCD "signature2" "Ljava/lang/String;" (.ref b464) → Exa Z h679 b444 cST → Fld Z h679 b444 cST "coder" "B" (.int (0 : Int32)) → Fld Z h679 b444 cST "value" "[B" (.ref v445) → Ia Z h679 v445 .byte (sgF p1) → Exa Z h679 b464 cST → Fld Z h679 b464 cST "coder" "B" (.int (0 : Int32)) → Fld Z h679 b464 cST "value" "[B" (.ref v465) → Ia Z h679 v465 .byte (sgF p3) → Exa Z h679 b520 cCD → Fld Z h679 b520 cCD "blockSize" "J" (.long ((3 : Int64) <<< (k2 &&& 0x3f).toInt64)) → Fld Z h679 b520 cCD "signature1" "Ljava/lang/String;" (.ref b536) → Fld Z h679 b520 cCD "signature2" "Ljava/lang/String;" (.ref b572) → Exa Z h679 b536 cST → Fld Z h679 b536 cST "coder" "B" (.int (0 : Int32)) → Fld Z h679 b536 cST "value" "[B" (.ref v537) → Ia Z h679 v537 .byte (sgF s1y) → Exa Z h679 b572 cST → Fld Z h679 b572 cST "coder" "B" (.int (0 : Int32)) → Fld Z h679 b572 cST "value" "[B" (.ref v573) → Ia Z h679 v573 .byte (sgF s2y) → b433 ≠ b520 → b444 ≠ b536 → b464 ≠ b572 → ((p0 &&& (2147483647 : Int32)) % (31 : Int32)) = k1 → (if (p5 &&& (1 : Int32)) = (0 : Int32) then ((((p0.toUInt32 >>> ((8 : Int32) &&& 31).toUInt32).toInt32) &&& (2147483647 : Int32)) % (31 : Int32)) else k1) = k2 → k1 = k2 → ¬ ((ssF p1 s1y) = (0 : Int32)) → ¬ ((ssF p3 s2y) = (0 : Int32)) → Go p e below (T679.setTop (mkF m 209 #[.val (.int p0), .val (.int p1), .val (.int p2), .val (.int p3), .val (.int p4), .val (.int p5), .val (.int k1), .val (.int k2), .val (.int s1y), .val (.int s2y), .val (.ref b433), .val (.int md), .val (.ref b520), .val (.int (1 : Int32))] [])) (DoneW s (Q_rm0 Z p0 p1 p2 p3 p4 p5 cs fv ic cl h0 n0) room_1.cells room_1.slots) := by
  intro T679 L679 h679 vm679 K679 k1 k2 s1y s2y md b433 b444 b464 b520 b536 b572 v445 v465 v537 v573 X679 e679 N679 z679 k679 hZ hown hS679 hk679 I679 lf0_679 lf1_679 lf2_679 lf3_679 lf4_679 lf5_679 lf6_679 lf7_679 lf8_679 lf9_679 lf10_679 lf11_679 lf12_679 lf13_679 lf14_679 lf15_679 lf16_679 lf17_679 lf18_679 lf19_679 lf20_679 lf21_679 lf22_679 lf23_679 lf24_679 lf34_679 lf40_679 lf52_679 hv_k1 hv_k2 hc623 hc626 hc653
  show Go p e below (T679.setTop (mkF m 209 #[.val (.int p0), .val (.int p1), .val (.int p2), .val (.int p3), .val (.int p4), .val (.int p5), .val (.int k1), .val (.int k2), .val (.int s1y), .val (.int s2y), .val (.ref b433), .val (.int md), .val (.ref b520), .val (.int (1 : Int32))] [])) _
  refine Go.via (fun _ => XS.aload X679.here hx rfl (hb hby at_209) rfl rfl) ?_
  refine Go.via (fun _ => XS.aload X679.here hx rfl (hb hby at_211) rfl rfl) ?_
  obtain ⟨cq680, kq680, q680a, q680b, q680c⟩ := isOf hZ e679 lf1_679
  obtain ⟨r680, _, ⟨T680, L680, k680, n680⟩, -, X680, ⟨Lc680, hQ680, l680, y680, z680⟩, st680⟩ := X679.virtualBack hx (y := (⟨cCD, "equals", "(Ljava/lang/Object;)Z"⟩ : MethodName)) (z := (⟨cCD, "equals", "(Ljava/lang/Object;)Z"⟩ : MethodName)) hown (mvT hZ (tw hw 110 rfl)) (mvT hZ (tw hw 111 rfl)) (notFace_of_selects (args := #[]) (mvT hZ (tw hw 113 rfl))) (mvT hZ (tw hw 113 rfl)) (mvT hZ (tw hw 112 rfl)) (by decide) (backOf (W := 0) (rmEo l Z a0 hw [] b433 b520 ((3 : Int64) <<< (k1 &&& 0x3f).toInt64) ((3 : Int64) <<< (k2 &&& 0x3f).toInt64) b444 b464 b536 b572 v445 v465 v537 v573 (sgF p1) (sgF p3) (sgF s1y) (sgF s2y) cs h679 n0 z679 lf1_679 lf2_679 lf3_679 lf4_679 lf13_679 lf14_679 lf15_679 lf16_679 lf5_679 lf6_679 lf7_679 lf8_679 lf9_679 lf10_679 lf11_679 lf12_679 lf17_679 lf18_679 lf19_679 lf20_679 lf21_679 lf22_679 lf23_679 lf24_679 lf0_679 zCS lf34_679 lf40_679 lf52_679 (own_Sh (own_Sg _)) (own_Sh (own_Sg _)) (own_Sh (own_Sg _)) (own_Sh (own_Sg _)) hcs) hZ (tw hw 114 rfl) (tw hw 3 rfl) (by decide) (by decide)) q680a q680c (g := (mkF m 213 #[.val (.int p0), .val (.int p1), .val (.int p2), .val (.int p3), .val (.int p4), .val (.int p5), .val (.int k1), .val (.int k2), .val (.int s1y), .val (.int s2y), .val (.ref b433), .val (.int md), .val (.ref b520), .val (.int (1 : Int32))] [(.ref b520), (.ref b433)])) rfl (by rw [hml]; rfl) (Steps.refl _) (argsL := [(.ref b520)]) (rest := []) (lenOf pd__28Ljava_2flang_2fObject_3b_29Z rfl) rfl (by show 2 * 0 + _ ≤ _; exact Nat.le_of_eq rfl) (hb hby at_213) (fun _ _ => ⟨rfl, e679, (by decide : 26 + 0 ≤ _), (by decide : 230 + 0 ≤ _)⟩)
  dsimp only [Pt.U, Pt.locs, Pt.cells, Pt.slots] at X680 l680 y680 z680 st680 hQ680
  rw [l680, y680, z680] at X680
  clear l680 y680 z680
  obtain ⟨hr680, N680q, eh680⟩ := hQ680
  rw [hr680] at st680
  clear hr680
  rw [N680q, List.append_nil] at X680
  refine Go.via (fun _ kQ => st680.trans kQ) ?_
  clear st680
  have e680 : T680.heap = h679 := eh680
  clear X679 e679
  show Go p e below (T680.setTop (mkF m 216 #[.val (.int p0), .val (.int p1), .val (.int p2), .val (.int p3), .val (.int p4), .val (.int p5), .val (.int k1), .val (.int k2), .val (.int s1y), .val (.int s2y), .val (.ref b433), .val (.int md), .val (.ref b520), .val (.int (1 : Int32))] [(.int (eqF ((3 : Int64) <<< (k1 &&& 0x3f).toInt64) ((3 : Int64) <<< (k2 &&& 0x3f).toInt64) (sgF p1) (sgF s1y) (sgF p3) (sgF s2y)))])) _
  refine Go.via (fun _ => XS.iload X680.here hx rfl (hb hby at_216) rfl) ?_
  refine Go.via (fun _ => XS.icmpNo X680.here hx rfl (hb hby at_218) rfl (teq (((own_eq (own_k31 hv_k1) (own_kif hv_k2 (own_k31 rfl) (own_k31 hv_k1))).trans ((if_pos hc623).trans ((if_neg hc626).trans ((if_neg hc653).trans rfl)))) : (eqF ((3 : Int64) <<< (k1 &&& 0x3f).toInt64) ((3 : Int64) <<< (k2 &&& 0x3f).toInt64) (sgF p1) (sgF s1y) (sgF p3) (sgF s2y)) = (1 : Int32))).2) ?_
  show Go p e below (T680.setTop (mkF m 221 #[.val (.int p0), .val (.int p1), .val (.int p2), .val (.int p3), .val (.int p4), .val (.int p5), .val (.int k1), .val (.int k2), .val (.int s1y), .val (.int s2y), .val (.ref b433), .val (.int md), .val (.ref b520), .val (.int (1 : Int32))] [])) _
  refine Go.via (fun _ => XS.aload X680.here hx rfl (hb hby at_221) rfl rfl) ?_
  refine Go.via (fun _ => XS.aload X680.here hx rfl (hb hby at_223) rfl rfl) ?_
  obtain ⟨cq681, kq681, q681a, q681b, q681c⟩ := isOf hZ e680 lf13_679
  obtain ⟨r681, _, ⟨T681, L681, k681, n681⟩, -, X681, ⟨Lc681, hQ681, l681, y681, z681⟩, st681⟩ := X680.virtualBack hx (y := (⟨cCD, "equals", "(Ljava/lang/Object;)Z"⟩ : MethodName)) (z := (⟨cCD, "equals", "(Ljava/lang/Object;)Z"⟩ : MethodName)) hown (mvT hZ (tw hw 110 rfl)) (mvT hZ (tw hw 111 rfl)) (notFace_of_selects (args := #[]) (mvT hZ (tw hw 113 rfl))) (mvT hZ (tw hw 113 rfl)) (mvT hZ (tw hw 112 rfl)) (by decide) (backOf (W := 0) (rmEo l Z a0 hw [] b520 b433 ((3 : Int64) <<< (k2 &&& 0x3f).toInt64) ((3 : Int64) <<< (k1 &&& 0x3f).toInt64) b536 b572 b444 b464 v537 v573 v445 v465 (sgF s1y) (sgF s2y) (sgF p1) (sgF p3) cs h679 n0 z679 lf13_679 lf14_679 lf15_679 lf16_679 lf1_679 lf2_679 lf3_679 lf4_679 lf17_679 lf18_679 lf19_679 lf20_679 lf21_679 lf22_679 lf23_679 lf24_679 lf5_679 lf6_679 lf7_679 lf8_679 lf9_679 lf10_679 lf11_679 lf12_679 lf0_679 zCS (Ne.symm lf34_679) (Ne.symm lf40_679) (Ne.symm lf52_679) (own_Sh (own_Sg _)) (own_Sh (own_Sg _)) (own_Sh (own_Sg _)) (own_Sh (own_Sg _)) hcs) hZ (tw hw 114 rfl) (tw hw 3 rfl) (by decide) (by decide)) q681a q681c (g := (mkF m 225 #[.val (.int p0), .val (.int p1), .val (.int p2), .val (.int p3), .val (.int p4), .val (.int p5), .val (.int k1), .val (.int k2), .val (.int s1y), .val (.int s2y), .val (.ref b433), .val (.int md), .val (.ref b520), .val (.int (1 : Int32))] [(.ref b433), (.ref b520)])) rfl (by rw [hml]; rfl) (Steps.refl _) (argsL := [(.ref b433)]) (rest := []) (lenOf pd__28Ljava_2flang_2fObject_3b_29Z rfl) rfl (by show 2 * 0 + _ ≤ _; exact Nat.le_of_eq rfl) (hb hby at_225) (fun _ _ => ⟨rfl, e680, (by decide : 26 + 0 ≤ _), (by decide : 230 + 0 ≤ _)⟩)
  dsimp only [Pt.U, Pt.locs, Pt.cells, Pt.slots] at X681 l681 y681 z681 st681 hQ681
  rw [l681, y681, z681] at X681
  clear l681 y681 z681
  obtain ⟨hr681, N681q, eh681⟩ := hQ681
  rw [hr681] at st681
  clear hr681
  rw [N681q, List.append_nil] at X681
  refine Go.via (fun _ kQ => st681.trans kQ) ?_
  clear st681
  have e681 : T681.heap = h679 := eh681
  clear X680 e680
  show Go p e below (T681.setTop (mkF m 228 #[.val (.int p0), .val (.int p1), .val (.int p2), .val (.int p3), .val (.int p4), .val (.int p5), .val (.int k1), .val (.int k2), .val (.int s1y), .val (.int s2y), .val (.ref b433), .val (.int md), .val (.ref b520), .val (.int (1 : Int32))] [(.int (eqF ((3 : Int64) <<< (k2 &&& 0x3f).toInt64) ((3 : Int64) <<< (k1 &&& 0x3f).toInt64) (sgF s1y) (sgF p1) (sgF s2y) (sgF p3)))])) _
  refine Go.via (fun _ => XS.iload X681.here hx rfl (hb hby at_228) rfl) ?_
  refine Go.via (fun _ => XS.icmpNo X681.here hx rfl (hb hby at_230) rfl (teq (((own_eqs (own_k31 hv_k1) (own_kif hv_k2 (own_k31 rfl) (own_k31 hv_k1))).trans ((if_pos hc623).trans ((if_neg hc626).trans ((if_neg hc653).trans rfl)))) : (eqF ((3 : Int64) <<< (k2 &&& 0x3f).toInt64) ((3 : Int64) <<< (k1 &&& 0x3f).toInt64) (sgF s1y) (sgF p1) (sgF s2y) (sgF p3)) = (1 : Int32))).2) ?_
  show Go p e below (T681.setTop (mkF m 233 #[.val (.int p0), .val (.int p1), .val (.int p2), .val (.int p3), .val (.int p4), .val (.int p5), .val (.int k1), .val (.int k2), .val (.int s1y), .val (.int s2y), .val (.ref b433), .val (.int md), .val (.ref b520), .val (.int (1 : Int32))] [])) _
  refine Go.via (fun _ => XS.iconst X681.here hx rfl (hb hby at_233)) ?_
  refine Go.via (fun _ => XS.goto X681.here hx rfl (pc0 := 234) (pc' := 238) rfl (hb hby at_234) (by decide) (by decide)) ?_
  exact Go.finW X681 hS679 (Nat.le_trans hk679 (Nat.le_of_eq (congrArg Array.size (Eq.symm e681)))) hlk (v := some (.int (1 : Int32))) (fun h => by rw [hret] at h; cases h) (fun fs hr => retN X681 hx (t := .boolean) hret (by simp) (hb hby at_238) hr) (by rw [e681]; exact ⟨rfl, N679, k679, Em.still I679 X681.warmed.interned_eq (w39 X681.warmed.wide)⟩) (by decide) (by decide)
set_option maxRecDepth 65536 in
set_option maxHeartbeats 40000000 in
theorem rm_rm0_l209_6 (l : Launch) (Z : State) (a0 : Array Value) (hw : ∀ d ∈ tables_1, d.before a0 Z = true) (p0 : Int32) (p1 : Int32) (p2 : Int32) (p3 : Int32) (p4 : Int32) (p5 : Int32) (cs : Int32) (fv : Value) (ic : Addr) (cl : Cell) (h0 : Heap) (n0 : Nat) (zCS : Sta Z Z.heap cST "COMPACT_STRINGS" "Z" (.int cs)) (zF : Sta Z Z.heap cPR "SIOOBE_FORMATTER" "Ljava/util/function/BiFunction;" fv) (zH : Sta Z Z.heap cIC "high" "I" (.int (127 : Int32))) (zC : Sta Z Z.heap cIC "cache" "[Ljava/lang/Integer;" (.ref ic)) (hcs : ¬ (cs = (0 : Int32))) (hfv : fv = .null ∨ ∃ fa : Addr, fv = .ref fa) (hh7 : Jvm.Lit.constHeld Z cST 7) (hcw : Jvm.Lit.compactW.before a0 Z = true) (hA : Arr Z Z.heap ic cl (.object cIN)) (hca : ∀ i : Int32, ¬ i < (-128 : Int32) → ¬ (127 : Int32) < i → ∃ bb : Addr, (¬ ((i + (128 : Int32)) < 0 ∨ cl.slots.size ≤ (i + (128 : Int32)).toNatClampNeg)) ∧ cl.slots[(i + (128 : Int32)).toNatClampNeg]? = some (.ref bb) ∧ Exa Z Z.heap bb cIN) {p : Program} {e : Env} {s : State} {m : MethodId} {below : List Frame} {meth : Method} {c : Code} (hx : p.tables.exec = Jvm.exec) (hby : c.code = code) (hlk : meth.locks = false) (hml : c.maxLocals = 14) (hret : meth.sig.returnType = ret) :
    ∀ (T704 : State) (L704 : List Loc) (h704 : Heap) (vm704 : Vm) (K704 : Nat) (k1 : Int32) (k2 : Int32) (s1y : Int32) (s2y : Int32) (md : Int32) (b433 : Addr) (b444 : Addr) (b464 : Addr) (b520 : Addr) (b536 : Addr) (b572 : Addr) (v445 : Addr) (v465 : Addr) (v537 : Addr) (v573 : Addr), Stand p l e room_1 (s.setVm vm704) m #[(.int p0), (.int p1), (.int p2), (.int p3), (.int p4), (.int p5)] below meth c T704 L704 26 230 → T704.heap = h704 → Fr n0 L704 → n0 ≤ h704.size → Keep h0 h704 [] → Z.Warmed39 (s.setVm vm704).vm → (s.setVm vm704).vm.findClass cLAW = some m.cls → s.Since vm704 K704 → K704 ≤ h704.size → Em Z vm704 h704 ["signature 2", "signature 1"] → Old Z n0 h704 → Exa Z h704 b433 cCD → Fld Z h704 b433 cCD "blockSize" "J" (.long ((3 : Int64) <<< (k1 &&& 0x3f).toInt64)) → Fld Z h704 b433 cCD "signature1" "Ljava/lang/String;" (.ref b444) → Fld Z h704 b433 cCD "signature2" "Ljava/lang/String;" (.ref b464) → Exa Z h704 b444 cST → Fld Z h704 b444 cST "coder" "B" (.int (0 : Int32)) → Fld Z h704 b444 cST "value" "[B" (.ref v445) → Ia Z h704 v445 .byte (sgF p1) → Exa Z h704 b464 cST → Fld Z h704 b464 cST "coder" "B" (.int (0 : Int32)) → Fld Z h704 b464 cST "value" "[B" (.ref v465) → Ia Z h704 v465 .byte (sgF p3) → Exa Z h704 b520 cCD → Fld Z h704 b520 cCD "blockSize" "J" (.long ((3 : Int64) <<< (k2 &&& 0x3f).toInt64)) → Fld Z h704 b520 cCD "signature1" "Ljava/lang/String;" (.ref b536) → Fld Z h704 b520 cCD "signature2" "Ljava/lang/String;" (.ref b572) → Exa Z h704 b536 cST → Fld Z h704 b536 cST "coder" "B" (.int (0 : Int32)) → Fld Z h704 b536 cST "value" "[B" (.ref v537) → Ia Z h704 v537 .byte (sgF s1y) → Exa Z h704 b572 cST → Fld Z h704 b572 cST "coder" "B" (.int (0 : Int32)) → Fld Z h704 b572 cST "value" "[B" (.ref v573) → Ia Z h704 v573 .byte (sgF s2y) → b433 ≠ b520 → b444 ≠ b536 → b464 ≠ b572 → ((p0 &&& (2147483647 : Int32)) % (31 : Int32)) = k1 → (if (p5 &&& (1 : Int32)) = (0 : Int32) then ((((p0.toUInt32 >>> ((8 : Int32) &&& 31).toUInt32).toInt32) &&& (2147483647 : Int32)) % (31 : Int32)) else k1) = k2 → ¬ (k1 = k2) → Go p e below (T704.setTop (mkF m 209 #[.val (.int p0), .val (.int p1), .val (.int p2), .val (.int p3), .val (.int p4), .val (.int p5), .val (.int k1), .val (.int k2), .val (.int s1y), .val (.int s2y), .val (.ref b433), .val (.int md), .val (.ref b520), .val (.int (0 : Int32))] [])) (DoneW s (Q_rm0 Z p0 p1 p2 p3 p4 p5 cs fv ic cl h0 n0) room_1.cells room_1.slots) := by
  intro T704 L704 h704 vm704 K704 k1 k2 s1y s2y md b433 b444 b464 b520 b536 b572 v445 v465 v537 v573 X704 e704 N704 z704 k704 hZ hown hS704 hk704 I704 lf0_704 lf1_704 lf2_704 lf3_704 lf4_704 lf5_704 lf6_704 lf7_704 lf8_704 lf9_704 lf10_704 lf11_704 lf12_704 lf13_704 lf14_704 lf15_704 lf16_704 lf17_704 lf18_704 lf19_704 lf20_704 lf21_704 lf22_704 lf23_704 lf24_704 lf34_704 lf40_704 lf52_704 hv_k1 hv_k2 hc623
  show Go p e below (T704.setTop (mkF m 209 #[.val (.int p0), .val (.int p1), .val (.int p2), .val (.int p3), .val (.int p4), .val (.int p5), .val (.int k1), .val (.int k2), .val (.int s1y), .val (.int s2y), .val (.ref b433), .val (.int md), .val (.ref b520), .val (.int (0 : Int32))] [])) _
  refine Go.via (fun _ => XS.aload X704.here hx rfl (hb hby at_209) rfl rfl) ?_
  refine Go.via (fun _ => XS.aload X704.here hx rfl (hb hby at_211) rfl rfl) ?_
  obtain ⟨cq705, kq705, q705a, q705b, q705c⟩ := isOf hZ e704 lf1_704
  obtain ⟨r705, _, ⟨T705, L705, k705, n705⟩, -, X705, ⟨Lc705, hQ705, l705, y705, z705⟩, st705⟩ := X704.virtualBack hx (y := (⟨cCD, "equals", "(Ljava/lang/Object;)Z"⟩ : MethodName)) (z := (⟨cCD, "equals", "(Ljava/lang/Object;)Z"⟩ : MethodName)) hown (mvT hZ (tw hw 110 rfl)) (mvT hZ (tw hw 111 rfl)) (notFace_of_selects (args := #[]) (mvT hZ (tw hw 113 rfl))) (mvT hZ (tw hw 113 rfl)) (mvT hZ (tw hw 112 rfl)) (by decide) (backOf (W := 0) (rmEo l Z a0 hw [] b433 b520 ((3 : Int64) <<< (k1 &&& 0x3f).toInt64) ((3 : Int64) <<< (k2 &&& 0x3f).toInt64) b444 b464 b536 b572 v445 v465 v537 v573 (sgF p1) (sgF p3) (sgF s1y) (sgF s2y) cs h704 n0 z704 lf1_704 lf2_704 lf3_704 lf4_704 lf13_704 lf14_704 lf15_704 lf16_704 lf5_704 lf6_704 lf7_704 lf8_704 lf9_704 lf10_704 lf11_704 lf12_704 lf17_704 lf18_704 lf19_704 lf20_704 lf21_704 lf22_704 lf23_704 lf24_704 lf0_704 zCS lf34_704 lf40_704 lf52_704 (own_Sh (own_Sg _)) (own_Sh (own_Sg _)) (own_Sh (own_Sg _)) (own_Sh (own_Sg _)) hcs) hZ (tw hw 114 rfl) (tw hw 3 rfl) (by decide) (by decide)) q705a q705c (g := (mkF m 213 #[.val (.int p0), .val (.int p1), .val (.int p2), .val (.int p3), .val (.int p4), .val (.int p5), .val (.int k1), .val (.int k2), .val (.int s1y), .val (.int s2y), .val (.ref b433), .val (.int md), .val (.ref b520), .val (.int (0 : Int32))] [(.ref b520), (.ref b433)])) rfl (by rw [hml]; rfl) (Steps.refl _) (argsL := [(.ref b520)]) (rest := []) (lenOf pd__28Ljava_2flang_2fObject_3b_29Z rfl) rfl (by show 2 * 0 + _ ≤ _; exact Nat.le_of_eq rfl) (hb hby at_213) (fun _ _ => ⟨rfl, e704, (by decide : 26 + 0 ≤ _), (by decide : 230 + 0 ≤ _)⟩)
  dsimp only [Pt.U, Pt.locs, Pt.cells, Pt.slots] at X705 l705 y705 z705 st705 hQ705
  rw [l705, y705, z705] at X705
  clear l705 y705 z705
  obtain ⟨hr705, N705q, eh705⟩ := hQ705
  rw [hr705] at st705
  clear hr705
  rw [N705q, List.append_nil] at X705
  refine Go.via (fun _ kQ => st705.trans kQ) ?_
  clear st705
  have e705 : T705.heap = h704 := eh705
  clear X704 e704
  show Go p e below (T705.setTop (mkF m 216 #[.val (.int p0), .val (.int p1), .val (.int p2), .val (.int p3), .val (.int p4), .val (.int p5), .val (.int k1), .val (.int k2), .val (.int s1y), .val (.int s2y), .val (.ref b433), .val (.int md), .val (.ref b520), .val (.int (0 : Int32))] [(.int (eqF ((3 : Int64) <<< (k1 &&& 0x3f).toInt64) ((3 : Int64) <<< (k2 &&& 0x3f).toInt64) (sgF p1) (sgF s1y) (sgF p3) (sgF s2y)))])) _
  refine Go.via (fun _ => XS.iload X705.here hx rfl (hb hby at_216) rfl) ?_
  refine Go.via (fun _ => XS.icmpNo X705.here hx rfl (hb hby at_218) rfl (teq (((own_eq (own_k31 hv_k1) (own_kif hv_k2 (own_k31 rfl) (own_k31 hv_k1))).trans ((if_neg hc623).trans rfl)) : (eqF ((3 : Int64) <<< (k1 &&& 0x3f).toInt64) ((3 : Int64) <<< (k2 &&& 0x3f).toInt64) (sgF p1) (sgF s1y) (sgF p3) (sgF s2y)) = (0 : Int32))).2) ?_
  show Go p e below (T705.setTop (mkF m 221 #[.val (.int p0), .val (.int p1), .val (.int p2), .val (.int p3), .val (.int p4), .val (.int p5), .val (.int k1), .val (.int k2), .val (.int s1y), .val (.int s2y), .val (.ref b433), .val (.int md), .val (.ref b520), .val (.int (0 : Int32))] [])) _
  refine Go.via (fun _ => XS.aload X705.here hx rfl (hb hby at_221) rfl rfl) ?_
  refine Go.via (fun _ => XS.aload X705.here hx rfl (hb hby at_223) rfl rfl) ?_
  obtain ⟨cq706, kq706, q706a, q706b, q706c⟩ := isOf hZ e705 lf13_704
  obtain ⟨r706, _, ⟨T706, L706, k706, n706⟩, -, X706, ⟨Lc706, hQ706, l706, y706, z706⟩, st706⟩ := X705.virtualBack hx (y := (⟨cCD, "equals", "(Ljava/lang/Object;)Z"⟩ : MethodName)) (z := (⟨cCD, "equals", "(Ljava/lang/Object;)Z"⟩ : MethodName)) hown (mvT hZ (tw hw 110 rfl)) (mvT hZ (tw hw 111 rfl)) (notFace_of_selects (args := #[]) (mvT hZ (tw hw 113 rfl))) (mvT hZ (tw hw 113 rfl)) (mvT hZ (tw hw 112 rfl)) (by decide) (backOf (W := 0) (rmEo l Z a0 hw [] b520 b433 ((3 : Int64) <<< (k2 &&& 0x3f).toInt64) ((3 : Int64) <<< (k1 &&& 0x3f).toInt64) b536 b572 b444 b464 v537 v573 v445 v465 (sgF s1y) (sgF s2y) (sgF p1) (sgF p3) cs h704 n0 z704 lf13_704 lf14_704 lf15_704 lf16_704 lf1_704 lf2_704 lf3_704 lf4_704 lf17_704 lf18_704 lf19_704 lf20_704 lf21_704 lf22_704 lf23_704 lf24_704 lf5_704 lf6_704 lf7_704 lf8_704 lf9_704 lf10_704 lf11_704 lf12_704 lf0_704 zCS (Ne.symm lf34_704) (Ne.symm lf40_704) (Ne.symm lf52_704) (own_Sh (own_Sg _)) (own_Sh (own_Sg _)) (own_Sh (own_Sg _)) (own_Sh (own_Sg _)) hcs) hZ (tw hw 114 rfl) (tw hw 3 rfl) (by decide) (by decide)) q706a q706c (g := (mkF m 225 #[.val (.int p0), .val (.int p1), .val (.int p2), .val (.int p3), .val (.int p4), .val (.int p5), .val (.int k1), .val (.int k2), .val (.int s1y), .val (.int s2y), .val (.ref b433), .val (.int md), .val (.ref b520), .val (.int (0 : Int32))] [(.ref b433), (.ref b520)])) rfl (by rw [hml]; rfl) (Steps.refl _) (argsL := [(.ref b433)]) (rest := []) (lenOf pd__28Ljava_2flang_2fObject_3b_29Z rfl) rfl (by show 2 * 0 + _ ≤ _; exact Nat.le_of_eq rfl) (hb hby at_225) (fun _ _ => ⟨rfl, e705, (by decide : 26 + 0 ≤ _), (by decide : 230 + 0 ≤ _)⟩)
  dsimp only [Pt.U, Pt.locs, Pt.cells, Pt.slots] at X706 l706 y706 z706 st706 hQ706
  rw [l706, y706, z706] at X706
  clear l706 y706 z706
  obtain ⟨hr706, N706q, eh706⟩ := hQ706
  rw [hr706] at st706
  clear hr706
  rw [N706q, List.append_nil] at X706
  refine Go.via (fun _ kQ => st706.trans kQ) ?_
  clear st706
  have e706 : T706.heap = h704 := eh706
  clear X705 e705
  show Go p e below (T706.setTop (mkF m 228 #[.val (.int p0), .val (.int p1), .val (.int p2), .val (.int p3), .val (.int p4), .val (.int p5), .val (.int k1), .val (.int k2), .val (.int s1y), .val (.int s2y), .val (.ref b433), .val (.int md), .val (.ref b520), .val (.int (0 : Int32))] [(.int (eqF ((3 : Int64) <<< (k2 &&& 0x3f).toInt64) ((3 : Int64) <<< (k1 &&& 0x3f).toInt64) (sgF s1y) (sgF p1) (sgF s2y) (sgF p3)))])) _
  refine Go.via (fun _ => XS.iload X706.here hx rfl (hb hby at_228) rfl) ?_
  refine Go.via (fun _ => XS.icmpNo X706.here hx rfl (hb hby at_230) rfl (teq (((own_eqs (own_k31 hv_k1) (own_kif hv_k2 (own_k31 rfl) (own_k31 hv_k1))).trans ((if_neg hc623).trans rfl)) : (eqF ((3 : Int64) <<< (k2 &&& 0x3f).toInt64) ((3 : Int64) <<< (k1 &&& 0x3f).toInt64) (sgF s1y) (sgF p1) (sgF s2y) (sgF p3)) = (0 : Int32))).2) ?_
  show Go p e below (T706.setTop (mkF m 233 #[.val (.int p0), .val (.int p1), .val (.int p2), .val (.int p3), .val (.int p4), .val (.int p5), .val (.int k1), .val (.int k2), .val (.int s1y), .val (.int s2y), .val (.ref b433), .val (.int md), .val (.ref b520), .val (.int (0 : Int32))] [])) _
  refine Go.via (fun _ => XS.iconst X706.here hx rfl (hb hby at_233)) ?_
  refine Go.via (fun _ => XS.goto X706.here hx rfl (pc0 := 234) (pc' := 238) rfl (hb hby at_234) (by decide) (by decide)) ?_
  exact Go.finW X706 hS704 (Nat.le_trans hk704 (Nat.le_of_eq (congrArg Array.size (Eq.symm e706)))) hlk (v := some (.int (1 : Int32))) (fun h => by rw [hret] at h; cases h) (fun fs hr => retN X706 hx (t := .boolean) hret (by simp) (hb hby at_238) hr) (by rw [e706]; exact ⟨rfl, N704, k704, Em.still I704 X706.warmed.interned_eq (w39 X706.warmed.wide)⟩) (by decide) (by decide)
set_option maxRecDepth 65536 in
set_option maxHeartbeats 40000000 in
theorem rm_rm0_l152_2 (l : Launch) (Z : State) (a0 : Array Value) (hw : ∀ d ∈ tables_1, d.before a0 Z = true) (p0 : Int32) (p1 : Int32) (p2 : Int32) (p3 : Int32) (p4 : Int32) (p5 : Int32) (cs : Int32) (fv : Value) (ic : Addr) (cl : Cell) (h0 : Heap) (n0 : Nat) (zCS : Sta Z Z.heap cST "COMPACT_STRINGS" "Z" (.int cs)) (zF : Sta Z Z.heap cPR "SIOOBE_FORMATTER" "Ljava/util/function/BiFunction;" fv) (zH : Sta Z Z.heap cIC "high" "I" (.int (127 : Int32))) (zC : Sta Z Z.heap cIC "cache" "[Ljava/lang/Integer;" (.ref ic)) (hcs : ¬ (cs = (0 : Int32))) (hfv : fv = .null ∨ ∃ fa : Addr, fv = .ref fa) (hh7 : Jvm.Lit.constHeld Z cST 7) (hcw : Jvm.Lit.compactW.before a0 Z = true) (hA : Arr Z Z.heap ic cl (.object cIN)) (hca : ∀ i : Int32, ¬ i < (-128 : Int32) → ¬ (127 : Int32) < i → ∃ bb : Addr, (¬ ((i + (128 : Int32)) < 0 ∨ cl.slots.size ≤ (i + (128 : Int32)).toNatClampNeg)) ∧ cl.slots[(i + (128 : Int32)).toNatClampNeg]? = some (.ref bb) ∧ Exa Z Z.heap bb cIN) {p : Program} {e : Env} {s : State} {m : MethodId} {below : List Frame} {meth : Method} {c : Code} (hx : p.tables.exec = Jvm.exec) (hby : c.code = code) (hlk : meth.locks = false) (hml : c.maxLocals = 14) (hret : meth.sig.returnType = ret) :
    ∀ (T519 : State) (L519 : List Loc) (h519 : Heap) (vm519 : Vm) (K519 : Nat) (k1 : Int32) (k2 : Int32) (s1y : Int32) (s2y : Int32) (md : Int32) (b433 : Addr) (b444 : Addr) (b464 : Addr) (v445 : Addr) (v465 : Addr), Stand p l e room_1 (s.setVm vm519) m #[(.int p0), (.int p1), (.int p2), (.int p3), (.int p4), (.int p5)] below meth c T519 L519 13 115 → T519.heap = h519 → Fr n0 L519 → n0 ≤ h519.size → Keep h0 h519 [] → Z.Warmed39 (s.setVm vm519).vm → (s.setVm vm519).vm.findClass cLAW = some m.cls → s.Since vm519 K519 → K519 ≤ h519.size → Em Z vm519 h519 ["signature 2", "signature 1"] → Old Z n0 h519 → Exa Z h519 b433 cCD → Fld Z h519 b433 cCD "blockSize" "J" (.long ((3 : Int64) <<< (k1 &&& 0x3f).toInt64)) → Fld Z h519 b433 cCD "signature1" "Ljava/lang/String;" (.ref b444) → Fld Z h519 b433 cCD "signature2" "Ljava/lang/String;" (.ref b464) → Exa Z h519 b444 cST → Fld Z h519 b444 cST "coder" "B" (.int (0 : Int32)) → Fld Z h519 b444 cST "value" "[B" (.ref v445) → Ia Z h519 v445 .byte (sgF p1) → Exa Z h519 b464 cST → Fld Z h519 b464 cST "coder" "B" (.int (0 : Int32)) → Fld Z h519 b464 cST "value" "[B" (.ref v465) → Ia Z h519 v465 .byte (sgF p3) → ((p0 &&& (2147483647 : Int32)) % (31 : Int32)) = k1 → (if (p5 &&& (1 : Int32)) = (0 : Int32) then ((((p0.toUInt32 >>> ((8 : Int32) &&& 31).toUInt32).toInt32) &&& (2147483647 : Int32)) % (31 : Int32)) else k1) = k2 → Go p e below (T519.setTop (mkF m 152 #[.val (.int p0), .val (.int p1), .val (.int p2), .val (.int p3), .val (.int p4), .val (.int p5), .val (.int k1), .val (.int k2), .val (.int s1y), .val (.int s2y), .val (.ref b433), .val (.int md), .unset, .unset] [])) (DoneW s (Q_rm0 Z p0 p1 p2 p3 p4 p5 cs fv ic cl h0 n0) room_1.cells room_1.slots) := by
  intro T519 L519 h519 vm519 K519 k1 k2 s1y s2y md b433 b444 b464 v445 v465 X519 e519 N519 z519 k519 hZ hown hS519 hk519 I519 lf0_519 lf1_519 lf2_519 lf3_519 lf4_519 lf5_519 lf6_519 lf7_519 lf8_519 lf9_519 lf10_519 lf11_519 lf12_519 hv_k1 hv_k2
  show Go p e below (T519.setTop (mkF m 152 #[.val (.int p0), .val (.int p1), .val (.int p2), .val (.int p3), .val (.int p4), .val (.int p5), .val (.int k1), .val (.int k2), .val (.int s1y), .val (.int s2y), .val (.ref b433), .val (.int md), .unset, .unset] [])) _
  obtain ⟨T520, h520, X520, e520, E520, A520, D520, -, st520⟩ := newO X519 hx hZ hown (tw hw 1 rfl) (tw hw 2 rfl) (tw hw 3 rfl) e519 (g := (mkF m 152 #[.val (.int p0), .val (.int p1), .val (.int p2), .val (.int p3), .val (.int p4), .val (.int p5), .val (.int k1), .val (.int k2), .val (.int s1y), .val (.int s2y), .val (.ref b433), .val (.int md), .unset, .unset] [])) rfl (hb hby at_152) (by decide) (by decide)
  obtain ⟨b520, g520⟩ : ∃ z, z = h519.size := ⟨_, rfl⟩
  rw [← g520] at A520 D520 st520
  have ne521 : b433 ≠ b520 := Nat.ne_of_lt (Nat.lt_of_lt_of_le lf1_519.lt (Nat.le_of_eq g520.symm))
  have ne522 : b444 ≠ b520 := Nat.ne_of_lt (Nat.lt_of_lt_of_le lf5_519.lt (Nat.le_of_eq g520.symm))
  have ne523 : b464 ≠ b520 := Nat.ne_of_lt (Nat.lt_of_lt_of_le lf9_519.lt (Nat.le_of_eq g520.symm))
  have ne524 : v445 ≠ b520 := Nat.ne_of_lt (Nat.lt_of_lt_of_le lf8_519.lt (Nat.le_of_eq g520.symm))
  have ne525 : v465 ≠ b520 := Nat.ne_of_lt (Nat.lt_of_lt_of_le lf12_519.lt (Nat.le_of_eq g520.symm))
  have ge526 : n0 ≤ b520 := Nat.le_trans z519 (Nat.le_of_eq g520.symm)
  have sz527 : h0.size ≤ b520 := Nat.le_trans k519.1 (Nat.le_of_eq g520.symm)
  refine Go.via (st520) ?_
  clear st520
  have f528 : Fld Z h520 b520 cCD "blockSize" "J" (.long (0 : Int64)) := D520 (Or.inr (tw hw 102 rfl)) (ty := .long) (by decide)
  have f529 : Fld Z h520 b520 cCD "signature1" "Ljava/lang/String;" .null := D520 (Or.inr (tw hw 104 rfl)) (ty := (.object cST)) (by decide)
  have f530 : Fld Z h520 b520 cCD "signature2" "Ljava/lang/String;" .null := D520 (Or.inr (tw hw 106 rfl)) (ty := (.object cST)) (by decide)
  clear X519 e519
  show Go p e below (T520.setTop (mkF m 155 #[.val (.int p0), .val (.int p1), .val (.int p2), .val (.int p3), .val (.int p4), .val (.int p5), .val (.int k1), .val (.int k2), .val (.int s1y), .val (.int s2y), .val (.ref b433), .val (.int md), .unset, .unset] [(.ref b520)])) _
  refine Go.via (fun _ => XS.dup X520.here hx rfl (hb hby at_155) rfl rfl) ?_
  refine Go.via (X520.ldc2Long hx hown (mvT hZ (tw hw 4 rfl)) (g := (mkF m 156 #[.val (.int p0), .val (.int p1), .val (.int p2), .val (.int p3), .val (.int p4), .val (.int p5), .val (.int k1), .val (.int k2), .val (.int s1y), .val (.int s2y), .val (.ref b433), .val (.int md), .unset, .unset] [(.ref b520), (.ref b520)])) rfl (hb hby at_156)) ?_
  show Go p e below (T520.setTop (mkF m 159 #[.val (.int p0), .val (.int p1), .val (.int p2), .val (.int p3), .val (.int p4), .val (.int p5), .val (.int k1), .val (.int k2), .val (.int s1y), .val (.int s2y), .val (.ref b433), .val (.int md), .unset, .unset] [(.long (3 : Int64)), (.ref b520), (.ref b520)])) _
  refine Go.via (fun _ => XS.iload X520.here hx rfl (hb hby at_159) rfl) ?_
  refine Go.via (fun _ => XS.lshl X520.here hx rfl (hb hby at_161) rfl) ?_
  show Go p e below (T520.setTop (mkF m 162 #[.val (.int p0), .val (.int p1), .val (.int p2), .val (.int p3), .val (.int p4), .val (.int p5), .val (.int k1), .val (.int k2), .val (.int s1y), .val (.int s2y), .val (.ref b433), .val (.int md), .unset, .unset] [(.long ((3 : Int64) <<< (k2 &&& 0x3f).toInt64)), (.ref b520), (.ref b520)])) _
  refine Go.via (fun _ => XS.iload X520.here hx rfl (hb hby at_162) rfl) ?_
  have o531 : Old Z n0 h520 := (lf0_519.ext E520)
  have z533 : n0 ≤ h520.size := (Nat.le_trans z519 E520.1)
  have em534 : Em Z vm519 h520 ["signature 2", "signature 1"] := (I519.ext E520)
  have hk535 : _ ≤ h520.size := (Nat.le_trans hk519 E520.1)
  obtain ⟨r532, _, ⟨T532, L532, k532, n532⟩, -, X532, h2532, gS532, ⟨Lc532, hQ532, l532, y532, z532⟩, st532⟩ := Jvm.RoadKit.callSS X520 hx (y := (⟨cLAW, "sig", "(I)Ljava/lang/String;"⟩ : MethodName)) hown (mvT hZ (tw hw 5 rfl)) (mvT hZ (tw hw 6 rfl)) (mvT hZ (tw hw 7 rfl)) (mvT hZ (tw hw 8 rfl)) (by decide) (backOfV (W := 4) (V := V_rmSg0 Z s1y cs h520) (rmSg0 l Z a0 hw [] s1y cs h520 n0 z533 o531 zCS hcs hh7 hcw) hZ (tw hw 8 rfl) (tw hw 7 rfl) (by decide) (by decide) (fun vm' hW => ⟨Em.still em534 hW.interned_eq (w39 hW.wide), trivial⟩)) (g := (mkF m 164 #[.val (.int p0), .val (.int p1), .val (.int p2), .val (.int p3), .val (.int p4), .val (.int p5), .val (.int k1), .val (.int k2), .val (.int s1y), .val (.int s2y), .val (.ref b433), .val (.int md), .unset, .unset] [(.int s1y), (.long ((3 : Int64) <<< (k2 &&& 0x3f).toInt64)), (.ref b520), (.ref b520)])) rfl (by rw [hml]; rfl) (argsL := [(.int s1y)]) (rest := [(.long ((3 : Int64) <<< (k2 &&& 0x3f).toInt64)), (.ref b520), (.ref b520)]) (lenOf pd__28I_29Ljava_2flang_2fString_3b rfl) rfl (by show 2 * 0 + _ ≤ _; exact Nat.le_of_eq rfl) (hb hby at_164) (fun _ _ => ⟨rfl, e520, (by decide : 14 + 4 ≤ _), (by decide : 118 + 8 ≤ _)⟩)
  dsimp only [Pt.U, Pt.locs, Pt.cells, Pt.slots] at X532 l532 y532 z532 st532 hQ532 h2532 gS532
  rw [l532, y532, z532] at X532
  clear l532 y532 z532
  obtain ⟨b536, v537, hr532, N532q, K532q, fz_b536, f538, f539, f540, f541, I532⟩ := hQ532
  rw [hr532] at st532
  clear hr532
  have N532 := Fr.app N519 N532q
  refine Go.via (fun _ kQ => st532.trans kQ) ?_
  clear st532
  have f542 : Exa Z h520 b433 cCD := (lf1_519.ext E520)
  have ne543 : b433 ≠ b536 := Nat.ne_of_lt (Nat.lt_of_lt_of_le f542.lt fz_b536)
  have f544 : Exa Z h520 b444 cST := (lf5_519.ext E520)
  have ne545 : b444 ≠ b536 := Nat.ne_of_lt (Nat.lt_of_lt_of_le f544.lt fz_b536)
  have f546 : Exa Z h520 b464 cST := (lf9_519.ext E520)
  have ne547 : b464 ≠ b536 := Nat.ne_of_lt (Nat.lt_of_lt_of_le f546.lt fz_b536)
  have ne548 : b520 ≠ b536 := Nat.ne_of_lt (Nat.lt_of_lt_of_le A520.lt fz_b536)
  have f549 : Ia Z h520 v445 .byte (sgF p1) := (lf8_519.ext E520)
  have ne550 : v445 ≠ b536 := Nat.ne_of_lt (Nat.lt_of_lt_of_le f549.lt fz_b536)
  have f551 : Ia Z h520 v465 .byte (sgF p3) := (lf12_519.ext E520)
  have ne552 : v465 ≠ b536 := Nat.ne_of_lt (Nat.lt_of_lt_of_le f551.lt fz_b536)
  have ge553 : n0 ≤ b536 := Nat.le_trans z533 fz_b536
  have k555 : Keep h0 h520 [] := (k519.ext E520)
  have sz554 : h0.size ≤ b536 := Nat.le_trans k555.1 fz_b536
  have e532 : T532.heap = T532.heap := rfl
  have f556 : Exa Z T532.heap b536 cST := f538
  have f557 : Fld Z T532.heap b536 cST "coder" "B" (.int (0 : Int32)) := f539
  have f558 : Fld Z T532.heap b536 cST "value" "[B" (.ref v537) := f540
  have f559 : Ia Z T532.heap v537 .byte (sgF s1y) := f541
  have f560 : Exa Z T532.heap b433 cCD := (f542.keep K532q)
  have ne561 : v537 ≠ b433 := Ia.neE (a0 := a0) f559 f560 (tw hw 2 rfl)
  have f562 : Exa Z T532.heap b444 cST := (f544.keep K532q)
  have ne563 : v537 ≠ b444 := Ia.neE (a0 := a0) f559 f562 (tw hw 13 rfl)
  have f564 : Exa Z T532.heap b464 cST := (f546.keep K532q)
  have ne565 : v537 ≠ b464 := Ia.neE (a0 := a0) f559 f564 (tw hw 13 rfl)
  have f566 : Exa Z T532.heap b520 cCD := (A520.keep K532q)
  have ne567 : v537 ≠ b520 := Ia.neE (a0 := a0) f559 f566 (tw hw 2 rfl)
  have ne568 : v537 ≠ b536 := Ia.neE (a0 := a0) f559 f556 (tw hw 13 rfl)
  obtain ⟨X532r, hS532, hZ, hown⟩ := rebS hS519 (Nat.le_trans hk535 (Nat.le_of_eq (congrArg Array.size (Eq.symm e520)))) X532 h2532 gS532 hZ hown
  clear X532 h2532 gS532
  clear X520 e520
  show Go p e below (T532.setTop (mkF m 167 #[.val (.int p0), .val (.int p1), .val (.int p2), .val (.int p3), .val (.int p4), .val (.int p5), .val (.int k1), .val (.int k2), .val (.int s1y), .val (.int s2y), .val (.ref b433), .val (.int md), .unset, .unset] [(.ref b536), (.long ((3 : Int64) <<< (k2 &&& 0x3f).toInt64)), (.ref b520), (.ref b520)])) _
  refine Go.via (fun _ => XS.iload X532r.here hx rfl (hb hby at_167) rfl) ?_
  have o569 : Old Z n0 T532.heap := (o531.keep K532q all0)
  have z571 : n0 ≤ T532.heap.size := (Nat.le_trans z533 K532q.1)
  obtain ⟨r570, _, ⟨T570, L570, k570, n570⟩, -, X570, h2570, gS570, ⟨Lc570, hQ570, l570, y570, z570⟩, st570⟩ := Jvm.RoadKit.callSS X532r hx (y := (⟨cLAW, "sig", "(I)Ljava/lang/String;"⟩ : MethodName)) hown (mvT hZ (tw hw 5 rfl)) (mvT hZ (tw hw 6 rfl)) (mvT hZ (tw hw 7 rfl)) (mvT hZ (tw hw 8 rfl)) (by decide) (backOfV (W := 5) (V := V_rmSg0 Z s2y cs T532.heap) (rmSg0 l Z a0 hw [] s2y cs T532.heap n0 z571 o569 zCS hcs hh7 hcw) hZ (tw hw 8 rfl) (tw hw 7 rfl) (by decide) (by decide) (fun vm' hW => ⟨Em.still I532 hW.interned_eq (w39 hW.wide), trivial⟩)) (g := (mkF m 169 #[.val (.int p0), .val (.int p1), .val (.int p2), .val (.int p3), .val (.int p4), .val (.int p5), .val (.int k1), .val (.int k2), .val (.int s1y), .val (.int s2y), .val (.ref b433), .val (.int md), .unset, .unset] [(.int s2y), (.ref b536), (.long ((3 : Int64) <<< (k2 &&& 0x3f).toInt64)), (.ref b520), (.ref b520)])) rfl (by rw [hml]; rfl) (argsL := [(.int s2y)]) (rest := [(.ref b536), (.long ((3 : Int64) <<< (k2 &&& 0x3f).toInt64)), (.ref b520), (.ref b520)]) (lenOf pd__28I_29Ljava_2flang_2fString_3b rfl) rfl (by show 2 * 0 + _ ≤ _; exact Nat.le_of_eq rfl) (hb hby at_169) (fun _ _ => ⟨rfl, e532, (by decide : 18 + 4 ≤ _), (by decide : 126 + 8 ≤ _)⟩)
  dsimp only [Pt.U, Pt.locs, Pt.cells, Pt.slots] at X570 l570 y570 z570 st570 hQ570 h2570 gS570
  rw [l570, y570, z570] at X570
  clear l570 y570 z570
  obtain ⟨b572, v573, hr570, N570q, K570q, fz_b572, f574, f575, f576, f577, I570⟩ := hQ570
  rw [hr570] at st570
  clear hr570
  have N570 := Fr.app N532 N570q
  refine Go.via (fun _ kQ => st570.trans kQ) ?_
  clear st570
  have ne578 : b433 ≠ b572 := Nat.ne_of_lt (Nat.lt_of_lt_of_le f560.lt fz_b572)
  have ne579 : b444 ≠ b572 := Nat.ne_of_lt (Nat.lt_of_lt_of_le f562.lt fz_b572)
  have ne580 : b464 ≠ b572 := Nat.ne_of_lt (Nat.lt_of_lt_of_le f564.lt fz_b572)
  have ne581 : b520 ≠ b572 := Nat.ne_of_lt (Nat.lt_of_lt_of_le f566.lt fz_b572)
  have ne582 : b536 ≠ b572 := Nat.ne_of_lt (Nat.lt_of_lt_of_le f556.lt fz_b572)
  have f583 : Ia Z T532.heap v445 .byte (sgF p1) := (f549.keep K532q nin0)
  have ne584 : v445 ≠ b572 := Nat.ne_of_lt (Nat.lt_of_lt_of_le f583.lt fz_b572)
  have f585 : Ia Z T532.heap v465 .byte (sgF p3) := (f551.keep K532q nin0)
  have ne586 : v465 ≠ b572 := Nat.ne_of_lt (Nat.lt_of_lt_of_le f585.lt fz_b572)
  have ne587 : v537 ≠ b572 := Nat.ne_of_lt (Nat.lt_of_lt_of_le f559.lt fz_b572)
  have ge588 : n0 ≤ b572 := Nat.le_trans z571 fz_b572
  have k590 : Keep h0 T532.heap [] := (k555.trans K532q all0)
  have sz589 : h0.size ≤ b572 := Nat.le_trans k590.1 fz_b572
  have e570 : T570.heap = T570.heap := rfl
  have f591 : Exa Z T570.heap b572 cST := f574
  have f592 : Fld Z T570.heap b572 cST "coder" "B" (.int (0 : Int32)) := f575
  have f593 : Fld Z T570.heap b572 cST "value" "[B" (.ref v573) := f576
  have f594 : Ia Z T570.heap v573 .byte (sgF s2y) := f577
  have f595 : Exa Z T570.heap b433 cCD := (f560.keep K570q)
  have ne596 : v573 ≠ b433 := Ia.neE (a0 := a0) f594 f595 (tw hw 2 rfl)
  have f597 : Exa Z T570.heap b444 cST := (f562.keep K570q)
  have ne598 : v573 ≠ b444 := Ia.neE (a0 := a0) f594 f597 (tw hw 13 rfl)
  have f599 : Exa Z T570.heap b464 cST := (f564.keep K570q)
  have ne600 : v573 ≠ b464 := Ia.neE (a0 := a0) f594 f599 (tw hw 13 rfl)
  have f601 : Exa Z T570.heap b520 cCD := (f566.keep K570q)
  have ne602 : v573 ≠ b520 := Ia.neE (a0 := a0) f594 f601 (tw hw 2 rfl)
  have f603 : Exa Z T570.heap b536 cST := (f556.keep K570q)
  have ne604 : v573 ≠ b536 := Ia.neE (a0 := a0) f594 f603 (tw hw 13 rfl)
  have ne605 : v573 ≠ b572 := Ia.neE (a0 := a0) f594 f591 (tw hw 13 rfl)
  obtain ⟨X570r, hS570, hZ, hown⟩ := rebS hS532 (Nat.le_trans (Nat.le_refl _) (Nat.le_of_eq (congrArg Array.size (Eq.symm e532)))) X570 h2570 gS570 hZ hown
  clear X570 h2570 gS570
  clear X532r e532
  show Go p e below (T570.setTop (mkF m 172 #[.val (.int p0), .val (.int p1), .val (.int p2), .val (.int p3), .val (.int p4), .val (.int p5), .val (.int k1), .val (.int k2), .val (.int s1y), .val (.int s2y), .val (.ref b433), .val (.int md), .unset, .unset] [(.ref b572), (.ref b536), (.long ((3 : Int64) <<< (k2 &&& 0x3f).toInt64)), (.ref b520), (.ref b520)])) _
  have f606 : Fld Z T570.heap b520 cCD "blockSize" "J" (.long (0 : Int64)) := ((f528.keep K532q nin0).keep K570q nin0)
  have f607 : Fld Z T570.heap b520 cCD "signature1" "Ljava/lang/String;" .null := ((f529.keep K532q nin0).keep K570q nin0)
  have f608 : Fld Z T570.heap b520 cCD "signature2" "Ljava/lang/String;" .null := ((f530.keep K532q nin0).keep K570q nin0)
  have f609 : Fld Z T570.heap b536 cST "coder" "B" (.int (0 : Int32)) := (f557.keep K570q nin0)
  have f610 : Fld Z T570.heap b536 cST "value" "[B" (.ref v537) := (f558.keep K570q nin0)
  have f611 : Ia Z T570.heap v537 .byte (sgF s1y) := (f559.keep K570q nin0)
  have o612 : Old Z n0 T570.heap := (o569.keep K570q all0)
  have z614 : n0 ≤ T570.heap.size := (Nat.le_trans z571 K570q.1)
  obtain ⟨r613, _, ⟨T613, L613, k613, n613⟩, -, X613, h2613, gS613, ⟨Lc613, hQ613, l613, y613, z613⟩, st613⟩ := X570r.specialBackS hx (y := (⟨cCD, "<init>", "(JLjava/lang/String;Ljava/lang/String;)V"⟩ : MethodName)) rfl hown (mvT hZ (tw hw 45 rfl)) (mvT hZ (tw hw 46 rfl)) (mvT hZ (tw hw 47 rfl)) (by decide) (backOfV (W := 1) (V := V_rmDc Z b520 ((3 : Int64) <<< (k2 &&& 0x3f).toInt64) b536 b572 v537 v573 (sgF s1y) (sgF s2y) cs fv T570.heap) (rmDc l Z a0 hw [] b520 ((3 : Int64) <<< (k2 &&& 0x3f).toInt64) b536 b572 v537 v573 (sgF s1y) (sgF s2y) cs fv T570.heap n0 z614 f601 f606 f607 f608 f603 f609 f610 f611 f591 f592 f593 f594 o612 zCS zF ge526 (own_Sg _) (own_Sg _) (own_Bv (own_kif hv_k2 (own_k31 rfl) (own_k31 hv_k1))) hcs hfv) hZ (tw hw 47 rfl) (tw hw 3 rfl) (by decide) (by decide) (fun vm' hW => ⟨Em.still I570 hW.interned_eq (w39 hW.wide), trivial⟩)) (g := (mkF m 172 #[.val (.int p0), .val (.int p1), .val (.int p2), .val (.int p3), .val (.int p4), .val (.int p5), .val (.int k1), .val (.int k2), .val (.int s1y), .val (.int s2y), .val (.ref b433), .val (.int md), .unset, .unset] [(.ref b572), (.ref b536), (.long ((3 : Int64) <<< (k2 &&& 0x3f).toInt64)), (.ref b520), (.ref b520)])) rfl (by rw [hml]; rfl) (Steps.refl _) (a := b520) (argsL := [(.long ((3 : Int64) <<< (k2 &&& 0x3f).toInt64)), (.ref b536), (.ref b572)]) (rest := [(.ref b520)]) (lenOf pd__28JLjava_2flang_2fString_3bLjava_2flang_2fString_3b_29V rfl) rfl (by show 2 * 0 + _ ≤ _; exact Nat.le_of_eq rfl) (hb hby at_172) (fun _ _ => ⟨rfl, e570, (by decide : 22 + 4 ≤ _), (by decide : 134 + 96 ≤ _)⟩)
  dsimp only [Pt.U, Pt.locs, Pt.cells, Pt.slots] at X613 l613 y613 z613 st613 hQ613 h2613 gS613
  rw [l613, y613, z613] at X613
  clear l613 y613 z613
  obtain ⟨hr613, N613q, K613q, f615, f616, f617, f618, I613⟩ := hQ613
  rw [hr613] at st613
  clear hr613
  have N613 := Fr.app N570 N613q
  refine Go.via (fun _ kQ => st613.trans kQ) ?_
  clear st613
  have e613 : T613.heap = T613.heap := rfl
  have f619 : Exa Z T613.heap b520 cCD := f615
  have f620 : Fld Z T613.heap b520 cCD "blockSize" "J" (.long ((3 : Int64) <<< (k2 &&& 0x3f).toInt64)) := f616
  have f621 : Fld Z T613.heap b520 cCD "signature1" "Ljava/lang/String;" (.ref b536) := f617
  have f622 : Fld Z T613.heap b520 cCD "signature2" "Ljava/lang/String;" (.ref b572) := f618
  obtain ⟨X613r, hS613, hZ, hown⟩ := rebS hS570 (Nat.le_trans (Nat.le_refl _) (Nat.le_of_eq (congrArg Array.size (Eq.symm e570)))) X613 h2613 gS613 hZ hown
  clear X613 h2613 gS613
  clear X570r e570
  show Go p e below (T613.setTop (mkF m 175 #[.val (.int p0), .val (.int p1), .val (.int p2), .val (.int p3), .val (.int p4), .val (.int p5), .val (.int k1), .val (.int k2), .val (.int s1y), .val (.int s2y), .val (.ref b433), .val (.int md), .unset, .unset] [(.ref b520)])) _
  refine Go.via (fun _ => XS.astore X613r.here hx rfl (hb hby at_175) rfl rfl (l' := #[.val (.int p0), .val (.int p1), .val (.int p2), .val (.int p3), .val (.int p4), .val (.int p5), .val (.int k1), .val (.int k2), .val (.int s1y), .val (.int s2y), .val (.ref b433), .val (.int md), .val (.ref b520), .unset]) rfl) ?_
  show Go p e below (T613.setTop (mkF m 177 #[.val (.int p0), .val (.int p1), .val (.int p2), .val (.int p3), .val (.int p4), .val (.int p5), .val (.int k1), .val (.int k2), .val (.int s1y), .val (.int s2y), .val (.ref b433), .val (.int md), .val (.ref b520), .unset] [])) _
  refine Go.via (fun _ => XS.iload X613r.here hx rfl (hb hby at_177) rfl) ?_
  refine Go.via (fun _ => XS.iload X613r.here hx rfl (hb hby at_179) rfl) ?_
  by_cases hc623 : k1 = k2
  · refine Go.via (fun _ => XS.icmpNo X613r.here hx rfl (hb hby at_181) rfl (teq (hc623 : k1 = k2)).2) ?_
    refine Go.via (fun _ => XS.iloadN X613r.here hx rfl (hb hby at_184) rfl) ?_
    refine Go.via (fun _ => XS.iload X613r.here hx rfl (hb hby at_185) rfl) ?_
    show Go p e below (T613.setTop (mkF m 187 #[.val (.int p0), .val (.int p1), .val (.int p2), .val (.int p3), .val (.int p4), .val (.int p5), .val (.int k1), .val (.int k2), .val (.int s1y), .val (.int s2y), .val (.ref b433), .val (.int md), .val (.ref b520), .unset] [(.int s1y), (.int p1)])) _
    have z625 : n0 ≤ T613.heap.size := (Nat.le_trans z614 K613q.1)
    obtain ⟨r624, _, ⟨T624, L624, k624, n624⟩, -, X624, ⟨Lc624, hQ624, l624, y624, z624⟩, st624⟩ := Jvm.LawKit.callS X613r hx (y := (⟨cLAW, "sameSig", "(II)Z"⟩ : MethodName)) hown (mvT hZ (tw hw 107 rfl)) (mvT hZ (tw hw 108 rfl)) (mvT hZ (tw hw 7 rfl)) (mvT hZ (tw hw 109 rfl)) (by decide) (backOf (W := 0) (rmSs l Z a0 hw [] p1 s1y  T613.heap n0 z625) hZ (tw hw 109 rfl) (tw hw 7 rfl) (by decide) (by decide)) (g := (mkF m 187 #[.val (.int p0), .val (.int p1), .val (.int p2), .val (.int p3), .val (.int p4), .val (.int p5), .val (.int k1), .val (.int k2), .val (.int s1y), .val (.int s2y), .val (.ref b433), .val (.int md), .val (.ref b520), .unset] [(.int s1y), (.int p1)])) rfl (by rw [hml]; rfl) (argsL := [(.int p1), (.int s1y)]) (rest := []) (lenOf pd__28II_29Z rfl) rfl (by show 2 * 0 + _ ≤ _; exact Nat.le_of_eq rfl) (hb hby at_187) (fun _ _ => ⟨rfl, e613, (by decide : 26 + 0 ≤ _), (by decide : 230 + 0 ≤ _)⟩)
    dsimp only [Pt.U, Pt.locs, Pt.cells, Pt.slots] at X624 l624 y624 z624 st624 hQ624
    rw [l624, y624, z624] at X624
    clear l624 y624 z624
    obtain ⟨hr624, N624q, eh624⟩ := hQ624
    rw [hr624] at st624
    clear hr624
    rw [N624q, List.append_nil] at X624
    refine Go.via (st624) ?_
    clear st624
    have e624 : T624.heap = T613.heap := eh624
    clear X613r e613
    show Go p e below (T624.setTop (mkF m 190 #[.val (.int p0), .val (.int p1), .val (.int p2), .val (.int p3), .val (.int p4), .val (.int p5), .val (.int k1), .val (.int k2), .val (.int s1y), .val (.int s2y), .val (.ref b433), .val (.int md), .val (.ref b520), .unset] [(.int (ssF p1 s1y))])) _
    by_cases hc626 : (ssF p1 s1y) = (0 : Int32)
    · refine Go.via (fun _ => XS.ifYes X624.here hx rfl (pc0 := 190) (pc' := 206) rfl (hb hby at_190) rfl ((if0 _ _).trans (teq (hc626 : (ssF p1 s1y) = (0 : Int32))).1) (by decide) (by decide)) ?_
      show Go p e below (T624.setTop (mkF m 206 #[.val (.int p0), .val (.int p1), .val (.int p2), .val (.int p3), .val (.int p4), .val (.int p5), .val (.int k1), .val (.int k2), .val (.int s1y), .val (.int s2y), .val (.ref b433), .val (.int md), .val (.ref b520), .unset] [])) _
      refine Go.via (fun _ => XS.iconst X624.here hx rfl (hb hby at_206)) ?_
      refine Go.via (fun _ => XS.istore X624.here hx rfl (hb hby at_207) rfl (l' := #[.val (.int p0), .val (.int p1), .val (.int p2), .val (.int p3), .val (.int p4), .val (.int p5), .val (.int k1), .val (.int k2), .val (.int s1y), .val (.int s2y), .val (.ref b433), .val (.int md), .val (.ref b520), .val (.int (0 : Int32))]) rfl) ?_
      have k630 : Keep h0 T613.heap [] := ((k590.trans K570q all0).trans K613q (allS (Or.inr sz527) all0))
      have o631 : Old Z n0 T613.heap := (o612.keep K613q (allS ge526 all0))
      have f632 : Exa Z T613.heap b433 cCD := (f595.keep K613q)
      have f633 : Fld Z T613.heap b433 cCD "blockSize" "J" (.long ((3 : Int64) <<< (k1 &&& 0x3f).toInt64)) := ((((lf2_519.ext E520).keep K532q nin0).keep K570q nin0).keep K613q (ninS ne521 nin0))
      have f634 : Fld Z T613.heap b433 cCD "signature1" "Ljava/lang/String;" (.ref b444) := ((((lf3_519.ext E520).keep K532q nin0).keep K570q nin0).keep K613q (ninS ne521 nin0))
      have f635 : Fld Z T613.heap b433 cCD "signature2" "Ljava/lang/String;" (.ref b464) := ((((lf4_519.ext E520).keep K532q nin0).keep K570q nin0).keep K613q (ninS ne521 nin0))
      have f636 : Exa Z T613.heap b444 cST := (f597.keep K613q)
      have f637 : Fld Z T613.heap b444 cST "coder" "B" (.int (0 : Int32)) := ((((lf6_519.ext E520).keep K532q nin0).keep K570q nin0).keep K613q (ninS ne522 nin0))
      have f638 : Fld Z T613.heap b444 cST "value" "[B" (.ref v445) := ((((lf7_519.ext E520).keep K532q nin0).keep K570q nin0).keep K613q (ninS ne522 nin0))
      have f639 : Ia Z T613.heap v445 .byte (sgF p1) := ((f583.keep K570q nin0).keep K613q (ninS ne524 nin0))
      have f640 : Exa Z T613.heap b464 cST := (f599.keep K613q)
      have f641 : Fld Z T613.heap b464 cST "coder" "B" (.int (0 : Int32)) := ((((lf10_519.ext E520).keep K532q nin0).keep K570q nin0).keep K613q (ninS ne523 nin0))
      have f642 : Fld Z T613.heap b464 cST "value" "[B" (.ref v465) := ((((lf11_519.ext E520).keep K532q nin0).keep K570q nin0).keep K613q (ninS ne523 nin0))
      have f643 : Ia Z T613.heap v465 .byte (sgF p3) := ((f585.keep K570q nin0).keep K613q (ninS ne525 nin0))
      have f644 : Exa Z T613.heap b536 cST := (f603.keep K613q)
      have f645 : Fld Z T613.heap b536 cST "coder" "B" (.int (0 : Int32)) := (f609.keep K613q (ninS (Ne.symm ne548) nin0))
      have f646 : Fld Z T613.heap b536 cST "value" "[B" (.ref v537) := (f610.keep K613q (ninS (Ne.symm ne548) nin0))
      have f647 : Ia Z T613.heap v537 .byte (sgF s1y) := (f611.keep K613q (ninS ne567 nin0))
      have f648 : Exa Z T613.heap b572 cST := (f591.keep K613q)
      have f649 : Fld Z T613.heap b572 cST "coder" "B" (.int (0 : Int32)) := (f592.keep K613q (ninS (Ne.symm ne581) nin0))
      have f650 : Fld Z T613.heap b572 cST "value" "[B" (.ref v573) := (f593.keep K613q (ninS (Ne.symm ne581) nin0))
      have f651 : Ia Z T613.heap v573 .byte (sgF s2y) := (f594.keep K613q (ninS ne602 nin0))
      exact rm_rm0_l209_3 l Z a0 hw p0 p1 p2 p3 p4 p5 cs fv ic cl h0 n0 zCS zF zH zC hcs hfv hh7 hcw hA hca hx hby hlk hml hret T624 _ T613.heap T613.vm _ k1 k2 s1y s2y md b433 b444 b464 b520 b536 b572 v445 v465 v537 v573 X624 e624 N613 z625 k630 hZ hown hS613 (Nat.le_refl _) I613 o631 f632 f633 f634 f635 f636 f637 f638 f639 f640 f641 f642 f643 f619 f620 f621 f622 f644 f645 f646 f647 f648 f649 f650 f651 ne521 ne545 ne580 hv_k1 hv_k2 hc623 hc626
    · refine Go.via (fun _ => XS.ifNo X624.here hx rfl (hb hby at_190) rfl ((if0 _ _).trans (feq (hc626 : ¬ ((ssF p1 s1y) = (0 : Int32)))).1)) ?_
      show Go p e below (T624.setTop (mkF m 193 #[.val (.int p0), .val (.int p1), .val (.int p2), .val (.int p3), .val (.int p4), .val (.int p5), .val (.int k1), .val (.int k2), .val (.int s1y), .val (.int s2y), .val (.ref b433), .val (.int md), .val (.ref b520), .unset] [])) _
      refine Go.via (fun _ => XS.iloadN X624.here hx rfl (hb hby at_193) rfl) ?_
      refine Go.via (fun _ => XS.iload X624.here hx rfl (hb hby at_194) rfl) ?_
      obtain ⟨r652, _, ⟨T652, L652, k652, n652⟩, -, X652, ⟨Lc652, hQ652, l652, y652, z652⟩, st652⟩ := Jvm.LawKit.callS X624 hx (y := (⟨cLAW, "sameSig", "(II)Z"⟩ : MethodName)) hown (mvT hZ (tw hw 107 rfl)) (mvT hZ (tw hw 108 rfl)) (mvT hZ (tw hw 7 rfl)) (mvT hZ (tw hw 109 rfl)) (by decide) (backOf (W := 0) (rmSs l Z a0 hw [] p3 s2y  T613.heap n0 z625) hZ (tw hw 109 rfl) (tw hw 7 rfl) (by decide) (by decide)) (g := (mkF m 196 #[.val (.int p0), .val (.int p1), .val (.int p2), .val (.int p3), .val (.int p4), .val (.int p5), .val (.int k1), .val (.int k2), .val (.int s1y), .val (.int s2y), .val (.ref b433), .val (.int md), .val (.ref b520), .unset] [(.int s2y), (.int p3)])) rfl (by rw [hml]; rfl) (argsL := [(.int p3), (.int s2y)]) (rest := []) (lenOf pd__28II_29Z rfl) rfl (by show 2 * 0 + _ ≤ _; exact Nat.le_of_eq rfl) (hb hby at_196) (fun _ _ => ⟨rfl, e624, (by decide : 26 + 0 ≤ _), (by decide : 230 + 0 ≤ _)⟩)
      dsimp only [Pt.U, Pt.locs, Pt.cells, Pt.slots] at X652 l652 y652 z652 st652 hQ652
      rw [l652, y652, z652] at X652
      clear l652 y652 z652
      obtain ⟨hr652, N652q, eh652⟩ := hQ652
      rw [hr652] at st652
      clear hr652
      rw [N652q, List.append_nil] at X652
      refine Go.via (st652) ?_
      clear st652
      have e652 : T652.heap = T613.heap := eh652
      clear X624 e624
      show Go p e below (T652.setTop (mkF m 199 #[.val (.int p0), .val (.int p1), .val (.int p2), .val (.int p3), .val (.int p4), .val (.int p5), .val (.int k1), .val (.int k2), .val (.int s1y), .val (.int s2y), .val (.ref b433), .val (.int md), .val (.ref b520), .unset] [(.int (ssF p3 s2y))])) _
      by_cases hc653 : (ssF p3 s2y) = (0 : Int32)
      · refine Go.via (fun _ => XS.ifYes X652.here hx rfl (pc0 := 199) (pc' := 206) rfl (hb hby at_199) rfl ((if0 _ _).trans (teq (hc653 : (ssF p3 s2y) = (0 : Int32))).1) (by decide) (by decide)) ?_
        show Go p e below (T652.setTop (mkF m 206 #[.val (.int p0), .val (.int p1), .val (.int p2), .val (.int p3), .val (.int p4), .val (.int p5), .val (.int k1), .val (.int k2), .val (.int s1y), .val (.int s2y), .val (.ref b433), .val (.int md), .val (.ref b520), .unset] [])) _
        refine Go.via (fun _ => XS.iconst X652.here hx rfl (hb hby at_206)) ?_
        refine Go.via (fun _ => XS.istore X652.here hx rfl (hb hby at_207) rfl (l' := #[.val (.int p0), .val (.int p1), .val (.int p2), .val (.int p3), .val (.int p4), .val (.int p5), .val (.int k1), .val (.int k2), .val (.int s1y), .val (.int s2y), .val (.ref b433), .val (.int md), .val (.ref b520), .val (.int (0 : Int32))]) rfl) ?_
        have k657 : Keep h0 T613.heap [] := ((k590.trans K570q all0).trans K613q (allS (Or.inr sz527) all0))
        have o658 : Old Z n0 T613.heap := (o612.keep K613q (allS ge526 all0))
        have f659 : Exa Z T613.heap b433 cCD := (f595.keep K613q)
        have f660 : Fld Z T613.heap b433 cCD "blockSize" "J" (.long ((3 : Int64) <<< (k1 &&& 0x3f).toInt64)) := ((((lf2_519.ext E520).keep K532q nin0).keep K570q nin0).keep K613q (ninS ne521 nin0))
        have f661 : Fld Z T613.heap b433 cCD "signature1" "Ljava/lang/String;" (.ref b444) := ((((lf3_519.ext E520).keep K532q nin0).keep K570q nin0).keep K613q (ninS ne521 nin0))
        have f662 : Fld Z T613.heap b433 cCD "signature2" "Ljava/lang/String;" (.ref b464) := ((((lf4_519.ext E520).keep K532q nin0).keep K570q nin0).keep K613q (ninS ne521 nin0))
        have f663 : Exa Z T613.heap b444 cST := (f597.keep K613q)
        have f664 : Fld Z T613.heap b444 cST "coder" "B" (.int (0 : Int32)) := ((((lf6_519.ext E520).keep K532q nin0).keep K570q nin0).keep K613q (ninS ne522 nin0))
        have f665 : Fld Z T613.heap b444 cST "value" "[B" (.ref v445) := ((((lf7_519.ext E520).keep K532q nin0).keep K570q nin0).keep K613q (ninS ne522 nin0))
        have f666 : Ia Z T613.heap v445 .byte (sgF p1) := ((f583.keep K570q nin0).keep K613q (ninS ne524 nin0))
        have f667 : Exa Z T613.heap b464 cST := (f599.keep K613q)
        have f668 : Fld Z T613.heap b464 cST "coder" "B" (.int (0 : Int32)) := ((((lf10_519.ext E520).keep K532q nin0).keep K570q nin0).keep K613q (ninS ne523 nin0))
        have f669 : Fld Z T613.heap b464 cST "value" "[B" (.ref v465) := ((((lf11_519.ext E520).keep K532q nin0).keep K570q nin0).keep K613q (ninS ne523 nin0))
        have f670 : Ia Z T613.heap v465 .byte (sgF p3) := ((f585.keep K570q nin0).keep K613q (ninS ne525 nin0))
        have f671 : Exa Z T613.heap b536 cST := (f603.keep K613q)
        have f672 : Fld Z T613.heap b536 cST "coder" "B" (.int (0 : Int32)) := (f609.keep K613q (ninS (Ne.symm ne548) nin0))
        have f673 : Fld Z T613.heap b536 cST "value" "[B" (.ref v537) := (f610.keep K613q (ninS (Ne.symm ne548) nin0))
        have f674 : Ia Z T613.heap v537 .byte (sgF s1y) := (f611.keep K613q (ninS ne567 nin0))
        have f675 : Exa Z T613.heap b572 cST := (f591.keep K613q)
        have f676 : Fld Z T613.heap b572 cST "coder" "B" (.int (0 : Int32)) := (f592.keep K613q (ninS (Ne.symm ne581) nin0))
        have f677 : Fld Z T613.heap b572 cST "value" "[B" (.ref v573) := (f593.keep K613q (ninS (Ne.symm ne581) nin0))
        have f678 : Ia Z T613.heap v573 .byte (sgF s2y) := (f594.keep K613q (ninS ne602 nin0))
        exact rm_rm0_l209_4 l Z a0 hw p0 p1 p2 p3 p4 p5 cs fv ic cl h0 n0 zCS zF zH zC hcs hfv hh7 hcw hA hca hx hby hlk hml hret T652 _ T613.heap T613.vm _ k1 k2 s1y s2y md b433 b444 b464 b520 b536 b572 v445 v465 v537 v573 X652 e652 N613 z625 k657 hZ hown hS613 (Nat.le_refl _) I613 o658 f659 f660 f661 f662 f663 f664 f665 f666 f667 f668 f669 f670 f619 f620 f621 f622 f671 f672 f673 f674 f675 f676 f677 f678 ne521 ne545 ne580 hv_k1 hv_k2 hc623 hc626 hc653
      · refine Go.via (fun _ => XS.ifNo X652.here hx rfl (hb hby at_199) rfl ((if0 _ _).trans (feq (hc653 : ¬ ((ssF p3 s2y) = (0 : Int32)))).1)) ?_
        show Go p e below (T652.setTop (mkF m 202 #[.val (.int p0), .val (.int p1), .val (.int p2), .val (.int p3), .val (.int p4), .val (.int p5), .val (.int k1), .val (.int k2), .val (.int s1y), .val (.int s2y), .val (.ref b433), .val (.int md), .val (.ref b520), .unset] [])) _
        refine Go.via (fun _ => XS.iconst X652.here hx rfl (hb hby at_202)) ?_
        refine Go.via (fun _ => XS.goto X652.here hx rfl (pc0 := 203) (pc' := 207) rfl (hb hby at_203) (by decide) (by decide)) ?_
        refine Go.via (fun _ => XS.istore X652.here hx rfl (hb hby at_207) rfl (l' := #[.val (.int p0), .val (.int p1), .val (.int p2), .val (.int p3), .val (.int p4), .val (.int p5), .val (.int k1), .val (.int k2), .val (.int s1y), .val (.int s2y), .val (.ref b433), .val (.int md), .val (.ref b520), .val (.int (1 : Int32))]) rfl) ?_
        have k682 : Keep h0 T613.heap [] := ((k590.trans K570q all0).trans K613q (allS (Or.inr sz527) all0))
        have o683 : Old Z n0 T613.heap := (o612.keep K613q (allS ge526 all0))
        have f684 : Exa Z T613.heap b433 cCD := (f595.keep K613q)
        have f685 : Fld Z T613.heap b433 cCD "blockSize" "J" (.long ((3 : Int64) <<< (k1 &&& 0x3f).toInt64)) := ((((lf2_519.ext E520).keep K532q nin0).keep K570q nin0).keep K613q (ninS ne521 nin0))
        have f686 : Fld Z T613.heap b433 cCD "signature1" "Ljava/lang/String;" (.ref b444) := ((((lf3_519.ext E520).keep K532q nin0).keep K570q nin0).keep K613q (ninS ne521 nin0))
        have f687 : Fld Z T613.heap b433 cCD "signature2" "Ljava/lang/String;" (.ref b464) := ((((lf4_519.ext E520).keep K532q nin0).keep K570q nin0).keep K613q (ninS ne521 nin0))
        have f688 : Exa Z T613.heap b444 cST := (f597.keep K613q)
        have f689 : Fld Z T613.heap b444 cST "coder" "B" (.int (0 : Int32)) := ((((lf6_519.ext E520).keep K532q nin0).keep K570q nin0).keep K613q (ninS ne522 nin0))
        have f690 : Fld Z T613.heap b444 cST "value" "[B" (.ref v445) := ((((lf7_519.ext E520).keep K532q nin0).keep K570q nin0).keep K613q (ninS ne522 nin0))
        have f691 : Ia Z T613.heap v445 .byte (sgF p1) := ((f583.keep K570q nin0).keep K613q (ninS ne524 nin0))
        have f692 : Exa Z T613.heap b464 cST := (f599.keep K613q)
        have f693 : Fld Z T613.heap b464 cST "coder" "B" (.int (0 : Int32)) := ((((lf10_519.ext E520).keep K532q nin0).keep K570q nin0).keep K613q (ninS ne523 nin0))
        have f694 : Fld Z T613.heap b464 cST "value" "[B" (.ref v465) := ((((lf11_519.ext E520).keep K532q nin0).keep K570q nin0).keep K613q (ninS ne523 nin0))
        have f695 : Ia Z T613.heap v465 .byte (sgF p3) := ((f585.keep K570q nin0).keep K613q (ninS ne525 nin0))
        have f696 : Exa Z T613.heap b536 cST := (f603.keep K613q)
        have f697 : Fld Z T613.heap b536 cST "coder" "B" (.int (0 : Int32)) := (f609.keep K613q (ninS (Ne.symm ne548) nin0))
        have f698 : Fld Z T613.heap b536 cST "value" "[B" (.ref v537) := (f610.keep K613q (ninS (Ne.symm ne548) nin0))
        have f699 : Ia Z T613.heap v537 .byte (sgF s1y) := (f611.keep K613q (ninS ne567 nin0))
        have f700 : Exa Z T613.heap b572 cST := (f591.keep K613q)
        have f701 : Fld Z T613.heap b572 cST "coder" "B" (.int (0 : Int32)) := (f592.keep K613q (ninS (Ne.symm ne581) nin0))
        have f702 : Fld Z T613.heap b572 cST "value" "[B" (.ref v573) := (f593.keep K613q (ninS (Ne.symm ne581) nin0))
        have f703 : Ia Z T613.heap v573 .byte (sgF s2y) := (f594.keep K613q (ninS ne602 nin0))
        exact rm_rm0_l209_5 l Z a0 hw p0 p1 p2 p3 p4 p5 cs fv ic cl h0 n0 zCS zF zH zC hcs hfv hh7 hcw hA hca hx hby hlk hml hret T652 _ T613.heap T613.vm _ k1 k2 s1y s2y md b433 b444 b464 b520 b536 b572 v445 v465 v537 v573 X652 e652 N613 z625 k682 hZ hown hS613 (Nat.le_refl _) I613 o683 f684 f685 f686 f687 f688 f689 f690 f691 f692 f693 f694 f695 f619 f620 f621 f622 f696 f697 f698 f699 f700 f701 f702 f703 ne521 ne545 ne580 hv_k1 hv_k2 hc623 hc626 hc653
  · refine Go.via (fun _ => XS.icmpYes X613r.here hx rfl (pc0 := 181) (pc' := 206) rfl (hb hby at_181) rfl (feq (hc623 : ¬ (k1 = k2))).2 (by decide) (by decide)) ?_
    refine Go.via (fun _ => XS.iconst X613r.here hx rfl (hb hby at_206)) ?_
    refine Go.via (fun _ => XS.istore X613r.here hx rfl (hb hby at_207) rfl (l' := #[.val (.int p0), .val (.int p1), .val (.int p2), .val (.int p3), .val (.int p4), .val (.int p5), .val (.int k1), .val (.int k2), .val (.int s1y), .val (.int s2y), .val (.ref b433), .val (.int md), .val (.ref b520), .val (.int (0 : Int32))]) rfl) ?_
    have z707 : n0 ≤ T613.heap.size := (Nat.le_trans z614 K613q.1)
    have k708 : Keep h0 T613.heap [] := ((k590.trans K570q all0).trans K613q (allS (Or.inr sz527) all0))
    have o709 : Old Z n0 T613.heap := (o612.keep K613q (allS ge526 all0))
    have f710 : Exa Z T613.heap b433 cCD := (f595.keep K613q)
    have f711 : Fld Z T613.heap b433 cCD "blockSize" "J" (.long ((3 : Int64) <<< (k1 &&& 0x3f).toInt64)) := ((((lf2_519.ext E520).keep K532q nin0).keep K570q nin0).keep K613q (ninS ne521 nin0))
    have f712 : Fld Z T613.heap b433 cCD "signature1" "Ljava/lang/String;" (.ref b444) := ((((lf3_519.ext E520).keep K532q nin0).keep K570q nin0).keep K613q (ninS ne521 nin0))
    have f713 : Fld Z T613.heap b433 cCD "signature2" "Ljava/lang/String;" (.ref b464) := ((((lf4_519.ext E520).keep K532q nin0).keep K570q nin0).keep K613q (ninS ne521 nin0))
    have f714 : Exa Z T613.heap b444 cST := (f597.keep K613q)
    have f715 : Fld Z T613.heap b444 cST "coder" "B" (.int (0 : Int32)) := ((((lf6_519.ext E520).keep K532q nin0).keep K570q nin0).keep K613q (ninS ne522 nin0))
    have f716 : Fld Z T613.heap b444 cST "value" "[B" (.ref v445) := ((((lf7_519.ext E520).keep K532q nin0).keep K570q nin0).keep K613q (ninS ne522 nin0))
    have f717 : Ia Z T613.heap v445 .byte (sgF p1) := ((f583.keep K570q nin0).keep K613q (ninS ne524 nin0))
    have f718 : Exa Z T613.heap b464 cST := (f599.keep K613q)
    have f719 : Fld Z T613.heap b464 cST "coder" "B" (.int (0 : Int32)) := ((((lf10_519.ext E520).keep K532q nin0).keep K570q nin0).keep K613q (ninS ne523 nin0))
    have f720 : Fld Z T613.heap b464 cST "value" "[B" (.ref v465) := ((((lf11_519.ext E520).keep K532q nin0).keep K570q nin0).keep K613q (ninS ne523 nin0))
    have f721 : Ia Z T613.heap v465 .byte (sgF p3) := ((f585.keep K570q nin0).keep K613q (ninS ne525 nin0))
    have f722 : Exa Z T613.heap b536 cST := (f603.keep K613q)
    have f723 : Fld Z T613.heap b536 cST "coder" "B" (.int (0 : Int32)) := (f609.keep K613q (ninS (Ne.symm ne548) nin0))
    have f724 : Fld Z T613.heap b536 cST "value" "[B" (.ref v537) := (f610.keep K613q (ninS (Ne.symm ne548) nin0))
    have f725 : Ia Z T613.heap v537 .byte (sgF s1y) := (f611.keep K613q (ninS ne567 nin0))
    have f726 : Exa Z T613.heap b572 cST := (f591.keep K613q)
    have f727 : Fld Z T613.heap b572 cST "coder" "B" (.int (0 : Int32)) := (f592.keep K613q (ninS (Ne.symm ne581) nin0))
    have f728 : Fld Z T613.heap b572 cST "value" "[B" (.ref v573) := (f593.keep K613q (ninS (Ne.symm ne581) nin0))
    have f729 : Ia Z T613.heap v573 .byte (sgF s2y) := (f594.keep K613q (ninS ne602 nin0))
    exact rm_rm0_l209_6 l Z a0 hw p0 p1 p2 p3 p4 p5 cs fv ic cl h0 n0 zCS zF zH zC hcs hfv hh7 hcw hA hca hx hby hlk hml hret T613 _ T613.heap T613.vm _ k1 k2 s1y s2y md b433 b444 b464 b520 b536 b572 v445 v465 v537 v573 X613r e613 N613 z707 k708 hZ hown hS613 (Nat.le_refl _) I613 o709 f710 f711 f712 f713 f714 f715 f716 f717 f718 f719 f720 f721 f619 f620 f621 f622 f722 f723 f724 f725 f726 f727 f728 f729 ne521 ne545 ne580 hv_k1 hv_k2 hc623
set_option maxRecDepth 65536 in
set_option maxHeartbeats 40000000 in
theorem rm_rm0_l85_1 (l : Launch) (Z : State) (a0 : Array Value) (hw : ∀ d ∈ tables_1, d.before a0 Z = true) (p0 : Int32) (p1 : Int32) (p2 : Int32) (p3 : Int32) (p4 : Int32) (p5 : Int32) (cs : Int32) (fv : Value) (ic : Addr) (cl : Cell) (h0 : Heap) (n0 : Nat) (zCS : Sta Z Z.heap cST "COMPACT_STRINGS" "Z" (.int cs)) (zF : Sta Z Z.heap cPR "SIOOBE_FORMATTER" "Ljava/util/function/BiFunction;" fv) (zH : Sta Z Z.heap cIC "high" "I" (.int (127 : Int32))) (zC : Sta Z Z.heap cIC "cache" "[Ljava/lang/Integer;" (.ref ic)) (hcs : ¬ (cs = (0 : Int32))) (hfv : fv = .null ∨ ∃ fa : Addr, fv = .ref fa) (hh7 : Jvm.Lit.constHeld Z cST 7) (hcw : Jvm.Lit.compactW.before a0 Z = true) (hA : Arr Z Z.heap ic cl (.object cIN)) (hca : ∀ i : Int32, ¬ i < (-128 : Int32) → ¬ (127 : Int32) < i → ∃ bb : Addr, (¬ ((i + (128 : Int32)) < 0 ∨ cl.slots.size ≤ (i + (128 : Int32)).toNatClampNeg)) ∧ cl.slots[(i + (128 : Int32)).toNatClampNeg]? = some (.ref bb) ∧ Exa Z Z.heap bb cIN) {p : Program} {e : Env} {s : State} {m : MethodId} {below : List Frame} {meth : Method} {c : Code} (hx : p.tables.exec = Jvm.exec) (hby : c.code = code) (hlk : meth.locks = false) (hml : c.maxLocals = 14) (hret : meth.sig.returnType = ret) :
    ∀ (T502 : State) (L502 : List Loc) (h502 : Heap) (vm502 : Vm) (K502 : Nat) (k1 : Int32) (k2 : Int32) (s1y : Int32) (s2y : Int32) (b433 : Addr) (b444 : Addr) (b464 : Addr) (v445 : Addr) (v465 : Addr), Stand p l e room_1 (s.setVm vm502) m #[(.int p0), (.int p1), (.int p2), (.int p3), (.int p4), (.int p5)] below meth c T502 L502 13 115 → T502.heap = h502 → Fr n0 L502 → n0 ≤ h502.size → Keep h0 h502 [] → Z.Warmed39 (s.setVm vm502).vm → (s.setVm vm502).vm.findClass cLAW = some m.cls → s.Since vm502 K502 → K502 ≤ h502.size → Em Z vm502 h502 ["signature 2", "signature 1"] → Old Z n0 h502 → Exa Z h502 b433 cCD → Fld Z h502 b433 cCD "blockSize" "J" (.long ((3 : Int64) <<< (k1 &&& 0x3f).toInt64)) → Fld Z h502 b433 cCD "signature1" "Ljava/lang/String;" (.ref b444) → Fld Z h502 b433 cCD "signature2" "Ljava/lang/String;" (.ref b464) → Exa Z h502 b444 cST → Fld Z h502 b444 cST "coder" "B" (.int (0 : Int32)) → Fld Z h502 b444 cST "value" "[B" (.ref v445) → Ia Z h502 v445 .byte (sgF p1) → Exa Z h502 b464 cST → Fld Z h502 b464 cST "coder" "B" (.int (0 : Int32)) → Fld Z h502 b464 cST "value" "[B" (.ref v465) → Ia Z h502 v465 .byte (sgF p3) → ((p0 &&& (2147483647 : Int32)) % (31 : Int32)) = k1 → (if (p5 &&& (1 : Int32)) = (0 : Int32) then ((((p0.toUInt32 >>> ((8 : Int32) &&& 31).toUInt32).toInt32) &&& (2147483647 : Int32)) % (31 : Int32)) else k1) = k2 → Go p e below (T502.setTop (mkF m 85 #[.val (.int p0), .val (.int p1), .val (.int p2), .val (.int p3), .val (.int p4), .val (.int p5), .val (.int k1), .val (.int k2), .val (.int s1y), .val (.int s2y), .val (.ref b433), .unset, .unset, .unset] [])) (DoneW s (Q_rm0 Z p0 p1 p2 p3 p4 p5 cs fv ic cl h0 n0) room_1.cells room_1.slots) := by
  intro T502 L502 h502 vm502 K502 k1 k2 s1y s2y b433 b444 b464 v445 v465 X502 e502 N502 z502 k502 hZ hown hS502 hk502 I502 lf0_502 lf1_502 lf2_502 lf3_502 lf4_502 lf5_502 lf6_502 lf7_502 lf8_502 lf9_502 lf10_502 lf11_502 lf12_502 hv_k1 hv_k2
  show Go p e below (T502.setTop (mkF m 85 #[.val (.int p0), .val (.int p1), .val (.int p2), .val (.int p3), .val (.int p4), .val (.int p5), .val (.int k1), .val (.int k2), .val (.int s1y), .val (.int s2y), .val (.ref b433), .unset, .unset, .unset] [])) _
  refine Go.via (fun _ => XS.iload X502.here hx rfl (hb hby at_85) rfl) ?_
  refine Go.via (fun _ => XS.iconst X502.here hx rfl (hb hby at_87)) ?_
  refine Go.via (fun _ => XS.iushr X502.here hx rfl (hb hby at_88) rfl) ?_
  show Go p e below (T502.setTop (mkF m 89 #[.val (.int p0), .val (.int p1), .val (.int p2), .val (.int p3), .val (.int p4), .val (.int p5), .val (.int k1), .val (.int k2), .val (.int s1y), .val (.int s2y), .val (.ref b433), .unset, .unset, .unset] [(.int ((p5.toUInt32 >>> ((3 : Int32) &&& 31).toUInt32).toInt32))])) _
  refine Go.via (fun _ => XS.iconst X502.here hx rfl (hb hby at_89)) ?_
  refine Go.via (fun _ => XS.iand X502.here hx rfl (hb hby at_90) rfl) ?_
  show Go p e below (T502.setTop (mkF m 91 #[.val (.int p0), .val (.int p1), .val (.int p2), .val (.int p3), .val (.int p4), .val (.int p5), .val (.int k1), .val (.int k2), .val (.int s1y), .val (.int s2y), .val (.ref b433), .unset, .unset, .unset] [(.int (((p5.toUInt32 >>> ((3 : Int32) &&& 31).toUInt32).toInt32) &&& (3 : Int32)))])) _
  generalize hv_md : (((p5.toUInt32 >>> ((3 : Int32) &&& 31).toUInt32).toInt32) &&& (3 : Int32)) = md
  show Go p e below (T502.setTop (mkF m 91 #[.val (.int p0), .val (.int p1), .val (.int p2), .val (.int p3), .val (.int p4), .val (.int p5), .val (.int k1), .val (.int k2), .val (.int s1y), .val (.int s2y), .val (.ref b433), .unset, .unset, .unset] [(.int md)])) _
  refine Go.via (fun _ => XS.istore X502.here hx rfl (hb hby at_91) rfl (l' := #[.val (.int p0), .val (.int p1), .val (.int p2), .val (.int p3), .val (.int p4), .val (.int p5), .val (.int k1), .val (.int k2), .val (.int s1y), .val (.int s2y), .val (.ref b433), .val (.int md), .unset, .unset]) rfl) ?_
  show Go p e below (T502.setTop (mkF m 93 #[.val (.int p0), .val (.int p1), .val (.int p2), .val (.int p3), .val (.int p4), .val (.int p5), .val (.int k1), .val (.int k2), .val (.int s1y), .val (.int s2y), .val (.ref b433), .val (.int md), .unset, .unset] [])) _
  refine Go.via (fun _ => XS.iload X502.here hx rfl (hb hby at_93) rfl) ?_
  refine Go.via (fun _ => XS.iconst X502.here hx rfl (hb hby at_95)) ?_
  by_cases hc503 : md = (1 : Int32)
  · refine Go.via (fun _ => XS.icmpNo X502.here hx rfl (hb hby at_96) rfl (teq (hc503 : md = (1 : Int32))).2) ?_
    refine Go.via (fun _ => XS.aload X502.here hx rfl (hb hby at_99) rfl rfl) ?_
    refine Go.via (fun _ => XS.aload X502.here hx rfl (hb hby at_101) rfl rfl) ?_
    show Go p e below (T502.setTop (mkF m 103 #[.val (.int p0), .val (.int p1), .val (.int p2), .val (.int p3), .val (.int p4), .val (.int p5), .val (.int k1), .val (.int k2), .val (.int s1y), .val (.int s2y), .val (.ref b433), .val (.int md), .unset, .unset] [(.ref b433), (.ref b433)])) _
    obtain ⟨cq504, kq504, q504a, q504b, q504c⟩ := isOf hZ e502 lf1_502
    obtain ⟨r504, _, ⟨T504, L504, k504, n504⟩, -, X504, ⟨Lc504, hQ504, l504, y504, z504⟩, st504⟩ := X502.virtualBack hx (y := (⟨cCD, "equals", "(Ljava/lang/Object;)Z"⟩ : MethodName)) (z := (⟨cCD, "equals", "(Ljava/lang/Object;)Z"⟩ : MethodName)) hown (mvT hZ (tw hw 110 rfl)) (mvT hZ (tw hw 111 rfl)) (notFace_of_selects (args := #[]) (mvT hZ (tw hw 113 rfl))) (mvT hZ (tw hw 113 rfl)) (mvT hZ (tw hw 112 rfl)) (by decide) (backOf (W := 0) (rmEs l Z a0 hw [] b433 b433  h502 n0 z502) hZ (tw hw 114 rfl) (tw hw 3 rfl) (by decide) (by decide)) q504a q504c (g := (mkF m 103 #[.val (.int p0), .val (.int p1), .val (.int p2), .val (.int p3), .val (.int p4), .val (.int p5), .val (.int k1), .val (.int k2), .val (.int s1y), .val (.int s2y), .val (.ref b433), .val (.int md), .unset, .unset] [(.ref b433), (.ref b433)])) rfl (by rw [hml]; rfl) (Steps.refl _) (argsL := [(.ref b433)]) (rest := []) (lenOf pd__28Ljava_2flang_2fObject_3b_29Z rfl) rfl (by show 2 * 0 + _ ≤ _; exact Nat.le_of_eq rfl) (hb hby at_103) (fun _ _ => ⟨rfl, e502, (by decide : 13 + 0 ≤ _), (by decide : 115 + 0 ≤ _)⟩)
    dsimp only [Pt.U, Pt.locs, Pt.cells, Pt.slots] at X504 l504 y504 z504 st504 hQ504
    rw [l504, y504, z504] at X504
    clear l504 y504 z504
    obtain ⟨hr504, N504q, eh504⟩ := hQ504
    rw [hr504] at st504
    clear hr504
    rw [N504q, List.append_nil] at X504
    refine Go.via (fun _ kQ => st504.trans kQ) ?_
    clear st504
    have e504 : T504.heap = h502 := eh504
    clear X502 e502
    show Go p e below (T504.setTop (mkF m 106 #[.val (.int p0), .val (.int p1), .val (.int p2), .val (.int p3), .val (.int p4), .val (.int p5), .val (.int k1), .val (.int k2), .val (.int s1y), .val (.int s2y), .val (.ref b433), .val (.int md), .unset, .unset] [(.int (1 : Int32))])) _
    exact Go.finW X504 hS502 (Nat.le_trans hk502 (Nat.le_of_eq (congrArg Array.size (Eq.symm e504)))) hlk (v := some (.int (1 : Int32))) (fun h => by rw [hret] at h; cases h) (fun fs hr => retN X504 hx (t := .boolean) hret (by simp) (hb hby at_106) hr) (by rw [e504]; exact ⟨rfl, N502, k502, Em.still I502 X504.warmed.interned_eq (w39 X504.warmed.wide)⟩) (by decide) (by decide)
  · refine Go.via (fun _ => XS.icmpYes X502.here hx rfl (pc0 := 96) (pc' := 107) rfl (hb hby at_96) rfl (feq (hc503 : ¬ (md = (1 : Int32)))).2 (by decide) (by decide)) ?_
    refine Go.via (fun _ => XS.iload X502.here hx rfl (hb hby at_107) rfl) ?_
    refine Go.via (fun _ => XS.iconst X502.here hx rfl (hb hby at_109)) ?_
    show Go p e below (T502.setTop (mkF m 110 #[.val (.int p0), .val (.int p1), .val (.int p2), .val (.int p3), .val (.int p4), .val (.int p5), .val (.int k1), .val (.int k2), .val (.int s1y), .val (.int s2y), .val (.ref b433), .val (.int md), .unset, .unset] [(.int (2 : Int32)), (.int md)])) _
    by_cases hc505 : md = (2 : Int32)
    · refine Go.via (fun _ => XS.icmpNo X502.here hx rfl (hb hby at_110) rfl (teq (hc505 : md = (2 : Int32))).2) ?_
      show Go p e below (T502.setTop (mkF m 113 #[.val (.int p0), .val (.int p1), .val (.int p2), .val (.int p3), .val (.int p4), .val (.int p5), .val (.int k1), .val (.int k2), .val (.int s1y), .val (.int s2y), .val (.ref b433), .val (.int md), .unset, .unset] [])) _
      refine Go.via (fun _ => XS.aload X502.here hx rfl (hb hby at_113) rfl rfl) ?_
      refine Go.via (fun _ => XS.aconstNull X502.here hx rfl (hb hby at_115)) ?_
      show Go p e below (T502.setTop (mkF m 116 #[.val (.int p0), .val (.int p1), .val (.int p2), .val (.int p3), .val (.int p4), .val (.int p5), .val (.int k1), .val (.int k2), .val (.int s1y), .val (.int s2y), .val (.ref b433), .val (.int md), .unset, .unset] [.null, (.ref b433)])) _
      obtain ⟨cq506, kq506, q506a, q506b, q506c⟩ := isOf hZ e502 lf1_502
      obtain ⟨r506, _, ⟨T506, L506, k506, n506⟩, -, X506, ⟨Lc506, hQ506, l506, y506, z506⟩, st506⟩ := X502.virtualBack hx (y := (⟨cCD, "equals", "(Ljava/lang/Object;)Z"⟩ : MethodName)) (z := (⟨cCD, "equals", "(Ljava/lang/Object;)Z"⟩ : MethodName)) hown (mvT hZ (tw hw 110 rfl)) (mvT hZ (tw hw 111 rfl)) (notFace_of_selects (args := #[]) (mvT hZ (tw hw 113 rfl))) (mvT hZ (tw hw 113 rfl)) (mvT hZ (tw hw 112 rfl)) (by decide) (backOf (W := 0) (rmEn l Z a0 hw [] b433  h502 n0 z502) hZ (tw hw 114 rfl) (tw hw 3 rfl) (by decide) (by decide)) q506a q506c (g := (mkF m 116 #[.val (.int p0), .val (.int p1), .val (.int p2), .val (.int p3), .val (.int p4), .val (.int p5), .val (.int k1), .val (.int k2), .val (.int s1y), .val (.int s2y), .val (.ref b433), .val (.int md), .unset, .unset] [.null, (.ref b433)])) rfl (by rw [hml]; rfl) (Steps.refl _) (argsL := [.null]) (rest := []) (lenOf pd__28Ljava_2flang_2fObject_3b_29Z rfl) rfl (by show 2 * 0 + _ ≤ _; exact Nat.le_of_eq rfl) (hb hby at_116) (fun _ _ => ⟨rfl, e502, (by decide : 13 + 0 ≤ _), (by decide : 115 + 0 ≤ _)⟩)
      dsimp only [Pt.U, Pt.locs, Pt.cells, Pt.slots] at X506 l506 y506 z506 st506 hQ506
      rw [l506, y506, z506] at X506
      clear l506 y506 z506
      obtain ⟨hr506, N506q, eh506⟩ := hQ506
      rw [hr506] at st506
      clear hr506
      rw [N506q, List.append_nil] at X506
      refine Go.via (fun _ kQ => st506.trans kQ) ?_
      clear st506
      have e506 : T506.heap = h502 := eh506
      clear X502 e502
      show Go p e below (T506.setTop (mkF m 119 #[.val (.int p0), .val (.int p1), .val (.int p2), .val (.int p3), .val (.int p4), .val (.int p5), .val (.int k1), .val (.int k2), .val (.int s1y), .val (.int s2y), .val (.ref b433), .val (.int md), .unset, .unset] [(.int (0 : Int32))])) _
      refine Go.via (fun _ => XS.ifNo X506.here hx rfl (hb hby at_119) rfl ((if0 _ _).trans (teq ((by decide) : (0 : Int32) = (0 : Int32))).2)) ?_
      show Go p e below (T506.setTop (mkF m 122 #[.val (.int p0), .val (.int p1), .val (.int p2), .val (.int p3), .val (.int p4), .val (.int p5), .val (.int k1), .val (.int k2), .val (.int s1y), .val (.int s2y), .val (.ref b433), .val (.int md), .unset, .unset] [])) _
      refine Go.via (fun _ => XS.iconst X506.here hx rfl (hb hby at_122)) ?_
      refine Go.via (fun _ => XS.goto X506.here hx rfl (pc0 := 123) (pc' := 127) rfl (hb hby at_123) (by decide) (by decide)) ?_
      exact Go.finW X506 hS502 (Nat.le_trans hk502 (Nat.le_of_eq (congrArg Array.size (Eq.symm e506)))) hlk (v := some (.int (1 : Int32))) (fun h => by rw [hret] at h; cases h) (fun fs hr => retN X506 hx (t := .boolean) hret (by simp) (hb hby at_127) hr) (by rw [e506]; exact ⟨rfl, N502, k502, Em.still I502 X506.warmed.interned_eq (w39 X506.warmed.wide)⟩) (by decide) (by decide)
    · refine Go.via (fun _ => XS.icmpYes X502.here hx rfl (pc0 := 110) (pc' := 128) rfl (hb hby at_110) rfl (feq (hc505 : ¬ (md = (2 : Int32)))).2 (by decide) (by decide)) ?_
      show Go p e below (T502.setTop (mkF m 128 #[.val (.int p0), .val (.int p1), .val (.int p2), .val (.int p3), .val (.int p4), .val (.int p5), .val (.int k1), .val (.int k2), .val (.int s1y), .val (.int s2y), .val (.ref b433), .val (.int md), .unset, .unset] [])) _
      refine Go.via (fun _ => XS.iload X502.here hx rfl (hb hby at_128) rfl) ?_
      refine Go.via (fun _ => XS.iconst X502.here hx rfl (hb hby at_130)) ?_
      by_cases hc507 : md = (3 : Int32)
      · refine Go.via (fun _ => XS.icmpNo X502.here hx rfl (hb hby at_131) rfl (teq (hc507 : md = (3 : Int32))).2) ?_
        refine Go.via (fun _ => XS.aload X502.here hx rfl (hb hby at_134) rfl rfl) ?_
        refine Go.via (fun _ => XS.iloadN X502.here hx rfl (hb hby at_136) rfl) ?_
        show Go p e below (T502.setTop (mkF m 137 #[.val (.int p0), .val (.int p1), .val (.int p2), .val (.int p3), .val (.int p4), .val (.int p5), .val (.int k1), .val (.int k2), .val (.int s1y), .val (.int s2y), .val (.ref b433), .val (.int md), .unset, .unset] [(.int p0), (.ref b433)])) _
        obtain ⟨r508, _, ⟨T508, L508, k508, n508⟩, -, X508, ⟨Lc508, hQ508, l508, y508, z508⟩, st508⟩ := Jvm.LawKit.callS X502 hx (y := (⟨cIN, "valueOf", "(I)Ljava/lang/Integer;"⟩ : MethodName)) hown (mvT hZ (tw hw 126 rfl)) (mvT hZ (tw hw 127 rfl)) (mvT hZ (tw hw 128 rfl)) (mvT hZ (tw hw 129 rfl)) (by decide) (backOf (W := 1) (rmVo l Z a0 hw [] p0 ic cl h502 n0 z502 lf0_502 zH zC hA hca) hZ (tw hw 129 rfl) (tw hw 128 rfl) (by decide) (by decide)) (g := (mkF m 137 #[.val (.int p0), .val (.int p1), .val (.int p2), .val (.int p3), .val (.int p4), .val (.int p5), .val (.int k1), .val (.int k2), .val (.int s1y), .val (.int s2y), .val (.ref b433), .val (.int md), .unset, .unset] [(.int p0), (.ref b433)])) rfl (by rw [hml]; rfl) (argsL := [(.int p0)]) (rest := [(.ref b433)]) (lenOf pd__28I_29Ljava_2flang_2fInteger_3b rfl) rfl (by show 2 * 0 + _ ≤ _; exact Nat.le_of_eq rfl) (hb hby at_137) (fun _ _ => ⟨rfl, e502, (by decide : 13 + 1 ≤ _), (by decide : 115 + 1 ≤ _)⟩)
        dsimp only [Pt.U, Pt.locs, Pt.cells, Pt.slots] at X508 l508 y508 z508 st508 hQ508
        rw [l508, y508, z508] at X508
        clear l508 y508 z508
        obtain ⟨v509, hr508, N508q, K508q, f510⟩ := hQ508
        rw [hr508] at st508
        clear hr508
        have N508 := Fr.app N502 N508q
        refine Go.via (st508) ?_
        clear st508
        have e508 : T508.heap = T508.heap := rfl
        have f511 : Exa Z T508.heap v509 cIN := f510
        clear X502 e502
        show Go p e below (T508.setTop (mkF m 140 #[.val (.int p0), .val (.int p1), .val (.int p2), .val (.int p3), .val (.int p4), .val (.int p5), .val (.int k1), .val (.int k2), .val (.int s1y), .val (.int s2y), .val (.ref b433), .val (.int md), .unset, .unset] [(.ref v509), (.ref b433)])) _
        have f512 : Exa Z T508.heap b433 cCD := (lf1_502.keep K508q)
        have ne513 : b433 ≠ v509 := ne_exa f512 f511 (by decide)
        have z515 : n0 ≤ T508.heap.size := (Nat.le_trans z502 K508q.1)
        obtain ⟨cq514, kq514, q514a, q514b, q514c⟩ := isOf hZ e508 f512
        obtain ⟨r514, _, ⟨T514, L514, k514, n514⟩, -, X514, ⟨Lc514, hQ514, l514, y514, z514⟩, st514⟩ := X508.virtualBack hx (y := (⟨cCD, "equals", "(Ljava/lang/Object;)Z"⟩ : MethodName)) (z := (⟨cCD, "equals", "(Ljava/lang/Object;)Z"⟩ : MethodName)) hown (mvT hZ (tw hw 110 rfl)) (mvT hZ (tw hw 111 rfl)) (notFace_of_selects (args := #[]) (mvT hZ (tw hw 113 rfl))) (mvT hZ (tw hw 113 rfl)) (mvT hZ (tw hw 112 rfl)) (by decide) (backOf (W := 0) (rmEi l Z a0 hw [] b433 v509  T508.heap n0 z515 f511 ne513) hZ (tw hw 114 rfl) (tw hw 3 rfl) (by decide) (by decide)) q514a q514c (g := (mkF m 140 #[.val (.int p0), .val (.int p1), .val (.int p2), .val (.int p3), .val (.int p4), .val (.int p5), .val (.int k1), .val (.int k2), .val (.int s1y), .val (.int s2y), .val (.ref b433), .val (.int md), .unset, .unset] [(.ref v509), (.ref b433)])) rfl (by rw [hml]; rfl) (Steps.refl _) (argsL := [(.ref v509)]) (rest := []) (lenOf pd__28Ljava_2flang_2fObject_3b_29Z rfl) rfl (by show 2 * 0 + _ ≤ _; exact Nat.le_of_eq rfl) (hb hby at_140) (fun _ _ => ⟨rfl, e508, (by decide : 14 + 0 ≤ _), (by decide : 116 + 0 ≤ _)⟩)
        dsimp only [Pt.U, Pt.locs, Pt.cells, Pt.slots] at X514 l514 y514 z514 st514 hQ514
        rw [l514, y514, z514] at X514
        clear l514 y514 z514
        obtain ⟨hr514, N514q, eh514⟩ := hQ514
        rw [hr514] at st514
        clear hr514
        rw [N514q, List.append_nil] at X514
        refine Go.via (fun _ kQ => st514.trans kQ) ?_
        clear st514
        have e514 : T514.heap = T508.heap := eh514
        clear X508 e508
        show Go p e below (T514.setTop (mkF m 143 #[.val (.int p0), .val (.int p1), .val (.int p2), .val (.int p3), .val (.int p4), .val (.int p5), .val (.int k1), .val (.int k2), .val (.int s1y), .val (.int s2y), .val (.ref b433), .val (.int md), .unset, .unset] [(.int (0 : Int32))])) _
        refine Go.via (fun _ => XS.ifNo X514.here hx rfl (hb hby at_143) rfl ((if0 _ _).trans (teq ((by decide) : (0 : Int32) = (0 : Int32))).2)) ?_
        show Go p e below (T514.setTop (mkF m 146 #[.val (.int p0), .val (.int p1), .val (.int p2), .val (.int p3), .val (.int p4), .val (.int p5), .val (.int k1), .val (.int k2), .val (.int s1y), .val (.int s2y), .val (.ref b433), .val (.int md), .unset, .unset] [])) _
        refine Go.via (fun _ => XS.iconst X514.here hx rfl (hb hby at_146)) ?_
        refine Go.via (fun _ => XS.goto X514.here hx rfl (pc0 := 147) (pc' := 151) rfl (hb hby at_147) (by decide) (by decide)) ?_
        have k516 : Keep h0 T508.heap [] := (k502.trans K508q all0)
        have em517 : Em Z vm502 T508.heap ["signature 2", "signature 1"] := (Em.keep0 I502 K508q)
        have hk518 : _ ≤ T508.heap.size := (Nat.le_trans hk502 K508q.1)
        exact Go.finW X514 hS502 (Nat.le_trans hk518 (Nat.le_of_eq (congrArg Array.size (Eq.symm e514)))) hlk (v := some (.int (1 : Int32))) (fun h => by rw [hret] at h; cases h) (fun fs hr => retN X514 hx (t := .boolean) hret (by simp) (hb hby at_151) hr) (by rw [e514]; exact ⟨rfl, N508, k516, Em.still em517 X514.warmed.interned_eq (w39 X514.warmed.wide)⟩) (by decide) (by decide)
      · refine Go.via (fun _ => XS.icmpYes X502.here hx rfl (pc0 := 131) (pc' := 152) rfl (hb hby at_131) rfl (feq (hc507 : ¬ (md = (3 : Int32)))).2 (by decide) (by decide)) ?_
        exact rm_rm0_l152_2 l Z a0 hw p0 p1 p2 p3 p4 p5 cs fv ic cl h0 n0 zCS zF zH zC hcs hfv hh7 hcw hA hca hx hby hlk hml hret T502 _ h502 vm502 _ k1 k2 s1y s2y md b433 b444 b464 v445 v465 X502 e502 N502 z502 k502 hZ hown hS502 hk502 I502 lf0_502 lf1_502 lf2_502 lf3_502 lf4_502 lf5_502 lf6_502 lf7_502 lf8_502 lf9_502 lf10_502 lf11_502 lf12_502 hv_k1 hv_k2
theorem pn_0 : plainName cLAW = true := by first | (simp [plainName, overriddenIn]; done) | decide +kernel
theorem ef_0 (m : MethodId) (x0 : Int32) (x1 : Int32) (x2 : Int32) (x3 : Int32) (x4 : Int32) (x5 : Int32) : entryFrame m #[(.int x0), (.int x1), (.int x2), (.int x3), (.int x4), (.int x5)] maxLocals = mkF m 0 #[.val (.int x0), .val (.int x1), .val (.int x2), .val (.int x3), .val (.int x4), .val (.int x5), .unset, .unset, .unset, .unset, .unset, .unset, .unset, .unset] [] := by first | (simp [entryFrame, mkF, argsToLocals, Value.category, maxLocals]; done) | rfl
set_option maxRecDepth 65536 in
set_option maxHeartbeats 40000000 in
theorem rm0 (l : Launch) (Z : State) (a0 : Array Value) (hw : ∀ d ∈ tables_1, d.before a0 Z = true) (ws : List Jvm.Cond) (p0 : Int32) (p1 : Int32) (p2 : Int32) (p3 : Int32) (p4 : Int32) (p5 : Int32) (cs : Int32) (fv : Value) (ic : Addr) (cl : Cell) (h0 : Heap) (n0 : Nat) (Z0 : n0 ≤ h0.size) (P0 : Old Z n0 h0) (zCS : Sta Z Z.heap cST "COMPACT_STRINGS" "Z" (.int cs)) (zF : Sta Z Z.heap cPR "SIOOBE_FORMATTER" "Ljava/util/function/BiFunction;" fv) (zH : Sta Z Z.heap cIC "high" "I" (.int (127 : Int32))) (zC : Sta Z Z.heap cIC "cache" "[Ljava/lang/Integer;" (.ref ic)) (hcs : ¬ (cs = (0 : Int32))) (hfv : fv = .null ∨ ∃ fa : Addr, fv = .ref fa) (hh7 : Jvm.Lit.constHeld Z cST 7) (hcw : Jvm.Lit.compactW.before a0 Z = true) (hA : Arr Z Z.heap ic cl (.object cIN)) (hca : ∀ i : Int32, ¬ i < (-128 : Int32) → ¬ (127 : Int32) < i → ∃ bb : Addr, (¬ ((i + (128 : Int32)) < 0 ∨ cl.slots.size ≤ (i + (128 : Int32)).toNatClampNeg)) ∧ cl.slots[(i + (128 : Int32)).toNatClampNeg]? = some (.ref bb) ∧ Exa Z Z.heap bb cIN) :
    MetFree l x (head1 (Jvm.Cond.code x code maxLocals ret :: ws) room_1) (fun aQ UQ => aQ = #[(.int p0), (.int p1), (.int p2), (.int p3), (.int p4), (.int p5)] ∧ Z.Warmed39 UQ.vm ∧ UQ.heap = h0 ∧ V_rm0 Z p0 p1 p2 p3 p4 p5 cs fv ic cl h0 UQ.vm) (fun _ _ _ _ _ => True) (fun _ UQ oQ UR => ∃ vQ LQ, oQ = .returned vQ ∧ Q_rm0 Z p0 p1 p2 p3 p4 p5 cs fv ic cl h0 n0 vQ UR.heap UR.vm LQ ∧ ReturnedEndW UQ oQ UR LQ room_1.cells room_1.slots) := by
  refine MetFree.of_bodySF (plainFor_of_name pn_0) hisR ?_
  intro p e s m args below meth c s₁ Bd hml0 hP hK
  obtain ⟨rfl, hZ0, hh, hV⟩ := hP
  obtain ⟨I0, -⟩ := hV
  have hx := Bd.exec
  have hby := Bd.bytes
  have hlk := Bd.notSynchronized
  have hml : c.maxLocals = 14 := hml0
  have hnm := (name_of_methodNamed Bd.named Bd.method).1
  have e0 : s₁.heap = h0 := by rw [← hh, Bd.state]; rfl
  have N0 := Fr.nil n0
  have hZ : Z.Warmed39 (s.setVm s.vm).vm := hZ0
  have hown : (s.setVm s.vm).vm.findClass cLAW = some m.cls := findClass_of_methodNamed Bd.named
  have X0 : Stand p l e room_1 (s.setVm s.vm) m #[(.int p0), (.int p1), (.int p2), (.int p3), (.int p4), (.int p5)] below meth c s₁ [] 0 0 := Stand.of_body Bd
  have hS0 : s.Since s.vm s.heap.size := (State.WarmedH.refl _).since _
  have hk0 : s.heap.size ≤ h0.size := Nat.le_of_eq (congrArg Array.size hh)
  show Go p e below _ (DoneW s (Q_rm0 Z p0 p1 p2 p3 p4 p5 cs fv ic cl h0 n0) room_1.cells room_1.slots)
  refine Go.via (fun tQ kQ => castTop (ef_0 m p0 p1 p2 p3 p4 p5) kQ) ?_
  show Go p e below (s₁.setTop (mkF m 0 #[.val (.int p0), .val (.int p1), .val (.int p2), .val (.int p3), .val (.int p4), .val (.int p5), .unset, .unset, .unset, .unset, .unset, .unset, .unset, .unset] [])) _
  refine Go.via (fun _ => XS.iloadN X0.here hx rfl (hb hby at_0) rfl) ?_
  refine Go.via (X0.ldcInt hx hown (mvT hZ (tw hw 0 rfl)) (g := (mkF m 1 #[.val (.int p0), .val (.int p1), .val (.int p2), .val (.int p3), .val (.int p4), .val (.int p5), .unset, .unset, .unset, .unset, .unset, .unset, .unset, .unset] [(.int p0)])) rfl (hb hby at_1)) ?_
  show Go p e below (s₁.setTop (mkF m 3 #[.val (.int p0), .val (.int p1), .val (.int p2), .val (.int p3), .val (.int p4), .val (.int p5), .unset, .unset, .unset, .unset, .unset, .unset, .unset, .unset] [(.int (2147483647 : Int32)), (.int p0)])) _
  refine Go.via (fun _ => XS.iand X0.here hx rfl (hb hby at_3) rfl) ?_
  show Go p e below (s₁.setTop (mkF m 4 #[.val (.int p0), .val (.int p1), .val (.int p2), .val (.int p3), .val (.int p4), .val (.int p5), .unset, .unset, .unset, .unset, .unset, .unset, .unset, .unset] [(.int (p0 &&& (2147483647 : Int32)))])) _
  refine Go.via (fun _ => XS.bipush X0.here hx rfl (hb hby at_4)) ?_
  refine Go.via (fun _ => iremM X0 hx rfl (hb hby at_6) rfl (by decide)) ?_
  show Go p e below (s₁.setTop (mkF m 7 #[.val (.int p0), .val (.int p1), .val (.int p2), .val (.int p3), .val (.int p4), .val (.int p5), .unset, .unset, .unset, .unset, .unset, .unset, .unset, .unset] [(.int ((p0 &&& (2147483647 : Int32)) % (31 : Int32)))])) _
  generalize hv_k1 : ((p0 &&& (2147483647 : Int32)) % (31 : Int32)) = k1
  show Go p e below (s₁.setTop (mkF m 7 #[.val (.int p0), .val (.int p1), .val (.int p2), .val (.int p3), .val (.int p4), .val (.int p5), .unset, .unset, .unset, .unset, .unset, .unset, .unset, .unset] [(.int k1)])) _
  refine Go.via (fun _ => XS.istore X0.here hx rfl (hb hby at_7) rfl (l' := #[.val (.int p0), .val (.int p1), .val (.int p2), .val (.int p3), .val (.int p4), .val (.int p5), .val (.int k1), .unset, .unset, .unset, .unset, .unset, .unset, .unset]) rfl) ?_
  show Go p e below (s₁.setTop (mkF m 9 #[.val (.int p0), .val (.int p1), .val (.int p2), .val (.int p3), .val (.int p4), .val (.int p5), .val (.int k1), .unset, .unset, .unset, .unset, .unset, .unset, .unset] [])) _
  refine Go.via (fun _ => XS.iload X0.here hx rfl (hb hby at_9) rfl) ?_
  refine Go.via (fun _ => XS.iconst X0.here hx rfl (hb hby at_11)) ?_
  refine Go.via (fun _ => XS.iand X0.here hx rfl (hb hby at_12) rfl) ?_
  show Go p e below (s₁.setTop (mkF m 13 #[.val (.int p0), .val (.int p1), .val (.int p2), .val (.int p3), .val (.int p4), .val (.int p5), .val (.int k1), .unset, .unset, .unset, .unset, .unset, .unset, .unset] [(.int (p5 &&& (1 : Int32)))])) _
  suffices hm428 : Go p e below (s₁.setTop (mkF m 31 #[.val (.int p0), .val (.int p1), .val (.int p2), .val (.int p3), .val (.int p4), .val (.int p5), .val (.int k1), .unset, .unset, .unset, .unset, .unset, .unset, .unset] [(.int (if (p5 &&& (1 : Int32)) = (0 : Int32) then ((((p0.toUInt32 >>> ((8 : Int32) &&& 31).toUInt32).toInt32) &&& (2147483647 : Int32)) % (31 : Int32)) else k1))])) (DoneW s (Q_rm0 Z p0 p1 p2 p3 p4 p5 cs fv ic cl h0 n0) room_1.cells room_1.slots) by
    by_cases hc427 : (p5 &&& (1 : Int32)) = (0 : Int32)
    · rw [if_pos hc427] at hm428
      refine Go.via (fun _ => XS.ifYes X0.here hx rfl (pc0 := 13) (pc' := 21) rfl (hb hby at_13) rfl ((if0 _ _).trans (teq (hc427 : (p5 &&& (1 : Int32)) = (0 : Int32))).1) (by decide) (by decide)) ?_
      show Go p e below (s₁.setTop (mkF m 21 #[.val (.int p0), .val (.int p1), .val (.int p2), .val (.int p3), .val (.int p4), .val (.int p5), .val (.int k1), .unset, .unset, .unset, .unset, .unset, .unset, .unset] [])) _
      refine Go.via (fun _ => XS.iloadN X0.here hx rfl (hb hby at_21) rfl) ?_
      refine Go.via (fun _ => XS.bipush X0.here hx rfl (hb hby at_22)) ?_
      refine Go.via (fun _ => XS.iushr X0.here hx rfl (hb hby at_24) rfl) ?_
      show Go p e below (s₁.setTop (mkF m 25 #[.val (.int p0), .val (.int p1), .val (.int p2), .val (.int p3), .val (.int p4), .val (.int p5), .val (.int k1), .unset, .unset, .unset, .unset, .unset, .unset, .unset] [(.int ((p0.toUInt32 >>> ((8 : Int32) &&& 31).toUInt32).toInt32))])) _
      refine Go.via (X0.ldcInt hx hown (mvT hZ (tw hw 0 rfl)) (g := (mkF m 25 #[.val (.int p0), .val (.int p1), .val (.int p2), .val (.int p3), .val (.int p4), .val (.int p5), .val (.int k1), .unset, .unset, .unset, .unset, .unset, .unset, .unset] [(.int ((p0.toUInt32 >>> ((8 : Int32) &&& 31).toUInt32).toInt32))])) rfl (hb hby at_25)) ?_
      show Go p e below (s₁.setTop (mkF m 27 #[.val (.int p0), .val (.int p1), .val (.int p2), .val (.int p3), .val (.int p4), .val (.int p5), .val (.int k1), .unset, .unset, .unset, .unset, .unset, .unset, .unset] [(.int (2147483647 : Int32)), (.int ((p0.toUInt32 >>> ((8 : Int32) &&& 31).toUInt32).toInt32))])) _
      refine Go.via (fun _ => XS.iand X0.here hx rfl (hb hby at_27) rfl) ?_
      show Go p e below (s₁.setTop (mkF m 28 #[.val (.int p0), .val (.int p1), .val (.int p2), .val (.int p3), .val (.int p4), .val (.int p5), .val (.int k1), .unset, .unset, .unset, .unset, .unset, .unset, .unset] [(.int (((p0.toUInt32 >>> ((8 : Int32) &&& 31).toUInt32).toInt32) &&& (2147483647 : Int32)))])) _
      refine Go.via (fun _ => XS.bipush X0.here hx rfl (hb hby at_28)) ?_
      refine Go.via (fun _ => iremM X0 hx rfl (hb hby at_30) rfl (by decide)) ?_
      exact hm428
    · rw [if_neg hc427] at hm428
      refine Go.via (fun _ => XS.ifNo X0.here hx rfl (hb hby at_13) rfl ((if0 _ _).trans (feq (hc427 : ¬ ((p5 &&& (1 : Int32)) = (0 : Int32)))).1)) ?_
      show Go p e below (s₁.setTop (mkF m 16 #[.val (.int p0), .val (.int p1), .val (.int p2), .val (.int p3), .val (.int p4), .val (.int p5), .val (.int k1), .unset, .unset, .unset, .unset, .unset, .unset, .unset] [])) _
      refine Go.via (fun _ => XS.iload X0.here hx rfl (hb hby at_16) rfl) ?_
      refine Go.via (fun _ => XS.goto X0.here hx rfl (pc0 := 18) (pc' := 31) rfl (hb hby at_18) (by decide) (by decide)) ?_
      exact hm428
  show Go p e below (s₁.setTop (mkF m 31 #[.val (.int p0), .val (.int p1), .val (.int p2), .val (.int p3), .val (.int p4), .val (.int p5), .val (.int k1), .unset, .unset, .unset, .unset, .unset, .unset, .unset] [(.int (if (p5 &&& (1 : Int32)) = (0 : Int32) then ((((p0.toUInt32 >>> ((8 : Int32) &&& 31).toUInt32).toInt32) &&& (2147483647 : Int32)) % (31 : Int32)) else k1))])) _
  generalize hv_k2 : (if (p5 &&& (1 : Int32)) = (0 : Int32) then ((((p0.toUInt32 >>> ((8 : Int32) &&& 31).toUInt32).toInt32) &&& (2147483647 : Int32)) % (31 : Int32)) else k1) = k2
  show Go p e below (s₁.setTop (mkF m 31 #[.val (.int p0), .val (.int p1), .val (.int p2), .val (.int p3), .val (.int p4), .val (.int p5), .val (.int k1), .unset, .unset, .unset, .unset, .unset, .unset, .unset] [(.int k2)])) _
  refine Go.via (fun _ => XS.istore X0.here hx rfl (hb hby at_31) rfl (l' := #[.val (.int p0), .val (.int p1), .val (.int p2), .val (.int p3), .val (.int p4), .val (.int p5), .val (.int k1), .val (.int k2), .unset, .unset, .unset, .unset, .unset, .unset]) rfl) ?_
  show Go p e below (s₁.setTop (mkF m 33 #[.val (.int p0), .val (.int p1), .val (.int p2), .val (.int p3), .val (.int p4), .val (.int p5), .val (.int k1), .val (.int k2), .unset, .unset, .unset, .unset, .unset, .unset] [])) _
  refine Go.via (fun _ => XS.iload X0.here hx rfl (hb hby at_33) rfl) ?_
  refine Go.via (fun _ => XS.iconst X0.here hx rfl (hb hby at_35)) ?_
  refine Go.via (fun _ => XS.iand X0.here hx rfl (hb hby at_36) rfl) ?_
  show Go p e below (s₁.setTop (mkF m 37 #[.val (.int p0), .val (.int p1), .val (.int p2), .val (.int p3), .val (.int p4), .val (.int p5), .val (.int k1), .val (.int k2), .unset, .unset, .unset, .unset, .unset, .unset] [(.int (p5 &&& (2 : Int32)))])) _
  suffices hm430 : Go p e below (s₁.setTop (mkF m 45 #[.val (.int p0), .val (.int p1), .val (.int p2), .val (.int p3), .val (.int p4), .val (.int p5), .val (.int k1), .val (.int k2), .unset, .unset, .unset, .unset, .unset, .unset] [(.int (if (p5 &&& (2 : Int32)) = (0 : Int32) then p2 else p1))])) (DoneW s (Q_rm0 Z p0 p1 p2 p3 p4 p5 cs fv ic cl h0 n0) room_1.cells room_1.slots) by
    by_cases hc429 : (p5 &&& (2 : Int32)) = (0 : Int32)
    · rw [if_pos hc429] at hm430
      refine Go.via (fun _ => XS.ifYes X0.here hx rfl (pc0 := 37) (pc' := 44) rfl (hb hby at_37) rfl ((if0 _ _).trans (teq (hc429 : (p5 &&& (2 : Int32)) = (0 : Int32))).1) (by decide) (by decide)) ?_
      show Go p e below (s₁.setTop (mkF m 44 #[.val (.int p0), .val (.int p1), .val (.int p2), .val (.int p3), .val (.int p4), .val (.int p5), .val (.int k1), .val (.int k2), .unset, .unset, .unset, .unset, .unset, .unset] [])) _
      refine Go.via (fun _ => XS.iloadN X0.here hx rfl (hb hby at_44) rfl) ?_
      exact hm430
    · rw [if_neg hc429] at hm430
      refine Go.via (fun _ => XS.ifNo X0.here hx rfl (hb hby at_37) rfl ((if0 _ _).trans (feq (hc429 : ¬ ((p5 &&& (2 : Int32)) = (0 : Int32)))).1)) ?_
      show Go p e below (s₁.setTop (mkF m 40 #[.val (.int p0), .val (.int p1), .val (.int p2), .val (.int p3), .val (.int p4), .val (.int p5), .val (.int k1), .val (.int k2), .unset, .unset, .unset, .unset, .unset, .unset] [])) _
      refine Go.via (fun _ => XS.iloadN X0.here hx rfl (hb hby at_40) rfl) ?_
      refine Go.via (fun _ => XS.goto X0.here hx rfl (pc0 := 41) (pc' := 45) rfl (hb hby at_41) (by decide) (by decide)) ?_
      exact hm430
  show Go p e below (s₁.setTop (mkF m 45 #[.val (.int p0), .val (.int p1), .val (.int p2), .val (.int p3), .val (.int p4), .val (.int p5), .val (.int k1), .val (.int k2), .unset, .unset, .unset, .unset, .unset, .unset] [(.int (if (p5 &&& (2 : Int32)) = (0 : Int32) then p2 else p1))])) _
  generalize hv_s1y : (if (p5 &&& (2 : Int32)) = (0 : Int32) then p2 else p1) = s1y
  show Go p e below (s₁.setTop (mkF m 45 #[.val (.int p0), .val (.int p1), .val (.int p2), .val (.int p3), .val (.int p4), .val (.int p5), .val (.int k1), .val (.int k2), .unset, .unset, .unset, .unset, .unset, .unset] [(.int s1y)])) _
  refine Go.via (fun _ => XS.istore X0.here hx rfl (hb hby at_45) rfl (l' := #[.val (.int p0), .val (.int p1), .val (.int p2), .val (.int p3), .val (.int p4), .val (.int p5), .val (.int k1), .val (.int k2), .val (.int s1y), .unset, .unset, .unset, .unset, .unset]) rfl) ?_
  show Go p e below (s₁.setTop (mkF m 47 #[.val (.int p0), .val (.int p1), .val (.int p2), .val (.int p3), .val (.int p4), .val (.int p5), .val (.int k1), .val (.int k2), .val (.int s1y), .unset, .unset, .unset, .unset, .unset] [])) _
  refine Go.via (fun _ => XS.iload X0.here hx rfl (hb hby at_47) rfl) ?_
  refine Go.via (fun _ => XS.iconst X0.here hx rfl (hb hby at_49)) ?_
  refine Go.via (fun _ => XS.iand X0.here hx rfl (hb hby at_50) rfl) ?_
  show Go p e below (s₁.setTop (mkF m 51 #[.val (.int p0), .val (.int p1), .val (.int p2), .val (.int p3), .val (.int p4), .val (.int p5), .val (.int k1), .val (.int k2), .val (.int s1y), .unset, .unset, .unset, .unset, .unset] [(.int (p5 &&& (4 : Int32)))])) _
  suffices hm432 : Go p e below (s₁.setTop (mkF m 60 #[.val (.int p0), .val (.int p1), .val (.int p2), .val (.int p3), .val (.int p4), .val (.int p5), .val (.int k1), .val (.int k2), .val (.int s1y), .unset, .unset, .unset, .unset, .unset] [(.int (if (p5 &&& (4 : Int32)) = (0 : Int32) then p4 else p3))])) (DoneW s (Q_rm0 Z p0 p1 p2 p3 p4 p5 cs fv ic cl h0 n0) room_1.cells room_1.slots) by
    by_cases hc431 : (p5 &&& (4 : Int32)) = (0 : Int32)
    · rw [if_pos hc431] at hm432
      refine Go.via (fun _ => XS.ifYes X0.here hx rfl (pc0 := 51) (pc' := 58) rfl (hb hby at_51) rfl ((if0 _ _).trans (teq (hc431 : (p5 &&& (4 : Int32)) = (0 : Int32))).1) (by decide) (by decide)) ?_
      show Go p e below (s₁.setTop (mkF m 58 #[.val (.int p0), .val (.int p1), .val (.int p2), .val (.int p3), .val (.int p4), .val (.int p5), .val (.int k1), .val (.int k2), .val (.int s1y), .unset, .unset, .unset, .unset, .unset] [])) _
      refine Go.via (fun _ => XS.iload X0.here hx rfl (hb hby at_58) rfl) ?_
      exact hm432
    · rw [if_neg hc431] at hm432
      refine Go.via (fun _ => XS.ifNo X0.here hx rfl (hb hby at_51) rfl ((if0 _ _).trans (feq (hc431 : ¬ ((p5 &&& (4 : Int32)) = (0 : Int32)))).1)) ?_
      show Go p e below (s₁.setTop (mkF m 54 #[.val (.int p0), .val (.int p1), .val (.int p2), .val (.int p3), .val (.int p4), .val (.int p5), .val (.int k1), .val (.int k2), .val (.int s1y), .unset, .unset, .unset, .unset, .unset] [])) _
      refine Go.via (fun _ => XS.iloadN X0.here hx rfl (hb hby at_54) rfl) ?_
      refine Go.via (fun _ => XS.goto X0.here hx rfl (pc0 := 55) (pc' := 60) rfl (hb hby at_55) (by decide) (by decide)) ?_
      exact hm432
  show Go p e below (s₁.setTop (mkF m 60 #[.val (.int p0), .val (.int p1), .val (.int p2), .val (.int p3), .val (.int p4), .val (.int p5), .val (.int k1), .val (.int k2), .val (.int s1y), .unset, .unset, .unset, .unset, .unset] [(.int (if (p5 &&& (4 : Int32)) = (0 : Int32) then p4 else p3))])) _
  generalize hv_s2y : (if (p5 &&& (4 : Int32)) = (0 : Int32) then p4 else p3) = s2y
  show Go p e below (s₁.setTop (mkF m 60 #[.val (.int p0), .val (.int p1), .val (.int p2), .val (.int p3), .val (.int p4), .val (.int p5), .val (.int k1), .val (.int k2), .val (.int s1y), .unset, .unset, .unset, .unset, .unset] [(.int s2y)])) _
  refine Go.via (fun _ => XS.istore X0.here hx rfl (hb hby at_60) rfl (l' := #[.val (.int p0), .val (.int p1), .val (.int p2), .val (.int p3), .val (.int p4), .val (.int p5), .val (.int k1), .val (.int k2), .val (.int s1y), .val (.int s2y), .unset, .unset, .unset, .unset]) rfl) ?_
  show Go p e below (s₁.setTop (mkF m 62 #[.val (.int p0), .val (.int p1), .val (.int p2), .val (.int p3), .val (.int p4), .val (.int p5), .val (.int k1), .val (.int k2), .val (.int s1y), .val (.int s2y), .unset, .unset, .unset, .unset] [])) _
  obtain ⟨T433, h433, X433, e433, E433, A433, D433, -, st433⟩ := newO X0 hx hZ hown (tw hw 1 rfl) (tw hw 2 rfl) (tw hw 3 rfl) e0 (g := (mkF m 62 #[.val (.int p0), .val (.int p1), .val (.int p2), .val (.int p3), .val (.int p4), .val (.int p5), .val (.int k1), .val (.int k2), .val (.int s1y), .val (.int s2y), .unset, .unset, .unset, .unset] [])) rfl (hb hby at_62) (by decide) (by decide)
  obtain ⟨b433, g433⟩ : ∃ z, z = h0.size := ⟨_, rfl⟩
  rw [← g433] at A433 D433 st433
  have ge434 : n0 ≤ b433 := Nat.le_trans Z0 (Nat.le_of_eq g433.symm)
  have sz435 : h0.size ≤ b433 := Nat.le_trans (Keep.refl h0 []).1 (Nat.le_of_eq g433.symm)
  refine Go.via (st433) ?_
  clear st433
  have f436 : Fld Z h433 b433 cCD "blockSize" "J" (.long (0 : Int64)) := D433 (Or.inr (tw hw 102 rfl)) (ty := .long) (by decide)
  have f437 : Fld Z h433 b433 cCD "signature1" "Ljava/lang/String;" .null := D433 (Or.inr (tw hw 104 rfl)) (ty := (.object cST)) (by decide)
  have f438 : Fld Z h433 b433 cCD "signature2" "Ljava/lang/String;" .null := D433 (Or.inr (tw hw 106 rfl)) (ty := (.object cST)) (by decide)
  clear X0 e0
  show Go p e below (T433.setTop (mkF m 65 #[.val (.int p0), .val (.int p1), .val (.int p2), .val (.int p3), .val (.int p4), .val (.int p5), .val (.int k1), .val (.int k2), .val (.int s1y), .val (.int s2y), .unset, .unset, .unset, .unset] [(.ref b433)])) _
  refine Go.via (fun _ => XS.dup X433.here hx rfl (hb hby at_65) rfl rfl) ?_
  refine Go.via (X433.ldc2Long hx hown (mvT hZ (tw hw 4 rfl)) (g := (mkF m 66 #[.val (.int p0), .val (.int p1), .val (.int p2), .val (.int p3), .val (.int p4), .val (.int p5), .val (.int k1), .val (.int k2), .val (.int s1y), .val (.int s2y), .unset, .unset, .unset, .unset] [(.ref b433), (.ref b433)])) rfl (hb hby at_66)) ?_
  show Go p e below (T433.setTop (mkF m 69 #[.val (.int p0), .val (.int p1), .val (.int p2), .val (.int p3), .val (.int p4), .val (.int p5), .val (.int k1), .val (.int k2), .val (.int s1y), .val (.int s2y), .unset, .unset, .unset, .unset] [(.long (3 : Int64)), (.ref b433), (.ref b433)])) _
  refine Go.via (fun _ => XS.iload X433.here hx rfl (hb hby at_69) rfl) ?_
  refine Go.via (fun _ => XS.lshl X433.here hx rfl (hb hby at_71) rfl) ?_
  show Go p e below (T433.setTop (mkF m 72 #[.val (.int p0), .val (.int p1), .val (.int p2), .val (.int p3), .val (.int p4), .val (.int p5), .val (.int k1), .val (.int k2), .val (.int s1y), .val (.int s2y), .unset, .unset, .unset, .unset] [(.long ((3 : Int64) <<< (k1 &&& 0x3f).toInt64)), (.ref b433), (.ref b433)])) _
  refine Go.via (fun _ => XS.iloadN X433.here hx rfl (hb hby at_72) rfl) ?_
  have o439 : Old Z n0 h433 := (P0.ext E433)
  have z441 : n0 ≤ h433.size := (Nat.le_trans Z0 E433.1)
  have em442 : Em Z s.vm h433 ["signature 2", "signature 1"] := (I0.ext E433)
  have hk443 : _ ≤ h433.size := (Nat.le_trans hk0 E433.1)
  obtain ⟨r440, _, ⟨T440, L440, k440, n440⟩, -, X440, h2440, gS440, ⟨Lc440, hQ440, l440, y440, z440⟩, st440⟩ := Jvm.RoadKit.callSS X433 hx (y := (⟨cLAW, "sig", "(I)Ljava/lang/String;"⟩ : MethodName)) hown (mvT hZ (tw hw 5 rfl)) (mvT hZ (tw hw 6 rfl)) (mvT hZ (tw hw 7 rfl)) (mvT hZ (tw hw 8 rfl)) (by decide) (backOfV (W := 4) (V := V_rmSg0 Z p1 cs h433) (rmSg0 l Z a0 hw [] p1 cs h433 n0 z441 o439 zCS hcs hh7 hcw) hZ (tw hw 8 rfl) (tw hw 7 rfl) (by decide) (by decide) (fun vm' hW => ⟨Em.still em442 hW.interned_eq (w39 hW.wide), trivial⟩)) (g := (mkF m 73 #[.val (.int p0), .val (.int p1), .val (.int p2), .val (.int p3), .val (.int p4), .val (.int p5), .val (.int k1), .val (.int k2), .val (.int s1y), .val (.int s2y), .unset, .unset, .unset, .unset] [(.int p1), (.long ((3 : Int64) <<< (k1 &&& 0x3f).toInt64)), (.ref b433), (.ref b433)])) rfl (by rw [hml]; rfl) (argsL := [(.int p1)]) (rest := [(.long ((3 : Int64) <<< (k1 &&& 0x3f).toInt64)), (.ref b433), (.ref b433)]) (lenOf pd__28I_29Ljava_2flang_2fString_3b rfl) rfl (by show 2 * 0 + _ ≤ _; exact Nat.le_of_eq rfl) (hb hby at_73) (fun _ _ => ⟨rfl, e433, (by decide : 1 + 4 ≤ _), (by decide : 3 + 8 ≤ _)⟩)
  dsimp only [Pt.U, Pt.locs, Pt.cells, Pt.slots] at X440 l440 y440 z440 st440 hQ440 h2440 gS440
  rw [l440, y440, z440] at X440
  clear l440 y440 z440
  obtain ⟨b444, v445, hr440, N440q, K440q, fz_b444, f446, f447, f448, f449, I440⟩ := hQ440
  rw [hr440] at st440
  clear hr440
  have N440 := Fr.app N0 N440q
  refine Go.via (fun _ kQ => st440.trans kQ) ?_
  clear st440
  have ne450 : b433 ≠ b444 := Nat.ne_of_lt (Nat.lt_of_lt_of_le A433.lt fz_b444)
  have ge451 : n0 ≤ b444 := Nat.le_trans z441 fz_b444
  have k453 : Keep h0 h433 [] := ((Keep.refl h0 []).ext E433)
  have sz452 : h0.size ≤ b444 := Nat.le_trans k453.1 fz_b444
  have e440 : T440.heap = T440.heap := rfl
  have f454 : Exa Z T440.heap b444 cST := f446
  have f455 : Fld Z T440.heap b444 cST "coder" "B" (.int (0 : Int32)) := f447
  have f456 : Fld Z T440.heap b444 cST "value" "[B" (.ref v445) := f448
  have f457 : Ia Z T440.heap v445 .byte (sgF p1) := f449
  have f458 : Exa Z T440.heap b433 cCD := (A433.keep K440q)
  have ne459 : v445 ≠ b433 := Ia.neE (a0 := a0) f457 f458 (tw hw 2 rfl)
  have ne460 : v445 ≠ b444 := Ia.neE (a0 := a0) f457 f454 (tw hw 13 rfl)
  obtain ⟨X440r, hS440, hZ, hown⟩ := rebS hS0 (Nat.le_trans hk443 (Nat.le_of_eq (congrArg Array.size (Eq.symm e433)))) X440 h2440 gS440 hZ hown
  clear X440 h2440 gS440
  clear X433 e433
  show Go p e below (T440.setTop (mkF m 76 #[.val (.int p0), .val (.int p1), .val (.int p2), .val (.int p3), .val (.int p4), .val (.int p5), .val (.int k1), .val (.int k2), .val (.int s1y), .val (.int s2y), .unset, .unset, .unset, .unset] [(.ref b444), (.long ((3 : Int64) <<< (k1 &&& 0x3f).toInt64)), (.ref b433), (.ref b433)])) _
  refine Go.via (fun _ => XS.iloadN X440r.here hx rfl (hb hby at_76) rfl) ?_
  have o461 : Old Z n0 T440.heap := (o439.keep K440q all0)
  have z463 : n0 ≤ T440.heap.size := (Nat.le_trans z441 K440q.1)
  obtain ⟨r462, _, ⟨T462, L462, k462, n462⟩, -, X462, h2462, gS462, ⟨Lc462, hQ462, l462, y462, z462⟩, st462⟩ := Jvm.RoadKit.callSS X440r hx (y := (⟨cLAW, "sig", "(I)Ljava/lang/String;"⟩ : MethodName)) hown (mvT hZ (tw hw 5 rfl)) (mvT hZ (tw hw 6 rfl)) (mvT hZ (tw hw 7 rfl)) (mvT hZ (tw hw 8 rfl)) (by decide) (backOfV (W := 5) (V := V_rmSg0 Z p3 cs T440.heap) (rmSg0 l Z a0 hw [] p3 cs T440.heap n0 z463 o461 zCS hcs hh7 hcw) hZ (tw hw 8 rfl) (tw hw 7 rfl) (by decide) (by decide) (fun vm' hW => ⟨Em.still I440 hW.interned_eq (w39 hW.wide), trivial⟩)) (g := (mkF m 77 #[.val (.int p0), .val (.int p1), .val (.int p2), .val (.int p3), .val (.int p4), .val (.int p5), .val (.int k1), .val (.int k2), .val (.int s1y), .val (.int s2y), .unset, .unset, .unset, .unset] [(.int p3), (.ref b444), (.long ((3 : Int64) <<< (k1 &&& 0x3f).toInt64)), (.ref b433), (.ref b433)])) rfl (by rw [hml]; rfl) (argsL := [(.int p3)]) (rest := [(.ref b444), (.long ((3 : Int64) <<< (k1 &&& 0x3f).toInt64)), (.ref b433), (.ref b433)]) (lenOf pd__28I_29Ljava_2flang_2fString_3b rfl) rfl (by show 2 * 0 + _ ≤ _; exact Nat.le_of_eq rfl) (hb hby at_77) (fun _ _ => ⟨rfl, e440, (by decide : 5 + 4 ≤ _), (by decide : 11 + 8 ≤ _)⟩)
  dsimp only [Pt.U, Pt.locs, Pt.cells, Pt.slots] at X462 l462 y462 z462 st462 hQ462 h2462 gS462
  rw [l462, y462, z462] at X462
  clear l462 y462 z462
  obtain ⟨b464, v465, hr462, N462q, K462q, fz_b464, f466, f467, f468, f469, I462⟩ := hQ462
  rw [hr462] at st462
  clear hr462
  have N462 := Fr.app N440 N462q
  refine Go.via (fun _ kQ => st462.trans kQ) ?_
  clear st462
  have ne470 : b433 ≠ b464 := Nat.ne_of_lt (Nat.lt_of_lt_of_le f458.lt fz_b464)
  have ne471 : b444 ≠ b464 := Nat.ne_of_lt (Nat.lt_of_lt_of_le f454.lt fz_b464)
  have ne472 : v445 ≠ b464 := Nat.ne_of_lt (Nat.lt_of_lt_of_le f457.lt fz_b464)
  have ge473 : n0 ≤ b464 := Nat.le_trans z463 fz_b464
  have k475 : Keep h0 T440.heap [] := (k453.trans K440q all0)
  have sz474 : h0.size ≤ b464 := Nat.le_trans k475.1 fz_b464
  have e462 : T462.heap = T462.heap := rfl
  have f476 : Exa Z T462.heap b464 cST := f466
  have f477 : Fld Z T462.heap b464 cST "coder" "B" (.int (0 : Int32)) := f467
  have f478 : Fld Z T462.heap b464 cST "value" "[B" (.ref v465) := f468
  have f479 : Ia Z T462.heap v465 .byte (sgF p3) := f469
  have f480 : Exa Z T462.heap b433 cCD := (f458.keep K462q)
  have ne481 : v465 ≠ b433 := Ia.neE (a0 := a0) f479 f480 (tw hw 2 rfl)
  have f482 : Exa Z T462.heap b444 cST := (f454.keep K462q)
  have ne483 : v465 ≠ b444 := Ia.neE (a0 := a0) f479 f482 (tw hw 13 rfl)
  have ne484 : v465 ≠ b464 := Ia.neE (a0 := a0) f479 f476 (tw hw 13 rfl)
  obtain ⟨X462r, hS462, hZ, hown⟩ := rebS hS440 (Nat.le_trans (Nat.le_refl _) (Nat.le_of_eq (congrArg Array.size (Eq.symm e440)))) X462 h2462 gS462 hZ hown
  clear X462 h2462 gS462
  clear X440r e440
  show Go p e below (T462.setTop (mkF m 80 #[.val (.int p0), .val (.int p1), .val (.int p2), .val (.int p3), .val (.int p4), .val (.int p5), .val (.int k1), .val (.int k2), .val (.int s1y), .val (.int s2y), .unset, .unset, .unset, .unset] [(.ref b464), (.ref b444), (.long ((3 : Int64) <<< (k1 &&& 0x3f).toInt64)), (.ref b433), (.ref b433)])) _
  have f485 : Fld Z T462.heap b433 cCD "blockSize" "J" (.long (0 : Int64)) := ((f436.keep K440q nin0).keep K462q nin0)
  have f486 : Fld Z T462.heap b433 cCD "signature1" "Ljava/lang/String;" .null := ((f437.keep K440q nin0).keep K462q nin0)
  have f487 : Fld Z T462.heap b433 cCD "signature2" "Ljava/lang/String;" .null := ((f438.keep K440q nin0).keep K462q nin0)
  have f488 : Fld Z T462.heap b444 cST "coder" "B" (.int (0 : Int32)) := (f455.keep K462q nin0)
  have f489 : Fld Z T462.heap b444 cST "value" "[B" (.ref v445) := (f456.keep K462q nin0)
  have f490 : Ia Z T462.heap v445 .byte (sgF p1) := (f457.keep K462q nin0)
  have o491 : Old Z n0 T462.heap := (o461.keep K462q all0)
  have z493 : n0 ≤ T462.heap.size := (Nat.le_trans z463 K462q.1)
  obtain ⟨r492, _, ⟨T492, L492, k492, n492⟩, -, X492, h2492, gS492, ⟨Lc492, hQ492, l492, y492, z492⟩, st492⟩ := X462r.specialBackS hx (y := (⟨cCD, "<init>", "(JLjava/lang/String;Ljava/lang/String;)V"⟩ : MethodName)) rfl hown (mvT hZ (tw hw 45 rfl)) (mvT hZ (tw hw 46 rfl)) (mvT hZ (tw hw 47 rfl)) (by decide) (backOfV (W := 1) (V := V_rmDc Z b433 ((3 : Int64) <<< (k1 &&& 0x3f).toInt64) b444 b464 v445 v465 (sgF p1) (sgF p3) cs fv T462.heap) (rmDc l Z a0 hw [] b433 ((3 : Int64) <<< (k1 &&& 0x3f).toInt64) b444 b464 v445 v465 (sgF p1) (sgF p3) cs fv T462.heap n0 z493 f480 f485 f486 f487 f482 f488 f489 f490 f476 f477 f478 f479 o491 zCS zF ge434 (own_Sg _) (own_Sg _) (own_Bv (own_k31 hv_k1)) hcs hfv) hZ (tw hw 47 rfl) (tw hw 3 rfl) (by decide) (by decide) (fun vm' hW => ⟨Em.still I462 hW.interned_eq (w39 hW.wide), trivial⟩)) (g := (mkF m 80 #[.val (.int p0), .val (.int p1), .val (.int p2), .val (.int p3), .val (.int p4), .val (.int p5), .val (.int k1), .val (.int k2), .val (.int s1y), .val (.int s2y), .unset, .unset, .unset, .unset] [(.ref b464), (.ref b444), (.long ((3 : Int64) <<< (k1 &&& 0x3f).toInt64)), (.ref b433), (.ref b433)])) rfl (by rw [hml]; rfl) (Steps.refl _) (a := b433) (argsL := [(.long ((3 : Int64) <<< (k1 &&& 0x3f).toInt64)), (.ref b444), (.ref b464)]) (rest := [(.ref b433)]) (lenOf pd__28JLjava_2flang_2fString_3bLjava_2flang_2fString_3b_29V rfl) rfl (by show 2 * 0 + _ ≤ _; exact Nat.le_of_eq rfl) (hb hby at_80) (fun _ _ => ⟨rfl, e462, (by decide : 9 + 4 ≤ _), (by decide : 19 + 96 ≤ _)⟩)
  dsimp only [Pt.U, Pt.locs, Pt.cells, Pt.slots] at X492 l492 y492 z492 st492 hQ492 h2492 gS492
  rw [l492, y492, z492] at X492
  clear l492 y492 z492
  obtain ⟨hr492, N492q, K492q, f494, f495, f496, f497, I492⟩ := hQ492
  rw [hr492] at st492
  clear hr492
  have N492 := Fr.app N462 N492q
  refine Go.via (fun _ kQ => st492.trans kQ) ?_
  clear st492
  have e492 : T492.heap = T492.heap := rfl
  have f498 : Exa Z T492.heap b433 cCD := f494
  have f499 : Fld Z T492.heap b433 cCD "blockSize" "J" (.long ((3 : Int64) <<< (k1 &&& 0x3f).toInt64)) := f495
  have f500 : Fld Z T492.heap b433 cCD "signature1" "Ljava/lang/String;" (.ref b444) := f496
  have f501 : Fld Z T492.heap b433 cCD "signature2" "Ljava/lang/String;" (.ref b464) := f497
  obtain ⟨X492r, hS492, hZ, hown⟩ := rebS hS462 (Nat.le_trans (Nat.le_refl _) (Nat.le_of_eq (congrArg Array.size (Eq.symm e462)))) X492 h2492 gS492 hZ hown
  clear X492 h2492 gS492
  clear X462r e462
  show Go p e below (T492.setTop (mkF m 83 #[.val (.int p0), .val (.int p1), .val (.int p2), .val (.int p3), .val (.int p4), .val (.int p5), .val (.int k1), .val (.int k2), .val (.int s1y), .val (.int s2y), .unset, .unset, .unset, .unset] [(.ref b433)])) _
  refine Go.via (fun _ => XS.astore X492r.here hx rfl (hb hby at_83) rfl rfl (l' := #[.val (.int p0), .val (.int p1), .val (.int p2), .val (.int p3), .val (.int p4), .val (.int p5), .val (.int k1), .val (.int k2), .val (.int s1y), .val (.int s2y), .val (.ref b433), .unset, .unset, .unset]) rfl) ?_
  have z730 : n0 ≤ T492.heap.size := (Nat.le_trans z493 K492q.1)
  have k731 : Keep h0 T492.heap [] := ((k475.trans K462q all0).trans K492q (allS (Or.inr sz435) all0))
  have o732 : Old Z n0 T492.heap := (o491.keep K492q (allS ge434 all0))
  have f733 : Exa Z T492.heap b444 cST := (f482.keep K492q)
  have f734 : Fld Z T492.heap b444 cST "coder" "B" (.int (0 : Int32)) := (f488.keep K492q (ninS (Ne.symm ne450) nin0))
  have f735 : Fld Z T492.heap b444 cST "value" "[B" (.ref v445) := (f489.keep K492q (ninS (Ne.symm ne450) nin0))
  have f736 : Ia Z T492.heap v445 .byte (sgF p1) := (f490.keep K492q (ninS ne459 nin0))
  have f737 : Exa Z T492.heap b464 cST := (f476.keep K492q)
  have f738 : Fld Z T492.heap b464 cST "coder" "B" (.int (0 : Int32)) := (f477.keep K492q (ninS (Ne.symm ne470) nin0))
  have f739 : Fld Z T492.heap b464 cST "value" "[B" (.ref v465) := (f478.keep K492q (ninS (Ne.symm ne470) nin0))
  have f740 : Ia Z T492.heap v465 .byte (sgF p3) := (f479.keep K492q (ninS ne481 nin0))
  exact rm_rm0_l85_1 l Z a0 hw p0 p1 p2 p3 p4 p5 cs fv ic cl h0 n0 zCS zF zH zC hcs hfv hh7 hcw hA hca hx hby hlk hml Bd.returns T492 _ T492.heap T492.vm _ k1 k2 s1y s2y b433 b444 b464 v445 v465 X492r e492 N492 z730 k731 hZ hown hS492 (Nat.le_refl _) I492 o732 f498 f499 f500 f501 f733 f734 f735 f736 f737 f738 f739 f740 hv_k1 hv_k2
theorem own_isr {args : Array Value} {s : State} {t : Term} (h : (Jvm.Cond.isRef t).value args s none s [] = some true) : ∃ v, t.eval args s none [] s = some v ∧ (v = .null ∨ ∃ a : Addr, v = .ref a) := by
  cases ev : t.eval args s none [] s with
  | none => simp [Cond.value, ev] at h
  | some v => cases v <;> simp [Cond.value, ev] at h ⊢
theorem own_isi {args : Array Value} {s : State} {t : Term} (h : (Jvm.Cond.isInt t).value args s none s [] = some true) : ∃ v, t.eval args s none [] s = some (.int v) := by
  cases ev : t.eval args s none [] s with
  | none => simp [Cond.value, ev] at h
  | some v => cases v <;> simp [Cond.value, ev] at h ⊢
theorem own_nz {args : Array Value} {s : State} {t : Term} {n : Int32} (ev : t.eval args s none [] s = some (.int n)) (h : (Jvm.Cond.not (Jvm.Cond.eq t (.int 0))).value args s none s [] = some true) : ¬ (n = (0 : Int32)) := by
  intro q; subst q; simp [Cond.value, ev, Term.eval] at h
theorem own_ei {args : Array Value} {s : State} {idx : List Nat} {t : Term} {n : Int32} (h : (Jvm.Cond.eq t (.int n)).value args s none s idx = some true) : t.eval args s none idx s = some (.int n) := by
  obtain ⟨x, y, h1, h2, k1, k2⟩ := cmp_v (Or.inl h)
  have e : y = .int n := Option.some.inj (h2.symm.trans (Term.int_eval n))
  subst e
  obtain ⟨z, rfl⟩ : ∃ z, x = .int z := k2
  have q := gotT (P := z = n) (by simp [Cond.value, h1, h2]) h
  rw [h1, q]
theorem own_rn {args : Array Value} {s : State} {t : Term} {a : Addr} {c : Cell} {ty : FieldType} {n : Int32} (ev : t.eval args s none [] s = some (.ref a)) (A : Arr s s.heap a c ty) (h : (Jvm.Cond.eq (.length t) (.int n)).value args s none s [] = some true) : c.slots.size.toInt32 = n ∧ c.slots.size < 2147483648 := by
  have e := own_ei h
  have ha : s.arrayAt? a = some c := A.fin (Vm.Alike.refl _)
  simp only [Term.eval, ev, ha, Option.bind_eq_bind, Option.bind_some] at e
  split at e
  · rename_i q; exact ⟨by simpa using e, q⟩
  · cases e
theorem own_128 {i : Int32} (h1 : ¬ i < (-128 : Int32)) (h2 : ¬ (127 : Int32) < i) : (i + (128 : Int32)).toNatClampNeg < 256 ∧ ¬ (i + (128 : Int32)) < 0 ∧ (i + (128 : Int32)) = ((i + (128 : Int32)).toNatClampNeg).toInt32 := by
  rw [Int32.lt_iff_toInt_lt] at h1 h2
  have e1 : (-128 : Int32).toInt = -128 := rfl
  have e2 : (127 : Int32).toInt = 127 := rfl
  have e3 : (128 : Int32).toInt = 128 := rfl
  have e4 : (0 : Int32).toInt = 0 := rfl
  have q := c_iadd i 128
  have r := rng32 (i + (128 : Int32))
  have t : (i + (128 : Int32)).toInt = i.toInt + 128 := by omega
  have u : (i + (128 : Int32)).toNatClampNeg = (i + (128 : Int32)).toInt.toNat := rfl
  refine ⟨by omega, by rw [Int32.lt_iff_toInt_lt]; omega, ?_⟩
  have e5 : ((i + (128 : Int32)).toInt.toNat).toInt32.toInt = ((i + (128 : Int32)).toInt.toNat : Int) := Int32.toInt_ofNat_small (by omega)
  rw [u]; exact Int32.toInt_inj.mp (by rw [e5]; omega)
theorem own_ic {args : Array Value} {s : State} {ca : Addr} {cl : Cell} (ev : ∀ idx, (Term.static cIC "cache" "[Ljava/lang/Integer;").eval args s none idx s = some (.ref ca)) (A : Arr s s.heap ca cl (.object cIN)) {B : Jvm.Cond}
    (hall : (Jvm.Cond.all (Term.static cIC "cache" "[Ljava/lang/Integer;") (Jvm.Cond.and (Jvm.Cond.exactly (Term.elem (Term.static cIC "cache" "[Ljava/lang/Integer;") (Term.index 0)) cIN) B)).value args s none s [] = some true)
    (hs : cl.slots.size = 256) (i : Int32) (h1 : ¬ i < (-128 : Int32)) (h2 : ¬ (127 : Int32) < i) : ∃ bb : Addr, (¬ ((i + (128 : Int32)) < 0 ∨ cl.slots.size ≤ (i + (128 : Int32)).toNatClampNeg)) ∧ cl.slots[(i + (128 : Int32)).toNatClampNeg]? = some (.ref bb) ∧ Exa s s.heap bb cIN := by
  obtain ⟨r1, r2, r3⟩ := own_128 h1 h2
  have ha : s.arrayAt? ca = some cl := A.fin (Vm.Alike.refl _)
  obtain ⟨q1, q2⟩ := and_e (Cond.all_elim (ev []) ha hall (i + (128 : Int32)).toNatClampNeg (by omega))
  obtain ⟨b, eb⟩ := exa_v q1
  have ex := exa_at eb q1
  have ei : (Term.index 0).eval args s none [(i + (128 : Int32)).toNatClampNeg] s = some (.int ((i + (128 : Int32)).toNatClampNeg).toInt32) := Term.index_eval _
  have eel := elem_in (cl := cl) eb (ev _) ei A.1
  rw [← r3] at eel
  refine ⟨b, ?_, eel.2, ex⟩
  rintro (q | q)
  · exact r2 q
  · omega
set_option maxRecDepth 65536 in
set_option maxHeartbeats 40000000 in
theorem comes_1 {Post : Tables → Env → Array Value → State → Outcome → State → Prop} (hpost : ∀ tb e args s v u, (limb_1_1.after args s (.returned v) u = true ∧ limb_1_2.after args s (.returned v) u = true ∧ True) → FramedW s (.returned v) u (Jvm.fieldLocs frame_1_writes args s ++ Jvm.arrayLocs frame_1_arrays args s ++ Jvm.staticLocs frame_1_statics s) 48 3264 → Post tb e args s (.returned v) u) :
    ArmFor flags0 classFile x code maxLocals ret World_1 tables_1 room_1 Calls_1 rest_1 Pre_1 Post := by
  intro l hfl _ _ p e ha hc hk s m args below hf hA hF happ hP
  obtain ⟨hcalls, hrest, hpre⟩ := hP
  obtain ⟨-, -, -, hnamed, -, -, -, hat⟩ := (Spec.applies_iff hf).mp happ
  obtain ⟨hg, hn⟩ := and_e (Cond.before_iff.mp (show (Jvm.Cond.and given_1 narrow_1).before args s = true from hpre))
  obtain ⟨g0, r0⟩ := and_e hg
  obtain ⟨q0, r1⟩ := and_e r0
  obtain ⟨q1, r2⟩ := and_e r1
  obtain ⟨q2, r3⟩ := and_e r2
  obtain ⟨q3, r4⟩ := and_e r3
  obtain ⟨q4, r5⟩ := and_e r4
  have q5 := r5
  obtain ⟨w0, w1, w2, w3, w4, w5, rfl⟩ : ∃ w0 w1 w2 w3 w4 w5 : Value, args = #[w0, w1, w2, w3, w4, w5] := by
    have hs : args.size = 6 := by simpa [Cond.value, given_1] using g0
    obtain ⟨L⟩ := args
    match L, hs with
    | [w0, w1, w2, w3, w4, w5], _ => exact ⟨w0, w1, w2, w3, w4, w5, rfl⟩
  have hw := fun d (hd : d ∈ tables_1) => atoms_spec (ws := Jvm.Cond.code x code maxLocals ret :: tables_1) hat d (List.mem_cons_of_mem _ hd)
  have hfit : Fit s := fun {y c} hc i hi => by
    obtain ⟨ha, rfl⟩ := Array.getElem?_eq_some_iff.mp hc
    have q := List.all_eq_true.mp ((Array.all_eq_true_iff_forall_mem.mp hF) _ (Array.getElem_mem ha)) i (List.mem_range.mpr hi)
    simpa [Array.getElem?_eq_getElem hi] using q
  obtain ⟨i0, ei0⟩ := is_v q0
  obtain rfl : w0 = (.int i0) := Option.some.inj ei0
  obtain ⟨i1, ei1⟩ := is_v q1
  obtain rfl : w1 = (.int i1) := Option.some.inj ei1
  obtain ⟨i2, ei2⟩ := is_v q2
  obtain rfl : w2 = (.int i2) := Option.some.inj ei2
  obtain ⟨i3, ei3⟩ := is_v q3
  obtain rfl : w3 = (.int i3) := Option.some.inj ei3
  obtain ⟨i4, ei4⟩ := is_v q4
  obtain rfl : w4 = (.int i4) := Option.some.inj ei4
  obtain ⟨i5, ei5⟩ := is_v q5
  obtain rfl : w5 = (.int i5) := Option.some.inj ei5
  obtain ⟨hsets, hown0⟩ := atoms_of _ (rest_1_c_eq ▸ (show rest_1_c.before _ s = true from hrest))
  obtain ⟨cs, ecs⟩ := own_isi (Cond.before_iff.mp (hsets _ (List.mem_of_getElem? (i := 1) rfl)))
  have zCS := Sta.start ecs (Or.inl (hsets _ (List.mem_of_getElem? (i := 0) rfl)))
  have hcs := own_nz ecs (Cond.before_iff.mp (hsets _ (List.mem_of_getElem? (i := 2) rfl)))
  have hcw : Jvm.Lit.compactW.before _ s = true := (hsets _ (List.mem_of_getElem? (i := 2) rfl))
  obtain ⟨fv, efv, hfv⟩ := own_isr (Cond.before_iff.mp (hsets _ (List.mem_of_getElem? (i := 8) rfl)))
  have zF := Sta.start efv (Or.inl (hsets _ (List.mem_of_getElem? (i := 7) rfl)))
  have zH := Sta.start (own_ei (Cond.before_iff.mp (hsets _ (List.mem_of_getElem? (i := 12) rfl)))) (Or.inl (hsets _ (List.mem_of_getElem? (i := 10) rfl)))
  obtain ⟨ic, eic⟩ := arr_v (Cond.before_iff.mp (hsets _ (List.mem_of_getElem? (i := 13) rfl)))
  obtain ⟨cl, hA⟩ := Arr.start eic (Cond.before_iff.mp (hsets _ (List.mem_of_getElem? (i := 13) rfl)))
  have zC := Sta.start eic (Or.inr ⟨(hw _ (List.mem_of_getElem? (i := 131) rfl)), (hsets _ (List.mem_of_getElem? (i := 11) rfl))⟩)
  have lca := own_rn eic hA (Cond.before_iff.mp (hsets _ (List.mem_of_getElem? (i := 15) rfl)))
  have lcs : cl.slots.size = 256 := by have q := lca.1; have q2 := congrArg Int32.toInt q; rw [Int32.toInt_ofNat_small lca.2] at q2; have : (256 : Int32).toInt = 256 := rfl; omega
  have hca := own_ic (fun idx => eic) hA (Cond.before_iff.mp (hsets _ (List.mem_of_getElem? (i := 16) rfl))) lcs
  obtain ⟨n, o, h1, h2, h3, _, L, rfl, ⟨rfl, N, -⟩, hq⟩ := rm0 l s _ hw tables_1 i0 i1 i2 i3 i4 i5 cs fv ic cl s.heap s.heap.size (Nat.le_refl _) (Old.start s) zCS zF zH zC hcs hfv (hcalls.1 _ (List.mem_of_getElem? (i := 2) rfl)) hcw hA hca p e ha hc hk s m _ below hf ((Spec.applies_iff_loose hf).mp happ).1 ⟨rfl, State.Warmed39.refl s, rfl, ⟨Em.begin, trivial⟩⟩ trivial
  refine ⟨n, _, h1, h2, h3, hpost _ _ _ _ _ _ ⟨Cond.after_iff.mpr rfl, Cond.after_iff.mpr (eq_i res_at (Term.int_eval (1)) rfl), trivial⟩ ⟨hq.1, hq.2.1, hq.2.2.1, (hq.2.2.2.sift fun y hy => Or.inr (N y hy)).mono (by decide) (by decide)⟩⟩
theorem main_1_1 : Claimed_1_1 := comes_1 fun _ _ _ _ _ _ h hF => ⟨h.1, hF⟩
theorem main_1_2 : Claimed_1_2 := comes_1 fun _ _ _ _ _ _ h hF => ⟨h.2.1, hF⟩
end Jvm.Pilot.@@N@@
namespace Jvm.Pilot.@@N@@
open Jvm Jvm.ClassFile Sem Op Lib Jvm.Free Jvm.Stand Jvm.Pilot.@@N@@.Jvm.D
/-! MADE BY PROGRAM (witnessworld.py) out of the Statement's table words and the real class files: 25 classes; the members and pool entries that the words name. The judged class is class 1, her method 1. -/
namespace start1
open Jvm.ClassFile
def u (s : String) : CpInfo := .utf8 (stringToUtf16 s)
/-- a pool by its gaps: so many unusable entries, then the entry; so many at the end -/
def gap : Nat → List CpInfo → List CpInfo
  | 0, r => r
  | n + 1, r => .unusable :: gap n r
def poolList (es : List (Nat × CpInfo)) (last : Nat) : List CpInfo := es.foldr (fun e r => gap e.1 (e.2 :: r)) (gap last [])
def pool (es : List (Nat × CpInfo)) (last : Nat) : Array CpInfo := ⟨poolList es last⟩
def fileOf (pool : Array CpInfo) (this : Nat) (attrs : Array Attribute := #[]) (ms : Array MethodInfo := #[]) (fl : Nat := 33) (sup : Nat := 0) (ifs : Array Nat := #[]) (fds : Array FieldInfo := #[]) : ClassFile where
  minorVersion := 0
  majorVersion := 65
  constantPool := pool
  accessFlags := fl
  thisClass := this
  superClass := sup
  interfaces := ifs
  fields := fds
  methods := ms
  attributes := attrs
def plain (name : String) (sup : Option ClassId) : Class where
  name := name
  kind := .ordinary
  loader := none
  accessFlags := 33
  super := sup
  interfaces := #[]
  cf := none
  fields := #[]
  methods := #[]
  instanceTypes := #[]
  staticTypes := #[]
  resolved := #[]
  callSites := []
  init := .initialized
  statics := none
  mirror := none

def pool0 : Array CpInfo := pool [(5, u "<init>"), (0, u "()V"), (1, .class_ 10), (1, u "java/lang/Object")] 113

def k0c0 : Code := { maxStack := 0, maxLocals := 1, code := object_method_1_code, exceptionTable := #[], attributes := #[] }
def k0m0 : Method := { name := "<init>", desc := "()V", sig := { parameters := [], returnType := none }, accessFlags := 1, code := some k0c0 }
/-- java/lang/Object -/
def k0 : Class := { plain "java/lang/Object" none with
  accessFlags := 33
  interfaces := #[]
  cf := some (fileOf pool0 8 #[] #[{ accessFlags := 1, nameIndex := 5, descriptorIndex := 6, attributes := #[] }] 33 0 #[] #[])
  fields := #[]
  methods := #[k0m0]
  instanceTypes := #[]
  staticTypes := #[]
  resolved := Array.replicate 124 none
  statics := none }

def pool1 : Array CpInfo := pool [(2, .class_ 4), (1, u "java/lang/Object"), (0, u "<init>"), (0, u "()V"), (0, .integer 2147483647), (0, .class_ 9), (0, u "com/example/relate_by_hash/relatebyhash/ctph/CtphDigest"), (0, .long 3), (1, .methodref 13 14), (0, .class_ 15), (0, .nameAndType 16 17), (0, u "com/example/relate_by_hash/relatebyhash/ctph/CtphDigestEqualsPinLaw"), (0, u "sig"), (0, u "(I)Ljava/lang/String;"), (0, .methodref 8 19), (0, .nameAndType 5 20), (0, u "(JLjava/lang/String;Ljava/lang/String;)V"), (0, .methodref 8 22), (0, .nameAndType 23 24), (0, u "equals"), (0, u "(Ljava/lang/Object;)Z"), (0, .methodref 26 27), (0, .class_ 28), (0, .nameAndType 29 30), (0, u "java/lang/Integer"), (0, u "valueOf"), (0, u "(I)Ljava/lang/Integer;"), (0, .methodref 13 32), (0, .nameAndType 33 34), (0, u "sameSig"), (0, u "(II)Z"), (0, .methodref 13 36), (0, .nameAndType 37 38), (0, u "b64"), (0, u "(I)C"), (0, .class_ 40), (0, u "java/lang/String"), (0, .methodref 39 42), (0, .nameAndType 5 43), (0, u "([C)V"), (2, u "law"), (0, u "(IIIIII)Z")] 3

def k1m0 : Method := { name := "<init>", desc := "()V", sig := { parameters := [], returnType := none }, accessFlags := 1, code := none }
def k1c1 : Code := { maxStack := 6, maxLocals := 14, code := code, exceptionTable := #[], attributes := #[] }
def k1m1 : Method := { name := "law", desc := "(IIIIII)Z", sig := { parameters := [.int, .int, .int, .int, .int, .int], returnType := some .boolean }, accessFlags := 9, code := some k1c1 }
def k1c2 : Code := { maxStack := 3, maxLocals := 1, code := method_3_code, exceptionTable := #[], attributes := #[] }
def k1m2 : Method := { name := "b64", desc := "(I)C", sig := { parameters := [.int], returnType := some .char }, accessFlags := 10, code := some k1c2 }
def k1c3 : Code := { maxStack := 3, maxLocals := 5, code := method_4_code, exceptionTable := #[], attributes := #[] }
def k1m3 : Method := { name := "sig", desc := "(I)Ljava/lang/String;", sig := { parameters := [.int], returnType := some (.object "java/lang/String") }, accessFlags := 10, code := some k1c3 }
def k1c4 : Code := { maxStack := 3, maxLocals := 4, code := method_5_code, exceptionTable := #[], attributes := #[] }
def k1m4 : Method := { name := "sameSig", desc := "(II)Z", sig := { parameters := [.int, .int], returnType := some .boolean }, accessFlags := 10, code := some k1c4 }
/-- com/example/relate_by_hash/relatebyhash/ctph/CtphDigestEqualsPinLaw -/
def k1 : Class := { plain "com/example/relate_by_hash/relatebyhash/ctph/CtphDigestEqualsPinLaw" (some 0) with
  accessFlags := 49
  interfaces := #[]
  cf := some (fileOf pool1 13 #[] #[{ accessFlags := 1, nameIndex := 5, descriptorIndex := 6, attributes := #[] }, { accessFlags := 9, nameIndex := 46, descriptorIndex := 47, attributes := #[] }, { accessFlags := 10, nameIndex := 37, descriptorIndex := 38, attributes := #[] }, { accessFlags := 10, nameIndex := 16, descriptorIndex := 17, attributes := #[] }, { accessFlags := 10, nameIndex := 33, descriptorIndex := 34, attributes := #[] }] 49 2 #[] #[])
  fields := #[]
  methods := #[k1m0, k1m1, k1m2, k1m3, k1m4]
  instanceTypes := #[]
  staticTypes := #[]
  resolved := Array.replicate 51 none
  statics := none }

def pool2 : Array CpInfo := pool [(1, .class_ 2), (0, u "com/example/relate_by_hash/relatebyhash/ctph/CtphDigest"), (0, .methodref 4 5), (0, .class_ 6), (0, .nameAndType 7 8), (0, u "java/lang/Object"), (0, u "<init>"), (0, u "()V"), (0, .methodref 1 10), (0, .nameAndType 11 12), (0, u "isValidBlockSize"), (0, u "(J)Z"), (9, .string 23), (0, u "signature 1"), (0, .methodref 1 25), (0, .nameAndType 26 27), (0, u "checkSignature"), (0, u "(Ljava/lang/String;Ljava/lang/String;I)V"), (0, .string 29), (0, u "signature 2"), (0, .fieldref 1 31), (0, .nameAndType 32 33), (0, u "blockSize"), (0, u "J"), (0, .fieldref 1 35), (0, .nameAndType 36 37), (0, u "signature1"), (0, u "Ljava/lang/String;"), (0, .fieldref 1 39), (0, .nameAndType 40 37), (0, u "signature2"), (1, .class_ 44), (1, u "java/lang/String"), (20, u "(JLjava/lang/String;Ljava/lang/String;)V"), (3, .methodref 42 70), (0, .nameAndType 71 72), (0, u "equals"), (0, u "(Ljava/lang/Object;)Z"), (1, .class_ 76), (1, u "java/lang/Long"), (8, .long 3), (1, .long 3221225472), (1, .methodref 74 90), (0, .nameAndType 91 92), (0, u "bitCount"), (0, u "(J)I"), (6, .methodref 42 100), (0, .nameAndType 101 102), (0, u "length"), (0, u "()I"), (0, .methodref 42 104), (0, .nameAndType 105 106), (0, u "charAt"), (0, u "(I)C"), (11, u "MAX_BLOCK_SIZE_DIGITS"), (0, u "I"), (8, .methodref 1 129), (0, .nameAndType 130 131), (0, u "isBase64"), (0, u "(C)Z"), (19, u "MIN_BLOCK_SIZE"), (1, u "MAX_BLOCK_SIZE_EXPONENT"), (1, u "MAX_BLOCK_SIZE"), (0, u "MAX_SIGNATURE1_LENGTH"), (1, u "MAX_SIGNATURE2_LENGTH"), (1, u "BLOCK_SIZE_RULE")] 40

def k2c0 : Code := { maxStack := 4, maxLocals := 5, code := prog_15_method_1_code, exceptionTable := #[], attributes := #[] }
def k2m0 : Method := { name := "<init>", desc := "(JLjava/lang/String;Ljava/lang/String;)V", sig := { parameters := [.long, (.object "java/lang/String"), (.object "java/lang/String")], returnType := none }, accessFlags := 1, code := some k2c0 }
def k2c1 : Code := { maxStack := 4, maxLocals := 3, code := prog_15_method_7_code, exceptionTable := #[], attributes := #[] }
def k2m1 : Method := { name := "equals", desc := "(Ljava/lang/Object;)Z", sig := { parameters := [(.object "java/lang/Object")], returnType := some .boolean }, accessFlags := 1, code := some k2c1 }
def k2c2 : Code := { maxStack := 4, maxLocals := 2, code := prog_15_method_9_code, exceptionTable := #[], attributes := #[] }
def k2m2 : Method := { name := "isValidBlockSize", desc := "(J)Z", sig := { parameters := [.long], returnType := some .boolean }, accessFlags := 10, code := some k2c2 }
def k2c3 : Code := { maxStack := 6, maxLocals := 5, code := prog_15_method_11_code, exceptionTable := #[], attributes := #[] }
def k2m3 : Method := { name := "checkSignature", desc := "(Ljava/lang/String;Ljava/lang/String;I)V", sig := { parameters := [(.object "java/lang/String"), (.object "java/lang/String"), .int], returnType := none }, accessFlags := 10, code := some k2c3 }
def k2c4 : Code := { maxStack := 2, maxLocals := 1, code := prog_15_method_12_code, exceptionTable := #[], attributes := #[] }
def k2m4 : Method := { name := "isBase64", desc := "(C)Z", sig := { parameters := [.char], returnType := some .boolean }, accessFlags := 10, code := some k2c4 }
/-- com/example/relate_by_hash/relatebyhash/ctph/CtphDigest -/
def k2 : Class := { plain "com/example/relate_by_hash/relatebyhash/ctph/CtphDigest" (some 0) with
  accessFlags := 33
  interfaces := #[]
  cf := some (fileOf pool2 1 #[] #[{ accessFlags := 1, nameIndex := 7, descriptorIndex := 65, attributes := #[] }, { accessFlags := 1, nameIndex := 71, descriptorIndex := 72, attributes := #[] }, { accessFlags := 10, nameIndex := 11, descriptorIndex := 12, attributes := #[] }, { accessFlags := 10, nameIndex := 26, descriptorIndex := 27, attributes := #[] }, { accessFlags := 10, nameIndex := 130, descriptorIndex := 131, attributes := #[] }] 33 4 #[] #[{ accessFlags := 24, nameIndex := 151, descriptorIndex := 33, attributes := #[] }, { accessFlags := 24, nameIndex := 153, descriptorIndex := 119, attributes := #[] }, { accessFlags := 24, nameIndex := 155, descriptorIndex := 33, attributes := #[] }, { accessFlags := 26, nameIndex := 118, descriptorIndex := 119, attributes := #[] }, { accessFlags := 24, nameIndex := 156, descriptorIndex := 119, attributes := #[] }, { accessFlags := 24, nameIndex := 158, descriptorIndex := 119, attributes := #[] }, { accessFlags := 26, nameIndex := 160, descriptorIndex := 37, attributes := #[] }, { accessFlags := 18, nameIndex := 32, descriptorIndex := 33, attributes := #[] }, { accessFlags := 18, nameIndex := 36, descriptorIndex := 37, attributes := #[] }, { accessFlags := 18, nameIndex := 40, descriptorIndex := 37, attributes := #[] }])
  fields := #[{ name := "MIN_BLOCK_SIZE", type := .long, accessFlags := 24, slot := 0, constantValue := 0 }, { name := "MAX_BLOCK_SIZE_EXPONENT", type := .int, accessFlags := 24, slot := 1, constantValue := 0 }, { name := "MAX_BLOCK_SIZE", type := .long, accessFlags := 24, slot := 2, constantValue := 0 }, { name := "MAX_BLOCK_SIZE_DIGITS", type := .int, accessFlags := 26, slot := 3, constantValue := 0 }, { name := "MAX_SIGNATURE1_LENGTH", type := .int, accessFlags := 24, slot := 4, constantValue := 0 }, { name := "MAX_SIGNATURE2_LENGTH", type := .int, accessFlags := 24, slot := 5, constantValue := 0 }, { name := "BLOCK_SIZE_RULE", type := (.object "java/lang/String"), accessFlags := 26, slot := 6, constantValue := 0 }, { name := "blockSize", type := .long, accessFlags := 18, slot := 0, constantValue := 0 }, { name := "signature1", type := (.object "java/lang/String"), accessFlags := 18, slot := 1, constantValue := 0 }, { name := "signature2", type := (.object "java/lang/String"), accessFlags := 18, slot := 2, constantValue := 0 }]
  methods := #[k2m0, k2m1, k2m2, k2m3, k2m4]
  instanceTypes := #[.long, (.object "java/lang/String"), (.object "java/lang/String")]
  staticTypes := #[.long, .int, .long, .int, .int, .int, (.object "java/lang/String")]
  resolved := Array.replicate 201 none
  statics := none }

def pool3 : Array CpInfo := pool [(1, .class_ 2), (0, u "java/io/Serializable"), (0, .class_ 4), (0, u "java/lang/Object")] 2

/-- java/io/Serializable -/
def k3 : Class := { plain "java/io/Serializable" (some 0) with
  accessFlags := 1537
  interfaces := #[]
  cf := some (fileOf pool3 1 #[] #[] 1537 3 #[] #[])
  fields := #[]
  methods := #[]
  instanceTypes := #[]
  staticTypes := #[]
  resolved := Array.replicate 7 none
  statics := none }

def pool4 : Array CpInfo := pool [(1, .class_ 2), (0, u "java/lang/Comparable"), (0, .class_ 4), (0, u "java/lang/Object")] 7

/-- java/lang/Comparable -/
def k4 : Class := { plain "java/lang/Comparable" (some 0) with
  accessFlags := 1537
  interfaces := #[]
  cf := some (fileOf pool4 1 #[] #[] 1537 3 #[] #[])
  fields := #[]
  methods := #[]
  instanceTypes := #[]
  staticTypes := #[]
  resolved := Array.replicate 12 none
  statics := none }

def pool5 : Array CpInfo := pool [(2, .class_ 4), (1, u "java/lang/CharSequence"), (42, .class_ 48), (0, u "java/lang/CharSequence$1CodePointIterator"), (10, .class_ 60), (0, u "java/lang/CharSequence$1CharIterator"), (5, .class_ 67), (0, u "java/lang/Object")] 63

/-- java/lang/CharSequence -/
def k5 : Class := { plain "java/lang/CharSequence" (some 0) with
  accessFlags := 1537
  interfaces := #[]
  cf := some (fileOf pool5 2 #[.nestMembers #[47, 59]] #[] 1537 66 #[] #[])
  fields := #[]
  methods := #[]
  instanceTypes := #[]
  staticTypes := #[]
  resolved := Array.replicate 131 none
  statics := none }

def pool6 : Array CpInfo := pool [(1, .class_ 2), (0, u "java/lang/constant/Constable"), (0, .class_ 4), (0, u "java/lang/Object")] 6

/-- java/lang/constant/Constable -/
def k6 : Class := { plain "java/lang/constant/Constable" (some 0) with
  accessFlags := 1537
  interfaces := #[]
  cf := some (fileOf pool6 1 #[] #[] 1537 3 #[] #[])
  fields := #[]
  methods := #[]
  instanceTypes := #[]
  staticTypes := #[]
  resolved := Array.replicate 11 none
  statics := none }

def pool7 : Array CpInfo := pool [(1, .class_ 2), (0, u "java/lang/constant/ConstantDesc"), (0, .class_ 4), (0, u "java/lang/Object")] 32

/-- java/lang/constant/ConstantDesc -/
def k7 : Class := { plain "java/lang/constant/ConstantDesc" (some 0) with
  accessFlags := 1537
  interfaces := #[]
  cf := some (fileOf pool7 1 #[] #[] 1537 3 #[] #[])
  fields := #[]
  methods := #[]
  instanceTypes := #[]
  staticTypes := #[]
  resolved := Array.replicate 37 none
  statics := none }

def pool8 : Array CpInfo := pool [(1, .methodref 2 3), (0, .class_ 4), (0, .nameAndType 5 6), (0, u "java/lang/Object"), (0, u "<init>"), (0, u "()V"), (0, .string 8), (0, u ""), (0, .fieldref 10 11), (0, .class_ 12), (0, .nameAndType 13 14), (0, u "java/lang/String"), (0, u "value"), (0, u "[B"), (0, .fieldref 10 16), (0, .nameAndType 17 18), (0, u "coder"), (0, u "B"), (2, u "hash"), (0, u "I"), (2, u "hashIsZero"), (0, u "Z"), (0, .methodref 10 28), (0, .nameAndType 5 29), (0, u "([CIILjava/lang/Void;)V"), (8, .fieldref 10 39), (0, .nameAndType 40 26), (0, u "COMPACT_STRINGS"), (1, .class_ 44), (1, u "java/lang/StringUTF16"), (0, u "compress"), (1, .methodref 42 48), (0, .nameAndType 49 50), (0, u "coderFromArrayLen"), (0, u "([BI)B"), (56, .class_ 109), (1, u "java/lang/StringLatin1"), (32, u "()Z"), (34, .methodref 42 178), (0, .nameAndType 45 179), (0, u "([CII)[B"), (154, u "()I"), (0, .methodref 10 336), (0, .nameAndType 17 337), (0, u "()B"), (25, u "([BI)C"), (27, u "(II)V"), (35, u "(I)C"), (64, .methodref 10 493), (0, .nameAndType 494 142), (0, u "isLatin1"), (0, .methodref 107 496), (0, .nameAndType 497 363), (0, u "charAt"), (3, u "checkIndex"), (5, u "length"), (33, .methodref 107 542), (0, .nameAndType 543 544), (0, u "equals"), (0, u "([B[B)Z"), (28, u "(Ljava/lang/Object;)Z"), (1, .class_ 576), (0, u "java/lang/CharSequence"), (22, u "CASE_INSENSITIVE_ORDER"), (0, u "Ljava/util/Comparator;"), (409, u "([C)V"), (42, .fieldref 1054 1055), (0, .class_ 1056), (0, .nameAndType 1057 1058), (0, u "jdk/internal/util/Preconditions"), (0, u "SIOOBE_FORMATTER"), (0, u "Ljava/util/function/BiFunction;"), (0, .methodref 1054 1060), (0, .nameAndType 501 1061), (0, u "(IILjava/util/function/BiFunction;)I"), (39, u "serialPersistentFields"), (0, u "[Ljava/io/ObjectStreamField;"), (0, .class_ 1104), (0, u "java/lang/String$CaseInsensitiveComparator"), (1, .class_ 1107), (0, u "java/io/Serializable"), (0, .class_ 1109), (0, u "java/lang/Comparable"), (0, .class_ 1111), (0, u "java/lang/constant/Constable"), (0, .class_ 1113), (0, u "java/lang/constant/ConstantDesc"), (2, u "serialVersionUID"), (0, u "J"), (3, u "REPL"), (0, u "C"), (2, u "LATIN1"), (1, u "UTF16")] 323

def k8m0 : Method := { name := "<init>", desc := "()V", sig := { parameters := [], returnType := none }, accessFlags := 1, code := none }
def k8c1 : Code := { maxStack := 5, maxLocals := 2, code := jdk_42_method_3_code, exceptionTable := #[], attributes := #[] }
def k8m1 : Method := { name := "<init>", desc := "([C)V", sig := { parameters := [(.array .char)], returnType := none }, accessFlags := 1, code := some k8c1 }
def k8c2 : Code := { maxStack := 2, maxLocals := 1, code := jdk_42_method_54_code, exceptionTable := #[], attributes := #[] }
def k8m2 : Method := { name := "length", desc := "()I", sig := { parameters := [], returnType := some .int }, accessFlags := 1, code := some k8c2 }
def k8c3 : Code := { maxStack := 2, maxLocals := 2, code := jdk_42_method_56_code, exceptionTable := #[], attributes := #[] }
def k8m3 : Method := { name := "charAt", desc := "(I)C", sig := { parameters := [.int], returnType := some .char }, accessFlags := 1, code := some k8c3 }
def k8c4 : Code := { maxStack := 2, maxLocals := 3, code := jdk_42_method_66_code, exceptionTable := #[], attributes := #[] }
def k8m4 : Method := { name := "equals", desc := "(Ljava/lang/Object;)Z", sig := { parameters := [(.object "java/lang/Object")], returnType := some .boolean }, accessFlags := 1, code := some k8c4 }
def k8c5 : Code := { maxStack := 4, maxLocals := 6, code := jdk_42_method_149_code, exceptionTable := #[], attributes := #[] }
def k8m5 : Method := { name := "<init>", desc := "([CIILjava/lang/Void;)V", sig := { parameters := [(.array .char), .int, .int, (.object "java/lang/Void")], returnType := none }, accessFlags := 2, code := some k8c5 }
def k8c6 : Code := { maxStack := 1, maxLocals := 1, code := jdk_42_method_152_code, exceptionTable := #[], attributes := #[] }
def k8m6 : Method := { name := "coder", desc := "()B", sig := { parameters := [], returnType := some .byte }, accessFlags := 0, code := some k8c6 }
def k8c7 : Code := { maxStack := 1, maxLocals := 1, code := jdk_42_method_154_code, exceptionTable := #[], attributes := #[] }
def k8m7 : Method := { name := "isLatin1", desc := "()Z", sig := { parameters := [], returnType := some .boolean }, accessFlags := 0, code := some k8c7 }
def k8c8 : Code := { maxStack := 3, maxLocals := 2, code := jdk_42_method_155_code, exceptionTable := #[], attributes := #[] }
def k8m8 : Method := { name := "checkIndex", desc := "(II)V", sig := { parameters := [.int, .int], returnType := none }, accessFlags := 8, code := some k8c8 }
/-- java/lang/String -/
def k8 : Class := { plain "java/lang/String" (some 0) with
  accessFlags := 49
  interfaces := #[3, 4, 5, 6, 7]
  cf := some (fileOf pool8 10 #[.nestMembers #[1103]] #[{ accessFlags := 1, nameIndex := 5, descriptorIndex := 6, attributes := #[] }, { accessFlags := 1, nameIndex := 5, descriptorIndex := 1010, attributes := #[] }, { accessFlags := 1, nameIndex := 507, descriptorIndex := 334, attributes := #[] }, { accessFlags := 1, nameIndex := 497, descriptorIndex := 427, attributes := #[] }, { accessFlags := 1, nameIndex := 543, descriptorIndex := 573, attributes := #[] }, { accessFlags := 2, nameIndex := 5, descriptorIndex := 29, attributes := #[] }, { accessFlags := 0, nameIndex := 17, descriptorIndex := 337, attributes := #[] }, { accessFlags := 0, nameIndex := 494, descriptorIndex := 142, attributes := #[] }, { accessFlags := 8, nameIndex := 501, descriptorIndex := 391, attributes := #[] }] 49 2 #[1106, 1108, 575, 1110, 1112] #[{ accessFlags := 18, nameIndex := 13, descriptorIndex := 14, attributes := #[] }, { accessFlags := 18, nameIndex := 17, descriptorIndex := 18, attributes := #[] }, { accessFlags := 2, nameIndex := 21, descriptorIndex := 22, attributes := #[] }, { accessFlags := 2, nameIndex := 25, descriptorIndex := 26, attributes := #[] }, { accessFlags := 26, nameIndex := 1116, descriptorIndex := 1117, attributes := #[] }, { accessFlags := 24, nameIndex := 40, descriptorIndex := 26, attributes := #[] }, { accessFlags := 26, nameIndex := 1101, descriptorIndex := 1102, attributes := #[] }, { accessFlags := 26, nameIndex := 1121, descriptorIndex := 1122, attributes := #[] }, { accessFlags := 25, nameIndex := 599, descriptorIndex := 600, attributes := #[] }, { accessFlags := 24, nameIndex := 1125, descriptorIndex := 18, attributes := #[] }, { accessFlags := 24, nameIndex := 1127, descriptorIndex := 18, attributes := #[] }])
  fields := #[{ name := "value", type := (.array .byte), accessFlags := 18, slot := 0, constantValue := 0 }, { name := "coder", type := .byte, accessFlags := 18, slot := 1, constantValue := 0 }, { name := "hash", type := .int, accessFlags := 2, slot := 2, constantValue := 0 }, { name := "hashIsZero", type := .boolean, accessFlags := 2, slot := 3, constantValue := 0 }, { name := "serialVersionUID", type := .long, accessFlags := 26, slot := 0, constantValue := 0 }, { name := "COMPACT_STRINGS", type := .boolean, accessFlags := 24, slot := 1, constantValue := 0 }, { name := "serialPersistentFields", type := (.array (.object "java/io/ObjectStreamField")), accessFlags := 26, slot := 2, constantValue := 0 }, { name := "REPL", type := .char, accessFlags := 26, slot := 3, constantValue := 0 }, { name := "CASE_INSENSITIVE_ORDER", type := (.object "java/util/Comparator"), accessFlags := 25, slot := 4, constantValue := 0 }, { name := "LATIN1", type := .byte, accessFlags := 24, slot := 5, constantValue := 0 }, { name := "UTF16", type := .byte, accessFlags := 24, slot := 6, constantValue := 0 }]
  methods := #[k8m0, k8m1, k8m2, k8m3, k8m4, k8m5, k8m6, k8m7, k8m8]
  instanceTypes := #[(.array .byte), .byte, .int, .boolean]
  staticTypes := #[.long, .boolean, (.array (.object "java/io/ObjectStreamField")), .char, (.object "java/util/Comparator"), .byte, .byte]
  resolved := Array.replicate 1451 none
  statics := some 0 }

def pool9 : Array CpInfo := pool [(6, .class_ 8), (1, u "java/lang/Object"), (0, u "<init>"), (0, u "()V"), (1, .class_ 14), (1, u "java/lang/StringUTF16"), (31, u "$assertionsDisabled"), (0, u "Z"), (13, u "HI_BYTE_SHIFT"), (0, u "I"), (2, u "LO_BYTE_SHIFT"), (49, .methodref 12 116), (0, .nameAndType 117 118), (0, u "compress"), (0, u "([CI[BII)I"), (3, u "([CII)[B"), (138, u "coderFromArrayLen"), (0, u "([BI)B"), (106, .class_ 371), (1, u "java/lang/StringUTF16$LinesSpliterator"), (58, u "MAX_LENGTH"), (196, .class_ 628), (0, u "java/lang/StringUTF16$CodePointsSpliterator"), (0, .class_ 630), (0, u "java/lang/StringUTF16$CharsSpliterator")] 4

def k9m0 : Method := { name := "<init>", desc := "()V", sig := { parameters := [], returnType := none }, accessFlags := 0, code := none }
def k9c1 : Code := { maxStack := 2, maxLocals := 2, code := jdk_52_method_15_code, exceptionTable := #[], attributes := #[] }
def k9m1 : Method := { name := "coderFromArrayLen", desc := "([BI)B", sig := { parameters := [(.array .byte), .int], returnType := some .byte }, accessFlags := 8, code := some k9c1 }
def k9c2 : Code := { maxStack := 5, maxLocals := 6, code := jdk_52_method_16_code, exceptionTable := #[], attributes := #[] }
def k9m2 : Method := { name := "compress", desc := "([CII)[B", sig := { parameters := [(.array .char), .int, .int], returnType := some (.array .byte) }, accessFlags := 9, code := some k9c2 }
def k9c3 : Code := { maxStack := 3, maxLocals := 7, code := jdk_52_method_21_code, exceptionTable := #[], attributes := #[] }
def k9m3 : Method := { name := "compress", desc := "([CI[BII)I", sig := { parameters := [(.array .char), .int, (.array .byte), .int, .int], returnType := some .int }, accessFlags := 9, code := some k9c3 }
/-- java/lang/StringUTF16 -/
def k9 : Class := { plain "java/lang/StringUTF16" (some 0) with
  accessFlags := 48
  interfaces := #[]
  cf := some (fileOf pool9 12 #[.nestMembers #[627, 629, 369]] #[{ accessFlags := 0, nameIndex := 9, descriptorIndex := 10, attributes := #[] }, { accessFlags := 8, nameIndex := 261, descriptorIndex := 262, attributes := #[] }, { accessFlags := 9, nameIndex := 117, descriptorIndex := 122, attributes := #[] }, { accessFlags := 9, nameIndex := 117, descriptorIndex := 118, attributes := #[] }] 48 6 #[] #[{ accessFlags := 26, nameIndex := 61, descriptorIndex := 62, attributes := #[] }, { accessFlags := 26, nameIndex := 65, descriptorIndex := 62, attributes := #[] }, { accessFlags := 24, nameIndex := 430, descriptorIndex := 62, attributes := #[] }, { accessFlags := 4120, nameIndex := 46, descriptorIndex := 47, attributes := #[] }])
  fields := #[{ name := "HI_BYTE_SHIFT", type := .int, accessFlags := 26, slot := 0, constantValue := 0 }, { name := "LO_BYTE_SHIFT", type := .int, accessFlags := 26, slot := 1, constantValue := 0 }, { name := "MAX_LENGTH", type := .int, accessFlags := 24, slot := 2, constantValue := 0 }, { name := "$assertionsDisabled", type := .boolean, accessFlags := 4120, slot := 3, constantValue := 0 }]
  methods := #[k9m0, k9m1, k9m2, k9m3]
  instanceTypes := #[]
  staticTypes := #[.int, .int, .int, .boolean]
  resolved := Array.replicate 635 none
  statics := none }

def pool10 : Array CpInfo := pool [(1, .methodref 2 3), (0, .class_ 4), (0, .nameAndType 5 6), (0, u "java/lang/Object"), (0, u "<init>"), (0, u "()V"), (1, .class_ 10), (1, u "java/lang/Number"), (2, .class_ 14), (0, u "java/io/Serializable"), (0, u "serialVersionUID"), (0, u "J")] 20

def k10c0 : Code := { maxStack := 1, maxLocals := 1, code := jdk_18_method_1_code, exceptionTable := #[], attributes := #[] }
def k10m0 : Method := { name := "<init>", desc := "()V", sig := { parameters := [], returnType := none }, accessFlags := 1, code := some k10c0 }
/-- java/lang/Number -/
def k10 : Class := { plain "java/lang/Number" (some 0) with
  accessFlags := 1057
  interfaces := #[3]
  cf := some (fileOf pool10 8 #[] #[{ accessFlags := 1, nameIndex := 5, descriptorIndex := 6, attributes := #[] }] 1057 2 #[13] #[{ accessFlags := 26, nameIndex := 15, descriptorIndex := 16, attributes := #[] }])
  fields := #[{ name := "serialVersionUID", type := .long, accessFlags := 26, slot := 0, constantValue := 0 }]
  methods := #[k10m0]
  instanceTypes := #[]
  staticTypes := #[.long]
  resolved := Array.replicate 37 none
  statics := none }

def pool11 : Array CpInfo := pool [(1, .class_ 2), (0, u "java/lang/Long"), (98, u "(J)I"), (133, .class_ 237), (1, u "java/lang/Long$LongCache"), (33, .class_ 272), (0, u "java/lang/Number"), (2, u "value"), (0, u "J"), (37, .long 6148914691236517205), (1, .long 3689348814741910323), (1, .long 1085102592571150095), (42, u "TYPE"), (0, u "Ljava/lang/Class;"), (0, .class_ 364), (0, u "java/lang/Comparable"), (0, .class_ 366), (0, u "java/lang/constant/Constable"), (0, .class_ 368), (0, u "java/lang/constant/ConstantDesc"), (0, u "MIN_VALUE"), (1, u "MAX_VALUE"), (4, u "SIZE"), (0, u "I"), (1, u "BYTES"), (1, u "serialVersionUID"), (94, u "bitCount")] 47

def k11c0 : Code := { maxStack := 6, maxLocals := 2, code := jdk_35_method_50_code, exceptionTable := #[], attributes := #[] }
def k11m0 : Method := { name := "bitCount", desc := "(J)I", sig := { parameters := [.long], returnType := some .int }, accessFlags := 9, code := some k11c0 }
/-- java/lang/Long -/
def k11 : Class := { plain "java/lang/Long" (some 10) with
  accessFlags := 49
  interfaces := #[4, 6, 7]
  cf := some (fileOf pool11 1 #[.nestMembers #[235]] #[{ accessFlags := 9, nameIndex := 476, descriptorIndex := 101, attributes := #[] }] 49 271 #[363, 365, 367] #[{ accessFlags := 25, nameIndex := 369, descriptorIndex := 276, attributes := #[] }, { accessFlags := 25, nameIndex := 371, descriptorIndex := 276, attributes := #[] }, { accessFlags := 25, nameIndex := 361, descriptorIndex := 362, attributes := #[] }, { accessFlags := 18, nameIndex := 275, descriptorIndex := 276, attributes := #[] }, { accessFlags := 25, nameIndex := 376, descriptorIndex := 377, attributes := #[] }, { accessFlags := 25, nameIndex := 379, descriptorIndex := 377, attributes := #[] }, { accessFlags := 26, nameIndex := 381, descriptorIndex := 276, attributes := #[] }])
  fields := #[{ name := "MIN_VALUE", type := .long, accessFlags := 25, slot := 0, constantValue := 0 }, { name := "MAX_VALUE", type := .long, accessFlags := 25, slot := 1, constantValue := 0 }, { name := "TYPE", type := (.object "java/lang/Class"), accessFlags := 25, slot := 2, constantValue := 0 }, { name := "value", type := .long, accessFlags := 18, slot := 0, constantValue := 0 }, { name := "SIZE", type := .int, accessFlags := 25, slot := 3, constantValue := 0 }, { name := "BYTES", type := .int, accessFlags := 25, slot := 4, constantValue := 0 }, { name := "serialVersionUID", type := .long, accessFlags := 26, slot := 5, constantValue := 0 }]
  methods := #[k11m0]
  instanceTypes := #[.long]
  staticTypes := #[.long, .long, (.object "java/lang/Class"), .int, .int, .long]
  resolved := Array.replicate 524 none
  statics := none }

def pool12 : Array CpInfo := pool [(1, .class_ 2), (0, u "java/lang/String"), (1, .class_ 6), (1, u "java/lang/Object"), (0, u "<init>"), (0, u "()V"), (0, .methodref 1 10), (0, .nameAndType 11 12), (0, u "checkIndex"), (0, u "(II)V"), (1, .class_ 16), (1, u "java/lang/StringLatin1"), (36, u "([BI)C"), (67, u "$assertionsDisabled"), (0, u "Z"), (98, .class_ 223), (1, u "java/lang/StringLatin1$LinesSpliterator"), (28, u "charAt"), (28, u "equals"), (0, u "([B[B)Z"), (107, .class_ 391), (0, u "java/lang/StringLatin1$CharsSpliterator")] 3

def k12m0 : Method := { name := "<init>", desc := "()V", sig := { parameters := [], returnType := none }, accessFlags := 0, code := none }
def k12c1 : Code := { maxStack := 2, maxLocals := 2, code := jdk_43_method_2_code, exceptionTable := #[], attributes := #[] }
def k12m1 : Method := { name := "charAt", desc := "([BI)C", sig := { parameters := [(.array .byte), .int], returnType := some .char }, accessFlags := 9, code := some k12c1 }
def k12c2 : Code := { maxStack := 3, maxLocals := 3, code := jdk_43_method_13_code, exceptionTable := #[], attributes := #[] }
def k12m2 : Method := { name := "equals", desc := "([B[B)Z", sig := { parameters := [(.array .byte), (.array .byte)], returnType := some .boolean }, accessFlags := 9, code := some k12c2 }
/-- java/lang/StringLatin1 -/
def k12 : Class := { plain "java/lang/StringLatin1" (some 0) with
  accessFlags := 48
  interfaces := #[]
  cf := some (fileOf pool12 14 #[.nestMembers #[390, 221]] #[{ accessFlags := 0, nameIndex := 7, descriptorIndex := 8, attributes := #[] }, { accessFlags := 9, nameIndex := 252, descriptorIndex := 53, attributes := #[] }, { accessFlags := 9, nameIndex := 281, descriptorIndex := 282, attributes := #[] }] 48 4 #[] #[{ accessFlags := 4120, nameIndex := 121, descriptorIndex := 122, attributes := #[] }])
  fields := #[{ name := "$assertionsDisabled", type := .boolean, accessFlags := 4120, slot := 0, constantValue := 0 }]
  methods := #[k12m0, k12m1, k12m2]
  instanceTypes := #[]
  staticTypes := #[.boolean]
  resolved := Array.replicate 395 none
  statics := none }

def pool13 : Array CpInfo := pool [(2, .class_ 4), (1, u "java/lang/Object"), (0, u "<init>"), (0, u "()V"), (17, .class_ 26), (1, u "jdk/internal/util/Preconditions"), (6, u "checkIndex"), (21, .class_ 56), (0, u "jdk/internal/util/Preconditions$4"), (57, .class_ 115), (0, u "jdk/internal/util/Preconditions$1"), (7, u "SIOOBE_FORMATTER"), (0, u "Ljava/util/function/BiFunction;"), (0, .class_ 126), (0, u "jdk/internal/util/Preconditions$2"), (3, u "AIOOBE_FORMATTER"), (0, .class_ 132), (0, u "jdk/internal/util/Preconditions$3"), (3, u "IOOBE_FORMATTER"), (41, u "(IILjava/util/function/BiFunction;)I")] 15

def k13m0 : Method := { name := "<init>", desc := "()V", sig := { parameters := [], returnType := none }, accessFlags := 1, code := none }
def k13c1 : Code := { maxStack := 3, maxLocals := 3, code := jdk_41_method_11_code, exceptionTable := #[], attributes := #[] }
def k13m1 : Method := { name := "checkIndex", desc := "(IILjava/util/function/BiFunction;)I", sig := { parameters := [.int, .int, (.object "java/util/function/BiFunction")], returnType := some .int }, accessFlags := 9, code := some k13c1 }
/-- jdk/internal/util/Preconditions -/
def k13 : Class := { plain "jdk/internal/util/Preconditions" (some 0) with
  accessFlags := 33
  interfaces := #[]
  cf := some (fileOf pool13 24 #[.nestMembers #[55, 131, 125, 114]] #[{ accessFlags := 1, nameIndex := 5, descriptorIndex := 6, attributes := #[] }, { accessFlags := 9, nameIndex := 33, descriptorIndex := 178, attributes := #[] }] 33 2 #[] #[{ accessFlags := 25, nameIndex := 123, descriptorIndex := 124, attributes := #[] }, { accessFlags := 25, nameIndex := 130, descriptorIndex := 124, attributes := #[] }, { accessFlags := 25, nameIndex := 136, descriptorIndex := 124, attributes := #[] }])
  fields := #[{ name := "SIOOBE_FORMATTER", type := (.object "java/util/function/BiFunction"), accessFlags := 25, slot := 0, constantValue := 0 }, { name := "AIOOBE_FORMATTER", type := (.object "java/util/function/BiFunction"), accessFlags := 25, slot := 1, constantValue := 0 }, { name := "IOOBE_FORMATTER", type := (.object "java/util/function/BiFunction"), accessFlags := 25, slot := 2, constantValue := 0 }]
  methods := #[k13m0, k13m1]
  instanceTypes := #[]
  staticTypes := #[(.object "java/util/function/BiFunction"), (.object "java/util/function/BiFunction"), (.object "java/util/function/BiFunction")]
  resolved := Array.replicate 194 none
  statics := some 1 }

def pool14 : Array CpInfo := pool [(1, .class_ 2), (0, u "java/lang/Integer"), (16, u "digits"), (0, u "[C"), (46, u "<init>"), (17, u "DigitOnes"), (0, u "[B"), (2, u "DigitTens"), (10, .nameAndType 67 101), (0, u "()V"), (85, u "valueOf"), (0, u "(I)Ljava/lang/Integer;"), (0, .class_ 190), (0, u "java/lang/Integer$IntegerCache"), (0, .fieldref 189 192), (0, .nameAndType 193 194), (0, u "high"), (0, u "I"), (0, .fieldref 189 196), (0, .nameAndType 197 198), (0, u "cache"), (0, u "[Ljava/lang/Integer;"), (0, .methodref 1 200), (0, .nameAndType 67 201), (0, u "(I)V"), (0, .methodref 203 100), (0, .class_ 204), (0, u "java/lang/Number"), (0, .fieldref 1 206), (0, .nameAndType 207 194), (0, u "value"), (94, u "TYPE"), (0, u "Ljava/lang/Class;"), (0, .class_ 305), (0, u "java/lang/Comparable"), (0, .class_ 307), (0, u "java/lang/constant/Constable"), (0, .class_ 309), (0, u "java/lang/constant/ConstantDesc"), (0, u "MIN_VALUE"), (1, u "MAX_VALUE"), (3, u "SIZE"), (1, u "BYTES"), (1, u "serialVersionUID"), (0, u "J")] 131

def k14c0 : Code := { maxStack := 3, maxLocals := 1, code := jdk_33_method_22_code, exceptionTable := #[], attributes := #[] }
def k14m0 : Method := { name := "valueOf", desc := "(I)Ljava/lang/Integer;", sig := { parameters := [.int], returnType := some (.object "java/lang/Integer") }, accessFlags := 9, code := some k14c0 }
def k14c1 : Code := { maxStack := 2, maxLocals := 2, code := jdk_33_method_23_code, exceptionTable := #[], attributes := #[] }
def k14m1 : Method := { name := "<init>", desc := "(I)V", sig := { parameters := [.int], returnType := none }, accessFlags := 1, code := some k14c1 }
/-- java/lang/Integer -/
def k14 : Class := { plain "java/lang/Integer" (some 10) with
  accessFlags := 49
  interfaces := #[4, 6, 7]
  cf := some (fileOf pool14 1 #[.nestMembers #[189]] #[{ accessFlags := 9, nameIndex := 187, descriptorIndex := 188, attributes := #[] }, { accessFlags := 1, nameIndex := 67, descriptorIndex := 201, attributes := #[] }] 49 203 #[304, 306, 308] #[{ accessFlags := 25, nameIndex := 310, descriptorIndex := 194, attributes := #[] }, { accessFlags := 25, nameIndex := 312, descriptorIndex := 194, attributes := #[] }, { accessFlags := 25, nameIndex := 302, descriptorIndex := 303, attributes := #[] }, { accessFlags := 24, nameIndex := 19, descriptorIndex := 20, attributes := #[] }, { accessFlags := 24, nameIndex := 89, descriptorIndex := 86, attributes := #[] }, { accessFlags := 24, nameIndex := 85, descriptorIndex := 86, attributes := #[] }, { accessFlags := 18, nameIndex := 207, descriptorIndex := 194, attributes := #[] }, { accessFlags := 25, nameIndex := 316, descriptorIndex := 194, attributes := #[] }, { accessFlags := 25, nameIndex := 318, descriptorIndex := 194, attributes := #[] }, { accessFlags := 26, nameIndex := 320, descriptorIndex := 321, attributes := #[] }])
  fields := #[{ name := "MIN_VALUE", type := .int, accessFlags := 25, slot := 0, constantValue := 0 }, { name := "MAX_VALUE", type := .int, accessFlags := 25, slot := 1, constantValue := 0 }, { name := "TYPE", type := (.object "java/lang/Class"), accessFlags := 25, slot := 2, constantValue := 0 }, { name := "digits", type := (.array .char), accessFlags := 24, slot := 3, constantValue := 0 }, { name := "DigitTens", type := (.array .byte), accessFlags := 24, slot := 4, constantValue := 0 }, { name := "DigitOnes", type := (.array .byte), accessFlags := 24, slot := 5, constantValue := 0 }, { name := "value", type := .int, accessFlags := 18, slot := 0, constantValue := 0 }, { name := "SIZE", type := .int, accessFlags := 25, slot := 6, constantValue := 0 }, { name := "BYTES", type := .int, accessFlags := 25, slot := 7, constantValue := 0 }, { name := "serialVersionUID", type := .long, accessFlags := 26, slot := 8, constantValue := 0 }]
  methods := #[k14m0, k14m1]
  instanceTypes := #[.int]
  staticTypes := #[.int, .int, (.object "java/lang/Class"), (.array .char), (.array .byte), (.array .byte), .int, .int, .long]
  resolved := Array.replicate 453 none
  statics := none }

def pool15 : Array CpInfo := pool [(2, .class_ 4), (1, u "java/lang/Object"), (0, u "<init>"), (0, u "()V"), (0, .class_ 8), (0, u "java/lang/Integer"), (7, .class_ 18), (1, u "java/lang/Integer$IntegerCache"), (0, u "$assertionsDisabled"), (0, u "Z"), (26, u "high"), (0, u "I"), (8, u "archivedCache"), (0, u "[Ljava/lang/Integer;"), (12, u "cache"), (0, u "low")] 27

def k15m0 : Method := { name := "<init>", desc := "()V", sig := { parameters := [], returnType := none }, accessFlags := 2, code := none }
/-- java/lang/Integer$IntegerCache -/
def k15 : Class := { plain "java/lang/Integer$IntegerCache" (some 0) with
  accessFlags := 48
  interfaces := #[]
  cf := some (fileOf pool15 16 #[.nestHost 7] #[{ accessFlags := 2, nameIndex := 5, descriptorIndex := 6, attributes := #[] }] 48 2 #[] #[{ accessFlags := 24, nameIndex := 72, descriptorIndex := 48, attributes := #[] }, { accessFlags := 24, nameIndex := 47, descriptorIndex := 48, attributes := #[] }, { accessFlags := 24, nameIndex := 71, descriptorIndex := 58, attributes := #[] }, { accessFlags := 8, nameIndex := 57, descriptorIndex := 58, attributes := #[] }, { accessFlags := 4120, nameIndex := 19, descriptorIndex := 20, attributes := #[] }])
  fields := #[{ name := "low", type := .int, accessFlags := 24, slot := 0, constantValue := 0 }, { name := "high", type := .int, accessFlags := 24, slot := 1, constantValue := 0 }, { name := "cache", type := (.array (.object "java/lang/Integer")), accessFlags := 24, slot := 2, constantValue := 0 }, { name := "archivedCache", type := (.array (.object "java/lang/Integer")), accessFlags := 8, slot := 3, constantValue := 0 }, { name := "$assertionsDisabled", type := .boolean, accessFlags := 4120, slot := 4, constantValue := 0 }]
  methods := #[k15m0]
  instanceTypes := #[]
  staticTypes := #[.int, .int, (.array (.object "java/lang/Integer")), (.array (.object "java/lang/Integer")), .boolean]
  resolved := Array.replicate 100 none
  statics := some 2 }

def pool16 : Array CpInfo := pool [(9, u "<init>"), (6, .class_ 18), (1, u "java/lang/Object"), (0, u "()V"), (1, .class_ 23), (1, u "jdk/internal/util/ArraysSupport"), (0, u "LOG2_ARRAY_LONG_INDEX_SCALE"), (0, u "I"), (2, u "U"), (0, u "Ljdk/internal/misc/Unsafe;"), (8, u "BIG_ENDIAN"), (0, u "Z"), (8, u "LOG2_BYTE_BIT_SIZE"), (4, u "LOG2_ARRAY_INT_INDEX_SCALE"), (54, u "JLA"), (0, u "Ljdk/internal/access/JavaLangAccess;"), (11, u "LOG2_ARRAY_BOOLEAN_INDEX_SCALE"), (9, u "LOG2_ARRAY_BYTE_INDEX_SCALE"), (5, u "LOG2_ARRAY_CHAR_INDEX_SCALE"), (5, u "LOG2_ARRAY_SHORT_INDEX_SCALE"), (18, u "LOG2_ARRAY_FLOAT_INDEX_SCALE"), (24, u "LOG2_ARRAY_DOUBLE_INDEX_SCALE"), (89, u "T_BOOLEAN"), (2, u "T_CHAR"), (1, u "T_FLOAT"), (1, u "T_DOUBLE"), (1, u "T_BYTE"), (1, u "T_SHORT"), (1, u "T_INT"), (1, u "T_LONG"), (1, u "SOFT_MAX_ARRAY_LENGTH")] 83

def k16m0 : Method := { name := "<init>", desc := "()V", sig := { parameters := [], returnType := none }, accessFlags := 2, code := none }
/-- jdk/internal/util/ArraysSupport -/
def k16 : Class := { plain "jdk/internal/util/ArraysSupport" (some 0) with
  accessFlags := 33
  interfaces := #[]
  cf := some (fileOf pool16 21 #[] #[{ accessFlags := 2, nameIndex := 9, descriptorIndex := 19, attributes := #[] }] 33 16 #[] #[{ accessFlags := 24, nameIndex := 28, descriptorIndex := 29, attributes := #[] }, { accessFlags := 26, nameIndex := 38, descriptorIndex := 39, attributes := #[] }, { accessFlags := 25, nameIndex := 121, descriptorIndex := 25, attributes := #[] }, { accessFlags := 25, nameIndex := 131, descriptorIndex := 25, attributes := #[] }, { accessFlags := 25, nameIndex := 137, descriptorIndex := 25, attributes := #[] }, { accessFlags := 25, nameIndex := 143, descriptorIndex := 25, attributes := #[] }, { accessFlags := 25, nameIndex := 53, descriptorIndex := 25, attributes := #[] }, { accessFlags := 25, nameIndex := 24, descriptorIndex := 25, attributes := #[] }, { accessFlags := 25, nameIndex := 162, descriptorIndex := 25, attributes := #[] }, { accessFlags := 25, nameIndex := 187, descriptorIndex := 25, attributes := #[] }, { accessFlags := 26, nameIndex := 48, descriptorIndex := 25, attributes := #[] }, { accessFlags := 25, nameIndex := 277, descriptorIndex := 25, attributes := #[] }, { accessFlags := 25, nameIndex := 280, descriptorIndex := 25, attributes := #[] }, { accessFlags := 25, nameIndex := 282, descriptorIndex := 25, attributes := #[] }, { accessFlags := 25, nameIndex := 284, descriptorIndex := 25, attributes := #[] }, { accessFlags := 25, nameIndex := 286, descriptorIndex := 25, attributes := #[] }, { accessFlags := 25, nameIndex := 288, descriptorIndex := 25, attributes := #[] }, { accessFlags := 25, nameIndex := 290, descriptorIndex := 25, attributes := #[] }, { accessFlags := 25, nameIndex := 292, descriptorIndex := 25, attributes := #[] }, { accessFlags := 26, nameIndex := 108, descriptorIndex := 109, attributes := #[] }, { accessFlags := 25, nameIndex := 294, descriptorIndex := 25, attributes := #[] }])
  fields := #[{ name := "U", type := (.object "jdk/internal/misc/Unsafe"), accessFlags := 24, slot := 0, constantValue := 0 }, { name := "BIG_ENDIAN", type := .boolean, accessFlags := 26, slot := 1, constantValue := 0 }, { name := "LOG2_ARRAY_BOOLEAN_INDEX_SCALE", type := .int, accessFlags := 25, slot := 2, constantValue := 0 }, { name := "LOG2_ARRAY_BYTE_INDEX_SCALE", type := .int, accessFlags := 25, slot := 3, constantValue := 0 }, { name := "LOG2_ARRAY_CHAR_INDEX_SCALE", type := .int, accessFlags := 25, slot := 4, constantValue := 0 }, { name := "LOG2_ARRAY_SHORT_INDEX_SCALE", type := .int, accessFlags := 25, slot := 5, constantValue := 0 }, { name := "LOG2_ARRAY_INT_INDEX_SCALE", type := .int, accessFlags := 25, slot := 6, constantValue := 0 }, { name := "LOG2_ARRAY_LONG_INDEX_SCALE", type := .int, accessFlags := 25, slot := 7, constantValue := 0 }, { name := "LOG2_ARRAY_FLOAT_INDEX_SCALE", type := .int, accessFlags := 25, slot := 8, constantValue := 0 }, { name := "LOG2_ARRAY_DOUBLE_INDEX_SCALE", type := .int, accessFlags := 25, slot := 9, constantValue := 0 }, { name := "LOG2_BYTE_BIT_SIZE", type := .int, accessFlags := 26, slot := 10, constantValue := 0 }, { name := "T_BOOLEAN", type := .int, accessFlags := 25, slot := 11, constantValue := 0 }, { name := "T_CHAR", type := .int, accessFlags := 25, slot := 12, constantValue := 0 }, { name := "T_FLOAT", type := .int, accessFlags := 25, slot := 13, constantValue := 0 }, { name := "T_DOUBLE", type := .int, accessFlags := 25, slot := 14, constantValue := 0 }, { name := "T_BYTE", type := .int, accessFlags := 25, slot := 15, constantValue := 0 }, { name := "T_SHORT", type := .int, accessFlags := 25, slot := 16, constantValue := 0 }, { name := "T_INT", type := .int, accessFlags := 25, slot := 17, constantValue := 0 }, { name := "T_LONG", type := .int, accessFlags := 25, slot := 18, constantValue := 0 }, { name := "JLA", type := (.object "jdk/internal/access/JavaLangAccess"), accessFlags := 26, slot := 19, constantValue := 0 }, { name := "SOFT_MAX_ARRAY_LENGTH", type := .int, accessFlags := 25, slot := 20, constantValue := 0 }]
  methods := #[k16m0]
  instanceTypes := #[]
  staticTypes := #[(.object "jdk/internal/misc/Unsafe"), .boolean, .int, .int, .int, .int, .int, .int, .int, .int, .int, .int, .int, .int, .int, .int, .int, .int, .int, (.object "jdk/internal/access/JavaLangAccess"), .int]
  resolved := Array.replicate 378 none
  statics := none }

def pool17 : Array CpInfo := pool [(1, u "java/lang/Cloneable"), (0, .class_ 1), (0, u "java/lang/Object"), (0, .class_ 3)] 3

/-- java/lang/Cloneable -/
def k17 : Class := { plain "java/lang/Cloneable" (some 0) with
  accessFlags := 1537
  interfaces := #[]
  cf := some (fileOf pool17 2 #[] #[] 1537 4 #[] #[])
  fields := #[]
  methods := #[]
  instanceTypes := #[]
  staticTypes := #[]
  resolved := Array.replicate 8 none
  statics := none }

/-- the primitive byte -/
def k18 : Class := { plain "byte" none with kind := .primitive 'B', accessFlags := 0x411 }
/-- [B -/
def k19 : Class := { plain "[B" (some 0) with kind := .array 18 .byte, interfaces := #[17, 3], accessFlags := 1041 }

/-- the primitive char -/
def k20 : Class := { plain "char" none with kind := .primitive 'C', accessFlags := 0x411 }
/-- [C -/
def k21 : Class := { plain "[C" (some 0) with kind := .array 20 .char, interfaces := #[17, 3], accessFlags := 1041 }

/-- the primitive int -/
def k22 : Class := { plain "int" none with kind := .primitive 'I', accessFlags := 0x411 }
/-- [I -/
def k23 : Class := { plain "[I" (some 0) with kind := .array 22 .int, interfaces := #[17, 3], accessFlags := 1041 }

/-- [Ljava/lang/Integer; -/
def k24 : Class := { plain "[Ljava/lang/Integer;" (some 0) with kind := .array 14 (.object "java/lang/Integer"), interfaces := #[17, 3], accessFlags := 1041 }

def heap : Heap := #[{ cls := 8, slots := #[.long 0, .int 1, .null, .int 0, .null, .int 0, .int 0], vm := .statics 8 },
  { cls := 13, slots := #[.null, .null, .null], vm := .statics 13 },
  { cls := 15, slots := #[.int 0, .int 127, .ref 3, .null, .int 0], vm := .statics 15 },
  { cls := 24, slots := #[.ref 4, .ref 5, .ref 6, .ref 7, .ref 8, .ref 9, .ref 10, .ref 11, .ref 12, .ref 13, .ref 14, .ref 15, .ref 16, .ref 17, .ref 18, .ref 19, .ref 20, .ref 21, .ref 22, .ref 23, .ref 24, .ref 25, .ref 26, .ref 27, .ref 28, .ref 29, .ref 30, .ref 31, .ref 32, .ref 33, .ref 34, .ref 35, .ref 36, .ref 37, .ref 38, .ref 39, .ref 40, .ref 41, .ref 42, .ref 43, .ref 44, .ref 45, .ref 46, .ref 47, .ref 48, .ref 49, .ref 50, .ref 51, .ref 52, .ref 53, .ref 54, .ref 55, .ref 56, .ref 57, .ref 58, .ref 59, .ref 60, .ref 61, .ref 62, .ref 63, .ref 64, .ref 65, .ref 66, .ref 67, .ref 68, .ref 69, .ref 70, .ref 71, .ref 72, .ref 73, .ref 74, .ref 75, .ref 76, .ref 77, .ref 78, .ref 79, .ref 80, .ref 81, .ref 82, .ref 83, .ref 84, .ref 85, .ref 86, .ref 87, .ref 88, .ref 89, .ref 90, .ref 91, .ref 92, .ref 93, .ref 94, .ref 95, .ref 96, .ref 97, .ref 98, .ref 99, .ref 100, .ref 101, .ref 102, .ref 103, .ref 104, .ref 105, .ref 106, .ref 107, .ref 108, .ref 109, .ref 110, .ref 111, .ref 112, .ref 113, .ref 114, .ref 115, .ref 116, .ref 117, .ref 118, .ref 119, .ref 120, .ref 121, .ref 122, .ref 123, .ref 124, .ref 125, .ref 126, .ref 127, .ref 128, .ref 129, .ref 130, .ref 131, .ref 132, .ref 133, .ref 134, .ref 135, .ref 136, .ref 137, .ref 138, .ref 139, .ref 140, .ref 141, .ref 142, .ref 143, .ref 144, .ref 145, .ref 146, .ref 147, .ref 148, .ref 149, .ref 150, .ref 151, .ref 152, .ref 153, .ref 154, .ref 155, .ref 156, .ref 157, .ref 158, .ref 159, .ref 160, .ref 161, .ref 162, .ref 163, .ref 164, .ref 165, .ref 166, .ref 167, .ref 168, .ref 169, .ref 170, .ref 171, .ref 172, .ref 173, .ref 174, .ref 175, .ref 176, .ref 177, .ref 178, .ref 179, .ref 180, .ref 181, .ref 182, .ref 183, .ref 184, .ref 185, .ref 186, .ref 187, .ref 188, .ref 189, .ref 190, .ref 191, .ref 192, .ref 193, .ref 194, .ref 195, .ref 196, .ref 197, .ref 198, .ref 199, .ref 200, .ref 201, .ref 202, .ref 203, .ref 204, .ref 205, .ref 206, .ref 207, .ref 208, .ref 209, .ref 210, .ref 211, .ref 212, .ref 213, .ref 214, .ref 215, .ref 216, .ref 217, .ref 218, .ref 219, .ref 220, .ref 221, .ref 222, .ref 223, .ref 224, .ref 225, .ref 226, .ref 227, .ref 228, .ref 229, .ref 230, .ref 231, .ref 232, .ref 233, .ref 234, .ref 235, .ref 236, .ref 237, .ref 238, .ref 239, .ref 240, .ref 241, .ref 242, .ref 243, .ref 244, .ref 245, .ref 246, .ref 247, .ref 248, .ref 249, .ref 250, .ref 251, .ref 252, .ref 253, .ref 254, .ref 255, .ref 256, .ref 257, .ref 258, .ref 259], vm := .none },
  { cls := 14, slots := #[.int (-128)], vm := .none },
  { cls := 14, slots := #[.int (-127)], vm := .none },
  { cls := 14, slots := #[.int (-126)], vm := .none },
  { cls := 14, slots := #[.int (-125)], vm := .none },
  { cls := 14, slots := #[.int (-124)], vm := .none },
  { cls := 14, slots := #[.int (-123)], vm := .none },
  { cls := 14, slots := #[.int (-122)], vm := .none },
  { cls := 14, slots := #[.int (-121)], vm := .none },
  { cls := 14, slots := #[.int (-120)], vm := .none },
  { cls := 14, slots := #[.int (-119)], vm := .none },
  { cls := 14, slots := #[.int (-118)], vm := .none },
  { cls := 14, slots := #[.int (-117)], vm := .none },
  { cls := 14, slots := #[.int (-116)], vm := .none },
  { cls := 14, slots := #[.int (-115)], vm := .none },
  { cls := 14, slots := #[.int (-114)], vm := .none },
  { cls := 14, slots := #[.int (-113)], vm := .none },
  { cls := 14, slots := #[.int (-112)], vm := .none },
  { cls := 14, slots := #[.int (-111)], vm := .none },
  { cls := 14, slots := #[.int (-110)], vm := .none },
  { cls := 14, slots := #[.int (-109)], vm := .none },
  { cls := 14, slots := #[.int (-108)], vm := .none },
  { cls := 14, slots := #[.int (-107)], vm := .none },
  { cls := 14, slots := #[.int (-106)], vm := .none },
  { cls := 14, slots := #[.int (-105)], vm := .none },
  { cls := 14, slots := #[.int (-104)], vm := .none },
  { cls := 14, slots := #[.int (-103)], vm := .none },
  { cls := 14, slots := #[.int (-102)], vm := .none },
  { cls := 14, slots := #[.int (-101)], vm := .none },
  { cls := 14, slots := #[.int (-100)], vm := .none },
  { cls := 14, slots := #[.int (-99)], vm := .none },
  { cls := 14, slots := #[.int (-98)], vm := .none },
  { cls := 14, slots := #[.int (-97)], vm := .none },
  { cls := 14, slots := #[.int (-96)], vm := .none },
  { cls := 14, slots := #[.int (-95)], vm := .none },
  { cls := 14, slots := #[.int (-94)], vm := .none },
  { cls := 14, slots := #[.int (-93)], vm := .none },
  { cls := 14, slots := #[.int (-92)], vm := .none },
  { cls := 14, slots := #[.int (-91)], vm := .none },
  { cls := 14, slots := #[.int (-90)], vm := .none },
  { cls := 14, slots := #[.int (-89)], vm := .none },
  { cls := 14, slots := #[.int (-88)], vm := .none },
  { cls := 14, slots := #[.int (-87)], vm := .none },
  { cls := 14, slots := #[.int (-86)], vm := .none },
  { cls := 14, slots := #[.int (-85)], vm := .none },
  { cls := 14, slots := #[.int (-84)], vm := .none },
  { cls := 14, slots := #[.int (-83)], vm := .none },
  { cls := 14, slots := #[.int (-82)], vm := .none },
  { cls := 14, slots := #[.int (-81)], vm := .none },
  { cls := 14, slots := #[.int (-80)], vm := .none },
  { cls := 14, slots := #[.int (-79)], vm := .none },
  { cls := 14, slots := #[.int (-78)], vm := .none },
  { cls := 14, slots := #[.int (-77)], vm := .none },
  { cls := 14, slots := #[.int (-76)], vm := .none },
  { cls := 14, slots := #[.int (-75)], vm := .none },
  { cls := 14, slots := #[.int (-74)], vm := .none },
  { cls := 14, slots := #[.int (-73)], vm := .none },
  { cls := 14, slots := #[.int (-72)], vm := .none },
  { cls := 14, slots := #[.int (-71)], vm := .none },
  { cls := 14, slots := #[.int (-70)], vm := .none },
  { cls := 14, slots := #[.int (-69)], vm := .none },
  { cls := 14, slots := #[.int (-68)], vm := .none },
  { cls := 14, slots := #[.int (-67)], vm := .none },
  { cls := 14, slots := #[.int (-66)], vm := .none },
  { cls := 14, slots := #[.int (-65)], vm := .none },
  { cls := 14, slots := #[.int (-64)], vm := .none },
  { cls := 14, slots := #[.int (-63)], vm := .none },
  { cls := 14, slots := #[.int (-62)], vm := .none },
  { cls := 14, slots := #[.int (-61)], vm := .none },
  { cls := 14, slots := #[.int (-60)], vm := .none },
  { cls := 14, slots := #[.int (-59)], vm := .none },
  { cls := 14, slots := #[.int (-58)], vm := .none },
  { cls := 14, slots := #[.int (-57)], vm := .none },
  { cls := 14, slots := #[.int (-56)], vm := .none },
  { cls := 14, slots := #[.int (-55)], vm := .none },
  { cls := 14, slots := #[.int (-54)], vm := .none },
  { cls := 14, slots := #[.int (-53)], vm := .none },
  { cls := 14, slots := #[.int (-52)], vm := .none },
  { cls := 14, slots := #[.int (-51)], vm := .none },
  { cls := 14, slots := #[.int (-50)], vm := .none },
  { cls := 14, slots := #[.int (-49)], vm := .none },
  { cls := 14, slots := #[.int (-48)], vm := .none },
  { cls := 14, slots := #[.int (-47)], vm := .none },
  { cls := 14, slots := #[.int (-46)], vm := .none },
  { cls := 14, slots := #[.int (-45)], vm := .none },
  { cls := 14, slots := #[.int (-44)], vm := .none },
  { cls := 14, slots := #[.int (-43)], vm := .none },
  { cls := 14, slots := #[.int (-42)], vm := .none },
  { cls := 14, slots := #[.int (-41)], vm := .none },
  { cls := 14, slots := #[.int (-40)], vm := .none },
  { cls := 14, slots := #[.int (-39)], vm := .none },
  { cls := 14, slots := #[.int (-38)], vm := .none },
  { cls := 14, slots := #[.int (-37)], vm := .none },
  { cls := 14, slots := #[.int (-36)], vm := .none },
  { cls := 14, slots := #[.int (-35)], vm := .none },
  { cls := 14, slots := #[.int (-34)], vm := .none },
  { cls := 14, slots := #[.int (-33)], vm := .none },
  { cls := 14, slots := #[.int (-32)], vm := .none },
  { cls := 14, slots := #[.int (-31)], vm := .none },
  { cls := 14, slots := #[.int (-30)], vm := .none },
  { cls := 14, slots := #[.int (-29)], vm := .none },
  { cls := 14, slots := #[.int (-28)], vm := .none },
  { cls := 14, slots := #[.int (-27)], vm := .none },
  { cls := 14, slots := #[.int (-26)], vm := .none },
  { cls := 14, slots := #[.int (-25)], vm := .none },
  { cls := 14, slots := #[.int (-24)], vm := .none },
  { cls := 14, slots := #[.int (-23)], vm := .none },
  { cls := 14, slots := #[.int (-22)], vm := .none },
  { cls := 14, slots := #[.int (-21)], vm := .none },
  { cls := 14, slots := #[.int (-20)], vm := .none },
  { cls := 14, slots := #[.int (-19)], vm := .none },
  { cls := 14, slots := #[.int (-18)], vm := .none },
  { cls := 14, slots := #[.int (-17)], vm := .none },
  { cls := 14, slots := #[.int (-16)], vm := .none },
  { cls := 14, slots := #[.int (-15)], vm := .none },
  { cls := 14, slots := #[.int (-14)], vm := .none },
  { cls := 14, slots := #[.int (-13)], vm := .none },
  { cls := 14, slots := #[.int (-12)], vm := .none },
  { cls := 14, slots := #[.int (-11)], vm := .none },
  { cls := 14, slots := #[.int (-10)], vm := .none },
  { cls := 14, slots := #[.int (-9)], vm := .none },
  { cls := 14, slots := #[.int (-8)], vm := .none },
  { cls := 14, slots := #[.int (-7)], vm := .none },
  { cls := 14, slots := #[.int (-6)], vm := .none },
  { cls := 14, slots := #[.int (-5)], vm := .none },
  { cls := 14, slots := #[.int (-4)], vm := .none },
  { cls := 14, slots := #[.int (-3)], vm := .none },
  { cls := 14, slots := #[.int (-2)], vm := .none },
  { cls := 14, slots := #[.int (-1)], vm := .none },
  { cls := 14, slots := #[.int 0], vm := .none },
  { cls := 14, slots := #[.int 1], vm := .none },
  { cls := 14, slots := #[.int 2], vm := .none },
  { cls := 14, slots := #[.int 3], vm := .none },
  { cls := 14, slots := #[.int 4], vm := .none },
  { cls := 14, slots := #[.int 5], vm := .none },
  { cls := 14, slots := #[.int 6], vm := .none },
  { cls := 14, slots := #[.int 7], vm := .none },
  { cls := 14, slots := #[.int 8], vm := .none },
  { cls := 14, slots := #[.int 9], vm := .none },
  { cls := 14, slots := #[.int 10], vm := .none },
  { cls := 14, slots := #[.int 11], vm := .none },
  { cls := 14, slots := #[.int 12], vm := .none },
  { cls := 14, slots := #[.int 13], vm := .none },
  { cls := 14, slots := #[.int 14], vm := .none },
  { cls := 14, slots := #[.int 15], vm := .none },
  { cls := 14, slots := #[.int 16], vm := .none },
  { cls := 14, slots := #[.int 17], vm := .none },
  { cls := 14, slots := #[.int 18], vm := .none },
  { cls := 14, slots := #[.int 19], vm := .none },
  { cls := 14, slots := #[.int 20], vm := .none },
  { cls := 14, slots := #[.int 21], vm := .none },
  { cls := 14, slots := #[.int 22], vm := .none },
  { cls := 14, slots := #[.int 23], vm := .none },
  { cls := 14, slots := #[.int 24], vm := .none },
  { cls := 14, slots := #[.int 25], vm := .none },
  { cls := 14, slots := #[.int 26], vm := .none },
  { cls := 14, slots := #[.int 27], vm := .none },
  { cls := 14, slots := #[.int 28], vm := .none },
  { cls := 14, slots := #[.int 29], vm := .none },
  { cls := 14, slots := #[.int 30], vm := .none },
  { cls := 14, slots := #[.int 31], vm := .none },
  { cls := 14, slots := #[.int 32], vm := .none },
  { cls := 14, slots := #[.int 33], vm := .none },
  { cls := 14, slots := #[.int 34], vm := .none },
  { cls := 14, slots := #[.int 35], vm := .none },
  { cls := 14, slots := #[.int 36], vm := .none },
  { cls := 14, slots := #[.int 37], vm := .none },
  { cls := 14, slots := #[.int 38], vm := .none },
  { cls := 14, slots := #[.int 39], vm := .none },
  { cls := 14, slots := #[.int 40], vm := .none },
  { cls := 14, slots := #[.int 41], vm := .none },
  { cls := 14, slots := #[.int 42], vm := .none },
  { cls := 14, slots := #[.int 43], vm := .none },
  { cls := 14, slots := #[.int 44], vm := .none },
  { cls := 14, slots := #[.int 45], vm := .none },
  { cls := 14, slots := #[.int 46], vm := .none },
  { cls := 14, slots := #[.int 47], vm := .none },
  { cls := 14, slots := #[.int 48], vm := .none },
  { cls := 14, slots := #[.int 49], vm := .none },
  { cls := 14, slots := #[.int 50], vm := .none },
  { cls := 14, slots := #[.int 51], vm := .none },
  { cls := 14, slots := #[.int 52], vm := .none },
  { cls := 14, slots := #[.int 53], vm := .none },
  { cls := 14, slots := #[.int 54], vm := .none },
  { cls := 14, slots := #[.int 55], vm := .none },
  { cls := 14, slots := #[.int 56], vm := .none },
  { cls := 14, slots := #[.int 57], vm := .none },
  { cls := 14, slots := #[.int 58], vm := .none },
  { cls := 14, slots := #[.int 59], vm := .none },
  { cls := 14, slots := #[.int 60], vm := .none },
  { cls := 14, slots := #[.int 61], vm := .none },
  { cls := 14, slots := #[.int 62], vm := .none },
  { cls := 14, slots := #[.int 63], vm := .none },
  { cls := 14, slots := #[.int 64], vm := .none },
  { cls := 14, slots := #[.int 65], vm := .none },
  { cls := 14, slots := #[.int 66], vm := .none },
  { cls := 14, slots := #[.int 67], vm := .none },
  { cls := 14, slots := #[.int 68], vm := .none },
  { cls := 14, slots := #[.int 69], vm := .none },
  { cls := 14, slots := #[.int 70], vm := .none },
  { cls := 14, slots := #[.int 71], vm := .none },
  { cls := 14, slots := #[.int 72], vm := .none },
  { cls := 14, slots := #[.int 73], vm := .none },
  { cls := 14, slots := #[.int 74], vm := .none },
  { cls := 14, slots := #[.int 75], vm := .none },
  { cls := 14, slots := #[.int 76], vm := .none },
  { cls := 14, slots := #[.int 77], vm := .none },
  { cls := 14, slots := #[.int 78], vm := .none },
  { cls := 14, slots := #[.int 79], vm := .none },
  { cls := 14, slots := #[.int 80], vm := .none },
  { cls := 14, slots := #[.int 81], vm := .none },
  { cls := 14, slots := #[.int 82], vm := .none },
  { cls := 14, slots := #[.int 83], vm := .none },
  { cls := 14, slots := #[.int 84], vm := .none },
  { cls := 14, slots := #[.int 85], vm := .none },
  { cls := 14, slots := #[.int 86], vm := .none },
  { cls := 14, slots := #[.int 87], vm := .none },
  { cls := 14, slots := #[.int 88], vm := .none },
  { cls := 14, slots := #[.int 89], vm := .none },
  { cls := 14, slots := #[.int 90], vm := .none },
  { cls := 14, slots := #[.int 91], vm := .none },
  { cls := 14, slots := #[.int 92], vm := .none },
  { cls := 14, slots := #[.int 93], vm := .none },
  { cls := 14, slots := #[.int 94], vm := .none },
  { cls := 14, slots := #[.int 95], vm := .none },
  { cls := 14, slots := #[.int 96], vm := .none },
  { cls := 14, slots := #[.int 97], vm := .none },
  { cls := 14, slots := #[.int 98], vm := .none },
  { cls := 14, slots := #[.int 99], vm := .none },
  { cls := 14, slots := #[.int 100], vm := .none },
  { cls := 14, slots := #[.int 101], vm := .none },
  { cls := 14, slots := #[.int 102], vm := .none },
  { cls := 14, slots := #[.int 103], vm := .none },
  { cls := 14, slots := #[.int 104], vm := .none },
  { cls := 14, slots := #[.int 105], vm := .none },
  { cls := 14, slots := #[.int 106], vm := .none },
  { cls := 14, slots := #[.int 107], vm := .none },
  { cls := 14, slots := #[.int 108], vm := .none },
  { cls := 14, slots := #[.int 109], vm := .none },
  { cls := 14, slots := #[.int 110], vm := .none },
  { cls := 14, slots := #[.int 111], vm := .none },
  { cls := 14, slots := #[.int 112], vm := .none },
  { cls := 14, slots := #[.int 113], vm := .none },
  { cls := 14, slots := #[.int 114], vm := .none },
  { cls := 14, slots := #[.int 115], vm := .none },
  { cls := 14, slots := #[.int 116], vm := .none },
  { cls := 14, slots := #[.int 117], vm := .none },
  { cls := 14, slots := #[.int 118], vm := .none },
  { cls := 14, slots := #[.int 119], vm := .none },
  { cls := 14, slots := #[.int 120], vm := .none },
  { cls := 14, slots := #[.int 121], vm := .none },
  { cls := 14, slots := #[.int 122], vm := .none },
  { cls := 14, slots := #[.int 123], vm := .none },
  { cls := 14, slots := #[.int 124], vm := .none },
  { cls := 14, slots := #[.int 125], vm := .none },
  { cls := 14, slots := #[.int 126], vm := .none },
  { cls := 14, slots := #[.int 127], vm := .none }]
def classes : Array Class := #[k0, k1, k2, k3, k4, k5, k6, k7, k8, k9, k10, k11, k12, k13, k14, k15, k16, k17, k18, k19, k20, k21, k22, k23, k24]
def interned : List (Array UInt16 × Addr) := []
def slotsUsed : Nat := 527
def theMethod : MethodId := ⟨1, 1⟩
def args0 : Array Value := #[.int 3, .int 7, .int 5, .int 2, .int 9, .int 4]
def aboutOver (below : List Frame) : State where
  vm := { classes := classes, interned := interned.toArray }
  heap := heap
  slotsUsed := slotsUsed
  threads := #[{ frames := .invoking theMethod args0 :: below }]
def below0 : List Frame := [.native { method := ⟨0, 0⟩, args := #[] }]
def about1 : State := aboutOver below0
def p0 : Program := .bare "" "" ""
def e0 : Env := launch0.env 0 0 0
theorem w_frames : about1.frames = Frame.invoking theMethod args0 :: below0 := rfl
set_option maxRecDepth 65536 in
theorem w_args : argsFit about1.vm theMethod args0 = true := by decide +kernel
set_option maxRecDepth 65536 in
theorem w_heap : heapFits about1 = true := by decide +kernel
set_option maxRecDepth 65536 in
theorem w_runnable : about1.curStatus? = some .runnable := by decide +kernel
set_option maxRecDepth 65536 in
theorem w_alone : about1.alone = true := by decide +kernel
set_option maxRecDepth 65536 in
theorem w_named : about1.methodNamed? x = some theMethod := by decide +kernel
set_option maxRecDepth 65536 in
theorem w_hears : about1.hears theMethod below0 = true := by decide +kernel
set_option maxRecDepth 65536 in
theorem w_ripe : about1.ripe theMethod args0 below0 = true := by decide +kernel
theorem w_running : about1.status = .running := rfl
set_option maxRecDepth 65536 in
theorem w_room : about1.hasRoom e0.platform room_1 = true :=
  launch0.hasRoom_least _ room_1 (by decide +kernel) (by decide +kernel) (by decide +kernel) (by decide +kernel) (by decide +kernel) (by decide +kernel)
theorem allAtoms_all (ts : List Jvm.Cond) (a : Array Jvm.Value) (st : Jvm.State) : (allAtoms ts).before a st = ts.all (fun c => c.before a st) := by
  induction ts with
  | nil => rfl
  | cons c t ih =>
    show (Jvm.Cond.and c (allAtoms t)).before a st = _
    rw [Jvm.Cond.before_and, ih, List.all_cons]
def words1 : List Jvm.Cond := Jvm.Cond.code x code maxLocals ret :: tables_1
/-- a 'code' word, met by the world's own term for the bytes: nothing is compared byte by byte -/
theorem code_word {y : MethodName} {bytes : ByteArray} {mx : Nat} {rt : Option FieldType} {a : Array Value} {s : State} {m : MethodId} {meth : Method} {c : Code} (h1 : s.methodNamed? y = some m) (h2 : s.vm.method? m = some meth) (h3 : meth.code = some c) (h4 : c.code = bytes)
    (h5 : (c.maxLocals == mx && c.exceptionTable.isEmpty && decide (c.maxStack ≤ mostOperands) && decide (meth.sig.returnType = rt) && !meth.locks && decide (parseMethodDescriptor y.desc = some meth.sig)) = true) : (Jvm.Cond.code y bytes mx rt).before a s = true := by
  simp only [Bool.and_eq_true, beq_iff_eq, Bool.not_eq_true', decide_eq_true_eq] at h5
  obtain ⟨⟨⟨⟨⟨g1, g2⟩, g3⟩, g4⟩, g5⟩, g6⟩ := h5
  simp [Cond.before, Cond.holds, Cond.value, h1, h2, h3, h4, g1, g2, g3, g4, g5, g6]
def isCode : Jvm.Cond → Bool
  | .code _ _ _ _ => true
  | _ => false
theorem all_split {L : List Jvm.Cond} {P : Jvm.Cond → Bool} (h1 : L.all (fun c => isCode c || P c) = true) (h2 : ∀ c ∈ L.filter isCode, P c = true) : L.all P = true := by
  refine List.all_eq_true.mpr fun c hc => ?_
  have h := List.all_eq_true.mp h1 c hc
  rcases Bool.eq_false_or_eq_true (isCode c) with hi | hi
  · exact h2 c (List.mem_filter.mpr ⟨hc, hi⟩)
  · simpa [hi] using h
set_option maxRecDepth 65536 in
theorem w_c0 : (Jvm.Cond.code x code maxLocals ret).before args0 about1 = true := code_word (m := ⟨1, 1⟩) (meth := k1m1) (c := k1c1) (by decide +kernel) rfl rfl rfl (by decide +kernel)
set_option maxRecDepth 65536 in
theorem w_c1 : (Jvm.Cond.code ({ cls := "com/example/relate_by_hash/relatebyhash/ctph/CtphDigestEqualsPinLaw", name := "sig", desc := "(I)Ljava/lang/String;" } : Jvm.MethodName) method_4_code (5 : Nat) (Option.some (Jvm.ClassFile.FieldType.object "java/lang/String"))).before args0 about1 = true := code_word (m := ⟨1, 3⟩) (meth := k1m3) (c := k1c3) (by decide +kernel) rfl rfl rfl (by decide +kernel)
set_option maxRecDepth 65536 in
theorem w_c2 : (Jvm.Cond.code ({ cls := "com/example/relate_by_hash/relatebyhash/ctph/CtphDigestEqualsPinLaw", name := "b64", desc := "(I)C" } : Jvm.MethodName) method_3_code (1 : Nat) (Option.some Jvm.ClassFile.FieldType.char)).before args0 about1 = true := code_word (m := ⟨1, 2⟩) (meth := k1m2) (c := k1c2) (by decide +kernel) rfl rfl rfl (by decide +kernel)
set_option maxRecDepth 65536 in
theorem w_c3 : (Jvm.Cond.code ({ cls := "java/lang/String", name := "<init>", desc := "([C)V" } : Jvm.MethodName) jdk_42_method_3_code (2 : Nat) (Option.none : Option Jvm.ClassFile.FieldType)).before args0 about1 = true := code_word (m := ⟨8, 1⟩) (meth := k8m1) (c := k8c1) (by decide +kernel) rfl rfl rfl (by decide +kernel)
set_option maxRecDepth 65536 in
theorem w_c4 : (Jvm.Cond.code ({ cls := "java/lang/String", name := "<init>", desc := "([CIILjava/lang/Void;)V" } : Jvm.MethodName) jdk_42_method_149_code (6 : Nat) (Option.none : Option Jvm.ClassFile.FieldType)).before args0 about1 = true := code_word (m := ⟨8, 5⟩) (meth := k8m5) (c := k8c5) (by decide +kernel) rfl rfl rfl (by decide +kernel)
set_option maxRecDepth 65536 in
theorem w_c5 : (Jvm.Cond.code ({ cls := "java/lang/Object", name := "<init>", desc := "()V" } : Jvm.MethodName) object_method_1_code (1 : Nat) (Option.none : Option Jvm.ClassFile.FieldType)).before args0 about1 = true := code_word (m := ⟨0, 0⟩) (meth := k0m0) (c := k0c0) (by decide +kernel) rfl rfl rfl (by decide +kernel)
set_option maxRecDepth 65536 in
theorem w_c6 : (Jvm.Cond.code ({ cls := "java/lang/StringUTF16", name := "compress", desc := "([CII)[B" } : Jvm.MethodName) jdk_52_method_16_code (6 : Nat) (Option.some (Jvm.ClassFile.FieldType.array Jvm.ClassFile.FieldType.byte))).before args0 about1 = true := code_word (m := ⟨9, 2⟩) (meth := k9m2) (c := k9c2) (by decide +kernel) rfl rfl rfl (by decide +kernel)
set_option maxRecDepth 65536 in
theorem w_c7 : (Jvm.Cond.code ({ cls := "java/lang/StringUTF16", name := "compress", desc := "([CI[BII)I" } : Jvm.MethodName) jdk_52_method_21_code (7 : Nat) (Option.some Jvm.ClassFile.FieldType.int)).before args0 about1 = true := code_word (m := ⟨9, 3⟩) (meth := k9m3) (c := k9c3) (by decide +kernel) rfl rfl rfl (by decide +kernel)
set_option maxRecDepth 65536 in
theorem w_c8 : (Jvm.Cond.code ({ cls := "java/lang/StringUTF16", name := "coderFromArrayLen", desc := "([BI)B" } : Jvm.MethodName) jdk_52_method_15_code (2 : Nat) (Option.some Jvm.ClassFile.FieldType.byte)).before args0 about1 = true := code_word (m := ⟨9, 1⟩) (meth := k9m1) (c := k9c1) (by decide +kernel) rfl rfl rfl (by decide +kernel)
set_option maxRecDepth 65536 in
theorem w_c9 : (Jvm.Cond.code ({ cls := "com/example/relate_by_hash/relatebyhash/ctph/CtphDigest", name := "<init>", desc := "(JLjava/lang/String;Ljava/lang/String;)V" } : Jvm.MethodName) prog_15_method_1_code (5 : Nat) (Option.none : Option Jvm.ClassFile.FieldType)).before args0 about1 = true := code_word (m := ⟨2, 0⟩) (meth := k2m0) (c := k2c0) (by decide +kernel) rfl rfl rfl (by decide +kernel)
set_option maxRecDepth 65536 in
theorem w_c10 : (Jvm.Cond.code ({ cls := "com/example/relate_by_hash/relatebyhash/ctph/CtphDigest", name := "isValidBlockSize", desc := "(J)Z" } : Jvm.MethodName) prog_15_method_9_code (2 : Nat) (Option.some Jvm.ClassFile.FieldType.boolean)).before args0 about1 = true := code_word (m := ⟨2, 2⟩) (meth := k2m2) (c := k2c2) (by decide +kernel) rfl rfl rfl (by decide +kernel)
set_option maxRecDepth 65536 in
theorem w_c11 : (Jvm.Cond.code ({ cls := "java/lang/Long", name := "bitCount", desc := "(J)I" } : Jvm.MethodName) jdk_35_method_50_code (2 : Nat) (Option.some Jvm.ClassFile.FieldType.int)).before args0 about1 = true := code_word (m := ⟨11, 0⟩) (meth := k11m0) (c := k11c0) (by decide +kernel) rfl rfl rfl (by decide +kernel)
set_option maxRecDepth 65536 in
theorem w_c12 : (Jvm.Cond.code ({ cls := "com/example/relate_by_hash/relatebyhash/ctph/CtphDigest", name := "checkSignature", desc := "(Ljava/lang/String;Ljava/lang/String;I)V" } : Jvm.MethodName) prog_15_method_11_code (5 : Nat) (Option.none : Option Jvm.ClassFile.FieldType)).before args0 about1 = true := code_word (m := ⟨2, 3⟩) (meth := k2m3) (c := k2c3) (by decide +kernel) rfl rfl rfl (by decide +kernel)
set_option maxRecDepth 65536 in
theorem w_c13 : (Jvm.Cond.code ({ cls := "java/lang/String", name := "length", desc := "()I" } : Jvm.MethodName) jdk_42_method_54_code (1 : Nat) (Option.some Jvm.ClassFile.FieldType.int)).before args0 about1 = true := code_word (m := ⟨8, 2⟩) (meth := k8m2) (c := k8c2) (by decide +kernel) rfl rfl rfl (by decide +kernel)
set_option maxRecDepth 65536 in
theorem w_c14 : (Jvm.Cond.code ({ cls := "java/lang/String", name := "coder", desc := "()B" } : Jvm.MethodName) jdk_42_method_152_code (1 : Nat) (Option.some Jvm.ClassFile.FieldType.byte)).before args0 about1 = true := code_word (m := ⟨8, 6⟩) (meth := k8m6) (c := k8c6) (by decide +kernel) rfl rfl rfl (by decide +kernel)
set_option maxRecDepth 65536 in
theorem w_c15 : (Jvm.Cond.code ({ cls := "java/lang/String", name := "charAt", desc := "(I)C" } : Jvm.MethodName) jdk_42_method_56_code (2 : Nat) (Option.some Jvm.ClassFile.FieldType.char)).before args0 about1 = true := code_word (m := ⟨8, 3⟩) (meth := k8m3) (c := k8c3) (by decide +kernel) rfl rfl rfl (by decide +kernel)
set_option maxRecDepth 65536 in
theorem w_c16 : (Jvm.Cond.code ({ cls := "java/lang/String", name := "isLatin1", desc := "()Z" } : Jvm.MethodName) jdk_42_method_154_code (1 : Nat) (Option.some Jvm.ClassFile.FieldType.boolean)).before args0 about1 = true := code_word (m := ⟨8, 7⟩) (meth := k8m7) (c := k8c7) (by decide +kernel) rfl rfl rfl (by decide +kernel)
set_option maxRecDepth 65536 in
theorem w_c17 : (Jvm.Cond.code ({ cls := "java/lang/StringLatin1", name := "charAt", desc := "([BI)C" } : Jvm.MethodName) jdk_43_method_2_code (2 : Nat) (Option.some Jvm.ClassFile.FieldType.char)).before args0 about1 = true := code_word (m := ⟨12, 1⟩) (meth := k12m1) (c := k12c1) (by decide +kernel) rfl rfl rfl (by decide +kernel)
set_option maxRecDepth 65536 in
theorem w_c18 : (Jvm.Cond.code ({ cls := "java/lang/String", name := "checkIndex", desc := "(II)V" } : Jvm.MethodName) jdk_42_method_155_code (2 : Nat) (Option.none : Option Jvm.ClassFile.FieldType)).before args0 about1 = true := code_word (m := ⟨8, 8⟩) (meth := k8m8) (c := k8c8) (by decide +kernel) rfl rfl rfl (by decide +kernel)
set_option maxRecDepth 65536 in
theorem w_c19 : (Jvm.Cond.code ({ cls := "jdk/internal/util/Preconditions", name := "checkIndex", desc := "(IILjava/util/function/BiFunction;)I" } : Jvm.MethodName) jdk_41_method_11_code (3 : Nat) (Option.some Jvm.ClassFile.FieldType.int)).before args0 about1 = true := code_word (m := ⟨13, 1⟩) (meth := k13m1) (c := k13c1) (by decide +kernel) rfl rfl rfl (by decide +kernel)
set_option maxRecDepth 65536 in
theorem w_c20 : (Jvm.Cond.code ({ cls := "com/example/relate_by_hash/relatebyhash/ctph/CtphDigest", name := "isBase64", desc := "(C)Z" } : Jvm.MethodName) prog_15_method_12_code (1 : Nat) (Option.some Jvm.ClassFile.FieldType.boolean)).before args0 about1 = true := code_word (m := ⟨2, 4⟩) (meth := k2m4) (c := k2c4) (by decide +kernel) rfl rfl rfl (by decide +kernel)
set_option maxRecDepth 65536 in
theorem w_c21 : (Jvm.Cond.code ({ cls := "com/example/relate_by_hash/relatebyhash/ctph/CtphDigestEqualsPinLaw", name := "sameSig", desc := "(II)Z" } : Jvm.MethodName) method_5_code (4 : Nat) (Option.some Jvm.ClassFile.FieldType.boolean)).before args0 about1 = true := code_word (m := ⟨1, 4⟩) (meth := k1m4) (c := k1c4) (by decide +kernel) rfl rfl rfl (by decide +kernel)
set_option maxRecDepth 65536 in
theorem w_c22 : (Jvm.Cond.code ({ cls := "com/example/relate_by_hash/relatebyhash/ctph/CtphDigest", name := "equals", desc := "(Ljava/lang/Object;)Z" } : Jvm.MethodName) prog_15_method_7_code (3 : Nat) (Option.some Jvm.ClassFile.FieldType.boolean)).before args0 about1 = true := code_word (m := ⟨2, 1⟩) (meth := k2m1) (c := k2c1) (by decide +kernel) rfl rfl rfl (by decide +kernel)
set_option maxRecDepth 65536 in
theorem w_c23 : (Jvm.Cond.code ({ cls := "java/lang/String", name := "equals", desc := "(Ljava/lang/Object;)Z" } : Jvm.MethodName) jdk_42_method_66_code (3 : Nat) (Option.some Jvm.ClassFile.FieldType.boolean)).before args0 about1 = true := code_word (m := ⟨8, 4⟩) (meth := k8m4) (c := k8c4) (by decide +kernel) rfl rfl rfl (by decide +kernel)
set_option maxRecDepth 65536 in
theorem w_c24 : (Jvm.Cond.code ({ cls := "java/lang/StringLatin1", name := "equals", desc := "([B[B)Z" } : Jvm.MethodName) jdk_43_method_13_code (3 : Nat) (Option.some Jvm.ClassFile.FieldType.boolean)).before args0 about1 = true := code_word (m := ⟨12, 2⟩) (meth := k12m2) (c := k12c2) (by decide +kernel) rfl rfl rfl (by decide +kernel)
set_option maxRecDepth 65536 in
theorem w_c25 : (Jvm.Cond.code ({ cls := "java/lang/Integer", name := "valueOf", desc := "(I)Ljava/lang/Integer;" } : Jvm.MethodName) jdk_33_method_22_code (1 : Nat) (Option.some (Jvm.ClassFile.FieldType.object "java/lang/Integer"))).before args0 about1 = true := code_word (m := ⟨14, 0⟩) (meth := k14m0) (c := k14c0) (by decide +kernel) rfl rfl rfl (by decide +kernel)
set_option maxRecDepth 65536 in
theorem w_c26 : (Jvm.Cond.code ({ cls := "java/lang/Integer", name := "<init>", desc := "(I)V" } : Jvm.MethodName) jdk_33_method_23_code (2 : Nat) (Option.none : Option Jvm.ClassFile.FieldType)).before args0 about1 = true := code_word (m := ⟨14, 1⟩) (meth := k14m1) (c := k14c1) (by decide +kernel) rfl rfl rfl (by decide +kernel)
set_option maxRecDepth 65536 in
theorem w_c27 : (Jvm.Cond.code ({ cls := "java/lang/Number", name := "<init>", desc := "()V" } : Jvm.MethodName) jdk_18_method_1_code (1 : Nat) (Option.none : Option Jvm.ClassFile.FieldType)).before args0 about1 = true := code_word (m := ⟨10, 0⟩) (meth := k10m0) (c := k10c0) (by decide +kernel) rfl rfl rfl (by decide +kernel)
def codes1 : List Jvm.Cond := [Jvm.Cond.code x code maxLocals ret, Jvm.Cond.code ({ cls := "com/example/relate_by_hash/relatebyhash/ctph/CtphDigestEqualsPinLaw", name := "sig", desc := "(I)Ljava/lang/String;" } : Jvm.MethodName) method_4_code (5 : Nat) (Option.some (Jvm.ClassFile.FieldType.object "java/lang/String")), Jvm.Cond.code ({ cls := "com/example/relate_by_hash/relatebyhash/ctph/CtphDigestEqualsPinLaw", name := "b64", desc := "(I)C" } : Jvm.MethodName) method_3_code (1 : Nat) (Option.some Jvm.ClassFile.FieldType.char), Jvm.Cond.code ({ cls := "java/lang/String", name := "<init>", desc := "([C)V" } : Jvm.MethodName) jdk_42_method_3_code (2 : Nat) (Option.none : Option Jvm.ClassFile.FieldType), Jvm.Cond.code ({ cls := "java/lang/String", name := "<init>", desc := "([CIILjava/lang/Void;)V" } : Jvm.MethodName) jdk_42_method_149_code (6 : Nat) (Option.none : Option Jvm.ClassFile.FieldType), Jvm.Cond.code ({ cls := "java/lang/Object", name := "<init>", desc := "()V" } : Jvm.MethodName) object_method_1_code (1 : Nat) (Option.none : Option Jvm.ClassFile.FieldType), Jvm.Cond.code ({ cls := "java/lang/StringUTF16", name := "compress", desc := "([CII)[B" } : Jvm.MethodName) jdk_52_method_16_code (6 : Nat) (Option.some (Jvm.ClassFile.FieldType.array Jvm.ClassFile.FieldType.byte)), Jvm.Cond.code ({ cls := "java/lang/StringUTF16", name := "compress", desc := "([CI[BII)I" } : Jvm.MethodName) jdk_52_method_21_code (7 : Nat) (Option.some Jvm.ClassFile.FieldType.int), Jvm.Cond.code ({ cls := "java/lang/StringUTF16", name := "coderFromArrayLen", desc := "([BI)B" } : Jvm.MethodName) jdk_52_method_15_code (2 : Nat) (Option.some Jvm.ClassFile.FieldType.byte), Jvm.Cond.code ({ cls := "com/example/relate_by_hash/relatebyhash/ctph/CtphDigest", name := "<init>", desc := "(JLjava/lang/String;Ljava/lang/String;)V" } : Jvm.MethodName) prog_15_method_1_code (5 : Nat) (Option.none : Option Jvm.ClassFile.FieldType), Jvm.Cond.code ({ cls := "com/example/relate_by_hash/relatebyhash/ctph/CtphDigest", name := "isValidBlockSize", desc := "(J)Z" } : Jvm.MethodName) prog_15_method_9_code (2 : Nat) (Option.some Jvm.ClassFile.FieldType.boolean), Jvm.Cond.code ({ cls := "java/lang/Long", name := "bitCount", desc := "(J)I" } : Jvm.MethodName) jdk_35_method_50_code (2 : Nat) (Option.some Jvm.ClassFile.FieldType.int), Jvm.Cond.code ({ cls := "com/example/relate_by_hash/relatebyhash/ctph/CtphDigest", name := "checkSignature", desc := "(Ljava/lang/String;Ljava/lang/String;I)V" } : Jvm.MethodName) prog_15_method_11_code (5 : Nat) (Option.none : Option Jvm.ClassFile.FieldType), Jvm.Cond.code ({ cls := "java/lang/String", name := "length", desc := "()I" } : Jvm.MethodName) jdk_42_method_54_code (1 : Nat) (Option.some Jvm.ClassFile.FieldType.int), Jvm.Cond.code ({ cls := "java/lang/String", name := "coder", desc := "()B" } : Jvm.MethodName) jdk_42_method_152_code (1 : Nat) (Option.some Jvm.ClassFile.FieldType.byte), Jvm.Cond.code ({ cls := "java/lang/String", name := "charAt", desc := "(I)C" } : Jvm.MethodName) jdk_42_method_56_code (2 : Nat) (Option.some Jvm.ClassFile.FieldType.char), Jvm.Cond.code ({ cls := "java/lang/String", name := "isLatin1", desc := "()Z" } : Jvm.MethodName) jdk_42_method_154_code (1 : Nat) (Option.some Jvm.ClassFile.FieldType.boolean), Jvm.Cond.code ({ cls := "java/lang/StringLatin1", name := "charAt", desc := "([BI)C" } : Jvm.MethodName) jdk_43_method_2_code (2 : Nat) (Option.some Jvm.ClassFile.FieldType.char), Jvm.Cond.code ({ cls := "java/lang/String", name := "checkIndex", desc := "(II)V" } : Jvm.MethodName) jdk_42_method_155_code (2 : Nat) (Option.none : Option Jvm.ClassFile.FieldType), Jvm.Cond.code ({ cls := "jdk/internal/util/Preconditions", name := "checkIndex", desc := "(IILjava/util/function/BiFunction;)I" } : Jvm.MethodName) jdk_41_method_11_code (3 : Nat) (Option.some Jvm.ClassFile.FieldType.int), Jvm.Cond.code ({ cls := "com/example/relate_by_hash/relatebyhash/ctph/CtphDigest", name := "isBase64", desc := "(C)Z" } : Jvm.MethodName) prog_15_method_12_code (1 : Nat) (Option.some Jvm.ClassFile.FieldType.boolean), Jvm.Cond.code ({ cls := "com/example/relate_by_hash/relatebyhash/ctph/CtphDigestEqualsPinLaw", name := "sameSig", desc := "(II)Z" } : Jvm.MethodName) method_5_code (4 : Nat) (Option.some Jvm.ClassFile.FieldType.boolean), Jvm.Cond.code ({ cls := "com/example/relate_by_hash/relatebyhash/ctph/CtphDigest", name := "equals", desc := "(Ljava/lang/Object;)Z" } : Jvm.MethodName) prog_15_method_7_code (3 : Nat) (Option.some Jvm.ClassFile.FieldType.boolean), Jvm.Cond.code ({ cls := "java/lang/String", name := "equals", desc := "(Ljava/lang/Object;)Z" } : Jvm.MethodName) jdk_42_method_66_code (3 : Nat) (Option.some Jvm.ClassFile.FieldType.boolean), Jvm.Cond.code ({ cls := "java/lang/StringLatin1", name := "equals", desc := "([B[B)Z" } : Jvm.MethodName) jdk_43_method_13_code (3 : Nat) (Option.some Jvm.ClassFile.FieldType.boolean), Jvm.Cond.code ({ cls := "java/lang/Integer", name := "valueOf", desc := "(I)Ljava/lang/Integer;" } : Jvm.MethodName) jdk_33_method_22_code (1 : Nat) (Option.some (Jvm.ClassFile.FieldType.object "java/lang/Integer")), Jvm.Cond.code ({ cls := "java/lang/Integer", name := "<init>", desc := "(I)V" } : Jvm.MethodName) jdk_33_method_23_code (2 : Nat) (Option.none : Option Jvm.ClassFile.FieldType), Jvm.Cond.code ({ cls := "java/lang/Number", name := "<init>", desc := "()V" } : Jvm.MethodName) jdk_18_method_1_code (1 : Nat) (Option.none : Option Jvm.ClassFile.FieldType)]
set_option maxRecDepth 65536 in
theorem codes_eq : words1.filter isCode = codes1 := rfl
theorem w_codes : ∀ c ∈ words1.filter isCode, c.before args0 about1 = true := by
  rw [codes_eq]
  intro c hc
  simp only [codes1, List.mem_cons, List.not_mem_nil, or_false] at hc
  rcases hc with rfl | rfl | rfl | rfl | rfl | rfl | rfl | rfl | rfl | rfl | rfl | rfl | rfl | rfl | rfl | rfl | rfl | rfl | rfl | rfl | rfl | rfl | rfl | rfl | rfl | rfl | rfl | rfl
  · exact w_c0
  · exact w_c1
  · exact w_c2
  · exact w_c3
  · exact w_c4
  · exact w_c5
  · exact w_c6
  · exact w_c7
  · exact w_c8
  · exact w_c9
  · exact w_c10
  · exact w_c11
  · exact w_c12
  · exact w_c13
  · exact w_c14
  · exact w_c15
  · exact w_c16
  · exact w_c17
  · exact w_c18
  · exact w_c19
  · exact w_c20
  · exact w_c21
  · exact w_c22
  · exact w_c23
  · exact w_c24
  · exact w_c25
  · exact w_c26
  · exact w_c27
set_option maxRecDepth 65536 in
theorem w_t1 : (words1.take 24).all (fun c => isCode c || c.before args0 about1) = true := by decide +kernel
set_option maxRecDepth 65536 in
theorem w_t2 : ((words1.drop 24).take 24).all (fun c => isCode c || c.before args0 about1) = true := by decide +kernel
set_option maxRecDepth 65536 in
theorem w_t3 : (((words1.drop 24).drop 24).take 24).all (fun c => isCode c || c.before args0 about1) = true := by decide +kernel
set_option maxRecDepth 65536 in
theorem w_t4 : ((((words1.drop 24).drop 24).drop 24).take 24).all (fun c => isCode c || c.before args0 about1) = true := by decide +kernel
set_option maxRecDepth 65536 in
theorem w_t5 : (((((words1.drop 24).drop 24).drop 24).drop 24).take 24).all (fun c => isCode c || c.before args0 about1) = true := by decide +kernel
set_option maxRecDepth 65536 in
theorem w_t6 : ((((((words1.drop 24).drop 24).drop 24).drop 24).drop 24).take 24).all (fun c => isCode c || c.before args0 about1) = true := by decide +kernel
set_option maxRecDepth 65536 in
theorem w_t7 : ((((((words1.drop 24).drop 24).drop 24).drop 24).drop 24).drop 24).all (fun c => isCode c || c.before args0 about1) = true := by decide +kernel
theorem w_tables : (allAtoms (Jvm.Cond.code x code maxLocals ret :: tables_1)).before args0 about1 = true := by
  rw [allAtoms_all]
  show words1.all (fun c => c.before args0 about1) = true
  refine all_split ?_ w_codes
  rw [← List.take_append_drop 24 words1, List.all_append, w_t1, ← List.take_append_drop 24 (words1.drop 24), List.all_append, w_t2, ← List.take_append_drop 24 ((words1.drop 24).drop 24), List.all_append, w_t3, ← List.take_append_drop 24 (((words1.drop 24).drop 24).drop 24), List.all_append, w_t4, ← List.take_append_drop 24 ((((words1.drop 24).drop 24).drop 24).drop 24), List.all_append, w_t5, ← List.take_append_drop 24 (((((words1.drop 24).drop 24).drop 24).drop 24).drop 24), List.all_append, w_t6, w_t7]
  rfl
set_option maxRecDepth 65536 in
theorem w_rest : rest_1_c.before args0 about1 = true := by decide +kernel
set_option maxRecDepth 65536 in
theorem w_case : (Jvm.Cond.and given_1 narrow_1).before args0 about1 = true := by decide +kernel
set_option maxRecDepth 65536 in
theorem w_consts : constsHeld consts_1 about1 := Jvm.Lit.constsHeldB_iff.mp (by decide +kernel)
theorem w_applies : (headSpec (Jvm.Cond.code x code maxLocals ret :: tables_1) room_1).applies x e0.platform about1 = true :=
  (Spec.applies_iff w_frames).mpr ⟨w_running, w_runnable, w_alone, w_named, w_hears, w_ripe, w_room, w_tables⟩
theorem atStart : AtStart classFile x code maxLocals ret World_1 tables_1 room_1 Calls_1 rest_1 Pre_1 launch0 p0 e0 about1 theMethod args0 below0 :=
  ⟨lists_1, trivial, launch0.admits_env _ _ _, launch0.least_env, fairChoices_fair.cas, fairChoices_fair.clock, w_frames, w_args, w_heap, w_applies, ⟨w_consts, trivial⟩, w_rest, w_case⟩
end start1
theorem witness_1 : WitnessClaimed_1 := ⟨start1.p0, start1.e0, start1.about1, start1.theMethod, start1.args0, start1.below0, start1.atStart⟩
end Jvm.Pilot.@@N@@
