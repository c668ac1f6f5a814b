import JvmDerived
import JvmDerived.Pilot.@@N@@Statement
import JvmDerived.Pilot.@@N@@Code
set_option linter.unusedVariables false
set_option linter.unusedSimpArgs false
namespace Jvm.OwnKit
open Sem ClassFile Op Lib Jvm.Stand Jvm.Free Jvm.LawKit Jvm.RoadKit
section Own
variable {p : Program} {l : Launch} {e : Env} {R : Room} {s : State} {m : MethodId} {args : Array Value} {below : List Frame} {meth : Method} {c : Code} {T : State} {locs : List Loc} {cells slots : Nat} {Z : State} {h h' : Heap} {a b : Addr}
theorem retI (X : Stand p l e R s m args below meth c T locs cells slots) (hx : p.tables.exec = Jvm.exec) {pc : Nat} {Ls : Array Slot} {z : Int32} {rest : List Value} (hret : meth.sig.returnType = some .int) (hd : decode c.code pc = .ok (.ireturn, 1)) {fs : List Frame}
    (hl : ∀ (f : JFrame) (acts : List Action), f.method = m → f.locked = none → f.entered = [] → (doReturn e (T.setTop f) acts (some (.int z))).1 = T.setFrames fs) : Steps p.tables e below (T.setTop (mkF m pc Ls (.int z :: rest))) (T.setFrames fs) :=
  retOut X hx hret rfl (Or.inl ⟨rfl, Or.inl rfl, z, rfl⟩) hd hl
/-- the run goes on from S to an end of which G holds -/
def Go (p : Program) (e : Env) (below : List Frame) (S : State) (G : State → Outcome → Prop) : Prop := ∃ s₂ o, Steps p.tables e below S s₂ ∧ s₂.status = .running ∧ Ended s₂ below o ∧ G s₂ o
theorem Go.via {S S' : State} {G : State → Outcome → Prop} (h : ∀ t, Steps p.tables e below S' t → Steps p.tables e below S t) (k : Go p e below S' G) : Go p e below S G := by
  obtain ⟨a, o, h1, r⟩ := k; exact ⟨a, o, h a h1, r⟩
/-- the end: what is returned, what the heap says, what was written -/
abbrev Done (s : State) (Q : Option Value → Heap → List Loc → Prop) (kc ks : Nat) : State → Outcome → Prop := fun s₂ o => ∃ v L, o = .returned v ∧ Q v s₂.heap L ∧ FrameEnd s o s₂ L kc ks
theorem Go.fin {S : State} (X : Stand p l e R s m args below meth c T locs cells slots) (hlk : meth.locks = false) {v : Option Value} (hv : meth.sig.returnType = none → v = none) {Q : Option Value → Heap → List Loc → Prop} {kc ks : Nat}
    (hstep : ∀ fs, (∀ (f : JFrame) (acts : List Action), f.method = m → f.locked = none → f.entered = [] → (doReturn e (T.setTop f) acts v).1 = T.setFrames fs) → Steps p.tables e below S (T.setFrames fs))
    (hQ : Q v T.heap locs) (hc : cells ≤ kc) (hs : slots ≤ ks) : Go p e below S (Done s Q kc ks) := by
  obtain ⟨fs, hr, hrun, hended, hW, hsame⟩ := X.leave (v := v) hv hlk
  exact ⟨_, _, hstep fs hr, hrun, hended, _, _, rfl, hQ, ⟨_, rfl⟩, hW, hsame.mono hc hs⟩
/-- an array of ints, bytes, chars, shorts or booleans, whole -/
def Ia (Z : State) (h : Heap) (a : Addr) (ty : FieldType) (xs : List Int32) : Prop := ∃ c : Cell, Arr Z h a c ty ∧ c.slots = (xs.map Value.int).toArray ∧ xs.length < 2147483648 ∧ ∀ x ∈ xs, fits ty (.int x) = true
variable {ty : FieldType} {xs : List Int32} {ws : List Addr} {sl : Nat} {v w : Value} {j x n : Int32} {k : ClassId} {rest : List Value}
theorem Ia.lt (F : Ia Z h a ty xs) : a < h.size := by obtain ⟨c, A, -⟩ := F; exact A.lt
theorem Ia.ext (F : Ia Z h a ty xs) (E : Ext h h') : Ia Z h' a ty xs := by obtain ⟨c, A, r⟩ := F; exact ⟨c, A.ext E, r⟩
theorem Ia.other (F : Ia Z h b ty xs) (W : Wr h h' a sl v) (q : b ≠ a) : Ia Z h' b ty xs := by obtain ⟨c, A, r⟩ := F; exact ⟨c, A.other W q, r⟩
theorem Ia.keep (F : Ia Z h a ty xs) (K : Keep h h' ws) (q : a ∉ ws) : Ia Z h' a ty xs := by obtain ⟨c, A, r⟩ := F; exact ⟨c, ⟨K.2.1 a c A.1 q, A.2⟩, r⟩
theorem nn_lt {n : Int32} : n.toNatClampNeg < 2147483648 := by
  have h1 := n.toInt_lt
  simp only [Int32.toNatClampNeg]; omega
theorem Ia.new (A : Arr Z h a (newA k ty n) ty) (hd : defaultValue ty = .int 0) (hf : fits ty (.int 0) = true := by rfl) : Ia Z h a ty (List.replicate n.toNatClampNeg 0) := ⟨_, A, by simp [newA, hd], by simp [nn_lt], fun x hx => by rw [(List.mem_replicate.mp hx).2]; exact hf⟩
theorem Ia.hin {cl : Cell} (e : cl.slots = (xs.map Value.int).toArray) (hj : ¬ j < 0) (hlt : j.toNatClampNeg < xs.length) : ¬ (j < 0 ∨ cl.slots.size ≤ j.toNatClampNeg) := by
  rw [e]; simp only [List.size_toArray, List.length_map]; rintro (q | q); exact hj q; omega
theorem Ia.at {cl : Cell} (e : cl.slots = (xs.map Value.int).toArray) (hv : xs[j.toNatClampNeg]? = some x) : cl.slots[j.toNatClampNeg]? = some (.int x) := by
  rw [e]; simp [hv]
theorem lt_of_at (hv : xs[j.toNatClampNeg]? = some x) : j.toNatClampNeg < xs.length := (List.getElem?_eq_some_iff.mp hv).1
theorem Ia.set {cl : Cell} (A : Arr Z h a cl ty) (e : cl.slots = (xs.map Value.int).toArray) (hl : xs.length < 2147483648) (hf : ∀ x ∈ xs, fits ty (.int x) = true) (W : Wr h h' a j.toNatClampNeg (.int x)) (hx : fits ty (.int x) = true) : Ia Z h' a ty (xs.set j.toNatClampNeg x) :=
  ⟨_, A.same W, by simp [Cell.setSlot, e, List.map_set], by simpa using hl, fun y hy => by rcases List.mem_or_eq_of_mem_set hy with q | q; exact hf y q; rw [q]; exact hx⟩
theorem ldI (X : Stand p l e R s m args below meth c T locs cells slots) (hx : p.tables.exec = Jvm.exec) (hZ : Z.Warmed39 s.vm) (eT : T.heap = h) (F : Ia Z h a .int xs) {v : Int32} (hj : ¬ j < 0) (hv : xs[j.toNatClampNeg]? = some v) {g : JFrame} (hg : g.method = m) (hs : g.stack = .int j :: .ref a :: rest) (hd : decode c.code g.pc = .ok (.iaload, 1)) :
    ∀ t, Steps p.tables e below (T.setTop { g with pc := g.pc + 1, stack := .int v :: rest }) t → Steps p.tables e below (T.setTop g) t := by
  obtain ⟨cl, A, q, -⟩ := F
  exact X.iaload hx (j := j) (v := .int v) (by rw [eT]; exact A.1) (State.isArrayOf_alike hZ.alike A.2.1) A.2.2 (Ia.hin q hj (lt_of_at hv)) (Ia.at q hv) hg hs hd
theorem ldB (X : Stand p l e R s m args below meth c T locs cells slots) (hx : p.tables.exec = Jvm.exec) (hZ : Z.Warmed39 s.vm) (eT : T.heap = h) (F : Ia Z h a .byte xs) {v : Int32} (hj : ¬ j < 0) (hv : xs[j.toNatClampNeg]? = some v) {g : JFrame} (hg : g.method = m) (hs : g.stack = .int j :: .ref a :: rest) (hd : decode c.code g.pc = .ok (.baload, 1)) :
    ∀ t, Steps p.tables e below (T.setTop { g with pc := g.pc + 1, stack := .int v :: rest }) t → Steps p.tables e below (T.setTop g) t := by
  obtain ⟨cl, A, q, -⟩ := F
  exact X.baloadBytes hx (j := j) (v := .int v) (by rw [eT]; exact A.1) (State.isArrayOf_alike hZ.alike A.2.1) A.2.2 (Ia.hin q hj (lt_of_at hv)) (Ia.at q hv) hg hs hd
theorem ldC (X : Stand p l e R s m args below meth c T locs cells slots) (hx : p.tables.exec = Jvm.exec) (hZ : Z.Warmed39 s.vm) (eT : T.heap = h) (F : Ia Z h a .char xs) {v : Int32} (hj : ¬ j < 0) (hv : xs[j.toNatClampNeg]? = some v) {g : JFrame} (hg : g.method = m) (hs : g.stack = .int j :: .ref a :: rest) (hd : decode c.code g.pc = .ok (.caload, 1)) :
    ∀ t, Steps p.tables e below (T.setTop { g with pc := g.pc + 1, stack := .int v :: rest }) t → Steps p.tables e below (T.setTop g) t := by
  obtain ⟨cl, A, q, -⟩ := F
  exact X.caload hx (j := j) (v := .int v) (by rw [eT]; exact A.1) (State.isArrayOf_alike hZ.alike A.2.1) A.2.2 (Ia.hin q hj (lt_of_at hv)) (Ia.at q hv) hg hs hd
theorem stI' (X : Stand p l e R s m args below meth c T locs cells slots) (hx : p.tables.exec = Jvm.exec) (hZ : Z.Warmed39 s.vm) (eT : T.heap = h) (F : Ia Z h a .int xs) (hj : ¬ j < 0) (hlt : j.toNatClampNeg < xs.length) {g : JFrame} (hg : g.method = m) (hs : g.stack = .int x :: .int j :: .ref a :: rest) (hd : decode c.code g.pc = .ok (.iastore, 1)) :
    ∃ T' h', Stand p l e R s m args below meth c T' (locs ++ [⟨a, j.toNatClampNeg⟩]) cells slots ∧ T'.heap = h' ∧ Wr h h' a j.toNatClampNeg (.int x) ∧ Ia Z h' a .int (xs.set j.toNatClampNeg x) ∧ ∀ t, Steps p.tables e below (T'.setTop { g with pc := g.pc + 1, stack := rest }) t → Steps p.tables e below (T.setTop g) t := by
  obtain ⟨cl, A, q, hl, hf⟩ := F
  obtain ⟨T', h', X', e', W, st⟩ := stI X hx hZ eT A (Ia.hin q hj hlt) hg hs hd
  exact ⟨T', h', X', e', W, Ia.set A q hl hf W rfl, st⟩
theorem stB' (X : Stand p l e R s m args below meth c T locs cells slots) (hx : p.tables.exec = Jvm.exec) (hZ : Z.Warmed39 s.vm) (eT : T.heap = h) (F : Ia Z h a .byte xs) (hj : ¬ j < 0) (hlt : j.toNatClampNeg < xs.length) {g : JFrame} (hg : g.method = m) (hs : g.stack = .int x :: .int j :: .ref a :: rest) (hd : decode c.code g.pc = .ok (.bastore, 1)) :
    ∃ T' h', Stand p l e R s m args below meth c T' (locs ++ [⟨a, j.toNatClampNeg⟩]) cells slots ∧ T'.heap = h' ∧ Wr h h' a j.toNatClampNeg (.int (nar .byte x)) ∧ Ia Z h' a .byte (xs.set j.toNatClampNeg (nar .byte x)) ∧ ∀ t, Steps p.tables e below (T'.setTop { g with pc := g.pc + 1, stack := rest }) t → Steps p.tables e below (T.setTop g) t := by
  obtain ⟨cl, A, q, hl, hf⟩ := F
  obtain ⟨T', h', X', e', W, st⟩ := stB X hx hZ eT A (Ia.hin q hj hlt) hg hs hd
  exact ⟨T', h', X', e', W, Ia.set A q hl hf W (fits_nar_byte x), st⟩
theorem stC' (X : Stand p l e R s m args below meth c T locs cells slots) (hx : p.tables.exec = Jvm.exec) (hZ : Z.Warmed39 s.vm) (eT : T.heap = h) (F : Ia Z h a .char xs) (hj : ¬ j < 0) (hlt : j.toNatClampNeg < xs.length) {g : JFrame} (hg : g.method = m) (hs : g.stack = .int x :: .int j :: .ref a :: rest) (hd : decode c.code g.pc = .ok (.castore, 1)) :
    ∃ T' h', Stand p l e R s m args below meth c T' (locs ++ [⟨a, j.toNatClampNeg⟩]) cells slots ∧ T'.heap = h' ∧ Wr h h' a j.toNatClampNeg (.int (nar .char x)) ∧ Ia Z h' a .char (xs.set j.toNatClampNeg (nar .char x)) ∧ ∀ t, Steps p.tables e below (T'.setTop { g with pc := g.pc + 1, stack := rest }) t → Steps p.tables e below (T.setTop g) t := by
  obtain ⟨cl, A, q, hl, hf⟩ := F
  obtain ⟨T', h', X', e', W, st⟩ := stC X hx hZ eT A (Ia.hin q hj hlt) hg hs hd
  exact ⟨T', h', X', e', W, Ia.set A q hl hf W (fits_nar_char x), st⟩
theorem lenI (X : Stand p l e R s m args below meth c T locs cells slots) (hx : p.tables.exec = Jvm.exec) (hZ : Z.Warmed39 s.vm) (eT : T.heap = h) (F : Ia Z h a ty xs) (hn : xs.length.toInt32 = n) {g : JFrame} (hg : g.method = m) (hs : g.stack = .ref a :: rest) (hd : decode c.code g.pc = .ok (.arraylength, 1)) :
    ∀ t, Steps p.tables e below (T.setTop { g with pc := g.pc + 1, stack := .int n :: rest }) t → Steps p.tables e below (T.setTop g) t := by
  obtain ⟨cl, A, q, -⟩ := F
  have q2 : cl.slots.size.toInt32 = n := by rw [q]; simpa using hn
  have := X.arraylength hx (by rw [eT]; exact A.1) (State.isArrayOf_alike hZ.alike A.2.1) hg hs hd
  rw [q2] at this
  exact this
theorem len32 (hl : xs.length < 2147483648) : xs.length.toInt32.toNatClampNeg = xs.length ∧ ¬ xs.length.toInt32 < 0 := by
  have h1 : xs.length.toInt32.toInt = (xs.length : Int) := Int32.toInt_ofNat_small hl
  refine ⟨by simp only [Int32.toNatClampNeg]; omega, ?_⟩
  rw [Int32.lt_iff_toInt_lt, h1]
  have : (0 : Int32).toInt = 0 := rfl
  omega
theorem Ia.arv (F : Ia Z h a ty xs) : ∃ k, Arv Z h a k ty xs.length.toInt32 (xs.map Value.int) (.int 0) ∧ xs.length < 2147483648 := by
  obtain ⟨c, A, q, hl, hf⟩ := F
  refine ⟨c.cls, ⟨c, A, rfl, by rw [q, (len32 hl).1]; simp, (len32 hl).2, fun i hi => ?_, fun i hi => ?_⟩, hl⟩
  · have hi2 : i < xs.length := by rw [q] at hi; simpa using hi
    rw [q]; simp [List.getD, hi2]
  · have hi2 : i < xs.length := by rw [q] at hi; simpa using hi
    have := hf xs[i] (List.getElem_mem hi2)
    simpa [List.getD, hi2] using this
theorem Ia.of_arv {z : Int32} {d : Value} (F : Arv Z h a k ty z (xs.map Value.int) d) (hl : xs.length = z.toNatClampNeg) : Ia Z h a ty xs := by
  obtain ⟨c, A, q1, S, N, H, G⟩ := F
  have hn : z.toNatClampNeg < 2147483648 := nn_lt
  refine ⟨c, A, ?_, by omega, fun x hx => ?_⟩
  · apply Array.ext
    · rw [S, ← hl]; simp
    · intro i h1 h2
      have := H i h1
      have h3 : i < xs.length := by rw [hl, ← S]; exact h1
      rw [Array.getElem?_eq_getElem h1] at this
      simpa [List.getD, h3] using this
  · obtain ⟨i, hi, rfl⟩ := List.getElem_of_mem hx
    have := G i (by rw [S, ← hl]; exact hi)
    simpa [List.getD, hi] using this
theorem cpI {ys : List Int32} {sp dp nn : Int32} (X : Stand p l e R s m args below meth c T locs cells slots) (hx : p.tables.exec = Jvm.exec) (hZ : Z.Warmed39 s.vm) {a0 : Array Value} {own : String} {index : Nat} (hown : s.vm.findClass own = some m.cls)
    (w1 : (Cond.methodLink own index Jvm.Stand.acN).before a0 Z = true) (w2 : (Cond.native Jvm.Stand.acN).before a0 Z = true) (w3 : (Cond.static Jvm.Stand.acN).before a0 Z = true) (w4 : (Cond.initialized "java/lang/System").before a0 Z = true) (eT : T.heap = h)
    (A : Ia Z h a ty xs) (B : Ia Z h b ty ys) (hty : refKind ty = false) (h1 : ¬ sp < 0) (h2 : ¬ dp < 0) (h3 : ¬ nn < 0) (h4 : sp.toNatClampNeg + nn.toNatClampNeg ≤ xs.length) (h5 : dp.toNatClampNeg + nn.toNatClampNeg ≤ ys.length)
    {n0 : Nat} (N : Fr n0 locs) (ge : n0 ≤ b)
    {g : JFrame} (hg : g.method = m) (hsize : g.locals.size = c.maxLocals) {rest : List Value} (hs : g.stack = .int nn :: .int dp :: .ref b :: .int sp :: .ref a :: rest) (hd : decode c.code g.pc = .ok (.invokestatic index, 3))
    (hf : 1 ≤ R.frames) {W : Nat} (hW : 2 * g.monitorRoom + (rest.map fun v => v.category).sum ≤ W) (hlo : W + (nativeFrameWords "java/lang/System" "arraycopy" 5 + 11) ≤ R.locals) :
    ∃ T' h' L, Stand p l e R s m args below meth c T' L cells slots ∧ T'.heap = h' ∧ Fr n0 L ∧ Keep h h' [b] ∧ Ia Z h' b ty (ys.take dp.toNatClampNeg ++ (xs.drop sp.toNatClampNeg).take nn.toNatClampNeg ++ ys.drop (dp.toNatClampNeg + nn.toNatClampNeg)) ∧
      ∀ target, Steps p.tables e below (T'.setTop { g with pc := g.pc + 3, stack := rest }) target → Steps p.tables e below (T.setTop g) target := by
  obtain ⟨k, A', la⟩ := A.arv
  obtain ⟨k', B', lb⟩ := B.arv
  obtain ⟨T', h', L, X', e', N', K', V', st⟩ := cpA X hx hZ hown w1 w2 w3 w4 eT A' B' (us := ((xs.drop sp.toNatClampNeg).take nn.toNatClampNeg).map Value.int) (Or.inl ⟨rfl, hty⟩) h1 h2 h3 (by rw [(len32 la).1]; exact h4) (by rw [(len32 lb).1]; exact h5)
    (by
      apply List.ext_getElem
      · simp; omega
      · intro i q1 q2
        have q3 : i < nn.toNatClampNeg := by simpa using q2
        have q4 : sp.toNatClampNeg + i < xs.length := by omega
        simp [List.getD, q4])
    (by simpa using h5) N ge hg hsize hs hd hf hW hlo
  refine ⟨T', h', L, X', e', N', K', Ia.of_arv (k := k') (z := ys.length.toInt32) (d := .int 0) ?_ ?_, st⟩
  · simpa [List.map_append, List.map_take, List.map_drop] using V'
  · rw [(len32 lb).1]; simp; omega
theorem cloneI (X : Stand p l e R s m args below meth c T locs cells slots) (hx : p.tables.exec = Jvm.exec) (hZ : Z.Warmed39 s.vm) {a0 : Array Value} {own ad : String} {index : Nat} (hown : s.vm.findClass own = some m.cls)
    (w1 : (Cond.methodLink own index ⟨ad, "clone", "()Ljava/lang/Object;"⟩).before a0 Z = true) (w2 : (Cond.sameMethod ad "java/lang/Object" "clone" "()Ljava/lang/Object;").before a0 Z = true) (w3 : (Cond.native ⟨"java/lang/Object", "clone", "()Ljava/lang/Object;"⟩).before a0 Z = true)
    (w4 : (Cond.instanceMethod ⟨"java/lang/Object", "clone", "()Ljava/lang/Object;"⟩).before a0 Z = true) (w5 : (Cond.selects ad ⟨ad, "clone", "()Ljava/lang/Object;"⟩ ⟨"java/lang/Object", "clone", "()Ljava/lang/Object;"⟩).before a0 Z = true) (w6 : (Cond.castable ad "java/lang/Cloneable").before a0 Z = true)
    (eT : T.heap = h) (F : Ia Z h a ty xs) (E : Exa Z h a ad) {g : JFrame} (hg : g.method = m) (hsize : g.locals.size = c.maxLocals) {rest : List Value} (hst : g.stack = .ref a :: rest) (hd : decode c.code g.pc = .ok (.invokevirtual index, 3))
    (hf : 1 ≤ R.frames) {W cap : Nat} (hW : 2 * g.monitorRoom + (rest.map fun v => v.category).sum ≤ W) (hl : W + 14 ≤ R.locals) (hcap : xs.length ≤ cap) (hc : cells + 1 ≤ R.cells) (hsl : slots + cap ≤ R.slots) :
    ∃ T' h', Stand p l e R s m args below meth c T' locs (cells + 1) (slots + cap) ∧ T'.heap = h' ∧ Ext h h' ∧ Ia Z h' h.size ty xs ∧ Exa Z h' h.size ad ∧
      ∀ target, Steps p.tables e below (T'.setTop { g with pc := g.pc + 3, stack := .ref h.size :: rest }) target → Steps p.tables e below (T.setTop g) target := by
  obtain ⟨k, A, la⟩ := F.arv
  obtain ⟨T', h', X', e', ex, A', E', st⟩ := cloneH X hx hZ hown w1 w2 w3 w4 w5 w6 eT A.arh E hg hsize hst hd hf hW hl (by rw [(len32 la).1]; exact hcap) hc hsl
  exact ⟨T', h', X', e', ex, Ia.of_arv (k := k) (z := xs.length.toInt32) (d := .int 0) A' (len32 la).1.symm, E', st⟩
theorem selP {a0 : Array Value} {y : MethodName} {kk : Nat} (hZ : Z.Warmed39 s.vm) (wi : (Cond.instantiable y.cls kk).before a0 Z = true) (wp : (Cond.privateMethod y).before a0 Z = true) (wm : (Cond.instanceMethod y).before a0 Z = true) (hy : y.cls ≠ "java/lang/invoke/MethodHandle" ∧ y.cls ≠ "java/lang/invoke/VarHandle") : (Cond.selects y.cls y y).before args s = true := by
  obtain ⟨c, k, h1, h2, -, h4, -⟩ := Cond.instantiable_spec (mvT (args := args) hZ wi)
  exact selects_self_of_private h1 h2 (by simp only [Bool.or_eq_false_iff] at h4; exact h4.1) (Cond.privateMethod_at (mvP hZ wp (args := args))) (mvT hZ wm) hy
end Own
end Jvm.OwnKit
namespace Jvm.OwnKit
open Sem ClassFile Op Lib Jvm.Stand Jvm.Free Jvm.LawKit Jvm.RoadKit
section Own2
variable {p : Program} {l : Launch} {e : Env} {R : Room} {s : State} {m : MethodId} {args : Array Value} {below : List Frame} {meth : Method} {c : Code} {T : State} {locs : List Loc} {cells slots : Nat} {Z : State} {h h' : Heap} {a b : Addr}
/-- an array of references, whole, with what may lie in it -/
def Ra (Z : State) (h : Heap) (a : Addr) (C : String) (vs : List Value) : Prop := ∃ c : Cell, Arr Z h a c (.object C) ∧ Ovr Z c.cls C ∧ c.slots = vs.toArray ∧ vs.length < 2147483648
/-- an array of which the length alone is known -/
def Rn (Z : State) (h : Heap) (a : Addr) (n : Int32) : Prop := ∃ (c : Cell) (ty : FieldType), Arr Z h a c ty ∧ c.slots.size.toInt32 = n
variable {C : String} {vs : List Value} {ws : List Addr} {sl : Nat} {v w : Value} {j n : Int32} {k : ClassId} {rest : List Value}
theorem Ra.lt (F : Ra Z h a C vs) : a < h.size := by obtain ⟨c, A, -⟩ := F; exact A.lt
theorem Ra.ext (F : Ra Z h a C vs) (E : Ext h h') : Ra Z h' a C vs := by obtain ⟨c, A, r⟩ := F; exact ⟨c, A.ext E, r⟩
theorem Ra.other (F : Ra Z h b C vs) (W : Wr h h' a sl v) (q : b ≠ a) : Ra Z h' b C vs := by obtain ⟨c, A, r⟩ := F; exact ⟨c, A.other W q, r⟩
theorem Ra.keep (F : Ra Z h a C vs) (K : Keep h h' ws) (q : a ∉ ws) : Ra Z h' a C vs := by obtain ⟨c, A, r⟩ := F; exact ⟨c, ⟨K.2.1 a c A.1 q, A.2⟩, r⟩
theorem Rn.lt (F : Rn Z h a n) : a < h.size := by obtain ⟨c, ty, A, -⟩ := F; exact A.lt
theorem Rn.ext (F : Rn Z h a n) (E : Ext h h') : Rn Z h' a n := by obtain ⟨c, ty, A, r⟩ := F; exact ⟨c, ty, A.ext E, r⟩
theorem Rn.other (F : Rn Z h b n) (W : Wr h h' a sl v) (q : b ≠ a) : Rn Z h' b n := by obtain ⟨c, ty, A, r⟩ := F; exact ⟨c, ty, A.other W q, r⟩
theorem Rn.keep (F : Rn Z h a n) (K : Keep h h' ws) (q : a ∉ ws) : Rn Z h' a n := by obtain ⟨c, ty, A, r⟩ := F; exact ⟨c, ty, ⟨K.2.1 a c A.1 q, A.2⟩, r⟩
theorem Ra.new (A : Arr Z h a (newA k (.object C) n) (.object C)) (O : Ovr Z k C) : Ra Z h a C (List.replicate n.toNatClampNeg .null) := ⟨_, A, O, by simp [newA, defaultValue], by simp [nn_lt]⟩
theorem Ra.hin {cl : Cell} (e : cl.slots = vs.toArray) (hj : ¬ j < 0) (hlt : j.toNatClampNeg < vs.length) : ¬ (j < 0 ∨ cl.slots.size ≤ j.toNatClampNeg) := by
  rw [e]; simp only [List.size_toArray]; rintro (q | q); exact hj q; omega
theorem ldR (X : Stand p l e R s m args below meth c T locs cells slots) (hx : p.tables.exec = Jvm.exec) (hZ : Z.Warmed39 s.vm) (eT : T.heap = h) (F : Ra Z h a C vs) {v : Value} (hj : ¬ j < 0) (hv : vs[j.toNatClampNeg]? = some v) {g : JFrame} (hg : g.method = m) (hs : g.stack = .int j :: .ref a :: rest) (hd : decode c.code g.pc = .ok (.aaload, 1)) :
    ∀ t, Steps p.tables e below (T.setTop { g with pc := g.pc + 1, stack := v :: rest }) t → Steps p.tables e below (T.setTop g) t := by
  obtain ⟨cl, A, -, q, -⟩ := F
  exact X.aaload hx (j := j) (v := v) (by rw [eT]; exact A.1) (State.isArrayOf_alike hZ.alike A.2.1) rfl A.2.2 (Ra.hin q hj (List.getElem?_eq_some_iff.mp hv).1) (by rw [q]; simpa using hv) hg hs hd
theorem stR' {y : Addr} (X : Stand p l e R s m args below meth c T locs cells slots) (hx : p.tables.exec = Jvm.exec) (hZ : Z.Warmed39 s.vm) (eT : T.heap = h) (F : Ra Z h a C vs) (I : Ins Z h y C true) (hj : ¬ j < 0) (hlt : j.toNatClampNeg < vs.length) {g : JFrame} (hg : g.method = m) (hs : g.stack = .ref y :: .int j :: .ref a :: rest) (hd : decode c.code g.pc = .ok (.aastore, 1)) :
    ∃ T' h', Stand p l e R s m args below meth c T' (locs ++ [⟨a, j.toNatClampNeg⟩]) cells slots ∧ T'.heap = h' ∧ Wr h h' a j.toNatClampNeg (.ref y) ∧ Ra Z h' a C (vs.set j.toNatClampNeg (.ref y)) ∧ ∀ t, Steps p.tables e below (T'.setTop { g with pc := g.pc + 1, stack := rest }) t → Steps p.tables e below (T.setTop g) t := by
  obtain ⟨cl, A, O, q, hl⟩ := F
  obtain ⟨T', h', X', e', W, st⟩ := stR X hx hZ eT A (Ra.hin q hj hlt) rfl (Sto.of A O I) hg hs hd
  exact ⟨T', h', X', e', W, ⟨_, A.same W, O, by simp [Cell.setSlot, q], by simpa using hl⟩, st⟩
theorem lenR (X : Stand p l e R s m args below meth c T locs cells slots) (hx : p.tables.exec = Jvm.exec) (hZ : Z.Warmed39 s.vm) (eT : T.heap = h) (F : Ra Z h a C vs) (hn : vs.length.toInt32 = n) {g : JFrame} (hg : g.method = m) (hs : g.stack = .ref a :: rest) (hd : decode c.code g.pc = .ok (.arraylength, 1)) :
    ∀ t, Steps p.tables e below (T.setTop { g with pc := g.pc + 1, stack := .int n :: rest }) t → Steps p.tables e below (T.setTop g) t := by
  obtain ⟨cl, A, -, q, -⟩ := F
  have q2 : cl.slots.size.toInt32 = n := by rw [q]; simpa using hn
  have := X.arraylength hx (by rw [eT]; exact A.1) (State.isArrayOf_alike hZ.alike A.2.1) hg hs hd
  rw [q2] at this
  exact this
theorem lenN (X : Stand p l e R s m args below meth c T locs cells slots) (hx : p.tables.exec = Jvm.exec) (hZ : Z.Warmed39 s.vm) (eT : T.heap = h) (F : Rn Z h a n) {g : JFrame} (hg : g.method = m) (hs : g.stack = .ref a :: rest) (hd : decode c.code g.pc = .ok (.arraylength, 1)) :
    ∀ t, Steps p.tables e below (T.setTop { g with pc := g.pc + 1, stack := .int n :: rest }) t → Steps p.tables e below (T.setTop g) t := by
  obtain ⟨cl, ty, A, q2⟩ := F
  have := X.arraylength hx (by rw [eT]; exact A.1) (State.isArrayOf_alike hZ.alike A.2.1) hg hs hd
  rw [q2] at this
  exact this
end Own2
end Jvm.OwnKit
namespace Jvm.OwnKit
open Sem ClassFile Op Lib Jvm.Stand Jvm.Free Jvm.LawKit Jvm.RoadKit Bundle
section Own3
variable {p : Program} {l : Launch} {e : Env} {R : Room} {s : State} {m : MethodId} {args : Array Value} {below : List Frame} {meth : Method} {c : Code} {T : State} {locs : List Loc} {cells slots : Nat} {Z : State} {h h' : Heap} {a b : Addr} {a0 : Array Value}
/-- the end of a body that may have interned -/
abbrev DoneW (s : State) (Q : Option Value → Heap → Vm → List Loc → Prop) (kc ks : Nat) : State → Outcome → Prop := fun s₂ o => ∃ v L, o = .returned v ∧ Q v s₂.heap s₂.vm L ∧ ReturnedEndW s o s₂ L kc ks
theorem rew_mono {s t : State} {o : Outcome} {L : List Loc} {k n k' n' : Nat} (h : ReturnedEndW s o t L k n) (hk : k ≤ k') (hn : n ≤ n') : ReturnedEndW s o t L k' n' := ⟨h.1, h.2.1, h.2.2.1, h.2.2.2.mono hk hn⟩
theorem Go.finW {S : State} {vm₁ : Vm} (X : Stand p l e R (s.setVm vm₁) m args below meth c T locs cells slots) {n : Nat} (hS : s.Since vm₁ n) (hn : n ≤ T.heap.size) (hlk : meth.locks = false) {v : Option Value} (hv : meth.sig.returnType = none → v = none) {Q : Option Value → Heap → Vm → List Loc → Prop} {kc ks : Nat}
    (hstep : ∀ fs, (∀ (f : JFrame) (acts : List Action), f.method = m → f.locked = none → f.entered = [] → (doReturn e (T.setTop f) acts v).1 = T.setFrames fs) → Steps p.tables e below S (T.setFrames fs))
    (hQ : Q v T.heap T.vm locs) (hc : cells ≤ kc) (hs : slots ≤ ks) : Go p e below S (DoneW s Q kc ks) := by
  obtain ⟨fs, hr, hrun, hended, hW⟩ := X.leaveW hS hn (v := v) hv hlk
  exact ⟨_, _, hstep fs hr, hrun, hended, _, _, rfl, hQ, rew_mono hW hc hs⟩
/-- RoadKit's backOfS with a word on the tables ahead of the call and behind it -/
theorem backOfV {y : MethodName} {bytes : ByteArray} {maxL : Nat} {ret : Option FieldType} {rm : Room} {len W : Nat} {as' : Array Value} {V : Vm → Prop} {Q : Option Value → Heap → Vm → List Loc → Prop}
    (hM : MetFree l y (head1 [Cond.code y bytes maxL ret] rm) (fun a U => a = as' ∧ Z.Warmed39 U.vm ∧ U.heap = h ∧ V U.vm) (fun _ _ _ _ _ => True) (fun _ U o U' => ∃ v L, o = .returned v ∧ Q v U'.heap U'.vm L ∧ ReturnedEndW U o U' L rm.cells rm.slots))
    (hZ : Z.Warmed39 s.vm) (wc : (Cond.code y bytes maxL ret).before a0 Z = true) (wz : (Cond.initialized y.cls).before a0 Z = true) (hf : rm.frames + 1 ≤ R.frames) (hl : W + (maxL + 11) + rm.locals ≤ R.locals) (hV : ∀ vm', s.WarmedH vm' → V vm') :
    BackS l R p e below s args y len W (fun A a => a = as' ∧ A.U.heap = h ∧ A.cells + rm.cells ≤ R.cells ∧ A.slots + rm.slots ≤ R.slots)
      (fun A _ v B => ∃ L, Q v B.U.heap B.U.vm L ∧ B.locs = A.locs ++ L ∧ B.cells = A.cells + rm.cells ∧ B.slots = A.slots + rm.slots) :=
  BackS.of_freeW (bytes := bytes) (maxL := maxL) (ret := ret) (E := fun _ _ o t L k n => k = rm.cells ∧ n = rm.slots ∧ ∃ v, o = .returned v ∧ Q v t.heap t.vm L) hM hf hl
    (fun m meth c A a Y hp => have hU : Z.Warmed39 A.U.vm := wtrans hZ Y.warmed
      ⟨by show (Cond.and _ .tt).before a A.U = true; rw [Cond.before_and, mv hU wc]; rfl, mv hU wc, mv hU wz, hp.2.2.1, hp.2.2.2⟩)
    (fun m meth c A a g mk Y hp => ⟨hp.1, wtrans hZ Y.warmed, hp.2.1, hV _ Y.warmed⟩) (fun _ _ _ _ _ _ _ _ _ => trivial)
    (fun _ _ _ _ ⟨v, L, h1, h2, h3⟩ => ⟨L, _, _, h3, rfl, rfl, v, h1, h2⟩)
    (fun m meth c A a g mk v t L k n Y hp _ _ ⟨e1, e2, v', e3, e4⟩ => by cases e3; subst e1 e2; exact ⟨L, e4, rfl, rfl, rfl⟩)
theorem IB.still {vm vm' : Vm} {Ts : List String} (I : IB Z vm Ts) (q : vm'.interned = vm.interned) : IB Z vm' Ts := by
  obtain ⟨more, h1, h2⟩ := I; exact ⟨more, q.trans h1, h2⟩
abbrev ST : String := "java/lang/String"
/-- what is known of the texts loaded so far: those of K, and "" whose object is known where it was loaded -/
def Em (Z : State) (vm : Vm) (h : Heap) (K : List String) : Prop := ∃ Ts, IB Z vm Ts ∧ (∀ t ∈ Ts, t = "" ∨ t ∈ K) ∧ ("" ∈ Ts → ∃ a b, Lit (Z.setVm vm) ST 7 a ∧ Exa Z h a ST ∧ Fld Z h a ST "coder" "B" (.int 0) ∧ Fld Z h a ST "value" "[B" (.ref b) ∧ Ia Z h b .byte [])
variable {vm vm' : Vm} {K : List String}
theorem Em.start : Em Z Z.vm h [] := ⟨[], IB.start, by simp, by simp⟩
theorem Em.ext (F : Em Z vm h K) (E : Ext h h') : Em Z vm h' K := by
  obtain ⟨Ts, h1, h2, h3⟩ := F
  refine ⟨Ts, h1, h2, fun q => ?_⟩
  obtain ⟨a, b, r1, r2, r3, r4, r5⟩ := h3 q
  exact ⟨a, b, r1, r2.ext E, r3.ext E, r4.ext E, r5.ext E⟩
theorem Em.keep {ws : List Addr} (F : Em Z vm h K) (W : Keep h h' ws) (hw : ∀ w ∈ ws, ∃ C n, Exa Z h w C ∧ C ≠ ST ∧ (Cond.instantiable C n).before a0 Z = true) : Em Z vm h' K := by
  obtain ⟨Ts, h1, h2, h3⟩ := F
  refine ⟨Ts, h1, h2, fun q => ?_⟩
  obtain ⟨a, b, r1, r2, r3, r4, r5⟩ := h3 q
  have na : a ∉ ws := fun z => by
    obtain ⟨C, n, e1, e2, -⟩ := hw a z
    exact ne_exa e1 r2 e2 rfl
  have nb : b ∉ ws := fun z => by
    obtain ⟨C, n, e1, -, e3⟩ := hw b z
    obtain ⟨c, A, -⟩ := r5
    exact ne_arr e1 e3 A rfl
  exact ⟨a, b, r1, r2.keep W, r3.keep W na, r4.keep W na, r5.keep W nb⟩
theorem Em.wr {w : Addr} {sl n : Nat} {v : Value} {C : String} (F : Em Z vm h K) (W : Wr h h' w sl v) (E : Exa Z h w C) (hC : C ≠ ST) (wi : (Cond.instantiable C n).before a0 Z = true) : Em Z vm h' K :=
  F.keep (Keep.of_wr W) (allS ⟨C, n, E, hC, wi⟩ all0)
theorem Em.still (F : Em Z vm h K) (q : vm'.interned = vm.interned) (hW : (Z.setVm vm).Warmed39 vm') : Em Z vm' h K := by
  obtain ⟨Ts, h1, h2, h3⟩ := F
  refine ⟨Ts, IB.still h1 q, h2, fun q => ?_⟩
  obtain ⟨a, b, r1, r⟩ := h3 q
  exact ⟨a, b, Lit.stays r1 hW, r⟩
theorem w39 {X : Vm} (h : (s.setVm vm).Warmed39 X) : (Z.setVm vm).Warmed39 X := h
/-- 'ldc ""' in String's own code: loaded for the first time or once more -/
theorem ldcE {vm0 : Vm} (X : Stand p l e R (s.setVm vm0) m args below meth c T locs cells slots) (hx : p.tables.exec = Jvm.exec) (hZ : Z.Warmed39 vm0) (hown : vm0.findClass ST = some m.cls) (w : (Cond.stringLink ST 7 "").before a0 Z = true) (wS : ∀ a ∈ Bundle.stringAtoms, a.before a0 Z = true)
    (eT : T.heap = h) {k0 : Nat} (hS : s.Since vm0 k0) (hk : k0 ≤ h.size) (N : Fr s.heap.size locs) (hkeep : ∀ (b : Addr) (cl : Cell), Z.heap[b]? = some cl → s.heap[b]? = some cl) (I : Em Z vm0 h K) (hK : "" ∉ K) (hh : Jvm.Lit.constHeld Z ST 7) (hcw : Jvm.Lit.compactW.before a0 Z = true)
    {g : JFrame} (hg : g.method = m) (hd : decode c.code g.pc = .ok (.ldc 7, 2)) (hc : cells + 2 ≤ R.cells) (hl : slots + 4 ≤ R.slots) :
    ∃ (a : Addr) (T' : State) (h' : Heap) (b : Addr) (k1 : Nat), Stand p l e R (s.setVm T'.vm) m args below meth c T' locs (cells + 2) (slots + 4) ∧ T'.heap = h' ∧ Ext h h' ∧ s.Since T'.vm k1 ∧ k1 ≤ h'.size ∧ Z.Warmed39 T'.vm ∧ T'.vm.findClass ST = some m.cls ∧
      Exa Z h' a ST ∧ Fld Z h' a ST "coder" "B" (.int 0) ∧ Fld Z h' a ST "value" "[B" (.ref b) ∧ Ia Z h' b .byte [] ∧ Lit (Z.setVm T'.vm) ST 7 a ∧ Em Z T'.vm h' K ∧
      ∀ target, Steps p.tables e below (T'.setTop { g with pc := g.pc + 2, stack := .ref a :: g.stack }) target → Steps p.tables e below (T.setTop g) target := by
  obtain ⟨Ts, h1, h2, h3⟩ := I
  by_cases hT : "" ∈ Ts
  · obtain ⟨a, b, r1, r2, r3, r4, r5⟩ := h3 hT
    have st := ldcAgain (Z := Z) (a0 := a0) X hx hZ hown w (L := (r1 : Lit (s.setVm vm0) ST 7 a)) hg hd
    have hW := X.warmed
    obtain ⟨X2, hS2, hZ2, ho2⟩ := rebS (Z := Z) (own := ST) hS hk (X.retabled hW.wide) (hW.since h.size) (Nat.le_refl _) hZ hown
    exact ⟨a, T, h, b, h.size, X2.more (by omega) (by omega), eT, ⟨Nat.le_refl _, fun _ _ q => q⟩, hS2, Nat.le_refl _, hZ2, ho2, r2, r3, r4, r5, Lit.stays r1 (w39 hW.wide), Em.still ⟨Ts, h1, h2, h3⟩ hW.interned_eq (w39 hW.wide), st⟩
  · obtain ⟨a, T', h', k1, b, k, X2, e2, E2, hS2, hk2, hZ2, ho2, r2, r3, r4, r5, -, -, I2, L2, st⟩ := ldcSVL (vs := []) (z := 0) X hx hZ hown w wS eT hS hk N hkeep h1 hT hh hcw ⟨fun c q => by simp at q, rfl⟩ (by decide) rfl hg hd (n := 0) (by decide) (by decide) hc hl
    have r5' : Ia Z h' b .byte [] := Ia.of_arv (xs := []) r5 rfl
    exact ⟨a, T', h', b, k1, X2, e2, E2, hS2, hk2, hZ2, ho2, r2, r3, r4, r5', L2, ⟨"" :: Ts, I2, fun t q => by rcases List.mem_cons.mp q with q | q; exact Or.inl q; exact h2 t q, fun _ => ⟨a, b, L2, r2, r3, r4, r5'⟩⟩, st⟩
end Own3
end Jvm.OwnKit
namespace Jvm.OwnKit
open Sem ClassFile Op Lib Jvm.Stand Jvm.Free Jvm.LawKit Jvm.RoadKit Bundle
section Own4
variable {p : Program} {l : Launch} {e : Env} {R : Room} {s : State} {m : MethodId} {args : Array Value} {below : List Frame} {meth : Method} {c : Code} {T : State} {locs : List Loc} {cells slots : Nat} {Z : State} {h h' : Heap} {a b : Addr} {a0 : Array Value} {vm vm' : Vm} {K : List String} {ty : FieldType} {xs : List Int32}
theorem Ia.neE {C : String} {n : Nat} (F : Ia Z h b ty xs) (E : Exa Z h a C) (wi : (Cond.instantiable C n).before a0 Z = true) : b ≠ a := by
  obtain ⟨c, A, -⟩ := F; exact Ne.symm (ne_arr E wi A)
theorem Em.keep0 (F : Em Z vm h K) (W : Keep h h' []) : Em Z vm h' K := by
  obtain ⟨Ts, h1, h2, h3⟩ := F
  refine ⟨Ts, h1, h2, fun q => ?_⟩
  obtain ⟨a, b, r1, r2, r3, r4, r5⟩ := h3 q
  exact ⟨a, b, r1, r2.keep W, r3.keep W nin0, r4.keep W nin0, r5.keep W nin0⟩
theorem Em.wrx {x : Addr} {n : Nat} (F : Em Z vm h K) (E : Exa Z h x ST) (N : Fld Z h x ST "value" "[B" .null) (wi : (Cond.instantiable ST n).before a0 Z = true) (W : Keep h h' [x]) : Em Z vm h' K := by
  obtain ⟨Ts, h1, h2, h3⟩ := F
  refine ⟨Ts, h1, h2, fun q => ?_⟩
  obtain ⟨a, b, r1, r2, r3, r4, r5⟩ := h3 q
  have na : a ≠ x := Fld.ne r4 N nofun
  have nb : b ≠ x := Ia.neE r5 E wi
  exact ⟨a, b, r1, r2.keep W, r3.keep W (ninS na nin0), r4.keep W (ninS na nin0), r5.keep W (ninS nb nin0)⟩
/-- a String constant whose text is one of K, loaded for the first time or not: what it says is not asked -/
theorem ldcT {vm0 : Vm} {own text : String} {index : Nat} (X : Stand p l e R (s.setVm vm0) m args below meth c T locs cells slots) (hx : p.tables.exec = Jvm.exec) (hZ : Z.Warmed39 vm0) (hown : vm0.findClass own = some m.cls) (w : (Cond.stringLink own index text).before a0 Z = true) (wS : ∀ a ∈ Bundle.stringAtoms, a.before a0 Z = true)
    (eT : T.heap = h) {k0 : Nat} (hS : s.Since vm0 k0) (hk : k0 ≤ h.size) (I : Em Z vm0 h K) (hK : text ∈ K) (hE : text ≠ "")
    {g : JFrame} (hg : g.method = m) (hd : decode c.code g.pc = .ok (.ldc index, 2)) {n : Nat} (hn : 4 * text.toList.length ≤ n) (hbig : n ≤ 536870912) (hc : cells + 2 ≤ R.cells) (hl : slots + (n + 4) ≤ R.slots) :
    ∃ (a : Addr) (T' : State) (h' : Heap) (k1 : Nat), Stand p l e R (s.setVm T'.vm) m args below meth c T' locs (cells + 2) (slots + (n + 4)) ∧ T'.heap = h' ∧ Ext h h' ∧ s.Since T'.vm k1 ∧ k1 ≤ h'.size ∧ Z.Warmed39 T'.vm ∧ T'.vm.findClass own = some m.cls ∧ Em Z T'.vm h' K ∧
      ∀ target, Steps p.tables e below (T'.setTop { g with pc := g.pc + 2, stack := .ref a :: g.stack }) target → Steps p.tables e below (T.setTop g) target := by
  obtain ⟨Ts, h1, h2, h3⟩ := I
  have wS' : ∀ d ∈ Bundle.stringAtoms, d.before args (s.setVm vm0) = true := fun d hd => by
    have q := wS d hd
    have e : Bundle.stringAtoms = [.initialized ST, .instantiable ST 4, .arrayClass .byte, .laysFinal ST ST "value" "[B", .laysFinal ST ST "coder" "B", .soleField ST "value", .soleField ST "coder"] := rfl
    rw [e] at hd
    simp only [List.mem_cons, List.not_mem_nil, or_false] at hd
    rcases hd with rfl | rfl | rfl | rfl | rfl | rfl | rfl
    · exact mv (s := s.setVm vm0) hZ q
    · exact mv (s := s.setVm vm0) hZ q
    · exact mvA (s := s.setVm vm0) hZ q
    · exact mv (s := s.setVm vm0) hZ q
    · exact mv (s := s.setVm vm0) hZ q
    · exact mv (s := s.setVm vm0) hZ q
    · exact mv (s := s.setVm vm0) hZ q
  obtain ⟨a, T', X', hS', -, hb, -, hint, st⟩ := X.ldcColdN hx (own := own) hown (mvS hZ w) wS' hg hd hn hbig hc hl
  subst eT
  have E := ext_of hb
  have hW : Z.Warmed39 T'.vm := State.Warmed39.trans (t := s.setVm vm0) hZ hS'.1
  have hf : T'.vm.findClass own = some m.cls := by rw [hS'.1.alike.findClass]; exact hown
  have hTi : T.vm.interned = vm0.interned := X.warmed.interned_eq
  have I2 : IB Z T'.vm (text :: Ts) := h1.step (by rw [← hTi]; exact hint.imp id fun ⟨us, q1, q2, _⟩ => ⟨us, a, q1, q2⟩)
  refine ⟨a, T', _, _, X', rfl, E, hS.trans hS' (Nat.le_trans hk E.1), Nat.le_refl _, hW, hf, ⟨text :: Ts, I2, fun t q => ?_, fun q => ?_⟩, st⟩
  · rcases List.mem_cons.mp q with q | q
    · exact Or.inr (q ▸ hK)
    · exact h2 t q
  · rcases List.mem_cons.mp q with q | q
    · exact absurd q.symm hE
    · obtain ⟨a', b', r1, r2, r3, r4, r5⟩ := h3 q
      exact ⟨a', b', Lit.stays r1 (w39 hS'.1), r2.ext E, r3.ext E, r4.ext E, r5.ext E⟩
theorem Em.begin : Em Z Z.vm h K := ⟨[], IB.start, by simp, by simp⟩
theorem nar_c (x : Int32) : nar .char (x.toUInt32.toUInt16.toUInt32.toInt32) = x.toUInt32.toUInt16.toUInt32.toInt32 := by
  have h1 := c_i2c x
  have h2 := c_i2c (x.toUInt32.toUInt16.toUInt32.toInt32)
  exact Int32.toInt_inj.mp (by show (x.toUInt32.toUInt16.toUInt32.toInt32).toUInt32.toUInt16.toUInt32.toInt32.toInt = _; omega)
theorem nar_v {x v : Int32} (h : (x.toUInt32.toUInt16.toUInt32.toInt32) = v) : nar .char v = v := h ▸ nar_c x
/-- no object of C is one of K: C's chain of superclasses does not meet K, a class of which there are objects -/
theorem ns_root {O K : String} {n : Nat} (w : (Cond.noSuperclass O).before a0 Z = true) (wk : (Cond.instantiable K n).before a0 Z = true) (hn : O ≠ K) : NS Z O K := by
  obtain ⟨c, k, h1, h2, h3, -, -⟩ := Cond.noSuperclass_spec w
  obtain ⟨t, kt, g1, -⟩ := Cond.instantiable_spec wk
  have ne := ids_ne h1 g1 hn
  refine ⟨c, t, h1, g1, fun fuel => ?_⟩
  cases fuel with
  | zero => rfl
  | succ f => simp [Vm.isSubclassAux, ne, h2, h3]
theorem ns_no {C S K : String} {n : Nat} (w : (Cond.superclass C S).before a0 Z = true) (wk : (Cond.instantiable K n).before a0 Z = true) (q : NS Z C K) (hn : C ≠ K) : ∃ c t, Z.vm.findClass C = some c ∧ Z.vm.findClass K = some t ∧ Z.vm.assignable c t = false := by
  obtain ⟨c, t, h0, g0, n3⟩ := q
  obtain ⟨p, k, kp, h1, h2, h3, h4, h5, -, h7⟩ := Cond.superclass_spec h0 w
  obtain ⟨t', kt, g1, g2, g3, g4, -⟩ := Cond.instantiable_spec wk
  cases g0.symm.trans g1
  have ne := ids_ne h0 g0 hn
  have g5 : kt.isInterface = false := by simp only [Bool.or_eq_false_iff] at g4; exact g4.1
  refine ⟨c, t, h0, g0, ?_⟩
  show Z.vm.assignableAux (255 + 1) c t = false
  simp [Vm.assignableAux, ne, h2, g2, h5, g3, g5, Vm.isSubclass, n3]
end Own4
end Jvm.OwnKit
namespace Jvm.Pilot.@@N@@
open Jvm Jvm.ClassFile Sem Op Lib Jvm.Free Jvm.Stand Jvm.LawKit Jvm.RoadKit Bundle Jvm.Pilot.@@N@@.Jvm.D Jvm.OwnKit
theorem tw {a0 : Array Value} {Z : State} (hw : ∀ d ∈ tables_1, d.before a0 Z = true) (i : Nat) {d : Jvm.Cond} (h : tables_1[i]? = some d) : d.before a0 Z = true := hw d (List.mem_of_getElem? h)
abbrev cST : String := "java/lang/String"
abbrev cCD : String := "com/example/relate_by_hash/relatebyhash/ctph/CtphDigest"
abbrev cLAW : String := "com/example/relate_by_hash/relatebyhash/ctph/EntryEqualsPinLaw"
abbrev cEN : String := "com/example/relate_by_hash/relatebyhash/ctph/CtphDigestList$Entry"
abbrev cPR : String := "jdk/internal/util/Preconditions"
abbrev cL1 : String := "java/lang/StringLatin1"
abbrev cU6 : String := "java/lang/StringUTF16"
theorem wStr {a0 : Array Value} {Z : State} (hw : ∀ d ∈ tables_1, d.before a0 Z = true) : ∀ a ∈ Bundle.stringAtoms, a.before a0 Z = true := by
  intro a ha
  have q : Bundle.stringAtoms = [.initialized cST, .instantiable cST 4, .arrayClass .byte, .laysFinal cST cST "value" "[B", .laysFinal cST cST "coder" "B", .soleField cST "value", .soleField cST "coder"] := rfl
  rw [q] at ha
  simp only [List.mem_cons, List.not_mem_nil, or_false] at ha
  rcases ha with rfl | rfl | rfl | rfl | rfl | rfl | rfl
  · exact tw hw 20 rfl
  · exact tw hw 19 rfl
  · exact tw hw 33 rfl
  · exact tw hw 34 rfl
  · exact tw hw 35 rfl
  · exact tw hw 36 rfl
  · exact tw hw 37 rfl
def ALPH : List Int32 := [65, 66, 67, 68, 69, 70, 71, 72, 73, 74, 75, 76, 77, 78, 79, 80, 81, 82, 83, 84, 85, 86, 87, 88, 89, 90, 97, 98, 99, 100, 101, 102, 103, 104, 105, 106, 107, 108, 109, 110, 111, 112, 113, 114, 115, 116, 117, 118, 119, 120, 121, 122, 48, 49, 50, 51, 52, 53, 54, 55, 56, 57, 43, 47]
def b64F (v : Int32) : Int32 := if v < (26 : Int32) then (((65 : Int32) + v).toUInt32.toUInt16.toUInt32.toInt32) else if v < (52 : Int32) then (((97 : Int32) + (v - (26 : Int32))).toUInt32.toUInt16.toUInt32.toInt32) else if v < (62 : Int32) then (((48 : Int32) + (v - (52 : Int32))).toUInt32.toUInt16.toUInt32.toInt32) else if v = (62 : Int32) then (43 : Int32) else (47 : Int32)
def Sg (xs : List Int32) : Prop := xs = [] ∨ (∃ y0, y0 ∈ ALPH ∧ xs = [y0]) ∨ ∃ y0 y1, y0 ∈ ALPH ∧ y1 ∈ ALPH ∧ xs = [y0, y1]
def Sh (xs : List Int32) : Prop := xs = [] ∨ (∃ y0, xs = [y0]) ∨ ∃ y0 y1, xs = [y0, y1]
theorem own_Sh {xs : List Int32} (h : Sg xs) : Sh xs := by
  rcases h with h | ⟨y0, -, h⟩ | ⟨y0, y1, -, -, h⟩
  · exact Or.inl h
  · exact Or.inr (Or.inl ⟨_, h⟩)
  · exact Or.inr (Or.inr ⟨_, _, h⟩)
def seF (xs ys : List Int32) : Int32 := if xs = ys then 1 else 0
theorem own_se1 {xs ys : List Int32} (h : ¬ (seF xs ys) = (0 : Int32)) : seF xs ys = 1 := by
  by_cases q : xs = ys
  · exact if_pos q
  · exact absurd (if_neg q) h
theorem own_msk (y m : Int32) (k : Nat) (hk : k < 2147483647) (hm : m.toInt = k) : ∃ n : Fin (k + 1), (y &&& m) = n.val.toInt32 := by
  have q := c_and y m (by omega)
  refine ⟨⟨(y &&& m).toInt.toNat, by omega⟩, ?_⟩
  have e2 : ((y &&& m).toInt.toNat).toInt32.toInt = ((y &&& m).toInt.toNat : Int) := Int32.toInt_ofNat_small (by omega)
  exact Int32.toInt_inj.mp (by rw [e2]; omega)
theorem own_b64m : ∀ n : Fin 64, b64F n.val.toInt32 ∈ ALPH := by decide +kernel
theorem own_b64i : ∀ n k : Fin 64, b64F n.val.toInt32 = b64F k.val.toInt32 → n.val.toInt32 = k.val.toInt32 := by decide +kernel
theorem own_mem (y : Int32) : b64F (y &&& (63 : Int32)) ∈ ALPH := by
  obtain ⟨n, q⟩ := own_msk y 63 63 (by decide) (by decide); rw [q]; exact own_b64m n
theorem own_inj (y z : Int32) : (b64F (y &&& (63 : Int32)) = b64F (z &&& (63 : Int32))) ↔ (y &&& (63 : Int32)) = (z &&& (63 : Int32)) := by
  obtain ⟨n, q⟩ := own_msk y 63 63 (by decide) (by decide); obtain ⟨k, r⟩ := own_msk z 63 63 (by decide) (by decide); rw [q, r]; exact ⟨own_b64i n k, fun h => by rw [h]⟩
theorem own_ch : ∀ y ∈ ALPH, ((y &&& (255 : Int32)).toUInt32.toUInt16.toUInt32.toInt32) = y := by decide +kernel
theorem own_by : ∀ y ∈ ALPH, nar .byte ((nar .char y).toInt8.toInt32) = y := by decide +kernel
theorem own_le : ∀ y ∈ ALPH, ¬ ((255 : Int32) < nar .char y) := by decide +kernel
theorem own_no : ∀ y ∈ ALPH, ¬ ((y < (65 : Int32) ∨ (90 : Int32) < y) ∧ (y < (97 : Int32) ∨ (122 : Int32) < y) ∧ (y < (48 : Int32) ∨ (57 : Int32) < y) ∧ ¬ (y = (43 : Int32)) ∧ ¬ (y = (47 : Int32))) := by decide +kernel
theorem own_ia1 {Z : State} {h : Heap} {a : Addr} {y : Int32} (F : Ia Z h a .byte [nar .byte ((nar .char y).toInt8.toInt32)]) (q : y ∈ ALPH) : Ia Z h a .byte [y] := by rw [own_by y q] at F; exact F
theorem own_ia2 {Z : State} {h : Heap} {a : Addr} {y z : Int32} (F : Ia Z h a .byte [nar .byte ((nar .char y).toInt8.toInt32), nar .byte ((nar .char z).toInt8.toInt32)]) (q : y ∈ ALPH) (r : z ∈ ALPH) : Ia Z h a .byte [y, z] := by rw [own_by y q, own_by z r] at F; exact F
def sh3 (k : Int32) : Int64 := ((3 : Int64) <<< (k &&& 0x3f).toInt64)
def bcF (v : Int64) : Int32 :=
  let q1 := (v - (((v.toUInt64 >>> ((1 : Int32) &&& 0x3f).toInt64.toUInt64).toInt64) &&& (6148914691236517205 : Int64)))
  let q2 := ((q1 &&& (3689348814741910323 : Int64)) + (((q1.toUInt64 >>> ((2 : Int32) &&& 0x3f).toInt64.toUInt64).toInt64) &&& (3689348814741910323 : Int64)))
  let q3 := ((q2 + ((q2.toUInt64 >>> ((4 : Int32) &&& 0x3f).toInt64.toUInt64).toInt64)) &&& (1085102592571150095 : Int64))
  let q4 := (q3 + ((q3.toUInt64 >>> ((8 : Int32) &&& 0x3f).toInt64.toUInt64).toInt64))
  let q5 := (q4 + ((q4.toUInt64 >>> ((16 : Int32) &&& 0x3f).toInt64.toUInt64).toInt64))
  let q6 := (q5 + ((q5.toUInt64 >>> ((32 : Int32) &&& 0x3f).toInt64.toUInt64).toInt64))
  ((q6.toInt32) &&& (127 : Int32))
def Bv (v : Int64) : Prop := (lcmpW (v - (v / (3 : Int64)) * (3 : Int64)) (0 : Int64)) = (0 : Int32) ∧ ¬ ((0 : Int32) < (lcmpW v (3221225472 : Int64))) ∧ (bcF (v / (3 : Int64))) = (1 : Int32)
theorem own_bv0 : ∀ n : Fin 31, (lcmpW ((sh3 n.val.toInt32) - ((sh3 n.val.toInt32) / (3 : Int64)) * (3 : Int64)) (0 : Int64)) = (0 : Int32) ∧ ¬ ((0 : Int32) < (lcmpW (sh3 n.val.toInt32) (3221225472 : Int64))) ∧ (bcF ((sh3 n.val.toInt32) / (3 : Int64))) = (1 : Int32) := by decide +kernel
def R31 (k : Int32) : Prop := ∃ n : Fin 31, k = n.val.toInt32
theorem own_Bv {k : Int32} (h : R31 k) : Bv ((3 : Int64) <<< (k &&& 0x3f).toInt64) := by obtain ⟨n, rfl⟩ := h; exact own_bv0 n
theorem own_sh0 : ∀ n k : Fin 31, (lcmpW (sh3 n.val.toInt32) (sh3 k.val.toInt32)) = (0 : Int32) ↔ n.val.toInt32 = k.val.toInt32 := by decide +kernel
theorem own_sh {k j : Int32} (h : R31 k) (q : R31 j) : (lcmpW (sh3 k) (sh3 j)) = (0 : Int32) ↔ k = j := by obtain ⟨n, rfl⟩ := h; obtain ⟨i, rfl⟩ := q; exact own_sh0 n i
def eqF (v w : Int64) (xs ys us vs : List Int32) : Int32 := if (lcmpW v w) = (0 : Int32) then (if (seF xs ys) = (0 : Int32) then 0 else if (seF us vs) = (0 : Int32) then 0 else 1) else 0
theorem own_seC (xs ys : List Int32) : seF xs ys = seF ys xs := by
  unfold seF; by_cases h : xs = ys
  · rw [if_pos h, if_pos h.symm]
  · rw [if_neg h, if_neg (fun q => h q.symm)]
def fdF (y : Int64) (ap wd : Int32) : Int32 := ((((y.toUInt64 >>> (ap &&& 0x3f).toInt64.toUInt64).toInt64) &&& (((1 : Int64) <<< (wd &&& 0x3f).toInt64) - (1 : Int64))).toInt32)
def kF (y : Int64) : Int32 := (((y &&& (31 : Int64)).toInt32) % (31 : Int32))
def lnA (y : Int64) (ap : Int32) : Int32 := ((fdF y ap (2 : Int32)) % (3 : Int32))
def i2cF (v : Int32) : Int32 := v.toUInt32.toUInt16.toUInt32.toInt32
def nbF (v : Int32) : Int32 := nar .byte ((nar .char (v.toUInt32.toUInt16.toUInt32.toInt32)).toInt8.toInt32)
def strF (ln c0 c1 : Int32) : List Int32 := if ln = (0 : Int32) then [] else if ln = (1 : Int32) then [c0] else [c0, c1]
def ss3 (lx ly u0 w0 u1 w1 : Int32) : Int32 := if lx = ly then (if lx < (1 : Int32) then (if lx < (2 : Int32) then 1 else if u1 = w1 then 1 else 0) else if u0 = w0 then (if lx < (2 : Int32) then 1 else if u1 = w1 then 1 else 0) else 0) else 0
def smF (y z : Int64) (ap wd : Int32) : Int32 := ss3 ((fdF y ap (2 : Int32)) % (3 : Int32)) ((fdF z ap (2 : Int32)) % (3 : Int32)) (fdF y (ap + (2 : Int32)) wd) (fdF z (ap + (2 : Int32)) wd) (fdF y ((ap + (2 : Int32)) + wd) wd) (fdF z ((ap + (2 : Int32)) + wd) wd)
theorem own_mL (y m : Int64) (k b : Nat) (hk : k ≤ 31) (hb : 2 ^ k = b + 1) (hb2 : b < 2147483647) (hm : m.toBitVec.toNat = 2 ^ k - 1) : ∃ n : Fin (b + 1), ((y &&& m).toInt32) = n.val.toInt32 := by
  have q := c_maskL y m k (by omega) hm
  rw [hb] at q
  have p1 := Int.emod_nonneg y.toInt (b := ((b + 1 : Nat) : Int)) (by omega)
  have p2 := Int.emod_lt_of_pos y.toInt (b := ((b + 1 : Nat) : Int)) (by omega)
  rw [← q] at p1 p2
  have r := c_l2i (y &&& m)
  have r2 := rng32 ((y &&& m).toInt32)
  have t : ((y &&& m).toInt32).toInt = (y &&& m).toInt := by omega
  refine ⟨⟨((y &&& m).toInt32).toInt.toNat, by omega⟩, ?_⟩
  have e2 : (((y &&& m).toInt32).toInt.toNat).toInt32.toInt = (((y &&& m).toInt32).toInt.toNat : Int) := Int32.toInt_ofNat_small (by omega)
  exact Int32.toInt_inj.mp (by rw [e2]; omega)
theorem own_f2 (y : Int64) (ap : Int32) : ∃ n : Fin 4, fdF y ap (2 : Int32) = n.val.toInt32 := own_mL _ _ 2 3 (by decide) (by decide) (by decide) (by decide)
theorem own_f6 (y : Int64) (ap : Int32) : ∃ n : Fin 64, fdF y ap (6 : Int32) = n.val.toInt32 := own_mL _ _ 6 63 (by decide) (by decide) (by decide) (by decide)
theorem own_f8 (y : Int64) (ap : Int32) : ∃ n : Fin 256, fdF y ap (8 : Int32) = n.val.toInt32 := own_mL _ _ 8 255 (by decide) (by decide) (by decide) (by decide)
theorem own_k (y : Int64) : R31 (kF y) := by
  obtain ⟨n, q⟩ := own_mL y 31 5 31 (by decide) (by decide) (by decide) (by decide)
  unfold kF; rw [q]
  have : ∀ n : Fin 32, ∃ i : Fin 31, n.val.toInt32 % (31 : Int32) = i.val.toInt32 := by decide +kernel
  exact this n
theorem own_l3 {ln : Int32} (y : Int64) (ap : Int32) (h : ((fdF y ap (2 : Int32)) % (3 : Int32)) = ln) : ln = 0 ∨ ln = 1 ∨ ln = 2 := by
  obtain ⟨n, q⟩ := own_f2 y ap
  rw [← h, q]; clear q h; revert n; decide +kernel
theorem own_m6 (y : Int64) (ap : Int32) : b64F (fdF y ap (6 : Int32)) ∈ ALPH := by obtain ⟨n, q⟩ := own_f6 y ap; rw [q]; exact own_b64m n
theorem own_j6 (y z : Int64) (ap bp : Int32) : (b64F (fdF y ap (6 : Int32)) = b64F (fdF z bp (6 : Int32))) ↔ fdF y ap (6 : Int32) = fdF z bp (6 : Int32) := by
  obtain ⟨n, q⟩ := own_f6 y ap; obtain ⟨k, r⟩ := own_f6 z bp; rw [q, r]; exact ⟨own_b64i n k, fun h => by rw [h]⟩
theorem own_nb0 : ∀ n k : Fin 256, nbF n.val.toInt32 = nbF k.val.toInt32 → n.val.toInt32 = k.val.toInt32 := by decide +kernel
theorem own_nl0 : ∀ n : Fin 256, ¬ ((255 : Int32) < nar .char (n.val.toInt32.toUInt32.toUInt16.toUInt32.toInt32)) := by decide +kernel
theorem own_j8 (y z : Int64) (ap bp : Int32) : (nbF (fdF y ap (8 : Int32)) = nbF (fdF z bp (8 : Int32))) ↔ fdF y ap (8 : Int32) = fdF z bp (8 : Int32) := by
  obtain ⟨n, q⟩ := own_f8 y ap; obtain ⟨k, r⟩ := own_f8 z bp; rw [q, r]; exact ⟨own_nb0 n k, fun h => by rw [h]⟩
theorem own_nl (y : Int64) (ap : Int32) : ¬ ((255 : Int32) < nar .char ((fdF y ap (8 : Int32)).toUInt32.toUInt16.toUInt32.toInt32)) := by obtain ⟨n, q⟩ := own_f8 y ap; rw [q]; exact own_nl0 n
theorem own_sF0 {ln u v : Int32} (h : ln = 0) : strF ln u v = [] := if_pos h
theorem own_sF1 {ln u v : Int32} (h : ln = 1) : strF ln u v = [u] := by unfold strF; rw [if_neg (by rw [h]; decide), if_pos h]
theorem own_sF2 {ln u v : Int32} (h : ln = 2) : strF ln u v = [u, v] := by unfold strF; rw [if_neg (by rw [h]; decide), if_neg (by rw [h]; decide)]
theorem own_Sg3 {ln u v : Int32} (h : ln = 0 ∨ ln = 1 ∨ ln = 2) (hu : u ∈ ALPH) (hv : v ∈ ALPH) : Sg (strF ln u v) := by
  rcases h with h | h | h
  · rw [own_sF0 h]; exact Or.inl rfl
  · rw [own_sF1 h]; exact Or.inr (Or.inl ⟨_, hu, rfl⟩)
  · rw [own_sF2 h]; exact Or.inr (Or.inr ⟨_, _, hu, hv, rfl⟩)
theorem own_Sh3 {ln u v : Int32} (h : ln = 0 ∨ ln = 1 ∨ ln = 2) : Sh (strF ln u v) := by
  rcases h with h | h | h
  · rw [own_sF0 h]; exact Or.inl rfl
  · rw [own_sF1 h]; exact Or.inr (Or.inl ⟨_, rfl⟩)
  · rw [own_sF2 h]; exact Or.inr (Or.inr ⟨_, _, rfl⟩)
theorem own_ss {lx ly u0 w0 u1 w1 U0 W0 U1 W1 : Int32} (h : lx = 0 ∨ lx = 1 ∨ lx = 2) (q : ly = 0 ∨ ly = 1 ∨ ly = 2) (j0 : (U0 = W0) ↔ u0 = w0) (j1 : (U1 = W1) ↔ u1 = w1) : seF (strF lx U0 U1) (strF ly W0 W1) = ss3 lx ly u0 w0 u1 w1 := by
  have d1 : ¬ ((1 : Int32) < 1) := by decide
  have d2 : (1 : Int32) < 2 := by decide
  have d3 : (0 : Int32) < 1 := by decide
  have d4 : (0 : Int32) < 2 := by decide
  have d5 : ¬ ((2 : Int32) < 1) := by decide
  have d6 : ¬ ((2 : Int32) < 2) := by decide
  have e1 : ¬ ((0 : Int32) = 1) := by decide
  have e2 : ¬ ((0 : Int32) = 2) := by decide
  have e3 : ¬ ((1 : Int32) = 0) := by decide
  have e4 : ¬ ((1 : Int32) = 2) := by decide
  have e5 : ¬ ((2 : Int32) = 0) := by decide
  have e6 : ¬ ((2 : Int32) = 1) := by decide
  rcases h with h | h | h <;> rcases q with q | q | q <;> subst h <;> subst q
  · simp [seF, ss3, strF, d3, d4]
  · simp [seF, ss3, strF, e1, e3]
  · simp [seF, ss3, strF, e2, e5, e6]
  · simp [seF, ss3, strF, e3]
  · simp [seF, ss3, strF, j0, d1, d2, e3]
  · simp [seF, ss3, strF, e3, e4, e5, e6]
  · simp [seF, ss3, strF, e5, e6]
  · simp [seF, ss3, strF, e3, e5, e6]
  · by_cases w0 : u0 = w0 <;> by_cases w1 : u1 = w1 <;> simp [seF, ss3, strF, j0, j1, w0, w1, d5, d6, e5, e6]
def sgA (y : Int64) : List Int32 := strF (lnA y 5) (b64F (fdF y 7 6)) (b64F (fdF y 13 6))
def sgB (y : Int64) : List Int32 := strF (lnA y 19) (b64F (fdF y 21 6)) (b64F (fdF y 27 6))
def nmF (y : Int64) : List Int32 := strF (lnA y 33) (nbF (fdF y 35 8)) (nbF (fdF y 43 8))
theorem own_lA (y : Int64) (ap : Int32) : lnA y ap = 0 ∨ lnA y ap = 1 ∨ lnA y ap = 2 := own_l3 y ap rfl
theorem own_SgA (y : Int64) : Sg (sgA y) := own_Sg3 (own_lA y 5) (own_m6 y 7) (own_m6 y 13)
theorem own_SgB (y : Int64) : Sg (sgB y) := own_Sg3 (own_lA y 19) (own_m6 y 21) (own_m6 y 27)
theorem own_ShN (y : Int64) : Sh (nmF y) := own_Sh3 (own_lA y 33)
theorem own_ssA (y z : Int64) : seF (sgA y) (sgA z) = smF y z 5 6 := own_ss (own_lA y 5) (own_lA z 5) (own_j6 y z 7 7) (own_j6 y z 13 13)
theorem own_ssB (y z : Int64) : seF (sgB y) (sgB z) = smF y z 19 6 := own_ss (own_lA y 19) (own_lA z 19) (own_j6 y z 21 21) (own_j6 y z 27 27)
theorem own_ssN (y z : Int64) : seF (nmF y) (nmF z) = smF y z 33 8 := own_ss (own_lA y 33) (own_lA z 33) (own_j8 y z 35 35) (own_j8 y z 43 43)
def enF (v w : Int64) (xs ys us vs zs ts : List Int32) : Int32 := if (eqF v w xs ys us vs) = (0 : Int32) then 0 else if (seF zs ts) = (0 : Int32) then 0 else 1
theorem own_en (y z u1 u2 u3 : Int64) : enF (sh3 (kF y)) (sh3 (kF z)) (sgA y) (sgA u1) (sgB y) (sgB u2) (nmF y) (nmF u3) = (if kF y = kF z then (if (smF y u1 5 6) = (0 : Int32) then 0 else if (smF y u2 19 6) = (0 : Int32) then 0 else if (smF y u3 33 8) = (0 : Int32) then 0 else 1) else 0) := by
  unfold enF eqF; rw [own_ssA, own_ssB, own_ssN]; by_cases w : kF y = kF z
  · rw [if_pos w, if_pos ((own_sh (own_k y) (own_k z)).mpr w)]
    by_cases h1 : smF y u1 5 6 = 0 <;> by_cases h2 : smF y u2 19 6 = 0 <;> simp [h1, h2]
  · rw [if_neg w, if_neg (fun q => w ((own_sh (own_k y) (own_k z)).mp q)), if_pos rfl]
theorem own_ens (y z u1 u2 u3 : Int64) : enF (sh3 (kF z)) (sh3 (kF y)) (sgA u1) (sgA y) (sgB u2) (sgB y) (nmF u3) (nmF y) = (if kF y = kF z then (if (smF y u1 5 6) = (0 : Int32) then 0 else if (smF y u2 19 6) = (0 : Int32) then 0 else if (smF y u3 33 8) = (0 : Int32) then 0 else 1) else 0) := by
  unfold enF eqF; rw [own_seC (sgA u1), own_seC (sgB u2), own_seC (nmF u3), own_ssA, own_ssB, own_ssN]; by_cases w : kF y = kF z
  · rw [if_pos w, if_pos ((own_sh (own_k z) (own_k y)).mpr w.symm)]
    by_cases h1 : smF y u1 5 6 = 0 <;> by_cases h2 : smF y u2 19 6 = 0 <;> simp [h1, h2]
  · rw [if_neg w, if_neg (fun q => w ((own_sh (own_k z) (own_k y)).mp q).symm), if_pos rfl]
theorem d4_0 : decode method_6_code 0 = .ok (.iload_n 0, 1) := by decide +kernel
theorem d4_1 : decode method_6_code 1 = .ok (.bipush 26, 2) := by decide +kernel
theorem d4_3 : decode method_6_code 3 = .ok (.if_icmp .ge 9, 3) := by decide +kernel
theorem d4_6 : decode method_6_code 6 = .ok (.bipush 65, 2) := by decide +kernel
theorem d4_8 : decode method_6_code 8 = .ok (.iload_n 0, 1) := by decide +kernel
theorem d4_9 : decode method_6_code 9 = .ok (.iadd, 1) := by decide +kernel
theorem d4_10 : decode method_6_code 10 = .ok (.i2c, 1) := by decide +kernel
theorem d4_11 : decode method_6_code 11 = .ok (.ireturn, 1) := by decide +kernel
theorem d4_12 : decode method_6_code 12 = .ok (.iload_n 0, 1) := by decide +kernel
theorem d4_13 : decode method_6_code 13 = .ok (.bipush 52, 2) := by decide +kernel
theorem d4_15 : decode method_6_code 15 = .ok (.if_icmp .ge 12, 3) := by decide +kernel
theorem d4_18 : decode method_6_code 18 = .ok (.bipush 97, 2) := by decide +kernel
theorem d4_20 : decode method_6_code 20 = .ok (.iload_n 0, 1) := by decide +kernel
theorem d4_21 : decode method_6_code 21 = .ok (.bipush 26, 2) := by decide +kernel
theorem d4_23 : decode method_6_code 23 = .ok (.isub, 1) := by decide +kernel
theorem d4_24 : decode method_6_code 24 = .ok (.iadd, 1) := by decide +kernel
theorem d4_25 : decode method_6_code 25 = .ok (.i2c, 1) := by decide +kernel
theorem d4_26 : decode method_6_code 26 = .ok (.ireturn, 1) := by decide +kernel
theorem d4_27 : decode method_6_code 27 = .ok (.iload_n 0, 1) := by decide +kernel
theorem d4_28 : decode method_6_code 28 = .ok (.bipush 62, 2) := by decide +kernel
theorem d4_30 : decode method_6_code 30 = .ok (.if_icmp .ge 12, 3) := by decide +kernel
theorem d4_33 : decode method_6_code 33 = .ok (.bipush 48, 2) := by decide +kernel
theorem d4_35 : decode method_6_code 35 = .ok (.iload_n 0, 1) := by decide +kernel
theorem d4_36 : decode method_6_code 36 = .ok (.bipush 52, 2) := by decide +kernel
theorem d4_38 : decode method_6_code 38 = .ok (.isub, 1) := by decide +kernel
theorem d4_39 : decode method_6_code 39 = .ok (.iadd, 1) := by decide +kernel
theorem d4_40 : decode method_6_code 40 = .ok (.i2c, 1) := by decide +kernel
theorem d4_41 : decode method_6_code 41 = .ok (.ireturn, 1) := by decide +kernel
theorem d4_42 : decode method_6_code 42 = .ok (.iload_n 0, 1) := by decide +kernel
theorem d4_43 : decode method_6_code 43 = .ok (.bipush 62, 2) := by decide +kernel
theorem d4_45 : decode method_6_code 45 = .ok (.if_icmp .ne 6, 3) := by decide +kernel
theorem d4_48 : decode method_6_code 48 = .ok (.bipush 43, 2) := by decide +kernel
theorem d4_50 : decode method_6_code 50 = .ok (.ireturn, 1) := by decide +kernel
theorem d4_51 : decode method_6_code 51 = .ok (.bipush 47, 2) := by decide +kernel
theorem d4_53 : decode method_6_code 53 = .ok (.ireturn, 1) := by decide +kernel
theorem pn_4 : plainName cLAW = true := by first | (simp [plainName, overriddenIn]; done) | decide +kernel
theorem ef_4 (m : MethodId) (x0 : Int32) : entryFrame m #[(.int x0)] 1 = mkF m 0 #[.val (.int x0)] [] := by first | (simp [entryFrame, mkF, argsToLocals, Value.category]; done) | rfl
def Q_rmB (Z : State) (v : Int32)  (h0 : Heap) (n0 : Nat) (vQ : Option Value) (hQ : Heap) (LQ : List Loc) : Prop := vQ = some (.int (b64F v)) ∧ LQ = [] ∧ hQ = h0
set_option maxRecDepth 65536 in
set_option maxHeartbeats 40000000 in
theorem rmB (l : Launch) (Z : State) (a0 : Array Value) (hw : ∀ d ∈ tables_1, d.before a0 Z = true) (ws : List Jvm.Cond) (v : Int32)  (h0 : Heap) (n0 : Nat) (Z0 : n0 ≤ h0.size) :
    MetFree l (⟨cLAW, "b64", "(I)C"⟩ : MethodName) (head1 (Jvm.Cond.code (⟨cLAW, "b64", "(I)C"⟩ : MethodName) method_6_code 1 (some .char) :: ws) ({ frames := 0, cells := 0, slots := 0, locals := 0 } : Room)) (fun aQ UQ => aQ = #[(.int v)] ∧ Z.Warmed39 UQ.vm ∧ UQ.heap = h0) (fun _ _ _ _ _ => True) (fun _ UQ oQ UR => ∃ vQ LQ, oQ = .returned vQ ∧ Q_rmB Z v  h0 n0 vQ UR.heap LQ ∧ FrameEnd UQ oQ UR LQ ({ frames := 0, cells := 0, slots := 0, locals := 0 } : Room).cells ({ frames := 0, cells := 0, slots := 0, locals := 0 } : Room).slots) := by
  refine MetFree.of_bodySF (plainFor_of_name pn_4) hisR ?_
  intro p e s m args below meth c s₁ Bd hml0 hP hK
  obtain ⟨rfl, hZ, hh⟩ := hP
  have hx := Bd.exec
  have hby := Bd.bytes
  have hlk := Bd.notSynchronized
  have hml : c.maxLocals = 1 := hml0
  have hown : s.vm.findClass cLAW = some m.cls := findClass_of_methodNamed Bd.named
  have hnm := (name_of_methodNamed Bd.named Bd.method).1
  have X0 : Stand p l e ({ frames := 0, cells := 0, slots := 0, locals := 0 } : Room) s m #[(.int v)] below meth c s₁ [] 0 0 := Stand.of_body Bd
  have e0 : s₁.heap = h0 := by rw [← hh, Bd.state]; rfl
  have N0 := Fr.nil n0
  show Go p e below _ (Done s (Q_rmB Z v  h0 n0) ({ frames := 0, cells := 0, slots := 0, locals := 0 } : Room).cells ({ frames := 0, cells := 0, slots := 0, locals := 0 } : Room).slots)
  refine Go.via (fun tQ kQ => castTop (ef_4 m v) kQ) ?_
  show Go p e below (s₁.setTop (mkF m 0 #[.val (.int v)] [])) _
  refine Go.via (fun _ => XS.iloadN X0.here hx rfl (hb hby d4_0) rfl) ?_
  refine Go.via (fun _ => XS.bipush X0.here hx rfl (hb hby d4_1)) ?_
  by_cases hc1 : v < (26 : Int32)
  · refine Go.via (fun _ => XS.icmpNo X0.here hx rfl (hb hby d4_3) rfl (tlt (hc1 : v < (26 : Int32))).2.1) ?_
    refine Go.via (fun _ => XS.bipush X0.here hx rfl (hb hby d4_6)) ?_
    refine Go.via (fun _ => XS.iloadN X0.here hx rfl (hb hby d4_8) rfl) ?_
    show Go p e below (s₁.setTop (mkF m 9 #[.val (.int v)] [(.int v), (.int (65 : Int32))])) _
    refine Go.via (fun _ => XS.iadd X0.here hx rfl (hb hby d4_9) rfl) ?_
    show Go p e below (s₁.setTop (mkF m 10 #[.val (.int v)] [(.int ((65 : Int32) + v))])) _
    refine Go.via (fun _ => XS.i2c X0.here hx rfl (hb hby d4_10) rfl) ?_
    show Go p e below (s₁.setTop (mkF m 11 #[.val (.int v)] [(.int (((65 : Int32) + v).toUInt32.toUInt16.toUInt32.toInt32))])) _
    exact Go.fin X0 hlk (v := some (.int (nar .char (((65 : Int32) + v).toUInt32.toUInt16.toUInt32.toInt32)))) (fun h => by rw [Bd.returns] at h; cases h) (fun fs hr => retN X0 hx (t := .char) Bd.returns (by simp) (hb hby d4_11) hr) (by rw [e0]; exact ⟨(congrArg (fun qq => some (Value.int qq)) ((nar_c _).trans (Eq.symm ((if_pos hc1).trans rfl)))), rfl, rfl⟩) (by decide) (by decide)
  · refine Go.via (fun _ => XS.icmpYes X0.here hx rfl (pc0 := 3) (pc' := 12) rfl (hb hby d4_3) rfl (flt (hc1 : ¬ (v < (26 : Int32)))).2.1 (by decide) (by decide)) ?_
    refine Go.via (fun _ => XS.iloadN X0.here hx rfl (hb hby d4_12) rfl) ?_
    refine Go.via (fun _ => XS.bipush X0.here hx rfl (hb hby d4_13)) ?_
    show Go p e below (s₁.setTop (mkF m 15 #[.val (.int v)] [(.int (52 : Int32)), (.int v)])) _
    by_cases hc2 : v < (52 : Int32)
    · refine Go.via (fun _ => XS.icmpNo X0.here hx rfl (hb hby d4_15) rfl (tlt (hc2 : v < (52 : Int32))).2.1) ?_
      show Go p e below (s₁.setTop (mkF m 18 #[.val (.int v)] [])) _
      refine Go.via (fun _ => XS.bipush X0.here hx rfl (hb hby d4_18)) ?_
      refine Go.via (fun _ => XS.iloadN X0.here hx rfl (hb hby d4_20) rfl) ?_
      refine Go.via (fun _ => XS.bipush X0.here hx rfl (hb hby d4_21)) ?_
      refine Go.via (fun _ => XS.isub X0.here hx rfl (hb hby d4_23) rfl) ?_
      show Go p e below (s₁.setTop (mkF m 24 #[.val (.int v)] [(.int (v - (26 : Int32))), (.int (97 : Int32))])) _
      refine Go.via (fun _ => XS.iadd X0.here hx rfl (hb hby d4_24) rfl) ?_
      show Go p e below (s₁.setTop (mkF m 25 #[.val (.int v)] [(.int ((97 : Int32) + (v - (26 : Int32))))])) _
      refine Go.via (fun _ => XS.i2c X0.here hx rfl (hb hby d4_25) rfl) ?_
      show Go p e below (s₁.setTop (mkF m 26 #[.val (.int v)] [(.int (((97 : Int32) + (v - (26 : Int32))).toUInt32.toUInt16.toUInt32.toInt32))])) _
      exact Go.fin X0 hlk (v := some (.int (nar .char (((97 : Int32) + (v - (26 : Int32))).toUInt32.toUInt16.toUInt32.toInt32)))) (fun h => by rw [Bd.returns] at h; cases h) (fun fs hr => retN X0 hx (t := .char) Bd.returns (by simp) (hb hby d4_26) hr) (by rw [e0]; exact ⟨(congrArg (fun qq => some (Value.int qq)) ((nar_c _).trans (Eq.symm ((if_neg hc1).trans ((if_pos hc2).trans rfl))))), rfl, rfl⟩) (by decide) (by decide)
    · refine Go.via (fun _ => XS.icmpYes X0.here hx rfl (pc0 := 15) (pc' := 27) rfl (hb hby d4_15) rfl (flt (hc2 : ¬ (v < (52 : Int32)))).2.1 (by decide) (by decide)) ?_
      show Go p e below (s₁.setTop (mkF m 27 #[.val (.int v)] [])) _
      refine Go.via (fun _ => XS.iloadN X0.here hx rfl (hb hby d4_27) rfl) ?_
      refine Go.via (fun _ => XS.bipush X0.here hx rfl (hb hby d4_28)) ?_
      by_cases hc3 : v < (62 : Int32)
      · refine Go.via (fun _ => XS.icmpNo X0.here hx rfl (hb hby d4_30) rfl (tlt (hc3 : v < (62 : Int32))).2.1) ?_
        refine Go.via (fun _ => XS.bipush X0.here hx rfl (hb hby d4_33)) ?_
        refine Go.via (fun _ => XS.iloadN X0.here hx rfl (hb hby d4_35) rfl) ?_
        show Go p e below (s₁.setTop (mkF m 36 #[.val (.int v)] [(.int v), (.int (48 : Int32))])) _
        refine Go.via (fun _ => XS.bipush X0.here hx rfl (hb hby d4_36)) ?_
        refine Go.via (fun _ => XS.isub X0.here hx rfl (hb hby d4_38) rfl) ?_
        show Go p e below (s₁.setTop (mkF m 39 #[.val (.int v)] [(.int (v - (52 : Int32))), (.int (48 : Int32))])) _
        refine Go.via (fun _ => XS.iadd X0.here hx rfl (hb hby d4_39) rfl) ?_
        show Go p e below (s₁.setTop (mkF m 40 #[.val (.int v)] [(.int ((48 : Int32) + (v - (52 : Int32))))])) _
        refine Go.via (fun _ => XS.i2c X0.here hx rfl (hb hby d4_40) rfl) ?_
        show Go p e below (s₁.setTop (mkF m 41 #[.val (.int v)] [(.int (((48 : Int32) + (v - (52 : Int32))).toUInt32.toUInt16.toUInt32.toInt32))])) _
        exact Go.fin X0 hlk (v := some (.int (nar .char (((48 : Int32) + (v - (52 : Int32))).toUInt32.toUInt16.toUInt32.toInt32)))) (fun h => by rw [Bd.returns] at h; cases h) (fun fs hr => retN X0 hx (t := .char) Bd.returns (by simp) (hb hby d4_41) hr) (by rw [e0]; exact ⟨(congrArg (fun qq => some (Value.int qq)) ((nar_c _).trans (Eq.symm ((if_neg hc1).trans ((if_neg hc2).trans ((if_pos hc3).trans rfl)))))), rfl, rfl⟩) (by decide) (by decide)
      · refine Go.via (fun _ => XS.icmpYes X0.here hx rfl (pc0 := 30) (pc' := 42) rfl (hb hby d4_30) rfl (flt (hc3 : ¬ (v < (62 : Int32)))).2.1 (by decide) (by decide)) ?_
        refine Go.via (fun _ => XS.iloadN X0.here hx rfl (hb hby d4_42) rfl) ?_
        refine Go.via (fun _ => XS.bipush X0.here hx rfl (hb hby d4_43)) ?_
        show Go p e below (s₁.setTop (mkF m 45 #[.val (.int v)] [(.int (62 : Int32)), (.int v)])) _
        by_cases hc4 : v = (62 : Int32)
        · refine Go.via (fun _ => XS.icmpNo X0.here hx rfl (hb hby d4_45) rfl (teq (hc4 : v = (62 : Int32))).2) ?_
          show Go p e below (s₁.setTop (mkF m 48 #[.val (.int v)] [])) _
          refine Go.via (fun _ => XS.bipush X0.here hx rfl (hb hby d4_48)) ?_
          exact Go.fin X0 hlk (v := some (.int (43 : Int32))) (fun h => by rw [Bd.returns] at h; cases h) (fun fs hr => retN X0 hx (t := .char) Bd.returns (by simp) (hb hby d4_50) hr) (by rw [e0]; exact ⟨(congrArg (fun qq => some (Value.int qq)) (Eq.symm ((if_neg hc1).trans ((if_neg hc2).trans ((if_neg hc3).trans ((if_pos hc4).trans rfl)))))), rfl, rfl⟩) (by decide) (by decide)
        · refine Go.via (fun _ => XS.icmpYes X0.here hx rfl (pc0 := 45) (pc' := 51) rfl (hb hby d4_45) rfl (feq (hc4 : ¬ (v = (62 : Int32)))).2 (by decide) (by decide)) ?_
          show Go p e below (s₁.setTop (mkF m 51 #[.val (.int v)] [])) _
          refine Go.via (fun _ => XS.bipush X0.here hx rfl (hb hby d4_51)) ?_
          exact Go.fin X0 hlk (v := some (.int (47 : Int32))) (fun h => by rw [Bd.returns] at h; cases h) (fun fs hr => retN X0 hx (t := .char) Bd.returns (by simp) (hb hby d4_53) hr) (by rw [e0]; exact ⟨(congrArg (fun qq => some (Value.int qq)) (Eq.symm ((if_neg hc1).trans ((if_neg hc2).trans ((if_neg hc3).trans ((if_neg hc4).trans rfl)))))), rfl, rfl⟩) (by decide) (by decide)
theorem d13_0 : decode jdk_42_method_152_code 0 = .ok (.getstatic 38, 3) := by decide +kernel
theorem d13_3 : decode jdk_42_method_152_code 3 = .ok (.ifCond .eq 10, 3) := by decide +kernel
theorem d13_6 : decode jdk_42_method_152_code 6 = .ok (.aload_n 0, 1) := by decide +kernel
theorem d13_7 : decode jdk_42_method_152_code 7 = .ok (.getfield 15, 3) := by decide +kernel
theorem d13_10 : decode jdk_42_method_152_code 10 = .ok (.goto 4, 3) := by decide +kernel
theorem d13_14 : decode jdk_42_method_152_code 14 = .ok (.ireturn, 1) := by decide +kernel
theorem pn_13 : plainName cST = true := by first | (simp [plainName, overriddenIn]; done) | decide +kernel
theorem ef_13 (m : MethodId) (x0 : Addr) : entryFrame m #[(.ref x0)] 1 = mkF m 0 #[.val (.ref x0)] [] := by first | (simp [entryFrame, mkF, argsToLocals, Value.category]; done) | rfl
def Q_rmCo (Z : State) (a : Addr) (cs : Int32) (h0 : Heap) (n0 : Nat) (vQ : Option Value) (hQ : Heap) (LQ : List Loc) : Prop := vQ = some (.int (0 : Int32)) ∧ LQ = [] ∧ hQ = h0
set_option maxRecDepth 65536 in
set_option maxHeartbeats 40000000 in
theorem rmCo (l : Launch) (Z : State) (a0 : Array Value) (hw : ∀ d ∈ tables_1, d.before a0 Z = true) (ws : List Jvm.Cond) (a : Addr) (cs : Int32) (h0 : Heap) (n0 : Nat) (Z0 : n0 ≤ h0.size) (P0 : Fld Z h0 a cST "coder" "B" (.int (0 : Int32))) (P1 : Old Z n0 h0) (zCS : Sta Z Z.heap cST "COMPACT_STRINGS" "Z" (.int cs)) (hcs : ¬ (cs = (0 : Int32))) :
    MetFree l (⟨cST, "coder", "()B"⟩ : MethodName) (head1 (Jvm.Cond.code (⟨cST, "coder", "()B"⟩ : MethodName) jdk_42_method_152_code 1 (some .byte) :: ws) ({ frames := 0, cells := 0, slots := 0, locals := 0 } : Room)) (fun aQ UQ => aQ = #[(.ref a)] ∧ Z.Warmed39 UQ.vm ∧ UQ.heap = h0) (fun _ _ _ _ _ => True) (fun _ UQ oQ UR => ∃ vQ LQ, oQ = .returned vQ ∧ Q_rmCo Z a cs h0 n0 vQ UR.heap LQ ∧ FrameEnd UQ oQ UR LQ ({ frames := 0, cells := 0, slots := 0, locals := 0 } : Room).cells ({ frames := 0, cells := 0, slots := 0, locals := 0 } : Room).slots) := by
  refine MetFree.of_bodySF (plainFor_of_name pn_13) hisR ?_
  intro p e s m args below meth c s₁ Bd hml0 hP hK
  obtain ⟨rfl, hZ, hh⟩ := hP
  have hx := Bd.exec
  have hby := Bd.bytes
  have hlk := Bd.notSynchronized
  have hml : c.maxLocals = 1 := hml0
  have hown : s.vm.findClass cST = some m.cls := findClass_of_methodNamed Bd.named
  have hnm := (name_of_methodNamed Bd.named Bd.method).1
  have X0 : Stand p l e ({ frames := 0, cells := 0, slots := 0, locals := 0 } : Room) s m #[(.ref a)] below meth c s₁ [] 0 0 := Stand.of_body Bd
  have e0 : s₁.heap = h0 := by rw [← hh, Bd.state]; rfl
  have N0 := Fr.nil n0
  show Go p e below _ (Done s (Q_rmCo Z a cs h0 n0) ({ frames := 0, cells := 0, slots := 0, locals := 0 } : Room).cells ({ frames := 0, cells := 0, slots := 0, locals := 0 } : Room).slots)
  refine Go.via (fun tQ kQ => castTop (ef_13 m a) kQ) ?_
  show Go p e below (s₁.setTop (mkF m 0 #[.val (.ref a)] [])) _
  have f5 : Sta Z h0 cST "COMPACT_STRINGS" "Z" (.int cs) := zCS.ext P1.2
  obtain ⟨T6, X6, e6, st6⟩ := getS2 X0 hx hZ hown (host := "") (Or.inl (tw hw 70 rfl)) Via.refl e0 f5 (g := (mkF m 0 #[.val (.ref a)] [])) rfl (hb hby d13_0)
  refine Go.via (st6) ?_
  clear st6
  clear X0 e0
  show Go p e below (T6.setTop (mkF m 3 #[.val (.ref a)] [(.int cs)])) _
  refine Go.via (fun _ => XS.ifNo X6.here hx rfl (hb hby d13_3) rfl ((if0 _ _).trans (feq (hcs : ¬ (cs = (0 : Int32)))).1)) ?_
  show Go p e below (T6.setTop (mkF m 6 #[.val (.ref a)] [])) _
  refine Go.via (fun _ => XS.aloadN X6.here hx rfl (hb hby d13_6) rfl rfl) ?_
  obtain ⟨T7, X7, e7, st7⟩ := getF X6 hx hZ hown (host := "") (Or.inl (tw hw 39 rfl)) Via.refl e6 P0 (g := (mkF m 7 #[.val (.ref a)] [(.ref a)])) rfl rfl (hb hby d13_7)
  refine Go.via (st7) ?_
  clear st7
  clear X6 e6
  show Go p e below (T7.setTop (mkF m 10 #[.val (.ref a)] [(.int (0 : Int32))])) _
  refine Go.via (fun _ => XS.goto X7.here hx rfl (pc0 := 10) (pc' := 14) rfl (hb hby d13_10) (by decide) (by decide)) ?_
  exact Go.fin X7 hlk (v := some (.int (0 : Int32))) (fun h => by rw [Bd.returns] at h; cases h) (fun fs hr => retN X7 hx (t := .byte) Bd.returns (by simp) (hb hby d13_14) hr) (by rw [e7]; exact ⟨rfl, rfl, rfl⟩) (by decide) (by decide)
theorem d25_0 : decode jdk_42_method_154_code 0 = .ok (.getstatic 38, 3) := by decide +kernel
theorem d25_3 : decode jdk_42_method_154_code 3 = .ok (.ifCond .eq 14, 3) := by decide +kernel
theorem d25_6 : decode jdk_42_method_154_code 6 = .ok (.aload_n 0, 1) := by decide +kernel
theorem d25_7 : decode jdk_42_method_154_code 7 = .ok (.getfield 15, 3) := by decide +kernel
theorem d25_10 : decode jdk_42_method_154_code 10 = .ok (.ifCond .ne 7, 3) := by decide +kernel
theorem d25_13 : decode jdk_42_method_154_code 13 = .ok (.iconst 1, 1) := by decide +kernel
theorem d25_14 : decode jdk_42_method_154_code 14 = .ok (.goto 4, 3) := by decide +kernel
theorem d25_18 : decode jdk_42_method_154_code 18 = .ok (.ireturn, 1) := by decide +kernel
theorem pn_25 : plainName cST = true := by first | (simp [plainName, overriddenIn]; done) | decide +kernel
theorem ef_25 (m : MethodId) (x0 : Addr) : entryFrame m #[(.ref x0)] 1 = mkF m 0 #[.val (.ref x0)] [] := by first | (simp [entryFrame, mkF, argsToLocals, Value.category]; done) | rfl
def Q_rmIL (Z : State) (a : Addr) (cs : Int32) (h0 : Heap) (n0 : Nat) (vQ : Option Value) (hQ : Heap) (LQ : List Loc) : Prop := vQ = some (.int (1 : Int32)) ∧ LQ = [] ∧ hQ = h0
set_option maxRecDepth 65536 in
set_option maxHeartbeats 40000000 in
theorem rmIL (l : Launch) (Z : State) (a0 : Array Value) (hw : ∀ d ∈ tables_1, d.before a0 Z = true) (ws : List Jvm.Cond) (a : Addr) (cs : Int32) (h0 : Heap) (n0 : Nat) (Z0 : n0 ≤ h0.size) (P0 : Fld Z h0 a cST "coder" "B" (.int (0 : Int32))) (P1 : Old Z n0 h0) (zCS : Sta Z Z.heap cST "COMPACT_STRINGS" "Z" (.int cs)) (hcs : ¬ (cs = (0 : Int32))) :
    MetFree l (⟨cST, "isLatin1", "()Z"⟩ : MethodName) (head1 (Jvm.Cond.code (⟨cST, "isLatin1", "()Z"⟩ : MethodName) jdk_42_method_154_code 1 (some .boolean) :: ws) ({ frames := 0, cells := 0, slots := 0, locals := 0 } : Room)) (fun aQ UQ => aQ = #[(.ref a)] ∧ Z.Warmed39 UQ.vm ∧ UQ.heap = h0) (fun _ _ _ _ _ => True) (fun _ UQ oQ UR => ∃ vQ LQ, oQ = .returned vQ ∧ Q_rmIL Z a cs h0 n0 vQ UR.heap LQ ∧ FrameEnd UQ oQ UR LQ ({ frames := 0, cells := 0, slots := 0, locals := 0 } : Room).cells ({ frames := 0, cells := 0, slots := 0, locals := 0 } : Room).slots) := by
  refine MetFree.of_bodySF (plainFor_of_name pn_25) hisR ?_
  intro p e s m args below meth c s₁ Bd hml0 hP hK
  obtain ⟨rfl, hZ, hh⟩ := hP
  have hx := Bd.exec
  have hby := Bd.bytes
  have hlk := Bd.notSynchronized
  have hml : c.maxLocals = 1 := hml0
  have hown : s.vm.findClass cST = some m.cls := findClass_of_methodNamed Bd.named
  have hnm := (name_of_methodNamed Bd.named Bd.method).1
  have X0 : Stand p l e ({ frames := 0, cells := 0, slots := 0, locals := 0 } : Room) s m #[(.ref a)] below meth c s₁ [] 0 0 := Stand.of_body Bd
  have e0 : s₁.heap = h0 := by rw [← hh, Bd.state]; rfl
  have N0 := Fr.nil n0
  show Go p e below _ (Done s (Q_rmIL Z a cs h0 n0) ({ frames := 0, cells := 0, slots := 0, locals := 0 } : Room).cells ({ frames := 0, cells := 0, slots := 0, locals := 0 } : Room).slots)
  refine Go.via (fun tQ kQ => castTop (ef_25 m a) kQ) ?_
  show Go p e below (s₁.setTop (mkF m 0 #[.val (.ref a)] [])) _
  have f8 : Sta Z h0 cST "COMPACT_STRINGS" "Z" (.int cs) := zCS.ext P1.2
  obtain ⟨T9, X9, e9, st9⟩ := getS2 X0 hx hZ hown (host := "") (Or.inl (tw hw 70 rfl)) Via.refl e0 f8 (g := (mkF m 0 #[.val (.ref a)] [])) rfl (hb hby d25_0)
  refine Go.via (st9) ?_
  clear st9
  clear X0 e0
  show Go p e below (T9.setTop (mkF m 3 #[.val (.ref a)] [(.int cs)])) _
  refine Go.via (fun _ => XS.ifNo X9.here hx rfl (hb hby d25_3) rfl ((if0 _ _).trans (feq (hcs : ¬ (cs = (0 : Int32)))).1)) ?_
  show Go p e below (T9.setTop (mkF m 6 #[.val (.ref a)] [])) _
  refine Go.via (fun _ => XS.aloadN X9.here hx rfl (hb hby d25_6) rfl rfl) ?_
  obtain ⟨T10, X10, e10, st10⟩ := getF X9 hx hZ hown (host := "") (Or.inl (tw hw 39 rfl)) Via.refl e9 P0 (g := (mkF m 7 #[.val (.ref a)] [(.ref a)])) rfl rfl (hb hby d25_7)
  refine Go.via (st10) ?_
  clear st10
  clear X9 e9
  show Go p e below (T10.setTop (mkF m 10 #[.val (.ref a)] [(.int (0 : Int32))])) _
  refine Go.via (fun _ => XS.ifNo X10.here hx rfl (hb hby d25_10) rfl ((if0 _ _).trans (teq ((by decide) : (0 : Int32) = (0 : Int32))).2)) ?_
  show Go p e below (T10.setTop (mkF m 13 #[.val (.ref a)] [])) _
  refine Go.via (fun _ => XS.iconst X10.here hx rfl (hb hby d25_13)) ?_
  refine Go.via (fun _ => XS.goto X10.here hx rfl (pc0 := 14) (pc' := 18) rfl (hb hby d25_14) (by decide) (by decide)) ?_
  exact Go.fin X10 hlk (v := some (.int (1 : Int32))) (fun h => by rw [Bd.returns] at h; cases h) (fun fs hr => retN X10 hx (t := .boolean) Bd.returns (by simp) (hb hby d25_18) hr) (by rw [e10]; exact ⟨rfl, rfl, rfl⟩) (by decide) (by decide)
theorem d12_0 : decode jdk_42_method_54_code 0 = .ok (.aload_n 0, 1) := by decide +kernel
theorem d12_1 : decode jdk_42_method_54_code 1 = .ok (.getfield 9, 3) := by decide +kernel
theorem d12_4 : decode jdk_42_method_54_code 4 = .ok (.arraylength, 1) := by decide +kernel
theorem d12_5 : decode jdk_42_method_54_code 5 = .ok (.aload_n 0, 1) := by decide +kernel
theorem d12_6 : decode jdk_42_method_54_code 6 = .ok (.invokevirtual 335, 3) := by decide +kernel
theorem pd__28_29B : parseMethodDescriptor "()B" = some ⟨[], some .byte⟩ := by decide +kernel
theorem d12_9 : decode jdk_42_method_54_code 9 = .ok (.ishr, 1) := by decide +kernel
theorem d12_10 : decode jdk_42_method_54_code 10 = .ok (.ireturn, 1) := by decide +kernel
theorem pn_12 : plainName cST = true := by first | (simp [plainName, overriddenIn]; done) | decide +kernel
theorem ef_12 (m : MethodId) (x0 : Addr) : entryFrame m #[(.ref x0)] 1 = mkF m 0 #[.val (.ref x0)] [] := by first | (simp [entryFrame, mkF, argsToLocals, Value.category]; done) | rfl
def Q_rmLn0 (Z : State) (a : Addr) (cs : Int32) (b_ : Addr) (h0 : Heap) (n0 : Nat) (vQ : Option Value) (hQ : Heap) (LQ : List Loc) : Prop := vQ = some (.int (0 : Int32)) ∧ LQ = [] ∧ hQ = h0
set_option maxRecDepth 65536 in
set_option maxHeartbeats 40000000 in
theorem rmLn0 (l : Launch) (Z : State) (a0 : Array Value) (hw : ∀ d ∈ tables_1, d.before a0 Z = true) (ws : List Jvm.Cond) (a : Addr) (cs : Int32) (b_ : Addr) (h0 : Heap) (n0 : Nat) (Z0 : n0 ≤ h0.size) (P0 : Exa Z h0 a cST) (P1 : Fld Z h0 a cST "coder" "B" (.int (0 : Int32))) (P2 : Fld Z h0 a cST "value" "[B" (.ref b_)) (P3 : Ia Z h0 b_ .byte []) (P4 : Old Z n0 h0) (zCS : Sta Z Z.heap cST "COMPACT_STRINGS" "Z" (.int cs)) (hcs : ¬ (cs = (0 : Int32))) :
    MetFree l (⟨cST, "length", "()I"⟩ : MethodName) (head1 (Jvm.Cond.code (⟨cST, "length", "()I"⟩ : MethodName) jdk_42_method_54_code 1 (some .int) :: ws) ({ frames := 1, cells := 0, slots := 0, locals := 13 } : Room)) (fun aQ UQ => aQ = #[(.ref a)] ∧ Z.Warmed39 UQ.vm ∧ UQ.heap = h0) (fun _ _ _ _ _ => True) (fun _ UQ oQ UR => ∃ vQ LQ, oQ = .returned vQ ∧ Q_rmLn0 Z a cs b_ h0 n0 vQ UR.heap LQ ∧ FrameEnd UQ oQ UR LQ ({ frames := 1, cells := 0, slots := 0, locals := 13 } : Room).cells ({ frames := 1, cells := 0, slots := 0, locals := 13 } : Room).slots) := by
  refine MetFree.of_bodySF (plainFor_of_name pn_12) hisR ?_
  intro p e s m args below meth c s₁ Bd hml0 hP hK
  obtain ⟨rfl, hZ, hh⟩ := hP
  have hx := Bd.exec
  have hby := Bd.bytes
  have hlk := Bd.notSynchronized
  have hml : c.maxLocals = 1 := hml0
  have hown : s.vm.findClass cST = some m.cls := findClass_of_methodNamed Bd.named
  have hnm := (name_of_methodNamed Bd.named Bd.method).1
  have X0 : Stand p l e ({ frames := 1, cells := 0, slots := 0, locals := 13 } : Room) s m #[(.ref a)] below meth c s₁ [] 0 0 := Stand.of_body Bd
  have e0 : s₁.heap = h0 := by rw [← hh, Bd.state]; rfl
  have N0 := Fr.nil n0
  show Go p e below _ (Done s (Q_rmLn0 Z a cs b_ h0 n0) ({ frames := 1, cells := 0, slots := 0, locals := 13 } : Room).cells ({ frames := 1, cells := 0, slots := 0, locals := 13 } : Room).slots)
  refine Go.via (fun tQ kQ => castTop (ef_12 m a) kQ) ?_
  show Go p e below (s₁.setTop (mkF m 0 #[.val (.ref a)] [])) _
  refine Go.via (fun _ => XS.aloadN X0.here hx rfl (hb hby d12_0) rfl rfl) ?_
  obtain ⟨T11, X11, e11, st11⟩ := getF X0 hx hZ hown (host := "") (Or.inl (tw hw 38 rfl)) Via.refl e0 P2 (g := (mkF m 1 #[.val (.ref a)] [(.ref a)])) rfl rfl (hb hby d12_1)
  refine Go.via (st11) ?_
  clear st11
  clear X0 e0
  show Go p e below (T11.setTop (mkF m 4 #[.val (.ref a)] [(.ref b_)])) _
  refine Go.via (lenI X11 hx hZ e11 P3 (n := (0 : Int32)) rfl (g := (mkF m 4 #[.val (.ref a)] [(.ref b_)])) rfl rfl (hb hby d12_4)) ?_
  show Go p e below (T11.setTop (mkF m 5 #[.val (.ref a)] [(.int (0 : Int32))])) _
  refine Go.via (fun _ => XS.aloadN X11.here hx rfl (hb hby d12_5) rfl rfl) ?_
  obtain ⟨cq12, kq12, q12a, q12b, q12c⟩ := isOf hZ e11 P0
  obtain ⟨r12, _, ⟨T12, L12, k12, n12⟩, -, X12, ⟨Lc12, hQ12, l12, y12, z12⟩, st12⟩ := X11.virtualBack hx (y := (⟨cST, "coder", "()B"⟩ : MethodName)) (z := (⟨cST, "coder", "()B"⟩ : MethodName)) hown (mvT hZ (tw hw 65 rfl)) (mvT hZ (tw hw 66 rfl)) (notFace_of_selects (args := #[]) (mvT hZ (tw hw 68 rfl))) (mvT hZ (tw hw 68 rfl)) (mvT hZ (tw hw 67 rfl)) (by decide) (backOf (W := 1) (rmCo l Z a0 hw [] a cs h0 n0 Z0 P1 P4 zCS hcs) hZ (tw hw 69 rfl) (tw hw 20 rfl) (by decide) (by decide)) q12a q12c (g := (mkF m 6 #[.val (.ref a)] [(.ref a), (.int (0 : Int32))])) rfl (by rw [hml]; rfl) (Steps.refl _) (argsL := []) (rest := [(.int (0 : Int32))]) (lenOf pd__28_29B rfl) rfl (by show 2 * 0 + _ ≤ _; exact Nat.le_of_eq rfl) (hb hby d12_6) (fun _ _ => ⟨rfl, e11, (by decide : 0 + 0 ≤ _), (by decide : 0 + 0 ≤ _)⟩)
  dsimp only [Pt.U, Pt.locs, Pt.cells, Pt.slots] at X12 l12 y12 z12 st12 hQ12
  rw [l12, y12, z12] at X12
  clear l12 y12 z12
  obtain ⟨hr12, N12q, eh12⟩ := hQ12
  rw [hr12] at st12
  clear hr12
  rw [N12q, List.append_nil] at X12
  refine Go.via (fun _ kQ => st12.trans kQ) ?_
  clear st12
  have e12 : T12.heap = h0 := eh12
  clear X11 e11
  show Go p e below (T12.setTop (mkF m 9 #[.val (.ref a)] [(.int (0 : Int32)), (.int (0 : Int32))])) _
  refine Go.via (fun _ => XS.ishr X12.here hx rfl (hb hby d12_9) rfl) ?_
  show Go p e below (T12.setTop (mkF m 10 #[.val (.ref a)] [(.int (0 : Int32))])) _
  exact Go.fin X12 hlk (v := some (.int (0 : Int32))) (fun h => by rw [Bd.returns] at h; cases h) (fun fs hr => OwnKit.retI X12 hx Bd.returns (hb hby d12_10) hr) (by rw [e12]; exact ⟨rfl, rfl, rfl⟩) (by decide) (by decide)
def Q_rmLn1 (Z : State) (a : Addr) (cs : Int32) (b_ : Addr) (y0 : Int32) (h0 : Heap) (n0 : Nat) (vQ : Option Value) (hQ : Heap) (LQ : List Loc) : Prop := vQ = some (.int (1 : Int32)) ∧ LQ = [] ∧ hQ = h0
set_option maxRecDepth 65536 in
set_option maxHeartbeats 40000000 in
theorem rmLn1 (l : Launch) (Z : State) (a0 : Array Value) (hw : ∀ d ∈ tables_1, d.before a0 Z = true) (ws : List Jvm.Cond) (a : Addr) (cs : Int32) (b_ : Addr) (y0 : Int32) (h0 : Heap) (n0 : Nat) (Z0 : n0 ≤ h0.size) (P0 : Exa Z h0 a cST) (P1 : Fld Z h0 a cST "coder" "B" (.int (0 : Int32))) (P2 : Fld Z h0 a cST "value" "[B" (.ref b_)) (P3 : Ia Z h0 b_ .byte [y0]) (P4 : Old Z n0 h0) (zCS : Sta Z Z.heap cST "COMPACT_STRINGS" "Z" (.int cs)) (hcs : ¬ (cs = (0 : Int32))) :
    MetFree l (⟨cST, "length", "()I"⟩ : MethodName) (head1 (Jvm.Cond.code (⟨cST, "length", "()I"⟩ : MethodName) jdk_42_method_54_code 1 (some .int) :: ws) ({ frames := 1, cells := 0, slots := 0, locals := 13 } : Room)) (fun aQ UQ => aQ = #[(.ref a)] ∧ Z.Warmed39 UQ.vm ∧ UQ.heap = h0) (fun _ _ _ _ _ => True) (fun _ UQ oQ UR => ∃ vQ LQ, oQ = .returned vQ ∧ Q_rmLn1 Z a cs b_ y0 h0 n0 vQ UR.heap LQ ∧ FrameEnd UQ oQ UR LQ ({ frames := 1, cells := 0, slots := 0, locals := 13 } : Room).cells ({ frames := 1, cells := 0, slots := 0, locals := 13 } : Room).slots) := by
  refine MetFree.of_bodySF (plainFor_of_name pn_12) hisR ?_
  intro p e s m args below meth c s₁ Bd hml0 hP hK
  obtain ⟨rfl, hZ, hh⟩ := hP
  have hx := Bd.exec
  have hby := Bd.bytes
  have hlk := Bd.notSynchronized
  have hml : c.maxLocals = 1 := hml0
  have hown : s.vm.findClass cST = some m.cls := findClass_of_methodNamed Bd.named
  have hnm := (name_of_methodNamed Bd.named Bd.method).1
  have X0 : Stand p l e ({ frames := 1, cells := 0, slots := 0, locals := 13 } : Room) s m #[(.ref a)] below meth c s₁ [] 0 0 := Stand.of_body Bd
  have e0 : s₁.heap = h0 := by rw [← hh, Bd.state]; rfl
  have N0 := Fr.nil n0
  show Go p e below _ (Done s (Q_rmLn1 Z a cs b_ y0 h0 n0) ({ frames := 1, cells := 0, slots := 0, locals := 13 } : Room).cells ({ frames := 1, cells := 0, slots := 0, locals := 13 } : Room).slots)
  refine Go.via (fun tQ kQ => castTop (ef_12 m a) kQ) ?_
  show Go p e below (s₁.setTop (mkF m 0 #[.val (.ref a)] [])) _
  refine Go.via (fun _ => XS.aloadN X0.here hx rfl (hb hby d12_0) rfl rfl) ?_
  obtain ⟨T13, X13, e13, st13⟩ := getF X0 hx hZ hown (host := "") (Or.inl (tw hw 38 rfl)) Via.refl e0 P2 (g := (mkF m 1 #[.val (.ref a)] [(.ref a)])) rfl rfl (hb hby d12_1)
  refine Go.via (st13) ?_
  clear st13
  clear X0 e0
  show Go p e below (T13.setTop (mkF m 4 #[.val (.ref a)] [(.ref b_)])) _
  refine Go.via (lenI X13 hx hZ e13 P3 (n := (1 : Int32)) rfl (g := (mkF m 4 #[.val (.ref a)] [(.ref b_)])) rfl rfl (hb hby d12_4)) ?_
  show Go p e below (T13.setTop (mkF m 5 #[.val (.ref a)] [(.int (1 : Int32))])) _
  refine Go.via (fun _ => XS.aloadN X13.here hx rfl (hb hby d12_5) rfl rfl) ?_
  obtain ⟨cq14, kq14, q14a, q14b, q14c⟩ := isOf hZ e13 P0
  obtain ⟨r14, _, ⟨T14, L14, k14, n14⟩, -, X14, ⟨Lc14, hQ14, l14, y14, z14⟩, st14⟩ := X13.virtualBack hx (y := (⟨cST, "coder", "()B"⟩ : MethodName)) (z := (⟨cST, "coder", "()B"⟩ : MethodName)) hown (mvT hZ (tw hw 65 rfl)) (mvT hZ (tw hw 66 rfl)) (notFace_of_selects (args := #[]) (mvT hZ (tw hw 68 rfl))) (mvT hZ (tw hw 68 rfl)) (mvT hZ (tw hw 67 rfl)) (by decide) (backOf (W := 1) (rmCo l Z a0 hw [] a cs h0 n0 Z0 P1 P4 zCS hcs) hZ (tw hw 69 rfl) (tw hw 20 rfl) (by decide) (by decide)) q14a q14c (g := (mkF m 6 #[.val (.ref a)] [(.ref a), (.int (1 : Int32))])) rfl (by rw [hml]; rfl) (Steps.refl _) (argsL := []) (rest := [(.int (1 : Int32))]) (lenOf pd__28_29B rfl) rfl (by show 2 * 0 + _ ≤ _; exact Nat.le_of_eq rfl) (hb hby d12_6) (fun _ _ => ⟨rfl, e13, (by decide : 0 + 0 ≤ _), (by decide : 0 + 0 ≤ _)⟩)
  dsimp only [Pt.U, Pt.locs, Pt.cells, Pt.slots] at X14 l14 y14 z14 st14 hQ14
  rw [l14, y14, z14] at X14
  clear l14 y14 z14
  obtain ⟨hr14, N14q, eh14⟩ := hQ14
  rw [hr14] at st14
  clear hr14
  rw [N14q, List.append_nil] at X14
  refine Go.via (fun _ kQ => st14.trans kQ) ?_
  clear st14
  have e14 : T14.heap = h0 := eh14
  clear X13 e13
  show Go p e below (T14.setTop (mkF m 9 #[.val (.ref a)] [(.int (0 : Int32)), (.int (1 : Int32))])) _
  refine Go.via (fun _ => XS.ishr X14.here hx rfl (hb hby d12_9) rfl) ?_
  show Go p e below (T14.setTop (mkF m 10 #[.val (.ref a)] [(.int (1 : Int32))])) _
  exact Go.fin X14 hlk (v := some (.int (1 : Int32))) (fun h => by rw [Bd.returns] at h; cases h) (fun fs hr => OwnKit.retI X14 hx Bd.returns (hb hby d12_10) hr) (by rw [e14]; exact ⟨rfl, rfl, rfl⟩) (by decide) (by decide)
def Q_rmLn2 (Z : State) (a : Addr) (cs : Int32) (b_ : Addr) (y0 : Int32) (y1 : Int32) (h0 : Heap) (n0 : Nat) (vQ : Option Value) (hQ : Heap) (LQ : List Loc) : Prop := vQ = some (.int (2 : Int32)) ∧ LQ = [] ∧ hQ = h0
set_option maxRecDepth 65536 in
set_option maxHeartbeats 40000000 in
theorem rmLn2 (l : Launch) (Z : State) (a0 : Array Value) (hw : ∀ d ∈ tables_1, d.before a0 Z = true) (ws : List Jvm.Cond) (a : Addr) (cs : Int32) (b_ : Addr) (y0 : Int32) (y1 : Int32) (h0 : Heap) (n0 : Nat) (Z0 : n0 ≤ h0.size) (P0 : Exa Z h0 a cST) (P1 : Fld Z h0 a cST "coder" "B" (.int (0 : Int32))) (P2 : Fld Z h0 a cST "value" "[B" (.ref b_)) (P3 : Ia Z h0 b_ .byte [y0, y1]) (P4 : Old Z n0 h0) (zCS : Sta Z Z.heap cST "COMPACT_STRINGS" "Z" (.int cs)) (hcs : ¬ (cs = (0 : Int32))) :
    MetFree l (⟨cST, "length", "()I"⟩ : MethodName) (head1 (Jvm.Cond.code (⟨cST, "length", "()I"⟩ : MethodName) jdk_42_method_54_code 1 (some .int) :: ws) ({ frames := 1, cells := 0, slots := 0, locals := 13 } : Room)) (fun aQ UQ => aQ = #[(.ref a)] ∧ Z.Warmed39 UQ.vm ∧ UQ.heap = h0) (fun _ _ _ _ _ => True) (fun _ UQ oQ UR => ∃ vQ LQ, oQ = .returned vQ ∧ Q_rmLn2 Z a cs b_ y0 y1 h0 n0 vQ UR.heap LQ ∧ FrameEnd UQ oQ UR LQ ({ frames := 1, cells := 0, slots := 0, locals := 13 } : Room).cells ({ frames := 1, cells := 0, slots := 0, locals := 13 } : Room).slots) := by
  refine MetFree.of_bodySF (plainFor_of_name pn_12) hisR ?_
  intro p e s m args below meth c s₁ Bd hml0 hP hK
  obtain ⟨rfl, hZ, hh⟩ := hP
  have hx := Bd.exec
  have hby := Bd.bytes
  have hlk := Bd.notSynchronized
  have hml : c.maxLocals = 1 := hml0
  have hown : s.vm.findClass cST = some m.cls := findClass_of_methodNamed Bd.named
  have hnm := (name_of_methodNamed Bd.named Bd.method).1
  have X0 : Stand p l e ({ frames := 1, cells := 0, slots := 0, locals := 13 } : Room) s m #[(.ref a)] below meth c s₁ [] 0 0 := Stand.of_body Bd
  have e0 : s₁.heap = h0 := by rw [← hh, Bd.state]; rfl
  have N0 := Fr.nil n0
  show Go p e below _ (Done s (Q_rmLn2 Z a cs b_ y0 y1 h0 n0) ({ frames := 1, cells := 0, slots := 0, locals := 13 } : Room).cells ({ frames := 1, cells := 0, slots := 0, locals := 13 } : Room).slots)
  refine Go.via (fun tQ kQ => castTop (ef_12 m a) kQ) ?_
  show Go p e below (s₁.setTop (mkF m 0 #[.val (.ref a)] [])) _
  refine Go.via (fun _ => XS.aloadN X0.here hx rfl (hb hby d12_0) rfl rfl) ?_
  obtain ⟨T15, X15, e15, st15⟩ := getF X0 hx hZ hown (host := "") (Or.inl (tw hw 38 rfl)) Via.refl e0 P2 (g := (mkF m 1 #[.val (.ref a)] [(.ref a)])) rfl rfl (hb hby d12_1)
  refine Go.via (st15) ?_
  clear st15
  clear X0 e0
  show Go p e below (T15.setTop (mkF m 4 #[.val (.ref a)] [(.ref b_)])) _
  refine Go.via (lenI X15 hx hZ e15 P3 (n := (2 : Int32)) rfl (g := (mkF m 4 #[.val (.ref a)] [(.ref b_)])) rfl rfl (hb hby d12_4)) ?_
  show Go p e below (T15.setTop (mkF m 5 #[.val (.ref a)] [(.int (2 : Int32))])) _
  refine Go.via (fun _ => XS.aloadN X15.here hx rfl (hb hby d12_5) rfl rfl) ?_
  obtain ⟨cq16, kq16, q16a, q16b, q16c⟩ := isOf hZ e15 P0
  obtain ⟨r16, _, ⟨T16, L16, k16, n16⟩, -, X16, ⟨Lc16, hQ16, l16, y16, z16⟩, st16⟩ := X15.virtualBack hx (y := (⟨cST, "coder", "()B"⟩ : MethodName)) (z := (⟨cST, "coder", "()B"⟩ : MethodName)) hown (mvT hZ (tw hw 65 rfl)) (mvT hZ (tw hw 66 rfl)) (notFace_of_selects (args := #[]) (mvT hZ (tw hw 68 rfl))) (mvT hZ (tw hw 68 rfl)) (mvT hZ (tw hw 67 rfl)) (by decide) (backOf (W := 1) (rmCo l Z a0 hw [] a cs h0 n0 Z0 P1 P4 zCS hcs) hZ (tw hw 69 rfl) (tw hw 20 rfl) (by decide) (by decide)) q16a q16c (g := (mkF m 6 #[.val (.ref a)] [(.ref a), (.int (2 : Int32))])) rfl (by rw [hml]; rfl) (Steps.refl _) (argsL := []) (rest := [(.int (2 : Int32))]) (lenOf pd__28_29B rfl) rfl (by show 2 * 0 + _ ≤ _; exact Nat.le_of_eq rfl) (hb hby d12_6) (fun _ _ => ⟨rfl, e15, (by decide : 0 + 0 ≤ _), (by decide : 0 + 0 ≤ _)⟩)
  dsimp only [Pt.U, Pt.locs, Pt.cells, Pt.slots] at X16 l16 y16 z16 st16 hQ16
  rw [l16, y16, z16] at X16
  clear l16 y16 z16
  obtain ⟨hr16, N16q, eh16⟩ := hQ16
  rw [hr16] at st16
  clear hr16
  rw [N16q, List.append_nil] at X16
  refine Go.via (fun _ kQ => st16.trans kQ) ?_
  clear st16
  have e16 : T16.heap = h0 := eh16
  clear X15 e15
  show Go p e below (T16.setTop (mkF m 9 #[.val (.ref a)] [(.int (0 : Int32)), (.int (2 : Int32))])) _
  refine Go.via (fun _ => XS.ishr X16.here hx rfl (hb hby d12_9) rfl) ?_
  show Go p e below (T16.setTop (mkF m 10 #[.val (.ref a)] [(.int (2 : Int32))])) _
  exact Go.fin X16 hlk (v := some (.int (2 : Int32))) (fun h => by rw [Bd.returns] at h; cases h) (fun fs hr => OwnKit.retI X16 hx Bd.returns (hb hby d12_10) hr) (by rw [e16]; exact ⟨rfl, rfl, rfl⟩) (by decide) (by decide)
theorem d28_0 : decode jdk_41_method_11_code 0 = .ok (.iload_n 0, 1) := by decide +kernel
theorem d28_1 : decode jdk_41_method_11_code 1 = .ok (.ifCond .lt 8, 3) := by decide +kernel
theorem d28_4 : decode jdk_41_method_11_code 4 = .ok (.iload_n 0, 1) := by decide +kernel
theorem d28_5 : decode jdk_41_method_11_code 5 = .ok (.iload_n 1, 1) := by decide +kernel
theorem d28_6 : decode jdk_41_method_11_code 6 = .ok (.if_icmp .lt 10, 3) := by decide +kernel
theorem d28_16 : decode jdk_41_method_11_code 16 = .ok (.iload_n 0, 1) := by decide +kernel
theorem d28_17 : decode jdk_41_method_11_code 17 = .ok (.ireturn, 1) := by decide +kernel
theorem pn_28 : plainName cPR = true := by first | (simp [plainName, overriddenIn]; done) | decide +kernel
theorem ef_28n2 (m : MethodId) (x0 : Int32) (x1 : Int32) : entryFrame m #[(.int x0), (.int x1), .null] 3 = mkF m 0 #[.val (.int x0), .val (.int x1), .val .null] [] := by first | (simp [entryFrame, mkF, argsToLocals, Value.category]; done) | rfl
def Q_rmPcN (Z : State) (i : Int32) (n : Int32)  (h0 : Heap) (n0 : Nat) (vQ : Option Value) (hQ : Heap) (LQ : List Loc) : Prop := vQ = some (.int i) ∧ LQ = [] ∧ hQ = h0
set_option maxRecDepth 65536 in
set_option maxHeartbeats 40000000 in
theorem rmPcN (l : Launch) (Z : State) (a0 : Array Value) (hw : ∀ d ∈ tables_1, d.before a0 Z = true) (ws : List Jvm.Cond) (i : Int32) (n : Int32)  (h0 : Heap) (n0 : Nat) (Z0 : n0 ≤ h0.size) (hi0 : ¬ i < (0 : Int32)) (hlt : i < n) :
    MetFree l (⟨cPR, "checkIndex", "(IILjava/util/function/BiFunction;)I"⟩ : MethodName) (head1 (Jvm.Cond.code (⟨cPR, "checkIndex", "(IILjava/util/function/BiFunction;)I"⟩ : MethodName) jdk_41_method_11_code 3 (some .int) :: ws) ({ frames := 0, cells := 0, slots := 0, locals := 0 } : Room)) (fun aQ UQ => aQ = #[(.int i), (.int n), .null] ∧ Z.Warmed39 UQ.vm ∧ UQ.heap = h0) (fun _ _ _ _ _ => True) (fun _ UQ oQ UR => ∃ vQ LQ, oQ = .returned vQ ∧ Q_rmPcN Z i n  h0 n0 vQ UR.heap LQ ∧ FrameEnd UQ oQ UR LQ ({ frames := 0, cells := 0, slots := 0, locals := 0 } : Room).cells ({ frames := 0, cells := 0, slots := 0, locals := 0 } : Room).slots) := by
  refine MetFree.of_bodySF (plainFor_of_name pn_28) hisR ?_
  intro p e s m args below meth c s₁ Bd hml0 hP hK
  obtain ⟨rfl, hZ, hh⟩ := hP
  have hx := Bd.exec
  have hby := Bd.bytes
  have hlk := Bd.notSynchronized
  have hml : c.maxLocals = 3 := hml0
  have hown : s.vm.findClass cPR = some m.cls := findClass_of_methodNamed Bd.named
  have hnm := (name_of_methodNamed Bd.named Bd.method).1
  have X0 : Stand p l e ({ frames := 0, cells := 0, slots := 0, locals := 0 } : Room) s m #[(.int i), (.int n), .null] below meth c s₁ [] 0 0 := Stand.of_body Bd
  have e0 : s₁.heap = h0 := by rw [← hh, Bd.state]; rfl
  have N0 := Fr.nil n0
  show Go p e below _ (Done s (Q_rmPcN Z i n  h0 n0) ({ frames := 0, cells := 0, slots := 0, locals := 0 } : Room).cells ({ frames := 0, cells := 0, slots := 0, locals := 0 } : Room).slots)
  refine Go.via (fun tQ kQ => castTop (ef_28n2 m i n) kQ) ?_
  show Go p e below (s₁.setTop (mkF m 0 #[.val (.int i), .val (.int n), .val .null] [])) _
  refine Go.via (fun _ => XS.iloadN X0.here hx rfl (hb hby d28_0) rfl) ?_
  refine Go.via (fun _ => XS.ifNo X0.here hx rfl (hb hby d28_1) rfl ((if0 _ _).trans (flt (hi0 : ¬ (i < (0 : Int32)))).1)) ?_
  show Go p e below (s₁.setTop (mkF m 4 #[.val (.int i), .val (.int n), .val .null] [])) _
  refine Go.via (fun _ => XS.iloadN X0.here hx rfl (hb hby d28_4) rfl) ?_
  refine Go.via (fun _ => XS.iloadN X0.here hx rfl (hb hby d28_5) rfl) ?_
  refine Go.via (fun _ => XS.icmpYes X0.here hx rfl (pc0 := 6) (pc' := 16) rfl (hb hby d28_6) rfl (tlt (hlt : i < n)).1 (by decide) (by decide)) ?_
  show Go p e below (s₁.setTop (mkF m 16 #[.val (.int i), .val (.int n), .val .null] [])) _
  refine Go.via (fun _ => XS.iloadN X0.here hx rfl (hb hby d28_16) rfl) ?_
  exact Go.fin X0 hlk (v := some (.int i)) (fun h => by rw [Bd.returns] at h; cases h) (fun fs hr => OwnKit.retI X0 hx Bd.returns (hb hby d28_17) hr) (by rw [e0]; exact ⟨rfl, rfl, rfl⟩) (by decide) (by decide)
theorem ef_28 (m : MethodId) (x0 : Int32) (x1 : Int32) (x2 : Addr) : entryFrame m #[(.int x0), (.int x1), (.ref x2)] 3 = mkF m 0 #[.val (.int x0), .val (.int x1), .val (.ref x2)] [] := by first | (simp [entryFrame, mkF, argsToLocals, Value.category]; done) | rfl
def Q_rmPcR (Z : State) (i : Int32) (n : Int32) (fa : Addr)  (h0 : Heap) (n0 : Nat) (vQ : Option Value) (hQ : Heap) (LQ : List Loc) : Prop := vQ = some (.int i) ∧ LQ = [] ∧ hQ = h0
set_option maxRecDepth 65536 in
set_option maxHeartbeats 40000000 in
theorem rmPcR (l : Launch) (Z : State) (a0 : Array Value) (hw : ∀ d ∈ tables_1, d.before a0 Z = true) (ws : List Jvm.Cond) (i : Int32) (n : Int32) (fa : Addr)  (h0 : Heap) (n0 : Nat) (Z0 : n0 ≤ h0.size) (hi0 : ¬ i < (0 : Int32)) (hlt : i < n) :
    MetFree l (⟨cPR, "checkIndex", "(IILjava/util/function/BiFunction;)I"⟩ : MethodName) (head1 (Jvm.Cond.code (⟨cPR, "checkIndex", "(IILjava/util/function/BiFunction;)I"⟩ : MethodName) jdk_41_method_11_code 3 (some .int) :: ws) ({ frames := 0, cells := 0, slots := 0, locals := 0 } : Room)) (fun aQ UQ => aQ = #[(.int i), (.int n), (.ref fa)] ∧ Z.Warmed39 UQ.vm ∧ UQ.heap = h0) (fun _ _ _ _ _ => True) (fun _ UQ oQ UR => ∃ vQ LQ, oQ = .returned vQ ∧ Q_rmPcR Z i n fa  h0 n0 vQ UR.heap LQ ∧ FrameEnd UQ oQ UR LQ ({ frames := 0, cells := 0, slots := 0, locals := 0 } : Room).cells ({ frames := 0, cells := 0, slots := 0, locals := 0 } : Room).slots) := by
  refine MetFree.of_bodySF (plainFor_of_name pn_28) hisR ?_
  intro p e s m args below meth c s₁ Bd hml0 hP hK
  obtain ⟨rfl, hZ, hh⟩ := hP
  have hx := Bd.exec
  have hby := Bd.bytes
  have hlk := Bd.notSynchronized
  have hml : c.maxLocals = 3 := hml0
  have hown : s.vm.findClass cPR = some m.cls := findClass_of_methodNamed Bd.named
  have hnm := (name_of_methodNamed Bd.named Bd.method).1
  have X0 : Stand p l e ({ frames := 0, cells := 0, slots := 0, locals := 0 } : Room) s m #[(.int i), (.int n), (.ref fa)] below meth c s₁ [] 0 0 := Stand.of_body Bd
  have e0 : s₁.heap = h0 := by rw [← hh, Bd.state]; rfl
  have N0 := Fr.nil n0
  show Go p e below _ (Done s (Q_rmPcR Z i n fa  h0 n0) ({ frames := 0, cells := 0, slots := 0, locals := 0 } : Room).cells ({ frames := 0, cells := 0, slots := 0, locals := 0 } : Room).slots)
  refine Go.via (fun tQ kQ => castTop (ef_28 m i n fa) kQ) ?_
  show Go p e below (s₁.setTop (mkF m 0 #[.val (.int i), .val (.int n), .val (.ref fa)] [])) _
  refine Go.via (fun _ => XS.iloadN X0.here hx rfl (hb hby d28_0) rfl) ?_
  refine Go.via (fun _ => XS.ifNo X0.here hx rfl (hb hby d28_1) rfl ((if0 _ _).trans (flt (hi0 : ¬ (i < (0 : Int32)))).1)) ?_
  show Go p e below (s₁.setTop (mkF m 4 #[.val (.int i), .val (.int n), .val (.ref fa)] [])) _
  refine Go.via (fun _ => XS.iloadN X0.here hx rfl (hb hby d28_4) rfl) ?_
  refine Go.via (fun _ => XS.iloadN X0.here hx rfl (hb hby d28_5) rfl) ?_
  refine Go.via (fun _ => XS.icmpYes X0.here hx rfl (pc0 := 6) (pc' := 16) rfl (hb hby d28_6) rfl (tlt (hlt : i < n)).1 (by decide) (by decide)) ?_
  show Go p e below (s₁.setTop (mkF m 16 #[.val (.int i), .val (.int n), .val (.ref fa)] [])) _
  refine Go.via (fun _ => XS.iloadN X0.here hx rfl (hb hby d28_16) rfl) ?_
  exact Go.fin X0 hlk (v := some (.int i)) (fun h => by rw [Bd.returns] at h; cases h) (fun fs hr => OwnKit.retI X0 hx Bd.returns (hb hby d28_17) hr) (by rw [e0]; exact ⟨rfl, rfl, rfl⟩) (by decide) (by decide)
theorem d27_0 : decode jdk_42_method_155_code 0 = .ok (.iload_n 0, 1) := by decide +kernel
theorem d27_1 : decode jdk_42_method_155_code 1 = .ok (.iload_n 1, 1) := by decide +kernel
theorem d27_2 : decode jdk_42_method_155_code 2 = .ok (.getstatic 1053, 3) := by decide +kernel
theorem d27_5 : decode jdk_42_method_155_code 5 = .ok (.invokestatic 1059, 3) := by decide +kernel
theorem pd__28IILjava_2futil_2ffunction_2fBiFunction_3b_29I : parseMethodDescriptor "(IILjava/util/function/BiFunction;)I" = some ⟨[.int, .int, (.object "java/util/function/BiFunction")], some .int⟩ := by decide +kernel
theorem d27_8 : decode jdk_42_method_155_code 8 = .ok (.pop, 1) := by decide +kernel
theorem d27_9 : decode jdk_42_method_155_code 9 = .ok (.return_, 1) := by decide +kernel
theorem pn_27 : plainName cST = true := by first | (simp [plainName, overriddenIn]; done) | decide +kernel
theorem ef_27 (m : MethodId) (x0 : Int32) (x1 : Int32) : entryFrame m #[(.int x0), (.int x1)] 2 = mkF m 0 #[.val (.int x0), .val (.int x1)] [] := by first | (simp [entryFrame, mkF, argsToLocals, Value.category]; done) | rfl
def Q_rmCx (Z : State) (i : Int32) (n : Int32) (fv : Value) (h0 : Heap) (n0 : Nat) (vQ : Option Value) (hQ : Heap) (LQ : List Loc) : Prop := vQ = none ∧ LQ = [] ∧ hQ = h0
set_option maxRecDepth 65536 in
set_option maxHeartbeats 40000000 in
theorem rmCx (l : Launch) (Z : State) (a0 : Array Value) (hw : ∀ d ∈ tables_1, d.before a0 Z = true) (ws : List Jvm.Cond) (i : Int32) (n : Int32) (fv : Value) (h0 : Heap) (n0 : Nat) (Z0 : n0 ≤ h0.size) (P0 : Old Z n0 h0) (zF : Sta Z Z.heap cPR "SIOOBE_FORMATTER" "Ljava/util/function/BiFunction;" fv) (hi0 : ¬ i < (0 : Int32)) (hlt : i < n) (hfv : fv = .null ∨ ∃ fa : Addr, fv = .ref fa) :
    MetFree l (⟨cST, "checkIndex", "(II)V"⟩ : MethodName) (head1 (Jvm.Cond.code (⟨cST, "checkIndex", "(II)V"⟩ : MethodName) jdk_42_method_155_code 2 none :: ws) ({ frames := 1, cells := 0, slots := 0, locals := 14 } : Room)) (fun aQ UQ => aQ = #[(.int i), (.int n)] ∧ Z.Warmed39 UQ.vm ∧ UQ.heap = h0) (fun _ _ _ _ _ => True) (fun _ UQ oQ UR => ∃ vQ LQ, oQ = .returned vQ ∧ Q_rmCx Z i n fv h0 n0 vQ UR.heap LQ ∧ FrameEnd UQ oQ UR LQ ({ frames := 1, cells := 0, slots := 0, locals := 14 } : Room).cells ({ frames := 1, cells := 0, slots := 0, locals := 14 } : Room).slots) := by
  refine MetFree.of_bodySF (plainFor_of_name pn_27) hisR ?_
  intro p e s m args below meth c s₁ Bd hml0 hP hK
  obtain ⟨rfl, hZ, hh⟩ := hP
  have hx := Bd.exec
  have hby := Bd.bytes
  have hlk := Bd.notSynchronized
  have hml : c.maxLocals = 2 := hml0
  have hown : s.vm.findClass cST = some m.cls := findClass_of_methodNamed Bd.named
  have hnm := (name_of_methodNamed Bd.named Bd.method).1
  have X0 : Stand p l e ({ frames := 1, cells := 0, slots := 0, locals := 14 } : Room) s m #[(.int i), (.int n)] below meth c s₁ [] 0 0 := Stand.of_body Bd
  have e0 : s₁.heap = h0 := by rw [← hh, Bd.state]; rfl
  have N0 := Fr.nil n0
  show Go p e below _ (Done s (Q_rmCx Z i n fv h0 n0) ({ frames := 1, cells := 0, slots := 0, locals := 14 } : Room).cells ({ frames := 1, cells := 0, slots := 0, locals := 14 } : Room).slots)
  refine Go.via (fun tQ kQ => castTop (ef_27 m i n) kQ) ?_
  show Go p e below (s₁.setTop (mkF m 0 #[.val (.int i), .val (.int n)] [])) _
  rcases hfv with rfl | ⟨fa, rfl⟩
  · show Go p e below (s₁.setTop (mkF m 0 #[.val (.int i), .val (.int n)] [])) _
    refine Go.via (fun _ => XS.iloadN X0.here hx rfl (hb hby d27_0) rfl) ?_
    refine Go.via (fun _ => XS.iloadN X0.here hx rfl (hb hby d27_1) rfl) ?_
    have f17 : Sta Z h0 cPR "SIOOBE_FORMATTER" "Ljava/util/function/BiFunction;" .null := zF.ext P0.2
    obtain ⟨T18, X18, e18, st18⟩ := getS2 X0 hx hZ hown (host := "") (Or.inl (tw hw 151 rfl)) Via.refl e0 f17 (g := (mkF m 2 #[.val (.int i), .val (.int n)] [(.int n), (.int i)])) rfl (hb hby d27_2)
    refine Go.via (st18) ?_
    clear st18
    clear X0 e0
    show Go p e below (T18.setTop (mkF m 5 #[.val (.int i), .val (.int n)] [.null, (.int n), (.int i)])) _
    obtain ⟨r19, _, ⟨T19, L19, k19, n19⟩, -, X19, ⟨Lc19, hQ19, l19, y19, z19⟩, st19⟩ := Jvm.LawKit.callS X18 hx (y := (⟨cPR, "checkIndex", "(IILjava/util/function/BiFunction;)I"⟩ : MethodName)) hown (mvT hZ (tw hw 153 rfl)) (mvT hZ (tw hw 154 rfl)) (mvT hZ (tw hw 152 rfl)) (mvT hZ (tw hw 155 rfl)) (by decide) (backOf (W := 0) (rmPcN l Z a0 hw [] i n  h0 n0 Z0 hi0 hlt) hZ (tw hw 155 rfl) (tw hw 152 rfl) (by decide) (by decide)) (g := (mkF m 5 #[.val (.int i), .val (.int n)] [.null, (.int n), (.int i)])) rfl (by rw [hml]; rfl) (argsL := [(.int i), (.int n), .null]) (rest := []) (lenOf pd__28IILjava_2futil_2ffunction_2fBiFunction_3b_29I rfl) rfl (by show 2 * 0 + _ ≤ _; exact Nat.le_of_eq rfl) (hb hby d27_5) (fun _ _ => ⟨rfl, e18, (by decide : 0 + 0 ≤ _), (by decide : 0 + 0 ≤ _)⟩)
    dsimp only [Pt.U, Pt.locs, Pt.cells, Pt.slots] at X19 l19 y19 z19 st19 hQ19
    rw [l19, y19, z19] at X19
    clear l19 y19 z19
    obtain ⟨hr19, N19q, eh19⟩ := hQ19
    rw [hr19] at st19
    clear hr19
    rw [N19q, List.append_nil] at X19
    refine Go.via (st19) ?_
    clear st19
    have e19 : T19.heap = h0 := eh19
    clear X18 e18
    show Go p e below (T19.setTop (mkF m 8 #[.val (.int i), .val (.int n)] [(.int i)])) _
    refine Go.via (fun _ => XS.pop X19.here hx rfl (hb hby d27_8) rfl rfl) ?_
    show Go p e below (T19.setTop (mkF m 9 #[.val (.int i), .val (.int n)] [])) _
    exact Go.fin X19 hlk (v := none) (fun _ => rfl) (fun fs hr => X19.returnOut hx Bd.returns (hb hby d27_9) hr) (by rw [e19]; exact ⟨rfl, rfl, rfl⟩) (by decide) (by decide)
  · show Go p e below (s₁.setTop (mkF m 0 #[.val (.int i), .val (.int n)] [])) _
    refine Go.via (fun _ => XS.iloadN X0.here hx rfl (hb hby d27_0) rfl) ?_
    refine Go.via (fun _ => XS.iloadN X0.here hx rfl (hb hby d27_1) rfl) ?_
    have f20 : Sta Z h0 cPR "SIOOBE_FORMATTER" "Ljava/util/function/BiFunction;" (.ref fa) := zF.ext P0.2
    obtain ⟨T21, X21, e21, st21⟩ := getS2 X0 hx hZ hown (host := "") (Or.inl (tw hw 151 rfl)) Via.refl e0 f20 (g := (mkF m 2 #[.val (.int i), .val (.int n)] [(.int n), (.int i)])) rfl (hb hby d27_2)
    refine Go.via (st21) ?_
    clear st21
    clear X0 e0
    show Go p e below (T21.setTop (mkF m 5 #[.val (.int i), .val (.int n)] [(.ref fa), (.int n), (.int i)])) _
    obtain ⟨r22, _, ⟨T22, L22, k22, n22⟩, -, X22, ⟨Lc22, hQ22, l22, y22, z22⟩, st22⟩ := Jvm.LawKit.callS X21 hx (y := (⟨cPR, "checkIndex", "(IILjava/util/function/BiFunction;)I"⟩ : MethodName)) hown (mvT hZ (tw hw 153 rfl)) (mvT hZ (tw hw 154 rfl)) (mvT hZ (tw hw 152 rfl)) (mvT hZ (tw hw 155 rfl)) (by decide) (backOf (W := 0) (rmPcR l Z a0 hw [] i n fa  h0 n0 Z0 hi0 hlt) hZ (tw hw 155 rfl) (tw hw 152 rfl) (by decide) (by decide)) (g := (mkF m 5 #[.val (.int i), .val (.int n)] [(.ref fa), (.int n), (.int i)])) rfl (by rw [hml]; rfl) (argsL := [(.int i), (.int n), (.ref fa)]) (rest := []) (lenOf pd__28IILjava_2futil_2ffunction_2fBiFunction_3b_29I rfl) rfl (by show 2 * 0 + _ ≤ _; exact Nat.le_of_eq rfl) (hb hby d27_5) (fun _ _ => ⟨rfl, e21, (by decide : 0 + 0 ≤ _), (by decide : 0 + 0 ≤ _)⟩)
    dsimp only [Pt.U, Pt.locs, Pt.cells, Pt.slots] at X22 l22 y22 z22 st22 hQ22
    rw [l22, y22, z22] at X22
    clear l22 y22 z22
    obtain ⟨hr22, N22q, eh22⟩ := hQ22
    rw [hr22] at st22
    clear hr22
    rw [N22q, List.append_nil] at X22
    refine Go.via (st22) ?_
    clear st22
    have e22 : T22.heap = h0 := eh22
    clear X21 e21
    show Go p e below (T22.setTop (mkF m 8 #[.val (.int i), .val (.int n)] [(.int i)])) _
    refine Go.via (fun _ => XS.pop X22.here hx rfl (hb hby d27_8) rfl rfl) ?_
    show Go p e below (T22.setTop (mkF m 9 #[.val (.int i), .val (.int n)] [])) _
    exact Go.fin X22 hlk (v := none) (fun _ => rfl) (fun fs hr => X22.returnOut hx Bd.returns (hb hby d27_9) hr) (by rw [e22]; exact ⟨rfl, rfl, rfl⟩) (by decide) (by decide)
theorem d26_0 : decode jdk_43_method_2_code 0 = .ok (.iload_n 1, 1) := by decide +kernel
theorem d26_1 : decode jdk_43_method_2_code 1 = .ok (.aload_n 0, 1) := by decide +kernel
theorem d26_2 : decode jdk_43_method_2_code 2 = .ok (.arraylength, 1) := by decide +kernel
theorem d26_3 : decode jdk_43_method_2_code 3 = .ok (.invokestatic 9, 3) := by decide +kernel
theorem pd__28II_29V : parseMethodDescriptor "(II)V" = some ⟨[.int, .int], none⟩ := by decide +kernel
theorem d26_6 : decode jdk_43_method_2_code 6 = .ok (.aload_n 0, 1) := by decide +kernel
theorem d26_7 : decode jdk_43_method_2_code 7 = .ok (.iload_n 1, 1) := by decide +kernel
theorem d26_8 : decode jdk_43_method_2_code 8 = .ok (.baload, 1) := by decide +kernel
theorem d26_9 : decode jdk_43_method_2_code 9 = .ok (.sipush 255, 3) := by decide +kernel
theorem d26_12 : decode jdk_43_method_2_code 12 = .ok (.iand, 1) := by decide +kernel
theorem d26_13 : decode jdk_43_method_2_code 13 = .ok (.i2c, 1) := by decide +kernel
theorem d26_14 : decode jdk_43_method_2_code 14 = .ok (.ireturn, 1) := by decide +kernel
theorem pn_26 : plainName cL1 = true := by first | (simp [plainName, overriddenIn]; done) | decide +kernel
theorem ef_26 (m : MethodId) (x0 : Addr) (x1 : Int32) : entryFrame m #[(.ref x0), (.int x1)] 2 = mkF m 0 #[.val (.ref x0), .val (.int x1)] [] := by first | (simp [entryFrame, mkF, argsToLocals, Value.category]; done) | rfl
def Q_rmLc (Z : State) (b_ : Addr) (i : Int32) (xs : List Int32) (v : Int32) (n : Int32) (fv : Value) (h0 : Heap) (n0 : Nat) (vQ : Option Value) (hQ : Heap) (LQ : List Loc) : Prop := vQ = some (.int v) ∧ LQ = [] ∧ hQ = h0
set_option maxRecDepth 65536 in
set_option maxHeartbeats 40000000 in
theorem rmLc (l : Launch) (Z : State) (a0 : Array Value) (hw : ∀ d ∈ tables_1, d.before a0 Z = true) (ws : List Jvm.Cond) (b_ : Addr) (i : Int32) (xs : List Int32) (v : Int32) (n : Int32) (fv : Value) (h0 : Heap) (n0 : Nat) (Z0 : n0 ≤ h0.size) (P0 : Ia Z h0 b_ .byte xs) (P1 : Old Z n0 h0) (zF : Sta Z Z.heap cPR "SIOOBE_FORMATTER" "Ljava/util/function/BiFunction;" fv) (hi0 : ¬ i < (0 : Int32)) (hlt : i < n) (hn : xs.length.toInt32 = n) (hv : xs[i.toNatClampNeg]? = some v) (hc : ((v &&& (255 : Int32)).toUInt32.toUInt16.toUInt32.toInt32) = v) (hfv : fv = .null ∨ ∃ fa : Addr, fv = .ref fa) :
    MetFree l (⟨cL1, "charAt", "([BI)C"⟩ : MethodName) (head1 (Jvm.Cond.code (⟨cL1, "charAt", "([BI)C"⟩ : MethodName) jdk_43_method_2_code 2 (some .char) :: ws) ({ frames := 2, cells := 0, slots := 0, locals := 27 } : Room)) (fun aQ UQ => aQ = #[(.ref b_), (.int i)] ∧ Z.Warmed39 UQ.vm ∧ UQ.heap = h0) (fun _ _ _ _ _ => True) (fun _ UQ oQ UR => ∃ vQ LQ, oQ = .returned vQ ∧ Q_rmLc Z b_ i xs v n fv h0 n0 vQ UR.heap LQ ∧ FrameEnd UQ oQ UR LQ ({ frames := 2, cells := 0, slots := 0, locals := 27 } : Room).cells ({ frames := 2, cells := 0, slots := 0, locals := 27 } : Room).slots) := by
  refine MetFree.of_bodySF (plainFor_of_name pn_26) hisR ?_
  intro p e s m args below meth c s₁ Bd hml0 hP hK
  obtain ⟨rfl, hZ, hh⟩ := hP
  have hx := Bd.exec
  have hby := Bd.bytes
  have hlk := Bd.notSynchronized
  have hml : c.maxLocals = 2 := hml0
  have hown : s.vm.findClass cL1 = some m.cls := findClass_of_methodNamed Bd.named
  have hnm := (name_of_methodNamed Bd.named Bd.method).1
  have X0 : Stand p l e ({ frames := 2, cells := 0, slots := 0, locals := 27 } : Room) s m #[(.ref b_), (.int i)] below meth c s₁ [] 0 0 := Stand.of_body Bd
  have e0 : s₁.heap = h0 := by rw [← hh, Bd.state]; rfl
  have N0 := Fr.nil n0
  show Go p e below _ (Done s (Q_rmLc Z b_ i xs v n fv h0 n0) ({ frames := 2, cells := 0, slots := 0, locals := 27 } : Room).cells ({ frames := 2, cells := 0, slots := 0, locals := 27 } : Room).slots)
  refine Go.via (fun tQ kQ => castTop (ef_26 m b_ i) kQ) ?_
  show Go p e below (s₁.setTop (mkF m 0 #[.val (.ref b_), .val (.int i)] [])) _
  refine Go.via (fun _ => XS.iloadN X0.here hx rfl (hb hby d26_0) rfl) ?_
  refine Go.via (fun _ => XS.aloadN X0.here hx rfl (hb hby d26_1) rfl rfl) ?_
  refine Go.via (lenI X0 hx hZ e0 P0 (n := n) hn (g := (mkF m 2 #[.val (.ref b_), .val (.int i)] [(.ref b_), (.int i)])) rfl rfl (hb hby d26_2)) ?_
  show Go p e below (s₁.setTop (mkF m 3 #[.val (.ref b_), .val (.int i)] [(.int n), (.int i)])) _
  obtain ⟨r23, _, ⟨T23, L23, k23, n23⟩, -, X23, ⟨Lc23, hQ23, l23, y23, z23⟩, st23⟩ := Jvm.LawKit.callS X0 hx (y := (⟨cST, "checkIndex", "(II)V"⟩ : MethodName)) hown (mvT hZ (tw hw 148 rfl)) (mvT hZ (tw hw 149 rfl)) (mvT hZ (tw hw 20 rfl)) (mvT hZ (tw hw 150 rfl)) (by decide) (backOf (W := 0) (rmCx l Z a0 hw [] i n fv h0 n0 Z0 P1 zF hi0 hlt hfv) hZ (tw hw 150 rfl) (tw hw 20 rfl) (by decide) (by decide)) (g := (mkF m 3 #[.val (.ref b_), .val (.int i)] [(.int n), (.int i)])) rfl (by rw [hml]; rfl) (argsL := [(.int i), (.int n)]) (rest := []) (lenOf pd__28II_29V rfl) rfl (by show 2 * 0 + _ ≤ _; exact Nat.le_of_eq rfl) (hb hby d26_3) (fun _ _ => ⟨rfl, e0, (by decide : 0 + 0 ≤ _), (by decide : 0 + 0 ≤ _)⟩)
  dsimp only [Pt.U, Pt.locs, Pt.cells, Pt.slots] at X23 l23 y23 z23 st23 hQ23
  rw [l23, y23, z23] at X23
  clear l23 y23 z23
  obtain ⟨hr23, N23q, eh23⟩ := hQ23
  rw [hr23] at st23
  clear hr23
  rw [N23q, List.append_nil] at X23
  refine Go.via (st23) ?_
  clear st23
  have e23 : T23.heap = h0 := eh23
  clear X0 e0
  show Go p e below (T23.setTop (mkF m 6 #[.val (.ref b_), .val (.int i)] [])) _
  refine Go.via (fun _ => XS.aloadN X23.here hx rfl (hb hby d26_6) rfl rfl) ?_
  refine Go.via (fun _ => XS.iloadN X23.here hx rfl (hb hby d26_7) rfl) ?_
  refine Go.via (ldB X23 hx hZ e23 P0 (v := v) hi0 hv (g := (mkF m 8 #[.val (.ref b_), .val (.int i)] [(.int i), (.ref b_)])) rfl rfl (hb hby d26_8)) ?_
  show Go p e below (T23.setTop (mkF m 9 #[.val (.ref b_), .val (.int i)] [(.int v)])) _
  refine Go.via (fun _ => XS.sipush X23.here hx rfl (hb hby d26_9)) ?_
  refine Go.via (fun _ => XS.iand X23.here hx rfl (hb hby d26_12) rfl) ?_
  show Go p e below (T23.setTop (mkF m 13 #[.val (.ref b_), .val (.int i)] [(.int (v &&& (255 : Int32)))])) _
  refine Go.via (fun _ => XS.i2c X23.here hx rfl (hb hby d26_13) rfl) ?_
  show Go p e below (T23.setTop (mkF m 14 #[.val (.ref b_), .val (.int i)] [(.int ((v &&& (255 : Int32)).toUInt32.toUInt16.toUInt32.toInt32))])) _
  exact Go.fin X23 hlk (v := some (.int (nar .char ((v &&& (255 : Int32)).toUInt32.toUInt16.toUInt32.toInt32)))) (fun h => by rw [Bd.returns] at h; cases h) (fun fs hr => retN X23 hx (t := .char) Bd.returns (by simp) (hb hby d26_14) hr) (by rw [e23]; exact ⟨(congrArg (fun qq => some (Value.int qq)) ((nar_c _).trans hc)), rfl, rfl⟩) (by decide) (by decide)
theorem d24_0 : decode jdk_42_method_56_code 0 = .ok (.aload_n 0, 1) := by decide +kernel
theorem d24_1 : decode jdk_42_method_56_code 1 = .ok (.invokevirtual 492, 3) := by decide +kernel
theorem pd__28_29Z : parseMethodDescriptor "()Z" = some ⟨[], some .boolean⟩ := by decide +kernel
theorem d24_4 : decode jdk_42_method_56_code 4 = .ok (.ifCond .eq 12, 3) := by decide +kernel
theorem d24_7 : decode jdk_42_method_56_code 7 = .ok (.aload_n 0, 1) := by decide +kernel
theorem d24_8 : decode jdk_42_method_56_code 8 = .ok (.getfield 9, 3) := by decide +kernel
theorem d24_11 : decode jdk_42_method_56_code 11 = .ok (.iload_n 1, 1) := by decide +kernel
theorem d24_12 : decode jdk_42_method_56_code 12 = .ok (.invokestatic 495, 3) := by decide +kernel
theorem pd__28_5bBI_29C : parseMethodDescriptor "([BI)C" = some ⟨[(.array .byte), .int], some .char⟩ := by decide +kernel
theorem d24_15 : decode jdk_42_method_56_code 15 = .ok (.ireturn, 1) := by decide +kernel
theorem pn_24 : plainName cST = true := by first | (simp [plainName, overriddenIn]; done) | decide +kernel
theorem ef_24 (m : MethodId) (x0 : Addr) (x1 : Int32) : entryFrame m #[(.ref x0), (.int x1)] 2 = mkF m 0 #[.val (.ref x0), .val (.int x1)] [] := by first | (simp [entryFrame, mkF, argsToLocals, Value.category]; done) | rfl
def Q_rmCa (Z : State) (a : Addr) (i : Int32) (b_ : Addr) (xs : List Int32) (v : Int32) (n : Int32) (cs : Int32) (fv : Value) (h0 : Heap) (n0 : Nat) (vQ : Option Value) (hQ : Heap) (LQ : List Loc) : Prop := vQ = some (.int v) ∧ LQ = [] ∧ hQ = h0
set_option maxRecDepth 65536 in
set_option maxHeartbeats 40000000 in
theorem rmCa (l : Launch) (Z : State) (a0 : Array Value) (hw : ∀ d ∈ tables_1, d.before a0 Z = true) (ws : List Jvm.Cond) (a : Addr) (i : Int32) (b_ : Addr) (xs : List Int32) (v : Int32) (n : Int32) (cs : Int32) (fv : Value) (h0 : Heap) (n0 : Nat) (Z0 : n0 ≤ h0.size) (P0 : Exa Z h0 a cST) (P1 : Fld Z h0 a cST "coder" "B" (.int (0 : Int32))) (P2 : Fld Z h0 a cST "value" "[B" (.ref b_)) (P3 : Ia Z h0 b_ .byte xs) (P4 : Old Z n0 h0) (zCS : Sta Z Z.heap cST "COMPACT_STRINGS" "Z" (.int cs)) (zF : Sta Z Z.heap cPR "SIOOBE_FORMATTER" "Ljava/util/function/BiFunction;" fv) (hi0 : ¬ i < (0 : Int32)) (hlt : i < n) (hn : xs.length.toInt32 = n) (hv : xs[i.toNatClampNeg]? = some v) (hc : ((v &&& (255 : Int32)).toUInt32.toUInt16.toUInt32.toInt32) = v) (hfv : fv = .null ∨ ∃ fa : Addr, fv = .ref fa) (hcs : ¬ (cs = (0 : Int32))) :
    MetFree l (⟨cST, "charAt", "(I)C"⟩ : MethodName) (head1 (Jvm.Cond.code (⟨cST, "charAt", "(I)C"⟩ : MethodName) jdk_42_method_56_code 2 (some .char) :: ws) ({ frames := 3, cells := 0, slots := 0, locals := 40 } : Room)) (fun aQ UQ => aQ = #[(.ref a), (.int i)] ∧ Z.Warmed39 UQ.vm ∧ UQ.heap = h0) (fun _ _ _ _ _ => True) (fun _ UQ oQ UR => ∃ vQ LQ, oQ = .returned vQ ∧ Q_rmCa Z a i b_ xs v n cs fv h0 n0 vQ UR.heap LQ ∧ FrameEnd UQ oQ UR LQ ({ frames := 3, cells := 0, slots := 0, locals := 40 } : Room).cells ({ frames := 3, cells := 0, slots := 0, locals := 40 } : Room).slots) := by
  refine MetFree.of_bodySF (plainFor_of_name pn_24) hisR ?_
  intro p e s m args below meth c s₁ Bd hml0 hP hK
  obtain ⟨rfl, hZ, hh⟩ := hP
  have hx := Bd.exec
  have hby := Bd.bytes
  have hlk := Bd.notSynchronized
  have hml : c.maxLocals = 2 := hml0
  have hown : s.vm.findClass cST = some m.cls := findClass_of_methodNamed Bd.named
  have hnm := (name_of_methodNamed Bd.named Bd.method).1
  have X0 : Stand p l e ({ frames := 3, cells := 0, slots := 0, locals := 40 } : Room) s m #[(.ref a), (.int i)] below meth c s₁ [] 0 0 := Stand.of_body Bd
  have e0 : s₁.heap = h0 := by rw [← hh, Bd.state]; rfl
  have N0 := Fr.nil n0
  show Go p e below _ (Done s (Q_rmCa Z a i b_ xs v n cs fv h0 n0) ({ frames := 3, cells := 0, slots := 0, locals := 40 } : Room).cells ({ frames := 3, cells := 0, slots := 0, locals := 40 } : Room).slots)
  refine Go.via (fun tQ kQ => castTop (ef_24 m a i) kQ) ?_
  show Go p e below (s₁.setTop (mkF m 0 #[.val (.ref a), .val (.int i)] [])) _
  refine Go.via (fun _ => XS.aloadN X0.here hx rfl (hb hby d24_0) rfl rfl) ?_
  obtain ⟨cq24, kq24, q24a, q24b, q24c⟩ := isOf hZ e0 P0
  obtain ⟨r24, _, ⟨T24, L24, k24, n24⟩, -, X24, ⟨Lc24, hQ24, l24, y24, z24⟩, st24⟩ := X0.virtualBack hx (y := (⟨cST, "isLatin1", "()Z"⟩ : MethodName)) (z := (⟨cST, "isLatin1", "()Z"⟩ : MethodName)) hown (mvT hZ (tw hw 140 rfl)) (mvT hZ (tw hw 141 rfl)) (notFace_of_selects (args := #[]) (mvT hZ (tw hw 143 rfl))) (mvT hZ (tw hw 143 rfl)) (mvT hZ (tw hw 142 rfl)) (by decide) (backOf (W := 0) (rmIL l Z a0 hw [] a cs h0 n0 Z0 P1 P4 zCS hcs) hZ (tw hw 144 rfl) (tw hw 20 rfl) (by decide) (by decide)) q24a q24c (g := (mkF m 1 #[.val (.ref a), .val (.int i)] [(.ref a)])) rfl (by rw [hml]; rfl) (Steps.refl _) (argsL := []) (rest := []) (lenOf pd__28_29Z rfl) rfl (by show 2 * 0 + _ ≤ _; exact Nat.le_of_eq rfl) (hb hby d24_1) (fun _ _ => ⟨rfl, e0, (by decide : 0 + 0 ≤ _), (by decide : 0 + 0 ≤ _)⟩)
  dsimp only [Pt.U, Pt.locs, Pt.cells, Pt.slots] at X24 l24 y24 z24 st24 hQ24
  rw [l24, y24, z24] at X24
  clear l24 y24 z24
  obtain ⟨hr24, N24q, eh24⟩ := hQ24
  rw [hr24] at st24
  clear hr24
  rw [N24q, List.append_nil] at X24
  refine Go.via (fun _ kQ => st24.trans kQ) ?_
  clear st24
  have e24 : T24.heap = h0 := eh24
  clear X0 e0
  show Go p e below (T24.setTop (mkF m 4 #[.val (.ref a), .val (.int i)] [(.int (1 : Int32))])) _
  refine Go.via (fun _ => XS.ifNo X24.here hx rfl (hb hby d24_4) rfl ((if0 _ _).trans (feq ((by decide) : ¬ ((1 : Int32) = (0 : Int32)))).1)) ?_
  show Go p e below (T24.setTop (mkF m 7 #[.val (.ref a), .val (.int i)] [])) _
  refine Go.via (fun _ => XS.aloadN X24.here hx rfl (hb hby d24_7) rfl rfl) ?_
  obtain ⟨T25, X25, e25, st25⟩ := getF X24 hx hZ hown (host := "") (Or.inl (tw hw 38 rfl)) Via.refl e24 P2 (g := (mkF m 8 #[.val (.ref a), .val (.int i)] [(.ref a)])) rfl rfl (hb hby d24_8)
  refine Go.via (st25) ?_
  clear st25
  clear X24 e24
  show Go p e below (T25.setTop (mkF m 11 #[.val (.ref a), .val (.int i)] [(.ref b_)])) _
  refine Go.via (fun _ => XS.iloadN X25.here hx rfl (hb hby d24_11) rfl) ?_
  obtain ⟨r26, _, ⟨T26, L26, k26, n26⟩, -, X26, ⟨Lc26, hQ26, l26, y26, z26⟩, st26⟩ := Jvm.LawKit.callS X25 hx (y := (⟨cL1, "charAt", "([BI)C"⟩ : MethodName)) hown (mvT hZ (tw hw 145 rfl)) (mvT hZ (tw hw 146 rfl)) (mvT hZ (tw hw 122 rfl)) (mvT hZ (tw hw 147 rfl)) (by decide) (backOf (W := 0) (rmLc l Z a0 hw [] b_ i xs v n fv h0 n0 Z0 P3 P4 zF hi0 hlt hn hv hc hfv) hZ (tw hw 147 rfl) (tw hw 122 rfl) (by decide) (by decide)) (g := (mkF m 12 #[.val (.ref a), .val (.int i)] [(.int i), (.ref b_)])) rfl (by rw [hml]; rfl) (argsL := [(.ref b_), (.int i)]) (rest := []) (lenOf pd__28_5bBI_29C rfl) rfl (by show 2 * 0 + _ ≤ _; exact Nat.le_of_eq rfl) (hb hby d24_12) (fun _ _ => ⟨rfl, e25, (by decide : 0 + 0 ≤ _), (by decide : 0 + 0 ≤ _)⟩)
  dsimp only [Pt.U, Pt.locs, Pt.cells, Pt.slots] at X26 l26 y26 z26 st26 hQ26
  rw [l26, y26, z26] at X26
  clear l26 y26 z26
  obtain ⟨hr26, N26q, eh26⟩ := hQ26
  rw [hr26] at st26
  clear hr26
  rw [N26q, List.append_nil] at X26
  refine Go.via (st26) ?_
  clear st26
  have e26 : T26.heap = h0 := eh26
  clear X25 e25
  show Go p e below (T26.setTop (mkF m 15 #[.val (.ref a), .val (.int i)] [(.int v)])) _
  exact Go.fin X26 hlk (v := some (.int (nar .char v))) (fun h => by rw [Bd.returns] at h; cases h) (fun fs hr => retN X26 hx (t := .char) Bd.returns (by simp) (hb hby d24_15) hr) (by rw [e26]; exact ⟨(congrArg (fun qq => some (Value.int qq)) (nar_v hc)), rfl, rfl⟩) (by decide) (by decide)
theorem d22_0 : decode jdk_52_method_21_code 0 = .ok (.iconst 0, 1) := by decide +kernel
theorem d22_1 : decode jdk_52_method_21_code 1 = .ok (.istore 5, 2) := by decide +kernel
theorem d22_3 : decode jdk_52_method_21_code 3 = .ok (.iload 5, 2) := by decide +kernel
theorem d22_5 : decode jdk_52_method_21_code 5 = .ok (.iload 4, 2) := by decide +kernel
theorem d22_7 : decode jdk_52_method_21_code 7 = .ok (.if_icmp .ge 37, 3) := by decide +kernel
theorem d22_10 : decode jdk_52_method_21_code 10 = .ok (.aload_n 0, 1) := by decide +kernel
theorem d22_11 : decode jdk_52_method_21_code 11 = .ok (.iload_n 1, 1) := by decide +kernel
theorem d22_12 : decode jdk_52_method_21_code 12 = .ok (.caload, 1) := by decide +kernel
theorem d22_13 : decode jdk_52_method_21_code 13 = .ok (.istore 6, 2) := by decide +kernel
theorem d22_15 : decode jdk_52_method_21_code 15 = .ok (.iload 6, 2) := by decide +kernel
theorem d22_17 : decode jdk_52_method_21_code 17 = .ok (.sipush 255, 3) := by decide +kernel
theorem d22_20 : decode jdk_52_method_21_code 20 = .ok (.if_icmp .le 6, 3) := by decide +kernel
theorem d22_26 : decode jdk_52_method_21_code 26 = .ok (.aload_n 2, 1) := by decide +kernel
theorem d22_27 : decode jdk_52_method_21_code 27 = .ok (.iload_n 3, 1) := by decide +kernel
theorem d22_28 : decode jdk_52_method_21_code 28 = .ok (.iload 6, 2) := by decide +kernel
theorem d22_30 : decode jdk_52_method_21_code 30 = .ok (.i2b, 1) := by decide +kernel
theorem d22_31 : decode jdk_52_method_21_code 31 = .ok (.bastore, 1) := by decide +kernel
theorem d22_32 : decode jdk_52_method_21_code 32 = .ok (.iinc 1 1, 3) := by decide +kernel
theorem d22_35 : decode jdk_52_method_21_code 35 = .ok (.iinc 3 1, 3) := by decide +kernel
theorem d22_38 : decode jdk_52_method_21_code 38 = .ok (.iinc 5 1, 3) := by decide +kernel
theorem d22_41 : decode jdk_52_method_21_code 41 = .ok (.goto (-38), 3) := by decide +kernel
theorem d22_44 : decode jdk_52_method_21_code 44 = .ok (.iload 4, 2) := by decide +kernel
theorem d22_46 : decode jdk_52_method_21_code 46 = .ok (.ireturn, 1) := by decide +kernel
theorem pn_22 : plainName cU6 = true := by first | (simp [plainName, overriddenIn]; done) | decide +kernel
theorem ef_22 (m : MethodId) (x0 : Addr) (x1 : Int32) (x2 : Addr) (x3 : Int32) (x4 : Int32) : entryFrame m #[(.ref x0), (.int x1), (.ref x2), (.int x3), (.int x4)] 7 = mkF m 0 #[.val (.ref x0), .val (.int x1), .val (.ref x2), .val (.int x3), .val (.int x4), .unset, .unset] [] := by first | (simp [entryFrame, mkF, argsToLocals, Value.category]; done) | rfl
def Q_rmC5_1 (Z : State) (ca : Addr) (i : Int32) (ba : Addr) (j : Int32) (n : Int32) (y0 : Int32) (h0 : Heap) (n0 : Nat) (vQ : Option Value) (hQ : Heap) (LQ : List Loc) : Prop := vQ = some (.int (1 : Int32)) ∧ Fr n0 LQ ∧ Keep h0 hQ [ba] ∧ Ia Z hQ ba .byte [(nar .byte (y0.toInt8.toInt32))]
set_option maxRecDepth 65536 in
set_option maxHeartbeats 40000000 in
theorem rmC5_1 (l : Launch) (Z : State) (a0 : Array Value) (hw : ∀ d ∈ tables_1, d.before a0 Z = true) (ws : List Jvm.Cond) (ca : Addr) (i : Int32) (ba : Addr) (j : Int32) (n : Int32) (y0 : Int32) (h0 : Heap) (n0 : Nat) (Z0 : n0 ≤ h0.size) (P0 : Ia Z h0 ca .char [y0]) (P1 : Ia Z h0 ba .byte [(0 : Int32)]) (g_ba : n0 ≤ ba) (hcb : ca ≠ ba) (hi : i = 0) (hj : j = 0) (hn : n = 1) (hy0 : ¬ ((255 : Int32) < y0)) :
    MetFree l (⟨cU6, "compress", "([CI[BII)I"⟩ : MethodName) (head1 (Jvm.Cond.code (⟨cU6, "compress", "([CI[BII)I"⟩ : MethodName) jdk_52_method_21_code 7 (some .int) :: ws) ({ frames := 0, cells := 0, slots := 0, locals := 0 } : Room)) (fun aQ UQ => aQ = #[(.ref ca), (.int i), (.ref ba), (.int j), (.int n)] ∧ Z.Warmed39 UQ.vm ∧ UQ.heap = h0) (fun _ _ _ _ _ => True) (fun _ UQ oQ UR => ∃ vQ LQ, oQ = .returned vQ ∧ Q_rmC5_1 Z ca i ba j n y0 h0 n0 vQ UR.heap LQ ∧ FrameEnd UQ oQ UR LQ ({ frames := 0, cells := 0, slots := 0, locals := 0 } : Room).cells ({ frames := 0, cells := 0, slots := 0, locals := 0 } : Room).slots) := by
  refine MetFree.of_bodySF (plainFor_of_name pn_22) hisR ?_
  intro p e s m args below meth c s₁ Bd hml0 hP hK
  obtain ⟨rfl, hZ, hh⟩ := hP
  have hx := Bd.exec
  have hby := Bd.bytes
  have hlk := Bd.notSynchronized
  have hml : c.maxLocals = 7 := hml0
  have hown : s.vm.findClass cU6 = some m.cls := findClass_of_methodNamed Bd.named
  have hnm := (name_of_methodNamed Bd.named Bd.method).1
  have X0 : Stand p l e ({ frames := 0, cells := 0, slots := 0, locals := 0 } : Room) s m #[(.ref ca), (.int i), (.ref ba), (.int j), (.int n)] below meth c s₁ [] 0 0 := Stand.of_body Bd
  have e0 : s₁.heap = h0 := by rw [← hh, Bd.state]; rfl
  have N0 := Fr.nil n0
  show Go p e below _ (Done s (Q_rmC5_1 Z ca i ba j n y0 h0 n0) ({ frames := 0, cells := 0, slots := 0, locals := 0 } : Room).cells ({ frames := 0, cells := 0, slots := 0, locals := 0 } : Room).slots)
  refine Go.via (fun tQ kQ => castTop (ef_22 m ca i ba j n) kQ) ?_
  show Go p e below (s₁.setTop (mkF m 0 #[.val (.ref ca), .val (.int i), .val (.ref ba), .val (.int j), .val (.int n), .unset, .unset] [])) _
  · subst hi hj hn
    show Go p e below (s₁.setTop (mkF m 0 #[.val (.ref ca), .val (.int (0 : Int32)), .val (.ref ba), .val (.int (0 : Int32)), .val (.int (1 : Int32)), .unset, .unset] [])) _
    refine Go.via (fun _ => XS.iconst X0.here hx rfl (hb hby d22_0)) ?_
    refine Go.via (fun _ => XS.istore X0.here hx rfl (hb hby d22_1) rfl (l' := #[.val (.ref ca), .val (.int (0 : Int32)), .val (.ref ba), .val (.int (0 : Int32)), .val (.int (1 : Int32)), .val (.int (0 : Int32)), .unset]) rfl) ?_
    show Go p e below (s₁.setTop (mkF m 3 #[.val (.ref ca), .val (.int (0 : Int32)), .val (.ref ba), .val (.int (0 : Int32)), .val (.int (1 : Int32)), .val (.int (0 : Int32)), .unset] [])) _
    refine Go.via (fun _ => XS.iload X0.here hx rfl (hb hby d22_3) rfl) ?_
    refine Go.via (fun _ => XS.iload X0.here hx rfl (hb hby d22_5) rfl) ?_
    refine Go.via (fun _ => XS.icmpNo X0.here hx rfl (hb hby d22_7) rfl (tlt ((by decide) : (0 : Int32) < (1 : Int32))).2.1) ?_
    show Go p e below (s₁.setTop (mkF m 10 #[.val (.ref ca), .val (.int (0 : Int32)), .val (.ref ba), .val (.int (0 : Int32)), .val (.int (1 : Int32)), .val (.int (0 : Int32)), .unset] [])) _
    refine Go.via (fun _ => XS.aloadN X0.here hx rfl (hb hby d22_10) rfl rfl) ?_
    refine Go.via (fun _ => XS.iloadN X0.here hx rfl (hb hby d22_11) rfl) ?_
    refine Go.via (ldC X0 hx hZ e0 P0 (v := y0) (by decide) rfl (g := (mkF m 12 #[.val (.ref ca), .val (.int (0 : Int32)), .val (.ref ba), .val (.int (0 : Int32)), .val (.int (1 : Int32)), .val (.int (0 : Int32)), .unset] [(.int (0 : Int32)), (.ref ca)])) rfl rfl (hb hby d22_12)) ?_
    show Go p e below (s₁.setTop (mkF m 13 #[.val (.ref ca), .val (.int (0 : Int32)), .val (.ref ba), .val (.int (0 : Int32)), .val (.int (1 : Int32)), .val (.int (0 : Int32)), .unset] [(.int y0)])) _
    refine Go.via (fun _ => XS.istore X0.here hx rfl (hb hby d22_13) rfl (l' := #[.val (.ref ca), .val (.int (0 : Int32)), .val (.ref ba), .val (.int (0 : Int32)), .val (.int (1 : Int32)), .val (.int (0 : Int32)), .val (.int y0)]) rfl) ?_
    show Go p e below (s₁.setTop (mkF m 15 #[.val (.ref ca), .val (.int (0 : Int32)), .val (.ref ba), .val (.int (0 : Int32)), .val (.int (1 : Int32)), .val (.int (0 : Int32)), .val (.int y0)] [])) _
    refine Go.via (fun _ => XS.iload X0.here hx rfl (hb hby d22_15) rfl) ?_
    refine Go.via (fun _ => XS.sipush X0.here hx rfl (hb hby d22_17)) ?_
    refine Go.via (fun _ => XS.icmpYes X0.here hx rfl (pc0 := 20) (pc' := 26) rfl (hb hby d22_20) rfl (flt (hy0 : ¬ ((255 : Int32) < y0))).2.2.2 (by decide) (by decide)) ?_
    show Go p e below (s₁.setTop (mkF m 26 #[.val (.ref ca), .val (.int (0 : Int32)), .val (.ref ba), .val (.int (0 : Int32)), .val (.int (1 : Int32)), .val (.int (0 : Int32)), .val (.int y0)] [])) _
    refine Go.via (fun _ => XS.aloadN X0.here hx rfl (hb hby d22_26) rfl rfl) ?_
    refine Go.via (fun _ => XS.iloadN X0.here hx rfl (hb hby d22_27) rfl) ?_
    refine Go.via (fun _ => XS.iload X0.here hx rfl (hb hby d22_28) rfl) ?_
    refine Go.via (fun _ => XS.i2b X0.here hx rfl (hb hby d22_30) rfl) ?_
    show Go p e below (s₁.setTop (mkF m 31 #[.val (.ref ca), .val (.int (0 : Int32)), .val (.ref ba), .val (.int (0 : Int32)), .val (.int (1 : Int32)), .val (.int (0 : Int32)), .val (.int y0)] [(.int (y0.toInt8.toInt32)), (.int (0 : Int32)), (.ref ba)])) _
    obtain ⟨T27, h27, X27, e27, W27, V27, st27⟩ := stB' X0 hx hZ e0 P1 (j := (0 : Int32)) (by decide) (by first | decide | (simp only [List.length_cons, List.length_nil]; decide) | rfl) (g := (mkF m 31 #[.val (.ref ca), .val (.int (0 : Int32)), .val (.ref ba), .val (.int (0 : Int32)), .val (.int (1 : Int32)), .val (.int (0 : Int32)), .val (.int y0)] [(.int (y0.toInt8.toInt32)), (.int (0 : Int32)), (.ref ba)])) rfl rfl (hb hby d22_31)
    refine Go.via (st27) ?_
    clear st27
    have N27 := Fr.snoc X27 N0 g_ba
    have f28 : Ia Z h27 ba .byte [(nar .byte (y0.toInt8.toInt32))] := V27
    clear X0 e0
    show Go p e below (T27.setTop (mkF m 32 #[.val (.ref ca), .val (.int (0 : Int32)), .val (.ref ba), .val (.int (0 : Int32)), .val (.int (1 : Int32)), .val (.int (0 : Int32)), .val (.int y0)] [])) _
    refine Go.via (fun _ => XS.iinc X27.here hx rfl (hb hby d22_32) rfl (l' := #[.val (.ref ca), .val (.int (1 : Int32)), .val (.ref ba), .val (.int (0 : Int32)), .val (.int (1 : Int32)), .val (.int (0 : Int32)), .val (.int y0)]) rfl) ?_
    show Go p e below (T27.setTop (mkF m 35 #[.val (.ref ca), .val (.int (1 : Int32)), .val (.ref ba), .val (.int (0 : Int32)), .val (.int (1 : Int32)), .val (.int (0 : Int32)), .val (.int y0)] [])) _
    refine Go.via (fun _ => XS.iinc X27.here hx rfl (hb hby d22_35) rfl (l' := #[.val (.ref ca), .val (.int (1 : Int32)), .val (.ref ba), .val (.int (1 : Int32)), .val (.int (1 : Int32)), .val (.int (0 : Int32)), .val (.int y0)]) rfl) ?_
    show Go p e below (T27.setTop (mkF m 38 #[.val (.ref ca), .val (.int (1 : Int32)), .val (.ref ba), .val (.int (1 : Int32)), .val (.int (1 : Int32)), .val (.int (0 : Int32)), .val (.int y0)] [])) _
    refine Go.via (fun _ => XS.iinc X27.here hx rfl (hb hby d22_38) rfl (l' := #[.val (.ref ca), .val (.int (1 : Int32)), .val (.ref ba), .val (.int (1 : Int32)), .val (.int (1 : Int32)), .val (.int (1 : Int32)), .val (.int y0)]) rfl) ?_
    show Go p e below (T27.setTop (mkF m 41 #[.val (.ref ca), .val (.int (1 : Int32)), .val (.ref ba), .val (.int (1 : Int32)), .val (.int (1 : Int32)), .val (.int (1 : Int32)), .val (.int y0)] [])) _
    refine Go.via (fun _ => XS.goto X27.here hx rfl (pc0 := 41) (pc' := 3) rfl (hb hby d22_41) (by decide) (by decide)) ?_
    refine Go.via (fun _ => XS.iload X27.here hx rfl (hb hby d22_3) rfl) ?_
    refine Go.via (fun _ => XS.iload X27.here hx rfl (hb hby d22_5) rfl) ?_
    refine Go.via (fun _ => XS.icmpYes X27.here hx rfl (pc0 := 7) (pc' := 44) rfl (hb hby d22_7) rfl (flt ((by decide) : ¬ ((1 : Int32) < (1 : Int32)))).2.1 (by decide) (by decide)) ?_
    show Go p e below (T27.setTop (mkF m 44 #[.val (.ref ca), .val (.int (1 : Int32)), .val (.ref ba), .val (.int (1 : Int32)), .val (.int (1 : Int32)), .val (.int (1 : Int32)), .val (.int y0)] [])) _
    refine Go.via (fun _ => XS.iload X27.here hx rfl (hb hby d22_44) rfl) ?_
    have k29 : Keep h0 h27 [ba] := ((Keep.refl h0 [ba]).wr W27 (Or.inl (List.mem_of_getElem? (i := 0) rfl)))
    exact Go.fin X27 hlk (v := some (.int (1 : Int32))) (fun h => by rw [Bd.returns] at h; cases h) (fun fs hr => OwnKit.retI X27 hx Bd.returns (hb hby d22_46) hr) (by rw [e27]; exact ⟨rfl, N27, k29, f28⟩) (by decide) (by decide)
theorem d21_0 : decode jdk_52_method_16_code 0 = .ok (.iload_n 2, 1) := by decide +kernel
theorem d21_1 : decode jdk_52_method_16_code 1 = .ok (.newarray .byte, 2) := by decide +kernel
theorem d21_3 : decode jdk_52_method_16_code 3 = .ok (.astore_n 3, 1) := by decide +kernel
theorem d21_4 : decode jdk_52_method_16_code 4 = .ok (.aload_n 0, 1) := by decide +kernel
theorem d21_5 : decode jdk_52_method_16_code 5 = .ok (.iload_n 1, 1) := by decide +kernel
theorem d21_6 : decode jdk_52_method_16_code 6 = .ok (.aload_n 3, 1) := by decide +kernel
theorem d21_7 : decode jdk_52_method_16_code 7 = .ok (.iconst 0, 1) := by decide +kernel
theorem d21_8 : decode jdk_52_method_16_code 8 = .ok (.iload_n 2, 1) := by decide +kernel
theorem d21_9 : decode jdk_52_method_16_code 9 = .ok (.invokestatic 115, 3) := by decide +kernel
theorem pd__28_5bCI_5bBII_29I : parseMethodDescriptor "([CI[BII)I" = some ⟨[(.array .char), .int, (.array .byte), .int, .int], some .int⟩ := by decide +kernel
theorem d21_12 : decode jdk_52_method_16_code 12 = .ok (.istore 4, 2) := by decide +kernel
theorem d21_14 : decode jdk_52_method_16_code 14 = .ok (.iload 4, 2) := by decide +kernel
theorem d21_16 : decode jdk_52_method_16_code 16 = .ok (.iload_n 2, 1) := by decide +kernel
theorem d21_17 : decode jdk_52_method_16_code 17 = .ok (.if_icmp .eq 40, 3) := by decide +kernel
theorem d21_57 : decode jdk_52_method_16_code 57 = .ok (.aload_n 3, 1) := by decide +kernel
theorem d21_58 : decode jdk_52_method_16_code 58 = .ok (.areturn, 1) := by decide +kernel
theorem pn_21 : plainName cU6 = true := by first | (simp [plainName, overriddenIn]; done) | decide +kernel
theorem ef_21 (m : MethodId) (x0 : Addr) (x1 : Int32) (x2 : Int32) : entryFrame m #[(.ref x0), (.int x1), (.int x2)] 6 = mkF m 0 #[.val (.ref x0), .val (.int x1), .val (.int x2), .unset, .unset, .unset] [] := by first | (simp [entryFrame, mkF, argsToLocals, Value.category]; done) | rfl
def Q_rmC3_1 (Z : State) (ca : Addr) (i : Int32) (n : Int32) (y0 : Int32) (h0 : Heap) (n0 : Nat) (vQ : Option Value) (hQ : Heap) (LQ : List Loc) : Prop := ∃ r : Addr, vQ = some (.ref r) ∧ Fr n0 LQ ∧ Keep h0 hQ [] ∧ h0.size ≤ r ∧ Ia Z hQ r .byte [(nar .byte (y0.toInt8.toInt32))]
set_option maxRecDepth 65536 in
set_option maxHeartbeats 40000000 in
theorem rmC3_1 (l : Launch) (Z : State) (a0 : Array Value) (hw : ∀ d ∈ tables_1, d.before a0 Z = true) (ws : List Jvm.Cond) (ca : Addr) (i : Int32) (n : Int32) (y0 : Int32) (h0 : Heap) (n0 : Nat) (Z0 : n0 ≤ h0.size) (P0 : Ia Z h0 ca .char [y0]) (hi : i = 0) (hn : n = 1) (hy0 : ¬ ((255 : Int32) < y0)) :
    MetFree l (⟨cU6, "compress", "([CII)[B"⟩ : MethodName) (head1 (Jvm.Cond.code (⟨cU6, "compress", "([CII)[B"⟩ : MethodName) jdk_52_method_16_code 6 (some (.array .byte)) :: ws) ({ frames := 1, cells := 1, slots := 1, locals := 18 } : Room)) (fun aQ UQ => aQ = #[(.ref ca), (.int i), (.int n)] ∧ Z.Warmed39 UQ.vm ∧ UQ.heap = h0) (fun _ _ _ _ _ => True) (fun _ UQ oQ UR => ∃ vQ LQ, oQ = .returned vQ ∧ Q_rmC3_1 Z ca i n y0 h0 n0 vQ UR.heap LQ ∧ FrameEnd UQ oQ UR LQ ({ frames := 1, cells := 1, slots := 1, locals := 18 } : Room).cells ({ frames := 1, cells := 1, slots := 1, locals := 18 } : Room).slots) := by
  refine MetFree.of_bodySF (plainFor_of_name pn_21) hisR ?_
  intro p e s m args below meth c s₁ Bd hml0 hP hK
  obtain ⟨rfl, hZ, hh⟩ := hP
  have hx := Bd.exec
  have hby := Bd.bytes
  have hlk := Bd.notSynchronized
  have hml : c.maxLocals = 6 := hml0
  have hown : s.vm.findClass cU6 = some m.cls := findClass_of_methodNamed Bd.named
  have hnm := (name_of_methodNamed Bd.named Bd.method).1
  have X0 : Stand p l e ({ frames := 1, cells := 1, slots := 1, locals := 18 } : Room) s m #[(.ref ca), (.int i), (.int n)] below meth c s₁ [] 0 0 := Stand.of_body Bd
  have e0 : s₁.heap = h0 := by rw [← hh, Bd.state]; rfl
  have N0 := Fr.nil n0
  show Go p e below _ (Done s (Q_rmC3_1 Z ca i n y0 h0 n0) ({ frames := 1, cells := 1, slots := 1, locals := 18 } : Room).cells ({ frames := 1, cells := 1, slots := 1, locals := 18 } : Room).slots)
  refine Go.via (fun tQ kQ => castTop (ef_21 m ca i n) kQ) ?_
  show Go p e below (s₁.setTop (mkF m 0 #[.val (.ref ca), .val (.int i), .val (.int n), .unset, .unset, .unset] [])) _
  · subst hi hn
    show Go p e below (s₁.setTop (mkF m 0 #[.val (.ref ca), .val (.int (0 : Int32)), .val (.int (1 : Int32)), .unset, .unset, .unset] [])) _
    refine Go.via (fun _ => XS.iloadN X0.here hx rfl (hb hby d21_0) rfl) ?_
    obtain ⟨T30, h30, k30, X30, e30, E30, A30, B30, st30⟩ := newPE X0 hx hZ (tw hw 33 rfl) e0 (g := (mkF m 1 #[.val (.ref ca), .val (.int (0 : Int32)), .val (.int (1 : Int32)), .unset, .unset, .unset] [(.int (1 : Int32))])) rfl (hb hby d21_1) rfl (by decide) (cap := 1) (by decide) (by decide) (by decide) (by decide) (ad := "[B") (by decide)
    obtain ⟨b30, g30⟩ : ∃ z, z = h0.size := ⟨_, rfl⟩
    rw [← g30] at A30 B30 st30
    have ne31 : ca ≠ b30 := Nat.ne_of_lt (Nat.lt_of_lt_of_le P0.lt (Nat.le_of_eq g30.symm))
    have ge32 : n0 ≤ b30 := Nat.le_trans Z0 (Nat.le_of_eq g30.symm)
    have sz33 : h0.size ≤ b30 := Nat.le_trans (Keep.refl h0 []).1 (Nat.le_of_eq g30.symm)
    refine Go.via (st30) ?_
    clear st30
    have f34 : Ia Z h30 b30 .byte [(0 : Int32)] := Ia.new A30 rfl
    clear X0 e0
    show Go p e below (T30.setTop (mkF m 3 #[.val (.ref ca), .val (.int (0 : Int32)), .val (.int (1 : Int32)), .unset, .unset, .unset] [(.ref b30)])) _
    refine Go.via (fun _ => XS.astoreN X30.here hx rfl (hb hby d21_3) rfl rfl (l' := #[.val (.ref ca), .val (.int (0 : Int32)), .val (.int (1 : Int32)), .val (.ref b30), .unset, .unset]) rfl) ?_
    show Go p e below (T30.setTop (mkF m 4 #[.val (.ref ca), .val (.int (0 : Int32)), .val (.int (1 : Int32)), .val (.ref b30), .unset, .unset] [])) _
    refine Go.via (fun _ => XS.aloadN X30.here hx rfl (hb hby d21_4) rfl rfl) ?_
    refine Go.via (fun _ => XS.iloadN X30.here hx rfl (hb hby d21_5) rfl) ?_
    refine Go.via (fun _ => XS.aloadN X30.here hx rfl (hb hby d21_6) rfl rfl) ?_
    refine Go.via (fun _ => XS.iconst X30.here hx rfl (hb hby d21_7)) ?_
    show Go p e below (T30.setTop (mkF m 8 #[.val (.ref ca), .val (.int (0 : Int32)), .val (.int (1 : Int32)), .val (.ref b30), .unset, .unset] [(.int (0 : Int32)), (.ref b30), (.int (0 : Int32)), (.ref ca)])) _
    refine Go.via (fun _ => XS.iloadN X30.here hx rfl (hb hby d21_8) rfl) ?_
    have f35 : Ia Z h30 ca .char [y0] := (P0.ext E30)
    have z37 : n0 ≤ h30.size := (Nat.le_trans Z0 E30.1)
    obtain ⟨r36, _, ⟨T36, L36, k36, n36⟩, -, X36, ⟨Lc36, hQ36, l36, y36, z36⟩, st36⟩ := Jvm.LawKit.callS X30 hx (y := (⟨cU6, "compress", "([CI[BII)I"⟩ : MethodName)) hown (mvT hZ (tw hw 129 rfl)) (mvT hZ (tw hw 130 rfl)) (mvT hZ (tw hw 127 rfl)) (mvT hZ (tw hw 131 rfl)) (by decide) (backOf (W := 0) (rmC5_1 l Z a0 hw [] ca (0 : Int32) b30 (0 : Int32) (1 : Int32) y0 h30 n0 z37 f35 f34 ge32 ne31 rfl rfl rfl hy0) hZ (tw hw 131 rfl) (tw hw 127 rfl) (by decide) (by decide)) (g := (mkF m 9 #[.val (.ref ca), .val (.int (0 : Int32)), .val (.int (1 : Int32)), .val (.ref b30), .unset, .unset] [(.int (1 : Int32)), (.int (0 : Int32)), (.ref b30), (.int (0 : Int32)), (.ref ca)])) rfl (by rw [hml]; rfl) (argsL := [(.ref ca), (.int (0 : Int32)), (.ref b30), (.int (0 : Int32)), (.int (1 : Int32))]) (rest := []) (lenOf pd__28_5bCI_5bBII_29I rfl) rfl (by show 2 * 0 + _ ≤ _; exact Nat.le_of_eq rfl) (hb hby d21_9) (fun _ _ => ⟨rfl, e30, (by decide : 1 + 0 ≤ _), (by decide : 1 + 0 ≤ _)⟩)
    dsimp only [Pt.U, Pt.locs, Pt.cells, Pt.slots] at X36 l36 y36 z36 st36 hQ36
    rw [l36, y36, z36] at X36
    clear l36 y36 z36
    obtain ⟨hr36, N36q, K36q, f38⟩ := hQ36
    rw [hr36] at st36
    clear hr36
    have N36 := Fr.app N0 N36q
    refine Go.via (st36) ?_
    clear st36
    have e36 : T36.heap = T36.heap := rfl
    have f39 : Ia Z T36.heap b30 .byte [(nar .byte (y0.toInt8.toInt32))] := f38
    clear X30 e30
    show Go p e below (T36.setTop (mkF m 12 #[.val (.ref ca), .val (.int (0 : Int32)), .val (.int (1 : Int32)), .val (.ref b30), .unset, .unset] [(.int (1 : Int32))])) _
    refine Go.via (fun _ => XS.istore X36.here hx rfl (hb hby d21_12) rfl (l' := #[.val (.ref ca), .val (.int (0 : Int32)), .val (.int (1 : Int32)), .val (.ref b30), .val (.int (1 : Int32)), .unset]) rfl) ?_
    show Go p e below (T36.setTop (mkF m 14 #[.val (.ref ca), .val (.int (0 : Int32)), .val (.int (1 : Int32)), .val (.ref b30), .val (.int (1 : Int32)), .unset] [])) _
    refine Go.via (fun _ => XS.iload X36.here hx rfl (hb hby d21_14) rfl) ?_
    refine Go.via (fun _ => XS.iloadN X36.here hx rfl (hb hby d21_16) rfl) ?_
    refine Go.via (fun _ => XS.icmpYes X36.here hx rfl (pc0 := 17) (pc' := 57) rfl (hb hby d21_17) rfl (teq ((by decide) : (1 : Int32) = (1 : Int32))).1 (by decide) (by decide)) ?_
    show Go p e below (T36.setTop (mkF m 57 #[.val (.ref ca), .val (.int (0 : Int32)), .val (.int (1 : Int32)), .val (.ref b30), .val (.int (1 : Int32)), .unset] [])) _
    refine Go.via (fun _ => XS.aloadN X36.here hx rfl (hb hby d21_57) rfl rfl) ?_
    have k40 : Keep h0 T36.heap [] := (((Keep.refl h0 []).ext E30).trans K36q (allS (Or.inr sz33) all0))
    exact Go.fin X36 hlk (v := some (.ref b30)) (fun h => by rw [Bd.returns] at h; cases h) (fun fs hr => retOut X36 hx Bd.returns rfl (Or.inr (Or.inr (Or.inr (Or.inr ⟨rfl, rfl, rfl⟩)))) (hb hby d21_58) hr) (by exact ⟨b30, rfl, N36, k40, sz33, f39⟩) (by decide) (by decide)
theorem d23_0 : decode jdk_52_method_15_code 0 = .ok (.iload_n 1, 1) := by decide +kernel
theorem d23_1 : decode jdk_52_method_15_code 1 = .ok (.aload_n 0, 1) := by decide +kernel
theorem d23_2 : decode jdk_52_method_15_code 2 = .ok (.arraylength, 1) := by decide +kernel
theorem d23_3 : decode jdk_52_method_15_code 3 = .ok (.isub, 1) := by decide +kernel
theorem d23_4 : decode jdk_52_method_15_code 4 = .ok (.bipush 31, 2) := by decide +kernel
theorem d23_6 : decode jdk_52_method_15_code 6 = .ok (.iushr, 1) := by decide +kernel
theorem d23_7 : decode jdk_52_method_15_code 7 = .ok (.i2b, 1) := by decide +kernel
theorem d23_8 : decode jdk_52_method_15_code 8 = .ok (.ireturn, 1) := by decide +kernel
theorem pn_23 : plainName cU6 = true := by first | (simp [plainName, overriddenIn]; done) | decide +kernel
theorem ef_23 (m : MethodId) (x0 : Addr) (x1 : Int32) : entryFrame m #[(.ref x0), (.int x1)] 2 = mkF m 0 #[.val (.ref x0), .val (.int x1)] [] := by first | (simp [entryFrame, mkF, argsToLocals, Value.category]; done) | rfl
def Q_rmCl_1 (Z : State) (ba : Addr) (n : Int32) (y0 : Int32) (h0 : Heap) (n0 : Nat) (vQ : Option Value) (hQ : Heap) (LQ : List Loc) : Prop := vQ = some (.int (0 : Int32)) ∧ Fr n0 LQ ∧ hQ = h0
set_option maxRecDepth 65536 in
set_option maxHeartbeats 40000000 in
theorem rmCl_1 (l : Launch) (Z : State) (a0 : Array Value) (hw : ∀ d ∈ tables_1, d.before a0 Z = true) (ws : List Jvm.Cond) (ba : Addr) (n : Int32) (y0 : Int32) (h0 : Heap) (n0 : Nat) (Z0 : n0 ≤ h0.size) (P0 : Ia Z h0 ba .byte [y0]) (hn : n = 1) :
    MetFree l (⟨cU6, "coderFromArrayLen", "([BI)B"⟩ : MethodName) (head1 (Jvm.Cond.code (⟨cU6, "coderFromArrayLen", "([BI)B"⟩ : MethodName) jdk_52_method_15_code 2 (some .byte) :: ws) ({ frames := 0, cells := 0, slots := 0, locals := 0 } : Room)) (fun aQ UQ => aQ = #[(.ref ba), (.int n)] ∧ Z.Warmed39 UQ.vm ∧ UQ.heap = h0) (fun _ _ _ _ _ => True) (fun _ UQ oQ UR => ∃ vQ LQ, oQ = .returned vQ ∧ Q_rmCl_1 Z ba n y0 h0 n0 vQ UR.heap LQ ∧ FrameEnd UQ oQ UR LQ ({ frames := 0, cells := 0, slots := 0, locals := 0 } : Room).cells ({ frames := 0, cells := 0, slots := 0, locals := 0 } : Room).slots) := by
  refine MetFree.of_bodySF (plainFor_of_name pn_23) hisR ?_
  intro p e s m args below meth c s₁ Bd hml0 hP hK
  obtain ⟨rfl, hZ, hh⟩ := hP
  have hx := Bd.exec
  have hby := Bd.bytes
  have hlk := Bd.notSynchronized
  have hml : c.maxLocals = 2 := hml0
  have hown : s.vm.findClass cU6 = some m.cls := findClass_of_methodNamed Bd.named
  have hnm := (name_of_methodNamed Bd.named Bd.method).1
  have X0 : Stand p l e ({ frames := 0, cells := 0, slots := 0, locals := 0 } : Room) s m #[(.ref ba), (.int n)] below meth c s₁ [] 0 0 := Stand.of_body Bd
  have e0 : s₁.heap = h0 := by rw [← hh, Bd.state]; rfl
  have N0 := Fr.nil n0
  show Go p e below _ (Done s (Q_rmCl_1 Z ba n y0 h0 n0) ({ frames := 0, cells := 0, slots := 0, locals := 0 } : Room).cells ({ frames := 0, cells := 0, slots := 0, locals := 0 } : Room).slots)
  refine Go.via (fun tQ kQ => castTop (ef_23 m ba n) kQ) ?_
  show Go p e below (s₁.setTop (mkF m 0 #[.val (.ref ba), .val (.int n)] [])) _
  · subst hn
    show Go p e below (s₁.setTop (mkF m 0 #[.val (.ref ba), .val (.int (1 : Int32))] [])) _
    refine Go.via (fun _ => XS.iloadN X0.here hx rfl (hb hby d23_0) rfl) ?_
    refine Go.via (fun _ => XS.aloadN X0.here hx rfl (hb hby d23_1) rfl rfl) ?_
    refine Go.via (lenI X0 hx hZ e0 P0 (n := (1 : Int32)) rfl (g := (mkF m 2 #[.val (.ref ba), .val (.int (1 : Int32))] [(.ref ba), (.int (1 : Int32))])) rfl rfl (hb hby d23_2)) ?_
    show Go p e below (s₁.setTop (mkF m 3 #[.val (.ref ba), .val (.int (1 : Int32))] [(.int (1 : Int32)), (.int (1 : Int32))])) _
    refine Go.via (fun _ => XS.isub X0.here hx rfl (hb hby d23_3) rfl) ?_
    show Go p e below (s₁.setTop (mkF m 4 #[.val (.ref ba), .val (.int (1 : Int32))] [(.int (0 : Int32))])) _
    refine Go.via (fun _ => XS.bipush X0.here hx rfl (hb hby d23_4)) ?_
    refine Go.via (fun _ => XS.iushr X0.here hx rfl (hb hby d23_6) rfl) ?_
    show Go p e below (s₁.setTop (mkF m 7 #[.val (.ref ba), .val (.int (1 : Int32))] [(.int (0 : Int32))])) _
    refine Go.via (fun _ => XS.i2b X0.here hx rfl (hb hby d23_7) rfl) ?_
    show Go p e below (s₁.setTop (mkF m 8 #[.val (.ref ba), .val (.int (1 : Int32))] [(.int ((0 : Int32).toInt8.toInt32))])) _
    exact Go.fin X0 hlk (v := some (.int (nar .byte ((0 : Int32).toInt8.toInt32)))) (fun h => by rw [Bd.returns] at h; cases h) (fun fs hr => retN X0 hx (t := .byte) Bd.returns (by simp) (hb hby d23_8) hr) (by rw [e0]; exact ⟨rfl, N0, rfl⟩) (by decide) (by decide)
theorem d6_0 : decode jdk_42_method_149_code 0 = .ok (.aload_n 0, 1) := by decide +kernel
theorem d6_1 : decode jdk_42_method_149_code 1 = .ok (.invokespecial 1, 3) := by decide +kernel
theorem d6_4 : decode jdk_42_method_149_code 4 = .ok (.iload_n 3, 1) := by decide +kernel
theorem d6_5 : decode jdk_42_method_149_code 5 = .ok (.ifCond .ne 22, 3) := by decide +kernel
theorem d6_27 : decode jdk_42_method_149_code 27 = .ok (.getstatic 38, 3) := by decide +kernel
theorem d6_30 : decode jdk_42_method_149_code 30 = .ok (.ifCond .eq 28, 3) := by decide +kernel
theorem d6_33 : decode jdk_42_method_149_code 33 = .ok (.aload_n 1, 1) := by decide +kernel
theorem d6_34 : decode jdk_42_method_149_code 34 = .ok (.iload_n 2, 1) := by decide +kernel
theorem d6_35 : decode jdk_42_method_149_code 35 = .ok (.iload_n 3, 1) := by decide +kernel
theorem d6_36 : decode jdk_42_method_149_code 36 = .ok (.invokestatic 177, 3) := by decide +kernel
theorem pd__28_5bCII_29_5bB : parseMethodDescriptor "([CII)[B" = some ⟨[(.array .char), .int, .int], some (.array .byte)⟩ := by decide +kernel
theorem d6_39 : decode jdk_42_method_149_code 39 = .ok (.astore 5, 2) := by decide +kernel
theorem d6_41 : decode jdk_42_method_149_code 41 = .ok (.aload_n 0, 1) := by decide +kernel
theorem d6_42 : decode jdk_42_method_149_code 42 = .ok (.aload 5, 2) := by decide +kernel
theorem d6_44 : decode jdk_42_method_149_code 44 = .ok (.iload_n 3, 1) := by decide +kernel
theorem d6_45 : decode jdk_42_method_149_code 45 = .ok (.invokestatic 47, 3) := by decide +kernel
theorem pd__28_5bBI_29B : parseMethodDescriptor "([BI)B" = some ⟨[(.array .byte), .int], some .byte⟩ := by decide +kernel
theorem d6_48 : decode jdk_42_method_149_code 48 = .ok (.putfield 15, 3) := by decide +kernel
theorem d6_51 : decode jdk_42_method_149_code 51 = .ok (.aload_n 0, 1) := by decide +kernel
theorem d6_52 : decode jdk_42_method_149_code 52 = .ok (.aload 5, 2) := by decide +kernel
theorem d6_54 : decode jdk_42_method_149_code 54 = .ok (.putfield 9, 3) := by decide +kernel
theorem d6_57 : decode jdk_42_method_149_code 57 = .ok (.return_, 1) := by decide +kernel
theorem pn_6 : plainName cST = true := by first | (simp [plainName, overriddenIn]; done) | decide +kernel
theorem ef_6n4 (m : MethodId) (x0 : Addr) (x1 : Addr) (x2 : Int32) (x3 : Int32) : entryFrame m #[(.ref x0), (.ref x1), (.int x2), (.int x3), .null] 6 = mkF m 0 #[.val (.ref x0), .val (.ref x1), .val (.int x2), .val (.int x3), .val .null, .unset] [] := by first | (simp [entryFrame, mkF, argsToLocals, Value.category]; done) | rfl
def Q_rmI5_1 (Z : State) (a : Addr) (ca : Addr) (i : Int32) (n : Int32) (y0 : Int32) (cs : Int32) (h0 : Heap) (n0 : Nat) (vQ : Option Value) (hQ : Heap) (LQ : List Loc) : Prop := ∃ r : Addr, vQ = none ∧ Fr n0 LQ ∧ Keep h0 hQ [a] ∧ h0.size ≤ r ∧ Exa Z hQ a cST ∧ Fld Z hQ a cST "coder" "B" (.int (0 : Int32)) ∧ Fld Z hQ a cST "value" "[B" (.ref r) ∧ Ia Z hQ r .byte [(nar .byte (y0.toInt8.toInt32))]
set_option maxRecDepth 65536 in
set_option maxHeartbeats 40000000 in
theorem rmI5_1 (l : Launch) (Z : State) (a0 : Array Value) (hw : ∀ d ∈ tables_1, d.before a0 Z = true) (ws : List Jvm.Cond) (a : Addr) (ca : Addr) (i : Int32) (n : Int32) (y0 : Int32) (cs : Int32) (h0 : Heap) (n0 : Nat) (Z0 : n0 ≤ h0.size) (P0 : Fld Z h0 a cST "coder" "B" (.int (0 : Int32))) (P1 : Fld Z h0 a cST "value" "[B" .null) (P2 : Exa Z h0 a cST) (P3 : Ia Z h0 ca .char [y0]) (P4 : Old Z n0 h0) (zCS : Sta Z Z.heap cST "COMPACT_STRINGS" "Z" (.int cs)) (g_a : n0 ≤ a) (hac : a ≠ ca) (hi : i = 0) (hn : n = 1) (hcs : ¬ (cs = (0 : Int32))) (hy0 : ¬ ((255 : Int32) < y0)) :
    MetFree l (⟨cST, "<init>", "([CIILjava/lang/Void;)V"⟩ : MethodName) (head1 (Jvm.Cond.code (⟨cST, "<init>", "([CIILjava/lang/Void;)V"⟩ : MethodName) jdk_42_method_149_code 6 none :: ws) ({ frames := 2, cells := 1, slots := 1, locals := 35 } : Room)) (fun aQ UQ => aQ = #[(.ref a), (.ref ca), (.int i), (.int n), .null] ∧ Z.Warmed39 UQ.vm ∧ UQ.heap = h0) (fun _ _ _ _ _ => True) (fun _ UQ oQ UR => ∃ vQ LQ, oQ = .returned vQ ∧ Q_rmI5_1 Z a ca i n y0 cs h0 n0 vQ UR.heap LQ ∧ FrameEnd UQ oQ UR LQ ({ frames := 2, cells := 1, slots := 1, locals := 35 } : Room).cells ({ frames := 2, cells := 1, slots := 1, locals := 35 } : Room).slots) := by
  refine MetFree.of_bodySF (plainFor_of_name pn_6) hisR ?_
  intro p e s m args below meth c s₁ Bd hml0 hP hK
  obtain ⟨rfl, hZ, hh⟩ := hP
  have hx := Bd.exec
  have hby := Bd.bytes
  have hlk := Bd.notSynchronized
  have hml : c.maxLocals = 6 := hml0
  have hown : s.vm.findClass cST = some m.cls := findClass_of_methodNamed Bd.named
  have hnm := (name_of_methodNamed Bd.named Bd.method).1
  have X0 : Stand p l e ({ frames := 2, cells := 1, slots := 1, locals := 35 } : Room) s m #[(.ref a), (.ref ca), (.int i), (.int n), .null] below meth c s₁ [] 0 0 := Stand.of_body Bd
  have e0 : s₁.heap = h0 := by rw [← hh, Bd.state]; rfl
  have N0 := Fr.nil n0
  show Go p e below _ (Done s (Q_rmI5_1 Z a ca i n y0 cs h0 n0) ({ frames := 2, cells := 1, slots := 1, locals := 35 } : Room).cells ({ frames := 2, cells := 1, slots := 1, locals := 35 } : Room).slots)
  refine Go.via (fun tQ kQ => castTop (ef_6n4 m a ca i n) kQ) ?_
  show Go p e below (s₁.setTop (mkF m 0 #[.val (.ref a), .val (.ref ca), .val (.int i), .val (.int n), .val .null, .unset] [])) _
  · subst hi hn
    show Go p e below (s₁.setTop (mkF m 0 #[.val (.ref a), .val (.ref ca), .val (.int (0 : Int32)), .val (.int (1 : Int32)), .val .null, .unset] [])) _
    refine Go.via (fun _ => XS.aloadN X0.here hx rfl (hb hby d6_0) rfl rfl) ?_
    obtain ⟨T41, X41, e41, st41⟩ := initO X0 hx hZ hown (tw hw 29 rfl) (tw hw 30 rfl) (tw hw 31 rfl) e0 (g := (mkF m 1 #[.val (.ref a), .val (.ref ca), .val (.int (0 : Int32)), .val (.int (1 : Int32)), .val .null, .unset] [(.ref a)])) rfl (by rw [hml]; rfl) rfl (hb hby d6_1) (by decide) (W := 0) (by show 2 * 0 + _ ≤ _; exact Nat.le_of_eq rfl) (by decide)
    refine Go.via (st41) ?_
    clear st41
    clear X0 e0
    show Go p e below (T41.setTop (mkF m 4 #[.val (.ref a), .val (.ref ca), .val (.int (0 : Int32)), .val (.int (1 : Int32)), .val .null, .unset] [])) _
    refine Go.via (fun _ => XS.iloadN X41.here hx rfl (hb hby d6_4) rfl) ?_
    refine Go.via (fun _ => XS.ifYes X41.here hx rfl (pc0 := 5) (pc' := 27) rfl (hb hby d6_5) rfl ((if0 _ _).trans (feq ((by decide) : ¬ ((1 : Int32) = (0 : Int32)))).2) (by decide) (by decide)) ?_
    show Go p e below (T41.setTop (mkF m 27 #[.val (.ref a), .val (.ref ca), .val (.int (0 : Int32)), .val (.int (1 : Int32)), .val .null, .unset] [])) _
    have f42 : Sta Z h0 cST "COMPACT_STRINGS" "Z" (.int cs) := zCS.ext P4.2
    obtain ⟨T43, X43, e43, st43⟩ := getS2 X41 hx hZ hown (host := "") (Or.inl (tw hw 70 rfl)) Via.refl e41 f42 (g := (mkF m 27 #[.val (.ref a), .val (.ref ca), .val (.int (0 : Int32)), .val (.int (1 : Int32)), .val .null, .unset] [])) rfl (hb hby d6_27)
    refine Go.via (st43) ?_
    clear st43
    clear X41 e41
    show Go p e below (T43.setTop (mkF m 30 #[.val (.ref a), .val (.ref ca), .val (.int (0 : Int32)), .val (.int (1 : Int32)), .val .null, .unset] [(.int cs)])) _
    refine Go.via (fun _ => XS.ifNo X43.here hx rfl (hb hby d6_30) rfl ((if0 _ _).trans (feq (hcs : ¬ (cs = (0 : Int32)))).1)) ?_
    show Go p e below (T43.setTop (mkF m 33 #[.val (.ref a), .val (.ref ca), .val (.int (0 : Int32)), .val (.int (1 : Int32)), .val .null, .unset] [])) _
    refine Go.via (fun _ => XS.aloadN X43.here hx rfl (hb hby d6_33) rfl rfl) ?_
    refine Go.via (fun _ => XS.iloadN X43.here hx rfl (hb hby d6_34) rfl) ?_
    refine Go.via (fun _ => XS.iloadN X43.here hx rfl (hb hby d6_35) rfl) ?_
    obtain ⟨r44, _, ⟨T44, L44, k44, n44⟩, -, X44, ⟨Lc44, hQ44, l44, y44, z44⟩, st44⟩ := Jvm.LawKit.callS X43 hx (y := (⟨cU6, "compress", "([CII)[B"⟩ : MethodName)) hown (mvT hZ (tw hw 125 rfl)) (mvT hZ (tw hw 126 rfl)) (mvT hZ (tw hw 127 rfl)) (mvT hZ (tw hw 128 rfl)) (by decide) (backOf (W := 0) (rmC3_1 l Z a0 hw [] ca (0 : Int32) (1 : Int32) y0 h0 n0 Z0 P3 rfl rfl hy0) hZ (tw hw 128 rfl) (tw hw 127 rfl) (by decide) (by decide)) (g := (mkF m 36 #[.val (.ref a), .val (.ref ca), .val (.int (0 : Int32)), .val (.int (1 : Int32)), .val .null, .unset] [(.int (1 : Int32)), (.int (0 : Int32)), (.ref ca)])) rfl (by rw [hml]; rfl) (argsL := [(.ref ca), (.int (0 : Int32)), (.int (1 : Int32))]) (rest := []) (lenOf pd__28_5bCII_29_5bB rfl) rfl (by show 2 * 0 + _ ≤ _; exact Nat.le_of_eq rfl) (hb hby d6_36) (fun _ _ => ⟨rfl, e43, (by decide : 0 + 1 ≤ _), (by decide : 0 + 1 ≤ _)⟩)
    dsimp only [Pt.U, Pt.locs, Pt.cells, Pt.slots] at X44 l44 y44 z44 st44 hQ44
    rw [l44, y44, z44] at X44
    clear l44 y44 z44
    obtain ⟨b45, hr44, N44q, K44q, fz_b45, f46⟩ := hQ44
    rw [hr44] at st44
    clear hr44
    have N44 := Fr.app N0 N44q
    refine Go.via (st44) ?_
    clear st44
    have ne47 : a ≠ b45 := Nat.ne_of_lt (Nat.lt_of_lt_of_le P0.lt fz_b45)
    have ne48 : ca ≠ b45 := Nat.ne_of_lt (Nat.lt_of_lt_of_le P3.lt fz_b45)
    have ge49 : n0 ≤ b45 := Nat.le_trans Z0 fz_b45
    have sz50 : h0.size ≤ b45 := Nat.le_trans (Keep.refl h0 [a]).1 fz_b45
    have e44 : T44.heap = T44.heap := rfl
    have f51 : Ia Z T44.heap b45 .byte [(nar .byte (y0.toInt8.toInt32))] := f46
    clear X43 e43
    show Go p e below (T44.setTop (mkF m 39 #[.val (.ref a), .val (.ref ca), .val (.int (0 : Int32)), .val (.int (1 : Int32)), .val .null, .unset] [(.ref b45)])) _
    refine Go.via (fun _ => XS.astore X44.here hx rfl (hb hby d6_39) rfl rfl (l' := #[.val (.ref a), .val (.ref ca), .val (.int (0 : Int32)), .val (.int (1 : Int32)), .val .null, .val (.ref b45)]) rfl) ?_
    show Go p e below (T44.setTop (mkF m 41 #[.val (.ref a), .val (.ref ca), .val (.int (0 : Int32)), .val (.int (1 : Int32)), .val .null, .val (.ref b45)] [])) _
    refine Go.via (fun _ => XS.aloadN X44.here hx rfl (hb hby d6_41) rfl rfl) ?_
    refine Go.via (fun _ => XS.aload X44.here hx rfl (hb hby d6_42) rfl rfl) ?_
    refine Go.via (fun _ => XS.iloadN X44.here hx rfl (hb hby d6_44) rfl) ?_
    have z53 : n0 ≤ T44.heap.size := (Nat.le_trans Z0 K44q.1)
    obtain ⟨r52, _, ⟨T52, L52, k52, n52⟩, -, X52, ⟨Lc52, hQ52, l52, y52, z52⟩, st52⟩ := Jvm.LawKit.callS X44 hx (y := (⟨cU6, "coderFromArrayLen", "([BI)B"⟩ : MethodName)) hown (mvT hZ (tw hw 132 rfl)) (mvT hZ (tw hw 133 rfl)) (mvT hZ (tw hw 127 rfl)) (mvT hZ (tw hw 134 rfl)) (by decide) (backOf (W := 1) (rmCl_1 l Z a0 hw [] b45 (1 : Int32) (nar .byte (y0.toInt8.toInt32)) T44.heap n0 z53 f51 rfl) hZ (tw hw 134 rfl) (tw hw 127 rfl) (by decide) (by decide)) (g := (mkF m 45 #[.val (.ref a), .val (.ref ca), .val (.int (0 : Int32)), .val (.int (1 : Int32)), .val .null, .val (.ref b45)] [(.int (1 : Int32)), (.ref b45), (.ref a)])) rfl (by rw [hml]; rfl) (argsL := [(.ref b45), (.int (1 : Int32))]) (rest := [(.ref a)]) (lenOf pd__28_5bBI_29B rfl) rfl (by show 2 * 0 + _ ≤ _; exact Nat.le_of_eq rfl) (hb hby d6_45) (fun _ _ => ⟨rfl, e44, (by decide : 1 + 0 ≤ _), (by decide : 1 + 0 ≤ _)⟩)
    dsimp only [Pt.U, Pt.locs, Pt.cells, Pt.slots] at X52 l52 y52 z52 st52 hQ52
    rw [l52, y52, z52] at X52
    clear l52 y52 z52
    obtain ⟨hr52, N52q, eh52⟩ := hQ52
    rw [hr52] at st52
    clear hr52
    have N52 := Fr.app N44 N52q
    refine Go.via (st52) ?_
    clear st52
    have e52 : T52.heap = T44.heap := eh52
    clear X44 e44
    show Go p e below (T52.setTop (mkF m 48 #[.val (.ref a), .val (.ref ca), .val (.int (0 : Int32)), .val (.int (1 : Int32)), .val .null, .val (.ref b45)] [(.int (0 : Int32)), (.ref a)])) _
    have f54 : Fld Z T44.heap a cST "coder" "B" (.int (0 : Int32)) := (P0.keep K44q nin0)
    have f55 : Exa Z T44.heap a cST := (P2.keep K44q)
    obtain ⟨T56, h56, X56, e56, W56, st56⟩ := putF X52 hx hZ hown (host := "") (Or.inl (tw hw 39 rfl)) Via.refl e52 f54 f55 (Or.inr ⟨(tw hw 35 rfl), rfl, hnm⟩) (tw hw 19 rfl) (ty := .byte) (by decide) rfl rfl (g := (mkF m 48 #[.val (.ref a), .val (.ref ca), .val (.int (0 : Int32)), .val (.int (1 : Int32)), .val .null, .val (.ref b45)] [(.int (0 : Int32)), (.ref a)])) rfl rfl (hb hby d6_48)
    refine Go.via (st56) ?_
    clear st56
    have N56 := Fr.snoc X56 N52 g_a
    have f57 : Fld Z h56 a cST "coder" "B" (.int (0 : Int32)) := f54.same W56
    clear X52 e52
    show Go p e below (T56.setTop (mkF m 51 #[.val (.ref a), .val (.ref ca), .val (.int (0 : Int32)), .val (.int (1 : Int32)), .val .null, .val (.ref b45)] [])) _
    refine Go.via (fun _ => XS.aloadN X56.here hx rfl (hb hby d6_51) rfl rfl) ?_
    refine Go.via (fun _ => XS.aload X56.here hx rfl (hb hby d6_52) rfl rfl) ?_
    have f58 : Fld Z h56 a cST "value" "[B" .null := ((P1.keep K44q nin0).other W56 (Or.inr (slot_ne (Or.inr (tw hw 34 rfl)) (Or.inr (tw hw 35 rfl)) (by decide) (t := (.array .byte)) (t' := .byte) (by decide) (by decide))))
    have f59 : Exa Z h56 a cST := (f55.wr W56)
    obtain ⟨T60, h60, X60, e60, W60, st60⟩ := putF X56 hx hZ hown (host := "") (Or.inl (tw hw 38 rfl)) Via.refl e56 f58 f59 (Or.inr ⟨(tw hw 34 rfl), rfl, hnm⟩) (tw hw 19 rfl) (ty := (.array .byte)) (by decide) rfl rfl (g := (mkF m 54 #[.val (.ref a), .val (.ref ca), .val (.int (0 : Int32)), .val (.int (1 : Int32)), .val .null, .val (.ref b45)] [(.ref b45), (.ref a)])) rfl rfl (hb hby d6_54)
    refine Go.via (st60) ?_
    clear st60
    have N60 := Fr.snoc X60 N56 g_a
    have f61 : Fld Z h60 a cST "value" "[B" (.ref b45) := f58.same W60
    clear X56 e56
    show Go p e below (T60.setTop (mkF m 57 #[.val (.ref a), .val (.ref ca), .val (.int (0 : Int32)), .val (.int (1 : Int32)), .val .null, .val (.ref b45)] [])) _
    have k62 : Keep h0 h60 [a] := ((((Keep.refl h0 [a]).trans K44q all0).wr W56 (Or.inl (List.mem_of_getElem? (i := 0) rfl))).wr W60 (Or.inl (List.mem_of_getElem? (i := 0) rfl)))
    have f63 : Exa Z h60 a cST := (f59.wr W60)
    have f64 : Fld Z h60 a cST "coder" "B" (.int (0 : Int32)) := (f57.other W60 (Or.inr (slot_ne (Or.inr (tw hw 35 rfl)) (Or.inr (tw hw 34 rfl)) (by decide) (t := .byte) (t' := (.array .byte)) (by decide) (by decide))))
    have f65 : Ia Z h60 b45 .byte [(nar .byte (y0.toInt8.toInt32))] := ((f51.other W56 (Ne.symm ne47)).other W60 (Ne.symm ne47))
    exact Go.fin X60 hlk (v := none) (fun _ => rfl) (fun fs hr => X60.returnOut hx Bd.returns (hb hby d6_57) hr) (by rw [e60]; exact ⟨b45, rfl, N60, k62, sz50, f63, f64, f61, f65⟩) (by decide) (by decide)
theorem d5_0 : decode jdk_42_method_3_code 0 = .ok (.aload_n 0, 1) := by decide +kernel
theorem d5_1 : decode jdk_42_method_3_code 1 = .ok (.aload_n 1, 1) := by decide +kernel
theorem d5_2 : decode jdk_42_method_3_code 2 = .ok (.iconst 0, 1) := by decide +kernel
theorem d5_3 : decode jdk_42_method_3_code 3 = .ok (.aload_n 1, 1) := by decide +kernel
theorem d5_4 : decode jdk_42_method_3_code 4 = .ok (.arraylength, 1) := by decide +kernel
theorem d5_5 : decode jdk_42_method_3_code 5 = .ok (.aconst_null, 1) := by decide +kernel
theorem d5_6 : decode jdk_42_method_3_code 6 = .ok (.invokespecial 27, 3) := by decide +kernel
theorem pd__28_5bCIILjava_2flang_2fVoid_3b_29V : parseMethodDescriptor "([CIILjava/lang/Void;)V" = some ⟨[(.array .char), .int, .int, (.object "java/lang/Void")], none⟩ := by decide +kernel
theorem d5_9 : decode jdk_42_method_3_code 9 = .ok (.return_, 1) := by decide +kernel
theorem pn_5 : plainName cST = true := by first | (simp [plainName, overriddenIn]; done) | decide +kernel
theorem ef_5 (m : MethodId) (x0 : Addr) (x1 : Addr) : entryFrame m #[(.ref x0), (.ref x1)] 2 = mkF m 0 #[.val (.ref x0), .val (.ref x1)] [] := by first | (simp [entryFrame, mkF, argsToLocals, Value.category]; done) | rfl
def Q_rmI1_1 (Z : State) (a : Addr) (ca : Addr) (y0 : Int32) (cs : Int32) (h0 : Heap) (n0 : Nat) (vQ : Option Value) (hQ : Heap) (LQ : List Loc) : Prop := ∃ r : Addr, vQ = none ∧ Fr n0 LQ ∧ Keep h0 hQ [a] ∧ h0.size ≤ r ∧ Exa Z hQ a cST ∧ Fld Z hQ a cST "coder" "B" (.int (0 : Int32)) ∧ Fld Z hQ a cST "value" "[B" (.ref r) ∧ Ia Z hQ r .byte [(nar .byte (y0.toInt8.toInt32))]
set_option maxRecDepth 65536 in
set_option maxHeartbeats 40000000 in
theorem rmI1_1 (l : Launch) (Z : State) (a0 : Array Value) (hw : ∀ d ∈ tables_1, d.before a0 Z = true) (ws : List Jvm.Cond) (a : Addr) (ca : Addr) (y0 : Int32) (cs : Int32) (h0 : Heap) (n0 : Nat) (Z0 : n0 ≤ h0.size) (P0 : Fld Z h0 a cST "coder" "B" (.int (0 : Int32))) (P1 : Fld Z h0 a cST "value" "[B" .null) (P2 : Exa Z h0 a cST) (P3 : Ia Z h0 ca .char [y0]) (P4 : Old Z n0 h0) (zCS : Sta Z Z.heap cST "COMPACT_STRINGS" "Z" (.int cs)) (g_a : n0 ≤ a) (hac : a ≠ ca) (hcs : ¬ (cs = (0 : Int32))) (hy0 : ¬ ((255 : Int32) < y0)) :
    MetFree l (⟨cST, "<init>", "([C)V"⟩ : MethodName) (head1 (Jvm.Cond.code (⟨cST, "<init>", "([C)V"⟩ : MethodName) jdk_42_method_3_code 2 none :: ws) ({ frames := 3, cells := 1, slots := 1, locals := 52 } : Room)) (fun aQ UQ => aQ = #[(.ref a), (.ref ca)] ∧ Z.Warmed39 UQ.vm ∧ UQ.heap = h0) (fun _ _ _ _ _ => True) (fun _ UQ oQ UR => ∃ vQ LQ, oQ = .returned vQ ∧ Q_rmI1_1 Z a ca y0 cs h0 n0 vQ UR.heap LQ ∧ FrameEnd UQ oQ UR LQ ({ frames := 3, cells := 1, slots := 1, locals := 52 } : Room).cells ({ frames := 3, cells := 1, slots := 1, locals := 52 } : Room).slots) := by
  refine MetFree.of_bodySF (plainFor_of_name pn_5) hisR ?_
  intro p e s m args below meth c s₁ Bd hml0 hP hK
  obtain ⟨rfl, hZ, hh⟩ := hP
  have hx := Bd.exec
  have hby := Bd.bytes
  have hlk := Bd.notSynchronized
  have hml : c.maxLocals = 2 := hml0
  have hown : s.vm.findClass cST = some m.cls := findClass_of_methodNamed Bd.named
  have hnm := (name_of_methodNamed Bd.named Bd.method).1
  have X0 : Stand p l e ({ frames := 3, cells := 1, slots := 1, locals := 52 } : Room) s m #[(.ref a), (.ref ca)] below meth c s₁ [] 0 0 := Stand.of_body Bd
  have e0 : s₁.heap = h0 := by rw [← hh, Bd.state]; rfl
  have N0 := Fr.nil n0
  show Go p e below _ (Done s (Q_rmI1_1 Z a ca y0 cs h0 n0) ({ frames := 3, cells := 1, slots := 1, locals := 52 } : Room).cells ({ frames := 3, cells := 1, slots := 1, locals := 52 } : Room).slots)
  refine Go.via (fun tQ kQ => castTop (ef_5 m a ca) kQ) ?_
  show Go p e below (s₁.setTop (mkF m 0 #[.val (.ref a), .val (.ref ca)] [])) _
  refine Go.via (fun _ => XS.aloadN X0.here hx rfl (hb hby d5_0) rfl rfl) ?_
  refine Go.via (fun _ => XS.aloadN X0.here hx rfl (hb hby d5_1) rfl rfl) ?_
  refine Go.via (fun _ => XS.iconst X0.here hx rfl (hb hby d5_2)) ?_
  refine Go.via (fun _ => XS.aloadN X0.here hx rfl (hb hby d5_3) rfl rfl) ?_
  show Go p e below (s₁.setTop (mkF m 4 #[.val (.ref a), .val (.ref ca)] [(.ref ca), (.int (0 : Int32)), (.ref ca), (.ref a)])) _
  refine Go.via (lenI X0 hx hZ e0 P3 (n := (1 : Int32)) rfl (g := (mkF m 4 #[.val (.ref a), .val (.ref ca)] [(.ref ca), (.int (0 : Int32)), (.ref ca), (.ref a)])) rfl rfl (hb hby d5_4)) ?_
  show Go p e below (s₁.setTop (mkF m 5 #[.val (.ref a), .val (.ref ca)] [(.int (1 : Int32)), (.int (0 : Int32)), (.ref ca), (.ref a)])) _
  refine Go.via (fun _ => XS.aconstNull X0.here hx rfl (hb hby d5_5)) ?_
  show Go p e below (s₁.setTop (mkF m 6 #[.val (.ref a), .val (.ref ca)] [.null, (.int (1 : Int32)), (.int (0 : Int32)), (.ref ca), (.ref a)])) _
  obtain ⟨r66, _, ⟨T66, L66, k66, n66⟩, -, X66, ⟨Lc66, hQ66, l66, y66, z66⟩, st66⟩ := X0.specialBack hx (y := (⟨cST, "<init>", "([CIILjava/lang/Void;)V"⟩ : MethodName)) rfl hown (mvT hZ (tw hw 25 rfl)) (mvT hZ (tw hw 26 rfl)) (mvT hZ (tw hw 28 rfl)) (by decide) (backOf (W := 0) (rmI5_1 l Z a0 hw [] a ca (0 : Int32) (1 : Int32) y0 cs h0 n0 Z0 P0 P1 P2 P3 P4 zCS g_a hac rfl rfl hcs hy0) hZ (tw hw 28 rfl) (tw hw 20 rfl) (by decide) (by decide)) (g := (mkF m 6 #[.val (.ref a), .val (.ref ca)] [.null, (.int (1 : Int32)), (.int (0 : Int32)), (.ref ca), (.ref a)])) rfl (by rw [hml]; rfl) (Steps.refl _) (a := a) (argsL := [(.ref ca), (.int (0 : Int32)), (.int (1 : Int32)), .null]) (rest := []) (lenOf pd__28_5bCIILjava_2flang_2fVoid_3b_29V rfl) rfl (by show 2 * 0 + _ ≤ _; exact Nat.le_of_eq rfl) (hb hby d5_6) (fun _ _ => ⟨rfl, e0, (by decide : 0 + 1 ≤ _), (by decide : 0 + 1 ≤ _)⟩)
  dsimp only [Pt.U, Pt.locs, Pt.cells, Pt.slots] at X66 l66 y66 z66 st66 hQ66
  rw [l66, y66, z66] at X66
  clear l66 y66 z66
  obtain ⟨b67, hr66, N66q, K66q, fz_b67, f68, f69, f70, f71⟩ := hQ66
  rw [hr66] at st66
  clear hr66
  have N66 := Fr.app N0 N66q
  refine Go.via (fun _ kQ => st66.trans kQ) ?_
  clear st66
  have ne72 : a ≠ b67 := Nat.ne_of_lt (Nat.lt_of_lt_of_le P0.lt fz_b67)
  have ne73 : ca ≠ b67 := Nat.ne_of_lt (Nat.lt_of_lt_of_le P3.lt fz_b67)
  have ge74 : n0 ≤ b67 := Nat.le_trans Z0 fz_b67
  have sz75 : h0.size ≤ b67 := Nat.le_trans (Keep.refl h0 [a]).1 fz_b67
  have e66 : T66.heap = T66.heap := rfl
  have f76 : Exa Z T66.heap a cST := f68
  have f77 : Fld Z T66.heap a cST "coder" "B" (.int (0 : Int32)) := f69
  have f78 : Fld Z T66.heap a cST "value" "[B" (.ref b67) := f70
  have f79 : Ia Z T66.heap b67 .byte [(nar .byte (y0.toInt8.toInt32))] := f71
  clear X0 e0
  show Go p e below (T66.setTop (mkF m 9 #[.val (.ref a), .val (.ref ca)] [])) _
  have k80 : Keep h0 T66.heap [a] := ((Keep.refl h0 [a]).trans K66q (allS (Or.inl (List.mem_of_getElem? (i := 0) rfl)) all0))
  exact Go.fin X66 hlk (v := none) (fun _ => rfl) (fun fs hr => X66.returnOut hx Bd.returns (hb hby d5_9) hr) (by exact ⟨b67, rfl, N66, k80, sz75, f76, f77, f78, f79⟩) (by decide) (by decide)
def Q_rmC5_2 (Z : State) (ca : Addr) (i : Int32) (ba : Addr) (j : Int32) (n : Int32) (y0 : Int32) (y1 : Int32) (h0 : Heap) (n0 : Nat) (vQ : Option Value) (hQ : Heap) (LQ : List Loc) : Prop := vQ = some (.int (2 : Int32)) ∧ Fr n0 LQ ∧ Keep h0 hQ [ba] ∧ Ia Z hQ ba .byte [(nar .byte (y0.toInt8.toInt32)), (nar .byte (y1.toInt8.toInt32))]
set_option maxRecDepth 65536 in
set_option maxHeartbeats 40000000 in
theorem rmC5_2 (l : Launch) (Z : State) (a0 : Array Value) (hw : ∀ d ∈ tables_1, d.before a0 Z = true) (ws : List Jvm.Cond) (ca : Addr) (i : Int32) (ba : Addr) (j : Int32) (n : Int32) (y0 : Int32) (y1 : Int32) (h0 : Heap) (n0 : Nat) (Z0 : n0 ≤ h0.size) (P0 : Ia Z h0 ca .char [y0, y1]) (P1 : Ia Z h0 ba .byte [(0 : Int32), (0 : Int32)]) (g_ba : n0 ≤ ba) (hcb : ca ≠ ba) (hi : i = 0) (hj : j = 0) (hn : n = 2) (hy0 : ¬ ((255 : Int32) < y0)) (hy1 : ¬ ((255 : Int32) < y1)) :
    MetFree l (⟨cU6, "compress", "([CI[BII)I"⟩ : MethodName) (head1 (Jvm.Cond.code (⟨cU6, "compress", "([CI[BII)I"⟩ : MethodName) jdk_52_method_21_code 7 (some .int) :: ws) ({ frames := 0, cells := 0, slots := 0, locals := 0 } : Room)) (fun aQ UQ => aQ = #[(.ref ca), (.int i), (.ref ba), (.int j), (.int n)] ∧ Z.Warmed39 UQ.vm ∧ UQ.heap = h0) (fun _ _ _ _ _ => True) (fun _ UQ oQ UR => ∃ vQ LQ, oQ = .returned vQ ∧ Q_rmC5_2 Z ca i ba j n y0 y1 h0 n0 vQ UR.heap LQ ∧ FrameEnd UQ oQ UR LQ ({ frames := 0, cells := 0, slots := 0, locals := 0 } : Room).cells ({ frames := 0, cells := 0, slots := 0, locals := 0 } : Room).slots) := by
  refine MetFree.of_bodySF (plainFor_of_name pn_22) hisR ?_
  intro p e s m args below meth c s₁ Bd hml0 hP hK
  obtain ⟨rfl, hZ, hh⟩ := hP
  have hx := Bd.exec
  have hby := Bd.bytes
  have hlk := Bd.notSynchronized
  have hml : c.maxLocals = 7 := hml0
  have hown : s.vm.findClass cU6 = some m.cls := findClass_of_methodNamed Bd.named
  have hnm := (name_of_methodNamed Bd.named Bd.method).1
  have X0 : Stand p l e ({ frames := 0, cells := 0, slots := 0, locals := 0 } : Room) s m #[(.ref ca), (.int i), (.ref ba), (.int j), (.int n)] below meth c s₁ [] 0 0 := Stand.of_body Bd
  have e0 : s₁.heap = h0 := by rw [← hh, Bd.state]; rfl
  have N0 := Fr.nil n0
  show Go p e below _ (Done s (Q_rmC5_2 Z ca i ba j n y0 y1 h0 n0) ({ frames := 0, cells := 0, slots := 0, locals := 0 } : Room).cells ({ frames := 0, cells := 0, slots := 0, locals := 0 } : Room).slots)
  refine Go.via (fun tQ kQ => castTop (ef_22 m ca i ba j n) kQ) ?_
  show Go p e below (s₁.setTop (mkF m 0 #[.val (.ref ca), .val (.int i), .val (.ref ba), .val (.int j), .val (.int n), .unset, .unset] [])) _
  · subst hi hj hn
    show Go p e below (s₁.setTop (mkF m 0 #[.val (.ref ca), .val (.int (0 : Int32)), .val (.ref ba), .val (.int (0 : Int32)), .val (.int (2 : Int32)), .unset, .unset] [])) _
    refine Go.via (fun _ => XS.iconst X0.here hx rfl (hb hby d22_0)) ?_
    refine Go.via (fun _ => XS.istore X0.here hx rfl (hb hby d22_1) rfl (l' := #[.val (.ref ca), .val (.int (0 : Int32)), .val (.ref ba), .val (.int (0 : Int32)), .val (.int (2 : Int32)), .val (.int (0 : Int32)), .unset]) rfl) ?_
    show Go p e below (s₁.setTop (mkF m 3 #[.val (.ref ca), .val (.int (0 : Int32)), .val (.ref ba), .val (.int (0 : Int32)), .val (.int (2 : Int32)), .val (.int (0 : Int32)), .unset] [])) _
    refine Go.via (fun _ => XS.iload X0.here hx rfl (hb hby d22_3) rfl) ?_
    refine Go.via (fun _ => XS.iload X0.here hx rfl (hb hby d22_5) rfl) ?_
    refine Go.via (fun _ => XS.icmpNo X0.here hx rfl (hb hby d22_7) rfl (tlt ((by decide) : (0 : Int32) < (2 : Int32))).2.1) ?_
    show Go p e below (s₁.setTop (mkF m 10 #[.val (.ref ca), .val (.int (0 : Int32)), .val (.ref ba), .val (.int (0 : Int32)), .val (.int (2 : Int32)), .val (.int (0 : Int32)), .unset] [])) _
    refine Go.via (fun _ => XS.aloadN X0.here hx rfl (hb hby d22_10) rfl rfl) ?_
    refine Go.via (fun _ => XS.iloadN X0.here hx rfl (hb hby d22_11) rfl) ?_
    refine Go.via (ldC X0 hx hZ e0 P0 (v := y0) (by decide) rfl (g := (mkF m 12 #[.val (.ref ca), .val (.int (0 : Int32)), .val (.ref ba), .val (.int (0 : Int32)), .val (.int (2 : Int32)), .val (.int (0 : Int32)), .unset] [(.int (0 : Int32)), (.ref ca)])) rfl rfl (hb hby d22_12)) ?_
    show Go p e below (s₁.setTop (mkF m 13 #[.val (.ref ca), .val (.int (0 : Int32)), .val (.ref ba), .val (.int (0 : Int32)), .val (.int (2 : Int32)), .val (.int (0 : Int32)), .unset] [(.int y0)])) _
    refine Go.via (fun _ => XS.istore X0.here hx rfl (hb hby d22_13) rfl (l' := #[.val (.ref ca), .val (.int (0 : Int32)), .val (.ref ba), .val (.int (0 : Int32)), .val (.int (2 : Int32)), .val (.int (0 : Int32)), .val (.int y0)]) rfl) ?_
    show Go p e below (s₁.setTop (mkF m 15 #[.val (.ref ca), .val (.int (0 : Int32)), .val (.ref ba), .val (.int (0 : Int32)), .val (.int (2 : Int32)), .val (.int (0 : Int32)), .val (.int y0)] [])) _
    refine Go.via (fun _ => XS.iload X0.here hx rfl (hb hby d22_15) rfl) ?_
    refine Go.via (fun _ => XS.sipush X0.here hx rfl (hb hby d22_17)) ?_
    refine Go.via (fun _ => XS.icmpYes X0.here hx rfl (pc0 := 20) (pc' := 26) rfl (hb hby d22_20) rfl (flt (hy0 : ¬ ((255 : Int32) < y0))).2.2.2 (by decide) (by decide)) ?_
    show Go p e below (s₁.setTop (mkF m 26 #[.val (.ref ca), .val (.int (0 : Int32)), .val (.ref ba), .val (.int (0 : Int32)), .val (.int (2 : Int32)), .val (.int (0 : Int32)), .val (.int y0)] [])) _
    refine Go.via (fun _ => XS.aloadN X0.here hx rfl (hb hby d22_26) rfl rfl) ?_
    refine Go.via (fun _ => XS.iloadN X0.here hx rfl (hb hby d22_27) rfl) ?_
    refine Go.via (fun _ => XS.iload X0.here hx rfl (hb hby d22_28) rfl) ?_
    refine Go.via (fun _ => XS.i2b X0.here hx rfl (hb hby d22_30) rfl) ?_
    show Go p e below (s₁.setTop (mkF m 31 #[.val (.ref ca), .val (.int (0 : Int32)), .val (.ref ba), .val (.int (0 : Int32)), .val (.int (2 : Int32)), .val (.int (0 : Int32)), .val (.int y0)] [(.int (y0.toInt8.toInt32)), (.int (0 : Int32)), (.ref ba)])) _
    obtain ⟨T81, h81, X81, e81, W81, V81, st81⟩ := stB' X0 hx hZ e0 P1 (j := (0 : Int32)) (by decide) (by first | decide | (simp only [List.length_cons, List.length_nil]; decide) | rfl) (g := (mkF m 31 #[.val (.ref ca), .val (.int (0 : Int32)), .val (.ref ba), .val (.int (0 : Int32)), .val (.int (2 : Int32)), .val (.int (0 : Int32)), .val (.int y0)] [(.int (y0.toInt8.toInt32)), (.int (0 : Int32)), (.ref ba)])) rfl rfl (hb hby d22_31)
    refine Go.via (st81) ?_
    clear st81
    have N81 := Fr.snoc X81 N0 g_ba
    have f82 : Ia Z h81 ba .byte [(nar .byte (y0.toInt8.toInt32)), (0 : Int32)] := V81
    clear X0 e0
    show Go p e below (T81.setTop (mkF m 32 #[.val (.ref ca), .val (.int (0 : Int32)), .val (.ref ba), .val (.int (0 : Int32)), .val (.int (2 : Int32)), .val (.int (0 : Int32)), .val (.int y0)] [])) _
    refine Go.via (fun _ => XS.iinc X81.here hx rfl (hb hby d22_32) rfl (l' := #[.val (.ref ca), .val (.int (1 : Int32)), .val (.ref ba), .val (.int (0 : Int32)), .val (.int (2 : Int32)), .val (.int (0 : Int32)), .val (.int y0)]) rfl) ?_
    show Go p e below (T81.setTop (mkF m 35 #[.val (.ref ca), .val (.int (1 : Int32)), .val (.ref ba), .val (.int (0 : Int32)), .val (.int (2 : Int32)), .val (.int (0 : Int32)), .val (.int y0)] [])) _
    refine Go.via (fun _ => XS.iinc X81.here hx rfl (hb hby d22_35) rfl (l' := #[.val (.ref ca), .val (.int (1 : Int32)), .val (.ref ba), .val (.int (1 : Int32)), .val (.int (2 : Int32)), .val (.int (0 : Int32)), .val (.int y0)]) rfl) ?_
    show Go p e below (T81.setTop (mkF m 38 #[.val (.ref ca), .val (.int (1 : Int32)), .val (.ref ba), .val (.int (1 : Int32)), .val (.int (2 : Int32)), .val (.int (0 : Int32)), .val (.int y0)] [])) _
    refine Go.via (fun _ => XS.iinc X81.here hx rfl (hb hby d22_38) rfl (l' := #[.val (.ref ca), .val (.int (1 : Int32)), .val (.ref ba), .val (.int (1 : Int32)), .val (.int (2 : Int32)), .val (.int (1 : Int32)), .val (.int y0)]) rfl) ?_
    show Go p e below (T81.setTop (mkF m 41 #[.val (.ref ca), .val (.int (1 : Int32)), .val (.ref ba), .val (.int (1 : Int32)), .val (.int (2 : Int32)), .val (.int (1 : Int32)), .val (.int y0)] [])) _
    refine Go.via (fun _ => XS.goto X81.here hx rfl (pc0 := 41) (pc' := 3) rfl (hb hby d22_41) (by decide) (by decide)) ?_
    refine Go.via (fun _ => XS.iload X81.here hx rfl (hb hby d22_3) rfl) ?_
    refine Go.via (fun _ => XS.iload X81.here hx rfl (hb hby d22_5) rfl) ?_
    refine Go.via (fun _ => XS.icmpNo X81.here hx rfl (hb hby d22_7) rfl (tlt ((by decide) : (1 : Int32) < (2 : Int32))).2.1) ?_
    show Go p e below (T81.setTop (mkF m 10 #[.val (.ref ca), .val (.int (1 : Int32)), .val (.ref ba), .val (.int (1 : Int32)), .val (.int (2 : Int32)), .val (.int (1 : Int32)), .val (.int y0)] [])) _
    refine Go.via (fun _ => XS.aloadN X81.here hx rfl (hb hby d22_10) rfl rfl) ?_
    refine Go.via (fun _ => XS.iloadN X81.here hx rfl (hb hby d22_11) rfl) ?_
    have f83 : Ia Z h81 ca .char [y0, y1] := (P0.other W81 hcb)
    refine Go.via (ldC X81 hx hZ e81 f83 (v := y1) (by decide) rfl (g := (mkF m 12 #[.val (.ref ca), .val (.int (1 : Int32)), .val (.ref ba), .val (.int (1 : Int32)), .val (.int (2 : Int32)), .val (.int (1 : Int32)), .val (.int y0)] [(.int (1 : Int32)), (.ref ca)])) rfl rfl (hb hby d22_12)) ?_
    show Go p e below (T81.setTop (mkF m 13 #[.val (.ref ca), .val (.int (1 : Int32)), .val (.ref ba), .val (.int (1 : Int32)), .val (.int (2 : Int32)), .val (.int (1 : Int32)), .val (.int y0)] [(.int y1)])) _
    refine Go.via (fun _ => XS.istore X81.here hx rfl (hb hby d22_13) rfl (l' := #[.val (.ref ca), .val (.int (1 : Int32)), .val (.ref ba), .val (.int (1 : Int32)), .val (.int (2 : Int32)), .val (.int (1 : Int32)), .val (.int y1)]) rfl) ?_
    show Go p e below (T81.setTop (mkF m 15 #[.val (.ref ca), .val (.int (1 : Int32)), .val (.ref ba), .val (.int (1 : Int32)), .val (.int (2 : Int32)), .val (.int (1 : Int32)), .val (.int y1)] [])) _
    refine Go.via (fun _ => XS.iload X81.here hx rfl (hb hby d22_15) rfl) ?_
    refine Go.via (fun _ => XS.sipush X81.here hx rfl (hb hby d22_17)) ?_
    refine Go.via (fun _ => XS.icmpYes X81.here hx rfl (pc0 := 20) (pc' := 26) rfl (hb hby d22_20) rfl (flt (hy1 : ¬ ((255 : Int32) < y1))).2.2.2 (by decide) (by decide)) ?_
    show Go p e below (T81.setTop (mkF m 26 #[.val (.ref ca), .val (.int (1 : Int32)), .val (.ref ba), .val (.int (1 : Int32)), .val (.int (2 : Int32)), .val (.int (1 : Int32)), .val (.int y1)] [])) _
    refine Go.via (fun _ => XS.aloadN X81.here hx rfl (hb hby d22_26) rfl rfl) ?_
    refine Go.via (fun _ => XS.iloadN X81.here hx rfl (hb hby d22_27) rfl) ?_
    refine Go.via (fun _ => XS.iload X81.here hx rfl (hb hby d22_28) rfl) ?_
    refine Go.via (fun _ => XS.i2b X81.here hx rfl (hb hby d22_30) rfl) ?_
    show Go p e below (T81.setTop (mkF m 31 #[.val (.ref ca), .val (.int (1 : Int32)), .val (.ref ba), .val (.int (1 : Int32)), .val (.int (2 : Int32)), .val (.int (1 : Int32)), .val (.int y1)] [(.int (y1.toInt8.toInt32)), (.int (1 : Int32)), (.ref ba)])) _
    obtain ⟨T84, h84, X84, e84, W84, V84, st84⟩ := stB' X81 hx hZ e81 f82 (j := (1 : Int32)) (by decide) (by first | decide | (simp only [List.length_cons, List.length_nil]; decide) | rfl) (g := (mkF m 31 #[.val (.ref ca), .val (.int (1 : Int32)), .val (.ref ba), .val (.int (1 : Int32)), .val (.int (2 : Int32)), .val (.int (1 : Int32)), .val (.int y1)] [(.int (y1.toInt8.toInt32)), (.int (1 : Int32)), (.ref ba)])) rfl rfl (hb hby d22_31)
    refine Go.via (st84) ?_
    clear st84
    have N84 := Fr.snoc X84 N81 g_ba
    have f85 : Ia Z h84 ba .byte [(nar .byte (y0.toInt8.toInt32)), (nar .byte (y1.toInt8.toInt32))] := V84
    clear X81 e81
    show Go p e below (T84.setTop (mkF m 32 #[.val (.ref ca), .val (.int (1 : Int32)), .val (.ref ba), .val (.int (1 : Int32)), .val (.int (2 : Int32)), .val (.int (1 : Int32)), .val (.int y1)] [])) _
    refine Go.via (fun _ => XS.iinc X84.here hx rfl (hb hby d22_32) rfl (l' := #[.val (.ref ca), .val (.int (2 : Int32)), .val (.ref ba), .val (.int (1 : Int32)), .val (.int (2 : Int32)), .val (.int (1 : Int32)), .val (.int y1)]) rfl) ?_
    show Go p e below (T84.setTop (mkF m 35 #[.val (.ref ca), .val (.int (2 : Int32)), .val (.ref ba), .val (.int (1 : Int32)), .val (.int (2 : Int32)), .val (.int (1 : Int32)), .val (.int y1)] [])) _
    refine Go.via (fun _ => XS.iinc X84.here hx rfl (hb hby d22_35) rfl (l' := #[.val (.ref ca), .val (.int (2 : Int32)), .val (.ref ba), .val (.int (2 : Int32)), .val (.int (2 : Int32)), .val (.int (1 : Int32)), .val (.int y1)]) rfl) ?_
    show Go p e below (T84.setTop (mkF m 38 #[.val (.ref ca), .val (.int (2 : Int32)), .val (.ref ba), .val (.int (2 : Int32)), .val (.int (2 : Int32)), .val (.int (1 : Int32)), .val (.int y1)] [])) _
    refine Go.via (fun _ => XS.iinc X84.here hx rfl (hb hby d22_38) rfl (l' := #[.val (.ref ca), .val (.int (2 : Int32)), .val (.ref ba), .val (.int (2 : Int32)), .val (.int (2 : Int32)), .val (.int (2 : Int32)), .val (.int y1)]) rfl) ?_
    show Go p e below (T84.setTop (mkF m 41 #[.val (.ref ca), .val (.int (2 : Int32)), .val (.ref ba), .val (.int (2 : Int32)), .val (.int (2 : Int32)), .val (.int (2 : Int32)), .val (.int y1)] [])) _
    refine Go.via (fun _ => XS.goto X84.here hx rfl (pc0 := 41) (pc' := 3) rfl (hb hby d22_41) (by decide) (by decide)) ?_
    refine Go.via (fun _ => XS.iload X84.here hx rfl (hb hby d22_3) rfl) ?_
    refine Go.via (fun _ => XS.iload X84.here hx rfl (hb hby d22_5) rfl) ?_
    refine Go.via (fun _ => XS.icmpYes X84.here hx rfl (pc0 := 7) (pc' := 44) rfl (hb hby d22_7) rfl (flt ((by decide) : ¬ ((2 : Int32) < (2 : Int32)))).2.1 (by decide) (by decide)) ?_
    show Go p e below (T84.setTop (mkF m 44 #[.val (.ref ca), .val (.int (2 : Int32)), .val (.ref ba), .val (.int (2 : Int32)), .val (.int (2 : Int32)), .val (.int (2 : Int32)), .val (.int y1)] [])) _
    refine Go.via (fun _ => XS.iload X84.here hx rfl (hb hby d22_44) rfl) ?_
    have k86 : Keep h0 h84 [ba] := (((Keep.refl h0 [ba]).wr W81 (Or.inl (List.mem_of_getElem? (i := 0) rfl))).wr W84 (Or.inl (List.mem_of_getElem? (i := 0) rfl)))
    exact Go.fin X84 hlk (v := some (.int (2 : Int32))) (fun h => by rw [Bd.returns] at h; cases h) (fun fs hr => OwnKit.retI X84 hx Bd.returns (hb hby d22_46) hr) (by rw [e84]; exact ⟨rfl, N84, k86, f85⟩) (by decide) (by decide)
def Q_rmC3_2 (Z : State) (ca : Addr) (i : Int32) (n : Int32) (y0 : Int32) (y1 : Int32) (h0 : Heap) (n0 : Nat) (vQ : Option Value) (hQ : Heap) (LQ : List Loc) : Prop := ∃ r : Addr, vQ = some (.ref r) ∧ Fr n0 LQ ∧ Keep h0 hQ [] ∧ h0.size ≤ r ∧ Ia Z hQ r .byte [(nar .byte (y0.toInt8.toInt32)), (nar .byte (y1.toInt8.toInt32))]
set_option maxRecDepth 65536 in
set_option maxHeartbeats 40000000 in
theorem rmC3_2 (l : Launch) (Z : State) (a0 : Array Value) (hw : ∀ d ∈ tables_1, d.before a0 Z = true) (ws : List Jvm.Cond) (ca : Addr) (i : Int32) (n : Int32) (y0 : Int32) (y1 : Int32) (h0 : Heap) (n0 : Nat) (Z0 : n0 ≤ h0.size) (P0 : Ia Z h0 ca .char [y0, y1]) (hi : i = 0) (hn : n = 2) (hy0 : ¬ ((255 : Int32) < y0)) (hy1 : ¬ ((255 : Int32) < y1)) :
    MetFree l (⟨cU6, "compress", "([CII)[B"⟩ : MethodName) (head1 (Jvm.Cond.code (⟨cU6, "compress", "([CII)[B"⟩ : MethodName) jdk_52_method_16_code 6 (some (.array .byte)) :: ws) ({ frames := 1, cells := 1, slots := 2, locals := 18 } : Room)) (fun aQ UQ => aQ = #[(.ref ca), (.int i), (.int n)] ∧ Z.Warmed39 UQ.vm ∧ UQ.heap = h0) (fun _ _ _ _ _ => True) (fun _ UQ oQ UR => ∃ vQ LQ, oQ = .returned vQ ∧ Q_rmC3_2 Z ca i n y0 y1 h0 n0 vQ UR.heap LQ ∧ FrameEnd UQ oQ UR LQ ({ frames := 1, cells := 1, slots := 2, locals := 18 } : Room).cells ({ frames := 1, cells := 1, slots := 2, locals := 18 } : Room).slots) := by
  refine MetFree.of_bodySF (plainFor_of_name pn_21) hisR ?_
  intro p e s m args below meth c s₁ Bd hml0 hP hK
  obtain ⟨rfl, hZ, hh⟩ := hP
  have hx := Bd.exec
  have hby := Bd.bytes
  have hlk := Bd.notSynchronized
  have hml : c.maxLocals = 6 := hml0
  have hown : s.vm.findClass cU6 = some m.cls := findClass_of_methodNamed Bd.named
  have hnm := (name_of_methodNamed Bd.named Bd.method).1
  have X0 : Stand p l e ({ frames := 1, cells := 1, slots := 2, locals := 18 } : Room) s m #[(.ref ca), (.int i), (.int n)] below meth c s₁ [] 0 0 := Stand.of_body Bd
  have e0 : s₁.heap = h0 := by rw [← hh, Bd.state]; rfl
  have N0 := Fr.nil n0
  show Go p e below _ (Done s (Q_rmC3_2 Z ca i n y0 y1 h0 n0) ({ frames := 1, cells := 1, slots := 2, locals := 18 } : Room).cells ({ frames := 1, cells := 1, slots := 2, locals := 18 } : Room).slots)
  refine Go.via (fun tQ kQ => castTop (ef_21 m ca i n) kQ) ?_
  show Go p e below (s₁.setTop (mkF m 0 #[.val (.ref ca), .val (.int i), .val (.int n), .unset, .unset, .unset] [])) _
  · subst hi hn
    show Go p e below (s₁.setTop (mkF m 0 #[.val (.ref ca), .val (.int (0 : Int32)), .val (.int (2 : Int32)), .unset, .unset, .unset] [])) _
    refine Go.via (fun _ => XS.iloadN X0.here hx rfl (hb hby d21_0) rfl) ?_
    obtain ⟨T87, h87, k87, X87, e87, E87, A87, B87, st87⟩ := newPE X0 hx hZ (tw hw 33 rfl) e0 (g := (mkF m 1 #[.val (.ref ca), .val (.int (0 : Int32)), .val (.int (2 : Int32)), .unset, .unset, .unset] [(.int (2 : Int32))])) rfl (hb hby d21_1) rfl (by decide) (cap := 2) (by decide) (by decide) (by decide) (by decide) (ad := "[B") (by decide)
    obtain ⟨b87, g87⟩ : ∃ z, z = h0.size := ⟨_, rfl⟩
    rw [← g87] at A87 B87 st87
    have ne88 : ca ≠ b87 := Nat.ne_of_lt (Nat.lt_of_lt_of_le P0.lt (Nat.le_of_eq g87.symm))
    have ge89 : n0 ≤ b87 := Nat.le_trans Z0 (Nat.le_of_eq g87.symm)
    have sz90 : h0.size ≤ b87 := Nat.le_trans (Keep.refl h0 []).1 (Nat.le_of_eq g87.symm)
    refine Go.via (st87) ?_
    clear st87
    have f91 : Ia Z h87 b87 .byte [(0 : Int32), (0 : Int32)] := Ia.new A87 rfl
    clear X0 e0
    show Go p e below (T87.setTop (mkF m 3 #[.val (.ref ca), .val (.int (0 : Int32)), .val (.int (2 : Int32)), .unset, .unset, .unset] [(.ref b87)])) _
    refine Go.via (fun _ => XS.astoreN X87.here hx rfl (hb hby d21_3) rfl rfl (l' := #[.val (.ref ca), .val (.int (0 : Int32)), .val (.int (2 : Int32)), .val (.ref b87), .unset, .unset]) rfl) ?_
    show Go p e below (T87.setTop (mkF m 4 #[.val (.ref ca), .val (.int (0 : Int32)), .val (.int (2 : Int32)), .val (.ref b87), .unset, .unset] [])) _
    refine Go.via (fun _ => XS.aloadN X87.here hx rfl (hb hby d21_4) rfl rfl) ?_
    refine Go.via (fun _ => XS.iloadN X87.here hx rfl (hb hby d21_5) rfl) ?_
    refine Go.via (fun _ => XS.aloadN X87.here hx rfl (hb hby d21_6) rfl rfl) ?_
    refine Go.via (fun _ => XS.iconst X87.here hx rfl (hb hby d21_7)) ?_
    show Go p e below (T87.setTop (mkF m 8 #[.val (.ref ca), .val (.int (0 : Int32)), .val (.int (2 : Int32)), .val (.ref b87), .unset, .unset] [(.int (0 : Int32)), (.ref b87), (.int (0 : Int32)), (.ref ca)])) _
    refine Go.via (fun _ => XS.iloadN X87.here hx rfl (hb hby d21_8) rfl) ?_
    have f92 : Ia Z h87 ca .char [y0, y1] := (P0.ext E87)
    have z94 : n0 ≤ h87.size := (Nat.le_trans Z0 E87.1)
    obtain ⟨r93, _, ⟨T93, L93, k93, n93⟩, -, X93, ⟨Lc93, hQ93, l93, y93, z93⟩, st93⟩ := Jvm.LawKit.callS X87 hx (y := (⟨cU6, "compress", "([CI[BII)I"⟩ : MethodName)) hown (mvT hZ (tw hw 129 rfl)) (mvT hZ (tw hw 130 rfl)) (mvT hZ (tw hw 127 rfl)) (mvT hZ (tw hw 131 rfl)) (by decide) (backOf (W := 0) (rmC5_2 l Z a0 hw [] ca (0 : Int32) b87 (0 : Int32) (2 : Int32) y0 y1 h87 n0 z94 f92 f91 ge89 ne88 rfl rfl rfl hy0 hy1) hZ (tw hw 131 rfl) (tw hw 127 rfl) (by decide) (by decide)) (g := (mkF m 9 #[.val (.ref ca), .val (.int (0 : Int32)), .val (.int (2 : Int32)), .val (.ref b87), .unset, .unset] [(.int (2 : Int32)), (.int (0 : Int32)), (.ref b87), (.int (0 : Int32)), (.ref ca)])) rfl (by rw [hml]; rfl) (argsL := [(.ref ca), (.int (0 : Int32)), (.ref b87), (.int (0 : Int32)), (.int (2 : Int32))]) (rest := []) (lenOf pd__28_5bCI_5bBII_29I rfl) rfl (by show 2 * 0 + _ ≤ _; exact Nat.le_of_eq rfl) (hb hby d21_9) (fun _ _ => ⟨rfl, e87, (by decide : 1 + 0 ≤ _), (by decide : 2 + 0 ≤ _)⟩)
    dsimp only [Pt.U, Pt.locs, Pt.cells, Pt.slots] at X93 l93 y93 z93 st93 hQ93
    rw [l93, y93, z93] at X93
    clear l93 y93 z93
    obtain ⟨hr93, N93q, K93q, f95⟩ := hQ93
    rw [hr93] at st93
    clear hr93
    have N93 := Fr.app N0 N93q
    refine Go.via (st93) ?_
    clear st93
    have e93 : T93.heap = T93.heap := rfl
    have f96 : Ia Z T93.heap b87 .byte [(nar .byte (y0.toInt8.toInt32)), (nar .byte (y1.toInt8.toInt32))] := f95
    clear X87 e87
    show Go p e below (T93.setTop (mkF m 12 #[.val (.ref ca), .val (.int (0 : Int32)), .val (.int (2 : Int32)), .val (.ref b87), .unset, .unset] [(.int (2 : Int32))])) _
    refine Go.via (fun _ => XS.istore X93.here hx rfl (hb hby d21_12) rfl (l' := #[.val (.ref ca), .val (.int (0 : Int32)), .val (.int (2 : Int32)), .val (.ref b87), .val (.int (2 : Int32)), .unset]) rfl) ?_
    show Go p e below (T93.setTop (mkF m 14 #[.val (.ref ca), .val (.int (0 : Int32)), .val (.int (2 : Int32)), .val (.ref b87), .val (.int (2 : Int32)), .unset] [])) _
    refine Go.via (fun _ => XS.iload X93.here hx rfl (hb hby d21_14) rfl) ?_
    refine Go.via (fun _ => XS.iloadN X93.here hx rfl (hb hby d21_16) rfl) ?_
    refine Go.via (fun _ => XS.icmpYes X93.here hx rfl (pc0 := 17) (pc' := 57) rfl (hb hby d21_17) rfl (teq ((by decide) : (2 : Int32) = (2 : Int32))).1 (by decide) (by decide)) ?_
    show Go p e below (T93.setTop (mkF m 57 #[.val (.ref ca), .val (.int (0 : Int32)), .val (.int (2 : Int32)), .val (.ref b87), .val (.int (2 : Int32)), .unset] [])) _
    refine Go.via (fun _ => XS.aloadN X93.here hx rfl (hb hby d21_57) rfl rfl) ?_
    have k97 : Keep h0 T93.heap [] := (((Keep.refl h0 []).ext E87).trans K93q (allS (Or.inr sz90) all0))
    exact Go.fin X93 hlk (v := some (.ref b87)) (fun h => by rw [Bd.returns] at h; cases h) (fun fs hr => retOut X93 hx Bd.returns rfl (Or.inr (Or.inr (Or.inr (Or.inr ⟨rfl, rfl, rfl⟩)))) (hb hby d21_58) hr) (by exact ⟨b87, rfl, N93, k97, sz90, f96⟩) (by decide) (by decide)
def Q_rmCl_2 (Z : State) (ba : Addr) (n : Int32) (y0 : Int32) (y1 : Int32) (h0 : Heap) (n0 : Nat) (vQ : Option Value) (hQ : Heap) (LQ : List Loc) : Prop := vQ = some (.int (0 : Int32)) ∧ Fr n0 LQ ∧ hQ = h0
set_option maxRecDepth 65536 in
set_option maxHeartbeats 40000000 in
theorem rmCl_2 (l : Launch) (Z : State) (a0 : Array Value) (hw : ∀ d ∈ tables_1, d.before a0 Z = true) (ws : List Jvm.Cond) (ba : Addr) (n : Int32) (y0 : Int32) (y1 : Int32) (h0 : Heap) (n0 : Nat) (Z0 : n0 ≤ h0.size) (P0 : Ia Z h0 ba .byte [y0, y1]) (hn : n = 2) :
    MetFree l (⟨cU6, "coderFromArrayLen", "([BI)B"⟩ : MethodName) (head1 (Jvm.Cond.code (⟨cU6, "coderFromArrayLen", "([BI)B"⟩ : MethodName) jdk_52_method_15_code 2 (some .byte) :: ws) ({ frames := 0, cells := 0, slots := 0, locals := 0 } : Room)) (fun aQ UQ => aQ = #[(.ref ba), (.int n)] ∧ Z.Warmed39 UQ.vm ∧ UQ.heap = h0) (fun _ _ _ _ _ => True) (fun _ UQ oQ UR => ∃ vQ LQ, oQ = .returned vQ ∧ Q_rmCl_2 Z ba n y0 y1 h0 n0 vQ UR.heap LQ ∧ FrameEnd UQ oQ UR LQ ({ frames := 0, cells := 0, slots := 0, locals := 0 } : Room).cells ({ frames := 0, cells := 0, slots := 0, locals := 0 } : Room).slots) := by
  refine MetFree.of_bodySF (plainFor_of_name pn_23) hisR ?_
  intro p e s m args below meth c s₁ Bd hml0 hP hK
  obtain ⟨rfl, hZ, hh⟩ := hP
  have hx := Bd.exec
  have hby := Bd.bytes
  have hlk := Bd.notSynchronized
  have hml : c.maxLocals = 2 := hml0
  have hown : s.vm.findClass cU6 = some m.cls := findClass_of_methodNamed Bd.named
  have hnm := (name_of_methodNamed Bd.named Bd.method).1
  have X0 : Stand p l e ({ frames := 0, cells := 0, slots := 0, locals := 0 } : Room) s m #[(.ref ba), (.int n)] below meth c s₁ [] 0 0 := Stand.of_body Bd
  have e0 : s₁.heap = h0 := by rw [← hh, Bd.state]; rfl
  have N0 := Fr.nil n0
  show Go p e below _ (Done s (Q_rmCl_2 Z ba n y0 y1 h0 n0) ({ frames := 0, cells := 0, slots := 0, locals := 0 } : Room).cells ({ frames := 0, cells := 0, slots := 0, locals := 0 } : Room).slots)
  refine Go.via (fun tQ kQ => castTop (ef_23 m ba n) kQ) ?_
  show Go p e below (s₁.setTop (mkF m 0 #[.val (.ref ba), .val (.int n)] [])) _
  · subst hn
    show Go p e below (s₁.setTop (mkF m 0 #[.val (.ref ba), .val (.int (2 : Int32))] [])) _
    refine Go.via (fun _ => XS.iloadN X0.here hx rfl (hb hby d23_0) rfl) ?_
    refine Go.via (fun _ => XS.aloadN X0.here hx rfl (hb hby d23_1) rfl rfl) ?_
    refine Go.via (lenI X0 hx hZ e0 P0 (n := (2 : Int32)) rfl (g := (mkF m 2 #[.val (.ref ba), .val (.int (2 : Int32))] [(.ref ba), (.int (2 : Int32))])) rfl rfl (hb hby d23_2)) ?_
    show Go p e below (s₁.setTop (mkF m 3 #[.val (.ref ba), .val (.int (2 : Int32))] [(.int (2 : Int32)), (.int (2 : Int32))])) _
    refine Go.via (fun _ => XS.isub X0.here hx rfl (hb hby d23_3) rfl) ?_
    show Go p e below (s₁.setTop (mkF m 4 #[.val (.ref ba), .val (.int (2 : Int32))] [(.int (0 : Int32))])) _
    refine Go.via (fun _ => XS.bipush X0.here hx rfl (hb hby d23_4)) ?_
    refine Go.via (fun _ => XS.iushr X0.here hx rfl (hb hby d23_6) rfl) ?_
    show Go p e below (s₁.setTop (mkF m 7 #[.val (.ref ba), .val (.int (2 : Int32))] [(.int (0 : Int32))])) _
    refine Go.via (fun _ => XS.i2b X0.here hx rfl (hb hby d23_7) rfl) ?_
    show Go p e below (s₁.setTop (mkF m 8 #[.val (.ref ba), .val (.int (2 : Int32))] [(.int ((0 : Int32).toInt8.toInt32))])) _
    exact Go.fin X0 hlk (v := some (.int (nar .byte ((0 : Int32).toInt8.toInt32)))) (fun h => by rw [Bd.returns] at h; cases h) (fun fs hr => retN X0 hx (t := .byte) Bd.returns (by simp) (hb hby d23_8) hr) (by rw [e0]; exact ⟨rfl, N0, rfl⟩) (by decide) (by decide)
def Q_rmI5_2 (Z : State) (a : Addr) (ca : Addr) (i : Int32) (n : Int32) (y0 : Int32) (y1 : Int32) (cs : Int32) (h0 : Heap) (n0 : Nat) (vQ : Option Value) (hQ : Heap) (LQ : List Loc) : Prop := ∃ r : Addr, vQ = none ∧ Fr n0 LQ ∧ Keep h0 hQ [a] ∧ h0.size ≤ r ∧ Exa Z hQ a cST ∧ Fld Z hQ a cST "coder" "B" (.int (0 : Int32)) ∧ Fld Z hQ a cST "value" "[B" (.ref r) ∧ Ia Z hQ r .byte [(nar .byte (y0.toInt8.toInt32)), (nar .byte (y1.toInt8.toInt32))]
set_option maxRecDepth 65536 in
set_option maxHeartbeats 40000000 in
theorem rmI5_2 (l : Launch) (Z : State) (a0 : Array Value) (hw : ∀ d ∈ tables_1, d.before a0 Z = true) (ws : List Jvm.Cond) (a : Addr) (ca : Addr) (i : Int32) (n : Int32) (y0 : Int32) (y1 : Int32) (cs : Int32) (h0 : Heap) (n0 : Nat) (Z0 : n0 ≤ h0.size) (P0 : Fld Z h0 a cST "coder" "B" (.int (0 : Int32))) (P1 : Fld Z h0 a cST "value" "[B" .null) (P2 : Exa Z h0 a cST) (P3 : Ia Z h0 ca .char [y0, y1]) (P4 : Old Z n0 h0) (zCS : Sta Z Z.heap cST "COMPACT_STRINGS" "Z" (.int cs)) (g_a : n0 ≤ a) (hac : a ≠ ca) (hi : i = 0) (hn : n = 2) (hcs : ¬ (cs = (0 : Int32))) (hy0 : ¬ ((255 : Int32) < y0)) (hy1 : ¬ ((255 : Int32) < y1)) :
    MetFree l (⟨cST, "<init>", "([CIILjava/lang/Void;)V"⟩ : MethodName) (head1 (Jvm.Cond.code (⟨cST, "<init>", "([CIILjava/lang/Void;)V"⟩ : MethodName) jdk_42_method_149_code 6 none :: ws) ({ frames := 2, cells := 1, slots := 2, locals := 35 } : Room)) (fun aQ UQ => aQ = #[(.ref a), (.ref ca), (.int i), (.int n), .null] ∧ Z.Warmed39 UQ.vm ∧ UQ.heap = h0) (fun _ _ _ _ _ => True) (fun _ UQ oQ UR => ∃ vQ LQ, oQ = .returned vQ ∧ Q_rmI5_2 Z a ca i n y0 y1 cs h0 n0 vQ UR.heap LQ ∧ FrameEnd UQ oQ UR LQ ({ frames := 2, cells := 1, slots := 2, locals := 35 } : Room).cells ({ frames := 2, cells := 1, slots := 2, locals := 35 } : Room).slots) := by
  refine MetFree.of_bodySF (plainFor_of_name pn_6) hisR ?_
  intro p e s m args below meth c s₁ Bd hml0 hP hK
  obtain ⟨rfl, hZ, hh⟩ := hP
  have hx := Bd.exec
  have hby := Bd.bytes
  have hlk := Bd.notSynchronized
  have hml : c.maxLocals = 6 := hml0
  have hown : s.vm.findClass cST = some m.cls := findClass_of_methodNamed Bd.named
  have hnm := (name_of_methodNamed Bd.named Bd.method).1
  have X0 : Stand p l e ({ frames := 2, cells := 1, slots := 2, locals := 35 } : Room) s m #[(.ref a), (.ref ca), (.int i), (.int n), .null] below meth c s₁ [] 0 0 := Stand.of_body Bd
  have e0 : s₁.heap = h0 := by rw [← hh, Bd.state]; rfl
  have N0 := Fr.nil n0
  show Go p e below _ (Done s (Q_rmI5_2 Z a ca i n y0 y1 cs h0 n0) ({ frames := 2, cells := 1, slots := 2, locals := 35 } : Room).cells ({ frames := 2, cells := 1, slots := 2, locals := 35 } : Room).slots)
  refine Go.via (fun tQ kQ => castTop (ef_6n4 m a ca i n) kQ) ?_
  show Go p e below (s₁.setTop (mkF m 0 #[.val (.ref a), .val (.ref ca), .val (.int i), .val (.int n), .val .null, .unset] [])) _
  · subst hi hn
    show Go p e below (s₁.setTop (mkF m 0 #[.val (.ref a), .val (.ref ca), .val (.int (0 : Int32)), .val (.int (2 : Int32)), .val .null, .unset] [])) _
    refine Go.via (fun _ => XS.aloadN X0.here hx rfl (hb hby d6_0) rfl rfl) ?_
    obtain ⟨T98, X98, e98, st98⟩ := initO X0 hx hZ hown (tw hw 29 rfl) (tw hw 30 rfl) (tw hw 31 rfl) e0 (g := (mkF m 1 #[.val (.ref a), .val (.ref ca), .val (.int (0 : Int32)), .val (.int (2 : Int32)), .val .null, .unset] [(.ref a)])) rfl (by rw [hml]; rfl) rfl (hb hby d6_1) (by decide) (W := 0) (by show 2 * 0 + _ ≤ _; exact Nat.le_of_eq rfl) (by decide)
    refine Go.via (st98) ?_
    clear st98
    clear X0 e0
    show Go p e below (T98.setTop (mkF m 4 #[.val (.ref a), .val (.ref ca), .val (.int (0 : Int32)), .val (.int (2 : Int32)), .val .null, .unset] [])) _
    refine Go.via (fun _ => XS.iloadN X98.here hx rfl (hb hby d6_4) rfl) ?_
    refine Go.via (fun _ => XS.ifYes X98.here hx rfl (pc0 := 5) (pc' := 27) rfl (hb hby d6_5) rfl ((if0 _ _).trans (feq ((by decide) : ¬ ((2 : Int32) = (0 : Int32)))).2) (by decide) (by decide)) ?_
    show Go p e below (T98.setTop (mkF m 27 #[.val (.ref a), .val (.ref ca), .val (.int (0 : Int32)), .val (.int (2 : Int32)), .val .null, .unset] [])) _
    have f99 : Sta Z h0 cST "COMPACT_STRINGS" "Z" (.int cs) := zCS.ext P4.2
    obtain ⟨T100, X100, e100, st100⟩ := getS2 X98 hx hZ hown (host := "") (Or.inl (tw hw 70 rfl)) Via.refl e98 f99 (g := (mkF m 27 #[.val (.ref a), .val (.ref ca), .val (.int (0 : Int32)), .val (.int (2 : Int32)), .val .null, .unset] [])) rfl (hb hby d6_27)
    refine Go.via (st100) ?_
    clear st100
    clear X98 e98
    show Go p e below (T100.setTop (mkF m 30 #[.val (.ref a), .val (.ref ca), .val (.int (0 : Int32)), .val (.int (2 : Int32)), .val .null, .unset] [(.int cs)])) _
    refine Go.via (fun _ => XS.ifNo X100.here hx rfl (hb hby d6_30) rfl ((if0 _ _).trans (feq (hcs : ¬ (cs = (0 : Int32)))).1)) ?_
    show Go p e below (T100.setTop (mkF m 33 #[.val (.ref a), .val (.ref ca), .val (.int (0 : Int32)), .val (.int (2 : Int32)), .val .null, .unset] [])) _
    refine Go.via (fun _ => XS.aloadN X100.here hx rfl (hb hby d6_33) rfl rfl) ?_
    refine Go.via (fun _ => XS.iloadN X100.here hx rfl (hb hby d6_34) rfl) ?_
    refine Go.via (fun _ => XS.iloadN X100.here hx rfl (hb hby d6_35) rfl) ?_
    obtain ⟨r101, _, ⟨T101, L101, k101, n101⟩, -, X101, ⟨Lc101, hQ101, l101, y101, z101⟩, st101⟩ := Jvm.LawKit.callS X100 hx (y := (⟨cU6, "compress", "([CII)[B"⟩ : MethodName)) hown (mvT hZ (tw hw 125 rfl)) (mvT hZ (tw hw 126 rfl)) (mvT hZ (tw hw 127 rfl)) (mvT hZ (tw hw 128 rfl)) (by decide) (backOf (W := 0) (rmC3_2 l Z a0 hw [] ca (0 : Int32) (2 : Int32) y0 y1 h0 n0 Z0 P3 rfl rfl hy0 hy1) hZ (tw hw 128 rfl) (tw hw 127 rfl) (by decide) (by decide)) (g := (mkF m 36 #[.val (.ref a), .val (.ref ca), .val (.int (0 : Int32)), .val (.int (2 : Int32)), .val .null, .unset] [(.int (2 : Int32)), (.int (0 : Int32)), (.ref ca)])) rfl (by rw [hml]; rfl) (argsL := [(.ref ca), (.int (0 : Int32)), (.int (2 : Int32))]) (rest := []) (lenOf pd__28_5bCII_29_5bB rfl) rfl (by show 2 * 0 + _ ≤ _; exact Nat.le_of_eq rfl) (hb hby d6_36) (fun _ _ => ⟨rfl, e100, (by decide : 0 + 1 ≤ _), (by decide : 0 + 2 ≤ _)⟩)
    dsimp only [Pt.U, Pt.locs, Pt.cells, Pt.slots] at X101 l101 y101 z101 st101 hQ101
    rw [l101, y101, z101] at X101
    clear l101 y101 z101
    obtain ⟨b102, hr101, N101q, K101q, fz_b102, f103⟩ := hQ101
    rw [hr101] at st101
    clear hr101
    have N101 := Fr.app N0 N101q
    refine Go.via (st101) ?_
    clear st101
    have ne104 : a ≠ b102 := Nat.ne_of_lt (Nat.lt_of_lt_of_le P0.lt fz_b102)
    have ne105 : ca ≠ b102 := Nat.ne_of_lt (Nat.lt_of_lt_of_le P3.lt fz_b102)
    have ge106 : n0 ≤ b102 := Nat.le_trans Z0 fz_b102
    have sz107 : h0.size ≤ b102 := Nat.le_trans (Keep.refl h0 [a]).1 fz_b102
    have e101 : T101.heap = T101.heap := rfl
    have f108 : Ia Z T101.heap b102 .byte [(nar .byte (y0.toInt8.toInt32)), (nar .byte (y1.toInt8.toInt32))] := f103
    clear X100 e100
    show Go p e below (T101.setTop (mkF m 39 #[.val (.ref a), .val (.ref ca), .val (.int (0 : Int32)), .val (.int (2 : Int32)), .val .null, .unset] [(.ref b102)])) _
    refine Go.via (fun _ => XS.astore X101.here hx rfl (hb hby d6_39) rfl rfl (l' := #[.val (.ref a), .val (.ref ca), .val (.int (0 : Int32)), .val (.int (2 : Int32)), .val .null, .val (.ref b102)]) rfl) ?_
    show Go p e below (T101.setTop (mkF m 41 #[.val (.ref a), .val (.ref ca), .val (.int (0 : Int32)), .val (.int (2 : Int32)), .val .null, .val (.ref b102)] [])) _
    refine Go.via (fun _ => XS.aloadN X101.here hx rfl (hb hby d6_41) rfl rfl) ?_
    refine Go.via (fun _ => XS.aload X101.here hx rfl (hb hby d6_42) rfl rfl) ?_
    refine Go.via (fun _ => XS.iloadN X101.here hx rfl (hb hby d6_44) rfl) ?_
    have z110 : n0 ≤ T101.heap.size := (Nat.le_trans Z0 K101q.1)
    obtain ⟨r109, _, ⟨T109, L109, k109, n109⟩, -, X109, ⟨Lc109, hQ109, l109, y109, z109⟩, st109⟩ := Jvm.LawKit.callS X101 hx (y := (⟨cU6, "coderFromArrayLen", "([BI)B"⟩ : MethodName)) hown (mvT hZ (tw hw 132 rfl)) (mvT hZ (tw hw 133 rfl)) (mvT hZ (tw hw 127 rfl)) (mvT hZ (tw hw 134 rfl)) (by decide) (backOf (W := 1) (rmCl_2 l Z a0 hw [] b102 (2 : Int32) (nar .byte (y0.toInt8.toInt32)) (nar .byte (y1.toInt8.toInt32)) T101.heap n0 z110 f108 rfl) hZ (tw hw 134 rfl) (tw hw 127 rfl) (by decide) (by decide)) (g := (mkF m 45 #[.val (.ref a), .val (.ref ca), .val (.int (0 : Int32)), .val (.int (2 : Int32)), .val .null, .val (.ref b102)] [(.int (2 : Int32)), (.ref b102), (.ref a)])) rfl (by rw [hml]; rfl) (argsL := [(.ref b102), (.int (2 : Int32))]) (rest := [(.ref a)]) (lenOf pd__28_5bBI_29B rfl) rfl (by show 2 * 0 + _ ≤ _; exact Nat.le_of_eq rfl) (hb hby d6_45) (fun _ _ => ⟨rfl, e101, (by decide : 1 + 0 ≤ _), (by decide : 2 + 0 ≤ _)⟩)
    dsimp only [Pt.U, Pt.locs, Pt.cells, Pt.slots] at X109 l109 y109 z109 st109 hQ109
    rw [l109, y109, z109] at X109
    clear l109 y109 z109
    obtain ⟨hr109, N109q, eh109⟩ := hQ109
    rw [hr109] at st109
    clear hr109
    have N109 := Fr.app N101 N109q
    refine Go.via (st109) ?_
    clear st109
    have e109 : T109.heap = T101.heap := eh109
    clear X101 e101
    show Go p e below (T109.setTop (mkF m 48 #[.val (.ref a), .val (.ref ca), .val (.int (0 : Int32)), .val (.int (2 : Int32)), .val .null, .val (.ref b102)] [(.int (0 : Int32)), (.ref a)])) _
    have f111 : Fld Z T101.heap a cST "coder" "B" (.int (0 : Int32)) := (P0.keep K101q nin0)
    have f112 : Exa Z T101.heap a cST := (P2.keep K101q)
    obtain ⟨T113, h113, X113, e113, W113, st113⟩ := putF X109 hx hZ hown (host := "") (Or.inl (tw hw 39 rfl)) Via.refl e109 f111 f112 (Or.inr ⟨(tw hw 35 rfl), rfl, hnm⟩) (tw hw 19 rfl) (ty := .byte) (by decide) rfl rfl (g := (mkF m 48 #[.val (.ref a), .val (.ref ca), .val (.int (0 : Int32)), .val (.int (2 : Int32)), .val .null, .val (.ref b102)] [(.int (0 : Int32)), (.ref a)])) rfl rfl (hb hby d6_48)
    refine Go.via (st113) ?_
    clear st113
    have N113 := Fr.snoc X113 N109 g_a
    have f114 : Fld Z h113 a cST "coder" "B" (.int (0 : Int32)) := f111.same W113
    clear X109 e109
    show Go p e below (T113.setTop (mkF m 51 #[.val (.ref a), .val (.ref ca), .val (.int (0 : Int32)), .val (.int (2 : Int32)), .val .null, .val (.ref b102)] [])) _
    refine Go.via (fun _ => XS.aloadN X113.here hx rfl (hb hby d6_51) rfl rfl) ?_
    refine Go.via (fun _ => XS.aload X113.here hx rfl (hb hby d6_52) rfl rfl) ?_
    have f115 : Fld Z h113 a cST "value" "[B" .null := ((P1.keep K101q nin0).other W113 (Or.inr (slot_ne (Or.inr (tw hw 34 rfl)) (Or.inr (tw hw 35 rfl)) (by decide) (t := (.array .byte)) (t' := .byte) (by decide) (by decide))))
    have f116 : Exa Z h113 a cST := (f112.wr W113)
    obtain ⟨T117, h117, X117, e117, W117, st117⟩ := putF X113 hx hZ hown (host := "") (Or.inl (tw hw 38 rfl)) Via.refl e113 f115 f116 (Or.inr ⟨(tw hw 34 rfl), rfl, hnm⟩) (tw hw 19 rfl) (ty := (.array .byte)) (by decide) rfl rfl (g := (mkF m 54 #[.val (.ref a), .val (.ref ca), .val (.int (0 : Int32)), .val (.int (2 : Int32)), .val .null, .val (.ref b102)] [(.ref b102), (.ref a)])) rfl rfl (hb hby d6_54)
    refine Go.via (st117) ?_
    clear st117
    have N117 := Fr.snoc X117 N113 g_a
    have f118 : Fld Z h117 a cST "value" "[B" (.ref b102) := f115.same W117
    clear X113 e113
    show Go p e below (T117.setTop (mkF m 57 #[.val (.ref a), .val (.ref ca), .val (.int (0 : Int32)), .val (.int (2 : Int32)), .val .null, .val (.ref b102)] [])) _
    have k119 : Keep h0 h117 [a] := ((((Keep.refl h0 [a]).trans K101q all0).wr W113 (Or.inl (List.mem_of_getElem? (i := 0) rfl))).wr W117 (Or.inl (List.mem_of_getElem? (i := 0) rfl)))
    have f120 : Exa Z h117 a cST := (f116.wr W117)
    have f121 : Fld Z h117 a cST "coder" "B" (.int (0 : Int32)) := (f114.other W117 (Or.inr (slot_ne (Or.inr (tw hw 35 rfl)) (Or.inr (tw hw 34 rfl)) (by decide) (t := .byte) (t' := (.array .byte)) (by decide) (by decide))))
    have f122 : Ia Z h117 b102 .byte [(nar .byte (y0.toInt8.toInt32)), (nar .byte (y1.toInt8.toInt32))] := ((f108.other W113 (Ne.symm ne104)).other W117 (Ne.symm ne104))
    exact Go.fin X117 hlk (v := none) (fun _ => rfl) (fun fs hr => X117.returnOut hx Bd.returns (hb hby d6_57) hr) (by rw [e117]; exact ⟨b102, rfl, N117, k119, sz107, f120, f121, f118, f122⟩) (by decide) (by decide)
def Q_rmI1_2 (Z : State) (a : Addr) (ca : Addr) (y0 : Int32) (y1 : Int32) (cs : Int32) (h0 : Heap) (n0 : Nat) (vQ : Option Value) (hQ : Heap) (LQ : List Loc) : Prop := ∃ r : Addr, vQ = none ∧ Fr n0 LQ ∧ Keep h0 hQ [a] ∧ h0.size ≤ r ∧ Exa Z hQ a cST ∧ Fld Z hQ a cST "coder" "B" (.int (0 : Int32)) ∧ Fld Z hQ a cST "value" "[B" (.ref r) ∧ Ia Z hQ r .byte [(nar .byte (y0.toInt8.toInt32)), (nar .byte (y1.toInt8.toInt32))]
set_option maxRecDepth 65536 in
set_option maxHeartbeats 40000000 in
theorem rmI1_2 (l : Launch) (Z : State) (a0 : Array Value) (hw : ∀ d ∈ tables_1, d.before a0 Z = true) (ws : List Jvm.Cond) (a : Addr) (ca : Addr) (y0 : Int32) (y1 : Int32) (cs : Int32) (h0 : Heap) (n0 : Nat) (Z0 : n0 ≤ h0.size) (P0 : Fld Z h0 a cST "coder" "B" (.int (0 : Int32))) (P1 : Fld Z h0 a cST "value" "[B" .null) (P2 : Exa Z h0 a cST) (P3 : Ia Z h0 ca .char [y0, y1]) (P4 : Old Z n0 h0) (zCS : Sta Z Z.heap cST "COMPACT_STRINGS" "Z" (.int cs)) (g_a : n0 ≤ a) (hac : a ≠ ca) (hcs : ¬ (cs = (0 : Int32))) (hy0 : ¬ ((255 : Int32) < y0)) (hy1 : ¬ ((255 : Int32) < y1)) :
    MetFree l (⟨cST, "<init>", "([C)V"⟩ : MethodName) (head1 (Jvm.Cond.code (⟨cST, "<init>", "([C)V"⟩ : MethodName) jdk_42_method_3_code 2 none :: ws) ({ frames := 3, cells := 1, slots := 2, locals := 52 } : Room)) (fun aQ UQ => aQ = #[(.ref a), (.ref ca)] ∧ Z.Warmed39 UQ.vm ∧ UQ.heap = h0) (fun _ _ _ _ _ => True) (fun _ UQ oQ UR => ∃ vQ LQ, oQ = .returned vQ ∧ Q_rmI1_2 Z a ca y0 y1 cs h0 n0 vQ UR.heap LQ ∧ FrameEnd UQ oQ UR LQ ({ frames := 3, cells := 1, slots := 2, locals := 52 } : Room).cells ({ frames := 3, cells := 1, slots := 2, locals := 52 } : Room).slots) := by
  refine MetFree.of_bodySF (plainFor_of_name pn_5) hisR ?_
  intro p e s m args below meth c s₁ Bd hml0 hP hK
  obtain ⟨rfl, hZ, hh⟩ := hP
  have hx := Bd.exec
  have hby := Bd.bytes
  have hlk := Bd.notSynchronized
  have hml : c.maxLocals = 2 := hml0
  have hown : s.vm.findClass cST = some m.cls := findClass_of_methodNamed Bd.named
  have hnm := (name_of_methodNamed Bd.named Bd.method).1
  have X0 : Stand p l e ({ frames := 3, cells := 1, slots := 2, locals := 52 } : Room) s m #[(.ref a), (.ref ca)] below meth c s₁ [] 0 0 := Stand.of_body Bd
  have e0 : s₁.heap = h0 := by rw [← hh, Bd.state]; rfl
  have N0 := Fr.nil n0
  show Go p e below _ (Done s (Q_rmI1_2 Z a ca y0 y1 cs h0 n0) ({ frames := 3, cells := 1, slots := 2, locals := 52 } : Room).cells ({ frames := 3, cells := 1, slots := 2, locals := 52 } : Room).slots)
  refine Go.via (fun tQ kQ => castTop (ef_5 m a ca) kQ) ?_
  show Go p e below (s₁.setTop (mkF m 0 #[.val (.ref a), .val (.ref ca)] [])) _
  refine Go.via (fun _ => XS.aloadN X0.here hx rfl (hb hby d5_0) rfl rfl) ?_
  refine Go.via (fun _ => XS.aloadN X0.here hx rfl (hb hby d5_1) rfl rfl) ?_
  refine Go.via (fun _ => XS.iconst X0.here hx rfl (hb hby d5_2)) ?_
  refine Go.via (fun _ => XS.aloadN X0.here hx rfl (hb hby d5_3) rfl rfl) ?_
  show Go p e below (s₁.setTop (mkF m 4 #[.val (.ref a), .val (.ref ca)] [(.ref ca), (.int (0 : Int32)), (.ref ca), (.ref a)])) _
  refine Go.via (lenI X0 hx hZ e0 P3 (n := (2 : Int32)) rfl (g := (mkF m 4 #[.val (.ref a), .val (.ref ca)] [(.ref ca), (.int (0 : Int32)), (.ref ca), (.ref a)])) rfl rfl (hb hby d5_4)) ?_
  show Go p e below (s₁.setTop (mkF m 5 #[.val (.ref a), .val (.ref ca)] [(.int (2 : Int32)), (.int (0 : Int32)), (.ref ca), (.ref a)])) _
  refine Go.via (fun _ => XS.aconstNull X0.here hx rfl (hb hby d5_5)) ?_
  show Go p e below (s₁.setTop (mkF m 6 #[.val (.ref a), .val (.ref ca)] [.null, (.int (2 : Int32)), (.int (0 : Int32)), (.ref ca), (.ref a)])) _
  obtain ⟨r123, _, ⟨T123, L123, k123, n123⟩, -, X123, ⟨Lc123, hQ123, l123, y123, z123⟩, st123⟩ := X0.specialBack hx (y := (⟨cST, "<init>", "([CIILjava/lang/Void;)V"⟩ : MethodName)) rfl hown (mvT hZ (tw hw 25 rfl)) (mvT hZ (tw hw 26 rfl)) (mvT hZ (tw hw 28 rfl)) (by decide) (backOf (W := 0) (rmI5_2 l Z a0 hw [] a ca (0 : Int32) (2 : Int32) y0 y1 cs h0 n0 Z0 P0 P1 P2 P3 P4 zCS g_a hac rfl rfl hcs hy0 hy1) hZ (tw hw 28 rfl) (tw hw 20 rfl) (by decide) (by decide)) (g := (mkF m 6 #[.val (.ref a), .val (.ref ca)] [.null, (.int (2 : Int32)), (.int (0 : Int32)), (.ref ca), (.ref a)])) rfl (by rw [hml]; rfl) (Steps.refl _) (a := a) (argsL := [(.ref ca), (.int (0 : Int32)), (.int (2 : Int32)), .null]) (rest := []) (lenOf pd__28_5bCIILjava_2flang_2fVoid_3b_29V rfl) rfl (by show 2 * 0 + _ ≤ _; exact Nat.le_of_eq rfl) (hb hby d5_6) (fun _ _ => ⟨rfl, e0, (by decide : 0 + 1 ≤ _), (by decide : 0 + 2 ≤ _)⟩)
  dsimp only [Pt.U, Pt.locs, Pt.cells, Pt.slots] at X123 l123 y123 z123 st123 hQ123
  rw [l123, y123, z123] at X123
  clear l123 y123 z123
  obtain ⟨b124, hr123, N123q, K123q, fz_b124, f125, f126, f127, f128⟩ := hQ123
  rw [hr123] at st123
  clear hr123
  have N123 := Fr.app N0 N123q
  refine Go.via (fun _ kQ => st123.trans kQ) ?_
  clear st123
  have ne129 : a ≠ b124 := Nat.ne_of_lt (Nat.lt_of_lt_of_le P0.lt fz_b124)
  have ne130 : ca ≠ b124 := Nat.ne_of_lt (Nat.lt_of_lt_of_le P3.lt fz_b124)
  have ge131 : n0 ≤ b124 := Nat.le_trans Z0 fz_b124
  have sz132 : h0.size ≤ b124 := Nat.le_trans (Keep.refl h0 [a]).1 fz_b124
  have e123 : T123.heap = T123.heap := rfl
  have f133 : Exa Z T123.heap a cST := f125
  have f134 : Fld Z T123.heap a cST "coder" "B" (.int (0 : Int32)) := f126
  have f135 : Fld Z T123.heap a cST "value" "[B" (.ref b124) := f127
  have f136 : Ia Z T123.heap b124 .byte [(nar .byte (y0.toInt8.toInt32)), (nar .byte (y1.toInt8.toInt32))] := f128
  clear X0 e0
  show Go p e below (T123.setTop (mkF m 9 #[.val (.ref a), .val (.ref ca)] [])) _
  have k137 : Keep h0 T123.heap [a] := ((Keep.refl h0 [a]).trans K123q (allS (Or.inl (List.mem_of_getElem? (i := 0) rfl)) all0))
  exact Go.fin X123 hlk (v := none) (fun _ => rfl) (fun fs hr => X123.returnOut hx Bd.returns (hb hby d5_9) hr) (by exact ⟨b124, rfl, N123, k137, sz132, f133, f134, f135, f136⟩) (by decide) (by decide)
theorem d6_8 : decode jdk_42_method_149_code 8 = .ok (.aload_n 0, 1) := by decide +kernel
theorem d6_9 : decode jdk_42_method_149_code 9 = .ok (.ldc 7, 2) := by decide +kernel
theorem d6_11 : decode jdk_42_method_149_code 11 = .ok (.getfield 9, 3) := by decide +kernel
theorem d6_14 : decode jdk_42_method_149_code 14 = .ok (.putfield 9, 3) := by decide +kernel
theorem d6_17 : decode jdk_42_method_149_code 17 = .ok (.aload_n 0, 1) := by decide +kernel
theorem d6_18 : decode jdk_42_method_149_code 18 = .ok (.ldc 7, 2) := by decide +kernel
theorem d6_20 : decode jdk_42_method_149_code 20 = .ok (.getfield 15, 3) := by decide +kernel
theorem d6_23 : decode jdk_42_method_149_code 23 = .ok (.putfield 15, 3) := by decide +kernel
theorem d6_26 : decode jdk_42_method_149_code 26 = .ok (.return_, 1) := by decide +kernel
def Q_rmI5_e0 (Z : State) (a : Addr) (ca : Addr) (i : Int32) (n : Int32)  (h0 : Heap) (n0 : Nat) (vQ : Option Value) (hQ : Heap) (vmQ : Vm) (LQ : List Loc) : Prop := ∃ b_ : Addr, vQ = none ∧ Fr n0 LQ ∧ Keep h0 hQ [a] ∧ Exa Z hQ a cST ∧ Fld Z hQ a cST "coder" "B" (.int (0 : Int32)) ∧ Fld Z hQ a cST "value" "[B" (.ref b_) ∧ Ia Z hQ b_ .byte [] ∧ Em Z vmQ hQ ["signature 1", "signature 2", "digest", "name"]
def V_rmI5_e0 (Z : State) (a : Addr) (ca : Addr) (i : Int32) (n : Int32)  (h0 : Heap) (vmV : Vm) : Prop := Em Z vmV h0 ["signature 1", "signature 2", "digest", "name"] ∧ True
set_option maxRecDepth 65536 in
set_option maxHeartbeats 40000000 in
theorem rmI5_e0 (l : Launch) (Z : State) (a0 : Array Value) (hw : ∀ d ∈ tables_1, d.before a0 Z = true) (ws : List Jvm.Cond) (a : Addr) (ca : Addr) (i : Int32) (n : Int32)  (h0 : Heap) (n0 : Nat) (Z0 : n0 ≤ h0.size) (P0 : Fld Z h0 a cST "coder" "B" (.int (0 : Int32))) (P1 : Fld Z h0 a cST "value" "[B" .null) (P2 : Exa Z h0 a cST) (P3 : Old Z n0 h0) (g_a : n0 ≤ a) (hn : n = 0) (hh7 : Jvm.Lit.constHeld Z cST 7) (hcw : Jvm.Lit.compactW.before a0 Z = true) :
    MetFree l (⟨cST, "<init>", "([CIILjava/lang/Void;)V"⟩ : MethodName) (head1 (Jvm.Cond.code (⟨cST, "<init>", "([CIILjava/lang/Void;)V"⟩ : MethodName) jdk_42_method_149_code 6 none :: ws) ({ frames := 1, cells := 2, slots := 4, locals := 12 } : Room)) (fun aQ UQ => aQ = #[(.ref a), (.ref ca), (.int i), (.int n), .null] ∧ Z.Warmed39 UQ.vm ∧ UQ.heap = h0 ∧ V_rmI5_e0 Z a ca i n  h0 UQ.vm) (fun _ _ _ _ _ => True) (fun _ UQ oQ UR => ∃ vQ LQ, oQ = .returned vQ ∧ Q_rmI5_e0 Z a ca i n  h0 n0 vQ UR.heap UR.vm LQ ∧ ReturnedEndW UQ oQ UR LQ ({ frames := 1, cells := 2, slots := 4, locals := 12 } : Room).cells ({ frames := 1, cells := 2, slots := 4, locals := 12 } : Room).slots) := by
  refine MetFree.of_bodySF (plainFor_of_name pn_6) hisR ?_
  intro p e s m args below meth c s₁ Bd hml0 hP hK
  obtain ⟨rfl, hZ0, hh, hV⟩ := hP
  obtain ⟨I0, -⟩ := hV
  have hx := Bd.exec
  have hby := Bd.bytes
  have hlk := Bd.notSynchronized
  have hml : c.maxLocals = 6 := hml0
  have hnm := (name_of_methodNamed Bd.named Bd.method).1
  have e0 : s₁.heap = h0 := by rw [← hh, Bd.state]; rfl
  have N0 := Fr.nil n0
  have hZ : Z.Warmed39 (s.setVm s.vm).vm := hZ0
  have hown : (s.setVm s.vm).vm.findClass cST = some m.cls := findClass_of_methodNamed Bd.named
  have X0 : Stand p l e ({ frames := 1, cells := 2, slots := 4, locals := 12 } : Room) (s.setVm s.vm) m #[(.ref a), (.ref ca), (.int i), (.int n), .null] below meth c s₁ [] 0 0 := Stand.of_body Bd
  have hS0 : s.Since s.vm s.heap.size := (State.WarmedH.refl _).since _
  have hk0 : s.heap.size ≤ h0.size := Nat.le_of_eq (congrArg Array.size hh)
  show Go p e below _ (DoneW s (Q_rmI5_e0 Z a ca i n  h0 n0) ({ frames := 1, cells := 2, slots := 4, locals := 12 } : Room).cells ({ frames := 1, cells := 2, slots := 4, locals := 12 } : Room).slots)
  refine Go.via (fun tQ kQ => castTop (ef_6n4 m a ca i n) kQ) ?_
  show Go p e below (s₁.setTop (mkF m 0 #[.val (.ref a), .val (.ref ca), .val (.int i), .val (.int n), .val .null, .unset] [])) _
  · subst hn
    show Go p e below (s₁.setTop (mkF m 0 #[.val (.ref a), .val (.ref ca), .val (.int i), .val (.int (0 : Int32)), .val .null, .unset] [])) _
    refine Go.via (fun _ => XS.aloadN X0.here hx rfl (hb hby d6_0) rfl rfl) ?_
    obtain ⟨T138, X138, e138, st138⟩ := initO X0 hx hZ hown (tw hw 29 rfl) (tw hw 30 rfl) (tw hw 31 rfl) e0 (g := (mkF m 1 #[.val (.ref a), .val (.ref ca), .val (.int i), .val (.int (0 : Int32)), .val .null, .unset] [(.ref a)])) rfl (by rw [hml]; rfl) rfl (hb hby d6_1) (by decide) (W := 0) (by show 2 * 0 + _ ≤ _; exact Nat.le_of_eq rfl) (by decide)
    refine Go.via (st138) ?_
    clear st138
    clear X0 e0
    show Go p e below (T138.setTop (mkF m 4 #[.val (.ref a), .val (.ref ca), .val (.int i), .val (.int (0 : Int32)), .val .null, .unset] [])) _
    refine Go.via (fun _ => XS.iloadN X138.here hx rfl (hb hby d6_4) rfl) ?_
    refine Go.via (fun _ => XS.ifNo X138.here hx rfl (hb hby d6_5) rfl ((if0 _ _).trans (teq ((by decide) : (0 : Int32) = (0 : Int32))).2)) ?_
    show Go p e below (T138.setTop (mkF m 8 #[.val (.ref a), .val (.ref ca), .val (.int i), .val (.int (0 : Int32)), .val .null, .unset] [])) _
    refine Go.via (fun _ => XS.aloadN X138.here hx rfl (hb hby d6_8) rfl rfl) ?_
    obtain ⟨b139, T139, h139, c139, k1139, X139, e139, E139, hS139, hk139, hZ139, ho139, fE139, fC139, fV139, fA139, fL139, I139, st139⟩ := ldcE X138 hx hZ hown (tw hw 32 rfl) (wStr hw) e138 hS0 hk0 (Fr.nil _) (fun b cl q => by rw [hh]; exact P3.2.2 b cl q) I0 (by decide) hh7 hcw (g := (mkF m 9 #[.val (.ref a), .val (.ref ca), .val (.int i), .val (.int (0 : Int32)), .val .null, .unset] [(.ref a)])) rfl (hb hby d6_9) (by decide) (by decide)
    have hZ : Z.Warmed39 (s.setVm T139.vm).vm := hZ139
    have hown : (s.setVm T139.vm).vm.findClass cST = some m.cls := ho139
    clear hZ139 ho139
    refine Go.via (st139) ?_
    clear st139
    have f140 : Exa Z h139 a cST := (P2.ext E139)
    have ne141 : c139 ≠ a := Ia.neE (a0 := a0) fA139 f140 (tw hw 19 rfl)
    have ne142 : c139 ≠ b139 := Ia.neE (a0 := a0) fA139 fE139 (tw hw 19 rfl)
    clear X138 e138
    show Go p e below (T139.setTop (mkF m 11 #[.val (.ref a), .val (.ref ca), .val (.int i), .val (.int (0 : Int32)), .val .null, .unset] [(.ref b139), (.ref a)])) _
    have f143 : Fld Z h139 a cST "value" "[B" .null := (P1.ext E139)
    have ne144 : a ≠ b139 := Fld.ne f143 fV139 nofun
    obtain ⟨T145, X145, e145, st145⟩ := getF X139 hx hZ hown (host := "") (Or.inl (tw hw 38 rfl)) Via.refl e139 fV139 (g := (mkF m 11 #[.val (.ref a), .val (.ref ca), .val (.int i), .val (.int (0 : Int32)), .val .null, .unset] [(.ref b139), (.ref a)])) rfl rfl (hb hby d6_11)
    refine Go.via (st145) ?_
    clear st145
    clear X139 e139
    show Go p e below (T145.setTop (mkF m 14 #[.val (.ref a), .val (.ref ca), .val (.int i), .val (.int (0 : Int32)), .val .null, .unset] [(.ref c139), (.ref a)])) _
    obtain ⟨T146, h146, X146, e146, W146, st146⟩ := putF X145 hx hZ hown (host := "") (Or.inl (tw hw 38 rfl)) Via.refl e145 f143 f140 (Or.inr ⟨(tw hw 34 rfl), rfl, hnm⟩) (tw hw 19 rfl) (ty := (.array .byte)) (by decide) rfl rfl (g := (mkF m 14 #[.val (.ref a), .val (.ref ca), .val (.int i), .val (.int (0 : Int32)), .val .null, .unset] [(.ref c139), (.ref a)])) rfl rfl (hb hby d6_14)
    refine Go.via (st146) ?_
    clear st146
    have N146 := Fr.snoc X146 N0 g_a
    have f147 : Fld Z h146 a cST "value" "[B" (.ref c139) := f143.same W146
    clear X145 e145
    show Go p e below (T146.setTop (mkF m 17 #[.val (.ref a), .val (.ref ca), .val (.int i), .val (.int (0 : Int32)), .val .null, .unset] [])) _
    refine Go.via (fun _ => XS.aloadN X146.here hx rfl (hb hby d6_17) rfl rfl) ?_
    refine Go.via (ldcAgain (Z := Z) (a0 := a0) X146 hx hZ hown (tw hw 32 rfl) (L := fL139) (g := (mkF m 18 #[.val (.ref a), .val (.ref ca), .val (.int i), .val (.int (0 : Int32)), .val .null, .unset] [(.ref a)])) rfl (hb hby d6_18)) ?_
    show Go p e below (T146.setTop (mkF m 20 #[.val (.ref a), .val (.ref ca), .val (.int i), .val (.int (0 : Int32)), .val .null, .unset] [(.ref b139), (.ref a)])) _
    have f149 : Fld Z h146 b139 cST "coder" "B" (.int (0 : Int32)) := (fC139.other W146 (Or.inl (Ne.symm ne144)))
    obtain ⟨T150, X150, e150, st150⟩ := getF X146 hx hZ hown (host := "") (Or.inl (tw hw 39 rfl)) Via.refl e146 f149 (g := (mkF m 20 #[.val (.ref a), .val (.ref ca), .val (.int i), .val (.int (0 : Int32)), .val .null, .unset] [(.ref b139), (.ref a)])) rfl rfl (hb hby d6_20)
    refine Go.via (st150) ?_
    clear st150
    clear X146 e146
    show Go p e below (T150.setTop (mkF m 23 #[.val (.ref a), .val (.ref ca), .val (.int i), .val (.int (0 : Int32)), .val .null, .unset] [(.int (0 : Int32)), (.ref a)])) _
    have f151 : Fld Z h146 a cST "coder" "B" (.int (0 : Int32)) := ((P0.ext E139).other W146 (Or.inr (slot_ne (Or.inr (tw hw 35 rfl)) (Or.inr (tw hw 34 rfl)) (by decide) (t := .byte) (t' := (.array .byte)) (by decide) (by decide))))
    have f152 : Exa Z h146 a cST := (f140.wr W146)
    obtain ⟨T153, h153, X153, e153, W153, st153⟩ := putF X150 hx hZ hown (host := "") (Or.inl (tw hw 39 rfl)) Via.refl e150 f151 f152 (Or.inr ⟨(tw hw 35 rfl), rfl, hnm⟩) (tw hw 19 rfl) (ty := .byte) (by decide) rfl rfl (g := (mkF m 23 #[.val (.ref a), .val (.ref ca), .val (.int i), .val (.int (0 : Int32)), .val .null, .unset] [(.int (0 : Int32)), (.ref a)])) rfl rfl (hb hby d6_23)
    refine Go.via (st153) ?_
    clear st153
    have N153 := Fr.snoc X153 N146 g_a
    have f154 : Fld Z h153 a cST "coder" "B" (.int (0 : Int32)) := f151.same W153
    clear X150 e150
    show Go p e below (T153.setTop (mkF m 26 #[.val (.ref a), .val (.ref ca), .val (.int i), .val (.int (0 : Int32)), .val .null, .unset] [])) _
    have k155 : Keep h0 h153 [a] := ((((Keep.refl h0 [a]).ext E139).wr W146 (Or.inl (List.mem_of_getElem? (i := 0) rfl))).wr W153 (Or.inl (List.mem_of_getElem? (i := 0) rfl)))
    have f156 : Exa Z h153 a cST := (f152.wr W153)
    have f157 : Fld Z h153 a cST "value" "[B" (.ref c139) := (f147.other W153 (Or.inr (slot_ne (Or.inr (tw hw 34 rfl)) (Or.inr (tw hw 35 rfl)) (by decide) (t := (.array .byte)) (t' := .byte) (by decide) (by decide))))
    have f158 : Ia Z h153 c139 .byte [] := ((fA139.other W146 ne141).other W153 ne141)
    have em159 : Em Z T139.vm h153 ["signature 1", "signature 2", "digest", "name"] := (Em.wrx (a0 := a0) I139 f140 f143 (tw hw 19 rfl) ((Keep.of_wr W146).wr W153 (Or.inl (List.mem_cons_self ..))))
    have hk160 : _ ≤ h153.size := (Nat.le_trans (Nat.le_trans hk139 (Keep.of_wr W146).1) (Keep.of_wr W153).1)
    exact Go.finW X153 hS139 (Nat.le_trans hk160 (Nat.le_of_eq (congrArg Array.size (Eq.symm e153)))) hlk (v := none) (fun _ => rfl) (fun fs hr => X153.returnOut hx Bd.returns (hb hby d6_26) hr) (by rw [e153]; exact ⟨c139, rfl, N153, k155, f156, f154, f157, f158, Em.still em159 X153.warmed.interned_eq (w39 X153.warmed.wide)⟩) (by decide) (by decide)
def Q_rmI1_e0 (Z : State) (a : Addr) (ca : Addr)  (h0 : Heap) (n0 : Nat) (vQ : Option Value) (hQ : Heap) (vmQ : Vm) (LQ : List Loc) : Prop := ∃ b_ : Addr, vQ = none ∧ Fr n0 LQ ∧ Keep h0 hQ [a] ∧ Exa Z hQ a cST ∧ Fld Z hQ a cST "coder" "B" (.int (0 : Int32)) ∧ Fld Z hQ a cST "value" "[B" (.ref b_) ∧ Ia Z hQ b_ .byte [] ∧ Em Z vmQ hQ ["signature 1", "signature 2", "digest", "name"]
def V_rmI1_e0 (Z : State) (a : Addr) (ca : Addr)  (h0 : Heap) (vmV : Vm) : Prop := Em Z vmV h0 ["signature 1", "signature 2", "digest", "name"] ∧ True
set_option maxRecDepth 65536 in
set_option maxHeartbeats 40000000 in
theorem rmI1_e0 (l : Launch) (Z : State) (a0 : Array Value) (hw : ∀ d ∈ tables_1, d.before a0 Z = true) (ws : List Jvm.Cond) (a : Addr) (ca : Addr)  (h0 : Heap) (n0 : Nat) (Z0 : n0 ≤ h0.size) (P0 : Fld Z h0 a cST "coder" "B" (.int (0 : Int32))) (P1 : Fld Z h0 a cST "value" "[B" .null) (P2 : Exa Z h0 a cST) (P3 : Ia Z h0 ca .char []) (P4 : Old Z n0 h0) (g_a : n0 ≤ a) (hh7 : Jvm.Lit.constHeld Z cST 7) (hcw : Jvm.Lit.compactW.before a0 Z = true) :
    MetFree l (⟨cST, "<init>", "([C)V"⟩ : MethodName) (head1 (Jvm.Cond.code (⟨cST, "<init>", "([C)V"⟩ : MethodName) jdk_42_method_3_code 2 none :: ws) ({ frames := 2, cells := 2, slots := 4, locals := 29 } : Room)) (fun aQ UQ => aQ = #[(.ref a), (.ref ca)] ∧ Z.Warmed39 UQ.vm ∧ UQ.heap = h0 ∧ V_rmI1_e0 Z a ca  h0 UQ.vm) (fun _ _ _ _ _ => True) (fun _ UQ oQ UR => ∃ vQ LQ, oQ = .returned vQ ∧ Q_rmI1_e0 Z a ca  h0 n0 vQ UR.heap UR.vm LQ ∧ ReturnedEndW UQ oQ UR LQ ({ frames := 2, cells := 2, slots := 4, locals := 29 } : Room).cells ({ frames := 2, cells := 2, slots := 4, locals := 29 } : Room).slots) := by
  refine MetFree.of_bodySF (plainFor_of_name pn_5) hisR ?_
  intro p e s m args below meth c s₁ Bd hml0 hP hK
  obtain ⟨rfl, hZ0, hh, hV⟩ := hP
  obtain ⟨I0, -⟩ := hV
  have hx := Bd.exec
  have hby := Bd.bytes
  have hlk := Bd.notSynchronized
  have hml : c.maxLocals = 2 := hml0
  have hnm := (name_of_methodNamed Bd.named Bd.method).1
  have e0 : s₁.heap = h0 := by rw [← hh, Bd.state]; rfl
  have N0 := Fr.nil n0
  have hZ : Z.Warmed39 (s.setVm s.vm).vm := hZ0
  have hown : (s.setVm s.vm).vm.findClass cST = some m.cls := findClass_of_methodNamed Bd.named
  have X0 : Stand p l e ({ frames := 2, cells := 2, slots := 4, locals := 29 } : Room) (s.setVm s.vm) m #[(.ref a), (.ref ca)] below meth c s₁ [] 0 0 := Stand.of_body Bd
  have hS0 : s.Since s.vm s.heap.size := (State.WarmedH.refl _).since _
  have hk0 : s.heap.size ≤ h0.size := Nat.le_of_eq (congrArg Array.size hh)
  show Go p e below _ (DoneW s (Q_rmI1_e0 Z a ca  h0 n0) ({ frames := 2, cells := 2, slots := 4, locals := 29 } : Room).cells ({ frames := 2, cells := 2, slots := 4, locals := 29 } : Room).slots)
  refine Go.via (fun tQ kQ => castTop (ef_5 m a ca) kQ) ?_
  show Go p e below (s₁.setTop (mkF m 0 #[.val (.ref a), .val (.ref ca)] [])) _
  refine Go.via (fun _ => XS.aloadN X0.here hx rfl (hb hby d5_0) rfl rfl) ?_
  refine Go.via (fun _ => XS.aloadN X0.here hx rfl (hb hby d5_1) rfl rfl) ?_
  refine Go.via (fun _ => XS.iconst X0.here hx rfl (hb hby d5_2)) ?_
  refine Go.via (fun _ => XS.aloadN X0.here hx rfl (hb hby d5_3) rfl rfl) ?_
  show Go p e below (s₁.setTop (mkF m 4 #[.val (.ref a), .val (.ref ca)] [(.ref ca), (.int (0 : Int32)), (.ref ca), (.ref a)])) _
  refine Go.via (lenI X0 hx hZ e0 P3 (n := (0 : Int32)) rfl (g := (mkF m 4 #[.val (.ref a), .val (.ref ca)] [(.ref ca), (.int (0 : Int32)), (.ref ca), (.ref a)])) rfl rfl (hb hby d5_4)) ?_
  show Go p e below (s₁.setTop (mkF m 5 #[.val (.ref a), .val (.ref ca)] [(.int (0 : Int32)), (.int (0 : Int32)), (.ref ca), (.ref a)])) _
  refine Go.via (fun _ => XS.aconstNull X0.here hx rfl (hb hby d5_5)) ?_
  show Go p e below (s₁.setTop (mkF m 6 #[.val (.ref a), .val (.ref ca)] [.null, (.int (0 : Int32)), (.int (0 : Int32)), (.ref ca), (.ref a)])) _
  obtain ⟨r161, _, ⟨T161, L161, k161, n161⟩, -, X161, h2161, gS161, ⟨Lc161, hQ161, l161, y161, z161⟩, st161⟩ := X0.specialBackS hx (y := (⟨cST, "<init>", "([CIILjava/lang/Void;)V"⟩ : MethodName)) rfl hown (mvT hZ (tw hw 25 rfl)) (mvT hZ (tw hw 26 rfl)) (mvT hZ (tw hw 28 rfl)) (by decide) (backOfV (W := 0) (V := V_rmI5_e0 Z a ca (0 : Int32) (0 : Int32) h0) (rmI5_e0 l Z a0 hw [] a ca (0 : Int32) (0 : Int32)  h0 n0 Z0 P0 P1 P2 P4 g_a rfl hh7 hcw) hZ (tw hw 28 rfl) (tw hw 20 rfl) (by decide) (by decide) (fun vm' hW => ⟨Em.still I0 hW.interned_eq (w39 hW.wide), trivial⟩)) (g := (mkF m 6 #[.val (.ref a), .val (.ref ca)] [.null, (.int (0 : Int32)), (.int (0 : Int32)), (.ref ca), (.ref a)])) rfl (by rw [hml]; rfl) (Steps.refl _) (a := a) (argsL := [(.ref ca), (.int (0 : Int32)), (.int (0 : Int32)), .null]) (rest := []) (lenOf pd__28_5bCIILjava_2flang_2fVoid_3b_29V rfl) rfl (by show 2 * 0 + _ ≤ _; exact Nat.le_of_eq rfl) (hb hby d5_6) (fun _ _ => ⟨rfl, e0, (by decide : 0 + 2 ≤ _), (by decide : 0 + 4 ≤ _)⟩)
  dsimp only [Pt.U, Pt.locs, Pt.cells, Pt.slots] at X161 l161 y161 z161 st161 hQ161 h2161 gS161
  rw [l161, y161, z161] at X161
  clear l161 y161 z161
  obtain ⟨v162, hr161, N161q, K161q, f163, f164, f165, f166, I161⟩ := hQ161
  rw [hr161] at st161
  clear hr161
  have N161 := Fr.app N0 N161q
  refine Go.via (fun _ kQ => st161.trans kQ) ?_
  clear st161
  have e161 : T161.heap = T161.heap := rfl
  have f167 : Exa Z T161.heap a cST := f163
  have f168 : Fld Z T161.heap a cST "coder" "B" (.int (0 : Int32)) := f164
  have f169 : Fld Z T161.heap a cST "value" "[B" (.ref v162) := f165
  have f170 : Ia Z T161.heap v162 .byte [] := f166
  have ne171 : v162 ≠ a := Ia.neE (a0 := a0) f170 f167 (tw hw 19 rfl)
  obtain ⟨X161r, hS161, hZ, hown⟩ := rebS hS0 (Nat.le_trans hk0 (Nat.le_of_eq (congrArg Array.size (Eq.symm e0)))) X161 h2161 gS161 hZ hown
  clear X161 h2161 gS161
  clear X0 e0
  show Go p e below (T161.setTop (mkF m 9 #[.val (.ref a), .val (.ref ca)] [])) _
  have k172 : Keep h0 T161.heap [a] := ((Keep.refl h0 [a]).trans K161q (allS (Or.inl (List.mem_of_getElem? (i := 0) rfl)) all0))
  exact Go.finW X161r hS161 (Nat.le_trans (Nat.le_refl _) (Nat.le_of_eq (congrArg Array.size (Eq.symm e161)))) hlk (v := none) (fun _ => rfl) (fun fs hr => X161r.returnOut hx Bd.returns (hb hby d5_9) hr) (by exact ⟨v162, rfl, N161, k172, f167, f168, f169, f170, Em.still I161 X161r.warmed.interned_eq (w39 X161r.warmed.wide)⟩) (by decide) (by decide)
theorem d20_0 : decode jdk_43_method_13_code 0 = .ok (.aload_n 0, 1) := by decide +kernel
theorem d20_1 : decode jdk_43_method_13_code 1 = .ok (.arraylength, 1) := by decide +kernel
theorem d20_2 : decode jdk_43_method_13_code 2 = .ok (.aload_n 1, 1) := by decide +kernel
theorem d20_3 : decode jdk_43_method_13_code 3 = .ok (.arraylength, 1) := by decide +kernel
theorem d20_4 : decode jdk_43_method_13_code 4 = .ok (.if_icmp .ne 30, 3) := by decide +kernel
theorem d20_7 : decode jdk_43_method_13_code 7 = .ok (.iconst 0, 1) := by decide +kernel
theorem d20_8 : decode jdk_43_method_13_code 8 = .ok (.istore_n 2, 1) := by decide +kernel
theorem d20_9 : decode jdk_43_method_13_code 9 = .ok (.iload_n 2, 1) := by decide +kernel
theorem d20_10 : decode jdk_43_method_13_code 10 = .ok (.aload_n 0, 1) := by decide +kernel
theorem d20_11 : decode jdk_43_method_13_code 11 = .ok (.arraylength, 1) := by decide +kernel
theorem d20_12 : decode jdk_43_method_13_code 12 = .ok (.if_icmp .ge 20, 3) := by decide +kernel
theorem d20_32 : decode jdk_43_method_13_code 32 = .ok (.iconst 1, 1) := by decide +kernel
theorem d20_33 : decode jdk_43_method_13_code 33 = .ok (.ireturn, 1) := by decide +kernel
theorem d20_34 : decode jdk_43_method_13_code 34 = .ok (.iconst 0, 1) := by decide +kernel
theorem d20_35 : decode jdk_43_method_13_code 35 = .ok (.ireturn, 1) := by decide +kernel
theorem d20_15 : decode jdk_43_method_13_code 15 = .ok (.aload_n 0, 1) := by decide +kernel
theorem d20_16 : decode jdk_43_method_13_code 16 = .ok (.iload_n 2, 1) := by decide +kernel
theorem d20_17 : decode jdk_43_method_13_code 17 = .ok (.baload, 1) := by decide +kernel
theorem d20_18 : decode jdk_43_method_13_code 18 = .ok (.aload_n 1, 1) := by decide +kernel
theorem d20_19 : decode jdk_43_method_13_code 19 = .ok (.iload_n 2, 1) := by decide +kernel
theorem d20_20 : decode jdk_43_method_13_code 20 = .ok (.baload, 1) := by decide +kernel
theorem d20_21 : decode jdk_43_method_13_code 21 = .ok (.if_icmp .eq 5, 3) := by decide +kernel
theorem d20_26 : decode jdk_43_method_13_code 26 = .ok (.iinc 2 1, 3) := by decide +kernel
theorem d20_29 : decode jdk_43_method_13_code 29 = .ok (.goto (-20), 3) := by decide +kernel
theorem d20_24 : decode jdk_43_method_13_code 24 = .ok (.iconst 0, 1) := by decide +kernel
theorem d20_25 : decode jdk_43_method_13_code 25 = .ok (.ireturn, 1) := by decide +kernel
theorem pn_20 : plainName cL1 = true := by first | (simp [plainName, overriddenIn]; done) | decide +kernel
theorem ef_20 (m : MethodId) (x0 : Addr) (x1 : Addr) : entryFrame m #[(.ref x0), (.ref x1)] 3 = mkF m 0 #[.val (.ref x0), .val (.ref x1), .unset] [] := by first | (simp [entryFrame, mkF, argsToLocals, Value.category]; done) | rfl
def Q_rmLe (Z : State) (ba : Addr) (bb : Addr) (xs : List Int32) (ys : List Int32) (h0 : Heap) (n0 : Nat) (vQ : Option Value) (hQ : Heap) (LQ : List Loc) : Prop := vQ = some (.int (seF xs ys)) ∧ LQ = [] ∧ hQ = h0
set_option maxRecDepth 65536 in
set_option maxHeartbeats 40000000 in
theorem rmLe (l : Launch) (Z : State) (a0 : Array Value) (hw : ∀ d ∈ tables_1, d.before a0 Z = true) (ws : List Jvm.Cond) (ba : Addr) (bb : Addr) (xs : List Int32) (ys : List Int32) (h0 : Heap) (n0 : Nat) (Z0 : n0 ≤ h0.size) (P0 : Ia Z h0 ba .byte xs) (P1 : Ia Z h0 bb .byte ys) (hX : Sh xs) (hY : Sh ys) :
    MetFree l (⟨cL1, "equals", "([B[B)Z"⟩ : MethodName) (head1 (Jvm.Cond.code (⟨cL1, "equals", "([B[B)Z"⟩ : MethodName) jdk_43_method_13_code 3 (some .boolean) :: ws) ({ frames := 0, cells := 0, slots := 0, locals := 0 } : Room)) (fun aQ UQ => aQ = #[(.ref ba), (.ref bb)] ∧ Z.Warmed39 UQ.vm ∧ UQ.heap = h0) (fun _ _ _ _ _ => True) (fun _ UQ oQ UR => ∃ vQ LQ, oQ = .returned vQ ∧ Q_rmLe Z ba bb xs ys h0 n0 vQ UR.heap LQ ∧ FrameEnd UQ oQ UR LQ ({ frames := 0, cells := 0, slots := 0, locals := 0 } : Room).cells ({ frames := 0, cells := 0, slots := 0, locals := 0 } : Room).slots) := by
  refine MetFree.of_bodySF (plainFor_of_name pn_20) hisR ?_
  intro p e s m args below meth c s₁ Bd hml0 hP hK
  obtain ⟨rfl, hZ, hh⟩ := hP
  have hx := Bd.exec
  have hby := Bd.bytes
  have hlk := Bd.notSynchronized
  have hml : c.maxLocals = 3 := hml0
  have hown : s.vm.findClass cL1 = some m.cls := findClass_of_methodNamed Bd.named
  have hnm := (name_of_methodNamed Bd.named Bd.method).1
  have X0 : Stand p l e ({ frames := 0, cells := 0, slots := 0, locals := 0 } : Room) s m #[(.ref ba), (.ref bb)] below meth c s₁ [] 0 0 := Stand.of_body Bd
  have e0 : s₁.heap = h0 := by rw [← hh, Bd.state]; rfl
  have N0 := Fr.nil n0
  show Go p e below _ (Done s (Q_rmLe Z ba bb xs ys h0 n0) ({ frames := 0, cells := 0, slots := 0, locals := 0 } : Room).cells ({ frames := 0, cells := 0, slots := 0, locals := 0 } : Room).slots)
  refine Go.via (fun tQ kQ => castTop (ef_20 m ba bb) kQ) ?_
  show Go p e below (s₁.setTop (mkF m 0 #[.val (.ref ba), .val (.ref bb), .unset] [])) _
  rcases hX with rfl | ⟨x0, rfl⟩ | ⟨x0, x1, rfl⟩ <;> rcases hY with rfl | ⟨y0, rfl⟩ | ⟨y0, y1, rfl⟩
  · show Go p e below (s₁.setTop (mkF m 0 #[.val (.ref ba), .val (.ref bb), .unset] [])) _
    refine Go.via (fun _ => XS.aloadN X0.here hx rfl (hb hby d20_0) rfl rfl) ?_
    refine Go.via (lenI X0 hx hZ e0 P0 (n := (0 : Int32)) rfl (g := (mkF m 1 #[.val (.ref ba), .val (.ref bb), .unset] [(.ref ba)])) rfl rfl (hb hby d20_1)) ?_
    show Go p e below (s₁.setTop (mkF m 2 #[.val (.ref ba), .val (.ref bb), .unset] [(.int (0 : Int32))])) _
    refine Go.via (fun _ => XS.aloadN X0.here hx rfl (hb hby d20_2) rfl rfl) ?_
    refine Go.via (lenI X0 hx hZ e0 P1 (n := (0 : Int32)) rfl (g := (mkF m 3 #[.val (.ref ba), .val (.ref bb), .unset] [(.ref bb), (.int (0 : Int32))])) rfl rfl (hb hby d20_3)) ?_
    show Go p e below (s₁.setTop (mkF m 4 #[.val (.ref ba), .val (.ref bb), .unset] [(.int (0 : Int32)), (.int (0 : Int32))])) _
    refine Go.via (fun _ => XS.icmpNo X0.here hx rfl (hb hby d20_4) rfl (teq ((by decide) : (0 : Int32) = (0 : Int32))).2) ?_
    show Go p e below (s₁.setTop (mkF m 7 #[.val (.ref ba), .val (.ref bb), .unset] [])) _
    refine Go.via (fun _ => XS.iconst X0.here hx rfl (hb hby d20_7)) ?_
    refine Go.via (fun _ => XS.istoreN X0.here hx rfl (hb hby d20_8) rfl (l' := #[.val (.ref ba), .val (.ref bb), .val (.int (0 : Int32))]) rfl) ?_
    show Go p e below (s₁.setTop (mkF m 9 #[.val (.ref ba), .val (.ref bb), .val (.int (0 : Int32))] [])) _
    refine Go.via (fun _ => XS.iloadN X0.here hx rfl (hb hby d20_9) rfl) ?_
    refine Go.via (fun _ => XS.aloadN X0.here hx rfl (hb hby d20_10) rfl rfl) ?_
    refine Go.via (lenI X0 hx hZ e0 P0 (n := (0 : Int32)) rfl (g := (mkF m 11 #[.val (.ref ba), .val (.ref bb), .val (.int (0 : Int32))] [(.ref ba), (.int (0 : Int32))])) rfl rfl (hb hby d20_11)) ?_
    show Go p e below (s₁.setTop (mkF m 12 #[.val (.ref ba), .val (.ref bb), .val (.int (0 : Int32))] [(.int (0 : Int32)), (.int (0 : Int32))])) _
    refine Go.via (fun _ => XS.icmpYes X0.here hx rfl (pc0 := 12) (pc' := 32) rfl (hb hby d20_12) rfl (flt ((by decide) : ¬ ((0 : Int32) < (0 : Int32)))).2.1 (by decide) (by decide)) ?_
    show Go p e below (s₁.setTop (mkF m 32 #[.val (.ref ba), .val (.ref bb), .val (.int (0 : Int32))] [])) _
    refine Go.via (fun _ => XS.iconst X0.here hx rfl (hb hby d20_32)) ?_
    exact Go.fin X0 hlk (v := some (.int (1 : Int32))) (fun h => by rw [Bd.returns] at h; cases h) (fun fs hr => retN X0 hx (t := .boolean) Bd.returns (by simp) (hb hby d20_33) hr) (by rw [e0]; exact ⟨(by simp [seF]), rfl, rfl⟩) (by decide) (by decide)
  · show Go p e below (s₁.setTop (mkF m 0 #[.val (.ref ba), .val (.ref bb), .unset] [])) _
    refine Go.via (fun _ => XS.aloadN X0.here hx rfl (hb hby d20_0) rfl rfl) ?_
    refine Go.via (lenI X0 hx hZ e0 P0 (n := (0 : Int32)) rfl (g := (mkF m 1 #[.val (.ref ba), .val (.ref bb), .unset] [(.ref ba)])) rfl rfl (hb hby d20_1)) ?_
    show Go p e below (s₁.setTop (mkF m 2 #[.val (.ref ba), .val (.ref bb), .unset] [(.int (0 : Int32))])) _
    refine Go.via (fun _ => XS.aloadN X0.here hx rfl (hb hby d20_2) rfl rfl) ?_
    refine Go.via (lenI X0 hx hZ e0 P1 (n := (1 : Int32)) rfl (g := (mkF m 3 #[.val (.ref ba), .val (.ref bb), .unset] [(.ref bb), (.int (0 : Int32))])) rfl rfl (hb hby d20_3)) ?_
    show Go p e below (s₁.setTop (mkF m 4 #[.val (.ref ba), .val (.ref bb), .unset] [(.int (1 : Int32)), (.int (0 : Int32))])) _
    refine Go.via (fun _ => XS.icmpYes X0.here hx rfl (pc0 := 4) (pc' := 34) rfl (hb hby d20_4) rfl (feq ((by decide) : ¬ ((0 : Int32) = (1 : Int32)))).2 (by decide) (by decide)) ?_
    show Go p e below (s₁.setTop (mkF m 34 #[.val (.ref ba), .val (.ref bb), .unset] [])) _
    refine Go.via (fun _ => XS.iconst X0.here hx rfl (hb hby d20_34)) ?_
    exact Go.fin X0 hlk (v := some (.int (0 : Int32))) (fun h => by rw [Bd.returns] at h; cases h) (fun fs hr => retN X0 hx (t := .boolean) Bd.returns (by simp) (hb hby d20_35) hr) (by rw [e0]; exact ⟨(by simp [seF]), rfl, rfl⟩) (by decide) (by decide)
  · show Go p e below (s₁.setTop (mkF m 0 #[.val (.ref ba), .val (.ref bb), .unset] [])) _
    refine Go.via (fun _ => XS.aloadN X0.here hx rfl (hb hby d20_0) rfl rfl) ?_
    refine Go.via (lenI X0 hx hZ e0 P0 (n := (0 : Int32)) rfl (g := (mkF m 1 #[.val (.ref ba), .val (.ref bb), .unset] [(.ref ba)])) rfl rfl (hb hby d20_1)) ?_
    show Go p e below (s₁.setTop (mkF m 2 #[.val (.ref ba), .val (.ref bb), .unset] [(.int (0 : Int32))])) _
    refine Go.via (fun _ => XS.aloadN X0.here hx rfl (hb hby d20_2) rfl rfl) ?_
    refine Go.via (lenI X0 hx hZ e0 P1 (n := (2 : Int32)) rfl (g := (mkF m 3 #[.val (.ref ba), .val (.ref bb), .unset] [(.ref bb), (.int (0 : Int32))])) rfl rfl (hb hby d20_3)) ?_
    show Go p e below (s₁.setTop (mkF m 4 #[.val (.ref ba), .val (.ref bb), .unset] [(.int (2 : Int32)), (.int (0 : Int32))])) _
    refine Go.via (fun _ => XS.icmpYes X0.here hx rfl (pc0 := 4) (pc' := 34) rfl (hb hby d20_4) rfl (feq ((by decide) : ¬ ((0 : Int32) = (2 : Int32)))).2 (by decide) (by decide)) ?_
    show Go p e below (s₁.setTop (mkF m 34 #[.val (.ref ba), .val (.ref bb), .unset] [])) _
    refine Go.via (fun _ => XS.iconst X0.here hx rfl (hb hby d20_34)) ?_
    exact Go.fin X0 hlk (v := some (.int (0 : Int32))) (fun h => by rw [Bd.returns] at h; cases h) (fun fs hr => retN X0 hx (t := .boolean) Bd.returns (by simp) (hb hby d20_35) hr) (by rw [e0]; exact ⟨(by simp [seF]), rfl, rfl⟩) (by decide) (by decide)
  · show Go p e below (s₁.setTop (mkF m 0 #[.val (.ref ba), .val (.ref bb), .unset] [])) _
    refine Go.via (fun _ => XS.aloadN X0.here hx rfl (hb hby d20_0) rfl rfl) ?_
    refine Go.via (lenI X0 hx hZ e0 P0 (n := (1 : Int32)) rfl (g := (mkF m 1 #[.val (.ref ba), .val (.ref bb), .unset] [(.ref ba)])) rfl rfl (hb hby d20_1)) ?_
    show Go p e below (s₁.setTop (mkF m 2 #[.val (.ref ba), .val (.ref bb), .unset] [(.int (1 : Int32))])) _
    refine Go.via (fun _ => XS.aloadN X0.here hx rfl (hb hby d20_2) rfl rfl) ?_
    refine Go.via (lenI X0 hx hZ e0 P1 (n := (0 : Int32)) rfl (g := (mkF m 3 #[.val (.ref ba), .val (.ref bb), .unset] [(.ref bb), (.int (1 : Int32))])) rfl rfl (hb hby d20_3)) ?_
    show Go p e below (s₁.setTop (mkF m 4 #[.val (.ref ba), .val (.ref bb), .unset] [(.int (0 : Int32)), (.int (1 : Int32))])) _
    refine Go.via (fun _ => XS.icmpYes X0.here hx rfl (pc0 := 4) (pc' := 34) rfl (hb hby d20_4) rfl (feq ((by decide) : ¬ ((1 : Int32) = (0 : Int32)))).2 (by decide) (by decide)) ?_
    show Go p e below (s₁.setTop (mkF m 34 #[.val (.ref ba), .val (.ref bb), .unset] [])) _
    refine Go.via (fun _ => XS.iconst X0.here hx rfl (hb hby d20_34)) ?_
    exact Go.fin X0 hlk (v := some (.int (0 : Int32))) (fun h => by rw [Bd.returns] at h; cases h) (fun fs hr => retN X0 hx (t := .boolean) Bd.returns (by simp) (hb hby d20_35) hr) (by rw [e0]; exact ⟨(by simp [seF]), rfl, rfl⟩) (by decide) (by decide)
  · show Go p e below (s₁.setTop (mkF m 0 #[.val (.ref ba), .val (.ref bb), .unset] [])) _
    refine Go.via (fun _ => XS.aloadN X0.here hx rfl (hb hby d20_0) rfl rfl) ?_
    refine Go.via (lenI X0 hx hZ e0 P0 (n := (1 : Int32)) rfl (g := (mkF m 1 #[.val (.ref ba), .val (.ref bb), .unset] [(.ref ba)])) rfl rfl (hb hby d20_1)) ?_
    show Go p e below (s₁.setTop (mkF m 2 #[.val (.ref ba), .val (.ref bb), .unset] [(.int (1 : Int32))])) _
    refine Go.via (fun _ => XS.aloadN X0.here hx rfl (hb hby d20_2) rfl rfl) ?_
    refine Go.via (lenI X0 hx hZ e0 P1 (n := (1 : Int32)) rfl (g := (mkF m 3 #[.val (.ref ba), .val (.ref bb), .unset] [(.ref bb), (.int (1 : Int32))])) rfl rfl (hb hby d20_3)) ?_
    show Go p e below (s₁.setTop (mkF m 4 #[.val (.ref ba), .val (.ref bb), .unset] [(.int (1 : Int32)), (.int (1 : Int32))])) _
    refine Go.via (fun _ => XS.icmpNo X0.here hx rfl (hb hby d20_4) rfl (teq ((by decide) : (1 : Int32) = (1 : Int32))).2) ?_
    show Go p e below (s₁.setTop (mkF m 7 #[.val (.ref ba), .val (.ref bb), .unset] [])) _
    refine Go.via (fun _ => XS.iconst X0.here hx rfl (hb hby d20_7)) ?_
    refine Go.via (fun _ => XS.istoreN X0.here hx rfl (hb hby d20_8) rfl (l' := #[.val (.ref ba), .val (.ref bb), .val (.int (0 : Int32))]) rfl) ?_
    show Go p e below (s₁.setTop (mkF m 9 #[.val (.ref ba), .val (.ref bb), .val (.int (0 : Int32))] [])) _
    refine Go.via (fun _ => XS.iloadN X0.here hx rfl (hb hby d20_9) rfl) ?_
    refine Go.via (fun _ => XS.aloadN X0.here hx rfl (hb hby d20_10) rfl rfl) ?_
    refine Go.via (lenI X0 hx hZ e0 P0 (n := (1 : Int32)) rfl (g := (mkF m 11 #[.val (.ref ba), .val (.ref bb), .val (.int (0 : Int32))] [(.ref ba), (.int (0 : Int32))])) rfl rfl (hb hby d20_11)) ?_
    show Go p e below (s₁.setTop (mkF m 12 #[.val (.ref ba), .val (.ref bb), .val (.int (0 : Int32))] [(.int (1 : Int32)), (.int (0 : Int32))])) _
    refine Go.via (fun _ => XS.icmpNo X0.here hx rfl (hb hby d20_12) rfl (tlt ((by decide) : (0 : Int32) < (1 : Int32))).2.1) ?_
    show Go p e below (s₁.setTop (mkF m 15 #[.val (.ref ba), .val (.ref bb), .val (.int (0 : Int32))] [])) _
    refine Go.via (fun _ => XS.aloadN X0.here hx rfl (hb hby d20_15) rfl rfl) ?_
    refine Go.via (fun _ => XS.iloadN X0.here hx rfl (hb hby d20_16) rfl) ?_
    refine Go.via (ldB X0 hx hZ e0 P0 (v := x0) (by decide) rfl (g := (mkF m 17 #[.val (.ref ba), .val (.ref bb), .val (.int (0 : Int32))] [(.int (0 : Int32)), (.ref ba)])) rfl rfl (hb hby d20_17)) ?_
    show Go p e below (s₁.setTop (mkF m 18 #[.val (.ref ba), .val (.ref bb), .val (.int (0 : Int32))] [(.int x0)])) _
    refine Go.via (fun _ => XS.aloadN X0.here hx rfl (hb hby d20_18) rfl rfl) ?_
    refine Go.via (fun _ => XS.iloadN X0.here hx rfl (hb hby d20_19) rfl) ?_
    refine Go.via (ldB X0 hx hZ e0 P1 (v := y0) (by decide) rfl (g := (mkF m 20 #[.val (.ref ba), .val (.ref bb), .val (.int (0 : Int32))] [(.int (0 : Int32)), (.ref bb), (.int x0)])) rfl rfl (hb hby d20_20)) ?_
    show Go p e below (s₁.setTop (mkF m 21 #[.val (.ref ba), .val (.ref bb), .val (.int (0 : Int32))] [(.int y0), (.int x0)])) _
    by_cases hc173 : x0 = y0
    · refine Go.via (fun _ => XS.icmpYes X0.here hx rfl (pc0 := 21) (pc' := 26) rfl (hb hby d20_21) rfl (teq (hc173 : x0 = y0)).1 (by decide) (by decide)) ?_
      show Go p e below (s₁.setTop (mkF m 26 #[.val (.ref ba), .val (.ref bb), .val (.int (0 : Int32))] [])) _
      refine Go.via (fun _ => XS.iinc X0.here hx rfl (hb hby d20_26) rfl (l' := #[.val (.ref ba), .val (.ref bb), .val (.int (1 : Int32))]) rfl) ?_
      show Go p e below (s₁.setTop (mkF m 29 #[.val (.ref ba), .val (.ref bb), .val (.int (1 : Int32))] [])) _
      refine Go.via (fun _ => XS.goto X0.here hx rfl (pc0 := 29) (pc' := 9) rfl (hb hby d20_29) (by decide) (by decide)) ?_
      refine Go.via (fun _ => XS.iloadN X0.here hx rfl (hb hby d20_9) rfl) ?_
      refine Go.via (fun _ => XS.aloadN X0.here hx rfl (hb hby d20_10) rfl rfl) ?_
      refine Go.via (lenI X0 hx hZ e0 P0 (n := (1 : Int32)) rfl (g := (mkF m 11 #[.val (.ref ba), .val (.ref bb), .val (.int (1 : Int32))] [(.ref ba), (.int (1 : Int32))])) rfl rfl (hb hby d20_11)) ?_
      show Go p e below (s₁.setTop (mkF m 12 #[.val (.ref ba), .val (.ref bb), .val (.int (1 : Int32))] [(.int (1 : Int32)), (.int (1 : Int32))])) _
      refine Go.via (fun _ => XS.icmpYes X0.here hx rfl (pc0 := 12) (pc' := 32) rfl (hb hby d20_12) rfl (flt ((by decide) : ¬ ((1 : Int32) < (1 : Int32)))).2.1 (by decide) (by decide)) ?_
      show Go p e below (s₁.setTop (mkF m 32 #[.val (.ref ba), .val (.ref bb), .val (.int (1 : Int32))] [])) _
      refine Go.via (fun _ => XS.iconst X0.here hx rfl (hb hby d20_32)) ?_
      exact Go.fin X0 hlk (v := some (.int (1 : Int32))) (fun h => by rw [Bd.returns] at h; cases h) (fun fs hr => retN X0 hx (t := .boolean) Bd.returns (by simp) (hb hby d20_33) hr) (by rw [e0]; exact ⟨(by simp [seF, hc173]), rfl, rfl⟩) (by decide) (by decide)
    · refine Go.via (fun _ => XS.icmpNo X0.here hx rfl (hb hby d20_21) rfl (feq (hc173 : ¬ (x0 = y0))).1) ?_
      show Go p e below (s₁.setTop (mkF m 24 #[.val (.ref ba), .val (.ref bb), .val (.int (0 : Int32))] [])) _
      refine Go.via (fun _ => XS.iconst X0.here hx rfl (hb hby d20_24)) ?_
      exact Go.fin X0 hlk (v := some (.int (0 : Int32))) (fun h => by rw [Bd.returns] at h; cases h) (fun fs hr => retN X0 hx (t := .boolean) Bd.returns (by simp) (hb hby d20_25) hr) (by rw [e0]; exact ⟨(by simp [seF, hc173]), rfl, rfl⟩) (by decide) (by decide)
  · show Go p e below (s₁.setTop (mkF m 0 #[.val (.ref ba), .val (.ref bb), .unset] [])) _
    refine Go.via (fun _ => XS.aloadN X0.here hx rfl (hb hby d20_0) rfl rfl) ?_
    refine Go.via (lenI X0 hx hZ e0 P0 (n := (1 : Int32)) rfl (g := (mkF m 1 #[.val (.ref ba), .val (.ref bb), .unset] [(.ref ba)])) rfl rfl (hb hby d20_1)) ?_
    show Go p e below (s₁.setTop (mkF m 2 #[.val (.ref ba), .val (.ref bb), .unset] [(.int (1 : Int32))])) _
    refine Go.via (fun _ => XS.aloadN X0.here hx rfl (hb hby d20_2) rfl rfl) ?_
    refine Go.via (lenI X0 hx hZ e0 P1 (n := (2 : Int32)) rfl (g := (mkF m 3 #[.val (.ref ba), .val (.ref bb), .unset] [(.ref bb), (.int (1 : Int32))])) rfl rfl (hb hby d20_3)) ?_
    show Go p e below (s₁.setTop (mkF m 4 #[.val (.ref ba), .val (.ref bb), .unset] [(.int (2 : Int32)), (.int (1 : Int32))])) _
    refine Go.via (fun _ => XS.icmpYes X0.here hx rfl (pc0 := 4) (pc' := 34) rfl (hb hby d20_4) rfl (feq ((by decide) : ¬ ((1 : Int32) = (2 : Int32)))).2 (by decide) (by decide)) ?_
    show Go p e below (s₁.setTop (mkF m 34 #[.val (.ref ba), .val (.ref bb), .unset] [])) _
    refine Go.via (fun _ => XS.iconst X0.here hx rfl (hb hby d20_34)) ?_
    exact Go.fin X0 hlk (v := some (.int (0 : Int32))) (fun h => by rw [Bd.returns] at h; cases h) (fun fs hr => retN X0 hx (t := .boolean) Bd.returns (by simp) (hb hby d20_35) hr) (by rw [e0]; exact ⟨(by simp [seF]), rfl, rfl⟩) (by decide) (by decide)
  · show Go p e below (s₁.setTop (mkF m 0 #[.val (.ref ba), .val (.ref bb), .unset] [])) _
    refine Go.via (fun _ => XS.aloadN X0.here hx rfl (hb hby d20_0) rfl rfl) ?_
    refine Go.via (lenI X0 hx hZ e0 P0 (n := (2 : Int32)) rfl (g := (mkF m 1 #[.val (.ref ba), .val (.ref bb), .unset] [(.ref ba)])) rfl rfl (hb hby d20_1)) ?_
    show Go p e below (s₁.setTop (mkF m 2 #[.val (.ref ba), .val (.ref bb), .unset] [(.int (2 : Int32))])) _
    refine Go.via (fun _ => XS.aloadN X0.here hx rfl (hb hby d20_2) rfl rfl) ?_
    refine Go.via (lenI X0 hx hZ e0 P1 (n := (0 : Int32)) rfl (g := (mkF m 3 #[.val (.ref ba), .val (.ref bb), .unset] [(.ref bb), (.int (2 : Int32))])) rfl rfl (hb hby d20_3)) ?_
    show Go p e below (s₁.setTop (mkF m 4 #[.val (.ref ba), .val (.ref bb), .unset] [(.int (0 : Int32)), (.int (2 : Int32))])) _
    refine Go.via (fun _ => XS.icmpYes X0.here hx rfl (pc0 := 4) (pc' := 34) rfl (hb hby d20_4) rfl (feq ((by decide) : ¬ ((2 : Int32) = (0 : Int32)))).2 (by decide) (by decide)) ?_
    show Go p e below (s₁.setTop (mkF m 34 #[.val (.ref ba), .val (.ref bb), .unset] [])) _
    refine Go.via (fun _ => XS.iconst X0.here hx rfl (hb hby d20_34)) ?_
    exact Go.fin X0 hlk (v := some (.int (0 : Int32))) (fun h => by rw [Bd.returns] at h; cases h) (fun fs hr => retN X0 hx (t := .boolean) Bd.returns (by simp) (hb hby d20_35) hr) (by rw [e0]; exact ⟨(by simp [seF]), rfl, rfl⟩) (by decide) (by decide)
  · show Go p e below (s₁.setTop (mkF m 0 #[.val (.ref ba), .val (.ref bb), .unset] [])) _
    refine Go.via (fun _ => XS.aloadN X0.here hx rfl (hb hby d20_0) rfl rfl) ?_
    refine Go.via (lenI X0 hx hZ e0 P0 (n := (2 : Int32)) rfl (g := (mkF m 1 #[.val (.ref ba), .val (.ref bb), .unset] [(.ref ba)])) rfl rfl (hb hby d20_1)) ?_
    show Go p e below (s₁.setTop (mkF m 2 #[.val (.ref ba), .val (.ref bb), .unset] [(.int (2 : Int32))])) _
    refine Go.via (fun _ => XS.aloadN X0.here hx rfl (hb hby d20_2) rfl rfl) ?_
    refine Go.via (lenI X0 hx hZ e0 P1 (n := (1 : Int32)) rfl (g := (mkF m 3 #[.val (.ref ba), .val (.ref bb), .unset] [(.ref bb), (.int (2 : Int32))])) rfl rfl (hb hby d20_3)) ?_
    show Go p e below (s₁.setTop (mkF m 4 #[.val (.ref ba), .val (.ref bb), .unset] [(.int (1 : Int32)), (.int (2 : Int32))])) _
    refine Go.via (fun _ => XS.icmpYes X0.here hx rfl (pc0 := 4) (pc' := 34) rfl (hb hby d20_4) rfl (feq ((by decide) : ¬ ((2 : Int32) = (1 : Int32)))).2 (by decide) (by decide)) ?_
    show Go p e below (s₁.setTop (mkF m 34 #[.val (.ref ba), .val (.ref bb), .unset] [])) _
    refine Go.via (fun _ => XS.iconst X0.here hx rfl (hb hby d20_34)) ?_
    exact Go.fin X0 hlk (v := some (.int (0 : Int32))) (fun h => by rw [Bd.returns] at h; cases h) (fun fs hr => retN X0 hx (t := .boolean) Bd.returns (by simp) (hb hby d20_35) hr) (by rw [e0]; exact ⟨(by simp [seF]), rfl, rfl⟩) (by decide) (by decide)
  · show Go p e below (s₁.setTop (mkF m 0 #[.val (.ref ba), .val (.ref bb), .unset] [])) _
    refine Go.via (fun _ => XS.aloadN X0.here hx rfl (hb hby d20_0) rfl rfl) ?_
    refine Go.via (lenI X0 hx hZ e0 P0 (n := (2 : Int32)) rfl (g := (mkF m 1 #[.val (.ref ba), .val (.ref bb), .unset] [(.ref ba)])) rfl rfl (hb hby d20_1)) ?_
    show Go p e below (s₁.setTop (mkF m 2 #[.val (.ref ba), .val (.ref bb), .unset] [(.int (2 : Int32))])) _
    refine Go.via (fun _ => XS.aloadN X0.here hx rfl (hb hby d20_2) rfl rfl) ?_
    refine Go.via (lenI X0 hx hZ e0 P1 (n := (2 : Int32)) rfl (g := (mkF m 3 #[.val (.ref ba), .val (.ref bb), .unset] [(.ref bb), (.int (2 : Int32))])) rfl rfl (hb hby d20_3)) ?_
    show Go p e below (s₁.setTop (mkF m 4 #[.val (.ref ba), .val (.ref bb), .unset] [(.int (2 : Int32)), (.int (2 : Int32))])) _
    refine Go.via (fun _ => XS.icmpNo X0.here hx rfl (hb hby d20_4) rfl (teq ((by decide) : (2 : Int32) = (2 : Int32))).2) ?_
    show Go p e below (s₁.setTop (mkF m 7 #[.val (.ref ba), .val (.ref bb), .unset] [])) _
    refine Go.via (fun _ => XS.iconst X0.here hx rfl (hb hby d20_7)) ?_
    refine Go.via (fun _ => XS.istoreN X0.here hx rfl (hb hby d20_8) rfl (l' := #[.val (.ref ba), .val (.ref bb), .val (.int (0 : Int32))]) rfl) ?_
    show Go p e below (s₁.setTop (mkF m 9 #[.val (.ref ba), .val (.ref bb), .val (.int (0 : Int32))] [])) _
    refine Go.via (fun _ => XS.iloadN X0.here hx rfl (hb hby d20_9) rfl) ?_
    refine Go.via (fun _ => XS.aloadN X0.here hx rfl (hb hby d20_10) rfl rfl) ?_
    refine Go.via (lenI X0 hx hZ e0 P0 (n := (2 : Int32)) rfl (g := (mkF m 11 #[.val (.ref ba), .val (.ref bb), .val (.int (0 : Int32))] [(.ref ba), (.int (0 : Int32))])) rfl rfl (hb hby d20_11)) ?_
    show Go p e below (s₁.setTop (mkF m 12 #[.val (.ref ba), .val (.ref bb), .val (.int (0 : Int32))] [(.int (2 : Int32)), (.int (0 : Int32))])) _
    refine Go.via (fun _ => XS.icmpNo X0.here hx rfl (hb hby d20_12) rfl (tlt ((by decide) : (0 : Int32) < (2 : Int32))).2.1) ?_
    show Go p e below (s₁.setTop (mkF m 15 #[.val (.ref ba), .val (.ref bb), .val (.int (0 : Int32))] [])) _
    refine Go.via (fun _ => XS.aloadN X0.here hx rfl (hb hby d20_15) rfl rfl) ?_
    refine Go.via (fun _ => XS.iloadN X0.here hx rfl (hb hby d20_16) rfl) ?_
    refine Go.via (ldB X0 hx hZ e0 P0 (v := x0) (by decide) rfl (g := (mkF m 17 #[.val (.ref ba), .val (.ref bb), .val (.int (0 : Int32))] [(.int (0 : Int32)), (.ref ba)])) rfl rfl (hb hby d20_17)) ?_
    show Go p e below (s₁.setTop (mkF m 18 #[.val (.ref ba), .val (.ref bb), .val (.int (0 : Int32))] [(.int x0)])) _
    refine Go.via (fun _ => XS.aloadN X0.here hx rfl (hb hby d20_18) rfl rfl) ?_
    refine Go.via (fun _ => XS.iloadN X0.here hx rfl (hb hby d20_19) rfl) ?_
    refine Go.via (ldB X0 hx hZ e0 P1 (v := y0) (by decide) rfl (g := (mkF m 20 #[.val (.ref ba), .val (.ref bb), .val (.int (0 : Int32))] [(.int (0 : Int32)), (.ref bb), (.int x0)])) rfl rfl (hb hby d20_20)) ?_
    show Go p e below (s₁.setTop (mkF m 21 #[.val (.ref ba), .val (.ref bb), .val (.int (0 : Int32))] [(.int y0), (.int x0)])) _
    by_cases hc174 : x0 = y0
    · refine Go.via (fun _ => XS.icmpYes X0.here hx rfl (pc0 := 21) (pc' := 26) rfl (hb hby d20_21) rfl (teq (hc174 : x0 = y0)).1 (by decide) (by decide)) ?_
      show Go p e below (s₁.setTop (mkF m 26 #[.val (.ref ba), .val (.ref bb), .val (.int (0 : Int32))] [])) _
      refine Go.via (fun _ => XS.iinc X0.here hx rfl (hb hby d20_26) rfl (l' := #[.val (.ref ba), .val (.ref bb), .val (.int (1 : Int32))]) rfl) ?_
      show Go p e below (s₁.setTop (mkF m 29 #[.val (.ref ba), .val (.ref bb), .val (.int (1 : Int32))] [])) _
      refine Go.via (fun _ => XS.goto X0.here hx rfl (pc0 := 29) (pc' := 9) rfl (hb hby d20_29) (by decide) (by decide)) ?_
      refine Go.via (fun _ => XS.iloadN X0.here hx rfl (hb hby d20_9) rfl) ?_
      refine Go.via (fun _ => XS.aloadN X0.here hx rfl (hb hby d20_10) rfl rfl) ?_
      refine Go.via (lenI X0 hx hZ e0 P0 (n := (2 : Int32)) rfl (g := (mkF m 11 #[.val (.ref ba), .val (.ref bb), .val (.int (1 : Int32))] [(.ref ba), (.int (1 : Int32))])) rfl rfl (hb hby d20_11)) ?_
      show Go p e below (s₁.setTop (mkF m 12 #[.val (.ref ba), .val (.ref bb), .val (.int (1 : Int32))] [(.int (2 : Int32)), (.int (1 : Int32))])) _
      refine Go.via (fun _ => XS.icmpNo X0.here hx rfl (hb hby d20_12) rfl (tlt ((by decide) : (1 : Int32) < (2 : Int32))).2.1) ?_
      show Go p e below (s₁.setTop (mkF m 15 #[.val (.ref ba), .val (.ref bb), .val (.int (1 : Int32))] [])) _
      refine Go.via (fun _ => XS.aloadN X0.here hx rfl (hb hby d20_15) rfl rfl) ?_
      refine Go.via (fun _ => XS.iloadN X0.here hx rfl (hb hby d20_16) rfl) ?_
      refine Go.via (ldB X0 hx hZ e0 P0 (v := x1) (by decide) rfl (g := (mkF m 17 #[.val (.ref ba), .val (.ref bb), .val (.int (1 : Int32))] [(.int (1 : Int32)), (.ref ba)])) rfl rfl (hb hby d20_17)) ?_
      show Go p e below (s₁.setTop (mkF m 18 #[.val (.ref ba), .val (.ref bb), .val (.int (1 : Int32))] [(.int x1)])) _
      refine Go.via (fun _ => XS.aloadN X0.here hx rfl (hb hby d20_18) rfl rfl) ?_
      refine Go.via (fun _ => XS.iloadN X0.here hx rfl (hb hby d20_19) rfl) ?_
      refine Go.via (ldB X0 hx hZ e0 P1 (v := y1) (by decide) rfl (g := (mkF m 20 #[.val (.ref ba), .val (.ref bb), .val (.int (1 : Int32))] [(.int (1 : Int32)), (.ref bb), (.int x1)])) rfl rfl (hb hby d20_20)) ?_
      show Go p e below (s₁.setTop (mkF m 21 #[.val (.ref ba), .val (.ref bb), .val (.int (1 : Int32))] [(.int y1), (.int x1)])) _
      by_cases hc175 : x1 = y1
      · refine Go.via (fun _ => XS.icmpYes X0.here hx rfl (pc0 := 21) (pc' := 26) rfl (hb hby d20_21) rfl (teq (hc175 : x1 = y1)).1 (by decide) (by decide)) ?_
        show Go p e below (s₁.setTop (mkF m 26 #[.val (.ref ba), .val (.ref bb), .val (.int (1 : Int32))] [])) _
        refine Go.via (fun _ => XS.iinc X0.here hx rfl (hb hby d20_26) rfl (l' := #[.val (.ref ba), .val (.ref bb), .val (.int (2 : Int32))]) rfl) ?_
        show Go p e below (s₁.setTop (mkF m 29 #[.val (.ref ba), .val (.ref bb), .val (.int (2 : Int32))] [])) _
        refine Go.via (fun _ => XS.goto X0.here hx rfl (pc0 := 29) (pc' := 9) rfl (hb hby d20_29) (by decide) (by decide)) ?_
        refine Go.via (fun _ => XS.iloadN X0.here hx rfl (hb hby d20_9) rfl) ?_
        refine Go.via (fun _ => XS.aloadN X0.here hx rfl (hb hby d20_10) rfl rfl) ?_
        refine Go.via (lenI X0 hx hZ e0 P0 (n := (2 : Int32)) rfl (g := (mkF m 11 #[.val (.ref ba), .val (.ref bb), .val (.int (2 : Int32))] [(.ref ba), (.int (2 : Int32))])) rfl rfl (hb hby d20_11)) ?_
        show Go p e below (s₁.setTop (mkF m 12 #[.val (.ref ba), .val (.ref bb), .val (.int (2 : Int32))] [(.int (2 : Int32)), (.int (2 : Int32))])) _
        refine Go.via (fun _ => XS.icmpYes X0.here hx rfl (pc0 := 12) (pc' := 32) rfl (hb hby d20_12) rfl (flt ((by decide) : ¬ ((2 : Int32) < (2 : Int32)))).2.1 (by decide) (by decide)) ?_
        show Go p e below (s₁.setTop (mkF m 32 #[.val (.ref ba), .val (.ref bb), .val (.int (2 : Int32))] [])) _
        refine Go.via (fun _ => XS.iconst X0.here hx rfl (hb hby d20_32)) ?_
        exact Go.fin X0 hlk (v := some (.int (1 : Int32))) (fun h => by rw [Bd.returns] at h; cases h) (fun fs hr => retN X0 hx (t := .boolean) Bd.returns (by simp) (hb hby d20_33) hr) (by rw [e0]; exact ⟨(by simp [seF, hc174, hc175]), rfl, rfl⟩) (by decide) (by decide)
      · refine Go.via (fun _ => XS.icmpNo X0.here hx rfl (hb hby d20_21) rfl (feq (hc175 : ¬ (x1 = y1))).1) ?_
        show Go p e below (s₁.setTop (mkF m 24 #[.val (.ref ba), .val (.ref bb), .val (.int (1 : Int32))] [])) _
        refine Go.via (fun _ => XS.iconst X0.here hx rfl (hb hby d20_24)) ?_
        exact Go.fin X0 hlk (v := some (.int (0 : Int32))) (fun h => by rw [Bd.returns] at h; cases h) (fun fs hr => retN X0 hx (t := .boolean) Bd.returns (by simp) (hb hby d20_25) hr) (by rw [e0]; exact ⟨(by simp [seF, hc174, hc175]), rfl, rfl⟩) (by decide) (by decide)
    · refine Go.via (fun _ => XS.icmpNo X0.here hx rfl (hb hby d20_21) rfl (feq (hc174 : ¬ (x0 = y0))).1) ?_
      show Go p e below (s₁.setTop (mkF m 24 #[.val (.ref ba), .val (.ref bb), .val (.int (0 : Int32))] [])) _
      refine Go.via (fun _ => XS.iconst X0.here hx rfl (hb hby d20_24)) ?_
      exact Go.fin X0 hlk (v := some (.int (0 : Int32))) (fun h => by rw [Bd.returns] at h; cases h) (fun fs hr => retN X0 hx (t := .boolean) Bd.returns (by simp) (hb hby d20_25) hr) (by rw [e0]; exact ⟨(by simp [seF, hc174]), rfl, rfl⟩) (by decide) (by decide)
theorem d19_0 : decode jdk_42_method_66_code 0 = .ok (.aload_n 0, 1) := by decide +kernel
theorem d19_1 : decode jdk_42_method_66_code 1 = .ok (.aload_n 1, 1) := by decide +kernel
theorem d19_2 : decode jdk_42_method_66_code 2 = .ok (.if_acmp .ne 5, 3) := by decide +kernel
theorem d19_7 : decode jdk_42_method_66_code 7 = .ok (.aload_n 1, 1) := by decide +kernel
theorem d19_8 : decode jdk_42_method_66_code 8 = .ok (.instanceof 10, 3) := by decide +kernel
theorem d19_11 : decode jdk_42_method_66_code 11 = .ok (.ifCond .eq 43, 3) := by decide +kernel
theorem d19_14 : decode jdk_42_method_66_code 14 = .ok (.aload_n 1, 1) := by decide +kernel
theorem d19_15 : decode jdk_42_method_66_code 15 = .ok (.checkcast 10, 3) := by decide +kernel
theorem d19_18 : decode jdk_42_method_66_code 18 = .ok (.astore_n 2, 1) := by decide +kernel
theorem d19_19 : decode jdk_42_method_66_code 19 = .ok (.getstatic 38, 3) := by decide +kernel
theorem d19_22 : decode jdk_42_method_66_code 22 = .ok (.ifCond .eq 14, 3) := by decide +kernel
theorem d19_25 : decode jdk_42_method_66_code 25 = .ok (.aload_n 0, 1) := by decide +kernel
theorem d19_26 : decode jdk_42_method_66_code 26 = .ok (.getfield 15, 3) := by decide +kernel
theorem d19_29 : decode jdk_42_method_66_code 29 = .ok (.aload_n 2, 1) := by decide +kernel
theorem d19_30 : decode jdk_42_method_66_code 30 = .ok (.getfield 15, 3) := by decide +kernel
theorem d19_33 : decode jdk_42_method_66_code 33 = .ok (.if_icmp .ne 21, 3) := by decide +kernel
theorem d19_36 : decode jdk_42_method_66_code 36 = .ok (.aload_n 0, 1) := by decide +kernel
theorem d19_37 : decode jdk_42_method_66_code 37 = .ok (.getfield 9, 3) := by decide +kernel
theorem d19_40 : decode jdk_42_method_66_code 40 = .ok (.aload_n 2, 1) := by decide +kernel
theorem d19_41 : decode jdk_42_method_66_code 41 = .ok (.getfield 9, 3) := by decide +kernel
theorem d19_44 : decode jdk_42_method_66_code 44 = .ok (.invokestatic 541, 3) := by decide +kernel
theorem pd__28_5bB_5bB_29Z : parseMethodDescriptor "([B[B)Z" = some ⟨[(.array .byte), (.array .byte)], some .boolean⟩ := by decide +kernel
theorem d19_47 : decode jdk_42_method_66_code 47 = .ok (.ifCond .eq 7, 3) := by decide +kernel
theorem d19_54 : decode jdk_42_method_66_code 54 = .ok (.iconst 0, 1) := by decide +kernel
theorem d19_55 : decode jdk_42_method_66_code 55 = .ok (.ireturn, 1) := by decide +kernel
theorem d19_50 : decode jdk_42_method_66_code 50 = .ok (.iconst 1, 1) := by decide +kernel
theorem d19_51 : decode jdk_42_method_66_code 51 = .ok (.goto 4, 3) := by decide +kernel
theorem pn_19 : plainName cST = true := by first | (simp [plainName, overriddenIn]; done) | decide +kernel
theorem ef_19 (m : MethodId) (x0 : Addr) (x1 : Addr) : entryFrame m #[(.ref x0), (.ref x1)] 3 = mkF m 0 #[.val (.ref x0), .val (.ref x1), .unset] [] := by first | (simp [entryFrame, mkF, argsToLocals, Value.category]; done) | rfl
def Q_rmSe (Z : State) (a : Addr) (o : Addr) (cs : Int32) (ba : Addr) (bb : Addr) (xs : List Int32) (ys : List Int32) (h0 : Heap) (n0 : Nat) (vQ : Option Value) (hQ : Heap) (LQ : List Loc) : Prop := vQ = some (.int (seF xs ys)) ∧ LQ = [] ∧ hQ = h0
set_option maxRecDepth 65536 in
set_option maxHeartbeats 40000000 in
theorem rmSe (l : Launch) (Z : State) (a0 : Array Value) (hw : ∀ d ∈ tables_1, d.before a0 Z = true) (ws : List Jvm.Cond) (a : Addr) (o : Addr) (cs : Int32) (ba : Addr) (bb : Addr) (xs : List Int32) (ys : List Int32) (h0 : Heap) (n0 : Nat) (Z0 : n0 ≤ h0.size) (P0 : Exa Z h0 a cST) (P1 : Fld Z h0 a cST "coder" "B" (.int (0 : Int32))) (P2 : Fld Z h0 a cST "value" "[B" (.ref ba)) (P3 : Ia Z h0 ba .byte xs) (P4 : Exa Z h0 o cST) (P5 : Fld Z h0 o cST "coder" "B" (.int (0 : Int32))) (P6 : Fld Z h0 o cST "value" "[B" (.ref bb)) (P7 : Ia Z h0 bb .byte ys) (P8 : Old Z n0 h0) (zCS : Sta Z Z.heap cST "COMPACT_STRINGS" "Z" (.int cs)) (hao : a ≠ o) (hX : Sh xs) (hY : Sh ys) (hcs : ¬ (cs = (0 : Int32))) :
    MetFree l (⟨cST, "equals", "(Ljava/lang/Object;)Z"⟩ : MethodName) (head1 (Jvm.Cond.code (⟨cST, "equals", "(Ljava/lang/Object;)Z"⟩ : MethodName) jdk_42_method_66_code 3 (some .boolean) :: ws) ({ frames := 1, cells := 0, slots := 0, locals := 14 } : Room)) (fun aQ UQ => aQ = #[(.ref a), (.ref o)] ∧ Z.Warmed39 UQ.vm ∧ UQ.heap = h0) (fun _ _ _ _ _ => True) (fun _ UQ oQ UR => ∃ vQ LQ, oQ = .returned vQ ∧ Q_rmSe Z a o cs ba bb xs ys h0 n0 vQ UR.heap LQ ∧ FrameEnd UQ oQ UR LQ ({ frames := 1, cells := 0, slots := 0, locals := 14 } : Room).cells ({ frames := 1, cells := 0, slots := 0, locals := 14 } : Room).slots) := by
  refine MetFree.of_bodySF (plainFor_of_name pn_19) hisR ?_
  intro p e s m args below meth c s₁ Bd hml0 hP hK
  obtain ⟨rfl, hZ, hh⟩ := hP
  have hx := Bd.exec
  have hby := Bd.bytes
  have hlk := Bd.notSynchronized
  have hml : c.maxLocals = 3 := hml0
  have hown : s.vm.findClass cST = some m.cls := findClass_of_methodNamed Bd.named
  have hnm := (name_of_methodNamed Bd.named Bd.method).1
  have X0 : Stand p l e ({ frames := 1, cells := 0, slots := 0, locals := 14 } : Room) s m #[(.ref a), (.ref o)] below meth c s₁ [] 0 0 := Stand.of_body Bd
  have e0 : s₁.heap = h0 := by rw [← hh, Bd.state]; rfl
  have N0 := Fr.nil n0
  show Go p e below _ (Done s (Q_rmSe Z a o cs ba bb xs ys h0 n0) ({ frames := 1, cells := 0, slots := 0, locals := 14 } : Room).cells ({ frames := 1, cells := 0, slots := 0, locals := 14 } : Room).slots)
  refine Go.via (fun tQ kQ => castTop (ef_19 m a o) kQ) ?_
  show Go p e below (s₁.setTop (mkF m 0 #[.val (.ref a), .val (.ref o), .unset] [])) _
  refine Go.via (fun _ => XS.aloadN X0.here hx rfl (hb hby d19_0) rfl rfl) ?_
  refine Go.via (fun _ => XS.aloadN X0.here hx rfl (hb hby d19_1) rfl rfl) ?_
  refine Go.via (fun _ => Jvm.RoadKit.acmp (g := (mkF m 2 #[.val (.ref a), .val (.ref o), .unset] [(.ref o), (.ref a)])) X0 hx rfl rfl rfl (pc0 := 2) (pc' := 7) (same := false) rfl (hb hby d19_2) rfl (decide_eq_false fun q => hao (Value.ref.inj q)) (by decide) (by decide)) ?_
  show Go p e below (s₁.setTop (mkF m 7 #[.val (.ref a), .val (.ref o), .unset] [])) _
  refine Go.via (fun _ => XS.aloadN X0.here hx rfl (hb hby d19_7) rfl rfl) ?_
  obtain ⟨T176, X176, e176, st176⟩ := instY X0 hx hZ hown (tw hw 119 rfl) e0 (Ins.self P4) (g := (mkF m 8 #[.val (.ref a), .val (.ref o), .unset] [(.ref o)])) rfl rfl (hb hby d19_8)
  refine Go.via (st176) ?_
  clear st176
  clear X0 e0
  show Go p e below (T176.setTop (mkF m 11 #[.val (.ref a), .val (.ref o), .unset] [(.int (1 : Int32))])) _
  refine Go.via (fun _ => XS.ifNo X176.here hx rfl (hb hby d19_11) rfl ((if0 _ _).trans (feq ((by decide) : ¬ ((1 : Int32) = (0 : Int32)))).1)) ?_
  show Go p e below (T176.setTop (mkF m 14 #[.val (.ref a), .val (.ref o), .unset] [])) _
  refine Go.via (fun _ => XS.aloadN X176.here hx rfl (hb hby d19_14) rfl rfl) ?_
  obtain ⟨T177, X177, e177, st177⟩ := castY X176 hx hZ hown (tw hw 119 rfl) e176 (Ins.self P4) (g := (mkF m 15 #[.val (.ref a), .val (.ref o), .unset] [(.ref o)])) rfl rfl (hb hby d19_15)
  refine Go.via (st177) ?_
  clear st177
  clear X176 e176
  show Go p e below (T177.setTop (mkF m 18 #[.val (.ref a), .val (.ref o), .unset] [(.ref o)])) _
  refine Go.via (fun _ => XS.astoreN X177.here hx rfl (hb hby d19_18) rfl rfl (l' := #[.val (.ref a), .val (.ref o), .val (.ref o)]) rfl) ?_
  show Go p e below (T177.setTop (mkF m 19 #[.val (.ref a), .val (.ref o), .val (.ref o)] [])) _
  have f178 : Sta Z h0 cST "COMPACT_STRINGS" "Z" (.int cs) := zCS.ext P8.2
  obtain ⟨T179, X179, e179, st179⟩ := getS2 X177 hx hZ hown (host := "") (Or.inl (tw hw 70 rfl)) Via.refl e177 f178 (g := (mkF m 19 #[.val (.ref a), .val (.ref o), .val (.ref o)] [])) rfl (hb hby d19_19)
  refine Go.via (st179) ?_
  clear st179
  clear X177 e177
  show Go p e below (T179.setTop (mkF m 22 #[.val (.ref a), .val (.ref o), .val (.ref o)] [(.int cs)])) _
  refine Go.via (fun _ => XS.ifNo X179.here hx rfl (hb hby d19_22) rfl ((if0 _ _).trans (feq (hcs : ¬ (cs = (0 : Int32)))).1)) ?_
  show Go p e below (T179.setTop (mkF m 25 #[.val (.ref a), .val (.ref o), .val (.ref o)] [])) _
  refine Go.via (fun _ => XS.aloadN X179.here hx rfl (hb hby d19_25) rfl rfl) ?_
  obtain ⟨T180, X180, e180, st180⟩ := getF X179 hx hZ hown (host := "") (Or.inl (tw hw 39 rfl)) Via.refl e179 P1 (g := (mkF m 26 #[.val (.ref a), .val (.ref o), .val (.ref o)] [(.ref a)])) rfl rfl (hb hby d19_26)
  refine Go.via (st180) ?_
  clear st180
  clear X179 e179
  show Go p e below (T180.setTop (mkF m 29 #[.val (.ref a), .val (.ref o), .val (.ref o)] [(.int (0 : Int32))])) _
  refine Go.via (fun _ => XS.aloadN X180.here hx rfl (hb hby d19_29) rfl rfl) ?_
  obtain ⟨T181, X181, e181, st181⟩ := getF X180 hx hZ hown (host := "") (Or.inl (tw hw 39 rfl)) Via.refl e180 P5 (g := (mkF m 30 #[.val (.ref a), .val (.ref o), .val (.ref o)] [(.ref o), (.int (0 : Int32))])) rfl rfl (hb hby d19_30)
  refine Go.via (st181) ?_
  clear st181
  clear X180 e180
  show Go p e below (T181.setTop (mkF m 33 #[.val (.ref a), .val (.ref o), .val (.ref o)] [(.int (0 : Int32)), (.int (0 : Int32))])) _
  refine Go.via (fun _ => XS.icmpNo X181.here hx rfl (hb hby d19_33) rfl (teq ((by decide) : (0 : Int32) = (0 : Int32))).2) ?_
  show Go p e below (T181.setTop (mkF m 36 #[.val (.ref a), .val (.ref o), .val (.ref o)] [])) _
  refine Go.via (fun _ => XS.aloadN X181.here hx rfl (hb hby d19_36) rfl rfl) ?_
  obtain ⟨T182, X182, e182, st182⟩ := getF X181 hx hZ hown (host := "") (Or.inl (tw hw 38 rfl)) Via.refl e181 P2 (g := (mkF m 37 #[.val (.ref a), .val (.ref o), .val (.ref o)] [(.ref a)])) rfl rfl (hb hby d19_37)
  refine Go.via (st182) ?_
  clear st182
  clear X181 e181
  show Go p e below (T182.setTop (mkF m 40 #[.val (.ref a), .val (.ref o), .val (.ref o)] [(.ref ba)])) _
  refine Go.via (fun _ => XS.aloadN X182.here hx rfl (hb hby d19_40) rfl rfl) ?_
  obtain ⟨T183, X183, e183, st183⟩ := getF X182 hx hZ hown (host := "") (Or.inl (tw hw 38 rfl)) Via.refl e182 P6 (g := (mkF m 41 #[.val (.ref a), .val (.ref o), .val (.ref o)] [(.ref o), (.ref ba)])) rfl rfl (hb hby d19_41)
  refine Go.via (st183) ?_
  clear st183
  clear X182 e182
  show Go p e below (T183.setTop (mkF m 44 #[.val (.ref a), .val (.ref o), .val (.ref o)] [(.ref bb), (.ref ba)])) _
  obtain ⟨r184, _, ⟨T184, L184, k184, n184⟩, -, X184, ⟨Lc184, hQ184, l184, y184, z184⟩, st184⟩ := Jvm.LawKit.callS X183 hx (y := (⟨cL1, "equals", "([B[B)Z"⟩ : MethodName)) hown (mvT hZ (tw hw 120 rfl)) (mvT hZ (tw hw 121 rfl)) (mvT hZ (tw hw 122 rfl)) (mvT hZ (tw hw 123 rfl)) (by decide) (backOf (W := 0) (rmLe l Z a0 hw [] ba bb xs ys h0 n0 Z0 P3 P7 hX hY) hZ (tw hw 123 rfl) (tw hw 122 rfl) (by decide) (by decide)) (g := (mkF m 44 #[.val (.ref a), .val (.ref o), .val (.ref o)] [(.ref bb), (.ref ba)])) rfl (by rw [hml]; rfl) (argsL := [(.ref ba), (.ref bb)]) (rest := []) (lenOf pd__28_5bB_5bB_29Z rfl) rfl (by show 2 * 0 + _ ≤ _; exact Nat.le_of_eq rfl) (hb hby d19_44) (fun _ _ => ⟨rfl, e183, (by decide : 0 + 0 ≤ _), (by decide : 0 + 0 ≤ _)⟩)
  dsimp only [Pt.U, Pt.locs, Pt.cells, Pt.slots] at X184 l184 y184 z184 st184 hQ184
  rw [l184, y184, z184] at X184
  clear l184 y184 z184
  obtain ⟨hr184, N184q, eh184⟩ := hQ184
  rw [hr184] at st184
  clear hr184
  rw [N184q, List.append_nil] at X184
  refine Go.via (st184) ?_
  clear st184
  have e184 : T184.heap = h0 := eh184
  clear X183 e183
  show Go p e below (T184.setTop (mkF m 47 #[.val (.ref a), .val (.ref o), .val (.ref o)] [(.int (seF xs ys))])) _
  by_cases hc185 : (seF xs ys) = (0 : Int32)
  · refine Go.via (fun _ => XS.ifYes X184.here hx rfl (pc0 := 47) (pc' := 54) rfl (hb hby d19_47) rfl ((if0 _ _).trans (teq (hc185 : (seF xs ys) = (0 : Int32))).1) (by decide) (by decide)) ?_
    show Go p e below (T184.setTop (mkF m 54 #[.val (.ref a), .val (.ref o), .val (.ref o)] [])) _
    refine Go.via (fun _ => XS.iconst X184.here hx rfl (hb hby d19_54)) ?_
    exact Go.fin X184 hlk (v := some (.int (0 : Int32))) (fun h => by rw [Bd.returns] at h; cases h) (fun fs hr => retN X184 hx (t := .boolean) Bd.returns (by simp) (hb hby d19_55) hr) (by rw [e184]; exact ⟨(congrArg (fun qq => some (Value.int qq)) (Eq.symm hc185)), rfl, rfl⟩) (by decide) (by decide)
  · refine Go.via (fun _ => XS.ifNo X184.here hx rfl (hb hby d19_47) rfl ((if0 _ _).trans (feq (hc185 : ¬ ((seF xs ys) = (0 : Int32)))).1)) ?_
    show Go p e below (T184.setTop (mkF m 50 #[.val (.ref a), .val (.ref o), .val (.ref o)] [])) _
    refine Go.via (fun _ => XS.iconst X184.here hx rfl (hb hby d19_50)) ?_
    refine Go.via (fun _ => XS.goto X184.here hx rfl (pc0 := 51) (pc' := 55) rfl (hb hby d19_51) (by decide) (by decide)) ?_
    exact Go.fin X184 hlk (v := some (.int (1 : Int32))) (fun h => by rw [Bd.returns] at h; cases h) (fun fs hr => retN X184 hx (t := .boolean) Bd.returns (by simp) (hb hby d19_55) hr) (by rw [e184]; exact ⟨(congrArg (fun qq => some (Value.int qq)) (Eq.symm (own_se1 hc185))), rfl, rfl⟩) (by decide) (by decide)
theorem d29_0 : decode prog_15_method_12_code 0 = .ok (.iload_n 0, 1) := by decide +kernel
theorem d29_1 : decode prog_15_method_12_code 1 = .ok (.bipush 65, 2) := by decide +kernel
theorem d29_3 : decode prog_15_method_12_code 3 = .ok (.if_icmp .lt 9, 3) := by decide +kernel
theorem d29_12 : decode prog_15_method_12_code 12 = .ok (.iload_n 0, 1) := by decide +kernel
theorem d29_13 : decode prog_15_method_12_code 13 = .ok (.bipush 97, 2) := by decide +kernel
theorem d29_15 : decode prog_15_method_12_code 15 = .ok (.if_icmp .lt 9, 3) := by decide +kernel
theorem d29_24 : decode prog_15_method_12_code 24 = .ok (.iload_n 0, 1) := by decide +kernel
theorem d29_25 : decode prog_15_method_12_code 25 = .ok (.bipush 48, 2) := by decide +kernel
theorem d29_27 : decode prog_15_method_12_code 27 = .ok (.if_icmp .lt 9, 3) := by decide +kernel
theorem d29_36 : decode prog_15_method_12_code 36 = .ok (.iload_n 0, 1) := by decide +kernel
theorem d29_37 : decode prog_15_method_12_code 37 = .ok (.bipush 43, 2) := by decide +kernel
theorem d29_39 : decode prog_15_method_12_code 39 = .ok (.if_icmp .eq 9, 3) := by decide +kernel
theorem d29_48 : decode prog_15_method_12_code 48 = .ok (.iconst 1, 1) := by decide +kernel
theorem d29_49 : decode prog_15_method_12_code 49 = .ok (.goto 4, 3) := by decide +kernel
theorem d29_53 : decode prog_15_method_12_code 53 = .ok (.ireturn, 1) := by decide +kernel
theorem d29_42 : decode prog_15_method_12_code 42 = .ok (.iload_n 0, 1) := by decide +kernel
theorem d29_43 : decode prog_15_method_12_code 43 = .ok (.bipush 47, 2) := by decide +kernel
theorem d29_45 : decode prog_15_method_12_code 45 = .ok (.if_icmp .ne 7, 3) := by decide +kernel
theorem d29_52 : decode prog_15_method_12_code 52 = .ok (.iconst 0, 1) := by decide +kernel
theorem d29_30 : decode prog_15_method_12_code 30 = .ok (.iload_n 0, 1) := by decide +kernel
theorem d29_31 : decode prog_15_method_12_code 31 = .ok (.bipush 57, 2) := by decide +kernel
theorem d29_33 : decode prog_15_method_12_code 33 = .ok (.if_icmp .le 15, 3) := by decide +kernel
theorem d29_18 : decode prog_15_method_12_code 18 = .ok (.iload_n 0, 1) := by decide +kernel
theorem d29_19 : decode prog_15_method_12_code 19 = .ok (.bipush 122, 2) := by decide +kernel
theorem d29_21 : decode prog_15_method_12_code 21 = .ok (.if_icmp .le 27, 3) := by decide +kernel
theorem d29_6 : decode prog_15_method_12_code 6 = .ok (.iload_n 0, 1) := by decide +kernel
theorem d29_7 : decode prog_15_method_12_code 7 = .ok (.bipush 90, 2) := by decide +kernel
theorem d29_9 : decode prog_15_method_12_code 9 = .ok (.if_icmp .le 39, 3) := by decide +kernel
theorem pn_29 : plainName cCD = true := by first | (simp [plainName, overriddenIn]; done) | decide +kernel
theorem ef_29 (m : MethodId) (x0 : Int32) : entryFrame m #[(.int x0)] 1 = mkF m 0 #[.val (.int x0)] [] := by first | (simp [entryFrame, mkF, argsToLocals, Value.category]; done) | rfl
def Q_rm64 (Z : State) (v : Int32)  (h0 : Heap) (n0 : Nat) (vQ : Option Value) (hQ : Heap) (LQ : List Loc) : Prop := vQ = some (.int (1 : Int32)) ∧ LQ = [] ∧ hQ = h0
set_option maxRecDepth 65536 in
set_option maxHeartbeats 40000000 in
theorem rm64 (l : Launch) (Z : State) (a0 : Array Value) (hw : ∀ d ∈ tables_1, d.before a0 Z = true) (ws : List Jvm.Cond) (v : Int32)  (h0 : Heap) (n0 : Nat) (Z0 : n0 ≤ h0.size) (hm : v ∈ ALPH) :
    MetFree l (⟨cCD, "isBase64", "(C)Z"⟩ : MethodName) (head1 (Jvm.Cond.code (⟨cCD, "isBase64", "(C)Z"⟩ : MethodName) prog_15_method_12_code 1 (some .boolean) :: ws) ({ frames := 0, cells := 0, slots := 0, locals := 0 } : Room)) (fun aQ UQ => aQ = #[(.int v)] ∧ Z.Warmed39 UQ.vm ∧ UQ.heap = h0) (fun _ _ _ _ _ => True) (fun _ UQ oQ UR => ∃ vQ LQ, oQ = .returned vQ ∧ Q_rm64 Z v  h0 n0 vQ UR.heap LQ ∧ FrameEnd UQ oQ UR LQ ({ frames := 0, cells := 0, slots := 0, locals := 0 } : Room).cells ({ frames := 0, cells := 0, slots := 0, locals := 0 } : Room).slots) := by
  refine MetFree.of_bodySF (plainFor_of_name pn_29) hisR ?_
  intro p e s m args below meth c s₁ Bd hml0 hP hK
  obtain ⟨rfl, hZ, hh⟩ := hP
  have hx := Bd.exec
  have hby := Bd.bytes
  have hlk := Bd.notSynchronized
  have hml : c.maxLocals = 1 := hml0
  have hown : s.vm.findClass cCD = some m.cls := findClass_of_methodNamed Bd.named
  have hnm := (name_of_methodNamed Bd.named Bd.method).1
  have X0 : Stand p l e ({ frames := 0, cells := 0, slots := 0, locals := 0 } : Room) s m #[(.int v)] below meth c s₁ [] 0 0 := Stand.of_body Bd
  have e0 : s₁.heap = h0 := by rw [← hh, Bd.state]; rfl
  have N0 := Fr.nil n0
  show Go p e below _ (Done s (Q_rm64 Z v  h0 n0) ({ frames := 0, cells := 0, slots := 0, locals := 0 } : Room).cells ({ frames := 0, cells := 0, slots := 0, locals := 0 } : Room).slots)
  refine Go.via (fun tQ kQ => castTop (ef_29 m v) kQ) ?_
  show Go p e below (s₁.setTop (mkF m 0 #[.val (.int v)] [])) _
  refine Go.via (fun _ => XS.iloadN X0.here hx rfl (hb hby d29_0) rfl) ?_
  refine Go.via (fun _ => XS.bipush X0.here hx rfl (hb hby d29_1)) ?_
  by_cases hc186 : v < (65 : Int32)
  · refine Go.via (fun _ => XS.icmpYes X0.here hx rfl (pc0 := 3) (pc' := 12) rfl (hb hby d29_3) rfl (tlt (hc186 : v < (65 : Int32))).1 (by decide) (by decide)) ?_
    refine Go.via (fun _ => XS.iloadN X0.here hx rfl (hb hby d29_12) rfl) ?_
    refine Go.via (fun _ => XS.bipush X0.here hx rfl (hb hby d29_13)) ?_
    show Go p e below (s₁.setTop (mkF m 15 #[.val (.int v)] [(.int (97 : Int32)), (.int v)])) _
    by_cases hc187 : v < (97 : Int32)
    · refine Go.via (fun _ => XS.icmpYes X0.here hx rfl (pc0 := 15) (pc' := 24) rfl (hb hby d29_15) rfl (tlt (hc187 : v < (97 : Int32))).1 (by decide) (by decide)) ?_
      show Go p e below (s₁.setTop (mkF m 24 #[.val (.int v)] [])) _
      refine Go.via (fun _ => XS.iloadN X0.here hx rfl (hb hby d29_24) rfl) ?_
      refine Go.via (fun _ => XS.bipush X0.here hx rfl (hb hby d29_25)) ?_
      by_cases hc188 : v < (48 : Int32)
      · refine Go.via (fun _ => XS.icmpYes X0.here hx rfl (pc0 := 27) (pc' := 36) rfl (hb hby d29_27) rfl (tlt (hc188 : v < (48 : Int32))).1 (by decide) (by decide)) ?_
        refine Go.via (fun _ => XS.iloadN X0.here hx rfl (hb hby d29_36) rfl) ?_
        refine Go.via (fun _ => XS.bipush X0.here hx rfl (hb hby d29_37)) ?_
        show Go p e below (s₁.setTop (mkF m 39 #[.val (.int v)] [(.int (43 : Int32)), (.int v)])) _
        by_cases hc189 : v = (43 : Int32)
        · refine Go.via (fun _ => XS.icmpYes X0.here hx rfl (pc0 := 39) (pc' := 48) rfl (hb hby d29_39) rfl (teq (hc189 : v = (43 : Int32))).1 (by decide) (by decide)) ?_
          show Go p e below (s₁.setTop (mkF m 48 #[.val (.int v)] [])) _
          refine Go.via (fun _ => XS.iconst X0.here hx rfl (hb hby d29_48)) ?_
          refine Go.via (fun _ => XS.goto X0.here hx rfl (pc0 := 49) (pc' := 53) rfl (hb hby d29_49) (by decide) (by decide)) ?_
          exact Go.fin X0 hlk (v := some (.int (1 : Int32))) (fun h => by rw [Bd.returns] at h; cases h) (fun fs hr => retN X0 hx (t := .boolean) Bd.returns (by simp) (hb hby d29_53) hr) (by rw [e0]; exact ⟨rfl, rfl, rfl⟩) (by decide) (by decide)
        · refine Go.via (fun _ => XS.icmpNo X0.here hx rfl (hb hby d29_39) rfl (feq (hc189 : ¬ (v = (43 : Int32)))).1) ?_
          show Go p e below (s₁.setTop (mkF m 42 #[.val (.int v)] [])) _
          refine Go.via (fun _ => XS.iloadN X0.here hx rfl (hb hby d29_42) rfl) ?_
          refine Go.via (fun _ => XS.bipush X0.here hx rfl (hb hby d29_43)) ?_
          by_cases hc190 : v = (47 : Int32)
          · refine Go.via (fun _ => XS.icmpNo X0.here hx rfl (hb hby d29_45) rfl (teq (hc190 : v = (47 : Int32))).2) ?_
            refine Go.via (fun _ => XS.iconst X0.here hx rfl (hb hby d29_48)) ?_
            refine Go.via (fun _ => XS.goto X0.here hx rfl (pc0 := 49) (pc' := 53) rfl (hb hby d29_49) (by decide) (by decide)) ?_
            show Go p e below (s₁.setTop (mkF m 53 #[.val (.int v)] [(.int (1 : Int32))])) _
            exact Go.fin X0 hlk (v := some (.int (1 : Int32))) (fun h => by rw [Bd.returns] at h; cases h) (fun fs hr => retN X0 hx (t := .boolean) Bd.returns (by simp) (hb hby d29_53) hr) (by rw [e0]; exact ⟨rfl, rfl, rfl⟩) (by decide) (by decide)
          · refine Go.via (fun _ => XS.icmpYes X0.here hx rfl (pc0 := 45) (pc' := 52) rfl (hb hby d29_45) rfl (feq (hc190 : ¬ (v = (47 : Int32)))).2 (by decide) (by decide)) ?_
            refine Go.via (fun _ => XS.iconst X0.here hx rfl (hb hby d29_52)) ?_
            exact Go.fin X0 hlk (v := some (.int (0 : Int32))) (fun h => by rw [Bd.returns] at h; cases h) (fun fs hr => retN X0 hx (t := .boolean) Bd.returns (by simp) (hb hby d29_53) hr) (by rw [e0]; exact ⟨(absurd (⟨(by first | exact Or.inl (by assumption) | exact Or.inr (by assumption)), (by first | exact Or.inl (by assumption) | exact Or.inr (by assumption)), (by first | exact Or.inl (by assumption) | exact Or.inr (by assumption)), by assumption, by assumption⟩ : (v < (65 : Int32) ∨ (90 : Int32) < v) ∧ (v < (97 : Int32) ∨ (122 : Int32) < v) ∧ (v < (48 : Int32) ∨ (57 : Int32) < v) ∧ ¬ (v = (43 : Int32)) ∧ ¬ (v = (47 : Int32))) (own_no v hm)), rfl, rfl⟩) (by decide) (by decide)
      · refine Go.via (fun _ => XS.icmpNo X0.here hx rfl (hb hby d29_27) rfl (flt (hc188 : ¬ (v < (48 : Int32)))).1) ?_
        refine Go.via (fun _ => XS.iloadN X0.here hx rfl (hb hby d29_30) rfl) ?_
        refine Go.via (fun _ => XS.bipush X0.here hx rfl (hb hby d29_31)) ?_
        show Go p e below (s₁.setTop (mkF m 33 #[.val (.int v)] [(.int (57 : Int32)), (.int v)])) _
        by_cases hc191 : (57 : Int32) < v
        · refine Go.via (fun _ => XS.icmpNo X0.here hx rfl (hb hby d29_33) rfl (tlt (hc191 : (57 : Int32) < v)).2.2.2) ?_
          show Go p e below (s₁.setTop (mkF m 36 #[.val (.int v)] [])) _
          refine Go.via (fun _ => XS.iloadN X0.here hx rfl (hb hby d29_36) rfl) ?_
          refine Go.via (fun _ => XS.bipush X0.here hx rfl (hb hby d29_37)) ?_
          by_cases hc192 : v = (43 : Int32)
          · refine Go.via (fun _ => XS.icmpYes X0.here hx rfl (pc0 := 39) (pc' := 48) rfl (hb hby d29_39) rfl (teq (hc192 : v = (43 : Int32))).1 (by decide) (by decide)) ?_
            refine Go.via (fun _ => XS.iconst X0.here hx rfl (hb hby d29_48)) ?_
            refine Go.via (fun _ => XS.goto X0.here hx rfl (pc0 := 49) (pc' := 53) rfl (hb hby d29_49) (by decide) (by decide)) ?_
            show Go p e below (s₁.setTop (mkF m 53 #[.val (.int v)] [(.int (1 : Int32))])) _
            exact Go.fin X0 hlk (v := some (.int (1 : Int32))) (fun h => by rw [Bd.returns] at h; cases h) (fun fs hr => retN X0 hx (t := .boolean) Bd.returns (by simp) (hb hby d29_53) hr) (by rw [e0]; exact ⟨rfl, rfl, rfl⟩) (by decide) (by decide)
          · refine Go.via (fun _ => XS.icmpNo X0.here hx rfl (hb hby d29_39) rfl (feq (hc192 : ¬ (v = (43 : Int32)))).1) ?_
            refine Go.via (fun _ => XS.iloadN X0.here hx rfl (hb hby d29_42) rfl) ?_
            refine Go.via (fun _ => XS.bipush X0.here hx rfl (hb hby d29_43)) ?_
            show Go p e below (s₁.setTop (mkF m 45 #[.val (.int v)] [(.int (47 : Int32)), (.int v)])) _
            by_cases hc193 : v = (47 : Int32)
            · refine Go.via (fun _ => XS.icmpNo X0.here hx rfl (hb hby d29_45) rfl (teq (hc193 : v = (47 : Int32))).2) ?_
              show Go p e below (s₁.setTop (mkF m 48 #[.val (.int v)] [])) _
              refine Go.via (fun _ => XS.iconst X0.here hx rfl (hb hby d29_48)) ?_
              refine Go.via (fun _ => XS.goto X0.here hx rfl (pc0 := 49) (pc' := 53) rfl (hb hby d29_49) (by decide) (by decide)) ?_
              exact Go.fin X0 hlk (v := some (.int (1 : Int32))) (fun h => by rw [Bd.returns] at h; cases h) (fun fs hr => retN X0 hx (t := .boolean) Bd.returns (by simp) (hb hby d29_53) hr) (by rw [e0]; exact ⟨rfl, rfl, rfl⟩) (by decide) (by decide)
            · refine Go.via (fun _ => XS.icmpYes X0.here hx rfl (pc0 := 45) (pc' := 52) rfl (hb hby d29_45) rfl (feq (hc193 : ¬ (v = (47 : Int32)))).2 (by decide) (by decide)) ?_
              show Go p e below (s₁.setTop (mkF m 52 #[.val (.int v)] [])) _
              refine Go.via (fun _ => XS.iconst X0.here hx rfl (hb hby d29_52)) ?_
              exact Go.fin X0 hlk (v := some (.int (0 : Int32))) (fun h => by rw [Bd.returns] at h; cases h) (fun fs hr => retN X0 hx (t := .boolean) Bd.returns (by simp) (hb hby d29_53) hr) (by rw [e0]; exact ⟨(absurd (⟨(by first | exact Or.inl (by assumption) | exact Or.inr (by assumption)), (by first | exact Or.inl (by assumption) | exact Or.inr (by assumption)), (by first | exact Or.inl (by assumption) | exact Or.inr (by assumption)), by assumption, by assumption⟩ : (v < (65 : Int32) ∨ (90 : Int32) < v) ∧ (v < (97 : Int32) ∨ (122 : Int32) < v) ∧ (v < (48 : Int32) ∨ (57 : Int32) < v) ∧ ¬ (v = (43 : Int32)) ∧ ¬ (v = (47 : Int32))) (own_no v hm)), rfl, rfl⟩) (by decide) (by decide)
        · refine Go.via (fun _ => XS.icmpYes X0.here hx rfl (pc0 := 33) (pc' := 48) rfl (hb hby d29_33) rfl (flt (hc191 : ¬ ((57 : Int32) < v))).2.2.2 (by decide) (by decide)) ?_
          show Go p e below (s₁.setTop (mkF m 48 #[.val (.int v)] [])) _
          refine Go.via (fun _ => XS.iconst X0.here hx rfl (hb hby d29_48)) ?_
          refine Go.via (fun _ => XS.goto X0.here hx rfl (pc0 := 49) (pc' := 53) rfl (hb hby d29_49) (by decide) (by decide)) ?_
          exact Go.fin X0 hlk (v := some (.int (1 : Int32))) (fun h => by rw [Bd.returns] at h; cases h) (fun fs hr => retN X0 hx (t := .boolean) Bd.returns (by simp) (hb hby d29_53) hr) (by rw [e0]; exact ⟨rfl, rfl, rfl⟩) (by decide) (by decide)
    · refine Go.via (fun _ => XS.icmpNo X0.here hx rfl (hb hby d29_15) rfl (flt (hc187 : ¬ (v < (97 : Int32)))).1) ?_
      show Go p e below (s₁.setTop (mkF m 18 #[.val (.int v)] [])) _
      refine Go.via (fun _ => XS.iloadN X0.here hx rfl (hb hby d29_18) rfl) ?_
      refine Go.via (fun _ => XS.bipush X0.here hx rfl (hb hby d29_19)) ?_
      by_cases hc194 : (122 : Int32) < v
      · refine Go.via (fun _ => XS.icmpNo X0.here hx rfl (hb hby d29_21) rfl (tlt (hc194 : (122 : Int32) < v)).2.2.2) ?_
        refine Go.via (fun _ => XS.iloadN X0.here hx rfl (hb hby d29_24) rfl) ?_
        refine Go.via (fun _ => XS.bipush X0.here hx rfl (hb hby d29_25)) ?_
        show Go p e below (s₁.setTop (mkF m 27 #[.val (.int v)] [(.int (48 : Int32)), (.int v)])) _
        by_cases hc195 : v < (48 : Int32)
        · refine Go.via (fun _ => XS.icmpYes X0.here hx rfl (pc0 := 27) (pc' := 36) rfl (hb hby d29_27) rfl (tlt (hc195 : v < (48 : Int32))).1 (by decide) (by decide)) ?_
          show Go p e below (s₁.setTop (mkF m 36 #[.val (.int v)] [])) _
          refine Go.via (fun _ => XS.iloadN X0.here hx rfl (hb hby d29_36) rfl) ?_
          refine Go.via (fun _ => XS.bipush X0.here hx rfl (hb hby d29_37)) ?_
          by_cases hc196 : v = (43 : Int32)
          · refine Go.via (fun _ => XS.icmpYes X0.here hx rfl (pc0 := 39) (pc' := 48) rfl (hb hby d29_39) rfl (teq (hc196 : v = (43 : Int32))).1 (by decide) (by decide)) ?_
            refine Go.via (fun _ => XS.iconst X0.here hx rfl (hb hby d29_48)) ?_
            refine Go.via (fun _ => XS.goto X0.here hx rfl (pc0 := 49) (pc' := 53) rfl (hb hby d29_49) (by decide) (by decide)) ?_
            show Go p e below (s₁.setTop (mkF m 53 #[.val (.int v)] [(.int (1 : Int32))])) _
            exact Go.fin X0 hlk (v := some (.int (1 : Int32))) (fun h => by rw [Bd.returns] at h; cases h) (fun fs hr => retN X0 hx (t := .boolean) Bd.returns (by simp) (hb hby d29_53) hr) (by rw [e0]; exact ⟨rfl, rfl, rfl⟩) (by decide) (by decide)
          · refine Go.via (fun _ => XS.icmpNo X0.here hx rfl (hb hby d29_39) rfl (feq (hc196 : ¬ (v = (43 : Int32)))).1) ?_
            refine Go.via (fun _ => XS.iloadN X0.here hx rfl (hb hby d29_42) rfl) ?_
            refine Go.via (fun _ => XS.bipush X0.here hx rfl (hb hby d29_43)) ?_
            show Go p e below (s₁.setTop (mkF m 45 #[.val (.int v)] [(.int (47 : Int32)), (.int v)])) _
            by_cases hc197 : v = (47 : Int32)
            · refine Go.via (fun _ => XS.icmpNo X0.here hx rfl (hb hby d29_45) rfl (teq (hc197 : v = (47 : Int32))).2) ?_
              show Go p e below (s₁.setTop (mkF m 48 #[.val (.int v)] [])) _
              refine Go.via (fun _ => XS.iconst X0.here hx rfl (hb hby d29_48)) ?_
              refine Go.via (fun _ => XS.goto X0.here hx rfl (pc0 := 49) (pc' := 53) rfl (hb hby d29_49) (by decide) (by decide)) ?_
              exact Go.fin X0 hlk (v := some (.int (1 : Int32))) (fun h => by rw [Bd.returns] at h; cases h) (fun fs hr => retN X0 hx (t := .boolean) Bd.returns (by simp) (hb hby d29_53) hr) (by rw [e0]; exact ⟨rfl, rfl, rfl⟩) (by decide) (by decide)
            · refine Go.via (fun _ => XS.icmpYes X0.here hx rfl (pc0 := 45) (pc' := 52) rfl (hb hby d29_45) rfl (feq (hc197 : ¬ (v = (47 : Int32)))).2 (by decide) (by decide)) ?_
              show Go p e below (s₁.setTop (mkF m 52 #[.val (.int v)] [])) _
              refine Go.via (fun _ => XS.iconst X0.here hx rfl (hb hby d29_52)) ?_
              exact Go.fin X0 hlk (v := some (.int (0 : Int32))) (fun h => by rw [Bd.returns] at h; cases h) (fun fs hr => retN X0 hx (t := .boolean) Bd.returns (by simp) (hb hby d29_53) hr) (by rw [e0]; exact ⟨(absurd (⟨(by first | exact Or.inl (by assumption) | exact Or.inr (by assumption)), (by first | exact Or.inl (by assumption) | exact Or.inr (by assumption)), (by first | exact Or.inl (by assumption) | exact Or.inr (by assumption)), by assumption, by assumption⟩ : (v < (65 : Int32) ∨ (90 : Int32) < v) ∧ (v < (97 : Int32) ∨ (122 : Int32) < v) ∧ (v < (48 : Int32) ∨ (57 : Int32) < v) ∧ ¬ (v = (43 : Int32)) ∧ ¬ (v = (47 : Int32))) (own_no v hm)), rfl, rfl⟩) (by decide) (by decide)
        · refine Go.via (fun _ => XS.icmpNo X0.here hx rfl (hb hby d29_27) rfl (flt (hc195 : ¬ (v < (48 : Int32)))).1) ?_
          show Go p e below (s₁.setTop (mkF m 30 #[.val (.int v)] [])) _
          refine Go.via (fun _ => XS.iloadN X0.here hx rfl (hb hby d29_30) rfl) ?_
          refine Go.via (fun _ => XS.bipush X0.here hx rfl (hb hby d29_31)) ?_
          by_cases hc198 : (57 : Int32) < v
          · refine Go.via (fun _ => XS.icmpNo X0.here hx rfl (hb hby d29_33) rfl (tlt (hc198 : (57 : Int32) < v)).2.2.2) ?_
            refine Go.via (fun _ => XS.iloadN X0.here hx rfl (hb hby d29_36) rfl) ?_
            refine Go.via (fun _ => XS.bipush X0.here hx rfl (hb hby d29_37)) ?_
            show Go p e below (s₁.setTop (mkF m 39 #[.val (.int v)] [(.int (43 : Int32)), (.int v)])) _
            by_cases hc199 : v = (43 : Int32)
            · refine Go.via (fun _ => XS.icmpYes X0.here hx rfl (pc0 := 39) (pc' := 48) rfl (hb hby d29_39) rfl (teq (hc199 : v = (43 : Int32))).1 (by decide) (by decide)) ?_
              show Go p e below (s₁.setTop (mkF m 48 #[.val (.int v)] [])) _
              refine Go.via (fun _ => XS.iconst X0.here hx rfl (hb hby d29_48)) ?_
              refine Go.via (fun _ => XS.goto X0.here hx rfl (pc0 := 49) (pc' := 53) rfl (hb hby d29_49) (by decide) (by decide)) ?_
              exact Go.fin X0 hlk (v := some (.int (1 : Int32))) (fun h => by rw [Bd.returns] at h; cases h) (fun fs hr => retN X0 hx (t := .boolean) Bd.returns (by simp) (hb hby d29_53) hr) (by rw [e0]; exact ⟨rfl, rfl, rfl⟩) (by decide) (by decide)
            · refine Go.via (fun _ => XS.icmpNo X0.here hx rfl (hb hby d29_39) rfl (feq (hc199 : ¬ (v = (43 : Int32)))).1) ?_
              show Go p e below (s₁.setTop (mkF m 42 #[.val (.int v)] [])) _
              refine Go.via (fun _ => XS.iloadN X0.here hx rfl (hb hby d29_42) rfl) ?_
              refine Go.via (fun _ => XS.bipush X0.here hx rfl (hb hby d29_43)) ?_
              by_cases hc200 : v = (47 : Int32)
              · refine Go.via (fun _ => XS.icmpNo X0.here hx rfl (hb hby d29_45) rfl (teq (hc200 : v = (47 : Int32))).2) ?_
                refine Go.via (fun _ => XS.iconst X0.here hx rfl (hb hby d29_48)) ?_
                refine Go.via (fun _ => XS.goto X0.here hx rfl (pc0 := 49) (pc' := 53) rfl (hb hby d29_49) (by decide) (by decide)) ?_
                show Go p e below (s₁.setTop (mkF m 53 #[.val (.int v)] [(.int (1 : Int32))])) _
                exact Go.fin X0 hlk (v := some (.int (1 : Int32))) (fun h => by rw [Bd.returns] at h; cases h) (fun fs hr => retN X0 hx (t := .boolean) Bd.returns (by simp) (hb hby d29_53) hr) (by rw [e0]; exact ⟨rfl, rfl, rfl⟩) (by decide) (by decide)
              · refine Go.via (fun _ => XS.icmpYes X0.here hx rfl (pc0 := 45) (pc' := 52) rfl (hb hby d29_45) rfl (feq (hc200 : ¬ (v = (47 : Int32)))).2 (by decide) (by decide)) ?_
                refine Go.via (fun _ => XS.iconst X0.here hx rfl (hb hby d29_52)) ?_
                exact Go.fin X0 hlk (v := some (.int (0 : Int32))) (fun h => by rw [Bd.returns] at h; cases h) (fun fs hr => retN X0 hx (t := .boolean) Bd.returns (by simp) (hb hby d29_53) hr) (by rw [e0]; exact ⟨(absurd (⟨(by first | exact Or.inl (by assumption) | exact Or.inr (by assumption)), (by first | exact Or.inl (by assumption) | exact Or.inr (by assumption)), (by first | exact Or.inl (by assumption) | exact Or.inr (by assumption)), by assumption, by assumption⟩ : (v < (65 : Int32) ∨ (90 : Int32) < v) ∧ (v < (97 : Int32) ∨ (122 : Int32) < v) ∧ (v < (48 : Int32) ∨ (57 : Int32) < v) ∧ ¬ (v = (43 : Int32)) ∧ ¬ (v = (47 : Int32))) (own_no v hm)), rfl, rfl⟩) (by decide) (by decide)
          · refine Go.via (fun _ => XS.icmpYes X0.here hx rfl (pc0 := 33) (pc' := 48) rfl (hb hby d29_33) rfl (flt (hc198 : ¬ ((57 : Int32) < v))).2.2.2 (by decide) (by decide)) ?_
            refine Go.via (fun _ => XS.iconst X0.here hx rfl (hb hby d29_48)) ?_
            refine Go.via (fun _ => XS.goto X0.here hx rfl (pc0 := 49) (pc' := 53) rfl (hb hby d29_49) (by decide) (by decide)) ?_
            show Go p e below (s₁.setTop (mkF m 53 #[.val (.int v)] [(.int (1 : Int32))])) _
            exact Go.fin X0 hlk (v := some (.int (1 : Int32))) (fun h => by rw [Bd.returns] at h; cases h) (fun fs hr => retN X0 hx (t := .boolean) Bd.returns (by simp) (hb hby d29_53) hr) (by rw [e0]; exact ⟨rfl, rfl, rfl⟩) (by decide) (by decide)
      · refine Go.via (fun _ => XS.icmpYes X0.here hx rfl (pc0 := 21) (pc' := 48) rfl (hb hby d29_21) rfl (flt (hc194 : ¬ ((122 : Int32) < v))).2.2.2 (by decide) (by decide)) ?_
        refine Go.via (fun _ => XS.iconst X0.here hx rfl (hb hby d29_48)) ?_
        refine Go.via (fun _ => XS.goto X0.here hx rfl (pc0 := 49) (pc' := 53) rfl (hb hby d29_49) (by decide) (by decide)) ?_
        show Go p e below (s₁.setTop (mkF m 53 #[.val (.int v)] [(.int (1 : Int32))])) _
        exact Go.fin X0 hlk (v := some (.int (1 : Int32))) (fun h => by rw [Bd.returns] at h; cases h) (fun fs hr => retN X0 hx (t := .boolean) Bd.returns (by simp) (hb hby d29_53) hr) (by rw [e0]; exact ⟨rfl, rfl, rfl⟩) (by decide) (by decide)
  · refine Go.via (fun _ => XS.icmpNo X0.here hx rfl (hb hby d29_3) rfl (flt (hc186 : ¬ (v < (65 : Int32)))).1) ?_
    refine Go.via (fun _ => XS.iloadN X0.here hx rfl (hb hby d29_6) rfl) ?_
    refine Go.via (fun _ => XS.bipush X0.here hx rfl (hb hby d29_7)) ?_
    show Go p e below (s₁.setTop (mkF m 9 #[.val (.int v)] [(.int (90 : Int32)), (.int v)])) _
    by_cases hc201 : (90 : Int32) < v
    · refine Go.via (fun _ => XS.icmpNo X0.here hx rfl (hb hby d29_9) rfl (tlt (hc201 : (90 : Int32) < v)).2.2.2) ?_
      show Go p e below (s₁.setTop (mkF m 12 #[.val (.int v)] [])) _
      refine Go.via (fun _ => XS.iloadN X0.here hx rfl (hb hby d29_12) rfl) ?_
      refine Go.via (fun _ => XS.bipush X0.here hx rfl (hb hby d29_13)) ?_
      by_cases hc202 : v < (97 : Int32)
      · refine Go.via (fun _ => XS.icmpYes X0.here hx rfl (pc0 := 15) (pc' := 24) rfl (hb hby d29_15) rfl (tlt (hc202 : v < (97 : Int32))).1 (by decide) (by decide)) ?_
        refine Go.via (fun _ => XS.iloadN X0.here hx rfl (hb hby d29_24) rfl) ?_
        refine Go.via (fun _ => XS.bipush X0.here hx rfl (hb hby d29_25)) ?_
        show Go p e below (s₁.setTop (mkF m 27 #[.val (.int v)] [(.int (48 : Int32)), (.int v)])) _
        by_cases hc203 : v < (48 : Int32)
        · refine Go.via (fun _ => XS.icmpYes X0.here hx rfl (pc0 := 27) (pc' := 36) rfl (hb hby d29_27) rfl (tlt (hc203 : v < (48 : Int32))).1 (by decide) (by decide)) ?_
          show Go p e below (s₁.setTop (mkF m 36 #[.val (.int v)] [])) _
          refine Go.via (fun _ => XS.iloadN X0.here hx rfl (hb hby d29_36) rfl) ?_
          refine Go.via (fun _ => XS.bipush X0.here hx rfl (hb hby d29_37)) ?_
          by_cases hc204 : v = (43 : Int32)
          · refine Go.via (fun _ => XS.icmpYes X0.here hx rfl (pc0 := 39) (pc' := 48) rfl (hb hby d29_39) rfl (teq (hc204 : v = (43 : Int32))).1 (by decide) (by decide)) ?_
            refine Go.via (fun _ => XS.iconst X0.here hx rfl (hb hby d29_48)) ?_
            refine Go.via (fun _ => XS.goto X0.here hx rfl (pc0 := 49) (pc' := 53) rfl (hb hby d29_49) (by decide) (by decide)) ?_
            show Go p e below (s₁.setTop (mkF m 53 #[.val (.int v)] [(.int (1 : Int32))])) _
            exact Go.fin X0 hlk (v := some (.int (1 : Int32))) (fun h => by rw [Bd.returns] at h; cases h) (fun fs hr => retN X0 hx (t := .boolean) Bd.returns (by simp) (hb hby d29_53) hr) (by rw [e0]; exact ⟨rfl, rfl, rfl⟩) (by decide) (by decide)
          · refine Go.via (fun _ => XS.icmpNo X0.here hx rfl (hb hby d29_39) rfl (feq (hc204 : ¬ (v = (43 : Int32)))).1) ?_
            refine Go.via (fun _ => XS.iloadN X0.here hx rfl (hb hby d29_42) rfl) ?_
            refine Go.via (fun _ => XS.bipush X0.here hx rfl (hb hby d29_43)) ?_
            show Go p e below (s₁.setTop (mkF m 45 #[.val (.int v)] [(.int (47 : Int32)), (.int v)])) _
            by_cases hc205 : v = (47 : Int32)
            · refine Go.via (fun _ => XS.icmpNo X0.here hx rfl (hb hby d29_45) rfl (teq (hc205 : v = (47 : Int32))).2) ?_
              show Go p e below (s₁.setTop (mkF m 48 #[.val (.int v)] [])) _
              refine Go.via (fun _ => XS.iconst X0.here hx rfl (hb hby d29_48)) ?_
              refine Go.via (fun _ => XS.goto X0.here hx rfl (pc0 := 49) (pc' := 53) rfl (hb hby d29_49) (by decide) (by decide)) ?_
              exact Go.fin X0 hlk (v := some (.int (1 : Int32))) (fun h => by rw [Bd.returns] at h; cases h) (fun fs hr => retN X0 hx (t := .boolean) Bd.returns (by simp) (hb hby d29_53) hr) (by rw [e0]; exact ⟨rfl, rfl, rfl⟩) (by decide) (by decide)
            · refine Go.via (fun _ => XS.icmpYes X0.here hx rfl (pc0 := 45) (pc' := 52) rfl (hb hby d29_45) rfl (feq (hc205 : ¬ (v = (47 : Int32)))).2 (by decide) (by decide)) ?_
              show Go p e below (s₁.setTop (mkF m 52 #[.val (.int v)] [])) _
              refine Go.via (fun _ => XS.iconst X0.here hx rfl (hb hby d29_52)) ?_
              exact Go.fin X0 hlk (v := some (.int (0 : Int32))) (fun h => by rw [Bd.returns] at h; cases h) (fun fs hr => retN X0 hx (t := .boolean) Bd.returns (by simp) (hb hby d29_53) hr) (by rw [e0]; exact ⟨(absurd (⟨(by first | exact Or.inl (by assumption) | exact Or.inr (by assumption)), (by first | exact Or.inl (by assumption) | exact Or.inr (by assumption)), (by first | exact Or.inl (by assumption) | exact Or.inr (by assumption)), by assumption, by assumption⟩ : (v < (65 : Int32) ∨ (90 : Int32) < v) ∧ (v < (97 : Int32) ∨ (122 : Int32) < v) ∧ (v < (48 : Int32) ∨ (57 : Int32) < v) ∧ ¬ (v = (43 : Int32)) ∧ ¬ (v = (47 : Int32))) (own_no v hm)), rfl, rfl⟩) (by decide) (by decide)
        · refine Go.via (fun _ => XS.icmpNo X0.here hx rfl (hb hby d29_27) rfl (flt (hc203 : ¬ (v < (48 : Int32)))).1) ?_
          show Go p e below (s₁.setTop (mkF m 30 #[.val (.int v)] [])) _
          refine Go.via (fun _ => XS.iloadN X0.here hx rfl (hb hby d29_30) rfl) ?_
          refine Go.via (fun _ => XS.bipush X0.here hx rfl (hb hby d29_31)) ?_
          by_cases hc206 : (57 : Int32) < v
          · refine Go.via (fun _ => XS.icmpNo X0.here hx rfl (hb hby d29_33) rfl (tlt (hc206 : (57 : Int32) < v)).2.2.2) ?_
            refine Go.via (fun _ => XS.iloadN X0.here hx rfl (hb hby d29_36) rfl) ?_
            refine Go.via (fun _ => XS.bipush X0.here hx rfl (hb hby d29_37)) ?_
            show Go p e below (s₁.setTop (mkF m 39 #[.val (.int v)] [(.int (43 : Int32)), (.int v)])) _
            by_cases hc207 : v = (43 : Int32)
            · refine Go.via (fun _ => XS.icmpYes X0.here hx rfl (pc0 := 39) (pc' := 48) rfl (hb hby d29_39) rfl (teq (hc207 : v = (43 : Int32))).1 (by decide) (by decide)) ?_
              show Go p e below (s₁.setTop (mkF m 48 #[.val (.int v)] [])) _
              refine Go.via (fun _ => XS.iconst X0.here hx rfl (hb hby d29_48)) ?_
              refine Go.via (fun _ => XS.goto X0.here hx rfl (pc0 := 49) (pc' := 53) rfl (hb hby d29_49) (by decide) (by decide)) ?_
              exact Go.fin X0 hlk (v := some (.int (1 : Int32))) (fun h => by rw [Bd.returns] at h; cases h) (fun fs hr => retN X0 hx (t := .boolean) Bd.returns (by simp) (hb hby d29_53) hr) (by rw [e0]; exact ⟨rfl, rfl, rfl⟩) (by decide) (by decide)
            · refine Go.via (fun _ => XS.icmpNo X0.here hx rfl (hb hby d29_39) rfl (feq (hc207 : ¬ (v = (43 : Int32)))).1) ?_
              show Go p e below (s₁.setTop (mkF m 42 #[.val (.int v)] [])) _
              refine Go.via (fun _ => XS.iloadN X0.here hx rfl (hb hby d29_42) rfl) ?_
              refine Go.via (fun _ => XS.bipush X0.here hx rfl (hb hby d29_43)) ?_
              by_cases hc208 : v = (47 : Int32)
              · refine Go.via (fun _ => XS.icmpNo X0.here hx rfl (hb hby d29_45) rfl (teq (hc208 : v = (47 : Int32))).2) ?_
                refine Go.via (fun _ => XS.iconst X0.here hx rfl (hb hby d29_48)) ?_
                refine Go.via (fun _ => XS.goto X0.here hx rfl (pc0 := 49) (pc' := 53) rfl (hb hby d29_49) (by decide) (by decide)) ?_
                show Go p e below (s₁.setTop (mkF m 53 #[.val (.int v)] [(.int (1 : Int32))])) _
                exact Go.fin X0 hlk (v := some (.int (1 : Int32))) (fun h => by rw [Bd.returns] at h; cases h) (fun fs hr => retN X0 hx (t := .boolean) Bd.returns (by simp) (hb hby d29_53) hr) (by rw [e0]; exact ⟨rfl, rfl, rfl⟩) (by decide) (by decide)
              · refine Go.via (fun _ => XS.icmpYes X0.here hx rfl (pc0 := 45) (pc' := 52) rfl (hb hby d29_45) rfl (feq (hc208 : ¬ (v = (47 : Int32)))).2 (by decide) (by decide)) ?_
                refine Go.via (fun _ => XS.iconst X0.here hx rfl (hb hby d29_52)) ?_
                exact Go.fin X0 hlk (v := some (.int (0 : Int32))) (fun h => by rw [Bd.returns] at h; cases h) (fun fs hr => retN X0 hx (t := .boolean) Bd.returns (by simp) (hb hby d29_53) hr) (by rw [e0]; exact ⟨(absurd (⟨(by first | exact Or.inl (by assumption) | exact Or.inr (by assumption)), (by first | exact Or.inl (by assumption) | exact Or.inr (by assumption)), (by first | exact Or.inl (by assumption) | exact Or.inr (by assumption)), by assumption, by assumption⟩ : (v < (65 : Int32) ∨ (90 : Int32) < v) ∧ (v < (97 : Int32) ∨ (122 : Int32) < v) ∧ (v < (48 : Int32) ∨ (57 : Int32) < v) ∧ ¬ (v = (43 : Int32)) ∧ ¬ (v = (47 : Int32))) (own_no v hm)), rfl, rfl⟩) (by decide) (by decide)
          · refine Go.via (fun _ => XS.icmpYes X0.here hx rfl (pc0 := 33) (pc' := 48) rfl (hb hby d29_33) rfl (flt (hc206 : ¬ ((57 : Int32) < v))).2.2.2 (by decide) (by decide)) ?_
            refine Go.via (fun _ => XS.iconst X0.here hx rfl (hb hby d29_48)) ?_
            refine Go.via (fun _ => XS.goto X0.here hx rfl (pc0 := 49) (pc' := 53) rfl (hb hby d29_49) (by decide) (by decide)) ?_
            show Go p e below (s₁.setTop (mkF m 53 #[.val (.int v)] [(.int (1 : Int32))])) _
            exact Go.fin X0 hlk (v := some (.int (1 : Int32))) (fun h => by rw [Bd.returns] at h; cases h) (fun fs hr => retN X0 hx (t := .boolean) Bd.returns (by simp) (hb hby d29_53) hr) (by rw [e0]; exact ⟨rfl, rfl, rfl⟩) (by decide) (by decide)
      · refine Go.via (fun _ => XS.icmpNo X0.here hx rfl (hb hby d29_15) rfl (flt (hc202 : ¬ (v < (97 : Int32)))).1) ?_
        refine Go.via (fun _ => XS.iloadN X0.here hx rfl (hb hby d29_18) rfl) ?_
        refine Go.via (fun _ => XS.bipush X0.here hx rfl (hb hby d29_19)) ?_
        show Go p e below (s₁.setTop (mkF m 21 #[.val (.int v)] [(.int (122 : Int32)), (.int v)])) _
        by_cases hc209 : (122 : Int32) < v
        · refine Go.via (fun _ => XS.icmpNo X0.here hx rfl (hb hby d29_21) rfl (tlt (hc209 : (122 : Int32) < v)).2.2.2) ?_
          show Go p e below (s₁.setTop (mkF m 24 #[.val (.int v)] [])) _
          refine Go.via (fun _ => XS.iloadN X0.here hx rfl (hb hby d29_24) rfl) ?_
          refine Go.via (fun _ => XS.bipush X0.here hx rfl (hb hby d29_25)) ?_
          by_cases hc210 : v < (48 : Int32)
          · refine Go.via (fun _ => XS.icmpYes X0.here hx rfl (pc0 := 27) (pc' := 36) rfl (hb hby d29_27) rfl (tlt (hc210 : v < (48 : Int32))).1 (by decide) (by decide)) ?_
            refine Go.via (fun _ => XS.iloadN X0.here hx rfl (hb hby d29_36) rfl) ?_
            refine Go.via (fun _ => XS.bipush X0.here hx rfl (hb hby d29_37)) ?_
            show Go p e below (s₁.setTop (mkF m 39 #[.val (.int v)] [(.int (43 : Int32)), (.int v)])) _
            by_cases hc211 : v = (43 : Int32)
            · refine Go.via (fun _ => XS.icmpYes X0.here hx rfl (pc0 := 39) (pc' := 48) rfl (hb hby d29_39) rfl (teq (hc211 : v = (43 : Int32))).1 (by decide) (by decide)) ?_
              show Go p e below (s₁.setTop (mkF m 48 #[.val (.int v)] [])) _
              refine Go.via (fun _ => XS.iconst X0.here hx rfl (hb hby d29_48)) ?_
              refine Go.via (fun _ => XS.goto X0.here hx rfl (pc0 := 49) (pc' := 53) rfl (hb hby d29_49) (by decide) (by decide)) ?_
              exact Go.fin X0 hlk (v := some (.int (1 : Int32))) (fun h => by rw [Bd.returns] at h; cases h) (fun fs hr => retN X0 hx (t := .boolean) Bd.returns (by simp) (hb hby d29_53) hr) (by rw [e0]; exact ⟨rfl, rfl, rfl⟩) (by decide) (by decide)
            · refine Go.via (fun _ => XS.icmpNo X0.here hx rfl (hb hby d29_39) rfl (feq (hc211 : ¬ (v = (43 : Int32)))).1) ?_
              show Go p e below (s₁.setTop (mkF m 42 #[.val (.int v)] [])) _
              refine Go.via (fun _ => XS.iloadN X0.here hx rfl (hb hby d29_42) rfl) ?_
              refine Go.via (fun _ => XS.bipush X0.here hx rfl (hb hby d29_43)) ?_
              by_cases hc212 : v = (47 : Int32)
              · refine Go.via (fun _ => XS.icmpNo X0.here hx rfl (hb hby d29_45) rfl (teq (hc212 : v = (47 : Int32))).2) ?_
                refine Go.via (fun _ => XS.iconst X0.here hx rfl (hb hby d29_48)) ?_
                refine Go.via (fun _ => XS.goto X0.here hx rfl (pc0 := 49) (pc' := 53) rfl (hb hby d29_49) (by decide) (by decide)) ?_
                show Go p e below (s₁.setTop (mkF m 53 #[.val (.int v)] [(.int (1 : Int32))])) _
                exact Go.fin X0 hlk (v := some (.int (1 : Int32))) (fun h => by rw [Bd.returns] at h; cases h) (fun fs hr => retN X0 hx (t := .boolean) Bd.returns (by simp) (hb hby d29_53) hr) (by rw [e0]; exact ⟨rfl, rfl, rfl⟩) (by decide) (by decide)
              · refine Go.via (fun _ => XS.icmpYes X0.here hx rfl (pc0 := 45) (pc' := 52) rfl (hb hby d29_45) rfl (feq (hc212 : ¬ (v = (47 : Int32)))).2 (by decide) (by decide)) ?_
                refine Go.via (fun _ => XS.iconst X0.here hx rfl (hb hby d29_52)) ?_
                exact Go.fin X0 hlk (v := some (.int (0 : Int32))) (fun h => by rw [Bd.returns] at h; cases h) (fun fs hr => retN X0 hx (t := .boolean) Bd.returns (by simp) (hb hby d29_53) hr) (by rw [e0]; exact ⟨(absurd (⟨(by first | exact Or.inl (by assumption) | exact Or.inr (by assumption)), (by first | exact Or.inl (by assumption) | exact Or.inr (by assumption)), (by first | exact Or.inl (by assumption) | exact Or.inr (by assumption)), by assumption, by assumption⟩ : (v < (65 : Int32) ∨ (90 : Int32) < v) ∧ (v < (97 : Int32) ∨ (122 : Int32) < v) ∧ (v < (48 : Int32) ∨ (57 : Int32) < v) ∧ ¬ (v = (43 : Int32)) ∧ ¬ (v = (47 : Int32))) (own_no v hm)), rfl, rfl⟩) (by decide) (by decide)
          · refine Go.via (fun _ => XS.icmpNo X0.here hx rfl (hb hby d29_27) rfl (flt (hc210 : ¬ (v < (48 : Int32)))).1) ?_
            refine Go.via (fun _ => XS.iloadN X0.here hx rfl (hb hby d29_30) rfl) ?_
            refine Go.via (fun _ => XS.bipush X0.here hx rfl (hb hby d29_31)) ?_
            show Go p e below (s₁.setTop (mkF m 33 #[.val (.int v)] [(.int (57 : Int32)), (.int v)])) _
            by_cases hc213 : (57 : Int32) < v
            · refine Go.via (fun _ => XS.icmpNo X0.here hx rfl (hb hby d29_33) rfl (tlt (hc213 : (57 : Int32) < v)).2.2.2) ?_
              show Go p e below (s₁.setTop (mkF m 36 #[.val (.int v)] [])) _
              refine Go.via (fun _ => XS.iloadN X0.here hx rfl (hb hby d29_36) rfl) ?_
              refine Go.via (fun _ => XS.bipush X0.here hx rfl (hb hby d29_37)) ?_
              by_cases hc214 : v = (43 : Int32)
              · refine Go.via (fun _ => XS.icmpYes X0.here hx rfl (pc0 := 39) (pc' := 48) rfl (hb hby d29_39) rfl (teq (hc214 : v = (43 : Int32))).1 (by decide) (by decide)) ?_
                refine Go.via (fun _ => XS.iconst X0.here hx rfl (hb hby d29_48)) ?_
                refine Go.via (fun _ => XS.goto X0.here hx rfl (pc0 := 49) (pc' := 53) rfl (hb hby d29_49) (by decide) (by decide)) ?_
                show Go p e below (s₁.setTop (mkF m 53 #[.val (.int v)] [(.int (1 : Int32))])) _
                exact Go.fin X0 hlk (v := some (.int (1 : Int32))) (fun h => by rw [Bd.returns] at h; cases h) (fun fs hr => retN X0 hx (t := .boolean) Bd.returns (by simp) (hb hby d29_53) hr) (by rw [e0]; exact ⟨rfl, rfl, rfl⟩) (by decide) (by decide)
              · refine Go.via (fun _ => XS.icmpNo X0.here hx rfl (hb hby d29_39) rfl (feq (hc214 : ¬ (v = (43 : Int32)))).1) ?_
                refine Go.via (fun _ => XS.iloadN X0.here hx rfl (hb hby d29_42) rfl) ?_
                refine Go.via (fun _ => XS.bipush X0.here hx rfl (hb hby d29_43)) ?_
                show Go p e below (s₁.setTop (mkF m 45 #[.val (.int v)] [(.int (47 : Int32)), (.int v)])) _
                by_cases hc215 : v = (47 : Int32)
                · refine Go.via (fun _ => XS.icmpNo X0.here hx rfl (hb hby d29_45) rfl (teq (hc215 : v = (47 : Int32))).2) ?_
                  show Go p e below (s₁.setTop (mkF m 48 #[.val (.int v)] [])) _
                  refine Go.via (fun _ => XS.iconst X0.here hx rfl (hb hby d29_48)) ?_
                  refine Go.via (fun _ => XS.goto X0.here hx rfl (pc0 := 49) (pc' := 53) rfl (hb hby d29_49) (by decide) (by decide)) ?_
                  exact Go.fin X0 hlk (v := some (.int (1 : Int32))) (fun h => by rw [Bd.returns] at h; cases h) (fun fs hr => retN X0 hx (t := .boolean) Bd.returns (by simp) (hb hby d29_53) hr) (by rw [e0]; exact ⟨rfl, rfl, rfl⟩) (by decide) (by decide)
                · refine Go.via (fun _ => XS.icmpYes X0.here hx rfl (pc0 := 45) (pc' := 52) rfl (hb hby d29_45) rfl (feq (hc215 : ¬ (v = (47 : Int32)))).2 (by decide) (by decide)) ?_
                  show Go p e below (s₁.setTop (mkF m 52 #[.val (.int v)] [])) _
                  refine Go.via (fun _ => XS.iconst X0.here hx rfl (hb hby d29_52)) ?_
                  exact Go.fin X0 hlk (v := some (.int (0 : Int32))) (fun h => by rw [Bd.returns] at h; cases h) (fun fs hr => retN X0 hx (t := .boolean) Bd.returns (by simp) (hb hby d29_53) hr) (by rw [e0]; exact ⟨(absurd (⟨(by first | exact Or.inl (by assumption) | exact Or.inr (by assumption)), (by first | exact Or.inl (by assumption) | exact Or.inr (by assumption)), (by first | exact Or.inl (by assumption) | exact Or.inr (by assumption)), by assumption, by assumption⟩ : (v < (65 : Int32) ∨ (90 : Int32) < v) ∧ (v < (97 : Int32) ∨ (122 : Int32) < v) ∧ (v < (48 : Int32) ∨ (57 : Int32) < v) ∧ ¬ (v = (43 : Int32)) ∧ ¬ (v = (47 : Int32))) (own_no v hm)), rfl, rfl⟩) (by decide) (by decide)
            · refine Go.via (fun _ => XS.icmpYes X0.here hx rfl (pc0 := 33) (pc' := 48) rfl (hb hby d29_33) rfl (flt (hc213 : ¬ ((57 : Int32) < v))).2.2.2 (by decide) (by decide)) ?_
              show Go p e below (s₁.setTop (mkF m 48 #[.val (.int v)] [])) _
              refine Go.via (fun _ => XS.iconst X0.here hx rfl (hb hby d29_48)) ?_
              refine Go.via (fun _ => XS.goto X0.here hx rfl (pc0 := 49) (pc' := 53) rfl (hb hby d29_49) (by decide) (by decide)) ?_
              exact Go.fin X0 hlk (v := some (.int (1 : Int32))) (fun h => by rw [Bd.returns] at h; cases h) (fun fs hr => retN X0 hx (t := .boolean) Bd.returns (by simp) (hb hby d29_53) hr) (by rw [e0]; exact ⟨rfl, rfl, rfl⟩) (by decide) (by decide)
        · refine Go.via (fun _ => XS.icmpYes X0.here hx rfl (pc0 := 21) (pc' := 48) rfl (hb hby d29_21) rfl (flt (hc209 : ¬ ((122 : Int32) < v))).2.2.2 (by decide) (by decide)) ?_
          show Go p e below (s₁.setTop (mkF m 48 #[.val (.int v)] [])) _
          refine Go.via (fun _ => XS.iconst X0.here hx rfl (hb hby d29_48)) ?_
          refine Go.via (fun _ => XS.goto X0.here hx rfl (pc0 := 49) (pc' := 53) rfl (hb hby d29_49) (by decide) (by decide)) ?_
          exact Go.fin X0 hlk (v := some (.int (1 : Int32))) (fun h => by rw [Bd.returns] at h; cases h) (fun fs hr => retN X0 hx (t := .boolean) Bd.returns (by simp) (hb hby d29_53) hr) (by rw [e0]; exact ⟨rfl, rfl, rfl⟩) (by decide) (by decide)
    · refine Go.via (fun _ => XS.icmpYes X0.here hx rfl (pc0 := 9) (pc' := 48) rfl (hb hby d29_9) rfl (flt (hc201 : ¬ ((90 : Int32) < v))).2.2.2 (by decide) (by decide)) ?_
      show Go p e below (s₁.setTop (mkF m 48 #[.val (.int v)] [])) _
      refine Go.via (fun _ => XS.iconst X0.here hx rfl (hb hby d29_48)) ?_
      refine Go.via (fun _ => XS.goto X0.here hx rfl (pc0 := 49) (pc' := 53) rfl (hb hby d29_49) (by decide) (by decide)) ?_
      exact Go.fin X0 hlk (v := some (.int (1 : Int32))) (fun h => by rw [Bd.returns] at h; cases h) (fun fs hr => retN X0 hx (t := .boolean) Bd.returns (by simp) (hb hby d29_53) hr) (by rw [e0]; exact ⟨rfl, rfl, rfl⟩) (by decide) (by decide)
theorem d11_0 : decode prog_15_method_11_code 0 = .ok (.aload_n 1, 1) := by decide +kernel
theorem d11_1 : decode prog_15_method_11_code 1 = .ok (.invokevirtual 99, 3) := by decide +kernel
theorem pd__28_29I : parseMethodDescriptor "()I" = some ⟨[], some .int⟩ := by decide +kernel
theorem d11_4 : decode prog_15_method_11_code 4 = .ok (.iload_n 2, 1) := by decide +kernel
theorem d11_5 : decode prog_15_method_11_code 5 = .ok (.if_icmp .le 22, 3) := by decide +kernel
theorem d11_27 : decode prog_15_method_11_code 27 = .ok (.iconst 0, 1) := by decide +kernel
theorem d11_28 : decode prog_15_method_11_code 28 = .ok (.istore_n 3, 1) := by decide +kernel
theorem d11_29 : decode prog_15_method_11_code 29 = .ok (.iload_n 3, 1) := by decide +kernel
theorem d11_30 : decode prog_15_method_11_code 30 = .ok (.aload_n 1, 1) := by decide +kernel
theorem d11_31 : decode prog_15_method_11_code 31 = .ok (.invokevirtual 99, 3) := by decide +kernel
theorem d11_34 : decode prog_15_method_11_code 34 = .ok (.if_icmp .ge 46, 3) := by decide +kernel
theorem d11_80 : decode prog_15_method_11_code 80 = .ok (.return_, 1) := by decide +kernel
theorem d11_37 : decode prog_15_method_11_code 37 = .ok (.aload_n 1, 1) := by decide +kernel
theorem d11_38 : decode prog_15_method_11_code 38 = .ok (.iload_n 3, 1) := by decide +kernel
theorem d11_39 : decode prog_15_method_11_code 39 = .ok (.invokevirtual 103, 3) := by decide +kernel
theorem pd__28I_29C : parseMethodDescriptor "(I)C" = some ⟨[.int], some .char⟩ := by decide +kernel
theorem d11_42 : decode prog_15_method_11_code 42 = .ok (.istore 4, 2) := by decide +kernel
theorem d11_44 : decode prog_15_method_11_code 44 = .ok (.iload 4, 2) := by decide +kernel
theorem d11_46 : decode prog_15_method_11_code 46 = .ok (.invokestatic 128, 3) := by decide +kernel
theorem pd__28C_29Z : parseMethodDescriptor "(C)Z" = some ⟨[.char], some .boolean⟩ := by decide +kernel
theorem d11_49 : decode prog_15_method_11_code 49 = .ok (.ifCond .ne 25, 3) := by decide +kernel
theorem d11_74 : decode prog_15_method_11_code 74 = .ok (.iinc 3 1, 3) := by decide +kernel
theorem d11_77 : decode prog_15_method_11_code 77 = .ok (.goto (-48), 3) := by decide +kernel
theorem pn_11 : plainName cCD = true := by first | (simp [plainName, overriddenIn]; done) | decide +kernel
theorem ef_11 (m : MethodId) (x0 : Addr) (x1 : Addr) (x2 : Int32) : entryFrame m #[(.ref x0), (.ref x1), (.int x2)] 5 = mkF m 0 #[.val (.ref x0), .val (.ref x1), .val (.int x2), .unset, .unset] [] := by first | (simp [entryFrame, mkF, argsToLocals, Value.category]; done) | rfl
def Q_rmCk (Z : State) (nm : Addr) (a : Addr) (mx : Int32) (b_ : Addr) (xs : List Int32) (cs : Int32) (fv : Value) (h0 : Heap) (n0 : Nat) (vQ : Option Value) (hQ : Heap) (LQ : List Loc) : Prop := vQ = none ∧ LQ = [] ∧ hQ = h0
set_option maxRecDepth 65536 in
set_option maxHeartbeats 40000000 in
theorem rmCk (l : Launch) (Z : State) (a0 : Array Value) (hw : ∀ d ∈ tables_1, d.before a0 Z = true) (ws : List Jvm.Cond) (nm : Addr) (a : Addr) (mx : Int32) (b_ : Addr) (xs : List Int32) (cs : Int32) (fv : Value) (h0 : Heap) (n0 : Nat) (Z0 : n0 ≤ h0.size) (P0 : Exa Z h0 a cST) (P1 : Fld Z h0 a cST "coder" "B" (.int (0 : Int32))) (P2 : Fld Z h0 a cST "value" "[B" (.ref b_)) (P3 : Ia Z h0 b_ .byte xs) (P4 : Old Z n0 h0) (zCS : Sta Z Z.heap cST "COMPACT_STRINGS" "Z" (.int cs)) (zF : Sta Z Z.heap cPR "SIOOBE_FORMATTER" "Ljava/util/function/BiFunction;" fv) (hX : Sg xs) (hm0 : ¬ mx < (0 : Int32)) (hm1 : ¬ mx < (1 : Int32)) (hm2 : ¬ mx < (2 : Int32)) (hcs : ¬ (cs = (0 : Int32))) (hfv : fv = .null ∨ ∃ fa : Addr, fv = .ref fa) :
    MetFree l (⟨cCD, "checkSignature", "(Ljava/lang/String;Ljava/lang/String;I)V"⟩ : MethodName) (head1 (Jvm.Cond.code (⟨cCD, "checkSignature", "(Ljava/lang/String;Ljava/lang/String;I)V"⟩ : MethodName) prog_15_method_11_code 5 none :: ws) ({ frames := 4, cells := 0, slots := 0, locals := 53 } : Room)) (fun aQ UQ => aQ = #[(.ref nm), (.ref a), (.int mx)] ∧ Z.Warmed39 UQ.vm ∧ UQ.heap = h0) (fun _ _ _ _ _ => True) (fun _ UQ oQ UR => ∃ vQ LQ, oQ = .returned vQ ∧ Q_rmCk Z nm a mx b_ xs cs fv h0 n0 vQ UR.heap LQ ∧ FrameEnd UQ oQ UR LQ ({ frames := 4, cells := 0, slots := 0, locals := 53 } : Room).cells ({ frames := 4, cells := 0, slots := 0, locals := 53 } : Room).slots) := by
  refine MetFree.of_bodySF (plainFor_of_name pn_11) hisR ?_
  intro p e s m args below meth c s₁ Bd hml0 hP hK
  obtain ⟨rfl, hZ, hh⟩ := hP
  have hx := Bd.exec
  have hby := Bd.bytes
  have hlk := Bd.notSynchronized
  have hml : c.maxLocals = 5 := hml0
  have hown : s.vm.findClass cCD = some m.cls := findClass_of_methodNamed Bd.named
  have hnm := (name_of_methodNamed Bd.named Bd.method).1
  have X0 : Stand p l e ({ frames := 4, cells := 0, slots := 0, locals := 53 } : Room) s m #[(.ref nm), (.ref a), (.int mx)] below meth c s₁ [] 0 0 := Stand.of_body Bd
  have e0 : s₁.heap = h0 := by rw [← hh, Bd.state]; rfl
  have N0 := Fr.nil n0
  show Go p e below _ (Done s (Q_rmCk Z nm a mx b_ xs cs fv h0 n0) ({ frames := 4, cells := 0, slots := 0, locals := 53 } : Room).cells ({ frames := 4, cells := 0, slots := 0, locals := 53 } : Room).slots)
  refine Go.via (fun tQ kQ => castTop (ef_11 m nm a mx) kQ) ?_
  show Go p e below (s₁.setTop (mkF m 0 #[.val (.ref nm), .val (.ref a), .val (.int mx), .unset, .unset] [])) _
  rcases hX with rfl | ⟨y0, hy0, rfl⟩ | ⟨y0, y1, hy0, hy1, rfl⟩
  · show Go p e below (s₁.setTop (mkF m 0 #[.val (.ref nm), .val (.ref a), .val (.int mx), .unset, .unset] [])) _
    refine Go.via (fun _ => XS.aloadN X0.here hx rfl (hb hby d11_0) rfl rfl) ?_
    obtain ⟨cq216, kq216, q216a, q216b, q216c⟩ := isOf hZ e0 P0
    obtain ⟨r216, _, ⟨T216, L216, k216, n216⟩, -, X216, ⟨Lc216, hQ216, l216, y216, z216⟩, st216⟩ := X0.virtualBack hx (y := (⟨cST, "length", "()I"⟩ : MethodName)) (z := (⟨cST, "length", "()I"⟩ : MethodName)) hown (mvT hZ (tw hw 60 rfl)) (mvT hZ (tw hw 61 rfl)) (notFace_of_selects (args := #[]) (mvT hZ (tw hw 63 rfl))) (mvT hZ (tw hw 63 rfl)) (mvT hZ (tw hw 62 rfl)) (by decide) (backOf (W := 0) (rmLn0 l Z a0 hw [] a cs b_ h0 n0 Z0 P0 P1 P2 P3 P4 zCS hcs) hZ (tw hw 64 rfl) (tw hw 20 rfl) (by decide) (by decide)) q216a q216c (g := (mkF m 1 #[.val (.ref nm), .val (.ref a), .val (.int mx), .unset, .unset] [(.ref a)])) rfl (by rw [hml]; rfl) (Steps.refl _) (argsL := []) (rest := []) (lenOf pd__28_29I rfl) rfl (by show 2 * 0 + _ ≤ _; exact Nat.le_of_eq rfl) (hb hby d11_1) (fun _ _ => ⟨rfl, e0, (by decide : 0 + 0 ≤ _), (by decide : 0 + 0 ≤ _)⟩)
    dsimp only [Pt.U, Pt.locs, Pt.cells, Pt.slots] at X216 l216 y216 z216 st216 hQ216
    rw [l216, y216, z216] at X216
    clear l216 y216 z216
    obtain ⟨hr216, N216q, eh216⟩ := hQ216
    rw [hr216] at st216
    clear hr216
    rw [N216q, List.append_nil] at X216
    refine Go.via (fun _ kQ => st216.trans kQ) ?_
    clear st216
    have e216 : T216.heap = h0 := eh216
    clear X0 e0
    show Go p e below (T216.setTop (mkF m 4 #[.val (.ref nm), .val (.ref a), .val (.int mx), .unset, .unset] [(.int (0 : Int32))])) _
    refine Go.via (fun _ => XS.iloadN X216.here hx rfl (hb hby d11_4) rfl) ?_
    refine Go.via (fun _ => XS.icmpYes X216.here hx rfl (pc0 := 5) (pc' := 27) rfl (hb hby d11_5) rfl (flt (hm0 : ¬ (mx < (0 : Int32)))).2.2.2 (by decide) (by decide)) ?_
    show Go p e below (T216.setTop (mkF m 27 #[.val (.ref nm), .val (.ref a), .val (.int mx), .unset, .unset] [])) _
    refine Go.via (fun _ => XS.iconst X216.here hx rfl (hb hby d11_27)) ?_
    refine Go.via (fun _ => XS.istoreN X216.here hx rfl (hb hby d11_28) rfl (l' := #[.val (.ref nm), .val (.ref a), .val (.int mx), .val (.int (0 : Int32)), .unset]) rfl) ?_
    show Go p e below (T216.setTop (mkF m 29 #[.val (.ref nm), .val (.ref a), .val (.int mx), .val (.int (0 : Int32)), .unset] [])) _
    refine Go.via (fun _ => XS.iloadN X216.here hx rfl (hb hby d11_29) rfl) ?_
    refine Go.via (fun _ => XS.aloadN X216.here hx rfl (hb hby d11_30) rfl rfl) ?_
    obtain ⟨cq217, kq217, q217a, q217b, q217c⟩ := isOf hZ e216 P0
    obtain ⟨r217, _, ⟨T217, L217, k217, n217⟩, -, X217, ⟨Lc217, hQ217, l217, y217, z217⟩, st217⟩ := X216.virtualBack hx (y := (⟨cST, "length", "()I"⟩ : MethodName)) (z := (⟨cST, "length", "()I"⟩ : MethodName)) hown (mvT hZ (tw hw 60 rfl)) (mvT hZ (tw hw 61 rfl)) (notFace_of_selects (args := #[]) (mvT hZ (tw hw 63 rfl))) (mvT hZ (tw hw 63 rfl)) (mvT hZ (tw hw 62 rfl)) (by decide) (backOf (W := 1) (rmLn0 l Z a0 hw [] a cs b_ h0 n0 Z0 P0 P1 P2 P3 P4 zCS hcs) hZ (tw hw 64 rfl) (tw hw 20 rfl) (by decide) (by decide)) q217a q217c (g := (mkF m 31 #[.val (.ref nm), .val (.ref a), .val (.int mx), .val (.int (0 : Int32)), .unset] [(.ref a), (.int (0 : Int32))])) rfl (by rw [hml]; rfl) (Steps.refl _) (argsL := []) (rest := [(.int (0 : Int32))]) (lenOf pd__28_29I rfl) rfl (by show 2 * 0 + _ ≤ _; exact Nat.le_of_eq rfl) (hb hby d11_31) (fun _ _ => ⟨rfl, e216, (by decide : 0 + 0 ≤ _), (by decide : 0 + 0 ≤ _)⟩)
    dsimp only [Pt.U, Pt.locs, Pt.cells, Pt.slots] at X217 l217 y217 z217 st217 hQ217
    rw [l217, y217, z217] at X217
    clear l217 y217 z217
    obtain ⟨hr217, N217q, eh217⟩ := hQ217
    rw [hr217] at st217
    clear hr217
    rw [N217q, List.append_nil] at X217
    refine Go.via (fun _ kQ => st217.trans kQ) ?_
    clear st217
    have e217 : T217.heap = h0 := eh217
    clear X216 e216
    show Go p e below (T217.setTop (mkF m 34 #[.val (.ref nm), .val (.ref a), .val (.int mx), .val (.int (0 : Int32)), .unset] [(.int (0 : Int32)), (.int (0 : Int32))])) _
    refine Go.via (fun _ => XS.icmpYes X217.here hx rfl (pc0 := 34) (pc' := 80) rfl (hb hby d11_34) rfl (flt ((by decide) : ¬ ((0 : Int32) < (0 : Int32)))).2.1 (by decide) (by decide)) ?_
    show Go p e below (T217.setTop (mkF m 80 #[.val (.ref nm), .val (.ref a), .val (.int mx), .val (.int (0 : Int32)), .unset] [])) _
    exact Go.fin X217 hlk (v := none) (fun _ => rfl) (fun fs hr => X217.returnOut hx Bd.returns (hb hby d11_80) hr) (by rw [e217]; exact ⟨rfl, rfl, rfl⟩) (by decide) (by decide)
  · show Go p e below (s₁.setTop (mkF m 0 #[.val (.ref nm), .val (.ref a), .val (.int mx), .unset, .unset] [])) _
    refine Go.via (fun _ => XS.aloadN X0.here hx rfl (hb hby d11_0) rfl rfl) ?_
    obtain ⟨cq218, kq218, q218a, q218b, q218c⟩ := isOf hZ e0 P0
    obtain ⟨r218, _, ⟨T218, L218, k218, n218⟩, -, X218, ⟨Lc218, hQ218, l218, y218, z218⟩, st218⟩ := X0.virtualBack hx (y := (⟨cST, "length", "()I"⟩ : MethodName)) (z := (⟨cST, "length", "()I"⟩ : MethodName)) hown (mvT hZ (tw hw 60 rfl)) (mvT hZ (tw hw 61 rfl)) (notFace_of_selects (args := #[]) (mvT hZ (tw hw 63 rfl))) (mvT hZ (tw hw 63 rfl)) (mvT hZ (tw hw 62 rfl)) (by decide) (backOf (W := 0) (rmLn1 l Z a0 hw [] a cs b_ y0 h0 n0 Z0 P0 P1 P2 P3 P4 zCS hcs) hZ (tw hw 64 rfl) (tw hw 20 rfl) (by decide) (by decide)) q218a q218c (g := (mkF m 1 #[.val (.ref nm), .val (.ref a), .val (.int mx), .unset, .unset] [(.ref a)])) rfl (by rw [hml]; rfl) (Steps.refl _) (argsL := []) (rest := []) (lenOf pd__28_29I rfl) rfl (by show 2 * 0 + _ ≤ _; exact Nat.le_of_eq rfl) (hb hby d11_1) (fun _ _ => ⟨rfl, e0, (by decide : 0 + 0 ≤ _), (by decide : 0 + 0 ≤ _)⟩)
    dsimp only [Pt.U, Pt.locs, Pt.cells, Pt.slots] at X218 l218 y218 z218 st218 hQ218
    rw [l218, y218, z218] at X218
    clear l218 y218 z218
    obtain ⟨hr218, N218q, eh218⟩ := hQ218
    rw [hr218] at st218
    clear hr218
    rw [N218q, List.append_nil] at X218
    refine Go.via (fun _ kQ => st218.trans kQ) ?_
    clear st218
    have e218 : T218.heap = h0 := eh218
    clear X0 e0
    show Go p e below (T218.setTop (mkF m 4 #[.val (.ref nm), .val (.ref a), .val (.int mx), .unset, .unset] [(.int (1 : Int32))])) _
    refine Go.via (fun _ => XS.iloadN X218.here hx rfl (hb hby d11_4) rfl) ?_
    refine Go.via (fun _ => XS.icmpYes X218.here hx rfl (pc0 := 5) (pc' := 27) rfl (hb hby d11_5) rfl (flt (hm1 : ¬ (mx < (1 : Int32)))).2.2.2 (by decide) (by decide)) ?_
    show Go p e below (T218.setTop (mkF m 27 #[.val (.ref nm), .val (.ref a), .val (.int mx), .unset, .unset] [])) _
    refine Go.via (fun _ => XS.iconst X218.here hx rfl (hb hby d11_27)) ?_
    refine Go.via (fun _ => XS.istoreN X218.here hx rfl (hb hby d11_28) rfl (l' := #[.val (.ref nm), .val (.ref a), .val (.int mx), .val (.int (0 : Int32)), .unset]) rfl) ?_
    show Go p e below (T218.setTop (mkF m 29 #[.val (.ref nm), .val (.ref a), .val (.int mx), .val (.int (0 : Int32)), .unset] [])) _
    refine Go.via (fun _ => XS.iloadN X218.here hx rfl (hb hby d11_29) rfl) ?_
    refine Go.via (fun _ => XS.aloadN X218.here hx rfl (hb hby d11_30) rfl rfl) ?_
    obtain ⟨cq219, kq219, q219a, q219b, q219c⟩ := isOf hZ e218 P0
    obtain ⟨r219, _, ⟨T219, L219, k219, n219⟩, -, X219, ⟨Lc219, hQ219, l219, y219, z219⟩, st219⟩ := X218.virtualBack hx (y := (⟨cST, "length", "()I"⟩ : MethodName)) (z := (⟨cST, "length", "()I"⟩ : MethodName)) hown (mvT hZ (tw hw 60 rfl)) (mvT hZ (tw hw 61 rfl)) (notFace_of_selects (args := #[]) (mvT hZ (tw hw 63 rfl))) (mvT hZ (tw hw 63 rfl)) (mvT hZ (tw hw 62 rfl)) (by decide) (backOf (W := 1) (rmLn1 l Z a0 hw [] a cs b_ y0 h0 n0 Z0 P0 P1 P2 P3 P4 zCS hcs) hZ (tw hw 64 rfl) (tw hw 20 rfl) (by decide) (by decide)) q219a q219c (g := (mkF m 31 #[.val (.ref nm), .val (.ref a), .val (.int mx), .val (.int (0 : Int32)), .unset] [(.ref a), (.int (0 : Int32))])) rfl (by rw [hml]; rfl) (Steps.refl _) (argsL := []) (rest := [(.int (0 : Int32))]) (lenOf pd__28_29I rfl) rfl (by show 2 * 0 + _ ≤ _; exact Nat.le_of_eq rfl) (hb hby d11_31) (fun _ _ => ⟨rfl, e218, (by decide : 0 + 0 ≤ _), (by decide : 0 + 0 ≤ _)⟩)
    dsimp only [Pt.U, Pt.locs, Pt.cells, Pt.slots] at X219 l219 y219 z219 st219 hQ219
    rw [l219, y219, z219] at X219
    clear l219 y219 z219
    obtain ⟨hr219, N219q, eh219⟩ := hQ219
    rw [hr219] at st219
    clear hr219
    rw [N219q, List.append_nil] at X219
    refine Go.via (fun _ kQ => st219.trans kQ) ?_
    clear st219
    have e219 : T219.heap = h0 := eh219
    clear X218 e218
    show Go p e below (T219.setTop (mkF m 34 #[.val (.ref nm), .val (.ref a), .val (.int mx), .val (.int (0 : Int32)), .unset] [(.int (1 : Int32)), (.int (0 : Int32))])) _
    refine Go.via (fun _ => XS.icmpNo X219.here hx rfl (hb hby d11_34) rfl (tlt ((by decide) : (0 : Int32) < (1 : Int32))).2.1) ?_
    show Go p e below (T219.setTop (mkF m 37 #[.val (.ref nm), .val (.ref a), .val (.int mx), .val (.int (0 : Int32)), .unset] [])) _
    refine Go.via (fun _ => XS.aloadN X219.here hx rfl (hb hby d11_37) rfl rfl) ?_
    refine Go.via (fun _ => XS.iloadN X219.here hx rfl (hb hby d11_38) rfl) ?_
    obtain ⟨cq220, kq220, q220a, q220b, q220c⟩ := isOf hZ e219 P0
    obtain ⟨r220, _, ⟨T220, L220, k220, n220⟩, -, X220, ⟨Lc220, hQ220, l220, y220, z220⟩, st220⟩ := X219.virtualBack hx (y := (⟨cST, "charAt", "(I)C"⟩ : MethodName)) (z := (⟨cST, "charAt", "(I)C"⟩ : MethodName)) hown (mvT hZ (tw hw 135 rfl)) (mvT hZ (tw hw 136 rfl)) (notFace_of_selects (args := #[]) (mvT hZ (tw hw 138 rfl))) (mvT hZ (tw hw 138 rfl)) (mvT hZ (tw hw 137 rfl)) (by decide) (backOf (W := 0) (rmCa l Z a0 hw [] a (0 : Int32) b_ [y0] y0 (1 : Int32) cs fv h0 n0 Z0 P0 P1 P2 P3 P4 zCS zF (by first | decide | (simp only [List.length_cons, List.length_nil]; decide) | rfl) (by first | decide | (simp only [List.length_cons, List.length_nil]; decide) | rfl) rfl rfl (own_ch y0 hy0) hfv hcs) hZ (tw hw 139 rfl) (tw hw 20 rfl) (by decide) (by decide)) q220a q220c (g := (mkF m 39 #[.val (.ref nm), .val (.ref a), .val (.int mx), .val (.int (0 : Int32)), .unset] [(.int (0 : Int32)), (.ref a)])) rfl (by rw [hml]; rfl) (Steps.refl _) (argsL := [(.int (0 : Int32))]) (rest := []) (lenOf pd__28I_29C rfl) rfl (by show 2 * 0 + _ ≤ _; exact Nat.le_of_eq rfl) (hb hby d11_39) (fun _ _ => ⟨rfl, e219, (by decide : 0 + 0 ≤ _), (by decide : 0 + 0 ≤ _)⟩)
    dsimp only [Pt.U, Pt.locs, Pt.cells, Pt.slots] at X220 l220 y220 z220 st220 hQ220
    rw [l220, y220, z220] at X220
    clear l220 y220 z220
    obtain ⟨hr220, N220q, eh220⟩ := hQ220
    rw [hr220] at st220
    clear hr220
    rw [N220q, List.append_nil] at X220
    refine Go.via (fun _ kQ => st220.trans kQ) ?_
    clear st220
    have e220 : T220.heap = h0 := eh220
    clear X219 e219
    show Go p e below (T220.setTop (mkF m 42 #[.val (.ref nm), .val (.ref a), .val (.int mx), .val (.int (0 : Int32)), .unset] [(.int y0)])) _
    refine Go.via (fun _ => XS.istore X220.here hx rfl (hb hby d11_42) rfl (l' := #[.val (.ref nm), .val (.ref a), .val (.int mx), .val (.int (0 : Int32)), .val (.int y0)]) rfl) ?_
    show Go p e below (T220.setTop (mkF m 44 #[.val (.ref nm), .val (.ref a), .val (.int mx), .val (.int (0 : Int32)), .val (.int y0)] [])) _
    refine Go.via (fun _ => XS.iload X220.here hx rfl (hb hby d11_44) rfl) ?_
    obtain ⟨r221, _, ⟨T221, L221, k221, n221⟩, -, X221, ⟨Lc221, hQ221, l221, y221, z221⟩, st221⟩ := Jvm.LawKit.callS X220 hx (y := (⟨cCD, "isBase64", "(C)Z"⟩ : MethodName)) hown (mvT hZ (tw hw 156 rfl)) (mvT hZ (tw hw 157 rfl)) (mvT hZ (tw hw 2 rfl)) (mvT hZ (tw hw 158 rfl)) (by decide) (backOf (W := 0) (rm64 l Z a0 hw [] y0  h0 n0 Z0 hy0) hZ (tw hw 158 rfl) (tw hw 2 rfl) (by decide) (by decide)) (g := (mkF m 46 #[.val (.ref nm), .val (.ref a), .val (.int mx), .val (.int (0 : Int32)), .val (.int y0)] [(.int y0)])) rfl (by rw [hml]; rfl) (argsL := [(.int y0)]) (rest := []) (lenOf pd__28C_29Z rfl) rfl (by show 2 * 0 + _ ≤ _; exact Nat.le_of_eq rfl) (hb hby d11_46) (fun _ _ => ⟨rfl, e220, (by decide : 0 + 0 ≤ _), (by decide : 0 + 0 ≤ _)⟩)
    dsimp only [Pt.U, Pt.locs, Pt.cells, Pt.slots] at X221 l221 y221 z221 st221 hQ221
    rw [l221, y221, z221] at X221
    clear l221 y221 z221
    obtain ⟨hr221, N221q, eh221⟩ := hQ221
    rw [hr221] at st221
    clear hr221
    rw [N221q, List.append_nil] at X221
    refine Go.via (st221) ?_
    clear st221
    have e221 : T221.heap = h0 := eh221
    clear X220 e220
    show Go p e below (T221.setTop (mkF m 49 #[.val (.ref nm), .val (.ref a), .val (.int mx), .val (.int (0 : Int32)), .val (.int y0)] [(.int (1 : Int32))])) _
    refine Go.via (fun _ => XS.ifYes X221.here hx rfl (pc0 := 49) (pc' := 74) rfl (hb hby d11_49) rfl ((if0 _ _).trans (feq ((by decide) : ¬ ((1 : Int32) = (0 : Int32)))).2) (by decide) (by decide)) ?_
    show Go p e below (T221.setTop (mkF m 74 #[.val (.ref nm), .val (.ref a), .val (.int mx), .val (.int (0 : Int32)), .val (.int y0)] [])) _
    refine Go.via (fun _ => XS.iinc X221.here hx rfl (hb hby d11_74) rfl (l' := #[.val (.ref nm), .val (.ref a), .val (.int mx), .val (.int (1 : Int32)), .val (.int y0)]) rfl) ?_
    show Go p e below (T221.setTop (mkF m 77 #[.val (.ref nm), .val (.ref a), .val (.int mx), .val (.int (1 : Int32)), .val (.int y0)] [])) _
    refine Go.via (fun _ => XS.goto X221.here hx rfl (pc0 := 77) (pc' := 29) rfl (hb hby d11_77) (by decide) (by decide)) ?_
    refine Go.via (fun _ => XS.iloadN X221.here hx rfl (hb hby d11_29) rfl) ?_
    refine Go.via (fun _ => XS.aloadN X221.here hx rfl (hb hby d11_30) rfl rfl) ?_
    obtain ⟨cq222, kq222, q222a, q222b, q222c⟩ := isOf hZ e221 P0
    obtain ⟨r222, _, ⟨T222, L222, k222, n222⟩, -, X222, ⟨Lc222, hQ222, l222, y222, z222⟩, st222⟩ := X221.virtualBack hx (y := (⟨cST, "length", "()I"⟩ : MethodName)) (z := (⟨cST, "length", "()I"⟩ : MethodName)) hown (mvT hZ (tw hw 60 rfl)) (mvT hZ (tw hw 61 rfl)) (notFace_of_selects (args := #[]) (mvT hZ (tw hw 63 rfl))) (mvT hZ (tw hw 63 rfl)) (mvT hZ (tw hw 62 rfl)) (by decide) (backOf (W := 1) (rmLn1 l Z a0 hw [] a cs b_ y0 h0 n0 Z0 P0 P1 P2 P3 P4 zCS hcs) hZ (tw hw 64 rfl) (tw hw 20 rfl) (by decide) (by decide)) q222a q222c (g := (mkF m 31 #[.val (.ref nm), .val (.ref a), .val (.int mx), .val (.int (1 : Int32)), .val (.int y0)] [(.ref a), (.int (1 : Int32))])) rfl (by rw [hml]; rfl) (Steps.refl _) (argsL := []) (rest := [(.int (1 : Int32))]) (lenOf pd__28_29I rfl) rfl (by show 2 * 0 + _ ≤ _; exact Nat.le_of_eq rfl) (hb hby d11_31) (fun _ _ => ⟨rfl, e221, (by decide : 0 + 0 ≤ _), (by decide : 0 + 0 ≤ _)⟩)
    dsimp only [Pt.U, Pt.locs, Pt.cells, Pt.slots] at X222 l222 y222 z222 st222 hQ222
    rw [l222, y222, z222] at X222
    clear l222 y222 z222
    obtain ⟨hr222, N222q, eh222⟩ := hQ222
    rw [hr222] at st222
    clear hr222
    rw [N222q, List.append_nil] at X222
    refine Go.via (fun _ kQ => st222.trans kQ) ?_
    clear st222
    have e222 : T222.heap = h0 := eh222
    clear X221 e221
    show Go p e below (T222.setTop (mkF m 34 #[.val (.ref nm), .val (.ref a), .val (.int mx), .val (.int (1 : Int32)), .val (.int y0)] [(.int (1 : Int32)), (.int (1 : Int32))])) _
    refine Go.via (fun _ => XS.icmpYes X222.here hx rfl (pc0 := 34) (pc' := 80) rfl (hb hby d11_34) rfl (flt ((by decide) : ¬ ((1 : Int32) < (1 : Int32)))).2.1 (by decide) (by decide)) ?_
    show Go p e below (T222.setTop (mkF m 80 #[.val (.ref nm), .val (.ref a), .val (.int mx), .val (.int (1 : Int32)), .val (.int y0)] [])) _
    exact Go.fin X222 hlk (v := none) (fun _ => rfl) (fun fs hr => X222.returnOut hx Bd.returns (hb hby d11_80) hr) (by rw [e222]; exact ⟨rfl, rfl, rfl⟩) (by decide) (by decide)
  · show Go p e below (s₁.setTop (mkF m 0 #[.val (.ref nm), .val (.ref a), .val (.int mx), .unset, .unset] [])) _
    refine Go.via (fun _ => XS.aloadN X0.here hx rfl (hb hby d11_0) rfl rfl) ?_
    obtain ⟨cq223, kq223, q223a, q223b, q223c⟩ := isOf hZ e0 P0
    obtain ⟨r223, _, ⟨T223, L223, k223, n223⟩, -, X223, ⟨Lc223, hQ223, l223, y223, z223⟩, st223⟩ := X0.virtualBack hx (y := (⟨cST, "length", "()I"⟩ : MethodName)) (z := (⟨cST, "length", "()I"⟩ : MethodName)) hown (mvT hZ (tw hw 60 rfl)) (mvT hZ (tw hw 61 rfl)) (notFace_of_selects (args := #[]) (mvT hZ (tw hw 63 rfl))) (mvT hZ (tw hw 63 rfl)) (mvT hZ (tw hw 62 rfl)) (by decide) (backOf (W := 0) (rmLn2 l Z a0 hw [] a cs b_ y0 y1 h0 n0 Z0 P0 P1 P2 P3 P4 zCS hcs) hZ (tw hw 64 rfl) (tw hw 20 rfl) (by decide) (by decide)) q223a q223c (g := (mkF m 1 #[.val (.ref nm), .val (.ref a), .val (.int mx), .unset, .unset] [(.ref a)])) rfl (by rw [hml]; rfl) (Steps.refl _) (argsL := []) (rest := []) (lenOf pd__28_29I rfl) rfl (by show 2 * 0 + _ ≤ _; exact Nat.le_of_eq rfl) (hb hby d11_1) (fun _ _ => ⟨rfl, e0, (by decide : 0 + 0 ≤ _), (by decide : 0 + 0 ≤ _)⟩)
    dsimp only [Pt.U, Pt.locs, Pt.cells, Pt.slots] at X223 l223 y223 z223 st223 hQ223
    rw [l223, y223, z223] at X223
    clear l223 y223 z223
    obtain ⟨hr223, N223q, eh223⟩ := hQ223
    rw [hr223] at st223
    clear hr223
    rw [N223q, List.append_nil] at X223
    refine Go.via (fun _ kQ => st223.trans kQ) ?_
    clear st223
    have e223 : T223.heap = h0 := eh223
    clear X0 e0
    show Go p e below (T223.setTop (mkF m 4 #[.val (.ref nm), .val (.ref a), .val (.int mx), .unset, .unset] [(.int (2 : Int32))])) _
    refine Go.via (fun _ => XS.iloadN X223.here hx rfl (hb hby d11_4) rfl) ?_
    refine Go.via (fun _ => XS.icmpYes X223.here hx rfl (pc0 := 5) (pc' := 27) rfl (hb hby d11_5) rfl (flt (hm2 : ¬ (mx < (2 : Int32)))).2.2.2 (by decide) (by decide)) ?_
    show Go p e below (T223.setTop (mkF m 27 #[.val (.ref nm), .val (.ref a), .val (.int mx), .unset, .unset] [])) _
    refine Go.via (fun _ => XS.iconst X223.here hx rfl (hb hby d11_27)) ?_
    refine Go.via (fun _ => XS.istoreN X223.here hx rfl (hb hby d11_28) rfl (l' := #[.val (.ref nm), .val (.ref a), .val (.int mx), .val (.int (0 : Int32)), .unset]) rfl) ?_
    show Go p e below (T223.setTop (mkF m 29 #[.val (.ref nm), .val (.ref a), .val (.int mx), .val (.int (0 : Int32)), .unset] [])) _
    refine Go.via (fun _ => XS.iloadN X223.here hx rfl (hb hby d11_29) rfl) ?_
    refine Go.via (fun _ => XS.aloadN X223.here hx rfl (hb hby d11_30) rfl rfl) ?_
    obtain ⟨cq224, kq224, q224a, q224b, q224c⟩ := isOf hZ e223 P0
    obtain ⟨r224, _, ⟨T224, L224, k224, n224⟩, -, X224, ⟨Lc224, hQ224, l224, y224, z224⟩, st224⟩ := X223.virtualBack hx (y := (⟨cST, "length", "()I"⟩ : MethodName)) (z := (⟨cST, "length", "()I"⟩ : MethodName)) hown (mvT hZ (tw hw 60 rfl)) (mvT hZ (tw hw 61 rfl)) (notFace_of_selects (args := #[]) (mvT hZ (tw hw 63 rfl))) (mvT hZ (tw hw 63 rfl)) (mvT hZ (tw hw 62 rfl)) (by decide) (backOf (W := 1) (rmLn2 l Z a0 hw [] a cs b_ y0 y1 h0 n0 Z0 P0 P1 P2 P3 P4 zCS hcs) hZ (tw hw 64 rfl) (tw hw 20 rfl) (by decide) (by decide)) q224a q224c (g := (mkF m 31 #[.val (.ref nm), .val (.ref a), .val (.int mx), .val (.int (0 : Int32)), .unset] [(.ref a), (.int (0 : Int32))])) rfl (by rw [hml]; rfl) (Steps.refl _) (argsL := []) (rest := [(.int (0 : Int32))]) (lenOf pd__28_29I rfl) rfl (by show 2 * 0 + _ ≤ _; exact Nat.le_of_eq rfl) (hb hby d11_31) (fun _ _ => ⟨rfl, e223, (by decide : 0 + 0 ≤ _), (by decide : 0 + 0 ≤ _)⟩)
    dsimp only [Pt.U, Pt.locs, Pt.cells, Pt.slots] at X224 l224 y224 z224 st224 hQ224
    rw [l224, y224, z224] at X224
    clear l224 y224 z224
    obtain ⟨hr224, N224q, eh224⟩ := hQ224
    rw [hr224] at st224
    clear hr224
    rw [N224q, List.append_nil] at X224
    refine Go.via (fun _ kQ => st224.trans kQ) ?_
    clear st224
    have e224 : T224.heap = h0 := eh224
    clear X223 e223
    show Go p e below (T224.setTop (mkF m 34 #[.val (.ref nm), .val (.ref a), .val (.int mx), .val (.int (0 : Int32)), .unset] [(.int (2 : Int32)), (.int (0 : Int32))])) _
    refine Go.via (fun _ => XS.icmpNo X224.here hx rfl (hb hby d11_34) rfl (tlt ((by decide) : (0 : Int32) < (2 : Int32))).2.1) ?_
    show Go p e below (T224.setTop (mkF m 37 #[.val (.ref nm), .val (.ref a), .val (.int mx), .val (.int (0 : Int32)), .unset] [])) _
    refine Go.via (fun _ => XS.aloadN X224.here hx rfl (hb hby d11_37) rfl rfl) ?_
    refine Go.via (fun _ => XS.iloadN X224.here hx rfl (hb hby d11_38) rfl) ?_
    obtain ⟨cq225, kq225, q225a, q225b, q225c⟩ := isOf hZ e224 P0
    obtain ⟨r225, _, ⟨T225, L225, k225, n225⟩, -, X225, ⟨Lc225, hQ225, l225, y225, z225⟩, st225⟩ := X224.virtualBack hx (y := (⟨cST, "charAt", "(I)C"⟩ : MethodName)) (z := (⟨cST, "charAt", "(I)C"⟩ : MethodName)) hown (mvT hZ (tw hw 135 rfl)) (mvT hZ (tw hw 136 rfl)) (notFace_of_selects (args := #[]) (mvT hZ (tw hw 138 rfl))) (mvT hZ (tw hw 138 rfl)) (mvT hZ (tw hw 137 rfl)) (by decide) (backOf (W := 0) (rmCa l Z a0 hw [] a (0 : Int32) b_ [y0, y1] y0 (2 : Int32) cs fv h0 n0 Z0 P0 P1 P2 P3 P4 zCS zF (by first | decide | (simp only [List.length_cons, List.length_nil]; decide) | rfl) (by first | decide | (simp only [List.length_cons, List.length_nil]; decide) | rfl) rfl rfl (own_ch y0 hy0) hfv hcs) hZ (tw hw 139 rfl) (tw hw 20 rfl) (by decide) (by decide)) q225a q225c (g := (mkF m 39 #[.val (.ref nm), .val (.ref a), .val (.int mx), .val (.int (0 : Int32)), .unset] [(.int (0 : Int32)), (.ref a)])) rfl (by rw [hml]; rfl) (Steps.refl _) (argsL := [(.int (0 : Int32))]) (rest := []) (lenOf pd__28I_29C rfl) rfl (by show 2 * 0 + _ ≤ _; exact Nat.le_of_eq rfl) (hb hby d11_39) (fun _ _ => ⟨rfl, e224, (by decide : 0 + 0 ≤ _), (by decide : 0 + 0 ≤ _)⟩)
    dsimp only [Pt.U, Pt.locs, Pt.cells, Pt.slots] at X225 l225 y225 z225 st225 hQ225
    rw [l225, y225, z225] at X225
    clear l225 y225 z225
    obtain ⟨hr225, N225q, eh225⟩ := hQ225
    rw [hr225] at st225
    clear hr225
    rw [N225q, List.append_nil] at X225
    refine Go.via (fun _ kQ => st225.trans kQ) ?_
    clear st225
    have e225 : T225.heap = h0 := eh225
    clear X224 e224
    show Go p e below (T225.setTop (mkF m 42 #[.val (.ref nm), .val (.ref a), .val (.int mx), .val (.int (0 : Int32)), .unset] [(.int y0)])) _
    refine Go.via (fun _ => XS.istore X225.here hx rfl (hb hby d11_42) rfl (l' := #[.val (.ref nm), .val (.ref a), .val (.int mx), .val (.int (0 : Int32)), .val (.int y0)]) rfl) ?_
    show Go p e below (T225.setTop (mkF m 44 #[.val (.ref nm), .val (.ref a), .val (.int mx), .val (.int (0 : Int32)), .val (.int y0)] [])) _
    refine Go.via (fun _ => XS.iload X225.here hx rfl (hb hby d11_44) rfl) ?_
    obtain ⟨r226, _, ⟨T226, L226, k226, n226⟩, -, X226, ⟨Lc226, hQ226, l226, y226, z226⟩, st226⟩ := Jvm.LawKit.callS X225 hx (y := (⟨cCD, "isBase64", "(C)Z"⟩ : MethodName)) hown (mvT hZ (tw hw 156 rfl)) (mvT hZ (tw hw 157 rfl)) (mvT hZ (tw hw 2 rfl)) (mvT hZ (tw hw 158 rfl)) (by decide) (backOf (W := 0) (rm64 l Z a0 hw [] y0  h0 n0 Z0 hy0) hZ (tw hw 158 rfl) (tw hw 2 rfl) (by decide) (by decide)) (g := (mkF m 46 #[.val (.ref nm), .val (.ref a), .val (.int mx), .val (.int (0 : Int32)), .val (.int y0)] [(.int y0)])) rfl (by rw [hml]; rfl) (argsL := [(.int y0)]) (rest := []) (lenOf pd__28C_29Z rfl) rfl (by show 2 * 0 + _ ≤ _; exact Nat.le_of_eq rfl) (hb hby d11_46) (fun _ _ => ⟨rfl, e225, (by decide : 0 + 0 ≤ _), (by decide : 0 + 0 ≤ _)⟩)
    dsimp only [Pt.U, Pt.locs, Pt.cells, Pt.slots] at X226 l226 y226 z226 st226 hQ226
    rw [l226, y226, z226] at X226
    clear l226 y226 z226
    obtain ⟨hr226, N226q, eh226⟩ := hQ226
    rw [hr226] at st226
    clear hr226
    rw [N226q, List.append_nil] at X226
    refine Go.via (st226) ?_
    clear st226
    have e226 : T226.heap = h0 := eh226
    clear X225 e225
    show Go p e below (T226.setTop (mkF m 49 #[.val (.ref nm), .val (.ref a), .val (.int mx), .val (.int (0 : Int32)), .val (.int y0)] [(.int (1 : Int32))])) _
    refine Go.via (fun _ => XS.ifYes X226.here hx rfl (pc0 := 49) (pc' := 74) rfl (hb hby d11_49) rfl ((if0 _ _).trans (feq ((by decide) : ¬ ((1 : Int32) = (0 : Int32)))).2) (by decide) (by decide)) ?_
    show Go p e below (T226.setTop (mkF m 74 #[.val (.ref nm), .val (.ref a), .val (.int mx), .val (.int (0 : Int32)), .val (.int y0)] [])) _
    refine Go.via (fun _ => XS.iinc X226.here hx rfl (hb hby d11_74) rfl (l' := #[.val (.ref nm), .val (.ref a), .val (.int mx), .val (.int (1 : Int32)), .val (.int y0)]) rfl) ?_
    show Go p e below (T226.setTop (mkF m 77 #[.val (.ref nm), .val (.ref a), .val (.int mx), .val (.int (1 : Int32)), .val (.int y0)] [])) _
    refine Go.via (fun _ => XS.goto X226.here hx rfl (pc0 := 77) (pc' := 29) rfl (hb hby d11_77) (by decide) (by decide)) ?_
    refine Go.via (fun _ => XS.iloadN X226.here hx rfl (hb hby d11_29) rfl) ?_
    refine Go.via (fun _ => XS.aloadN X226.here hx rfl (hb hby d11_30) rfl rfl) ?_
    obtain ⟨cq227, kq227, q227a, q227b, q227c⟩ := isOf hZ e226 P0
    obtain ⟨r227, _, ⟨T227, L227, k227, n227⟩, -, X227, ⟨Lc227, hQ227, l227, y227, z227⟩, st227⟩ := X226.virtualBack hx (y := (⟨cST, "length", "()I"⟩ : MethodName)) (z := (⟨cST, "length", "()I"⟩ : MethodName)) hown (mvT hZ (tw hw 60 rfl)) (mvT hZ (tw hw 61 rfl)) (notFace_of_selects (args := #[]) (mvT hZ (tw hw 63 rfl))) (mvT hZ (tw hw 63 rfl)) (mvT hZ (tw hw 62 rfl)) (by decide) (backOf (W := 1) (rmLn2 l Z a0 hw [] a cs b_ y0 y1 h0 n0 Z0 P0 P1 P2 P3 P4 zCS hcs) hZ (tw hw 64 rfl) (tw hw 20 rfl) (by decide) (by decide)) q227a q227c (g := (mkF m 31 #[.val (.ref nm), .val (.ref a), .val (.int mx), .val (.int (1 : Int32)), .val (.int y0)] [(.ref a), (.int (1 : Int32))])) rfl (by rw [hml]; rfl) (Steps.refl _) (argsL := []) (rest := [(.int (1 : Int32))]) (lenOf pd__28_29I rfl) rfl (by show 2 * 0 + _ ≤ _; exact Nat.le_of_eq rfl) (hb hby d11_31) (fun _ _ => ⟨rfl, e226, (by decide : 0 + 0 ≤ _), (by decide : 0 + 0 ≤ _)⟩)
    dsimp only [Pt.U, Pt.locs, Pt.cells, Pt.slots] at X227 l227 y227 z227 st227 hQ227
    rw [l227, y227, z227] at X227
    clear l227 y227 z227
    obtain ⟨hr227, N227q, eh227⟩ := hQ227
    rw [hr227] at st227
    clear hr227
    rw [N227q, List.append_nil] at X227
    refine Go.via (fun _ kQ => st227.trans kQ) ?_
    clear st227
    have e227 : T227.heap = h0 := eh227
    clear X226 e226
    show Go p e below (T227.setTop (mkF m 34 #[.val (.ref nm), .val (.ref a), .val (.int mx), .val (.int (1 : Int32)), .val (.int y0)] [(.int (2 : Int32)), (.int (1 : Int32))])) _
    refine Go.via (fun _ => XS.icmpNo X227.here hx rfl (hb hby d11_34) rfl (tlt ((by decide) : (1 : Int32) < (2 : Int32))).2.1) ?_
    show Go p e below (T227.setTop (mkF m 37 #[.val (.ref nm), .val (.ref a), .val (.int mx), .val (.int (1 : Int32)), .val (.int y0)] [])) _
    refine Go.via (fun _ => XS.aloadN X227.here hx rfl (hb hby d11_37) rfl rfl) ?_
    refine Go.via (fun _ => XS.iloadN X227.here hx rfl (hb hby d11_38) rfl) ?_
    obtain ⟨cq228, kq228, q228a, q228b, q228c⟩ := isOf hZ e227 P0
    obtain ⟨r228, _, ⟨T228, L228, k228, n228⟩, -, X228, ⟨Lc228, hQ228, l228, y228, z228⟩, st228⟩ := X227.virtualBack hx (y := (⟨cST, "charAt", "(I)C"⟩ : MethodName)) (z := (⟨cST, "charAt", "(I)C"⟩ : MethodName)) hown (mvT hZ (tw hw 135 rfl)) (mvT hZ (tw hw 136 rfl)) (notFace_of_selects (args := #[]) (mvT hZ (tw hw 138 rfl))) (mvT hZ (tw hw 138 rfl)) (mvT hZ (tw hw 137 rfl)) (by decide) (backOf (W := 0) (rmCa l Z a0 hw [] a (1 : Int32) b_ [y0, y1] y1 (2 : Int32) cs fv h0 n0 Z0 P0 P1 P2 P3 P4 zCS zF (by first | decide | (simp only [List.length_cons, List.length_nil]; decide) | rfl) (by first | decide | (simp only [List.length_cons, List.length_nil]; decide) | rfl) rfl rfl (own_ch y1 hy1) hfv hcs) hZ (tw hw 139 rfl) (tw hw 20 rfl) (by decide) (by decide)) q228a q228c (g := (mkF m 39 #[.val (.ref nm), .val (.ref a), .val (.int mx), .val (.int (1 : Int32)), .val (.int y0)] [(.int (1 : Int32)), (.ref a)])) rfl (by rw [hml]; rfl) (Steps.refl _) (argsL := [(.int (1 : Int32))]) (rest := []) (lenOf pd__28I_29C rfl) rfl (by show 2 * 0 + _ ≤ _; exact Nat.le_of_eq rfl) (hb hby d11_39) (fun _ _ => ⟨rfl, e227, (by decide : 0 + 0 ≤ _), (by decide : 0 + 0 ≤ _)⟩)
    dsimp only [Pt.U, Pt.locs, Pt.cells, Pt.slots] at X228 l228 y228 z228 st228 hQ228
    rw [l228, y228, z228] at X228
    clear l228 y228 z228
    obtain ⟨hr228, N228q, eh228⟩ := hQ228
    rw [hr228] at st228
    clear hr228
    rw [N228q, List.append_nil] at X228
    refine Go.via (fun _ kQ => st228.trans kQ) ?_
    clear st228
    have e228 : T228.heap = h0 := eh228
    clear X227 e227
    show Go p e below (T228.setTop (mkF m 42 #[.val (.ref nm), .val (.ref a), .val (.int mx), .val (.int (1 : Int32)), .val (.int y0)] [(.int y1)])) _
    refine Go.via (fun _ => XS.istore X228.here hx rfl (hb hby d11_42) rfl (l' := #[.val (.ref nm), .val (.ref a), .val (.int mx), .val (.int (1 : Int32)), .val (.int y1)]) rfl) ?_
    show Go p e below (T228.setTop (mkF m 44 #[.val (.ref nm), .val (.ref a), .val (.int mx), .val (.int (1 : Int32)), .val (.int y1)] [])) _
    refine Go.via (fun _ => XS.iload X228.here hx rfl (hb hby d11_44) rfl) ?_
    obtain ⟨r229, _, ⟨T229, L229, k229, n229⟩, -, X229, ⟨Lc229, hQ229, l229, y229, z229⟩, st229⟩ := Jvm.LawKit.callS X228 hx (y := (⟨cCD, "isBase64", "(C)Z"⟩ : MethodName)) hown (mvT hZ (tw hw 156 rfl)) (mvT hZ (tw hw 157 rfl)) (mvT hZ (tw hw 2 rfl)) (mvT hZ (tw hw 158 rfl)) (by decide) (backOf (W := 0) (rm64 l Z a0 hw [] y1  h0 n0 Z0 hy1) hZ (tw hw 158 rfl) (tw hw 2 rfl) (by decide) (by decide)) (g := (mkF m 46 #[.val (.ref nm), .val (.ref a), .val (.int mx), .val (.int (1 : Int32)), .val (.int y1)] [(.int y1)])) rfl (by rw [hml]; rfl) (argsL := [(.int y1)]) (rest := []) (lenOf pd__28C_29Z rfl) rfl (by show 2 * 0 + _ ≤ _; exact Nat.le_of_eq rfl) (hb hby d11_46) (fun _ _ => ⟨rfl, e228, (by decide : 0 + 0 ≤ _), (by decide : 0 + 0 ≤ _)⟩)
    dsimp only [Pt.U, Pt.locs, Pt.cells, Pt.slots] at X229 l229 y229 z229 st229 hQ229
    rw [l229, y229, z229] at X229
    clear l229 y229 z229
    obtain ⟨hr229, N229q, eh229⟩ := hQ229
    rw [hr229] at st229
    clear hr229
    rw [N229q, List.append_nil] at X229
    refine Go.via (st229) ?_
    clear st229
    have e229 : T229.heap = h0 := eh229
    clear X228 e228
    show Go p e below (T229.setTop (mkF m 49 #[.val (.ref nm), .val (.ref a), .val (.int mx), .val (.int (1 : Int32)), .val (.int y1)] [(.int (1 : Int32))])) _
    refine Go.via (fun _ => XS.ifYes X229.here hx rfl (pc0 := 49) (pc' := 74) rfl (hb hby d11_49) rfl ((if0 _ _).trans (feq ((by decide) : ¬ ((1 : Int32) = (0 : Int32)))).2) (by decide) (by decide)) ?_
    show Go p e below (T229.setTop (mkF m 74 #[.val (.ref nm), .val (.ref a), .val (.int mx), .val (.int (1 : Int32)), .val (.int y1)] [])) _
    refine Go.via (fun _ => XS.iinc X229.here hx rfl (hb hby d11_74) rfl (l' := #[.val (.ref nm), .val (.ref a), .val (.int mx), .val (.int (2 : Int32)), .val (.int y1)]) rfl) ?_
    show Go p e below (T229.setTop (mkF m 77 #[.val (.ref nm), .val (.ref a), .val (.int mx), .val (.int (2 : Int32)), .val (.int y1)] [])) _
    refine Go.via (fun _ => XS.goto X229.here hx rfl (pc0 := 77) (pc' := 29) rfl (hb hby d11_77) (by decide) (by decide)) ?_
    refine Go.via (fun _ => XS.iloadN X229.here hx rfl (hb hby d11_29) rfl) ?_
    refine Go.via (fun _ => XS.aloadN X229.here hx rfl (hb hby d11_30) rfl rfl) ?_
    obtain ⟨cq230, kq230, q230a, q230b, q230c⟩ := isOf hZ e229 P0
    obtain ⟨r230, _, ⟨T230, L230, k230, n230⟩, -, X230, ⟨Lc230, hQ230, l230, y230, z230⟩, st230⟩ := X229.virtualBack hx (y := (⟨cST, "length", "()I"⟩ : MethodName)) (z := (⟨cST, "length", "()I"⟩ : MethodName)) hown (mvT hZ (tw hw 60 rfl)) (mvT hZ (tw hw 61 rfl)) (notFace_of_selects (args := #[]) (mvT hZ (tw hw 63 rfl))) (mvT hZ (tw hw 63 rfl)) (mvT hZ (tw hw 62 rfl)) (by decide) (backOf (W := 1) (rmLn2 l Z a0 hw [] a cs b_ y0 y1 h0 n0 Z0 P0 P1 P2 P3 P4 zCS hcs) hZ (tw hw 64 rfl) (tw hw 20 rfl) (by decide) (by decide)) q230a q230c (g := (mkF m 31 #[.val (.ref nm), .val (.ref a), .val (.int mx), .val (.int (2 : Int32)), .val (.int y1)] [(.ref a), (.int (2 : Int32))])) rfl (by rw [hml]; rfl) (Steps.refl _) (argsL := []) (rest := [(.int (2 : Int32))]) (lenOf pd__28_29I rfl) rfl (by show 2 * 0 + _ ≤ _; exact Nat.le_of_eq rfl) (hb hby d11_31) (fun _ _ => ⟨rfl, e229, (by decide : 0 + 0 ≤ _), (by decide : 0 + 0 ≤ _)⟩)
    dsimp only [Pt.U, Pt.locs, Pt.cells, Pt.slots] at X230 l230 y230 z230 st230 hQ230
    rw [l230, y230, z230] at X230
    clear l230 y230 z230
    obtain ⟨hr230, N230q, eh230⟩ := hQ230
    rw [hr230] at st230
    clear hr230
    rw [N230q, List.append_nil] at X230
    refine Go.via (fun _ kQ => st230.trans kQ) ?_
    clear st230
    have e230 : T230.heap = h0 := eh230
    clear X229 e229
    show Go p e below (T230.setTop (mkF m 34 #[.val (.ref nm), .val (.ref a), .val (.int mx), .val (.int (2 : Int32)), .val (.int y1)] [(.int (2 : Int32)), (.int (2 : Int32))])) _
    refine Go.via (fun _ => XS.icmpYes X230.here hx rfl (pc0 := 34) (pc' := 80) rfl (hb hby d11_34) rfl (flt ((by decide) : ¬ ((2 : Int32) < (2 : Int32)))).2.1 (by decide) (by decide)) ?_
    show Go p e below (T230.setTop (mkF m 80 #[.val (.ref nm), .val (.ref a), .val (.int mx), .val (.int (2 : Int32)), .val (.int y1)] [])) _
    exact Go.fin X230 hlk (v := none) (fun _ => rfl) (fun fs hr => X230.returnOut hx Bd.returns (hb hby d11_80) hr) (by rw [e230]; exact ⟨rfl, rfl, rfl⟩) (by decide) (by decide)
theorem d10_0 : decode jdk_35_method_50_code 0 = .ok (.lload_n 0, 1) := by decide +kernel
theorem d10_1 : decode jdk_35_method_50_code 1 = .ok (.lload_n 0, 1) := by decide +kernel
theorem d10_2 : decode jdk_35_method_50_code 2 = .ok (.iconst 1, 1) := by decide +kernel
theorem d10_3 : decode jdk_35_method_50_code 3 = .ok (.lushr, 1) := by decide +kernel
theorem d10_4 : decode jdk_35_method_50_code 4 = .ok (.ldc2_w 314, 3) := by decide +kernel
theorem d10_7 : decode jdk_35_method_50_code 7 = .ok (.land, 1) := by decide +kernel
theorem d10_8 : decode jdk_35_method_50_code 8 = .ok (.lsub, 1) := by decide +kernel
theorem d10_9 : decode jdk_35_method_50_code 9 = .ok (.lstore_n 0, 1) := by decide +kernel
theorem d10_10 : decode jdk_35_method_50_code 10 = .ok (.lload_n 0, 1) := by decide +kernel
theorem d10_11 : decode jdk_35_method_50_code 11 = .ok (.ldc2_w 316, 3) := by decide +kernel
theorem d10_14 : decode jdk_35_method_50_code 14 = .ok (.land, 1) := by decide +kernel
theorem d10_15 : decode jdk_35_method_50_code 15 = .ok (.lload_n 0, 1) := by decide +kernel
theorem d10_16 : decode jdk_35_method_50_code 16 = .ok (.iconst 2, 1) := by decide +kernel
theorem d10_17 : decode jdk_35_method_50_code 17 = .ok (.lushr, 1) := by decide +kernel
theorem d10_18 : decode jdk_35_method_50_code 18 = .ok (.ldc2_w 316, 3) := by decide +kernel
theorem d10_21 : decode jdk_35_method_50_code 21 = .ok (.land, 1) := by decide +kernel
theorem d10_22 : decode jdk_35_method_50_code 22 = .ok (.ladd, 1) := by decide +kernel
theorem d10_23 : decode jdk_35_method_50_code 23 = .ok (.lstore_n 0, 1) := by decide +kernel
theorem d10_24 : decode jdk_35_method_50_code 24 = .ok (.lload_n 0, 1) := by decide +kernel
theorem d10_25 : decode jdk_35_method_50_code 25 = .ok (.lload_n 0, 1) := by decide +kernel
theorem d10_26 : decode jdk_35_method_50_code 26 = .ok (.iconst 4, 1) := by decide +kernel
theorem d10_27 : decode jdk_35_method_50_code 27 = .ok (.lushr, 1) := by decide +kernel
theorem d10_28 : decode jdk_35_method_50_code 28 = .ok (.ladd, 1) := by decide +kernel
theorem d10_29 : decode jdk_35_method_50_code 29 = .ok (.ldc2_w 318, 3) := by decide +kernel
theorem d10_32 : decode jdk_35_method_50_code 32 = .ok (.land, 1) := by decide +kernel
theorem d10_33 : decode jdk_35_method_50_code 33 = .ok (.lstore_n 0, 1) := by decide +kernel
theorem d10_34 : decode jdk_35_method_50_code 34 = .ok (.lload_n 0, 1) := by decide +kernel
theorem d10_35 : decode jdk_35_method_50_code 35 = .ok (.lload_n 0, 1) := by decide +kernel
theorem d10_36 : decode jdk_35_method_50_code 36 = .ok (.bipush 8, 2) := by decide +kernel
theorem d10_38 : decode jdk_35_method_50_code 38 = .ok (.lushr, 1) := by decide +kernel
theorem d10_39 : decode jdk_35_method_50_code 39 = .ok (.ladd, 1) := by decide +kernel
theorem d10_40 : decode jdk_35_method_50_code 40 = .ok (.lstore_n 0, 1) := by decide +kernel
theorem d10_41 : decode jdk_35_method_50_code 41 = .ok (.lload_n 0, 1) := by decide +kernel
theorem d10_42 : decode jdk_35_method_50_code 42 = .ok (.lload_n 0, 1) := by decide +kernel
theorem d10_43 : decode jdk_35_method_50_code 43 = .ok (.bipush 16, 2) := by decide +kernel
theorem d10_45 : decode jdk_35_method_50_code 45 = .ok (.lushr, 1) := by decide +kernel
theorem d10_46 : decode jdk_35_method_50_code 46 = .ok (.ladd, 1) := by decide +kernel
theorem d10_47 : decode jdk_35_method_50_code 47 = .ok (.lstore_n 0, 1) := by decide +kernel
theorem d10_48 : decode jdk_35_method_50_code 48 = .ok (.lload_n 0, 1) := by decide +kernel
theorem d10_49 : decode jdk_35_method_50_code 49 = .ok (.lload_n 0, 1) := by decide +kernel
theorem d10_50 : decode jdk_35_method_50_code 50 = .ok (.bipush 32, 2) := by decide +kernel
theorem d10_52 : decode jdk_35_method_50_code 52 = .ok (.lushr, 1) := by decide +kernel
theorem d10_53 : decode jdk_35_method_50_code 53 = .ok (.ladd, 1) := by decide +kernel
theorem d10_54 : decode jdk_35_method_50_code 54 = .ok (.lstore_n 0, 1) := by decide +kernel
theorem d10_55 : decode jdk_35_method_50_code 55 = .ok (.lload_n 0, 1) := by decide +kernel
theorem d10_56 : decode jdk_35_method_50_code 56 = .ok (.l2i, 1) := by decide +kernel
theorem d10_57 : decode jdk_35_method_50_code 57 = .ok (.bipush 127, 2) := by decide +kernel
theorem d10_59 : decode jdk_35_method_50_code 59 = .ok (.iand, 1) := by decide +kernel
theorem d10_60 : decode jdk_35_method_50_code 60 = .ok (.ireturn, 1) := by decide +kernel
theorem pn_10 : plainName "java/lang/Long" = true := by first | (simp [plainName, overriddenIn]; done) | decide +kernel
theorem ef_10 (m : MethodId) (x0 : Int64) : entryFrame m #[(.long x0)] 2 = mkF m 0 #[.val (.long x0), .second] [] := by first | (simp [entryFrame, mkF, argsToLocals, Value.category]; done) | rfl
def Q_rmBc (Z : State) (v : Int64)  (h0 : Heap) (n0 : Nat) (vQ : Option Value) (hQ : Heap) (LQ : List Loc) : Prop := vQ = some (.int (bcF v)) ∧ LQ = [] ∧ hQ = h0
set_option maxRecDepth 65536 in
set_option maxHeartbeats 40000000 in
theorem rmBc (l : Launch) (Z : State) (a0 : Array Value) (hw : ∀ d ∈ tables_1, d.before a0 Z = true) (ws : List Jvm.Cond) (v : Int64)  (h0 : Heap) (n0 : Nat) (Z0 : n0 ≤ h0.size) :
    MetFree l (⟨"java/lang/Long", "bitCount", "(J)I"⟩ : MethodName) (head1 (Jvm.Cond.code (⟨"java/lang/Long", "bitCount", "(J)I"⟩ : MethodName) jdk_35_method_50_code 2 (some .int) :: ws) ({ frames := 0, cells := 0, slots := 0, locals := 0 } : Room)) (fun aQ UQ => aQ = #[(.long v)] ∧ Z.Warmed39 UQ.vm ∧ UQ.heap = h0) (fun _ _ _ _ _ => True) (fun _ UQ oQ UR => ∃ vQ LQ, oQ = .returned vQ ∧ Q_rmBc Z v  h0 n0 vQ UR.heap LQ ∧ FrameEnd UQ oQ UR LQ ({ frames := 0, cells := 0, slots := 0, locals := 0 } : Room).cells ({ frames := 0, cells := 0, slots := 0, locals := 0 } : Room).slots) := by
  refine MetFree.of_bodySF (plainFor_of_name pn_10) hisR ?_
  intro p e s m args below meth c s₁ Bd hml0 hP hK
  obtain ⟨rfl, hZ, hh⟩ := hP
  have hx := Bd.exec
  have hby := Bd.bytes
  have hlk := Bd.notSynchronized
  have hml : c.maxLocals = 2 := hml0
  have hown : s.vm.findClass "java/lang/Long" = some m.cls := findClass_of_methodNamed Bd.named
  have hnm := (name_of_methodNamed Bd.named Bd.method).1
  have X0 : Stand p l e ({ frames := 0, cells := 0, slots := 0, locals := 0 } : Room) s m #[(.long v)] below meth c s₁ [] 0 0 := Stand.of_body Bd
  have e0 : s₁.heap = h0 := by rw [← hh, Bd.state]; rfl
  have N0 := Fr.nil n0
  show Go p e below _ (Done s (Q_rmBc Z v  h0 n0) ({ frames := 0, cells := 0, slots := 0, locals := 0 } : Room).cells ({ frames := 0, cells := 0, slots := 0, locals := 0 } : Room).slots)
  refine Go.via (fun tQ kQ => castTop (ef_10 m v) kQ) ?_
  show Go p e below (s₁.setTop (mkF m 0 #[.val (.long v), .second] [])) _
  refine Go.via (fun _ => XS.lloadN X0.here hx rfl (hb hby d10_0) rfl) ?_
  refine Go.via (fun _ => XS.lloadN X0.here hx rfl (hb hby d10_1) rfl) ?_
  refine Go.via (fun _ => XS.iconst X0.here hx rfl (hb hby d10_2)) ?_
  refine Go.via (fun _ => XS.lushr X0.here hx rfl (hb hby d10_3) rfl) ?_
  show Go p e below (s₁.setTop (mkF m 4 #[.val (.long v), .second] [(.long ((v.toUInt64 >>> ((1 : Int32) &&& 0x3f).toInt64.toUInt64).toInt64)), (.long v)])) _
  refine Go.via (X0.ldc2Long hx hown (mvT hZ (tw hw 53 rfl)) (g := (mkF m 4 #[.val (.long v), .second] [(.long ((v.toUInt64 >>> ((1 : Int32) &&& 0x3f).toInt64.toUInt64).toInt64)), (.long v)])) rfl (hb hby d10_4)) ?_
  show Go p e below (s₁.setTop (mkF m 7 #[.val (.long v), .second] [(.long (6148914691236517205 : Int64)), (.long ((v.toUInt64 >>> ((1 : Int32) &&& 0x3f).toInt64.toUInt64).toInt64)), (.long v)])) _
  refine Go.via (fun _ => XS.land X0.here hx rfl (hb hby d10_7) rfl) ?_
  show Go p e below (s₁.setTop (mkF m 8 #[.val (.long v), .second] [(.long (((v.toUInt64 >>> ((1 : Int32) &&& 0x3f).toInt64.toUInt64).toInt64) &&& (6148914691236517205 : Int64))), (.long v)])) _
  refine Go.via (fun _ => XS.lsub X0.here hx rfl (hb hby d10_8) rfl) ?_
  show Go p e below (s₁.setTop (mkF m 9 #[.val (.long v), .second] [(.long (v - (((v.toUInt64 >>> ((1 : Int32) &&& 0x3f).toInt64.toUInt64).toInt64) &&& (6148914691236517205 : Int64))))])) _
  generalize hv_q1 : (v - (((v.toUInt64 >>> ((1 : Int32) &&& 0x3f).toInt64.toUInt64).toInt64) &&& (6148914691236517205 : Int64))) = q1
  show Go p e below (s₁.setTop (mkF m 9 #[.val (.long v), .second] [(.long q1)])) _
  refine Go.via (fun _ => XS.lstoreN X0.here hx rfl (hb hby d10_9) rfl (l' := #[.val (.long q1), .second]) rfl) ?_
  show Go p e below (s₁.setTop (mkF m 10 #[.val (.long q1), .second] [])) _
  refine Go.via (fun _ => XS.lloadN X0.here hx rfl (hb hby d10_10) rfl) ?_
  refine Go.via (X0.ldc2Long hx hown (mvT hZ (tw hw 54 rfl)) (g := (mkF m 11 #[.val (.long q1), .second] [(.long q1)])) rfl (hb hby d10_11)) ?_
  show Go p e below (s₁.setTop (mkF m 14 #[.val (.long q1), .second] [(.long (3689348814741910323 : Int64)), (.long q1)])) _
  refine Go.via (fun _ => XS.land X0.here hx rfl (hb hby d10_14) rfl) ?_
  show Go p e below (s₁.setTop (mkF m 15 #[.val (.long q1), .second] [(.long (q1 &&& (3689348814741910323 : Int64)))])) _
  refine Go.via (fun _ => XS.lloadN X0.here hx rfl (hb hby d10_15) rfl) ?_
  refine Go.via (fun _ => XS.iconst X0.here hx rfl (hb hby d10_16)) ?_
  refine Go.via (fun _ => XS.lushr X0.here hx rfl (hb hby d10_17) rfl) ?_
  show Go p e below (s₁.setTop (mkF m 18 #[.val (.long q1), .second] [(.long ((q1.toUInt64 >>> ((2 : Int32) &&& 0x3f).toInt64.toUInt64).toInt64)), (.long (q1 &&& (3689348814741910323 : Int64)))])) _
  refine Go.via (X0.ldc2Long hx hown (mvT hZ (tw hw 54 rfl)) (g := (mkF m 18 #[.val (.long q1), .second] [(.long ((q1.toUInt64 >>> ((2 : Int32) &&& 0x3f).toInt64.toUInt64).toInt64)), (.long (q1 &&& (3689348814741910323 : Int64)))])) rfl (hb hby d10_18)) ?_
  show Go p e below (s₁.setTop (mkF m 21 #[.val (.long q1), .second] [(.long (3689348814741910323 : Int64)), (.long ((q1.toUInt64 >>> ((2 : Int32) &&& 0x3f).toInt64.toUInt64).toInt64)), (.long (q1 &&& (3689348814741910323 : Int64)))])) _
  refine Go.via (fun _ => XS.land X0.here hx rfl (hb hby d10_21) rfl) ?_
  show Go p e below (s₁.setTop (mkF m 22 #[.val (.long q1), .second] [(.long (((q1.toUInt64 >>> ((2 : Int32) &&& 0x3f).toInt64.toUInt64).toInt64) &&& (3689348814741910323 : Int64))), (.long (q1 &&& (3689348814741910323 : Int64)))])) _
  refine Go.via (fun _ => XS.ladd X0.here hx rfl (hb hby d10_22) rfl) ?_
  show Go p e below (s₁.setTop (mkF m 23 #[.val (.long q1), .second] [(.long ((q1 &&& (3689348814741910323 : Int64)) + (((q1.toUInt64 >>> ((2 : Int32) &&& 0x3f).toInt64.toUInt64).toInt64) &&& (3689348814741910323 : Int64))))])) _
  generalize hv_q2 : ((q1 &&& (3689348814741910323 : Int64)) + (((q1.toUInt64 >>> ((2 : Int32) &&& 0x3f).toInt64.toUInt64).toInt64) &&& (3689348814741910323 : Int64))) = q2
  show Go p e below (s₁.setTop (mkF m 23 #[.val (.long q1), .second] [(.long q2)])) _
  refine Go.via (fun _ => XS.lstoreN X0.here hx rfl (hb hby d10_23) rfl (l' := #[.val (.long q2), .second]) rfl) ?_
  show Go p e below (s₁.setTop (mkF m 24 #[.val (.long q2), .second] [])) _
  refine Go.via (fun _ => XS.lloadN X0.here hx rfl (hb hby d10_24) rfl) ?_
  refine Go.via (fun _ => XS.lloadN X0.here hx rfl (hb hby d10_25) rfl) ?_
  refine Go.via (fun _ => XS.iconst X0.here hx rfl (hb hby d10_26)) ?_
  refine Go.via (fun _ => XS.lushr X0.here hx rfl (hb hby d10_27) rfl) ?_
  show Go p e below (s₁.setTop (mkF m 28 #[.val (.long q2), .second] [(.long ((q2.toUInt64 >>> ((4 : Int32) &&& 0x3f).toInt64.toUInt64).toInt64)), (.long q2)])) _
  refine Go.via (fun _ => XS.ladd X0.here hx rfl (hb hby d10_28) rfl) ?_
  show Go p e below (s₁.setTop (mkF m 29 #[.val (.long q2), .second] [(.long (q2 + ((q2.toUInt64 >>> ((4 : Int32) &&& 0x3f).toInt64.toUInt64).toInt64)))])) _
  refine Go.via (X0.ldc2Long hx hown (mvT hZ (tw hw 55 rfl)) (g := (mkF m 29 #[.val (.long q2), .second] [(.long (q2 + ((q2.toUInt64 >>> ((4 : Int32) &&& 0x3f).toInt64.toUInt64).toInt64)))])) rfl (hb hby d10_29)) ?_
  show Go p e below (s₁.setTop (mkF m 32 #[.val (.long q2), .second] [(.long (1085102592571150095 : Int64)), (.long (q2 + ((q2.toUInt64 >>> ((4 : Int32) &&& 0x3f).toInt64.toUInt64).toInt64)))])) _
  refine Go.via (fun _ => XS.land X0.here hx rfl (hb hby d10_32) rfl) ?_
  show Go p e below (s₁.setTop (mkF m 33 #[.val (.long q2), .second] [(.long ((q2 + ((q2.toUInt64 >>> ((4 : Int32) &&& 0x3f).toInt64.toUInt64).toInt64)) &&& (1085102592571150095 : Int64)))])) _
  generalize hv_q3 : ((q2 + ((q2.toUInt64 >>> ((4 : Int32) &&& 0x3f).toInt64.toUInt64).toInt64)) &&& (1085102592571150095 : Int64)) = q3
  show Go p e below (s₁.setTop (mkF m 33 #[.val (.long q2), .second] [(.long q3)])) _
  refine Go.via (fun _ => XS.lstoreN X0.here hx rfl (hb hby d10_33) rfl (l' := #[.val (.long q3), .second]) rfl) ?_
  show Go p e below (s₁.setTop (mkF m 34 #[.val (.long q3), .second] [])) _
  refine Go.via (fun _ => XS.lloadN X0.here hx rfl (hb hby d10_34) rfl) ?_
  refine Go.via (fun _ => XS.lloadN X0.here hx rfl (hb hby d10_35) rfl) ?_
  refine Go.via (fun _ => XS.bipush X0.here hx rfl (hb hby d10_36)) ?_
  refine Go.via (fun _ => XS.lushr X0.here hx rfl (hb hby d10_38) rfl) ?_
  show Go p e below (s₁.setTop (mkF m 39 #[.val (.long q3), .second] [(.long ((q3.toUInt64 >>> ((8 : Int32) &&& 0x3f).toInt64.toUInt64).toInt64)), (.long q3)])) _
  refine Go.via (fun _ => XS.ladd X0.here hx rfl (hb hby d10_39) rfl) ?_
  show Go p e below (s₁.setTop (mkF m 40 #[.val (.long q3), .second] [(.long (q3 + ((q3.toUInt64 >>> ((8 : Int32) &&& 0x3f).toInt64.toUInt64).toInt64)))])) _
  generalize hv_q4 : (q3 + ((q3.toUInt64 >>> ((8 : Int32) &&& 0x3f).toInt64.toUInt64).toInt64)) = q4
  show Go p e below (s₁.setTop (mkF m 40 #[.val (.long q3), .second] [(.long q4)])) _
  refine Go.via (fun _ => XS.lstoreN X0.here hx rfl (hb hby d10_40) rfl (l' := #[.val (.long q4), .second]) rfl) ?_
  show Go p e below (s₁.setTop (mkF m 41 #[.val (.long q4), .second] [])) _
  refine Go.via (fun _ => XS.lloadN X0.here hx rfl (hb hby d10_41) rfl) ?_
  refine Go.via (fun _ => XS.lloadN X0.here hx rfl (hb hby d10_42) rfl) ?_
  refine Go.via (fun _ => XS.bipush X0.here hx rfl (hb hby d10_43)) ?_
  refine Go.via (fun _ => XS.lushr X0.here hx rfl (hb hby d10_45) rfl) ?_
  show Go p e below (s₁.setTop (mkF m 46 #[.val (.long q4), .second] [(.long ((q4.toUInt64 >>> ((16 : Int32) &&& 0x3f).toInt64.toUInt64).toInt64)), (.long q4)])) _
  refine Go.via (fun _ => XS.ladd X0.here hx rfl (hb hby d10_46) rfl) ?_
  show Go p e below (s₁.setTop (mkF m 47 #[.val (.long q4), .second] [(.long (q4 + ((q4.toUInt64 >>> ((16 : Int32) &&& 0x3f).toInt64.toUInt64).toInt64)))])) _
  generalize hv_q5 : (q4 + ((q4.toUInt64 >>> ((16 : Int32) &&& 0x3f).toInt64.toUInt64).toInt64)) = q5
  show Go p e below (s₁.setTop (mkF m 47 #[.val (.long q4), .second] [(.long q5)])) _
  refine Go.via (fun _ => XS.lstoreN X0.here hx rfl (hb hby d10_47) rfl (l' := #[.val (.long q5), .second]) rfl) ?_
  show Go p e below (s₁.setTop (mkF m 48 #[.val (.long q5), .second] [])) _
  refine Go.via (fun _ => XS.lloadN X0.here hx rfl (hb hby d10_48) rfl) ?_
  refine Go.via (fun _ => XS.lloadN X0.here hx rfl (hb hby d10_49) rfl) ?_
  refine Go.via (fun _ => XS.bipush X0.here hx rfl (hb hby d10_50)) ?_
  refine Go.via (fun _ => XS.lushr X0.here hx rfl (hb hby d10_52) rfl) ?_
  show Go p e below (s₁.setTop (mkF m 53 #[.val (.long q5), .second] [(.long ((q5.toUInt64 >>> ((32 : Int32) &&& 0x3f).toInt64.toUInt64).toInt64)), (.long q5)])) _
  refine Go.via (fun _ => XS.ladd X0.here hx rfl (hb hby d10_53) rfl) ?_
  show Go p e below (s₁.setTop (mkF m 54 #[.val (.long q5), .second] [(.long (q5 + ((q5.toUInt64 >>> ((32 : Int32) &&& 0x3f).toInt64.toUInt64).toInt64)))])) _
  generalize hv_q6 : (q5 + ((q5.toUInt64 >>> ((32 : Int32) &&& 0x3f).toInt64.toUInt64).toInt64)) = q6
  show Go p e below (s₁.setTop (mkF m 54 #[.val (.long q5), .second] [(.long q6)])) _
  refine Go.via (fun _ => XS.lstoreN X0.here hx rfl (hb hby d10_54) rfl (l' := #[.val (.long q6), .second]) rfl) ?_
  show Go p e below (s₁.setTop (mkF m 55 #[.val (.long q6), .second] [])) _
  refine Go.via (fun _ => XS.lloadN X0.here hx rfl (hb hby d10_55) rfl) ?_
  refine Go.via (fun _ => XS.l2i X0.here hx rfl (hb hby d10_56) rfl) ?_
  show Go p e below (s₁.setTop (mkF m 57 #[.val (.long q6), .second] [(.int (q6.toInt32))])) _
  refine Go.via (fun _ => XS.bipush X0.here hx rfl (hb hby d10_57)) ?_
  refine Go.via (fun _ => XS.iand X0.here hx rfl (hb hby d10_59) rfl) ?_
  show Go p e below (s₁.setTop (mkF m 60 #[.val (.long q6), .second] [(.int ((q6.toInt32) &&& (127 : Int32)))])) _
  exact Go.fin X0 hlk (v := some (.int ((q6.toInt32) &&& (127 : Int32)))) (fun h => by rw [Bd.returns] at h; cases h) (fun fs hr => OwnKit.retI X0 hx Bd.returns (hb hby d10_60) hr) (by rw [e0]; exact ⟨(by subst hv_q1 hv_q2 hv_q3 hv_q4 hv_q5 hv_q6; rfl), rfl, rfl⟩) (by decide) (by decide)
theorem d9_0 : decode prog_15_method_9_code 0 = .ok (.lload_n 0, 1) := by decide +kernel
theorem d9_1 : decode prog_15_method_9_code 1 = .ok (.ldc2_w 85, 3) := by decide +kernel
theorem d9_4 : decode prog_15_method_9_code 4 = .ok (.lrem, 1) := by decide +kernel
theorem d9_5 : decode prog_15_method_9_code 5 = .ok (.lconst 0, 1) := by decide +kernel
theorem d9_6 : decode prog_15_method_9_code 6 = .ok (.lcmp, 1) := by decide +kernel
theorem d9_7 : decode prog_15_method_9_code 7 = .ok (.ifCond .ne 27, 3) := by decide +kernel
theorem d9_10 : decode prog_15_method_9_code 10 = .ok (.lload_n 0, 1) := by decide +kernel
theorem d9_11 : decode prog_15_method_9_code 11 = .ok (.ldc2_w 87, 3) := by decide +kernel
theorem d9_14 : decode prog_15_method_9_code 14 = .ok (.lcmp, 1) := by decide +kernel
theorem d9_15 : decode prog_15_method_9_code 15 = .ok (.ifCond .gt 19, 3) := by decide +kernel
theorem d9_18 : decode prog_15_method_9_code 18 = .ok (.lload_n 0, 1) := by decide +kernel
theorem d9_19 : decode prog_15_method_9_code 19 = .ok (.ldc2_w 85, 3) := by decide +kernel
theorem d9_22 : decode prog_15_method_9_code 22 = .ok (.ldiv, 1) := by decide +kernel
theorem d9_23 : decode prog_15_method_9_code 23 = .ok (.invokestatic 89, 3) := by decide +kernel
theorem pd__28J_29I : parseMethodDescriptor "(J)I" = some ⟨[.long], some .int⟩ := by decide +kernel
theorem d9_26 : decode prog_15_method_9_code 26 = .ok (.iconst 1, 1) := by decide +kernel
theorem d9_27 : decode prog_15_method_9_code 27 = .ok (.if_icmp .ne 7, 3) := by decide +kernel
theorem d9_30 : decode prog_15_method_9_code 30 = .ok (.iconst 1, 1) := by decide +kernel
theorem d9_31 : decode prog_15_method_9_code 31 = .ok (.goto 4, 3) := by decide +kernel
theorem d9_35 : decode prog_15_method_9_code 35 = .ok (.ireturn, 1) := by decide +kernel
theorem pn_9 : plainName cCD = true := by first | (simp [plainName, overriddenIn]; done) | decide +kernel
theorem ef_9 (m : MethodId) (x0 : Int64) : entryFrame m #[(.long x0)] 2 = mkF m 0 #[.val (.long x0), .second] [] := by first | (simp [entryFrame, mkF, argsToLocals, Value.category]; done) | rfl
def Q_rmVb (Z : State) (v : Int64)  (h0 : Heap) (n0 : Nat) (vQ : Option Value) (hQ : Heap) (LQ : List Loc) : Prop := vQ = some (.int (1 : Int32)) ∧ LQ = [] ∧ hQ = h0
set_option maxRecDepth 65536 in
set_option maxHeartbeats 40000000 in
theorem rmVb (l : Launch) (Z : State) (a0 : Array Value) (hw : ∀ d ∈ tables_1, d.before a0 Z = true) (ws : List Jvm.Cond) (v : Int64)  (h0 : Heap) (n0 : Nat) (Z0 : n0 ≤ h0.size) (hB : Bv v) :
    MetFree l (⟨cCD, "isValidBlockSize", "(J)Z"⟩ : MethodName) (head1 (Jvm.Cond.code (⟨cCD, "isValidBlockSize", "(J)Z"⟩ : MethodName) prog_15_method_9_code 2 (some .boolean) :: ws) ({ frames := 1, cells := 0, slots := 0, locals := 13 } : Room)) (fun aQ UQ => aQ = #[(.long v)] ∧ Z.Warmed39 UQ.vm ∧ UQ.heap = h0) (fun _ _ _ _ _ => True) (fun _ UQ oQ UR => ∃ vQ LQ, oQ = .returned vQ ∧ Q_rmVb Z v  h0 n0 vQ UR.heap LQ ∧ FrameEnd UQ oQ UR LQ ({ frames := 1, cells := 0, slots := 0, locals := 13 } : Room).cells ({ frames := 1, cells := 0, slots := 0, locals := 13 } : Room).slots) := by
  refine MetFree.of_bodySF (plainFor_of_name pn_9) hisR ?_
  intro p e s m args below meth c s₁ Bd hml0 hP hK
  obtain ⟨rfl, hZ, hh⟩ := hP
  have hx := Bd.exec
  have hby := Bd.bytes
  have hlk := Bd.notSynchronized
  have hml : c.maxLocals = 2 := hml0
  have hown : s.vm.findClass cCD = some m.cls := findClass_of_methodNamed Bd.named
  have hnm := (name_of_methodNamed Bd.named Bd.method).1
  have X0 : Stand p l e ({ frames := 1, cells := 0, slots := 0, locals := 13 } : Room) s m #[(.long v)] below meth c s₁ [] 0 0 := Stand.of_body Bd
  have e0 : s₁.heap = h0 := by rw [← hh, Bd.state]; rfl
  have N0 := Fr.nil n0
  show Go p e below _ (Done s (Q_rmVb Z v  h0 n0) ({ frames := 1, cells := 0, slots := 0, locals := 13 } : Room).cells ({ frames := 1, cells := 0, slots := 0, locals := 13 } : Room).slots)
  refine Go.via (fun tQ kQ => castTop (ef_9 m v) kQ) ?_
  show Go p e below (s₁.setTop (mkF m 0 #[.val (.long v), .second] [])) _
  refine Go.via (fun _ => XS.lloadN X0.here hx rfl (hb hby d9_0) rfl) ?_
  refine Go.via (X0.ldc2Long hx hown (mvT hZ (tw hw 47 rfl)) (g := (mkF m 1 #[.val (.long v), .second] [(.long v)])) rfl (hb hby d9_1)) ?_
  show Go p e below (s₁.setTop (mkF m 4 #[.val (.long v), .second] [(.long (3 : Int64)), (.long v)])) _
  refine Go.via (fun _ => XS.lrem X0.here hx rfl (hb hby d9_4) rfl (by decide)) ?_
  show Go p e below (s₁.setTop (mkF m 5 #[.val (.long v), .second] [(.long (v - (v / (3 : Int64)) * (3 : Int64)))])) _
  refine Go.via (fun _ => XS.lconst X0.here hx rfl (hb hby d9_5)) ?_
  refine Go.via (fun _ => XS.lcmp X0.here hx rfl (hb hby d9_6) rfl) ?_
  show Go p e below (s₁.setTop (mkF m 7 #[.val (.long v), .second] [(.int (lcmpW (v - (v / (3 : Int64)) * (3 : Int64)) (0 : Int64)))])) _
  refine Go.via (fun _ => XS.ifNo X0.here hx rfl (hb hby d9_7) rfl ((if0 _ _).trans (teq (hB.1 : (lcmpW (v - (v / (3 : Int64)) * (3 : Int64)) (0 : Int64)) = (0 : Int32))).2)) ?_
  show Go p e below (s₁.setTop (mkF m 10 #[.val (.long v), .second] [])) _
  refine Go.via (fun _ => XS.lloadN X0.here hx rfl (hb hby d9_10) rfl) ?_
  refine Go.via (X0.ldc2Long hx hown (mvT hZ (tw hw 48 rfl)) (g := (mkF m 11 #[.val (.long v), .second] [(.long v)])) rfl (hb hby d9_11)) ?_
  show Go p e below (s₁.setTop (mkF m 14 #[.val (.long v), .second] [(.long (3221225472 : Int64)), (.long v)])) _
  refine Go.via (fun _ => XS.lcmp X0.here hx rfl (hb hby d9_14) rfl) ?_
  show Go p e below (s₁.setTop (mkF m 15 #[.val (.long v), .second] [(.int (lcmpW v (3221225472 : Int64)))])) _
  refine Go.via (fun _ => XS.ifNo X0.here hx rfl (hb hby d9_15) rfl ((if0 _ _).trans (flt (hB.2.1 : ¬ ((0 : Int32) < (lcmpW v (3221225472 : Int64))))).2.2.1)) ?_
  show Go p e below (s₁.setTop (mkF m 18 #[.val (.long v), .second] [])) _
  refine Go.via (fun _ => XS.lloadN X0.here hx rfl (hb hby d9_18) rfl) ?_
  refine Go.via (X0.ldc2Long hx hown (mvT hZ (tw hw 47 rfl)) (g := (mkF m 19 #[.val (.long v), .second] [(.long v)])) rfl (hb hby d9_19)) ?_
  show Go p e below (s₁.setTop (mkF m 22 #[.val (.long v), .second] [(.long (3 : Int64)), (.long v)])) _
  refine Go.via (fun _ => XS.ldiv X0.here hx rfl (hb hby d9_22) rfl (by decide)) ?_
  show Go p e below (s₁.setTop (mkF m 23 #[.val (.long v), .second] [(.long (v / (3 : Int64)))])) _
  obtain ⟨r231, _, ⟨T231, L231, k231, n231⟩, -, X231, ⟨Lc231, hQ231, l231, y231, z231⟩, st231⟩ := Jvm.LawKit.callS X0 hx (y := (⟨"java/lang/Long", "bitCount", "(J)I"⟩ : MethodName)) hown (mvT hZ (tw hw 49 rfl)) (mvT hZ (tw hw 50 rfl)) (mvT hZ (tw hw 51 rfl)) (mvT hZ (tw hw 52 rfl)) (by decide) (backOf (W := 0) (rmBc l Z a0 hw [] (v / (3 : Int64))  h0 n0 Z0) hZ (tw hw 52 rfl) (tw hw 51 rfl) (by decide) (by decide)) (g := (mkF m 23 #[.val (.long v), .second] [(.long (v / (3 : Int64)))])) rfl (by rw [hml]; rfl) (argsL := [(.long (v / (3 : Int64)))]) (rest := []) (lenOf pd__28J_29I rfl) rfl (by show 2 * 0 + _ ≤ _; exact Nat.le_of_eq rfl) (hb hby d9_23) (fun _ _ => ⟨rfl, e0, (by decide : 0 + 0 ≤ _), (by decide : 0 + 0 ≤ _)⟩)
  dsimp only [Pt.U, Pt.locs, Pt.cells, Pt.slots] at X231 l231 y231 z231 st231 hQ231
  rw [l231, y231, z231] at X231
  clear l231 y231 z231
  obtain ⟨hr231, N231q, eh231⟩ := hQ231
  rw [hr231] at st231
  clear hr231
  rw [N231q, List.append_nil] at X231
  refine Go.via (st231) ?_
  clear st231
  have e231 : T231.heap = h0 := eh231
  clear X0 e0
  show Go p e below (T231.setTop (mkF m 26 #[.val (.long v), .second] [(.int (bcF (v / (3 : Int64))))])) _
  refine Go.via (fun _ => XS.iconst X231.here hx rfl (hb hby d9_26)) ?_
  refine Go.via (fun _ => XS.icmpNo X231.here hx rfl (hb hby d9_27) rfl (teq (hB.2.2 : (bcF (v / (3 : Int64))) = (1 : Int32))).2) ?_
  show Go p e below (T231.setTop (mkF m 30 #[.val (.long v), .second] [])) _
  refine Go.via (fun _ => XS.iconst X231.here hx rfl (hb hby d9_30)) ?_
  refine Go.via (fun _ => XS.goto X231.here hx rfl (pc0 := 31) (pc' := 35) rfl (hb hby d9_31) (by decide) (by decide)) ?_
  exact Go.fin X231 hlk (v := some (.int (1 : Int32))) (fun h => by rw [Bd.returns] at h; cases h) (fun fs hr => retN X231 hx (t := .boolean) Bd.returns (by simp) (hb hby d9_35) hr) (by rw [e231]; exact ⟨rfl, rfl, rfl⟩) (by decide) (by decide)
theorem d8_0 : decode prog_15_method_1_code 0 = .ok (.aload_n 0, 1) := by decide +kernel
theorem d8_1 : decode prog_15_method_1_code 1 = .ok (.invokespecial 3, 3) := by decide +kernel
theorem d8_4 : decode prog_15_method_1_code 4 = .ok (.lload_n 1, 1) := by decide +kernel
theorem d8_5 : decode prog_15_method_1_code 5 = .ok (.invokestatic 9, 3) := by decide +kernel
theorem pd__28J_29Z : parseMethodDescriptor "(J)Z" = some ⟨[.long], some .boolean⟩ := by decide +kernel
theorem d8_8 : decode prog_15_method_1_code 8 = .ok (.ifCond .ne 17, 3) := by decide +kernel
theorem d8_25 : decode prog_15_method_1_code 25 = .ok (.ldc 22, 2) := by decide +kernel
theorem d8_27 : decode prog_15_method_1_code 27 = .ok (.aload_n 3, 1) := by decide +kernel
theorem d8_28 : decode prog_15_method_1_code 28 = .ok (.bipush 64, 2) := by decide +kernel
theorem d8_30 : decode prog_15_method_1_code 30 = .ok (.invokestatic 24, 3) := by decide +kernel
theorem pd__28Ljava_2flang_2fString_3bLjava_2flang_2fString_3bI_29V : parseMethodDescriptor "(Ljava/lang/String;Ljava/lang/String;I)V" = some ⟨[(.object cST), (.object cST), .int], none⟩ := by decide +kernel
theorem d8_33 : decode prog_15_method_1_code 33 = .ok (.ldc 28, 2) := by decide +kernel
theorem d8_35 : decode prog_15_method_1_code 35 = .ok (.aload 4, 2) := by decide +kernel
theorem d8_37 : decode prog_15_method_1_code 37 = .ok (.bipush 32, 2) := by decide +kernel
theorem d8_39 : decode prog_15_method_1_code 39 = .ok (.invokestatic 24, 3) := by decide +kernel
theorem d8_42 : decode prog_15_method_1_code 42 = .ok (.aload_n 0, 1) := by decide +kernel
theorem d8_43 : decode prog_15_method_1_code 43 = .ok (.lload_n 1, 1) := by decide +kernel
theorem d8_44 : decode prog_15_method_1_code 44 = .ok (.putfield 30, 3) := by decide +kernel
theorem d8_47 : decode prog_15_method_1_code 47 = .ok (.aload_n 0, 1) := by decide +kernel
theorem d8_48 : decode prog_15_method_1_code 48 = .ok (.aload_n 3, 1) := by decide +kernel
theorem d8_49 : decode prog_15_method_1_code 49 = .ok (.putfield 34, 3) := by decide +kernel
theorem d8_52 : decode prog_15_method_1_code 52 = .ok (.aload_n 0, 1) := by decide +kernel
theorem d8_53 : decode prog_15_method_1_code 53 = .ok (.aload 4, 2) := by decide +kernel
theorem d8_55 : decode prog_15_method_1_code 55 = .ok (.putfield 38, 3) := by decide +kernel
theorem d8_58 : decode prog_15_method_1_code 58 = .ok (.return_, 1) := by decide +kernel
theorem pn_8 : plainName cCD = true := by first | (simp [plainName, overriddenIn]; done) | decide +kernel
theorem ef_8 (m : MethodId) (x0 : Addr) (x1 : Int64) (x2 : Addr) (x3 : Addr) : entryFrame m #[(.ref x0), (.long x1), (.ref x2), (.ref x3)] 5 = mkF m 0 #[.val (.ref x0), .val (.long x1), .second, .val (.ref x2), .val (.ref x3)] [] := by first | (simp [entryFrame, mkF, argsToLocals, Value.category]; done) | rfl
def Q_rmDc (Z : State) (f : Addr) (v : Int64) (s1 : Addr) (s2 : Addr) (b1 : Addr) (b2 : Addr) (xs1 : List Int32) (xs2 : List Int32) (cs : Int32) (fv : Value) (h0 : Heap) (n0 : Nat) (vQ : Option Value) (hQ : Heap) (vmQ : Vm) (LQ : List Loc) : Prop := vQ = none ∧ Fr n0 LQ ∧ Keep h0 hQ [f] ∧ Exa Z hQ f cCD ∧ Fld Z hQ f cCD "blockSize" "J" (.long v) ∧ Fld Z hQ f cCD "signature1" "Ljava/lang/String;" (.ref s1) ∧ Fld Z hQ f cCD "signature2" "Ljava/lang/String;" (.ref s2) ∧ Em Z vmQ hQ ["signature 1", "signature 2", "digest", "name"]
def V_rmDc (Z : State) (f : Addr) (v : Int64) (s1 : Addr) (s2 : Addr) (b1 : Addr) (b2 : Addr) (xs1 : List Int32) (xs2 : List Int32) (cs : Int32) (fv : Value) (h0 : Heap) (vmV : Vm) : Prop := Em Z vmV h0 ["signature 1", "signature 2", "digest", "name"] ∧ True
set_option maxRecDepth 65536 in
set_option maxHeartbeats 40000000 in
theorem rmDc (l : Launch) (Z : State) (a0 : Array Value) (hw : ∀ d ∈ tables_1, d.before a0 Z = true) (ws : List Jvm.Cond) (f : Addr) (v : Int64) (s1 : Addr) (s2 : Addr) (b1 : Addr) (b2 : Addr) (xs1 : List Int32) (xs2 : List Int32) (cs : Int32) (fv : Value) (h0 : Heap) (n0 : Nat) (Z0 : n0 ≤ h0.size) (P0 : Exa Z h0 f cCD) (P1 : Fld Z h0 f cCD "blockSize" "J" (.long (0 : Int64))) (P2 : Fld Z h0 f cCD "signature1" "Ljava/lang/String;" .null) (P3 : Fld Z h0 f cCD "signature2" "Ljava/lang/String;" .null) (P4 : Exa Z h0 s1 cST) (P5 : Fld Z h0 s1 cST "coder" "B" (.int (0 : Int32))) (P6 : Fld Z h0 s1 cST "value" "[B" (.ref b1)) (P7 : Ia Z h0 b1 .byte xs1) (P8 : Exa Z h0 s2 cST) (P9 : Fld Z h0 s2 cST "coder" "B" (.int (0 : Int32))) (P10 : Fld Z h0 s2 cST "value" "[B" (.ref b2)) (P11 : Ia Z h0 b2 .byte xs2) (P12 : Old Z n0 h0) (zCS : Sta Z Z.heap cST "COMPACT_STRINGS" "Z" (.int cs)) (zF : Sta Z Z.heap cPR "SIOOBE_FORMATTER" "Ljava/util/function/BiFunction;" fv) (g_f : n0 ≤ f) (hX1 : Sg xs1) (hX2 : Sg xs2) (hB : Bv v) (hcs : ¬ (cs = (0 : Int32))) (hfv : fv = .null ∨ ∃ fa : Addr, fv = .ref fa) :
    MetFree l (⟨cCD, "<init>", "(JLjava/lang/String;Ljava/lang/String;)V"⟩ : MethodName) (head1 (Jvm.Cond.code (⟨cCD, "<init>", "(JLjava/lang/String;Ljava/lang/String;)V"⟩ : MethodName) prog_15_method_1_code 5 none :: ws) ({ frames := 5, cells := 4, slots := 96, locals := 69 } : Room)) (fun aQ UQ => aQ = #[(.ref f), (.long v), (.ref s1), (.ref s2)] ∧ Z.Warmed39 UQ.vm ∧ UQ.heap = h0 ∧ V_rmDc Z f v s1 s2 b1 b2 xs1 xs2 cs fv h0 UQ.vm) (fun _ _ _ _ _ => True) (fun _ UQ oQ UR => ∃ vQ LQ, oQ = .returned vQ ∧ Q_rmDc Z f v s1 s2 b1 b2 xs1 xs2 cs fv h0 n0 vQ UR.heap UR.vm LQ ∧ ReturnedEndW UQ oQ UR LQ ({ frames := 5, cells := 4, slots := 96, locals := 69 } : Room).cells ({ frames := 5, cells := 4, slots := 96, locals := 69 } : Room).slots) := by
  refine MetFree.of_bodySF (plainFor_of_name pn_8) hisR ?_
  intro p e s m args below meth c s₁ Bd hml0 hP hK
  obtain ⟨rfl, hZ0, hh, hV⟩ := hP
  obtain ⟨I0, -⟩ := hV
  have hx := Bd.exec
  have hby := Bd.bytes
  have hlk := Bd.notSynchronized
  have hml : c.maxLocals = 5 := hml0
  have hnm := (name_of_methodNamed Bd.named Bd.method).1
  have e0 : s₁.heap = h0 := by rw [← hh, Bd.state]; rfl
  have N0 := Fr.nil n0
  have hZ : Z.Warmed39 (s.setVm s.vm).vm := hZ0
  have hown : (s.setVm s.vm).vm.findClass cCD = some m.cls := findClass_of_methodNamed Bd.named
  have X0 : Stand p l e ({ frames := 5, cells := 4, slots := 96, locals := 69 } : Room) (s.setVm s.vm) m #[(.ref f), (.long v), (.ref s1), (.ref s2)] below meth c s₁ [] 0 0 := Stand.of_body Bd
  have hS0 : s.Since s.vm s.heap.size := (State.WarmedH.refl _).since _
  have hk0 : s.heap.size ≤ h0.size := Nat.le_of_eq (congrArg Array.size hh)
  show Go p e below _ (DoneW s (Q_rmDc Z f v s1 s2 b1 b2 xs1 xs2 cs fv h0 n0) ({ frames := 5, cells := 4, slots := 96, locals := 69 } : Room).cells ({ frames := 5, cells := 4, slots := 96, locals := 69 } : Room).slots)
  refine Go.via (fun tQ kQ => castTop (ef_8 m f v s1 s2) kQ) ?_
  show Go p e below (s₁.setTop (mkF m 0 #[.val (.ref f), .val (.long v), .second, .val (.ref s1), .val (.ref s2)] [])) _
  refine Go.via (fun _ => XS.aloadN X0.here hx rfl (hb hby d8_0) rfl rfl) ?_
  obtain ⟨T232, X232, e232, st232⟩ := initO X0 hx hZ hown (tw hw 43 rfl) (tw hw 30 rfl) (tw hw 31 rfl) e0 (g := (mkF m 1 #[.val (.ref f), .val (.long v), .second, .val (.ref s1), .val (.ref s2)] [(.ref f)])) rfl (by rw [hml]; rfl) rfl (hb hby d8_1) (by decide) (W := 0) (by show 2 * 0 + _ ≤ _; exact Nat.le_of_eq rfl) (by decide)
  refine Go.via (st232) ?_
  clear st232
  clear X0 e0
  show Go p e below (T232.setTop (mkF m 4 #[.val (.ref f), .val (.long v), .second, .val (.ref s1), .val (.ref s2)] [])) _
  refine Go.via (fun _ => XS.lloadN X232.here hx rfl (hb hby d8_4) rfl) ?_
  obtain ⟨r233, _, ⟨T233, L233, k233, n233⟩, -, X233, ⟨Lc233, hQ233, l233, y233, z233⟩, st233⟩ := Jvm.LawKit.callS X232 hx (y := (⟨cCD, "isValidBlockSize", "(J)Z"⟩ : MethodName)) hown (mvT hZ (tw hw 44 rfl)) (mvT hZ (tw hw 45 rfl)) (mvT hZ (tw hw 2 rfl)) (mvT hZ (tw hw 46 rfl)) (by decide) (backOf (W := 0) (rmVb l Z a0 hw [] v  h0 n0 Z0 hB) hZ (tw hw 46 rfl) (tw hw 2 rfl) (by decide) (by decide)) (g := (mkF m 5 #[.val (.ref f), .val (.long v), .second, .val (.ref s1), .val (.ref s2)] [(.long v)])) rfl (by rw [hml]; rfl) (argsL := [(.long v)]) (rest := []) (lenOf pd__28J_29Z rfl) rfl (by show 2 * 0 + _ ≤ _; exact Nat.le_of_eq rfl) (hb hby d8_5) (fun _ _ => ⟨rfl, e232, (by decide : 0 + 0 ≤ _), (by decide : 0 + 0 ≤ _)⟩)
  dsimp only [Pt.U, Pt.locs, Pt.cells, Pt.slots] at X233 l233 y233 z233 st233 hQ233
  rw [l233, y233, z233] at X233
  clear l233 y233 z233
  obtain ⟨hr233, N233q, eh233⟩ := hQ233
  rw [hr233] at st233
  clear hr233
  rw [N233q, List.append_nil] at X233
  refine Go.via (st233) ?_
  clear st233
  have e233 : T233.heap = h0 := eh233
  clear X232 e232
  show Go p e below (T233.setTop (mkF m 8 #[.val (.ref f), .val (.long v), .second, .val (.ref s1), .val (.ref s2)] [(.int (1 : Int32))])) _
  refine Go.via (fun _ => XS.ifYes X233.here hx rfl (pc0 := 8) (pc' := 25) rfl (hb hby d8_8) rfl ((if0 _ _).trans (feq ((by decide) : ¬ ((1 : Int32) = (0 : Int32)))).2) (by decide) (by decide)) ?_
  show Go p e below (T233.setTop (mkF m 25 #[.val (.ref f), .val (.long v), .second, .val (.ref s1), .val (.ref s2)] [])) _
  obtain ⟨b234, T234, h234, k1234, X234, e234, E234, hS234, hk234, hZ234, ho234, I234, st234⟩ := ldcT (text := "signature 1") X233 hx hZ hown (tw hw 56 rfl) (wStr hw) e233 hS0 hk0 I0 (by decide) (by decide) (g := (mkF m 25 #[.val (.ref f), .val (.long v), .second, .val (.ref s1), .val (.ref s2)] [])) rfl (hb hby d8_25) (n := 44) (by decide) (by decide) (by decide) (by decide)
  have hZ : Z.Warmed39 (s.setVm T234.vm).vm := hZ234
  have hown : (s.setVm T234.vm).vm.findClass cCD = some m.cls := ho234
  clear hZ234 ho234
  refine Go.via (st234) ?_
  clear st234
  clear X233 e233
  show Go p e below (T234.setTop (mkF m 27 #[.val (.ref f), .val (.long v), .second, .val (.ref s1), .val (.ref s2)] [(.ref b234)])) _
  refine Go.via (fun _ => XS.aloadN X234.here hx rfl (hb hby d8_27) rfl rfl) ?_
  refine Go.via (fun _ => XS.bipush X234.here hx rfl (hb hby d8_28)) ?_
  have f235 : Exa Z h234 s1 cST := (P4.ext E234)
  have f236 : Fld Z h234 s1 cST "coder" "B" (.int (0 : Int32)) := (P5.ext E234)
  have f237 : Fld Z h234 s1 cST "value" "[B" (.ref b1) := (P6.ext E234)
  have f238 : Ia Z h234 b1 .byte xs1 := (P7.ext E234)
  have o239 : Old Z n0 h234 := (P12.ext E234)
  have z241 : n0 ≤ h234.size := (Nat.le_trans Z0 E234.1)
  obtain ⟨r240, _, ⟨T240, L240, k240, n240⟩, -, X240, ⟨Lc240, hQ240, l240, y240, z240⟩, st240⟩ := Jvm.LawKit.callS X234 hx (y := (⟨cCD, "checkSignature", "(Ljava/lang/String;Ljava/lang/String;I)V"⟩ : MethodName)) hown (mvT hZ (tw hw 57 rfl)) (mvT hZ (tw hw 58 rfl)) (mvT hZ (tw hw 2 rfl)) (mvT hZ (tw hw 59 rfl)) (by decide) (backOf (W := 0) (rmCk l Z a0 hw [] b234 s1 (64 : Int32) b1 xs1 cs fv h234 n0 z241 f235 f236 f237 f238 o239 zCS zF hX1 (by first | decide | (simp only [List.length_cons, List.length_nil]; decide) | rfl) (by first | decide | (simp only [List.length_cons, List.length_nil]; decide) | rfl) (by first | decide | (simp only [List.length_cons, List.length_nil]; decide) | rfl) hcs hfv) hZ (tw hw 59 rfl) (tw hw 2 rfl) (by decide) (by decide)) (g := (mkF m 30 #[.val (.ref f), .val (.long v), .second, .val (.ref s1), .val (.ref s2)] [(.int (64 : Int32)), (.ref s1), (.ref b234)])) rfl (by rw [hml]; rfl) (argsL := [(.ref b234), (.ref s1), (.int (64 : Int32))]) (rest := []) (lenOf pd__28Ljava_2flang_2fString_3bLjava_2flang_2fString_3bI_29V rfl) rfl (by show 2 * 0 + _ ≤ _; exact Nat.le_of_eq rfl) (hb hby d8_30) (fun _ _ => ⟨rfl, e234, (by decide : 2 + 0 ≤ _), (by decide : 48 + 0 ≤ _)⟩)
  dsimp only [Pt.U, Pt.locs, Pt.cells, Pt.slots] at X240 l240 y240 z240 st240 hQ240
  rw [l240, y240, z240] at X240
  clear l240 y240 z240
  obtain ⟨hr240, N240q, eh240⟩ := hQ240
  rw [hr240] at st240
  clear hr240
  rw [N240q, List.append_nil] at X240
  refine Go.via (st240) ?_
  clear st240
  have e240 : T240.heap = h234 := eh240
  clear X234 e234
  show Go p e below (T240.setTop (mkF m 33 #[.val (.ref f), .val (.long v), .second, .val (.ref s1), .val (.ref s2)] [])) _
  have k243 : Keep h0 h234 [f] := ((Keep.refl h0 [f]).ext E234)
  obtain ⟨b242, T242, h242, k1242, X242, e242, E242, hS242, hk242, hZ242, ho242, I242, st242⟩ := ldcT (text := "signature 2") X240 hx hZ hown (tw hw 71 rfl) (wStr hw) e240 hS234 hk234 I234 (by decide) (by decide) (g := (mkF m 33 #[.val (.ref f), .val (.long v), .second, .val (.ref s1), .val (.ref s2)] [])) rfl (hb hby d8_33) (n := 44) (by decide) (by decide) (by decide) (by decide)
  have hZ : Z.Warmed39 (s.setVm T242.vm).vm := hZ242
  have hown : (s.setVm T242.vm).vm.findClass cCD = some m.cls := ho242
  clear hZ242 ho242
  refine Go.via (st242) ?_
  clear st242
  clear X240 e240
  show Go p e below (T242.setTop (mkF m 35 #[.val (.ref f), .val (.long v), .second, .val (.ref s1), .val (.ref s2)] [(.ref b242)])) _
  refine Go.via (fun _ => XS.aload X242.here hx rfl (hb hby d8_35) rfl rfl) ?_
  refine Go.via (fun _ => XS.bipush X242.here hx rfl (hb hby d8_37)) ?_
  have f244 : Exa Z h242 s2 cST := ((P8.ext E234).ext E242)
  have f245 : Fld Z h242 s2 cST "coder" "B" (.int (0 : Int32)) := ((P9.ext E234).ext E242)
  have f246 : Fld Z h242 s2 cST "value" "[B" (.ref b2) := ((P10.ext E234).ext E242)
  have f247 : Ia Z h242 b2 .byte xs2 := ((P11.ext E234).ext E242)
  have o248 : Old Z n0 h242 := (o239.ext E242)
  have z250 : n0 ≤ h242.size := (Nat.le_trans z241 E242.1)
  obtain ⟨r249, _, ⟨T249, L249, k249, n249⟩, -, X249, ⟨Lc249, hQ249, l249, y249, z249⟩, st249⟩ := Jvm.LawKit.callS X242 hx (y := (⟨cCD, "checkSignature", "(Ljava/lang/String;Ljava/lang/String;I)V"⟩ : MethodName)) hown (mvT hZ (tw hw 57 rfl)) (mvT hZ (tw hw 58 rfl)) (mvT hZ (tw hw 2 rfl)) (mvT hZ (tw hw 59 rfl)) (by decide) (backOf (W := 0) (rmCk l Z a0 hw [] b242 s2 (32 : Int32) b2 xs2 cs fv h242 n0 z250 f244 f245 f246 f247 o248 zCS zF hX2 (by first | decide | (simp only [List.length_cons, List.length_nil]; decide) | rfl) (by first | decide | (simp only [List.length_cons, List.length_nil]; decide) | rfl) (by first | decide | (simp only [List.length_cons, List.length_nil]; decide) | rfl) hcs hfv) hZ (tw hw 59 rfl) (tw hw 2 rfl) (by decide) (by decide)) (g := (mkF m 39 #[.val (.ref f), .val (.long v), .second, .val (.ref s1), .val (.ref s2)] [(.int (32 : Int32)), (.ref s2), (.ref b242)])) rfl (by rw [hml]; rfl) (argsL := [(.ref b242), (.ref s2), (.int (32 : Int32))]) (rest := []) (lenOf pd__28Ljava_2flang_2fString_3bLjava_2flang_2fString_3bI_29V rfl) rfl (by show 2 * 0 + _ ≤ _; exact Nat.le_of_eq rfl) (hb hby d8_39) (fun _ _ => ⟨rfl, e242, (by decide : 4 + 0 ≤ _), (by decide : 96 + 0 ≤ _)⟩)
  dsimp only [Pt.U, Pt.locs, Pt.cells, Pt.slots] at X249 l249 y249 z249 st249 hQ249
  rw [l249, y249, z249] at X249
  clear l249 y249 z249
  obtain ⟨hr249, N249q, eh249⟩ := hQ249
  rw [hr249] at st249
  clear hr249
  rw [N249q, List.append_nil] at X249
  refine Go.via (st249) ?_
  clear st249
  have e249 : T249.heap = h242 := eh249
  clear X242 e242
  show Go p e below (T249.setTop (mkF m 42 #[.val (.ref f), .val (.long v), .second, .val (.ref s1), .val (.ref s2)] [])) _
  refine Go.via (fun _ => XS.aloadN X249.here hx rfl (hb hby d8_42) rfl rfl) ?_
  refine Go.via (fun _ => XS.lloadN X249.here hx rfl (hb hby d8_43) rfl) ?_
  have f251 : Fld Z h242 f cCD "blockSize" "J" (.long (0 : Int64)) := ((P1.ext E234).ext E242)
  have f252 : Exa Z h242 f cCD := ((P0.ext E234).ext E242)
  obtain ⟨T253, h253, X253, e253, W253, st253⟩ := putF X249 hx hZ hown (host := "") (Or.inl (tw hw 72 rfl)) Via.refl e249 f251 f252 (Or.inr ⟨(tw hw 73 rfl), rfl, hnm⟩) (tw hw 1 rfl) (ty := .long) (by decide) rfl rfl (g := (mkF m 44 #[.val (.ref f), .val (.long v), .second, .val (.ref s1), .val (.ref s2)] [(.long v), (.ref f)])) rfl rfl (hb hby d8_44)
  refine Go.via (st253) ?_
  clear st253
  have N253 := Fr.snoc X253 N0 g_f
  have f254 : Fld Z h253 f cCD "blockSize" "J" (.long v) := f251.same W253
  clear X249 e249
  show Go p e below (T253.setTop (mkF m 47 #[.val (.ref f), .val (.long v), .second, .val (.ref s1), .val (.ref s2)] [])) _
  refine Go.via (fun _ => XS.aloadN X253.here hx rfl (hb hby d8_47) rfl rfl) ?_
  refine Go.via (fun _ => XS.aloadN X253.here hx rfl (hb hby d8_48) rfl rfl) ?_
  have f255 : Fld Z h253 f cCD "signature1" "Ljava/lang/String;" .null := (((P2.ext E234).ext E242).other W253 (Or.inr (slot_ne (Or.inr (tw hw 75 rfl)) (Or.inr (tw hw 73 rfl)) (by decide) (t := (.object cST)) (t' := .long) (by decide) (by decide))))
  have f256 : Exa Z h253 f cCD := (f252.wr W253)
  obtain ⟨T257, h257, X257, e257, W257, st257⟩ := putF X253 hx hZ hown (host := "") (Or.inl (tw hw 74 rfl)) Via.refl e253 f255 f256 (Or.inr ⟨(tw hw 75 rfl), rfl, hnm⟩) (tw hw 1 rfl) (ty := (.object cST)) (by decide) rfl rfl (g := (mkF m 49 #[.val (.ref f), .val (.long v), .second, .val (.ref s1), .val (.ref s2)] [(.ref s1), (.ref f)])) rfl rfl (hb hby d8_49)
  refine Go.via (st257) ?_
  clear st257
  have N257 := Fr.snoc X257 N253 g_f
  have f258 : Fld Z h257 f cCD "signature1" "Ljava/lang/String;" (.ref s1) := f255.same W257
  clear X253 e253
  show Go p e below (T257.setTop (mkF m 52 #[.val (.ref f), .val (.long v), .second, .val (.ref s1), .val (.ref s2)] [])) _
  refine Go.via (fun _ => XS.aloadN X257.here hx rfl (hb hby d8_52) rfl rfl) ?_
  refine Go.via (fun _ => XS.aload X257.here hx rfl (hb hby d8_53) rfl rfl) ?_
  have f259 : Fld Z h257 f cCD "signature2" "Ljava/lang/String;" .null := ((((P3.ext E234).ext E242).other W253 (Or.inr (slot_ne (Or.inr (tw hw 77 rfl)) (Or.inr (tw hw 73 rfl)) (by decide) (t := (.object cST)) (t' := .long) (by decide) (by decide)))).other W257 (Or.inr (slot_ne (Or.inr (tw hw 77 rfl)) (Or.inr (tw hw 75 rfl)) (by decide) (t := (.object cST)) (t' := (.object cST)) (by decide) (by decide))))
  have f260 : Exa Z h257 f cCD := (f256.wr W257)
  obtain ⟨T261, h261, X261, e261, W261, st261⟩ := putF X257 hx hZ hown (host := "") (Or.inl (tw hw 76 rfl)) Via.refl e257 f259 f260 (Or.inr ⟨(tw hw 77 rfl), rfl, hnm⟩) (tw hw 1 rfl) (ty := (.object cST)) (by decide) rfl rfl (g := (mkF m 55 #[.val (.ref f), .val (.long v), .second, .val (.ref s1), .val (.ref s2)] [(.ref s2), (.ref f)])) rfl rfl (hb hby d8_55)
  refine Go.via (st261) ?_
  clear st261
  have N261 := Fr.snoc X261 N257 g_f
  have f262 : Fld Z h261 f cCD "signature2" "Ljava/lang/String;" (.ref s2) := f259.same W261
  clear X257 e257
  show Go p e below (T261.setTop (mkF m 58 #[.val (.ref f), .val (.long v), .second, .val (.ref s1), .val (.ref s2)] [])) _
  have k263 : Keep h0 h261 [f] := ((((k243.ext E242).wr W253 (Or.inl (List.mem_of_getElem? (i := 0) rfl))).wr W257 (Or.inl (List.mem_of_getElem? (i := 0) rfl))).wr W261 (Or.inl (List.mem_of_getElem? (i := 0) rfl)))
  have f264 : Exa Z h261 f cCD := (f260.wr W261)
  have f265 : Fld Z h261 f cCD "blockSize" "J" (.long v) := ((f254.other W257 (Or.inr (slot_ne (Or.inr (tw hw 73 rfl)) (Or.inr (tw hw 75 rfl)) (by decide) (t := .long) (t' := (.object cST)) (by decide) (by decide)))).other W261 (Or.inr (slot_ne (Or.inr (tw hw 73 rfl)) (Or.inr (tw hw 77 rfl)) (by decide) (t := .long) (t' := (.object cST)) (by decide) (by decide))))
  have f266 : Fld Z h261 f cCD "signature1" "Ljava/lang/String;" (.ref s1) := (f258.other W261 (Or.inr (slot_ne (Or.inr (tw hw 75 rfl)) (Or.inr (tw hw 77 rfl)) (by decide) (t := (.object cST)) (t' := (.object cST)) (by decide) (by decide))))
  have em267 : Em Z T242.vm h261 ["signature 1", "signature 2", "digest", "name"] := (Em.wr (a0 := a0) (Em.wr (a0 := a0) (Em.wr (a0 := a0) I242 W253 f252 (by decide) (tw hw 1 rfl)) W257 f256 (by decide) (tw hw 1 rfl)) W261 f260 (by decide) (tw hw 1 rfl))
  have hk268 : _ ≤ h261.size := (Nat.le_trans (Nat.le_trans (Nat.le_trans hk242 (Keep.of_wr W253).1) (Keep.of_wr W257).1) (Keep.of_wr W261).1)
  exact Go.finW X261 hS242 (Nat.le_trans hk268 (Nat.le_of_eq (congrArg Array.size (Eq.symm e261)))) hlk (v := none) (fun _ => rfl) (fun fs hr => X261.returnOut hx Bd.returns (hb hby d8_58) hr) (by rw [e261]; exact ⟨rfl, N261, k263, f264, f265, f266, f262, Em.still em267 X261.warmed.interned_eq (w39 X261.warmed.wide)⟩) (by decide) (by decide)
theorem d17_0 : decode prog_15_method_7_code 0 = .ok (.aload_n 0, 1) := by decide +kernel
theorem d17_1 : decode prog_15_method_7_code 1 = .ok (.aload_n 1, 1) := by decide +kernel
theorem d17_2 : decode prog_15_method_7_code 2 = .ok (.if_acmp .ne 5, 3) := by decide +kernel
theorem d17_7 : decode prog_15_method_7_code 7 = .ok (.aload_n 1, 1) := by decide +kernel
theorem d17_8 : decode prog_15_method_7_code 8 = .ok (.instanceof 1, 3) := by decide +kernel
theorem d17_11 : decode prog_15_method_7_code 11 = .ok (.ifCond .ne 5, 3) := by decide +kernel
theorem d17_16 : decode prog_15_method_7_code 16 = .ok (.aload_n 1, 1) := by decide +kernel
theorem d17_17 : decode prog_15_method_7_code 17 = .ok (.checkcast 1, 3) := by decide +kernel
theorem d17_20 : decode prog_15_method_7_code 20 = .ok (.astore_n 2, 1) := by decide +kernel
theorem d17_21 : decode prog_15_method_7_code 21 = .ok (.aload_n 0, 1) := by decide +kernel
theorem d17_22 : decode prog_15_method_7_code 22 = .ok (.getfield 30, 3) := by decide +kernel
theorem d17_25 : decode prog_15_method_7_code 25 = .ok (.aload_n 2, 1) := by decide +kernel
theorem d17_26 : decode prog_15_method_7_code 26 = .ok (.getfield 30, 3) := by decide +kernel
theorem d17_29 : decode prog_15_method_7_code 29 = .ok (.lcmp, 1) := by decide +kernel
theorem d17_30 : decode prog_15_method_7_code 30 = .ok (.ifCond .ne 35, 3) := by decide +kernel
theorem d17_33 : decode prog_15_method_7_code 33 = .ok (.aload_n 0, 1) := by decide +kernel
theorem d17_34 : decode prog_15_method_7_code 34 = .ok (.getfield 34, 3) := by decide +kernel
theorem d17_37 : decode prog_15_method_7_code 37 = .ok (.aload_n 2, 1) := by decide +kernel
theorem d17_38 : decode prog_15_method_7_code 38 = .ok (.getfield 34, 3) := by decide +kernel
theorem d17_41 : decode prog_15_method_7_code 41 = .ok (.invokevirtual 69, 3) := by decide +kernel
theorem pd__28Ljava_2flang_2fObject_3b_29Z : parseMethodDescriptor "(Ljava/lang/Object;)Z" = some ⟨[(.object "java/lang/Object")], some .boolean⟩ := by decide +kernel
theorem d17_44 : decode prog_15_method_7_code 44 = .ok (.ifCond .eq 21, 3) := by decide +kernel
theorem d17_65 : decode prog_15_method_7_code 65 = .ok (.iconst 0, 1) := by decide +kernel
theorem d17_66 : decode prog_15_method_7_code 66 = .ok (.ireturn, 1) := by decide +kernel
theorem d17_47 : decode prog_15_method_7_code 47 = .ok (.aload_n 0, 1) := by decide +kernel
theorem d17_48 : decode prog_15_method_7_code 48 = .ok (.getfield 38, 3) := by decide +kernel
theorem d17_51 : decode prog_15_method_7_code 51 = .ok (.aload_n 2, 1) := by decide +kernel
theorem d17_52 : decode prog_15_method_7_code 52 = .ok (.getfield 38, 3) := by decide +kernel
theorem d17_55 : decode prog_15_method_7_code 55 = .ok (.invokevirtual 69, 3) := by decide +kernel
theorem d17_58 : decode prog_15_method_7_code 58 = .ok (.ifCond .eq 7, 3) := by decide +kernel
theorem d17_61 : decode prog_15_method_7_code 61 = .ok (.iconst 1, 1) := by decide +kernel
theorem d17_62 : decode prog_15_method_7_code 62 = .ok (.goto 4, 3) := by decide +kernel
theorem pn_17 : plainName cCD = true := by first | (simp [plainName, overriddenIn]; done) | decide +kernel
theorem ef_17 (m : MethodId) (x0 : Addr) (x1 : Addr) : entryFrame m #[(.ref x0), (.ref x1)] 3 = mkF m 0 #[.val (.ref x0), .val (.ref x1), .unset] [] := by first | (simp [entryFrame, mkF, argsToLocals, Value.category]; done) | rfl
def Q_rmEo (Z : State) (f : Addr) (g_ : Addr) (v : Int64) (w : Int64) (s1 : Addr) (s2 : Addr) (t1 : Addr) (t2 : Addr) (b1 : Addr) (b2 : Addr) (c1 : Addr) (c2 : Addr) (xs : List Int32) (us : List Int32) (ys : List Int32) (vs : List Int32) (cs : Int32) (h0 : Heap) (n0 : Nat) (vQ : Option Value) (hQ : Heap) (LQ : List Loc) : Prop := vQ = some (.int (eqF v w xs ys us vs)) ∧ LQ = [] ∧ hQ = h0
set_option maxRecDepth 65536 in
set_option maxHeartbeats 40000000 in
theorem rmEo (l : Launch) (Z : State) (a0 : Array Value) (hw : ∀ d ∈ tables_1, d.before a0 Z = true) (ws : List Jvm.Cond) (f : Addr) (g_ : Addr) (v : Int64) (w : Int64) (s1 : Addr) (s2 : Addr) (t1 : Addr) (t2 : Addr) (b1 : Addr) (b2 : Addr) (c1 : Addr) (c2 : Addr) (xs : List Int32) (us : List Int32) (ys : List Int32) (vs : List Int32) (cs : Int32) (h0 : Heap) (n0 : Nat) (Z0 : n0 ≤ h0.size) (P0 : Exa Z h0 f cCD) (P1 : Fld Z h0 f cCD "blockSize" "J" (.long v)) (P2 : Fld Z h0 f cCD "signature1" "Ljava/lang/String;" (.ref s1)) (P3 : Fld Z h0 f cCD "signature2" "Ljava/lang/String;" (.ref s2)) (P4 : Exa Z h0 g_ cCD) (P5 : Fld Z h0 g_ cCD "blockSize" "J" (.long w)) (P6 : Fld Z h0 g_ cCD "signature1" "Ljava/lang/String;" (.ref t1)) (P7 : Fld Z h0 g_ cCD "signature2" "Ljava/lang/String;" (.ref t2)) (P8 : Exa Z h0 s1 cST) (P9 : Fld Z h0 s1 cST "coder" "B" (.int (0 : Int32))) (P10 : Fld Z h0 s1 cST "value" "[B" (.ref b1)) (P11 : Ia Z h0 b1 .byte xs) (P12 : Exa Z h0 s2 cST) (P13 : Fld Z h0 s2 cST "coder" "B" (.int (0 : Int32))) (P14 : Fld Z h0 s2 cST "value" "[B" (.ref b2)) (P15 : Ia Z h0 b2 .byte us) (P16 : Exa Z h0 t1 cST) (P17 : Fld Z h0 t1 cST "coder" "B" (.int (0 : Int32))) (P18 : Fld Z h0 t1 cST "value" "[B" (.ref c1)) (P19 : Ia Z h0 c1 .byte ys) (P20 : Exa Z h0 t2 cST) (P21 : Fld Z h0 t2 cST "coder" "B" (.int (0 : Int32))) (P22 : Fld Z h0 t2 cST "value" "[B" (.ref c2)) (P23 : Ia Z h0 c2 .byte vs) (P24 : Old Z n0 h0) (zCS : Sta Z Z.heap cST "COMPACT_STRINGS" "Z" (.int cs)) (hfg : f ≠ g_) (h1 : s1 ≠ t1) (h2 : s2 ≠ t2) (hX : Sh xs) (hY : Sh ys) (hU : Sh us) (hV_ : Sh vs) (hcs : ¬ (cs = (0 : Int32))) :
    MetFree l (⟨cCD, "equals", "(Ljava/lang/Object;)Z"⟩ : MethodName) (head1 (Jvm.Cond.code (⟨cCD, "equals", "(Ljava/lang/Object;)Z"⟩ : MethodName) prog_15_method_7_code 3 (some .boolean) :: ws) ({ frames := 2, cells := 0, slots := 0, locals := 28 } : Room)) (fun aQ UQ => aQ = #[(.ref f), (.ref g_)] ∧ Z.Warmed39 UQ.vm ∧ UQ.heap = h0) (fun _ _ _ _ _ => True) (fun _ UQ oQ UR => ∃ vQ LQ, oQ = .returned vQ ∧ Q_rmEo Z f g_ v w s1 s2 t1 t2 b1 b2 c1 c2 xs us ys vs cs h0 n0 vQ UR.heap LQ ∧ FrameEnd UQ oQ UR LQ ({ frames := 2, cells := 0, slots := 0, locals := 28 } : Room).cells ({ frames := 2, cells := 0, slots := 0, locals := 28 } : Room).slots) := by
  refine MetFree.of_bodySF (plainFor_of_name pn_17) hisR ?_
  intro p e s m args below meth c s₁ Bd hml0 hP hK
  obtain ⟨rfl, hZ, hh⟩ := hP
  have hx := Bd.exec
  have hby := Bd.bytes
  have hlk := Bd.notSynchronized
  have hml : c.maxLocals = 3 := hml0
  have hown : s.vm.findClass cCD = some m.cls := findClass_of_methodNamed Bd.named
  have hnm := (name_of_methodNamed Bd.named Bd.method).1
  have X0 : Stand p l e ({ frames := 2, cells := 0, slots := 0, locals := 28 } : Room) s m #[(.ref f), (.ref g_)] below meth c s₁ [] 0 0 := Stand.of_body Bd
  have e0 : s₁.heap = h0 := by rw [← hh, Bd.state]; rfl
  have N0 := Fr.nil n0
  show Go p e below _ (Done s (Q_rmEo Z f g_ v w s1 s2 t1 t2 b1 b2 c1 c2 xs us ys vs cs h0 n0) ({ frames := 2, cells := 0, slots := 0, locals := 28 } : Room).cells ({ frames := 2, cells := 0, slots := 0, locals := 28 } : Room).slots)
  refine Go.via (fun tQ kQ => castTop (ef_17 m f g_) kQ) ?_
  show Go p e below (s₁.setTop (mkF m 0 #[.val (.ref f), .val (.ref g_), .unset] [])) _
  refine Go.via (fun _ => XS.aloadN X0.here hx rfl (hb hby d17_0) rfl rfl) ?_
  refine Go.via (fun _ => XS.aloadN X0.here hx rfl (hb hby d17_1) rfl rfl) ?_
  refine Go.via (fun _ => Jvm.RoadKit.acmp (g := (mkF m 2 #[.val (.ref f), .val (.ref g_), .unset] [(.ref g_), (.ref f)])) X0 hx rfl rfl rfl (pc0 := 2) (pc' := 7) (same := false) rfl (hb hby d17_2) rfl (decide_eq_false fun q => hfg (Value.ref.inj q)) (by decide) (by decide)) ?_
  show Go p e below (s₁.setTop (mkF m 7 #[.val (.ref f), .val (.ref g_), .unset] [])) _
  refine Go.via (fun _ => XS.aloadN X0.here hx rfl (hb hby d17_7) rfl rfl) ?_
  obtain ⟨T269, X269, e269, st269⟩ := instY X0 hx hZ hown (tw hw 110 rfl) e0 (Ins.self P4) (g := (mkF m 8 #[.val (.ref f), .val (.ref g_), .unset] [(.ref g_)])) rfl rfl (hb hby d17_8)
  refine Go.via (st269) ?_
  clear st269
  clear X0 e0
  show Go p e below (T269.setTop (mkF m 11 #[.val (.ref f), .val (.ref g_), .unset] [(.int (1 : Int32))])) _
  refine Go.via (fun _ => XS.ifYes X269.here hx rfl (pc0 := 11) (pc' := 16) rfl (hb hby d17_11) rfl ((if0 _ _).trans (feq ((by decide) : ¬ ((1 : Int32) = (0 : Int32)))).2) (by decide) (by decide)) ?_
  show Go p e below (T269.setTop (mkF m 16 #[.val (.ref f), .val (.ref g_), .unset] [])) _
  refine Go.via (fun _ => XS.aloadN X269.here hx rfl (hb hby d17_16) rfl rfl) ?_
  obtain ⟨T270, X270, e270, st270⟩ := castY X269 hx hZ hown (tw hw 110 rfl) e269 (Ins.self P4) (g := (mkF m 17 #[.val (.ref f), .val (.ref g_), .unset] [(.ref g_)])) rfl rfl (hb hby d17_17)
  refine Go.via (st270) ?_
  clear st270
  clear X269 e269
  show Go p e below (T270.setTop (mkF m 20 #[.val (.ref f), .val (.ref g_), .unset] [(.ref g_)])) _
  refine Go.via (fun _ => XS.astoreN X270.here hx rfl (hb hby d17_20) rfl rfl (l' := #[.val (.ref f), .val (.ref g_), .val (.ref g_)]) rfl) ?_
  show Go p e below (T270.setTop (mkF m 21 #[.val (.ref f), .val (.ref g_), .val (.ref g_)] [])) _
  refine Go.via (fun _ => XS.aloadN X270.here hx rfl (hb hby d17_21) rfl rfl) ?_
  obtain ⟨T271, X271, e271, st271⟩ := getF X270 hx hZ hown (host := "") (Or.inl (tw hw 72 rfl)) Via.refl e270 P1 (g := (mkF m 22 #[.val (.ref f), .val (.ref g_), .val (.ref g_)] [(.ref f)])) rfl rfl (hb hby d17_22)
  refine Go.via (st271) ?_
  clear st271
  clear X270 e270
  show Go p e below (T271.setTop (mkF m 25 #[.val (.ref f), .val (.ref g_), .val (.ref g_)] [(.long v)])) _
  refine Go.via (fun _ => XS.aloadN X271.here hx rfl (hb hby d17_25) rfl rfl) ?_
  obtain ⟨T272, X272, e272, st272⟩ := getF X271 hx hZ hown (host := "") (Or.inl (tw hw 72 rfl)) Via.refl e271 P5 (g := (mkF m 26 #[.val (.ref f), .val (.ref g_), .val (.ref g_)] [(.ref g_), (.long v)])) rfl rfl (hb hby d17_26)
  refine Go.via (st272) ?_
  clear st272
  clear X271 e271
  show Go p e below (T272.setTop (mkF m 29 #[.val (.ref f), .val (.ref g_), .val (.ref g_)] [(.long w), (.long v)])) _
  refine Go.via (fun _ => XS.lcmp X272.here hx rfl (hb hby d17_29) rfl) ?_
  show Go p e below (T272.setTop (mkF m 30 #[.val (.ref f), .val (.ref g_), .val (.ref g_)] [(.int (lcmpW v w))])) _
  by_cases hc273 : (lcmpW v w) = (0 : Int32)
  · refine Go.via (fun _ => XS.ifNo X272.here hx rfl (hb hby d17_30) rfl ((if0 _ _).trans (teq (hc273 : (lcmpW v w) = (0 : Int32))).2)) ?_
    show Go p e below (T272.setTop (mkF m 33 #[.val (.ref f), .val (.ref g_), .val (.ref g_)] [])) _
    refine Go.via (fun _ => XS.aloadN X272.here hx rfl (hb hby d17_33) rfl rfl) ?_
    obtain ⟨T274, X274, e274, st274⟩ := getF X272 hx hZ hown (host := "") (Or.inl (tw hw 74 rfl)) Via.refl e272 P2 (g := (mkF m 34 #[.val (.ref f), .val (.ref g_), .val (.ref g_)] [(.ref f)])) rfl rfl (hb hby d17_34)
    refine Go.via (st274) ?_
    clear st274
    clear X272 e272
    show Go p e below (T274.setTop (mkF m 37 #[.val (.ref f), .val (.ref g_), .val (.ref g_)] [(.ref s1)])) _
    refine Go.via (fun _ => XS.aloadN X274.here hx rfl (hb hby d17_37) rfl rfl) ?_
    obtain ⟨T275, X275, e275, st275⟩ := getF X274 hx hZ hown (host := "") (Or.inl (tw hw 74 rfl)) Via.refl e274 P6 (g := (mkF m 38 #[.val (.ref f), .val (.ref g_), .val (.ref g_)] [(.ref g_), (.ref s1)])) rfl rfl (hb hby d17_38)
    refine Go.via (st275) ?_
    clear st275
    clear X274 e274
    show Go p e below (T275.setTop (mkF m 41 #[.val (.ref f), .val (.ref g_), .val (.ref g_)] [(.ref t1), (.ref s1)])) _
    obtain ⟨cq276, kq276, q276a, q276b, q276c⟩ := isOf hZ e275 P8
    obtain ⟨r276, _, ⟨T276, L276, k276, n276⟩, -, X276, ⟨Lc276, hQ276, l276, y276, z276⟩, st276⟩ := X275.virtualBack hx (y := (⟨cST, "equals", "(Ljava/lang/Object;)Z"⟩ : MethodName)) (z := (⟨cST, "equals", "(Ljava/lang/Object;)Z"⟩ : MethodName)) hown (mvT hZ (tw hw 114 rfl)) (mvT hZ (tw hw 115 rfl)) (notFace_of_selects (args := #[]) (mvT hZ (tw hw 117 rfl))) (mvT hZ (tw hw 117 rfl)) (mvT hZ (tw hw 116 rfl)) (by decide) (backOf (W := 0) (rmSe l Z a0 hw [] s1 t1 cs b1 c1 xs ys h0 n0 Z0 P8 P9 P10 P11 P16 P17 P18 P19 P24 zCS h1 hX hY hcs) hZ (tw hw 118 rfl) (tw hw 20 rfl) (by decide) (by decide)) q276a q276c (g := (mkF m 41 #[.val (.ref f), .val (.ref g_), .val (.ref g_)] [(.ref t1), (.ref s1)])) rfl (by rw [hml]; rfl) (Steps.refl _) (argsL := [(.ref t1)]) (rest := []) (lenOf pd__28Ljava_2flang_2fObject_3b_29Z rfl) rfl (by show 2 * 0 + _ ≤ _; exact Nat.le_of_eq rfl) (hb hby d17_41) (fun _ _ => ⟨rfl, e275, (by decide : 0 + 0 ≤ _), (by decide : 0 + 0 ≤ _)⟩)
    dsimp only [Pt.U, Pt.locs, Pt.cells, Pt.slots] at X276 l276 y276 z276 st276 hQ276
    rw [l276, y276, z276] at X276
    clear l276 y276 z276
    obtain ⟨hr276, N276q, eh276⟩ := hQ276
    rw [hr276] at st276
    clear hr276
    rw [N276q, List.append_nil] at X276
    refine Go.via (fun _ kQ => st276.trans kQ) ?_
    clear st276
    have e276 : T276.heap = h0 := eh276
    clear X275 e275
    show Go p e below (T276.setTop (mkF m 44 #[.val (.ref f), .val (.ref g_), .val (.ref g_)] [(.int (seF xs ys))])) _
    by_cases hc277 : (seF xs ys) = (0 : Int32)
    · refine Go.via (fun _ => XS.ifYes X276.here hx rfl (pc0 := 44) (pc' := 65) rfl (hb hby d17_44) rfl ((if0 _ _).trans (teq (hc277 : (seF xs ys) = (0 : Int32))).1) (by decide) (by decide)) ?_
      show Go p e below (T276.setTop (mkF m 65 #[.val (.ref f), .val (.ref g_), .val (.ref g_)] [])) _
      refine Go.via (fun _ => XS.iconst X276.here hx rfl (hb hby d17_65)) ?_
      exact Go.fin X276 hlk (v := some (.int (0 : Int32))) (fun h => by rw [Bd.returns] at h; cases h) (fun fs hr => retN X276 hx (t := .boolean) Bd.returns (by simp) (hb hby d17_66) hr) (by rw [e276]; exact ⟨(congrArg (fun qq => some (Value.int qq)) (Eq.symm ((if_pos hc273).trans ((if_pos hc277).trans rfl)))), rfl, rfl⟩) (by decide) (by decide)
    · refine Go.via (fun _ => XS.ifNo X276.here hx rfl (hb hby d17_44) rfl ((if0 _ _).trans (feq (hc277 : ¬ ((seF xs ys) = (0 : Int32)))).1)) ?_
      show Go p e below (T276.setTop (mkF m 47 #[.val (.ref f), .val (.ref g_), .val (.ref g_)] [])) _
      refine Go.via (fun _ => XS.aloadN X276.here hx rfl (hb hby d17_47) rfl rfl) ?_
      obtain ⟨T278, X278, e278, st278⟩ := getF X276 hx hZ hown (host := "") (Or.inl (tw hw 76 rfl)) Via.refl e276 P3 (g := (mkF m 48 #[.val (.ref f), .val (.ref g_), .val (.ref g_)] [(.ref f)])) rfl rfl (hb hby d17_48)
      refine Go.via (st278) ?_
      clear st278
      clear X276 e276
      show Go p e below (T278.setTop (mkF m 51 #[.val (.ref f), .val (.ref g_), .val (.ref g_)] [(.ref s2)])) _
      refine Go.via (fun _ => XS.aloadN X278.here hx rfl (hb hby d17_51) rfl rfl) ?_
      obtain ⟨T279, X279, e279, st279⟩ := getF X278 hx hZ hown (host := "") (Or.inl (tw hw 76 rfl)) Via.refl e278 P7 (g := (mkF m 52 #[.val (.ref f), .val (.ref g_), .val (.ref g_)] [(.ref g_), (.ref s2)])) rfl rfl (hb hby d17_52)
      refine Go.via (st279) ?_
      clear st279
      clear X278 e278
      show Go p e below (T279.setTop (mkF m 55 #[.val (.ref f), .val (.ref g_), .val (.ref g_)] [(.ref t2), (.ref s2)])) _
      obtain ⟨cq280, kq280, q280a, q280b, q280c⟩ := isOf hZ e279 P12
      obtain ⟨r280, _, ⟨T280, L280, k280, n280⟩, -, X280, ⟨Lc280, hQ280, l280, y280, z280⟩, st280⟩ := X279.virtualBack hx (y := (⟨cST, "equals", "(Ljava/lang/Object;)Z"⟩ : MethodName)) (z := (⟨cST, "equals", "(Ljava/lang/Object;)Z"⟩ : MethodName)) hown (mvT hZ (tw hw 114 rfl)) (mvT hZ (tw hw 115 rfl)) (notFace_of_selects (args := #[]) (mvT hZ (tw hw 117 rfl))) (mvT hZ (tw hw 117 rfl)) (mvT hZ (tw hw 116 rfl)) (by decide) (backOf (W := 0) (rmSe l Z a0 hw [] s2 t2 cs b2 c2 us vs h0 n0 Z0 P12 P13 P14 P15 P20 P21 P22 P23 P24 zCS h2 hU hV_ hcs) hZ (tw hw 118 rfl) (tw hw 20 rfl) (by decide) (by decide)) q280a q280c (g := (mkF m 55 #[.val (.ref f), .val (.ref g_), .val (.ref g_)] [(.ref t2), (.ref s2)])) rfl (by rw [hml]; rfl) (Steps.refl _) (argsL := [(.ref t2)]) (rest := []) (lenOf pd__28Ljava_2flang_2fObject_3b_29Z rfl) rfl (by show 2 * 0 + _ ≤ _; exact Nat.le_of_eq rfl) (hb hby d17_55) (fun _ _ => ⟨rfl, e279, (by decide : 0 + 0 ≤ _), (by decide : 0 + 0 ≤ _)⟩)
      dsimp only [Pt.U, Pt.locs, Pt.cells, Pt.slots] at X280 l280 y280 z280 st280 hQ280
      rw [l280, y280, z280] at X280
      clear l280 y280 z280
      obtain ⟨hr280, N280q, eh280⟩ := hQ280
      rw [hr280] at st280
      clear hr280
      rw [N280q, List.append_nil] at X280
      refine Go.via (fun _ kQ => st280.trans kQ) ?_
      clear st280
      have e280 : T280.heap = h0 := eh280
      clear X279 e279
      show Go p e below (T280.setTop (mkF m 58 #[.val (.ref f), .val (.ref g_), .val (.ref g_)] [(.int (seF us vs))])) _
      by_cases hc281 : (seF us vs) = (0 : Int32)
      · refine Go.via (fun _ => XS.ifYes X280.here hx rfl (pc0 := 58) (pc' := 65) rfl (hb hby d17_58) rfl ((if0 _ _).trans (teq (hc281 : (seF us vs) = (0 : Int32))).1) (by decide) (by decide)) ?_
        show Go p e below (T280.setTop (mkF m 65 #[.val (.ref f), .val (.ref g_), .val (.ref g_)] [])) _
        refine Go.via (fun _ => XS.iconst X280.here hx rfl (hb hby d17_65)) ?_
        exact Go.fin X280 hlk (v := some (.int (0 : Int32))) (fun h => by rw [Bd.returns] at h; cases h) (fun fs hr => retN X280 hx (t := .boolean) Bd.returns (by simp) (hb hby d17_66) hr) (by rw [e280]; exact ⟨(congrArg (fun qq => some (Value.int qq)) (Eq.symm ((if_pos hc273).trans ((if_neg hc277).trans ((if_pos hc281).trans rfl))))), rfl, rfl⟩) (by decide) (by decide)
      · refine Go.via (fun _ => XS.ifNo X280.here hx rfl (hb hby d17_58) rfl ((if0 _ _).trans (feq (hc281 : ¬ ((seF us vs) = (0 : Int32)))).1)) ?_
        show Go p e below (T280.setTop (mkF m 61 #[.val (.ref f), .val (.ref g_), .val (.ref g_)] [])) _
        refine Go.via (fun _ => XS.iconst X280.here hx rfl (hb hby d17_61)) ?_
        refine Go.via (fun _ => XS.goto X280.here hx rfl (pc0 := 62) (pc' := 66) rfl (hb hby d17_62) (by decide) (by decide)) ?_
        exact Go.fin X280 hlk (v := some (.int (1 : Int32))) (fun h => by rw [Bd.returns] at h; cases h) (fun fs hr => retN X280 hx (t := .boolean) Bd.returns (by simp) (hb hby d17_66) hr) (by rw [e280]; exact ⟨(congrArg (fun qq => some (Value.int qq)) (Eq.symm ((if_pos hc273).trans ((if_neg hc277).trans ((if_neg hc281).trans rfl))))), rfl, rfl⟩) (by decide) (by decide)
  · refine Go.via (fun _ => XS.ifYes X272.here hx rfl (pc0 := 30) (pc' := 65) rfl (hb hby d17_30) rfl ((if0 _ _).trans (feq (hc273 : ¬ ((lcmpW v w) = (0 : Int32)))).2) (by decide) (by decide)) ?_
    show Go p e below (T272.setTop (mkF m 65 #[.val (.ref f), .val (.ref g_), .val (.ref g_)] [])) _
    refine Go.via (fun _ => XS.iconst X272.here hx rfl (hb hby d17_65)) ?_
    exact Go.fin X272 hlk (v := some (.int (0 : Int32))) (fun h => by rw [Bd.returns] at h; cases h) (fun fs hr => retN X272 hx (t := .boolean) Bd.returns (by simp) (hb hby d17_66) hr) (by rw [e272]; exact ⟨(congrArg (fun qq => some (Value.int qq)) (Eq.symm ((if_neg hc273).trans rfl))), rfl, rfl⟩) (by decide) (by decide)
theorem d3_0 : decode method_4_code 0 = .ok (.lload_n 0, 1) := by decide +kernel
theorem d3_1 : decode method_4_code 1 = .ok (.iload_n 2, 1) := by decide +kernel
theorem d3_2 : decode method_4_code 2 = .ok (.lushr, 1) := by decide +kernel
theorem d3_3 : decode method_4_code 3 = .ok (.lconst 1, 1) := by decide +kernel
theorem d3_4 : decode method_4_code 4 = .ok (.iload_n 3, 1) := by decide +kernel
theorem d3_5 : decode method_4_code 5 = .ok (.lshl, 1) := by decide +kernel
theorem d3_6 : decode method_4_code 6 = .ok (.lconst 1, 1) := by decide +kernel
theorem d3_7 : decode method_4_code 7 = .ok (.lsub, 1) := by decide +kernel
theorem d3_8 : decode method_4_code 8 = .ok (.land, 1) := by decide +kernel
theorem d3_9 : decode method_4_code 9 = .ok (.l2i, 1) := by decide +kernel
theorem d3_10 : decode method_4_code 10 = .ok (.ireturn, 1) := by decide +kernel
theorem pn_3 : plainName cLAW = true := by first | (simp [plainName, overriddenIn]; done) | decide +kernel
theorem ef_3 (m : MethodId) (x0 : Int64) (x1 : Int32) (x2 : Int32) : entryFrame m #[(.long x0), (.int x1), (.int x2)] 4 = mkF m 0 #[.val (.long x0), .second, .val (.int x1), .val (.int x2)] [] := by first | (simp [entryFrame, mkF, argsToLocals, Value.category]; done) | rfl
def Q_rmFd (Z : State) (y : Int64) (ap : Int32) (wd : Int32)  (h0 : Heap) (n0 : Nat) (vQ : Option Value) (hQ : Heap) (LQ : List Loc) : Prop := vQ = some (.int (fdF y ap wd)) ∧ LQ = [] ∧ hQ = h0
set_option maxRecDepth 65536 in
set_option maxHeartbeats 40000000 in
theorem rmFd (l : Launch) (Z : State) (a0 : Array Value) (hw : ∀ d ∈ tables_1, d.before a0 Z = true) (ws : List Jvm.Cond) (y : Int64) (ap : Int32) (wd : Int32)  (h0 : Heap) (n0 : Nat) (Z0 : n0 ≤ h0.size) :
    MetFree l (⟨cLAW, "field", "(JII)I"⟩ : MethodName) (head1 (Jvm.Cond.code (⟨cLAW, "field", "(JII)I"⟩ : MethodName) method_4_code 4 (some .int) :: ws) ({ frames := 0, cells := 0, slots := 0, locals := 0 } : Room)) (fun aQ UQ => aQ = #[(.long y), (.int ap), (.int wd)] ∧ Z.Warmed39 UQ.vm ∧ UQ.heap = h0) (fun _ _ _ _ _ => True) (fun _ UQ oQ UR => ∃ vQ LQ, oQ = .returned vQ ∧ Q_rmFd Z y ap wd  h0 n0 vQ UR.heap LQ ∧ FrameEnd UQ oQ UR LQ ({ frames := 0, cells := 0, slots := 0, locals := 0 } : Room).cells ({ frames := 0, cells := 0, slots := 0, locals := 0 } : Room).slots) := by
  refine MetFree.of_bodySF (plainFor_of_name pn_3) hisR ?_
  intro p e s m args below meth c s₁ Bd hml0 hP hK
  obtain ⟨rfl, hZ, hh⟩ := hP
  have hx := Bd.exec
  have hby := Bd.bytes
  have hlk := Bd.notSynchronized
  have hml : c.maxLocals = 4 := hml0
  have hown : s.vm.findClass cLAW = some m.cls := findClass_of_methodNamed Bd.named
  have hnm := (name_of_methodNamed Bd.named Bd.method).1
  have X0 : Stand p l e ({ frames := 0, cells := 0, slots := 0, locals := 0 } : Room) s m #[(.long y), (.int ap), (.int wd)] below meth c s₁ [] 0 0 := Stand.of_body Bd
  have e0 : s₁.heap = h0 := by rw [← hh, Bd.state]; rfl
  have N0 := Fr.nil n0
  show Go p e below _ (Done s (Q_rmFd Z y ap wd  h0 n0) ({ frames := 0, cells := 0, slots := 0, locals := 0 } : Room).cells ({ frames := 0, cells := 0, slots := 0, locals := 0 } : Room).slots)
  refine Go.via (fun tQ kQ => castTop (ef_3 m y ap wd) kQ) ?_
  show Go p e below (s₁.setTop (mkF m 0 #[.val (.long y), .second, .val (.int ap), .val (.int wd)] [])) _
  refine Go.via (fun _ => XS.lloadN X0.here hx rfl (hb hby d3_0) rfl) ?_
  refine Go.via (fun _ => XS.iloadN X0.here hx rfl (hb hby d3_1) rfl) ?_
  refine Go.via (fun _ => XS.lushr X0.here hx rfl (hb hby d3_2) rfl) ?_
  show Go p e below (s₁.setTop (mkF m 3 #[.val (.long y), .second, .val (.int ap), .val (.int wd)] [(.long ((y.toUInt64 >>> (ap &&& 0x3f).toInt64.toUInt64).toInt64))])) _
  refine Go.via (fun _ => XS.lconst X0.here hx rfl (hb hby d3_3)) ?_
  refine Go.via (fun _ => XS.iloadN X0.here hx rfl (hb hby d3_4) rfl) ?_
  refine Go.via (fun _ => XS.lshl X0.here hx rfl (hb hby d3_5) rfl) ?_
  show Go p e below (s₁.setTop (mkF m 6 #[.val (.long y), .second, .val (.int ap), .val (.int wd)] [(.long ((1 : Int64) <<< (wd &&& 0x3f).toInt64)), (.long ((y.toUInt64 >>> (ap &&& 0x3f).toInt64.toUInt64).toInt64))])) _
  refine Go.via (fun _ => XS.lconst X0.here hx rfl (hb hby d3_6)) ?_
  refine Go.via (fun _ => XS.lsub X0.here hx rfl (hb hby d3_7) rfl) ?_
  show Go p e below (s₁.setTop (mkF m 8 #[.val (.long y), .second, .val (.int ap), .val (.int wd)] [(.long (((1 : Int64) <<< (wd &&& 0x3f).toInt64) - (1 : Int64))), (.long ((y.toUInt64 >>> (ap &&& 0x3f).toInt64.toUInt64).toInt64))])) _
  refine Go.via (fun _ => XS.land X0.here hx rfl (hb hby d3_8) rfl) ?_
  show Go p e below (s₁.setTop (mkF m 9 #[.val (.long y), .second, .val (.int ap), .val (.int wd)] [(.long (((y.toUInt64 >>> (ap &&& 0x3f).toInt64.toUInt64).toInt64) &&& (((1 : Int64) <<< (wd &&& 0x3f).toInt64) - (1 : Int64))))])) _
  refine Go.via (fun _ => XS.l2i X0.here hx rfl (hb hby d3_9) rfl) ?_
  show Go p e below (s₁.setTop (mkF m 10 #[.val (.long y), .second, .val (.int ap), .val (.int wd)] [(.int ((((y.toUInt64 >>> (ap &&& 0x3f).toInt64.toUInt64).toInt64) &&& (((1 : Int64) <<< (wd &&& 0x3f).toInt64) - (1 : Int64))).toInt32))])) _
  exact Go.fin X0 hlk (v := some (.int ((((y.toUInt64 >>> (ap &&& 0x3f).toInt64.toUInt64).toInt64) &&& (((1 : Int64) <<< (wd &&& 0x3f).toInt64) - (1 : Int64))).toInt32))) (fun h => by rw [Bd.returns] at h; cases h) (fun fs hr => OwnKit.retI X0 hx Bd.returns (hb hby d3_10) hr) (by rw [e0]; exact ⟨rfl, rfl, rfl⟩) (by decide) (by decide)
theorem d1_0 : decode method_3_code 0 = .ok (.lload_n 0, 1) := by decide +kernel
theorem d1_1 : decode method_3_code 1 = .ok (.ldc2_w 37, 3) := by decide +kernel
theorem d1_4 : decode method_3_code 4 = .ok (.land, 1) := by decide +kernel
theorem d1_5 : decode method_3_code 5 = .ok (.l2i, 1) := by decide +kernel
theorem d1_6 : decode method_3_code 6 = .ok (.bipush 31, 2) := by decide +kernel
theorem d1_8 : decode method_3_code 8 = .ok (.irem, 1) := by decide +kernel
theorem d1_9 : decode method_3_code 9 = .ok (.ireturn, 1) := by decide +kernel
theorem pn_1 : plainName cLAW = true := by first | (simp [plainName, overriddenIn]; done) | decide +kernel
theorem ef_1 (m : MethodId) (x0 : Int64) : entryFrame m #[(.long x0)] 2 = mkF m 0 #[.val (.long x0), .second] [] := by first | (simp [entryFrame, mkF, argsToLocals, Value.category]; done) | rfl
def Q_rmK (Z : State) (y : Int64)  (h0 : Heap) (n0 : Nat) (vQ : Option Value) (hQ : Heap) (LQ : List Loc) : Prop := vQ = some (.int (kF y)) ∧ LQ = [] ∧ hQ = h0
set_option maxRecDepth 65536 in
set_option maxHeartbeats 40000000 in
theorem rmK (l : Launch) (Z : State) (a0 : Array Value) (hw : ∀ d ∈ tables_1, d.before a0 Z = true) (ws : List Jvm.Cond) (y : Int64)  (h0 : Heap) (n0 : Nat) (Z0 : n0 ≤ h0.size) :
    MetFree l (⟨cLAW, "k", "(J)I"⟩ : MethodName) (head1 (Jvm.Cond.code (⟨cLAW, "k", "(J)I"⟩ : MethodName) method_3_code 2 (some .int) :: ws) ({ frames := 0, cells := 0, slots := 0, locals := 0 } : Room)) (fun aQ UQ => aQ = #[(.long y)] ∧ Z.Warmed39 UQ.vm ∧ UQ.heap = h0) (fun _ _ _ _ _ => True) (fun _ UQ oQ UR => ∃ vQ LQ, oQ = .returned vQ ∧ Q_rmK Z y  h0 n0 vQ UR.heap LQ ∧ FrameEnd UQ oQ UR LQ ({ frames := 0, cells := 0, slots := 0, locals := 0 } : Room).cells ({ frames := 0, cells := 0, slots := 0, locals := 0 } : Room).slots) := by
  refine MetFree.of_bodySF (plainFor_of_name pn_1) hisR ?_
  intro p e s m args below meth c s₁ Bd hml0 hP hK
  obtain ⟨rfl, hZ, hh⟩ := hP
  have hx := Bd.exec
  have hby := Bd.bytes
  have hlk := Bd.notSynchronized
  have hml : c.maxLocals = 2 := hml0
  have hown : s.vm.findClass cLAW = some m.cls := findClass_of_methodNamed Bd.named
  have hnm := (name_of_methodNamed Bd.named Bd.method).1
  have X0 : Stand p l e ({ frames := 0, cells := 0, slots := 0, locals := 0 } : Room) s m #[(.long y)] below meth c s₁ [] 0 0 := Stand.of_body Bd
  have e0 : s₁.heap = h0 := by rw [← hh, Bd.state]; rfl
  have N0 := Fr.nil n0
  show Go p e below _ (Done s (Q_rmK Z y  h0 n0) ({ frames := 0, cells := 0, slots := 0, locals := 0 } : Room).cells ({ frames := 0, cells := 0, slots := 0, locals := 0 } : Room).slots)
  refine Go.via (fun tQ kQ => castTop (ef_1 m y) kQ) ?_
  show Go p e below (s₁.setTop (mkF m 0 #[.val (.long y), .second] [])) _
  refine Go.via (fun _ => XS.lloadN X0.here hx rfl (hb hby d1_0) rfl) ?_
  refine Go.via (X0.ldc2Long hx hown (mvT hZ (tw hw 8 rfl)) (g := (mkF m 1 #[.val (.long y), .second] [(.long y)])) rfl (hb hby d1_1)) ?_
  show Go p e below (s₁.setTop (mkF m 4 #[.val (.long y), .second] [(.long (31 : Int64)), (.long y)])) _
  refine Go.via (fun _ => XS.land X0.here hx rfl (hb hby d1_4) rfl) ?_
  show Go p e below (s₁.setTop (mkF m 5 #[.val (.long y), .second] [(.long (y &&& (31 : Int64)))])) _
  refine Go.via (fun _ => XS.l2i X0.here hx rfl (hb hby d1_5) rfl) ?_
  show Go p e below (s₁.setTop (mkF m 6 #[.val (.long y), .second] [(.int ((y &&& (31 : Int64)).toInt32))])) _
  refine Go.via (fun _ => XS.bipush X0.here hx rfl (hb hby d1_6)) ?_
  refine Go.via (fun _ => iremM X0 hx rfl (hb hby d1_8) rfl (by decide)) ?_
  show Go p e below (s₁.setTop (mkF m 9 #[.val (.long y), .second] [(.int (((y &&& (31 : Int64)).toInt32) % (31 : Int32)))])) _
  exact Go.fin X0 hlk (v := some (.int (((y &&& (31 : Int64)).toInt32) % (31 : Int32)))) (fun h => by rw [Bd.returns] at h; cases h) (fun fs hr => OwnKit.retI X0 hx Bd.returns (hb hby d1_9) hr) (by rw [e0]; exact ⟨rfl, rfl, rfl⟩) (by decide) (by decide)
theorem d2_0 : decode method_7_code 0 = .ok (.lload_n 0, 1) := by decide +kernel
theorem d2_1 : decode method_7_code 1 = .ok (.iload_n 2, 1) := by decide +kernel
theorem d2_2 : decode method_7_code 2 = .ok (.iconst 2, 1) := by decide +kernel
theorem d2_3 : decode method_7_code 3 = .ok (.invokestatic 39, 3) := by decide +kernel
theorem pd__28JII_29I : parseMethodDescriptor "(JII)I" = some ⟨[.long, .int, .int], some .int⟩ := by decide +kernel
theorem d2_6 : decode method_7_code 6 = .ok (.iconst 3, 1) := by decide +kernel
theorem d2_7 : decode method_7_code 7 = .ok (.irem, 1) := by decide +kernel
theorem d2_8 : decode method_7_code 8 = .ok (.istore 5, 2) := by decide +kernel
theorem d2_10 : decode method_7_code 10 = .ok (.lload_n 0, 1) := by decide +kernel
theorem d2_11 : decode method_7_code 11 = .ok (.iload_n 2, 1) := by decide +kernel
theorem d2_12 : decode method_7_code 12 = .ok (.iconst 2, 1) := by decide +kernel
theorem d2_13 : decode method_7_code 13 = .ok (.iadd, 1) := by decide +kernel
theorem d2_14 : decode method_7_code 14 = .ok (.iload_n 3, 1) := by decide +kernel
theorem d2_15 : decode method_7_code 15 = .ok (.invokestatic 39, 3) := by decide +kernel
theorem d2_18 : decode method_7_code 18 = .ok (.istore 6, 2) := by decide +kernel
theorem d2_20 : decode method_7_code 20 = .ok (.lload_n 0, 1) := by decide +kernel
theorem d2_21 : decode method_7_code 21 = .ok (.iload_n 2, 1) := by decide +kernel
theorem d2_22 : decode method_7_code 22 = .ok (.iconst 2, 1) := by decide +kernel
theorem d2_23 : decode method_7_code 23 = .ok (.iadd, 1) := by decide +kernel
theorem d2_24 : decode method_7_code 24 = .ok (.iload_n 3, 1) := by decide +kernel
theorem d2_25 : decode method_7_code 25 = .ok (.iadd, 1) := by decide +kernel
theorem d2_26 : decode method_7_code 26 = .ok (.iload_n 3, 1) := by decide +kernel
theorem d2_27 : decode method_7_code 27 = .ok (.invokestatic 39, 3) := by decide +kernel
theorem d2_30 : decode method_7_code 30 = .ok (.istore 7, 2) := by decide +kernel
theorem d2_32 : decode method_7_code 32 = .ok (.iload 4, 2) := by decide +kernel
theorem d2_34 : decode method_7_code 34 = .ok (.ifCond .eq 11, 3) := by decide +kernel
theorem d2_37 : decode method_7_code 37 = .ok (.iload 6, 2) := by decide +kernel
theorem d2_39 : decode method_7_code 39 = .ok (.invokestatic 43, 3) := by decide +kernel
theorem d2_42 : decode method_7_code 42 = .ok (.goto 6, 3) := by decide +kernel
theorem d2_48 : decode method_7_code 48 = .ok (.istore 8, 2) := by decide +kernel
theorem d2_50 : decode method_7_code 50 = .ok (.iload 4, 2) := by decide +kernel
theorem d2_52 : decode method_7_code 52 = .ok (.ifCond .eq 11, 3) := by decide +kernel
theorem d2_55 : decode method_7_code 55 = .ok (.iload 7, 2) := by decide +kernel
theorem d2_57 : decode method_7_code 57 = .ok (.invokestatic 43, 3) := by decide +kernel
theorem d2_60 : decode method_7_code 60 = .ok (.goto 6, 3) := by decide +kernel
theorem d2_66 : decode method_7_code 66 = .ok (.istore 9, 2) := by decide +kernel
theorem d2_68 : decode method_7_code 68 = .ok (.iload 5, 2) := by decide +kernel
theorem d2_70 : decode method_7_code 70 = .ok (.ifCond .ne 14, 3) := by decide +kernel
theorem d2_73 : decode method_7_code 73 = .ok (.new 47, 3) := by decide +kernel
theorem d2_76 : decode method_7_code 76 = .ok (.dup, 1) := by decide +kernel
theorem d2_77 : decode method_7_code 77 = .ok (.iconst 0, 1) := by decide +kernel
theorem d2_78 : decode method_7_code 78 = .ok (.newarray .char, 2) := by decide +kernel
theorem d2_80 : decode method_7_code 80 = .ok (.invokespecial 49, 3) := by decide +kernel
theorem pd__28_5bC_29V : parseMethodDescriptor "([C)V" = some ⟨[(.array .char)], none⟩ := by decide +kernel
theorem d2_83 : decode method_7_code 83 = .ok (.areturn, 1) := by decide +kernel
theorem d2_84 : decode method_7_code 84 = .ok (.iload 5, 2) := by decide +kernel
theorem d2_86 : decode method_7_code 86 = .ok (.iconst 1, 1) := by decide +kernel
theorem d2_87 : decode method_7_code 87 = .ok (.if_icmp .ne 19, 3) := by decide +kernel
theorem d2_90 : decode method_7_code 90 = .ok (.new 47, 3) := by decide +kernel
theorem d2_93 : decode method_7_code 93 = .ok (.dup, 1) := by decide +kernel
theorem d2_94 : decode method_7_code 94 = .ok (.iconst 1, 1) := by decide +kernel
theorem d2_95 : decode method_7_code 95 = .ok (.newarray .char, 2) := by decide +kernel
theorem d2_97 : decode method_7_code 97 = .ok (.dup, 1) := by decide +kernel
theorem d2_98 : decode method_7_code 98 = .ok (.iconst 0, 1) := by decide +kernel
theorem d2_99 : decode method_7_code 99 = .ok (.iload 8, 2) := by decide +kernel
theorem d2_101 : decode method_7_code 101 = .ok (.castore, 1) := by decide +kernel
theorem d2_102 : decode method_7_code 102 = .ok (.invokespecial 49, 3) := by decide +kernel
theorem d2_105 : decode method_7_code 105 = .ok (.areturn, 1) := by decide +kernel
theorem d2_106 : decode method_7_code 106 = .ok (.new 47, 3) := by decide +kernel
theorem d2_109 : decode method_7_code 109 = .ok (.dup, 1) := by decide +kernel
theorem d2_110 : decode method_7_code 110 = .ok (.iconst 2, 1) := by decide +kernel
theorem d2_111 : decode method_7_code 111 = .ok (.newarray .char, 2) := by decide +kernel
theorem d2_113 : decode method_7_code 113 = .ok (.dup, 1) := by decide +kernel
theorem d2_114 : decode method_7_code 114 = .ok (.iconst 0, 1) := by decide +kernel
theorem d2_115 : decode method_7_code 115 = .ok (.iload 8, 2) := by decide +kernel
theorem d2_117 : decode method_7_code 117 = .ok (.castore, 1) := by decide +kernel
theorem d2_118 : decode method_7_code 118 = .ok (.dup, 1) := by decide +kernel
theorem d2_119 : decode method_7_code 119 = .ok (.iconst 1, 1) := by decide +kernel
theorem d2_120 : decode method_7_code 120 = .ok (.iload 9, 2) := by decide +kernel
theorem d2_122 : decode method_7_code 122 = .ok (.castore, 1) := by decide +kernel
theorem d2_123 : decode method_7_code 123 = .ok (.invokespecial 49, 3) := by decide +kernel
theorem d2_126 : decode method_7_code 126 = .ok (.areturn, 1) := by decide +kernel
theorem pn_2 : plainName cLAW = true := by first | (simp [plainName, overriddenIn]; done) | decide +kernel
theorem ef_2 (m : MethodId) (x0 : Int64) (x1 : Int32) (x2 : Int32) (x3 : Int32) : entryFrame m #[(.long x0), (.int x1), (.int x2), (.int x3)] 10 = mkF m 0 #[.val (.long x0), .second, .val (.int x1), .val (.int x2), .val (.int x3), .unset, .unset, .unset, .unset, .unset] [] := by first | (simp [entryFrame, mkF, argsToLocals, Value.category]; done) | rfl
def Q_rmStsgA (Z : State) (y : Int64) (ap : Int32) (wd : Int32) (bq : Int32) (cs : Int32) (h0 : Heap) (n0 : Nat) (vQ : Option Value) (hQ : Heap) (vmQ : Vm) (LQ : List Loc) : Prop := ∃ r : Addr, ∃ b_ : Addr, vQ = some (.ref r) ∧ Fr n0 LQ ∧ Keep h0 hQ [] ∧ h0.size ≤ r ∧ Exa Z hQ r cST ∧ Fld Z hQ r cST "coder" "B" (.int (0 : Int32)) ∧ Fld Z hQ r cST "value" "[B" (.ref b_) ∧ Ia Z hQ b_ .byte (sgA y) ∧ Em Z vmQ hQ ["signature 1", "signature 2", "digest", "name"]
def V_rmStsgA (Z : State) (y : Int64) (ap : Int32) (wd : Int32) (bq : Int32) (cs : Int32) (h0 : Heap) (vmV : Vm) : Prop := Em Z vmV h0 ["signature 1", "signature 2", "digest", "name"] ∧ True
set_option maxRecDepth 65536 in
set_option maxHeartbeats 40000000 in
theorem rmStsgA (l : Launch) (Z : State) (a0 : Array Value) (hw : ∀ d ∈ tables_1, d.before a0 Z = true) (ws : List Jvm.Cond) (y : Int64) (ap : Int32) (wd : Int32) (bq : Int32) (cs : Int32) (h0 : Heap) (n0 : Nat) (Z0 : n0 ≤ h0.size) (P0 : Old Z n0 h0) (zCS : Sta Z Z.heap cST "COMPACT_STRINGS" "Z" (.int cs)) (hcs : ¬ (cs = (0 : Int32))) (hh7 : Jvm.Lit.constHeld Z cST 7) (hcw : Jvm.Lit.compactW.before a0 Z = true) (ha : ap = 5) (hd : wd = 6) (hb_ : bq = 1) :
    MetFree l (⟨cLAW, "str", "(JIIZ)Ljava/lang/String;"⟩ : MethodName) (head1 (Jvm.Cond.code (⟨cLAW, "str", "(JIIZ)Ljava/lang/String;"⟩ : MethodName) method_7_code 10 (some (.object cST)) :: ws) ({ frames := 4, cells := 4, slots := 8, locals := 66 } : Room)) (fun aQ UQ => aQ = #[(.long y), (.int ap), (.int wd), (.int bq)] ∧ Z.Warmed39 UQ.vm ∧ UQ.heap = h0 ∧ V_rmStsgA Z y ap wd bq cs h0 UQ.vm) (fun _ _ _ _ _ => True) (fun _ UQ oQ UR => ∃ vQ LQ, oQ = .returned vQ ∧ Q_rmStsgA Z y ap wd bq cs h0 n0 vQ UR.heap UR.vm LQ ∧ ReturnedEndW UQ oQ UR LQ ({ frames := 4, cells := 4, slots := 8, locals := 66 } : Room).cells ({ frames := 4, cells := 4, slots := 8, locals := 66 } : Room).slots) := by
  refine MetFree.of_bodySF (plainFor_of_name pn_2) hisR ?_
  intro p e s m args below meth c s₁ Bd hml0 hP hK
  obtain ⟨rfl, hZ0, hh, hV⟩ := hP
  obtain ⟨I0, -⟩ := hV
  have hx := Bd.exec
  have hby := Bd.bytes
  have hlk := Bd.notSynchronized
  have hml : c.maxLocals = 10 := hml0
  have hnm := (name_of_methodNamed Bd.named Bd.method).1
  have e0 : s₁.heap = h0 := by rw [← hh, Bd.state]; rfl
  have N0 := Fr.nil n0
  have hZ : Z.Warmed39 (s.setVm s.vm).vm := hZ0
  have hown : (s.setVm s.vm).vm.findClass cLAW = some m.cls := findClass_of_methodNamed Bd.named
  have X0 : Stand p l e ({ frames := 4, cells := 4, slots := 8, locals := 66 } : Room) (s.setVm s.vm) m #[(.long y), (.int ap), (.int wd), (.int bq)] below meth c s₁ [] 0 0 := Stand.of_body Bd
  have hS0 : s.Since s.vm s.heap.size := (State.WarmedH.refl _).since _
  have hk0 : s.heap.size ≤ h0.size := Nat.le_of_eq (congrArg Array.size hh)
  show Go p e below _ (DoneW s (Q_rmStsgA Z y ap wd bq cs h0 n0) ({ frames := 4, cells := 4, slots := 8, locals := 66 } : Room).cells ({ frames := 4, cells := 4, slots := 8, locals := 66 } : Room).slots)
  refine Go.via (fun tQ kQ => castTop (ef_2 m y ap wd bq) kQ) ?_
  show Go p e below (s₁.setTop (mkF m 0 #[.val (.long y), .second, .val (.int ap), .val (.int wd), .val (.int bq), .unset, .unset, .unset, .unset, .unset] [])) _
  · subst ha hd hb_
    show Go p e below (s₁.setTop (mkF m 0 #[.val (.long y), .second, .val (.int (5 : Int32)), .val (.int (6 : Int32)), .val (.int (1 : Int32)), .unset, .unset, .unset, .unset, .unset] [])) _
    refine Go.via (fun _ => XS.lloadN X0.here hx rfl (hb hby d2_0) rfl) ?_
    refine Go.via (fun _ => XS.iloadN X0.here hx rfl (hb hby d2_1) rfl) ?_
    refine Go.via (fun _ => XS.iconst X0.here hx rfl (hb hby d2_2)) ?_
    obtain ⟨r282, _, ⟨T282, L282, k282, n282⟩, -, X282, ⟨Lc282, hQ282, l282, y282, z282⟩, st282⟩ := Jvm.LawKit.callS X0 hx (y := (⟨cLAW, "field", "(JII)I"⟩ : MethodName)) hown (mvT hZ (tw hw 12 rfl)) (mvT hZ (tw hw 13 rfl)) (mvT hZ (tw hw 6 rfl)) (mvT hZ (tw hw 14 rfl)) (by decide) (backOf (W := 0) (rmFd l Z a0 hw [] y (5 : Int32) (2 : Int32)  h0 n0 Z0) hZ (tw hw 14 rfl) (tw hw 6 rfl) (by decide) (by decide)) (g := (mkF m 3 #[.val (.long y), .second, .val (.int (5 : Int32)), .val (.int (6 : Int32)), .val (.int (1 : Int32)), .unset, .unset, .unset, .unset, .unset] [(.int (2 : Int32)), (.int (5 : Int32)), (.long y)])) rfl (by rw [hml]; rfl) (argsL := [(.long y), (.int (5 : Int32)), (.int (2 : Int32))]) (rest := []) (lenOf pd__28JII_29I rfl) rfl (by show 2 * 0 + _ ≤ _; exact Nat.le_of_eq rfl) (hb hby d2_3) (fun _ _ => ⟨rfl, e0, (by decide : 0 + 0 ≤ _), (by decide : 0 + 0 ≤ _)⟩)
    dsimp only [Pt.U, Pt.locs, Pt.cells, Pt.slots] at X282 l282 y282 z282 st282 hQ282
    rw [l282, y282, z282] at X282
    clear l282 y282 z282
    obtain ⟨hr282, N282q, eh282⟩ := hQ282
    rw [hr282] at st282
    clear hr282
    rw [N282q, List.append_nil] at X282
    refine Go.via (st282) ?_
    clear st282
    have e282 : T282.heap = h0 := eh282
    clear X0 e0
    show Go p e below (T282.setTop (mkF m 6 #[.val (.long y), .second, .val (.int (5 : Int32)), .val (.int (6 : Int32)), .val (.int (1 : Int32)), .unset, .unset, .unset, .unset, .unset] [(.int (fdF y (5 : Int32) (2 : Int32)))])) _
    refine Go.via (fun _ => XS.iconst X282.here hx rfl (hb hby d2_6)) ?_
    refine Go.via (fun _ => iremM X282 hx rfl (hb hby d2_7) rfl (by decide)) ?_
    show Go p e below (T282.setTop (mkF m 8 #[.val (.long y), .second, .val (.int (5 : Int32)), .val (.int (6 : Int32)), .val (.int (1 : Int32)), .unset, .unset, .unset, .unset, .unset] [(.int ((fdF y (5 : Int32) (2 : Int32)) % (3 : Int32)))])) _
    generalize hv_ln : ((fdF y (5 : Int32) (2 : Int32)) % (3 : Int32)) = ln
    show Go p e below (T282.setTop (mkF m 8 #[.val (.long y), .second, .val (.int (5 : Int32)), .val (.int (6 : Int32)), .val (.int (1 : Int32)), .unset, .unset, .unset, .unset, .unset] [(.int ln)])) _
    refine Go.via (fun _ => XS.istore X282.here hx rfl (hb hby d2_8) rfl (l' := #[.val (.long y), .second, .val (.int (5 : Int32)), .val (.int (6 : Int32)), .val (.int (1 : Int32)), .val (.int ln), .unset, .unset, .unset, .unset]) rfl) ?_
    show Go p e below (T282.setTop (mkF m 10 #[.val (.long y), .second, .val (.int (5 : Int32)), .val (.int (6 : Int32)), .val (.int (1 : Int32)), .val (.int ln), .unset, .unset, .unset, .unset] [])) _
    refine Go.via (fun _ => XS.lloadN X282.here hx rfl (hb hby d2_10) rfl) ?_
    refine Go.via (fun _ => XS.iloadN X282.here hx rfl (hb hby d2_11) rfl) ?_
    refine Go.via (fun _ => XS.iconst X282.here hx rfl (hb hby d2_12)) ?_
    refine Go.via (fun _ => XS.iadd X282.here hx rfl (hb hby d2_13) rfl) ?_
    show Go p e below (T282.setTop (mkF m 14 #[.val (.long y), .second, .val (.int (5 : Int32)), .val (.int (6 : Int32)), .val (.int (1 : Int32)), .val (.int ln), .unset, .unset, .unset, .unset] [(.int (7 : Int32)), (.long y)])) _
    refine Go.via (fun _ => XS.iloadN X282.here hx rfl (hb hby d2_14) rfl) ?_
    obtain ⟨r283, _, ⟨T283, L283, k283, n283⟩, -, X283, ⟨Lc283, hQ283, l283, y283, z283⟩, st283⟩ := Jvm.LawKit.callS X282 hx (y := (⟨cLAW, "field", "(JII)I"⟩ : MethodName)) hown (mvT hZ (tw hw 12 rfl)) (mvT hZ (tw hw 13 rfl)) (mvT hZ (tw hw 6 rfl)) (mvT hZ (tw hw 14 rfl)) (by decide) (backOf (W := 0) (rmFd l Z a0 hw [] y (7 : Int32) (6 : Int32)  h0 n0 Z0) hZ (tw hw 14 rfl) (tw hw 6 rfl) (by decide) (by decide)) (g := (mkF m 15 #[.val (.long y), .second, .val (.int (5 : Int32)), .val (.int (6 : Int32)), .val (.int (1 : Int32)), .val (.int ln), .unset, .unset, .unset, .unset] [(.int (6 : Int32)), (.int (7 : Int32)), (.long y)])) rfl (by rw [hml]; rfl) (argsL := [(.long y), (.int (7 : Int32)), (.int (6 : Int32))]) (rest := []) (lenOf pd__28JII_29I rfl) rfl (by show 2 * 0 + _ ≤ _; exact Nat.le_of_eq rfl) (hb hby d2_15) (fun _ _ => ⟨rfl, e282, (by decide : 0 + 0 ≤ _), (by decide : 0 + 0 ≤ _)⟩)
    dsimp only [Pt.U, Pt.locs, Pt.cells, Pt.slots] at X283 l283 y283 z283 st283 hQ283
    rw [l283, y283, z283] at X283
    clear l283 y283 z283
    obtain ⟨hr283, N283q, eh283⟩ := hQ283
    rw [hr283] at st283
    clear hr283
    rw [N283q, List.append_nil] at X283
    refine Go.via (st283) ?_
    clear st283
    have e283 : T283.heap = h0 := eh283
    clear X282 e282
    show Go p e below (T283.setTop (mkF m 18 #[.val (.long y), .second, .val (.int (5 : Int32)), .val (.int (6 : Int32)), .val (.int (1 : Int32)), .val (.int ln), .unset, .unset, .unset, .unset] [(.int (fdF y (7 : Int32) (6 : Int32)))])) _
    refine Go.via (fun _ => XS.istore X283.here hx rfl (hb hby d2_18) rfl (l' := #[.val (.long y), .second, .val (.int (5 : Int32)), .val (.int (6 : Int32)), .val (.int (1 : Int32)), .val (.int ln), .val (.int (fdF y (7 : Int32) (6 : Int32))), .unset, .unset, .unset]) rfl) ?_
    show Go p e below (T283.setTop (mkF m 20 #[.val (.long y), .second, .val (.int (5 : Int32)), .val (.int (6 : Int32)), .val (.int (1 : Int32)), .val (.int ln), .val (.int (fdF y (7 : Int32) (6 : Int32))), .unset, .unset, .unset] [])) _
    refine Go.via (fun _ => XS.lloadN X283.here hx rfl (hb hby d2_20) rfl) ?_
    refine Go.via (fun _ => XS.iloadN X283.here hx rfl (hb hby d2_21) rfl) ?_
    refine Go.via (fun _ => XS.iconst X283.here hx rfl (hb hby d2_22)) ?_
    refine Go.via (fun _ => XS.iadd X283.here hx rfl (hb hby d2_23) rfl) ?_
    show Go p e below (T283.setTop (mkF m 24 #[.val (.long y), .second, .val (.int (5 : Int32)), .val (.int (6 : Int32)), .val (.int (1 : Int32)), .val (.int ln), .val (.int (fdF y (7 : Int32) (6 : Int32))), .unset, .unset, .unset] [(.int (7 : Int32)), (.long y)])) _
    refine Go.via (fun _ => XS.iloadN X283.here hx rfl (hb hby d2_24) rfl) ?_
    refine Go.via (fun _ => XS.iadd X283.here hx rfl (hb hby d2_25) rfl) ?_
    show Go p e below (T283.setTop (mkF m 26 #[.val (.long y), .second, .val (.int (5 : Int32)), .val (.int (6 : Int32)), .val (.int (1 : Int32)), .val (.int ln), .val (.int (fdF y (7 : Int32) (6 : Int32))), .unset, .unset, .unset] [(.int (13 : Int32)), (.long y)])) _
    refine Go.via (fun _ => XS.iloadN X283.here hx rfl (hb hby d2_26) rfl) ?_
    obtain ⟨r284, _, ⟨T284, L284, k284, n284⟩, -, X284, ⟨Lc284, hQ284, l284, y284, z284⟩, st284⟩ := Jvm.LawKit.callS X283 hx (y := (⟨cLAW, "field", "(JII)I"⟩ : MethodName)) hown (mvT hZ (tw hw 12 rfl)) (mvT hZ (tw hw 13 rfl)) (mvT hZ (tw hw 6 rfl)) (mvT hZ (tw hw 14 rfl)) (by decide) (backOf (W := 0) (rmFd l Z a0 hw [] y (13 : Int32) (6 : Int32)  h0 n0 Z0) hZ (tw hw 14 rfl) (tw hw 6 rfl) (by decide) (by decide)) (g := (mkF m 27 #[.val (.long y), .second, .val (.int (5 : Int32)), .val (.int (6 : Int32)), .val (.int (1 : Int32)), .val (.int ln), .val (.int (fdF y (7 : Int32) (6 : Int32))), .unset, .unset, .unset] [(.int (6 : Int32)), (.int (13 : Int32)), (.long y)])) rfl (by rw [hml]; rfl) (argsL := [(.long y), (.int (13 : Int32)), (.int (6 : Int32))]) (rest := []) (lenOf pd__28JII_29I rfl) rfl (by show 2 * 0 + _ ≤ _; exact Nat.le_of_eq rfl) (hb hby d2_27) (fun _ _ => ⟨rfl, e283, (by decide : 0 + 0 ≤ _), (by decide : 0 + 0 ≤ _)⟩)
    dsimp only [Pt.U, Pt.locs, Pt.cells, Pt.slots] at X284 l284 y284 z284 st284 hQ284
    rw [l284, y284, z284] at X284
    clear l284 y284 z284
    obtain ⟨hr284, N284q, eh284⟩ := hQ284
    rw [hr284] at st284
    clear hr284
    rw [N284q, List.append_nil] at X284
    refine Go.via (st284) ?_
    clear st284
    have e284 : T284.heap = h0 := eh284
    clear X283 e283
    show Go p e below (T284.setTop (mkF m 30 #[.val (.long y), .second, .val (.int (5 : Int32)), .val (.int (6 : Int32)), .val (.int (1 : Int32)), .val (.int ln), .val (.int (fdF y (7 : Int32) (6 : Int32))), .unset, .unset, .unset] [(.int (fdF y (13 : Int32) (6 : Int32)))])) _
    refine Go.via (fun _ => XS.istore X284.here hx rfl (hb hby d2_30) rfl (l' := #[.val (.long y), .second, .val (.int (5 : Int32)), .val (.int (6 : Int32)), .val (.int (1 : Int32)), .val (.int ln), .val (.int (fdF y (7 : Int32) (6 : Int32))), .val (.int (fdF y (13 : Int32) (6 : Int32))), .unset, .unset]) rfl) ?_
    show Go p e below (T284.setTop (mkF m 32 #[.val (.long y), .second, .val (.int (5 : Int32)), .val (.int (6 : Int32)), .val (.int (1 : Int32)), .val (.int ln), .val (.int (fdF y (7 : Int32) (6 : Int32))), .val (.int (fdF y (13 : Int32) (6 : Int32))), .unset, .unset] [])) _
    refine Go.via (fun _ => XS.iload X284.here hx rfl (hb hby d2_32) rfl) ?_
    refine Go.via (fun _ => XS.ifNo X284.here hx rfl (hb hby d2_34) rfl ((if0 _ _).trans (feq ((by decide) : ¬ ((1 : Int32) = (0 : Int32)))).1)) ?_
    show Go p e below (T284.setTop (mkF m 37 #[.val (.long y), .second, .val (.int (5 : Int32)), .val (.int (6 : Int32)), .val (.int (1 : Int32)), .val (.int ln), .val (.int (fdF y (7 : Int32) (6 : Int32))), .val (.int (fdF y (13 : Int32) (6 : Int32))), .unset, .unset] [])) _
    refine Go.via (fun _ => XS.iload X284.here hx rfl (hb hby d2_37) rfl) ?_
    obtain ⟨r285, _, ⟨T285, L285, k285, n285⟩, -, X285, ⟨Lc285, hQ285, l285, y285, z285⟩, st285⟩ := Jvm.LawKit.callS X284 hx (y := (⟨cLAW, "b64", "(I)C"⟩ : MethodName)) hown (mvT hZ (tw hw 15 rfl)) (mvT hZ (tw hw 16 rfl)) (mvT hZ (tw hw 6 rfl)) (mvT hZ (tw hw 17 rfl)) (by decide) (backOf (W := 0) (rmB l Z a0 hw [] (fdF y (7 : Int32) (6 : Int32))  h0 n0 Z0) hZ (tw hw 17 rfl) (tw hw 6 rfl) (by decide) (by decide)) (g := (mkF m 39 #[.val (.long y), .second, .val (.int (5 : Int32)), .val (.int (6 : Int32)), .val (.int (1 : Int32)), .val (.int ln), .val (.int (fdF y (7 : Int32) (6 : Int32))), .val (.int (fdF y (13 : Int32) (6 : Int32))), .unset, .unset] [(.int (fdF y (7 : Int32) (6 : Int32)))])) rfl (by rw [hml]; rfl) (argsL := [(.int (fdF y (7 : Int32) (6 : Int32)))]) (rest := []) (lenOf pd__28I_29C rfl) rfl (by show 2 * 0 + _ ≤ _; exact Nat.le_of_eq rfl) (hb hby d2_39) (fun _ _ => ⟨rfl, e284, (by decide : 0 + 0 ≤ _), (by decide : 0 + 0 ≤ _)⟩)
    dsimp only [Pt.U, Pt.locs, Pt.cells, Pt.slots] at X285 l285 y285 z285 st285 hQ285
    rw [l285, y285, z285] at X285
    clear l285 y285 z285
    obtain ⟨hr285, N285q, eh285⟩ := hQ285
    rw [hr285] at st285
    clear hr285
    rw [N285q, List.append_nil] at X285
    refine Go.via (st285) ?_
    clear st285
    have e285 : T285.heap = h0 := eh285
    clear X284 e284
    show Go p e below (T285.setTop (mkF m 42 #[.val (.long y), .second, .val (.int (5 : Int32)), .val (.int (6 : Int32)), .val (.int (1 : Int32)), .val (.int ln), .val (.int (fdF y (7 : Int32) (6 : Int32))), .val (.int (fdF y (13 : Int32) (6 : Int32))), .unset, .unset] [(.int (b64F (fdF y (7 : Int32) (6 : Int32))))])) _
    refine Go.via (fun _ => XS.goto X285.here hx rfl (pc0 := 42) (pc' := 48) rfl (hb hby d2_42) (by decide) (by decide)) ?_
    refine Go.via (fun _ => XS.istore X285.here hx rfl (hb hby d2_48) rfl (l' := #[.val (.long y), .second, .val (.int (5 : Int32)), .val (.int (6 : Int32)), .val (.int (1 : Int32)), .val (.int ln), .val (.int (fdF y (7 : Int32) (6 : Int32))), .val (.int (fdF y (13 : Int32) (6 : Int32))), .val (.int (b64F (fdF y (7 : Int32) (6 : Int32)))), .unset]) rfl) ?_
    show Go p e below (T285.setTop (mkF m 50 #[.val (.long y), .second, .val (.int (5 : Int32)), .val (.int (6 : Int32)), .val (.int (1 : Int32)), .val (.int ln), .val (.int (fdF y (7 : Int32) (6 : Int32))), .val (.int (fdF y (13 : Int32) (6 : Int32))), .val (.int (b64F (fdF y (7 : Int32) (6 : Int32)))), .unset] [])) _
    refine Go.via (fun _ => XS.iload X285.here hx rfl (hb hby d2_50) rfl) ?_
    refine Go.via (fun _ => XS.ifNo X285.here hx rfl (hb hby d2_52) rfl ((if0 _ _).trans (feq ((by decide) : ¬ ((1 : Int32) = (0 : Int32)))).1)) ?_
    show Go p e below (T285.setTop (mkF m 55 #[.val (.long y), .second, .val (.int (5 : Int32)), .val (.int (6 : Int32)), .val (.int (1 : Int32)), .val (.int ln), .val (.int (fdF y (7 : Int32) (6 : Int32))), .val (.int (fdF y (13 : Int32) (6 : Int32))), .val (.int (b64F (fdF y (7 : Int32) (6 : Int32)))), .unset] [])) _
    refine Go.via (fun _ => XS.iload X285.here hx rfl (hb hby d2_55) rfl) ?_
    obtain ⟨r286, _, ⟨T286, L286, k286, n286⟩, -, X286, ⟨Lc286, hQ286, l286, y286, z286⟩, st286⟩ := Jvm.LawKit.callS X285 hx (y := (⟨cLAW, "b64", "(I)C"⟩ : MethodName)) hown (mvT hZ (tw hw 15 rfl)) (mvT hZ (tw hw 16 rfl)) (mvT hZ (tw hw 6 rfl)) (mvT hZ (tw hw 17 rfl)) (by decide) (backOf (W := 0) (rmB l Z a0 hw [] (fdF y (13 : Int32) (6 : Int32))  h0 n0 Z0) hZ (tw hw 17 rfl) (tw hw 6 rfl) (by decide) (by decide)) (g := (mkF m 57 #[.val (.long y), .second, .val (.int (5 : Int32)), .val (.int (6 : Int32)), .val (.int (1 : Int32)), .val (.int ln), .val (.int (fdF y (7 : Int32) (6 : Int32))), .val (.int (fdF y (13 : Int32) (6 : Int32))), .val (.int (b64F (fdF y (7 : Int32) (6 : Int32)))), .unset] [(.int (fdF y (13 : Int32) (6 : Int32)))])) rfl (by rw [hml]; rfl) (argsL := [(.int (fdF y (13 : Int32) (6 : Int32)))]) (rest := []) (lenOf pd__28I_29C rfl) rfl (by show 2 * 0 + _ ≤ _; exact Nat.le_of_eq rfl) (hb hby d2_57) (fun _ _ => ⟨rfl, e285, (by decide : 0 + 0 ≤ _), (by decide : 0 + 0 ≤ _)⟩)
    dsimp only [Pt.U, Pt.locs, Pt.cells, Pt.slots] at X286 l286 y286 z286 st286 hQ286
    rw [l286, y286, z286] at X286
    clear l286 y286 z286
    obtain ⟨hr286, N286q, eh286⟩ := hQ286
    rw [hr286] at st286
    clear hr286
    rw [N286q, List.append_nil] at X286
    refine Go.via (st286) ?_
    clear st286
    have e286 : T286.heap = h0 := eh286
    clear X285 e285
    show Go p e below (T286.setTop (mkF m 60 #[.val (.long y), .second, .val (.int (5 : Int32)), .val (.int (6 : Int32)), .val (.int (1 : Int32)), .val (.int ln), .val (.int (fdF y (7 : Int32) (6 : Int32))), .val (.int (fdF y (13 : Int32) (6 : Int32))), .val (.int (b64F (fdF y (7 : Int32) (6 : Int32)))), .unset] [(.int (b64F (fdF y (13 : Int32) (6 : Int32))))])) _
    refine Go.via (fun _ => XS.goto X286.here hx rfl (pc0 := 60) (pc' := 66) rfl (hb hby d2_60) (by decide) (by decide)) ?_
    refine Go.via (fun _ => XS.istore X286.here hx rfl (hb hby d2_66) rfl (l' := #[.val (.long y), .second, .val (.int (5 : Int32)), .val (.int (6 : Int32)), .val (.int (1 : Int32)), .val (.int ln), .val (.int (fdF y (7 : Int32) (6 : Int32))), .val (.int (fdF y (13 : Int32) (6 : Int32))), .val (.int (b64F (fdF y (7 : Int32) (6 : Int32)))), .val (.int (b64F (fdF y (13 : Int32) (6 : Int32))))]) rfl) ?_
    show Go p e below (T286.setTop (mkF m 68 #[.val (.long y), .second, .val (.int (5 : Int32)), .val (.int (6 : Int32)), .val (.int (1 : Int32)), .val (.int ln), .val (.int (fdF y (7 : Int32) (6 : Int32))), .val (.int (fdF y (13 : Int32) (6 : Int32))), .val (.int (b64F (fdF y (7 : Int32) (6 : Int32)))), .val (.int (b64F (fdF y (13 : Int32) (6 : Int32))))] [])) _
    rcases own_l3 y (5 : Int32) hv_ln with rfl | rfl | rfl
    · show Go p e below (T286.setTop (mkF m 68 #[.val (.long y), .second, .val (.int (5 : Int32)), .val (.int (6 : Int32)), .val (.int (1 : Int32)), .val (.int (0 : Int32)), .val (.int (fdF y (7 : Int32) (6 : Int32))), .val (.int (fdF y (13 : Int32) (6 : Int32))), .val (.int (b64F (fdF y (7 : Int32) (6 : Int32)))), .val (.int (b64F (fdF y (13 : Int32) (6 : Int32))))] [])) _
      refine Go.via (fun _ => XS.iload X286.here hx rfl (hb hby d2_68) rfl) ?_
      refine Go.via (fun _ => XS.ifNo X286.here hx rfl (hb hby d2_70) rfl ((if0 _ _).trans (teq ((by decide) : (0 : Int32) = (0 : Int32))).2)) ?_
      show Go p e below (T286.setTop (mkF m 73 #[.val (.long y), .second, .val (.int (5 : Int32)), .val (.int (6 : Int32)), .val (.int (1 : Int32)), .val (.int (0 : Int32)), .val (.int (fdF y (7 : Int32) (6 : Int32))), .val (.int (fdF y (13 : Int32) (6 : Int32))), .val (.int (b64F (fdF y (7 : Int32) (6 : Int32)))), .val (.int (b64F (fdF y (13 : Int32) (6 : Int32))))] [])) _
      obtain ⟨T287, h287, X287, e287, E287, A287, D287, -, st287⟩ := newO X286 hx hZ hown (tw hw 18 rfl) (tw hw 19 rfl) (tw hw 20 rfl) e286 (g := (mkF m 73 #[.val (.long y), .second, .val (.int (5 : Int32)), .val (.int (6 : Int32)), .val (.int (1 : Int32)), .val (.int (0 : Int32)), .val (.int (fdF y (7 : Int32) (6 : Int32))), .val (.int (fdF y (13 : Int32) (6 : Int32))), .val (.int (b64F (fdF y (7 : Int32) (6 : Int32)))), .val (.int (b64F (fdF y (13 : Int32) (6 : Int32))))] [])) rfl (hb hby d2_73) (by decide) (by decide)
      obtain ⟨b287, g287⟩ : ∃ z, z = h0.size := ⟨_, rfl⟩
      rw [← g287] at A287 D287 st287
      have ge288 : n0 ≤ b287 := Nat.le_trans Z0 (Nat.le_of_eq g287.symm)
      have sz289 : h0.size ≤ b287 := Nat.le_trans (Keep.refl h0 []).1 (Nat.le_of_eq g287.symm)
      refine Go.via (st287) ?_
      clear st287
      have f290 : Fld Z h287 b287 cST "value" "[B" .null := D287 (Or.inr (tw hw 34 rfl)) (ty := (.array .byte)) (by decide)
      have f291 : Fld Z h287 b287 cST "coder" "B" (.int (0 : Int32)) := D287 (Or.inr (tw hw 35 rfl)) (ty := .byte) (by decide)
      clear X286 e286
      show Go p e below (T287.setTop (mkF m 76 #[.val (.long y), .second, .val (.int (5 : Int32)), .val (.int (6 : Int32)), .val (.int (1 : Int32)), .val (.int (0 : Int32)), .val (.int (fdF y (7 : Int32) (6 : Int32))), .val (.int (fdF y (13 : Int32) (6 : Int32))), .val (.int (b64F (fdF y (7 : Int32) (6 : Int32)))), .val (.int (b64F (fdF y (13 : Int32) (6 : Int32))))] [(.ref b287)])) _
      refine Go.via (fun _ => XS.dup X287.here hx rfl (hb hby d2_76) rfl rfl) ?_
      refine Go.via (fun _ => XS.iconst X287.here hx rfl (hb hby d2_77)) ?_
      have k293 : Keep h0 h287 [] := ((Keep.refl h0 []).ext E287)
      have z294 : n0 ≤ h287.size := (Nat.le_trans Z0 E287.1)
      obtain ⟨T292, h292, k292, X292, e292, E292, A292, B292, st292⟩ := newPE X287 hx hZ (tw hw 21 rfl) e287 (g := (mkF m 78 #[.val (.long y), .second, .val (.int (5 : Int32)), .val (.int (6 : Int32)), .val (.int (1 : Int32)), .val (.int (0 : Int32)), .val (.int (fdF y (7 : Int32) (6 : Int32))), .val (.int (fdF y (13 : Int32) (6 : Int32))), .val (.int (b64F (fdF y (7 : Int32) (6 : Int32)))), .val (.int (b64F (fdF y (13 : Int32) (6 : Int32))))] [(.int (0 : Int32)), (.ref b287), (.ref b287)])) rfl (hb hby d2_78) rfl (by decide) (cap := 0) (by decide) (by decide) (by decide) (by decide) (ad := "[C") (by decide)
      obtain ⟨b292, g292⟩ : ∃ z, z = h287.size := ⟨_, rfl⟩
      rw [← g292] at A292 B292 st292
      have ne295 : b287 ≠ b292 := Nat.ne_of_lt (Nat.lt_of_lt_of_le A287.lt (Nat.le_of_eq g292.symm))
      have ge296 : n0 ≤ b292 := Nat.le_trans z294 (Nat.le_of_eq g292.symm)
      have sz297 : h0.size ≤ b292 := Nat.le_trans k293.1 (Nat.le_of_eq g292.symm)
      refine Go.via (st292) ?_
      clear st292
      have f298 : Ia Z h292 b292 .char [] := Ia.new A292 rfl
      clear X287 e287
      show Go p e below (T292.setTop (mkF m 80 #[.val (.long y), .second, .val (.int (5 : Int32)), .val (.int (6 : Int32)), .val (.int (1 : Int32)), .val (.int (0 : Int32)), .val (.int (fdF y (7 : Int32) (6 : Int32))), .val (.int (fdF y (13 : Int32) (6 : Int32))), .val (.int (b64F (fdF y (7 : Int32) (6 : Int32)))), .val (.int (b64F (fdF y (13 : Int32) (6 : Int32))))] [(.ref b292), (.ref b287), (.ref b287)])) _
      have f299 : Fld Z h292 b287 cST "coder" "B" (.int (0 : Int32)) := (f291.ext E292)
      have f300 : Fld Z h292 b287 cST "value" "[B" .null := (f290.ext E292)
      have f301 : Exa Z h292 b287 cST := (A287.ext E292)
      have o302 : Old Z n0 h292 := ((P0.ext E287).ext E292)
      have z304 : n0 ≤ h292.size := (Nat.le_trans z294 E292.1)
      have k305 : Keep h0 h292 [] := (k293.ext E292)
      have em306 : Em Z s.vm h292 ["signature 1", "signature 2", "digest", "name"] := (Em.keep0 I0 k305)
      have hk307 : _ ≤ h292.size := (Nat.le_trans (Nat.le_trans hk0 E287.1) E292.1)
      obtain ⟨r303, _, ⟨T303, L303, k303, n303⟩, -, X303, h2303, gS303, ⟨Lc303, hQ303, l303, y303, z303⟩, st303⟩ := X292.specialBackS hx (y := (⟨cST, "<init>", "([C)V"⟩ : MethodName)) rfl hown (mvT hZ (tw hw 22 rfl)) (mvT hZ (tw hw 23 rfl)) (mvT hZ (tw hw 24 rfl)) (by decide) (backOfV (W := 1) (V := V_rmI1_e0 Z b287 b292 h292) (rmI1_e0 l Z a0 hw [] b287 b292  h292 n0 z304 f299 f300 f301 f298 o302 ge288 hh7 hcw) hZ (tw hw 24 rfl) (tw hw 20 rfl) (by decide) (by decide) (fun vm' hW => ⟨Em.still em306 hW.interned_eq (w39 hW.wide), trivial⟩)) (g := (mkF m 80 #[.val (.long y), .second, .val (.int (5 : Int32)), .val (.int (6 : Int32)), .val (.int (1 : Int32)), .val (.int (0 : Int32)), .val (.int (fdF y (7 : Int32) (6 : Int32))), .val (.int (fdF y (13 : Int32) (6 : Int32))), .val (.int (b64F (fdF y (7 : Int32) (6 : Int32)))), .val (.int (b64F (fdF y (13 : Int32) (6 : Int32))))] [(.ref b292), (.ref b287), (.ref b287)])) rfl (by rw [hml]; rfl) (Steps.refl _) (a := b287) (argsL := [(.ref b292)]) (rest := [(.ref b287)]) (lenOf pd__28_5bC_29V rfl) rfl (by show 2 * 0 + _ ≤ _; exact Nat.le_of_eq rfl) (hb hby d2_80) (fun _ _ => ⟨rfl, e292, (by decide : 2 + 2 ≤ _), (by decide : 4 + 4 ≤ _)⟩)
      dsimp only [Pt.U, Pt.locs, Pt.cells, Pt.slots] at X303 l303 y303 z303 st303 hQ303 h2303 gS303
      rw [l303, y303, z303] at X303
      clear l303 y303 z303
      obtain ⟨v308, hr303, N303q, K303q, f309, f310, f311, f312, I303⟩ := hQ303
      rw [hr303] at st303
      clear hr303
      have N303 := Fr.app N0 N303q
      refine Go.via (fun _ kQ => st303.trans kQ) ?_
      clear st303
      have e303 : T303.heap = T303.heap := rfl
      have f313 : Exa Z T303.heap b287 cST := f309
      have f314 : Fld Z T303.heap b287 cST "coder" "B" (.int (0 : Int32)) := f310
      have f315 : Fld Z T303.heap b287 cST "value" "[B" (.ref v308) := f311
      have f316 : Ia Z T303.heap v308 .byte [] := f312
      have ne317 : v308 ≠ b287 := Ia.neE (a0 := a0) f316 f313 (tw hw 19 rfl)
      obtain ⟨X303r, hS303, hZ, hown⟩ := rebS hS0 (Nat.le_trans hk307 (Nat.le_of_eq (congrArg Array.size (Eq.symm e292)))) X303 h2303 gS303 hZ hown
      clear X303 h2303 gS303
      clear X292 e292
      show Go p e below (T303.setTop (mkF m 83 #[.val (.long y), .second, .val (.int (5 : Int32)), .val (.int (6 : Int32)), .val (.int (1 : Int32)), .val (.int (0 : Int32)), .val (.int (fdF y (7 : Int32) (6 : Int32))), .val (.int (fdF y (13 : Int32) (6 : Int32))), .val (.int (b64F (fdF y (7 : Int32) (6 : Int32)))), .val (.int (b64F (fdF y (13 : Int32) (6 : Int32))))] [(.ref b287)])) _
      have k318 : Keep h0 T303.heap [] := (k305.trans K303q (allS (Or.inr sz289) all0))
      exact Go.finW X303r hS303 (Nat.le_trans (Nat.le_refl _) (Nat.le_of_eq (congrArg Array.size (Eq.symm e303)))) hlk (v := some (.ref b287)) (fun h => by rw [Bd.returns] at h; cases h) (fun fs hr => retOut X303r hx Bd.returns rfl (Or.inr (Or.inr (Or.inr (Or.inr ⟨rfl, rfl, rfl⟩)))) (hb hby d2_83) hr) (by exact ⟨b287, v308, rfl, N303, k318, sz289, f313, f314, f315, (by unfold sgA; rw [own_sF0 (show lnA y (5 : Int32) = (0 : Int32) from hv_ln)]; exact f316), Em.still I303 X303r.warmed.interned_eq (w39 X303r.warmed.wide)⟩) (by decide) (by decide)
    · show Go p e below (T286.setTop (mkF m 68 #[.val (.long y), .second, .val (.int (5 : Int32)), .val (.int (6 : Int32)), .val (.int (1 : Int32)), .val (.int (1 : Int32)), .val (.int (fdF y (7 : Int32) (6 : Int32))), .val (.int (fdF y (13 : Int32) (6 : Int32))), .val (.int (b64F (fdF y (7 : Int32) (6 : Int32)))), .val (.int (b64F (fdF y (13 : Int32) (6 : Int32))))] [])) _
      refine Go.via (fun _ => XS.iload X286.here hx rfl (hb hby d2_68) rfl) ?_
      refine Go.via (fun _ => XS.ifYes X286.here hx rfl (pc0 := 70) (pc' := 84) rfl (hb hby d2_70) rfl ((if0 _ _).trans (feq ((by decide) : ¬ ((1 : Int32) = (0 : Int32)))).2) (by decide) (by decide)) ?_
      show Go p e below (T286.setTop (mkF m 84 #[.val (.long y), .second, .val (.int (5 : Int32)), .val (.int (6 : Int32)), .val (.int (1 : Int32)), .val (.int (1 : Int32)), .val (.int (fdF y (7 : Int32) (6 : Int32))), .val (.int (fdF y (13 : Int32) (6 : Int32))), .val (.int (b64F (fdF y (7 : Int32) (6 : Int32)))), .val (.int (b64F (fdF y (13 : Int32) (6 : Int32))))] [])) _
      refine Go.via (fun _ => XS.iload X286.here hx rfl (hb hby d2_84) rfl) ?_
      refine Go.via (fun _ => XS.iconst X286.here hx rfl (hb hby d2_86)) ?_
      refine Go.via (fun _ => XS.icmpNo X286.here hx rfl (hb hby d2_87) rfl (teq ((by decide) : (1 : Int32) = (1 : Int32))).2) ?_
      show Go p e below (T286.setTop (mkF m 90 #[.val (.long y), .second, .val (.int (5 : Int32)), .val (.int (6 : Int32)), .val (.int (1 : Int32)), .val (.int (1 : Int32)), .val (.int (fdF y (7 : Int32) (6 : Int32))), .val (.int (fdF y (13 : Int32) (6 : Int32))), .val (.int (b64F (fdF y (7 : Int32) (6 : Int32)))), .val (.int (b64F (fdF y (13 : Int32) (6 : Int32))))] [])) _
      obtain ⟨T319, h319, X319, e319, E319, A319, D319, -, st319⟩ := newO X286 hx hZ hown (tw hw 18 rfl) (tw hw 19 rfl) (tw hw 20 rfl) e286 (g := (mkF m 90 #[.val (.long y), .second, .val (.int (5 : Int32)), .val (.int (6 : Int32)), .val (.int (1 : Int32)), .val (.int (1 : Int32)), .val (.int (fdF y (7 : Int32) (6 : Int32))), .val (.int (fdF y (13 : Int32) (6 : Int32))), .val (.int (b64F (fdF y (7 : Int32) (6 : Int32)))), .val (.int (b64F (fdF y (13 : Int32) (6 : Int32))))] [])) rfl (hb hby d2_90) (by decide) (by decide)
      obtain ⟨b319, g319⟩ : ∃ z, z = h0.size := ⟨_, rfl⟩
      rw [← g319] at A319 D319 st319
      have ge320 : n0 ≤ b319 := Nat.le_trans Z0 (Nat.le_of_eq g319.symm)
      have sz321 : h0.size ≤ b319 := Nat.le_trans (Keep.refl h0 []).1 (Nat.le_of_eq g319.symm)
      refine Go.via (st319) ?_
      clear st319
      have f322 : Fld Z h319 b319 cST "value" "[B" .null := D319 (Or.inr (tw hw 34 rfl)) (ty := (.array .byte)) (by decide)
      have f323 : Fld Z h319 b319 cST "coder" "B" (.int (0 : Int32)) := D319 (Or.inr (tw hw 35 rfl)) (ty := .byte) (by decide)
      clear X286 e286
      show Go p e below (T319.setTop (mkF m 93 #[.val (.long y), .second, .val (.int (5 : Int32)), .val (.int (6 : Int32)), .val (.int (1 : Int32)), .val (.int (1 : Int32)), .val (.int (fdF y (7 : Int32) (6 : Int32))), .val (.int (fdF y (13 : Int32) (6 : Int32))), .val (.int (b64F (fdF y (7 : Int32) (6 : Int32)))), .val (.int (b64F (fdF y (13 : Int32) (6 : Int32))))] [(.ref b319)])) _
      refine Go.via (fun _ => XS.dup X319.here hx rfl (hb hby d2_93) rfl rfl) ?_
      refine Go.via (fun _ => XS.iconst X319.here hx rfl (hb hby d2_94)) ?_
      have k325 : Keep h0 h319 [] := ((Keep.refl h0 []).ext E319)
      have z326 : n0 ≤ h319.size := (Nat.le_trans Z0 E319.1)
      obtain ⟨T324, h324, k324, X324, e324, E324, A324, B324, st324⟩ := newPE X319 hx hZ (tw hw 21 rfl) e319 (g := (mkF m 95 #[.val (.long y), .second, .val (.int (5 : Int32)), .val (.int (6 : Int32)), .val (.int (1 : Int32)), .val (.int (1 : Int32)), .val (.int (fdF y (7 : Int32) (6 : Int32))), .val (.int (fdF y (13 : Int32) (6 : Int32))), .val (.int (b64F (fdF y (7 : Int32) (6 : Int32)))), .val (.int (b64F (fdF y (13 : Int32) (6 : Int32))))] [(.int (1 : Int32)), (.ref b319), (.ref b319)])) rfl (hb hby d2_95) rfl (by decide) (cap := 1) (by decide) (by decide) (by decide) (by decide) (ad := "[C") (by decide)
      obtain ⟨b324, g324⟩ : ∃ z, z = h319.size := ⟨_, rfl⟩
      rw [← g324] at A324 B324 st324
      have ne327 : b319 ≠ b324 := Nat.ne_of_lt (Nat.lt_of_lt_of_le A319.lt (Nat.le_of_eq g324.symm))
      have ge328 : n0 ≤ b324 := Nat.le_trans z326 (Nat.le_of_eq g324.symm)
      have sz329 : h0.size ≤ b324 := Nat.le_trans k325.1 (Nat.le_of_eq g324.symm)
      refine Go.via (st324) ?_
      clear st324
      have f330 : Ia Z h324 b324 .char [(0 : Int32)] := Ia.new A324 rfl
      clear X319 e319
      show Go p e below (T324.setTop (mkF m 97 #[.val (.long y), .second, .val (.int (5 : Int32)), .val (.int (6 : Int32)), .val (.int (1 : Int32)), .val (.int (1 : Int32)), .val (.int (fdF y (7 : Int32) (6 : Int32))), .val (.int (fdF y (13 : Int32) (6 : Int32))), .val (.int (b64F (fdF y (7 : Int32) (6 : Int32)))), .val (.int (b64F (fdF y (13 : Int32) (6 : Int32))))] [(.ref b324), (.ref b319), (.ref b319)])) _
      refine Go.via (fun _ => XS.dup X324.here hx rfl (hb hby d2_97) rfl rfl) ?_
      refine Go.via (fun _ => XS.iconst X324.here hx rfl (hb hby d2_98)) ?_
      refine Go.via (fun _ => XS.iload X324.here hx rfl (hb hby d2_99) rfl) ?_
      obtain ⟨T331, h331, X331, e331, W331, V331, st331⟩ := stC' X324 hx hZ e324 f330 (j := (0 : Int32)) (by decide) (by first | decide | (simp only [List.length_cons, List.length_nil]; decide) | rfl) (g := (mkF m 101 #[.val (.long y), .second, .val (.int (5 : Int32)), .val (.int (6 : Int32)), .val (.int (1 : Int32)), .val (.int (1 : Int32)), .val (.int (fdF y (7 : Int32) (6 : Int32))), .val (.int (fdF y (13 : Int32) (6 : Int32))), .val (.int (b64F (fdF y (7 : Int32) (6 : Int32)))), .val (.int (b64F (fdF y (13 : Int32) (6 : Int32))))] [(.int (b64F (fdF y (7 : Int32) (6 : Int32)))), (.int (0 : Int32)), (.ref b324), (.ref b324), (.ref b319), (.ref b319)])) rfl rfl (hb hby d2_101)
      refine Go.via (st331) ?_
      clear st331
      have N331 := Fr.snoc X331 N0 ge328
      have f332 : Ia Z h331 b324 .char [(nar .char (b64F (fdF y (7 : Int32) (6 : Int32))))] := V331
      clear X324 e324
      show Go p e below (T331.setTop (mkF m 102 #[.val (.long y), .second, .val (.int (5 : Int32)), .val (.int (6 : Int32)), .val (.int (1 : Int32)), .val (.int (1 : Int32)), .val (.int (fdF y (7 : Int32) (6 : Int32))), .val (.int (fdF y (13 : Int32) (6 : Int32))), .val (.int (b64F (fdF y (7 : Int32) (6 : Int32)))), .val (.int (b64F (fdF y (13 : Int32) (6 : Int32))))] [(.ref b324), (.ref b319), (.ref b319)])) _
      have f333 : Fld Z h331 b319 cST "coder" "B" (.int (0 : Int32)) := ((f323.ext E324).other W331 (Or.inl ne327))
      have f334 : Fld Z h331 b319 cST "value" "[B" .null := ((f322.ext E324).other W331 (Or.inl ne327))
      have f335 : Exa Z h331 b319 cST := ((A319.ext E324).wr W331)
      have o336 : Old Z n0 h331 := (((P0.ext E319).ext E324).wr W331 ge328)
      have z338 : n0 ≤ h331.size := (Nat.le_trans (Nat.le_trans z326 E324.1) (Keep.of_wr W331).1)
      obtain ⟨r337, _, ⟨T337, L337, k337, n337⟩, -, X337, ⟨Lc337, hQ337, l337, y337, z337⟩, st337⟩ := X331.specialBack hx (y := (⟨cST, "<init>", "([C)V"⟩ : MethodName)) rfl hown (mvT hZ (tw hw 22 rfl)) (mvT hZ (tw hw 23 rfl)) (mvT hZ (tw hw 24 rfl)) (by decide) (backOf (W := 1) (rmI1_1 l Z a0 hw [] b319 b324 (nar .char (b64F (fdF y (7 : Int32) (6 : Int32)))) cs h331 n0 z338 f333 f334 f335 f332 o336 zCS ge320 ne327 hcs (own_le _ (own_m6 y (7 : Int32)))) hZ (tw hw 24 rfl) (tw hw 20 rfl) (by decide) (by decide)) (g := (mkF m 102 #[.val (.long y), .second, .val (.int (5 : Int32)), .val (.int (6 : Int32)), .val (.int (1 : Int32)), .val (.int (1 : Int32)), .val (.int (fdF y (7 : Int32) (6 : Int32))), .val (.int (fdF y (13 : Int32) (6 : Int32))), .val (.int (b64F (fdF y (7 : Int32) (6 : Int32)))), .val (.int (b64F (fdF y (13 : Int32) (6 : Int32))))] [(.ref b324), (.ref b319), (.ref b319)])) rfl (by rw [hml]; rfl) (Steps.refl _) (a := b319) (argsL := [(.ref b324)]) (rest := [(.ref b319)]) (lenOf pd__28_5bC_29V rfl) rfl (by show 2 * 0 + _ ≤ _; exact Nat.le_of_eq rfl) (hb hby d2_102) (fun _ _ => ⟨rfl, e331, (by decide : 2 + 1 ≤ _), (by decide : 5 + 1 ≤ _)⟩)
      dsimp only [Pt.U, Pt.locs, Pt.cells, Pt.slots] at X337 l337 y337 z337 st337 hQ337
      rw [l337, y337, z337] at X337
      clear l337 y337 z337
      obtain ⟨b339, hr337, N337q, K337q, fz_b339, f340, f341, f342, f343⟩ := hQ337
      rw [hr337] at st337
      clear hr337
      have N337 := Fr.app N331 N337q
      refine Go.via (fun _ kQ => st337.trans kQ) ?_
      clear st337
      have ne344 : b319 ≠ b339 := Nat.ne_of_lt (Nat.lt_of_lt_of_le f335.lt fz_b339)
      have ne345 : b324 ≠ b339 := Nat.ne_of_lt (Nat.lt_of_lt_of_le f332.lt fz_b339)
      have ge346 : n0 ≤ b339 := Nat.le_trans z338 fz_b339
      have k348 : Keep h0 h331 [] := ((k325.ext E324).wr W331 (Or.inr sz329))
      have sz347 : h0.size ≤ b339 := Nat.le_trans k348.1 fz_b339
      have e337 : T337.heap = T337.heap := rfl
      have f349 : Exa Z T337.heap b319 cST := f340
      have f350 : Fld Z T337.heap b319 cST "coder" "B" (.int (0 : Int32)) := f341
      have f351 : Fld Z T337.heap b319 cST "value" "[B" (.ref b339) := f342
      have f352 : Ia Z T337.heap b339 .byte [(nar .byte ((nar .char (b64F (fdF y (7 : Int32) (6 : Int32)))).toInt8.toInt32))] := f343
      clear X331 e331
      show Go p e below (T337.setTop (mkF m 105 #[.val (.long y), .second, .val (.int (5 : Int32)), .val (.int (6 : Int32)), .val (.int (1 : Int32)), .val (.int (1 : Int32)), .val (.int (fdF y (7 : Int32) (6 : Int32))), .val (.int (fdF y (13 : Int32) (6 : Int32))), .val (.int (b64F (fdF y (7 : Int32) (6 : Int32)))), .val (.int (b64F (fdF y (13 : Int32) (6 : Int32))))] [(.ref b319)])) _
      have k353 : Keep h0 T337.heap [] := (k348.trans K337q (allS (Or.inr sz321) all0))
      have em354 : Em Z s.vm T337.heap ["signature 1", "signature 2", "digest", "name"] := (Em.keep0 I0 k353)
      have hk355 : _ ≤ T337.heap.size := (Nat.le_trans (Nat.le_trans (Nat.le_trans (Nat.le_trans hk0 E319.1) E324.1) (Keep.of_wr W331).1) K337q.1)
      exact Go.finW X337 hS0 (Nat.le_trans hk355 (Nat.le_of_eq (congrArg Array.size (Eq.symm e337)))) hlk (v := some (.ref b319)) (fun h => by rw [Bd.returns] at h; cases h) (fun fs hr => retOut X337 hx Bd.returns rfl (Or.inr (Or.inr (Or.inr (Or.inr ⟨rfl, rfl, rfl⟩)))) (hb hby d2_105) hr) (by exact ⟨b319, b339, rfl, N337, k353, sz321, f349, f350, f351, (by unfold sgA; rw [own_sF1 (show lnA y (5 : Int32) = (1 : Int32) from hv_ln)]; exact own_ia1 f352 (own_m6 y (7 : Int32))), Em.still em354 X337.warmed.interned_eq (w39 X337.warmed.wide)⟩) (by decide) (by decide)
    · show Go p e below (T286.setTop (mkF m 68 #[.val (.long y), .second, .val (.int (5 : Int32)), .val (.int (6 : Int32)), .val (.int (1 : Int32)), .val (.int (2 : Int32)), .val (.int (fdF y (7 : Int32) (6 : Int32))), .val (.int (fdF y (13 : Int32) (6 : Int32))), .val (.int (b64F (fdF y (7 : Int32) (6 : Int32)))), .val (.int (b64F (fdF y (13 : Int32) (6 : Int32))))] [])) _
      refine Go.via (fun _ => XS.iload X286.here hx rfl (hb hby d2_68) rfl) ?_
      refine Go.via (fun _ => XS.ifYes X286.here hx rfl (pc0 := 70) (pc' := 84) rfl (hb hby d2_70) rfl ((if0 _ _).trans (feq ((by decide) : ¬ ((2 : Int32) = (0 : Int32)))).2) (by decide) (by decide)) ?_
      show Go p e below (T286.setTop (mkF m 84 #[.val (.long y), .second, .val (.int (5 : Int32)), .val (.int (6 : Int32)), .val (.int (1 : Int32)), .val (.int (2 : Int32)), .val (.int (fdF y (7 : Int32) (6 : Int32))), .val (.int (fdF y (13 : Int32) (6 : Int32))), .val (.int (b64F (fdF y (7 : Int32) (6 : Int32)))), .val (.int (b64F (fdF y (13 : Int32) (6 : Int32))))] [])) _
      refine Go.via (fun _ => XS.iload X286.here hx rfl (hb hby d2_84) rfl) ?_
      refine Go.via (fun _ => XS.iconst X286.here hx rfl (hb hby d2_86)) ?_
      refine Go.via (fun _ => XS.icmpYes X286.here hx rfl (pc0 := 87) (pc' := 106) rfl (hb hby d2_87) rfl (feq ((by decide) : ¬ ((2 : Int32) = (1 : Int32)))).2 (by decide) (by decide)) ?_
      show Go p e below (T286.setTop (mkF m 106 #[.val (.long y), .second, .val (.int (5 : Int32)), .val (.int (6 : Int32)), .val (.int (1 : Int32)), .val (.int (2 : Int32)), .val (.int (fdF y (7 : Int32) (6 : Int32))), .val (.int (fdF y (13 : Int32) (6 : Int32))), .val (.int (b64F (fdF y (7 : Int32) (6 : Int32)))), .val (.int (b64F (fdF y (13 : Int32) (6 : Int32))))] [])) _
      obtain ⟨T356, h356, X356, e356, E356, A356, D356, -, st356⟩ := newO X286 hx hZ hown (tw hw 18 rfl) (tw hw 19 rfl) (tw hw 20 rfl) e286 (g := (mkF m 106 #[.val (.long y), .second, .val (.int (5 : Int32)), .val (.int (6 : Int32)), .val (.int (1 : Int32)), .val (.int (2 : Int32)), .val (.int (fdF y (7 : Int32) (6 : Int32))), .val (.int (fdF y (13 : Int32) (6 : Int32))), .val (.int (b64F (fdF y (7 : Int32) (6 : Int32)))), .val (.int (b64F (fdF y (13 : Int32) (6 : Int32))))] [])) rfl (hb hby d2_106) (by decide) (by decide)
      obtain ⟨b356, g356⟩ : ∃ z, z = h0.size := ⟨_, rfl⟩
      rw [← g356] at A356 D356 st356
      have ge357 : n0 ≤ b356 := Nat.le_trans Z0 (Nat.le_of_eq g356.symm)
      have sz358 : h0.size ≤ b356 := Nat.le_trans (Keep.refl h0 []).1 (Nat.le_of_eq g356.symm)
      refine Go.via (st356) ?_
      clear st356
      have f359 : Fld Z h356 b356 cST "value" "[B" .null := D356 (Or.inr (tw hw 34 rfl)) (ty := (.array .byte)) (by decide)
      have f360 : Fld Z h356 b356 cST "coder" "B" (.int (0 : Int32)) := D356 (Or.inr (tw hw 35 rfl)) (ty := .byte) (by decide)
      clear X286 e286
      show Go p e below (T356.setTop (mkF m 109 #[.val (.long y), .second, .val (.int (5 : Int32)), .val (.int (6 : Int32)), .val (.int (1 : Int32)), .val (.int (2 : Int32)), .val (.int (fdF y (7 : Int32) (6 : Int32))), .val (.int (fdF y (13 : Int32) (6 : Int32))), .val (.int (b64F (fdF y (7 : Int32) (6 : Int32)))), .val (.int (b64F (fdF y (13 : Int32) (6 : Int32))))] [(.ref b356)])) _
      refine Go.via (fun _ => XS.dup X356.here hx rfl (hb hby d2_109) rfl rfl) ?_
      refine Go.via (fun _ => XS.iconst X356.here hx rfl (hb hby d2_110)) ?_
      have k362 : Keep h0 h356 [] := ((Keep.refl h0 []).ext E356)
      have z363 : n0 ≤ h356.size := (Nat.le_trans Z0 E356.1)
      obtain ⟨T361, h361, k361, X361, e361, E361, A361, B361, st361⟩ := newPE X356 hx hZ (tw hw 21 rfl) e356 (g := (mkF m 111 #[.val (.long y), .second, .val (.int (5 : Int32)), .val (.int (6 : Int32)), .val (.int (1 : Int32)), .val (.int (2 : Int32)), .val (.int (fdF y (7 : Int32) (6 : Int32))), .val (.int (fdF y (13 : Int32) (6 : Int32))), .val (.int (b64F (fdF y (7 : Int32) (6 : Int32)))), .val (.int (b64F (fdF y (13 : Int32) (6 : Int32))))] [(.int (2 : Int32)), (.ref b356), (.ref b356)])) rfl (hb hby d2_111) rfl (by decide) (cap := 2) (by decide) (by decide) (by decide) (by decide) (ad := "[C") (by decide)
      obtain ⟨b361, g361⟩ : ∃ z, z = h356.size := ⟨_, rfl⟩
      rw [← g361] at A361 B361 st361
      have ne364 : b356 ≠ b361 := Nat.ne_of_lt (Nat.lt_of_lt_of_le A356.lt (Nat.le_of_eq g361.symm))
      have ge365 : n0 ≤ b361 := Nat.le_trans z363 (Nat.le_of_eq g361.symm)
      have sz366 : h0.size ≤ b361 := Nat.le_trans k362.1 (Nat.le_of_eq g361.symm)
      refine Go.via (st361) ?_
      clear st361
      have f367 : Ia Z h361 b361 .char [(0 : Int32), (0 : Int32)] := Ia.new A361 rfl
      clear X356 e356
      show Go p e below (T361.setTop (mkF m 113 #[.val (.long y), .second, .val (.int (5 : Int32)), .val (.int (6 : Int32)), .val (.int (1 : Int32)), .val (.int (2 : Int32)), .val (.int (fdF y (7 : Int32) (6 : Int32))), .val (.int (fdF y (13 : Int32) (6 : Int32))), .val (.int (b64F (fdF y (7 : Int32) (6 : Int32)))), .val (.int (b64F (fdF y (13 : Int32) (6 : Int32))))] [(.ref b361), (.ref b356), (.ref b356)])) _
      refine Go.via (fun _ => XS.dup X361.here hx rfl (hb hby d2_113) rfl rfl) ?_
      refine Go.via (fun _ => XS.iconst X361.here hx rfl (hb hby d2_114)) ?_
      refine Go.via (fun _ => XS.iload X361.here hx rfl (hb hby d2_115) rfl) ?_
      obtain ⟨T368, h368, X368, e368, W368, V368, st368⟩ := stC' X361 hx hZ e361 f367 (j := (0 : Int32)) (by decide) (by first | decide | (simp only [List.length_cons, List.length_nil]; decide) | rfl) (g := (mkF m 117 #[.val (.long y), .second, .val (.int (5 : Int32)), .val (.int (6 : Int32)), .val (.int (1 : Int32)), .val (.int (2 : Int32)), .val (.int (fdF y (7 : Int32) (6 : Int32))), .val (.int (fdF y (13 : Int32) (6 : Int32))), .val (.int (b64F (fdF y (7 : Int32) (6 : Int32)))), .val (.int (b64F (fdF y (13 : Int32) (6 : Int32))))] [(.int (b64F (fdF y (7 : Int32) (6 : Int32)))), (.int (0 : Int32)), (.ref b361), (.ref b361), (.ref b356), (.ref b356)])) rfl rfl (hb hby d2_117)
      refine Go.via (st368) ?_
      clear st368
      have N368 := Fr.snoc X368 N0 ge365
      have f369 : Ia Z h368 b361 .char [(nar .char (b64F (fdF y (7 : Int32) (6 : Int32)))), (0 : Int32)] := V368
      clear X361 e361
      show Go p e below (T368.setTop (mkF m 118 #[.val (.long y), .second, .val (.int (5 : Int32)), .val (.int (6 : Int32)), .val (.int (1 : Int32)), .val (.int (2 : Int32)), .val (.int (fdF y (7 : Int32) (6 : Int32))), .val (.int (fdF y (13 : Int32) (6 : Int32))), .val (.int (b64F (fdF y (7 : Int32) (6 : Int32)))), .val (.int (b64F (fdF y (13 : Int32) (6 : Int32))))] [(.ref b361), (.ref b356), (.ref b356)])) _
      refine Go.via (fun _ => XS.dup X368.here hx rfl (hb hby d2_118) rfl rfl) ?_
      refine Go.via (fun _ => XS.iconst X368.here hx rfl (hb hby d2_119)) ?_
      refine Go.via (fun _ => XS.iload X368.here hx rfl (hb hby d2_120) rfl) ?_
      obtain ⟨T370, h370, X370, e370, W370, V370, st370⟩ := stC' X368 hx hZ e368 f369 (j := (1 : Int32)) (by decide) (by first | decide | (simp only [List.length_cons, List.length_nil]; decide) | rfl) (g := (mkF m 122 #[.val (.long y), .second, .val (.int (5 : Int32)), .val (.int (6 : Int32)), .val (.int (1 : Int32)), .val (.int (2 : Int32)), .val (.int (fdF y (7 : Int32) (6 : Int32))), .val (.int (fdF y (13 : Int32) (6 : Int32))), .val (.int (b64F (fdF y (7 : Int32) (6 : Int32)))), .val (.int (b64F (fdF y (13 : Int32) (6 : Int32))))] [(.int (b64F (fdF y (13 : Int32) (6 : Int32)))), (.int (1 : Int32)), (.ref b361), (.ref b361), (.ref b356), (.ref b356)])) rfl rfl (hb hby d2_122)
      refine Go.via (st370) ?_
      clear st370
      have N370 := Fr.snoc X370 N368 ge365
      have f371 : Ia Z h370 b361 .char [(nar .char (b64F (fdF y (7 : Int32) (6 : Int32)))), (nar .char (b64F (fdF y (13 : Int32) (6 : Int32))))] := V370
      clear X368 e368
      show Go p e below (T370.setTop (mkF m 123 #[.val (.long y), .second, .val (.int (5 : Int32)), .val (.int (6 : Int32)), .val (.int (1 : Int32)), .val (.int (2 : Int32)), .val (.int (fdF y (7 : Int32) (6 : Int32))), .val (.int (fdF y (13 : Int32) (6 : Int32))), .val (.int (b64F (fdF y (7 : Int32) (6 : Int32)))), .val (.int (b64F (fdF y (13 : Int32) (6 : Int32))))] [(.ref b361), (.ref b356), (.ref b356)])) _
      have f372 : Fld Z h370 b356 cST "coder" "B" (.int (0 : Int32)) := (((f360.ext E361).other W368 (Or.inl ne364)).other W370 (Or.inl ne364))
      have f373 : Fld Z h370 b356 cST "value" "[B" .null := (((f359.ext E361).other W368 (Or.inl ne364)).other W370 (Or.inl ne364))
      have f374 : Exa Z h370 b356 cST := (((A356.ext E361).wr W368).wr W370)
      have o375 : Old Z n0 h370 := ((((P0.ext E356).ext E361).wr W368 ge365).wr W370 ge365)
      have z377 : n0 ≤ h370.size := (Nat.le_trans (Nat.le_trans (Nat.le_trans z363 E361.1) (Keep.of_wr W368).1) (Keep.of_wr W370).1)
      obtain ⟨r376, _, ⟨T376, L376, k376, n376⟩, -, X376, ⟨Lc376, hQ376, l376, y376, z376⟩, st376⟩ := X370.specialBack hx (y := (⟨cST, "<init>", "([C)V"⟩ : MethodName)) rfl hown (mvT hZ (tw hw 22 rfl)) (mvT hZ (tw hw 23 rfl)) (mvT hZ (tw hw 24 rfl)) (by decide) (backOf (W := 1) (rmI1_2 l Z a0 hw [] b356 b361 (nar .char (b64F (fdF y (7 : Int32) (6 : Int32)))) (nar .char (b64F (fdF y (13 : Int32) (6 : Int32)))) cs h370 n0 z377 f372 f373 f374 f371 o375 zCS ge357 ne364 hcs (own_le _ (own_m6 y (7 : Int32))) (own_le _ (own_m6 y (13 : Int32)))) hZ (tw hw 24 rfl) (tw hw 20 rfl) (by decide) (by decide)) (g := (mkF m 123 #[.val (.long y), .second, .val (.int (5 : Int32)), .val (.int (6 : Int32)), .val (.int (1 : Int32)), .val (.int (2 : Int32)), .val (.int (fdF y (7 : Int32) (6 : Int32))), .val (.int (fdF y (13 : Int32) (6 : Int32))), .val (.int (b64F (fdF y (7 : Int32) (6 : Int32)))), .val (.int (b64F (fdF y (13 : Int32) (6 : Int32))))] [(.ref b361), (.ref b356), (.ref b356)])) rfl (by rw [hml]; rfl) (Steps.refl _) (a := b356) (argsL := [(.ref b361)]) (rest := [(.ref b356)]) (lenOf pd__28_5bC_29V rfl) rfl (by show 2 * 0 + _ ≤ _; exact Nat.le_of_eq rfl) (hb hby d2_123) (fun _ _ => ⟨rfl, e370, (by decide : 2 + 1 ≤ _), (by decide : 6 + 2 ≤ _)⟩)
      dsimp only [Pt.U, Pt.locs, Pt.cells, Pt.slots] at X376 l376 y376 z376 st376 hQ376
      rw [l376, y376, z376] at X376
      clear l376 y376 z376
      obtain ⟨b378, hr376, N376q, K376q, fz_b378, f379, f380, f381, f382⟩ := hQ376
      rw [hr376] at st376
      clear hr376
      have N376 := Fr.app N370 N376q
      refine Go.via (fun _ kQ => st376.trans kQ) ?_
      clear st376
      have ne383 : b356 ≠ b378 := Nat.ne_of_lt (Nat.lt_of_lt_of_le f374.lt fz_b378)
      have ne384 : b361 ≠ b378 := Nat.ne_of_lt (Nat.lt_of_lt_of_le f371.lt fz_b378)
      have ge385 : n0 ≤ b378 := Nat.le_trans z377 fz_b378
      have k387 : Keep h0 h370 [] := (((k362.ext E361).wr W368 (Or.inr sz366)).wr W370 (Or.inr sz366))
      have sz386 : h0.size ≤ b378 := Nat.le_trans k387.1 fz_b378
      have e376 : T376.heap = T376.heap := rfl
      have f388 : Exa Z T376.heap b356 cST := f379
      have f389 : Fld Z T376.heap b356 cST "coder" "B" (.int (0 : Int32)) := f380
      have f390 : Fld Z T376.heap b356 cST "value" "[B" (.ref b378) := f381
      have f391 : Ia Z T376.heap b378 .byte [(nar .byte ((nar .char (b64F (fdF y (7 : Int32) (6 : Int32)))).toInt8.toInt32)), (nar .byte ((nar .char (b64F (fdF y (13 : Int32) (6 : Int32)))).toInt8.toInt32))] := f382
      clear X370 e370
      show Go p e below (T376.setTop (mkF m 126 #[.val (.long y), .second, .val (.int (5 : Int32)), .val (.int (6 : Int32)), .val (.int (1 : Int32)), .val (.int (2 : Int32)), .val (.int (fdF y (7 : Int32) (6 : Int32))), .val (.int (fdF y (13 : Int32) (6 : Int32))), .val (.int (b64F (fdF y (7 : Int32) (6 : Int32)))), .val (.int (b64F (fdF y (13 : Int32) (6 : Int32))))] [(.ref b356)])) _
      have k392 : Keep h0 T376.heap [] := (k387.trans K376q (allS (Or.inr sz358) all0))
      have em393 : Em Z s.vm T376.heap ["signature 1", "signature 2", "digest", "name"] := (Em.keep0 I0 k392)
      have hk394 : _ ≤ T376.heap.size := (Nat.le_trans (Nat.le_trans (Nat.le_trans (Nat.le_trans (Nat.le_trans hk0 E356.1) E361.1) (Keep.of_wr W368).1) (Keep.of_wr W370).1) K376q.1)
      exact Go.finW X376 hS0 (Nat.le_trans hk394 (Nat.le_of_eq (congrArg Array.size (Eq.symm e376)))) hlk (v := some (.ref b356)) (fun h => by rw [Bd.returns] at h; cases h) (fun fs hr => retOut X376 hx Bd.returns rfl (Or.inr (Or.inr (Or.inr (Or.inr ⟨rfl, rfl, rfl⟩)))) (hb hby d2_126) hr) (by exact ⟨b356, b378, rfl, N376, k392, sz358, f388, f389, f390, (by unfold sgA; rw [own_sF2 (show lnA y (5 : Int32) = (2 : Int32) from hv_ln)]; exact own_ia2 f391 (own_m6 y (7 : Int32)) (own_m6 y (13 : Int32))), Em.still em393 X376.warmed.interned_eq (w39 X376.warmed.wide)⟩) (by decide) (by decide)
def Q_rmStsgB (Z : State) (y : Int64) (ap : Int32) (wd : Int32) (bq : Int32) (cs : Int32) (h0 : Heap) (n0 : Nat) (vQ : Option Value) (hQ : Heap) (vmQ : Vm) (LQ : List Loc) : Prop := ∃ r : Addr, ∃ b_ : Addr, vQ = some (.ref r) ∧ Fr n0 LQ ∧ Keep h0 hQ [] ∧ h0.size ≤ r ∧ Exa Z hQ r cST ∧ Fld Z hQ r cST "coder" "B" (.int (0 : Int32)) ∧ Fld Z hQ r cST "value" "[B" (.ref b_) ∧ Ia Z hQ b_ .byte (sgB y) ∧ Em Z vmQ hQ ["signature 1", "signature 2", "digest", "name"]
def V_rmStsgB (Z : State) (y : Int64) (ap : Int32) (wd : Int32) (bq : Int32) (cs : Int32) (h0 : Heap) (vmV : Vm) : Prop := Em Z vmV h0 ["signature 1", "signature 2", "digest", "name"] ∧ True
set_option maxRecDepth 65536 in
set_option maxHeartbeats 40000000 in
theorem rmStsgB (l : Launch) (Z : State) (a0 : Array Value) (hw : ∀ d ∈ tables_1, d.before a0 Z = true) (ws : List Jvm.Cond) (y : Int64) (ap : Int32) (wd : Int32) (bq : Int32) (cs : Int32) (h0 : Heap) (n0 : Nat) (Z0 : n0 ≤ h0.size) (P0 : Old Z n0 h0) (zCS : Sta Z Z.heap cST "COMPACT_STRINGS" "Z" (.int cs)) (hcs : ¬ (cs = (0 : Int32))) (hh7 : Jvm.Lit.constHeld Z cST 7) (hcw : Jvm.Lit.compactW.before a0 Z = true) (ha : ap = 19) (hd : wd = 6) (hb_ : bq = 1) :
    MetFree l (⟨cLAW, "str", "(JIIZ)Ljava/lang/String;"⟩ : MethodName) (head1 (Jvm.Cond.code (⟨cLAW, "str", "(JIIZ)Ljava/lang/String;"⟩ : MethodName) method_7_code 10 (some (.object cST)) :: ws) ({ frames := 4, cells := 4, slots := 8, locals := 66 } : Room)) (fun aQ UQ => aQ = #[(.long y), (.int ap), (.int wd), (.int bq)] ∧ Z.Warmed39 UQ.vm ∧ UQ.heap = h0 ∧ V_rmStsgB Z y ap wd bq cs h0 UQ.vm) (fun _ _ _ _ _ => True) (fun _ UQ oQ UR => ∃ vQ LQ, oQ = .returned vQ ∧ Q_rmStsgB Z y ap wd bq cs h0 n0 vQ UR.heap UR.vm LQ ∧ ReturnedEndW UQ oQ UR LQ ({ frames := 4, cells := 4, slots := 8, locals := 66 } : Room).cells ({ frames := 4, cells := 4, slots := 8, locals := 66 } : Room).slots) := by
  refine MetFree.of_bodySF (plainFor_of_name pn_2) hisR ?_
  intro p e s m args below meth c s₁ Bd hml0 hP hK
  obtain ⟨rfl, hZ0, hh, hV⟩ := hP
  obtain ⟨I0, -⟩ := hV
  have hx := Bd.exec
  have hby := Bd.bytes
  have hlk := Bd.notSynchronized
  have hml : c.maxLocals = 10 := hml0
  have hnm := (name_of_methodNamed Bd.named Bd.method).1
  have e0 : s₁.heap = h0 := by rw [← hh, Bd.state]; rfl
  have N0 := Fr.nil n0
  have hZ : Z.Warmed39 (s.setVm s.vm).vm := hZ0
  have hown : (s.setVm s.vm).vm.findClass cLAW = some m.cls := findClass_of_methodNamed Bd.named
  have X0 : Stand p l e ({ frames := 4, cells := 4, slots := 8, locals := 66 } : Room) (s.setVm s.vm) m #[(.long y), (.int ap), (.int wd), (.int bq)] below meth c s₁ [] 0 0 := Stand.of_body Bd
  have hS0 : s.Since s.vm s.heap.size := (State.WarmedH.refl _).since _
  have hk0 : s.heap.size ≤ h0.size := Nat.le_of_eq (congrArg Array.size hh)
  show Go p e below _ (DoneW s (Q_rmStsgB Z y ap wd bq cs h0 n0) ({ frames := 4, cells := 4, slots := 8, locals := 66 } : Room).cells ({ frames := 4, cells := 4, slots := 8, locals := 66 } : Room).slots)
  refine Go.via (fun tQ kQ => castTop (ef_2 m y ap wd bq) kQ) ?_
  show Go p e below (s₁.setTop (mkF m 0 #[.val (.long y), .second, .val (.int ap), .val (.int wd), .val (.int bq), .unset, .unset, .unset, .unset, .unset] [])) _
  · subst ha hd hb_
    show Go p e below (s₁.setTop (mkF m 0 #[.val (.long y), .second, .val (.int (19 : Int32)), .val (.int (6 : Int32)), .val (.int (1 : Int32)), .unset, .unset, .unset, .unset, .unset] [])) _
    refine Go.via (fun _ => XS.lloadN X0.here hx rfl (hb hby d2_0) rfl) ?_
    refine Go.via (fun _ => XS.iloadN X0.here hx rfl (hb hby d2_1) rfl) ?_
    refine Go.via (fun _ => XS.iconst X0.here hx rfl (hb hby d2_2)) ?_
    obtain ⟨r395, _, ⟨T395, L395, k395, n395⟩, -, X395, ⟨Lc395, hQ395, l395, y395, z395⟩, st395⟩ := Jvm.LawKit.callS X0 hx (y := (⟨cLAW, "field", "(JII)I"⟩ : MethodName)) hown (mvT hZ (tw hw 12 rfl)) (mvT hZ (tw hw 13 rfl)) (mvT hZ (tw hw 6 rfl)) (mvT hZ (tw hw 14 rfl)) (by decide) (backOf (W := 0) (rmFd l Z a0 hw [] y (19 : Int32) (2 : Int32)  h0 n0 Z0) hZ (tw hw 14 rfl) (tw hw 6 rfl) (by decide) (by decide)) (g := (mkF m 3 #[.val (.long y), .second, .val (.int (19 : Int32)), .val (.int (6 : Int32)), .val (.int (1 : Int32)), .unset, .unset, .unset, .unset, .unset] [(.int (2 : Int32)), (.int (19 : Int32)), (.long y)])) rfl (by rw [hml]; rfl) (argsL := [(.long y), (.int (19 : Int32)), (.int (2 : Int32))]) (rest := []) (lenOf pd__28JII_29I rfl) rfl (by show 2 * 0 + _ ≤ _; exact Nat.le_of_eq rfl) (hb hby d2_3) (fun _ _ => ⟨rfl, e0, (by decide : 0 + 0 ≤ _), (by decide : 0 + 0 ≤ _)⟩)
    dsimp only [Pt.U, Pt.locs, Pt.cells, Pt.slots] at X395 l395 y395 z395 st395 hQ395
    rw [l395, y395, z395] at X395
    clear l395 y395 z395
    obtain ⟨hr395, N395q, eh395⟩ := hQ395
    rw [hr395] at st395
    clear hr395
    rw [N395q, List.append_nil] at X395
    refine Go.via (st395) ?_
    clear st395
    have e395 : T395.heap = h0 := eh395
    clear X0 e0
    show Go p e below (T395.setTop (mkF m 6 #[.val (.long y), .second, .val (.int (19 : Int32)), .val (.int (6 : Int32)), .val (.int (1 : Int32)), .unset, .unset, .unset, .unset, .unset] [(.int (fdF y (19 : Int32) (2 : Int32)))])) _
    refine Go.via (fun _ => XS.iconst X395.here hx rfl (hb hby d2_6)) ?_
    refine Go.via (fun _ => iremM X395 hx rfl (hb hby d2_7) rfl (by decide)) ?_
    show Go p e below (T395.setTop (mkF m 8 #[.val (.long y), .second, .val (.int (19 : Int32)), .val (.int (6 : Int32)), .val (.int (1 : Int32)), .unset, .unset, .unset, .unset, .unset] [(.int ((fdF y (19 : Int32) (2 : Int32)) % (3 : Int32)))])) _
    generalize hv_ln : ((fdF y (19 : Int32) (2 : Int32)) % (3 : Int32)) = ln
    show Go p e below (T395.setTop (mkF m 8 #[.val (.long y), .second, .val (.int (19 : Int32)), .val (.int (6 : Int32)), .val (.int (1 : Int32)), .unset, .unset, .unset, .unset, .unset] [(.int ln)])) _
    refine Go.via (fun _ => XS.istore X395.here hx rfl (hb hby d2_8) rfl (l' := #[.val (.long y), .second, .val (.int (19 : Int32)), .val (.int (6 : Int32)), .val (.int (1 : Int32)), .val (.int ln), .unset, .unset, .unset, .unset]) rfl) ?_
    show Go p e below (T395.setTop (mkF m 10 #[.val (.long y), .second, .val (.int (19 : Int32)), .val (.int (6 : Int32)), .val (.int (1 : Int32)), .val (.int ln), .unset, .unset, .unset, .unset] [])) _
    refine Go.via (fun _ => XS.lloadN X395.here hx rfl (hb hby d2_10) rfl) ?_
    refine Go.via (fun _ => XS.iloadN X395.here hx rfl (hb hby d2_11) rfl) ?_
    refine Go.via (fun _ => XS.iconst X395.here hx rfl (hb hby d2_12)) ?_
    refine Go.via (fun _ => XS.iadd X395.here hx rfl (hb hby d2_13) rfl) ?_
    show Go p e below (T395.setTop (mkF m 14 #[.val (.long y), .second, .val (.int (19 : Int32)), .val (.int (6 : Int32)), .val (.int (1 : Int32)), .val (.int ln), .unset, .unset, .unset, .unset] [(.int (21 : Int32)), (.long y)])) _
    refine Go.via (fun _ => XS.iloadN X395.here hx rfl (hb hby d2_14) rfl) ?_
    obtain ⟨r396, _, ⟨T396, L396, k396, n396⟩, -, X396, ⟨Lc396, hQ396, l396, y396, z396⟩, st396⟩ := Jvm.LawKit.callS X395 hx (y := (⟨cLAW, "field", "(JII)I"⟩ : MethodName)) hown (mvT hZ (tw hw 12 rfl)) (mvT hZ (tw hw 13 rfl)) (mvT hZ (tw hw 6 rfl)) (mvT hZ (tw hw 14 rfl)) (by decide) (backOf (W := 0) (rmFd l Z a0 hw [] y (21 : Int32) (6 : Int32)  h0 n0 Z0) hZ (tw hw 14 rfl) (tw hw 6 rfl) (by decide) (by decide)) (g := (mkF m 15 #[.val (.long y), .second, .val (.int (19 : Int32)), .val (.int (6 : Int32)), .val (.int (1 : Int32)), .val (.int ln), .unset, .unset, .unset, .unset] [(.int (6 : Int32)), (.int (21 : Int32)), (.long y)])) rfl (by rw [hml]; rfl) (argsL := [(.long y), (.int (21 : Int32)), (.int (6 : Int32))]) (rest := []) (lenOf pd__28JII_29I rfl) rfl (by show 2 * 0 + _ ≤ _; exact Nat.le_of_eq rfl) (hb hby d2_15) (fun _ _ => ⟨rfl, e395, (by decide : 0 + 0 ≤ _), (by decide : 0 + 0 ≤ _)⟩)
    dsimp only [Pt.U, Pt.locs, Pt.cells, Pt.slots] at X396 l396 y396 z396 st396 hQ396
    rw [l396, y396, z396] at X396
    clear l396 y396 z396
    obtain ⟨hr396, N396q, eh396⟩ := hQ396
    rw [hr396] at st396
    clear hr396
    rw [N396q, List.append_nil] at X396
    refine Go.via (st396) ?_
    clear st396
    have e396 : T396.heap = h0 := eh396
    clear X395 e395
    show Go p e below (T396.setTop (mkF m 18 #[.val (.long y), .second, .val (.int (19 : Int32)), .val (.int (6 : Int32)), .val (.int (1 : Int32)), .val (.int ln), .unset, .unset, .unset, .unset] [(.int (fdF y (21 : Int32) (6 : Int32)))])) _
    refine Go.via (fun _ => XS.istore X396.here hx rfl (hb hby d2_18) rfl (l' := #[.val (.long y), .second, .val (.int (19 : Int32)), .val (.int (6 : Int32)), .val (.int (1 : Int32)), .val (.int ln), .val (.int (fdF y (21 : Int32) (6 : Int32))), .unset, .unset, .unset]) rfl) ?_
    show Go p e below (T396.setTop (mkF m 20 #[.val (.long y), .second, .val (.int (19 : Int32)), .val (.int (6 : Int32)), .val (.int (1 : Int32)), .val (.int ln), .val (.int (fdF y (21 : Int32) (6 : Int32))), .unset, .unset, .unset] [])) _
    refine Go.via (fun _ => XS.lloadN X396.here hx rfl (hb hby d2_20) rfl) ?_
    refine Go.via (fun _ => XS.iloadN X396.here hx rfl (hb hby d2_21) rfl) ?_
    refine Go.via (fun _ => XS.iconst X396.here hx rfl (hb hby d2_22)) ?_
    refine Go.via (fun _ => XS.iadd X396.here hx rfl (hb hby d2_23) rfl) ?_
    show Go p e below (T396.setTop (mkF m 24 #[.val (.long y), .second, .val (.int (19 : Int32)), .val (.int (6 : Int32)), .val (.int (1 : Int32)), .val (.int ln), .val (.int (fdF y (21 : Int32) (6 : Int32))), .unset, .unset, .unset] [(.int (21 : Int32)), (.long y)])) _
    refine Go.via (fun _ => XS.iloadN X396.here hx rfl (hb hby d2_24) rfl) ?_
    refine Go.via (fun _ => XS.iadd X396.here hx rfl (hb hby d2_25) rfl) ?_
    show Go p e below (T396.setTop (mkF m 26 #[.val (.long y), .second, .val (.int (19 : Int32)), .val (.int (6 : Int32)), .val (.int (1 : Int32)), .val (.int ln), .val (.int (fdF y (21 : Int32) (6 : Int32))), .unset, .unset, .unset] [(.int (27 : Int32)), (.long y)])) _
    refine Go.via (fun _ => XS.iloadN X396.here hx rfl (hb hby d2_26) rfl) ?_
    obtain ⟨r397, _, ⟨T397, L397, k397, n397⟩, -, X397, ⟨Lc397, hQ397, l397, y397, z397⟩, st397⟩ := Jvm.LawKit.callS X396 hx (y := (⟨cLAW, "field", "(JII)I"⟩ : MethodName)) hown (mvT hZ (tw hw 12 rfl)) (mvT hZ (tw hw 13 rfl)) (mvT hZ (tw hw 6 rfl)) (mvT hZ (tw hw 14 rfl)) (by decide) (backOf (W := 0) (rmFd l Z a0 hw [] y (27 : Int32) (6 : Int32)  h0 n0 Z0) hZ (tw hw 14 rfl) (tw hw 6 rfl) (by decide) (by decide)) (g := (mkF m 27 #[.val (.long y), .second, .val (.int (19 : Int32)), .val (.int (6 : Int32)), .val (.int (1 : Int32)), .val (.int ln), .val (.int (fdF y (21 : Int32) (6 : Int32))), .unset, .unset, .unset] [(.int (6 : Int32)), (.int (27 : Int32)), (.long y)])) rfl (by rw [hml]; rfl) (argsL := [(.long y), (.int (27 : Int32)), (.int (6 : Int32))]) (rest := []) (lenOf pd__28JII_29I rfl) rfl (by show 2 * 0 + _ ≤ _; exact Nat.le_of_eq rfl) (hb hby d2_27) (fun _ _ => ⟨rfl, e396, (by decide : 0 + 0 ≤ _), (by decide : 0 + 0 ≤ _)⟩)
    dsimp only [Pt.U, Pt.locs, Pt.cells, Pt.slots] at X397 l397 y397 z397 st397 hQ397
    rw [l397, y397, z397] at X397
    clear l397 y397 z397
    obtain ⟨hr397, N397q, eh397⟩ := hQ397
    rw [hr397] at st397
    clear hr397
    rw [N397q, List.append_nil] at X397
    refine Go.via (st397) ?_
    clear st397
    have e397 : T397.heap = h0 := eh397
    clear X396 e396
    show Go p e below (T397.setTop (mkF m 30 #[.val (.long y), .second, .val (.int (19 : Int32)), .val (.int (6 : Int32)), .val (.int (1 : Int32)), .val (.int ln), .val (.int (fdF y (21 : Int32) (6 : Int32))), .unset, .unset, .unset] [(.int (fdF y (27 : Int32) (6 : Int32)))])) _
    refine Go.via (fun _ => XS.istore X397.here hx rfl (hb hby d2_30) rfl (l' := #[.val (.long y), .second, .val (.int (19 : Int32)), .val (.int (6 : Int32)), .val (.int (1 : Int32)), .val (.int ln), .val (.int (fdF y (21 : Int32) (6 : Int32))), .val (.int (fdF y (27 : Int32) (6 : Int32))), .unset, .unset]) rfl) ?_
    show Go p e below (T397.setTop (mkF m 32 #[.val (.long y), .second, .val (.int (19 : Int32)), .val (.int (6 : Int32)), .val (.int (1 : Int32)), .val (.int ln), .val (.int (fdF y (21 : Int32) (6 : Int32))), .val (.int (fdF y (27 : Int32) (6 : Int32))), .unset, .unset] [])) _
    refine Go.via (fun _ => XS.iload X397.here hx rfl (hb hby d2_32) rfl) ?_
    refine Go.via (fun _ => XS.ifNo X397.here hx rfl (hb hby d2_34) rfl ((if0 _ _).trans (feq ((by decide) : ¬ ((1 : Int32) = (0 : Int32)))).1)) ?_
    show Go p e below (T397.setTop (mkF m 37 #[.val (.long y), .second, .val (.int (19 : Int32)), .val (.int (6 : Int32)), .val (.int (1 : Int32)), .val (.int ln), .val (.int (fdF y (21 : Int32) (6 : Int32))), .val (.int (fdF y (27 : Int32) (6 : Int32))), .unset, .unset] [])) _
    refine Go.via (fun _ => XS.iload X397.here hx rfl (hb hby d2_37) rfl) ?_
    obtain ⟨r398, _, ⟨T398, L398, k398, n398⟩, -, X398, ⟨Lc398, hQ398, l398, y398, z398⟩, st398⟩ := Jvm.LawKit.callS X397 hx (y := (⟨cLAW, "b64", "(I)C"⟩ : MethodName)) hown (mvT hZ (tw hw 15 rfl)) (mvT hZ (tw hw 16 rfl)) (mvT hZ (tw hw 6 rfl)) (mvT hZ (tw hw 17 rfl)) (by decide) (backOf (W := 0) (rmB l Z a0 hw [] (fdF y (21 : Int32) (6 : Int32))  h0 n0 Z0) hZ (tw hw 17 rfl) (tw hw 6 rfl) (by decide) (by decide)) (g := (mkF m 39 #[.val (.long y), .second, .val (.int (19 : Int32)), .val (.int (6 : Int32)), .val (.int (1 : Int32)), .val (.int ln), .val (.int (fdF y (21 : Int32) (6 : Int32))), .val (.int (fdF y (27 : Int32) (6 : Int32))), .unset, .unset] [(.int (fdF y (21 : Int32) (6 : Int32)))])) rfl (by rw [hml]; rfl) (argsL := [(.int (fdF y (21 : Int32) (6 : Int32)))]) (rest := []) (lenOf pd__28I_29C rfl) rfl (by show 2 * 0 + _ ≤ _; exact Nat.le_of_eq rfl) (hb hby d2_39) (fun _ _ => ⟨rfl, e397, (by decide : 0 + 0 ≤ _), (by decide : 0 + 0 ≤ _)⟩)
    dsimp only [Pt.U, Pt.locs, Pt.cells, Pt.slots] at X398 l398 y398 z398 st398 hQ398
    rw [l398, y398, z398] at X398
    clear l398 y398 z398
    obtain ⟨hr398, N398q, eh398⟩ := hQ398
    rw [hr398] at st398
    clear hr398
    rw [N398q, List.append_nil] at X398
    refine Go.via (st398) ?_
    clear st398
    have e398 : T398.heap = h0 := eh398
    clear X397 e397
    show Go p e below (T398.setTop (mkF m 42 #[.val (.long y), .second, .val (.int (19 : Int32)), .val (.int (6 : Int32)), .val (.int (1 : Int32)), .val (.int ln), .val (.int (fdF y (21 : Int32) (6 : Int32))), .val (.int (fdF y (27 : Int32) (6 : Int32))), .unset, .unset] [(.int (b64F (fdF y (21 : Int32) (6 : Int32))))])) _
    refine Go.via (fun _ => XS.goto X398.here hx rfl (pc0 := 42) (pc' := 48) rfl (hb hby d2_42) (by decide) (by decide)) ?_
    refine Go.via (fun _ => XS.istore X398.here hx rfl (hb hby d2_48) rfl (l' := #[.val (.long y), .second, .val (.int (19 : Int32)), .val (.int (6 : Int32)), .val (.int (1 : Int32)), .val (.int ln), .val (.int (fdF y (21 : Int32) (6 : Int32))), .val (.int (fdF y (27 : Int32) (6 : Int32))), .val (.int (b64F (fdF y (21 : Int32) (6 : Int32)))), .unset]) rfl) ?_
    show Go p e below (T398.setTop (mkF m 50 #[.val (.long y), .second, .val (.int (19 : Int32)), .val (.int (6 : Int32)), .val (.int (1 : Int32)), .val (.int ln), .val (.int (fdF y (21 : Int32) (6 : Int32))), .val (.int (fdF y (27 : Int32) (6 : Int32))), .val (.int (b64F (fdF y (21 : Int32) (6 : Int32)))), .unset] [])) _
    refine Go.via (fun _ => XS.iload X398.here hx rfl (hb hby d2_50) rfl) ?_
    refine Go.via (fun _ => XS.ifNo X398.here hx rfl (hb hby d2_52) rfl ((if0 _ _).trans (feq ((by decide) : ¬ ((1 : Int32) = (0 : Int32)))).1)) ?_
    show Go p e below (T398.setTop (mkF m 55 #[.val (.long y), .second, .val (.int (19 : Int32)), .val (.int (6 : Int32)), .val (.int (1 : Int32)), .val (.int ln), .val (.int (fdF y (21 : Int32) (6 : Int32))), .val (.int (fdF y (27 : Int32) (6 : Int32))), .val (.int (b64F (fdF y (21 : Int32) (6 : Int32)))), .unset] [])) _
    refine Go.via (fun _ => XS.iload X398.here hx rfl (hb hby d2_55) rfl) ?_
    obtain ⟨r399, _, ⟨T399, L399, k399, n399⟩, -, X399, ⟨Lc399, hQ399, l399, y399, z399⟩, st399⟩ := Jvm.LawKit.callS X398 hx (y := (⟨cLAW, "b64", "(I)C"⟩ : MethodName)) hown (mvT hZ (tw hw 15 rfl)) (mvT hZ (tw hw 16 rfl)) (mvT hZ (tw hw 6 rfl)) (mvT hZ (tw hw 17 rfl)) (by decide) (backOf (W := 0) (rmB l Z a0 hw [] (fdF y (27 : Int32) (6 : Int32))  h0 n0 Z0) hZ (tw hw 17 rfl) (tw hw 6 rfl) (by decide) (by decide)) (g := (mkF m 57 #[.val (.long y), .second, .val (.int (19 : Int32)), .val (.int (6 : Int32)), .val (.int (1 : Int32)), .val (.int ln), .val (.int (fdF y (21 : Int32) (6 : Int32))), .val (.int (fdF y (27 : Int32) (6 : Int32))), .val (.int (b64F (fdF y (21 : Int32) (6 : Int32)))), .unset] [(.int (fdF y (27 : Int32) (6 : Int32)))])) rfl (by rw [hml]; rfl) (argsL := [(.int (fdF y (27 : Int32) (6 : Int32)))]) (rest := []) (lenOf pd__28I_29C rfl) rfl (by show 2 * 0 + _ ≤ _; exact Nat.le_of_eq rfl) (hb hby d2_57) (fun _ _ => ⟨rfl, e398, (by decide : 0 + 0 ≤ _), (by decide : 0 + 0 ≤ _)⟩)
    dsimp only [Pt.U, Pt.locs, Pt.cells, Pt.slots] at X399 l399 y399 z399 st399 hQ399
    rw [l399, y399, z399] at X399
    clear l399 y399 z399
    obtain ⟨hr399, N399q, eh399⟩ := hQ399
    rw [hr399] at st399
    clear hr399
    rw [N399q, List.append_nil] at X399
    refine Go.via (st399) ?_
    clear st399
    have e399 : T399.heap = h0 := eh399
    clear X398 e398
    show Go p e below (T399.setTop (mkF m 60 #[.val (.long y), .second, .val (.int (19 : Int32)), .val (.int (6 : Int32)), .val (.int (1 : Int32)), .val (.int ln), .val (.int (fdF y (21 : Int32) (6 : Int32))), .val (.int (fdF y (27 : Int32) (6 : Int32))), .val (.int (b64F (fdF y (21 : Int32) (6 : Int32)))), .unset] [(.int (b64F (fdF y (27 : Int32) (6 : Int32))))])) _
    refine Go.via (fun _ => XS.goto X399.here hx rfl (pc0 := 60) (pc' := 66) rfl (hb hby d2_60) (by decide) (by decide)) ?_
    refine Go.via (fun _ => XS.istore X399.here hx rfl (hb hby d2_66) rfl (l' := #[.val (.long y), .second, .val (.int (19 : Int32)), .val (.int (6 : Int32)), .val (.int (1 : Int32)), .val (.int ln), .val (.int (fdF y (21 : Int32) (6 : Int32))), .val (.int (fdF y (27 : Int32) (6 : Int32))), .val (.int (b64F (fdF y (21 : Int32) (6 : Int32)))), .val (.int (b64F (fdF y (27 : Int32) (6 : Int32))))]) rfl) ?_
    show Go p e below (T399.setTop (mkF m 68 #[.val (.long y), .second, .val (.int (19 : Int32)), .val (.int (6 : Int32)), .val (.int (1 : Int32)), .val (.int ln), .val (.int (fdF y (21 : Int32) (6 : Int32))), .val (.int (fdF y (27 : Int32) (6 : Int32))), .val (.int (b64F (fdF y (21 : Int32) (6 : Int32)))), .val (.int (b64F (fdF y (27 : Int32) (6 : Int32))))] [])) _
    rcases own_l3 y (19 : Int32) hv_ln with rfl | rfl | rfl
    · show Go p e below (T399.setTop (mkF m 68 #[.val (.long y), .second, .val (.int (19 : Int32)), .val (.int (6 : Int32)), .val (.int (1 : Int32)), .val (.int (0 : Int32)), .val (.int (fdF y (21 : Int32) (6 : Int32))), .val (.int (fdF y (27 : Int32) (6 : Int32))), .val (.int (b64F (fdF y (21 : Int32) (6 : Int32)))), .val (.int (b64F (fdF y (27 : Int32) (6 : Int32))))] [])) _
      refine Go.via (fun _ => XS.iload X399.here hx rfl (hb hby d2_68) rfl) ?_
      refine Go.via (fun _ => XS.ifNo X399.here hx rfl (hb hby d2_70) rfl ((if0 _ _).trans (teq ((by decide) : (0 : Int32) = (0 : Int32))).2)) ?_
      show Go p e below (T399.setTop (mkF m 73 #[.val (.long y), .second, .val (.int (19 : Int32)), .val (.int (6 : Int32)), .val (.int (1 : Int32)), .val (.int (0 : Int32)), .val (.int (fdF y (21 : Int32) (6 : Int32))), .val (.int (fdF y (27 : Int32) (6 : Int32))), .val (.int (b64F (fdF y (21 : Int32) (6 : Int32)))), .val (.int (b64F (fdF y (27 : Int32) (6 : Int32))))] [])) _
      obtain ⟨T400, h400, X400, e400, E400, A400, D400, -, st400⟩ := newO X399 hx hZ hown (tw hw 18 rfl) (tw hw 19 rfl) (tw hw 20 rfl) e399 (g := (mkF m 73 #[.val (.long y), .second, .val (.int (19 : Int32)), .val (.int (6 : Int32)), .val (.int (1 : Int32)), .val (.int (0 : Int32)), .val (.int (fdF y (21 : Int32) (6 : Int32))), .val (.int (fdF y (27 : Int32) (6 : Int32))), .val (.int (b64F (fdF y (21 : Int32) (6 : Int32)))), .val (.int (b64F (fdF y (27 : Int32) (6 : Int32))))] [])) rfl (hb hby d2_73) (by decide) (by decide)
      obtain ⟨b400, g400⟩ : ∃ z, z = h0.size := ⟨_, rfl⟩
      rw [← g400] at A400 D400 st400
      have ge401 : n0 ≤ b400 := Nat.le_trans Z0 (Nat.le_of_eq g400.symm)
      have sz402 : h0.size ≤ b400 := Nat.le_trans (Keep.refl h0 []).1 (Nat.le_of_eq g400.symm)
      refine Go.via (st400) ?_
      clear st400
      have f403 : Fld Z h400 b400 cST "value" "[B" .null := D400 (Or.inr (tw hw 34 rfl)) (ty := (.array .byte)) (by decide)
      have f404 : Fld Z h400 b400 cST "coder" "B" (.int (0 : Int32)) := D400 (Or.inr (tw hw 35 rfl)) (ty := .byte) (by decide)
      clear X399 e399
      show Go p e below (T400.setTop (mkF m 76 #[.val (.long y), .second, .val (.int (19 : Int32)), .val (.int (6 : Int32)), .val (.int (1 : Int32)), .val (.int (0 : Int32)), .val (.int (fdF y (21 : Int32) (6 : Int32))), .val (.int (fdF y (27 : Int32) (6 : Int32))), .val (.int (b64F (fdF y (21 : Int32) (6 : Int32)))), .val (.int (b64F (fdF y (27 : Int32) (6 : Int32))))] [(.ref b400)])) _
      refine Go.via (fun _ => XS.dup X400.here hx rfl (hb hby d2_76) rfl rfl) ?_
      refine Go.via (fun _ => XS.iconst X400.here hx rfl (hb hby d2_77)) ?_
      have k406 : Keep h0 h400 [] := ((Keep.refl h0 []).ext E400)
      have z407 : n0 ≤ h400.size := (Nat.le_trans Z0 E400.1)
      obtain ⟨T405, h405, k405, X405, e405, E405, A405, B405, st405⟩ := newPE X400 hx hZ (tw hw 21 rfl) e400 (g := (mkF m 78 #[.val (.long y), .second, .val (.int (19 : Int32)), .val (.int (6 : Int32)), .val (.int (1 : Int32)), .val (.int (0 : Int32)), .val (.int (fdF y (21 : Int32) (6 : Int32))), .val (.int (fdF y (27 : Int32) (6 : Int32))), .val (.int (b64F (fdF y (21 : Int32) (6 : Int32)))), .val (.int (b64F (fdF y (27 : Int32) (6 : Int32))))] [(.int (0 : Int32)), (.ref b400), (.ref b400)])) rfl (hb hby d2_78) rfl (by decide) (cap := 0) (by decide) (by decide) (by decide) (by decide) (ad := "[C") (by decide)
      obtain ⟨b405, g405⟩ : ∃ z, z = h400.size := ⟨_, rfl⟩
      rw [← g405] at A405 B405 st405
      have ne408 : b400 ≠ b405 := Nat.ne_of_lt (Nat.lt_of_lt_of_le A400.lt (Nat.le_of_eq g405.symm))
      have ge409 : n0 ≤ b405 := Nat.le_trans z407 (Nat.le_of_eq g405.symm)
      have sz410 : h0.size ≤ b405 := Nat.le_trans k406.1 (Nat.le_of_eq g405.symm)
      refine Go.via (st405) ?_
      clear st405
      have f411 : Ia Z h405 b405 .char [] := Ia.new A405 rfl
      clear X400 e400
      show Go p e below (T405.setTop (mkF m 80 #[.val (.long y), .second, .val (.int (19 : Int32)), .val (.int (6 : Int32)), .val (.int (1 : Int32)), .val (.int (0 : Int32)), .val (.int (fdF y (21 : Int32) (6 : Int32))), .val (.int (fdF y (27 : Int32) (6 : Int32))), .val (.int (b64F (fdF y (21 : Int32) (6 : Int32)))), .val (.int (b64F (fdF y (27 : Int32) (6 : Int32))))] [(.ref b405), (.ref b400), (.ref b400)])) _
      have f412 : Fld Z h405 b400 cST "coder" "B" (.int (0 : Int32)) := (f404.ext E405)
      have f413 : Fld Z h405 b400 cST "value" "[B" .null := (f403.ext E405)
      have f414 : Exa Z h405 b400 cST := (A400.ext E405)
      have o415 : Old Z n0 h405 := ((P0.ext E400).ext E405)
      have z417 : n0 ≤ h405.size := (Nat.le_trans z407 E405.1)
      have k418 : Keep h0 h405 [] := (k406.ext E405)
      have em419 : Em Z s.vm h405 ["signature 1", "signature 2", "digest", "name"] := (Em.keep0 I0 k418)
      have hk420 : _ ≤ h405.size := (Nat.le_trans (Nat.le_trans hk0 E400.1) E405.1)
      obtain ⟨r416, _, ⟨T416, L416, k416, n416⟩, -, X416, h2416, gS416, ⟨Lc416, hQ416, l416, y416, z416⟩, st416⟩ := X405.specialBackS hx (y := (⟨cST, "<init>", "([C)V"⟩ : MethodName)) rfl hown (mvT hZ (tw hw 22 rfl)) (mvT hZ (tw hw 23 rfl)) (mvT hZ (tw hw 24 rfl)) (by decide) (backOfV (W := 1) (V := V_rmI1_e0 Z b400 b405 h405) (rmI1_e0 l Z a0 hw [] b400 b405  h405 n0 z417 f412 f413 f414 f411 o415 ge401 hh7 hcw) hZ (tw hw 24 rfl) (tw hw 20 rfl) (by decide) (by decide) (fun vm' hW => ⟨Em.still em419 hW.interned_eq (w39 hW.wide), trivial⟩)) (g := (mkF m 80 #[.val (.long y), .second, .val (.int (19 : Int32)), .val (.int (6 : Int32)), .val (.int (1 : Int32)), .val (.int (0 : Int32)), .val (.int (fdF y (21 : Int32) (6 : Int32))), .val (.int (fdF y (27 : Int32) (6 : Int32))), .val (.int (b64F (fdF y (21 : Int32) (6 : Int32)))), .val (.int (b64F (fdF y (27 : Int32) (6 : Int32))))] [(.ref b405), (.ref b400), (.ref b400)])) rfl (by rw [hml]; rfl) (Steps.refl _) (a := b400) (argsL := [(.ref b405)]) (rest := [(.ref b400)]) (lenOf pd__28_5bC_29V rfl) rfl (by show 2 * 0 + _ ≤ _; exact Nat.le_of_eq rfl) (hb hby d2_80) (fun _ _ => ⟨rfl, e405, (by decide : 2 + 2 ≤ _), (by decide : 4 + 4 ≤ _)⟩)
      dsimp only [Pt.U, Pt.locs, Pt.cells, Pt.slots] at X416 l416 y416 z416 st416 hQ416 h2416 gS416
      rw [l416, y416, z416] at X416
      clear l416 y416 z416
      obtain ⟨v421, hr416, N416q, K416q, f422, f423, f424, f425, I416⟩ := hQ416
      rw [hr416] at st416
      clear hr416
      have N416 := Fr.app N0 N416q
      refine Go.via (fun _ kQ => st416.trans kQ) ?_
      clear st416
      have e416 : T416.heap = T416.heap := rfl
      have f426 : Exa Z T416.heap b400 cST := f422
      have f427 : Fld Z T416.heap b400 cST "coder" "B" (.int (0 : Int32)) := f423
      have f428 : Fld Z T416.heap b400 cST "value" "[B" (.ref v421) := f424
      have f429 : Ia Z T416.heap v421 .byte [] := f425
      have ne430 : v421 ≠ b400 := Ia.neE (a0 := a0) f429 f426 (tw hw 19 rfl)
      obtain ⟨X416r, hS416, hZ, hown⟩ := rebS hS0 (Nat.le_trans hk420 (Nat.le_of_eq (congrArg Array.size (Eq.symm e405)))) X416 h2416 gS416 hZ hown
      clear X416 h2416 gS416
      clear X405 e405
      show Go p e below (T416.setTop (mkF m 83 #[.val (.long y), .second, .val (.int (19 : Int32)), .val (.int (6 : Int32)), .val (.int (1 : Int32)), .val (.int (0 : Int32)), .val (.int (fdF y (21 : Int32) (6 : Int32))), .val (.int (fdF y (27 : Int32) (6 : Int32))), .val (.int (b64F (fdF y (21 : Int32) (6 : Int32)))), .val (.int (b64F (fdF y (27 : Int32) (6 : Int32))))] [(.ref b400)])) _
      have k431 : Keep h0 T416.heap [] := (k418.trans K416q (allS (Or.inr sz402) all0))
      exact Go.finW X416r hS416 (Nat.le_trans (Nat.le_refl _) (Nat.le_of_eq (congrArg Array.size (Eq.symm e416)))) hlk (v := some (.ref b400)) (fun h => by rw [Bd.returns] at h; cases h) (fun fs hr => retOut X416r hx Bd.returns rfl (Or.inr (Or.inr (Or.inr (Or.inr ⟨rfl, rfl, rfl⟩)))) (hb hby d2_83) hr) (by exact ⟨b400, v421, rfl, N416, k431, sz402, f426, f427, f428, (by unfold sgB; rw [own_sF0 (show lnA y (19 : Int32) = (0 : Int32) from hv_ln)]; exact f429), Em.still I416 X416r.warmed.interned_eq (w39 X416r.warmed.wide)⟩) (by decide) (by decide)
    · show Go p e below (T399.setTop (mkF m 68 #[.val (.long y), .second, .val (.int (19 : Int32)), .val (.int (6 : Int32)), .val (.int (1 : Int32)), .val (.int (1 : Int32)), .val (.int (fdF y (21 : Int32) (6 : Int32))), .val (.int (fdF y (27 : Int32) (6 : Int32))), .val (.int (b64F (fdF y (21 : Int32) (6 : Int32)))), .val (.int (b64F (fdF y (27 : Int32) (6 : Int32))))] [])) _
      refine Go.via (fun _ => XS.iload X399.here hx rfl (hb hby d2_68) rfl) ?_
      refine Go.via (fun _ => XS.ifYes X399.here hx rfl (pc0 := 70) (pc' := 84) rfl (hb hby d2_70) rfl ((if0 _ _).trans (feq ((by decide) : ¬ ((1 : Int32) = (0 : Int32)))).2) (by decide) (by decide)) ?_
      show Go p e below (T399.setTop (mkF m 84 #[.val (.long y), .second, .val (.int (19 : Int32)), .val (.int (6 : Int32)), .val (.int (1 : Int32)), .val (.int (1 : Int32)), .val (.int (fdF y (21 : Int32) (6 : Int32))), .val (.int (fdF y (27 : Int32) (6 : Int32))), .val (.int (b64F (fdF y (21 : Int32) (6 : Int32)))), .val (.int (b64F (fdF y (27 : Int32) (6 : Int32))))] [])) _
      refine Go.via (fun _ => XS.iload X399.here hx rfl (hb hby d2_84) rfl) ?_
      refine Go.via (fun _ => XS.iconst X399.here hx rfl (hb hby d2_86)) ?_
      refine Go.via (fun _ => XS.icmpNo X399.here hx rfl (hb hby d2_87) rfl (teq ((by decide) : (1 : Int32) = (1 : Int32))).2) ?_
      show Go p e below (T399.setTop (mkF m 90 #[.val (.long y), .second, .val (.int (19 : Int32)), .val (.int (6 : Int32)), .val (.int (1 : Int32)), .val (.int (1 : Int32)), .val (.int (fdF y (21 : Int32) (6 : Int32))), .val (.int (fdF y (27 : Int32) (6 : Int32))), .val (.int (b64F (fdF y (21 : Int32) (6 : Int32)))), .val (.int (b64F (fdF y (27 : Int32) (6 : Int32))))] [])) _
      obtain ⟨T432, h432, X432, e432, E432, A432, D432, -, st432⟩ := newO X399 hx hZ hown (tw hw 18 rfl) (tw hw 19 rfl) (tw hw 20 rfl) e399 (g := (mkF m 90 #[.val (.long y), .second, .val (.int (19 : Int32)), .val (.int (6 : Int32)), .val (.int (1 : Int32)), .val (.int (1 : Int32)), .val (.int (fdF y (21 : Int32) (6 : Int32))), .val (.int (fdF y (27 : Int32) (6 : Int32))), .val (.int (b64F (fdF y (21 : Int32) (6 : Int32)))), .val (.int (b64F (fdF y (27 : Int32) (6 : Int32))))] [])) rfl (hb hby d2_90) (by decide) (by decide)
      obtain ⟨b432, g432⟩ : ∃ z, z = h0.size := ⟨_, rfl⟩
      rw [← g432] at A432 D432 st432
      have ge433 : n0 ≤ b432 := Nat.le_trans Z0 (Nat.le_of_eq g432.symm)
      have sz434 : h0.size ≤ b432 := Nat.le_trans (Keep.refl h0 []).1 (Nat.le_of_eq g432.symm)
      refine Go.via (st432) ?_
      clear st432
      have f435 : Fld Z h432 b432 cST "value" "[B" .null := D432 (Or.inr (tw hw 34 rfl)) (ty := (.array .byte)) (by decide)
      have f436 : Fld Z h432 b432 cST "coder" "B" (.int (0 : Int32)) := D432 (Or.inr (tw hw 35 rfl)) (ty := .byte) (by decide)
      clear X399 e399
      show Go p e below (T432.setTop (mkF m 93 #[.val (.long y), .second, .val (.int (19 : Int32)), .val (.int (6 : Int32)), .val (.int (1 : Int32)), .val (.int (1 : Int32)), .val (.int (fdF y (21 : Int32) (6 : Int32))), .val (.int (fdF y (27 : Int32) (6 : Int32))), .val (.int (b64F (fdF y (21 : Int32) (6 : Int32)))), .val (.int (b64F (fdF y (27 : Int32) (6 : Int32))))] [(.ref b432)])) _
      refine Go.via (fun _ => XS.dup X432.here hx rfl (hb hby d2_93) rfl rfl) ?_
      refine Go.via (fun _ => XS.iconst X432.here hx rfl (hb hby d2_94)) ?_
      have k438 : Keep h0 h432 [] := ((Keep.refl h0 []).ext E432)
      have z439 : n0 ≤ h432.size := (Nat.le_trans Z0 E432.1)
      obtain ⟨T437, h437, k437, X437, e437, E437, A437, B437, st437⟩ := newPE X432 hx hZ (tw hw 21 rfl) e432 (g := (mkF m 95 #[.val (.long y), .second, .val (.int (19 : Int32)), .val (.int (6 : Int32)), .val (.int (1 : Int32)), .val (.int (1 : Int32)), .val (.int (fdF y (21 : Int32) (6 : Int32))), .val (.int (fdF y (27 : Int32) (6 : Int32))), .val (.int (b64F (fdF y (21 : Int32) (6 : Int32)))), .val (.int (b64F (fdF y (27 : Int32) (6 : Int32))))] [(.int (1 : Int32)), (.ref b432), (.ref b432)])) rfl (hb hby d2_95) rfl (by decide) (cap := 1) (by decide) (by decide) (by decide) (by decide) (ad := "[C") (by decide)
      obtain ⟨b437, g437⟩ : ∃ z, z = h432.size := ⟨_, rfl⟩
      rw [← g437] at A437 B437 st437
      have ne440 : b432 ≠ b437 := Nat.ne_of_lt (Nat.lt_of_lt_of_le A432.lt (Nat.le_of_eq g437.symm))
      have ge441 : n0 ≤ b437 := Nat.le_trans z439 (Nat.le_of_eq g437.symm)
      have sz442 : h0.size ≤ b437 := Nat.le_trans k438.1 (Nat.le_of_eq g437.symm)
      refine Go.via (st437) ?_
      clear st437
      have f443 : Ia Z h437 b437 .char [(0 : Int32)] := Ia.new A437 rfl
      clear X432 e432
      show Go p e below (T437.setTop (mkF m 97 #[.val (.long y), .second, .val (.int (19 : Int32)), .val (.int (6 : Int32)), .val (.int (1 : Int32)), .val (.int (1 : Int32)), .val (.int (fdF y (21 : Int32) (6 : Int32))), .val (.int (fdF y (27 : Int32) (6 : Int32))), .val (.int (b64F (fdF y (21 : Int32) (6 : Int32)))), .val (.int (b64F (fdF y (27 : Int32) (6 : Int32))))] [(.ref b437), (.ref b432), (.ref b432)])) _
      refine Go.via (fun _ => XS.dup X437.here hx rfl (hb hby d2_97) rfl rfl) ?_
      refine Go.via (fun _ => XS.iconst X437.here hx rfl (hb hby d2_98)) ?_
      refine Go.via (fun _ => XS.iload X437.here hx rfl (hb hby d2_99) rfl) ?_
      obtain ⟨T444, h444, X444, e444, W444, V444, st444⟩ := stC' X437 hx hZ e437 f443 (j := (0 : Int32)) (by decide) (by first | decide | (simp only [List.length_cons, List.length_nil]; decide) | rfl) (g := (mkF m 101 #[.val (.long y), .second, .val (.int (19 : Int32)), .val (.int (6 : Int32)), .val (.int (1 : Int32)), .val (.int (1 : Int32)), .val (.int (fdF y (21 : Int32) (6 : Int32))), .val (.int (fdF y (27 : Int32) (6 : Int32))), .val (.int (b64F (fdF y (21 : Int32) (6 : Int32)))), .val (.int (b64F (fdF y (27 : Int32) (6 : Int32))))] [(.int (b64F (fdF y (21 : Int32) (6 : Int32)))), (.int (0 : Int32)), (.ref b437), (.ref b437), (.ref b432), (.ref b432)])) rfl rfl (hb hby d2_101)
      refine Go.via (st444) ?_
      clear st444
      have N444 := Fr.snoc X444 N0 ge441
      have f445 : Ia Z h444 b437 .char [(nar .char (b64F (fdF y (21 : Int32) (6 : Int32))))] := V444
      clear X437 e437
      show Go p e below (T444.setTop (mkF m 102 #[.val (.long y), .second, .val (.int (19 : Int32)), .val (.int (6 : Int32)), .val (.int (1 : Int32)), .val (.int (1 : Int32)), .val (.int (fdF y (21 : Int32) (6 : Int32))), .val (.int (fdF y (27 : Int32) (6 : Int32))), .val (.int (b64F (fdF y (21 : Int32) (6 : Int32)))), .val (.int (b64F (fdF y (27 : Int32) (6 : Int32))))] [(.ref b437), (.ref b432), (.ref b432)])) _
      have f446 : Fld Z h444 b432 cST "coder" "B" (.int (0 : Int32)) := ((f436.ext E437).other W444 (Or.inl ne440))
      have f447 : Fld Z h444 b432 cST "value" "[B" .null := ((f435.ext E437).other W444 (Or.inl ne440))
      have f448 : Exa Z h444 b432 cST := ((A432.ext E437).wr W444)
      have o449 : Old Z n0 h444 := (((P0.ext E432).ext E437).wr W444 ge441)
      have z451 : n0 ≤ h444.size := (Nat.le_trans (Nat.le_trans z439 E437.1) (Keep.of_wr W444).1)
      obtain ⟨r450, _, ⟨T450, L450, k450, n450⟩, -, X450, ⟨Lc450, hQ450, l450, y450, z450⟩, st450⟩ := X444.specialBack hx (y := (⟨cST, "<init>", "([C)V"⟩ : MethodName)) rfl hown (mvT hZ (tw hw 22 rfl)) (mvT hZ (tw hw 23 rfl)) (mvT hZ (tw hw 24 rfl)) (by decide) (backOf (W := 1) (rmI1_1 l Z a0 hw [] b432 b437 (nar .char (b64F (fdF y (21 : Int32) (6 : Int32)))) cs h444 n0 z451 f446 f447 f448 f445 o449 zCS ge433 ne440 hcs (own_le _ (own_m6 y (21 : Int32)))) hZ (tw hw 24 rfl) (tw hw 20 rfl) (by decide) (by decide)) (g := (mkF m 102 #[.val (.long y), .second, .val (.int (19 : Int32)), .val (.int (6 : Int32)), .val (.int (1 : Int32)), .val (.int (1 : Int32)), .val (.int (fdF y (21 : Int32) (6 : Int32))), .val (.int (fdF y (27 : Int32) (6 : Int32))), .val (.int (b64F (fdF y (21 : Int32) (6 : Int32)))), .val (.int (b64F (fdF y (27 : Int32) (6 : Int32))))] [(.ref b437), (.ref b432), (.ref b432)])) rfl (by rw [hml]; rfl) (Steps.refl _) (a := b432) (argsL := [(.ref b437)]) (rest := [(.ref b432)]) (lenOf pd__28_5bC_29V rfl) rfl (by show 2 * 0 + _ ≤ _; exact Nat.le_of_eq rfl) (hb hby d2_102) (fun _ _ => ⟨rfl, e444, (by decide : 2 + 1 ≤ _), (by decide : 5 + 1 ≤ _)⟩)
      dsimp only [Pt.U, Pt.locs, Pt.cells, Pt.slots] at X450 l450 y450 z450 st450 hQ450
      rw [l450, y450, z450] at X450
      clear l450 y450 z450
      obtain ⟨b452, hr450, N450q, K450q, fz_b452, f453, f454, f455, f456⟩ := hQ450
      rw [hr450] at st450
      clear hr450
      have N450 := Fr.app N444 N450q
      refine Go.via (fun _ kQ => st450.trans kQ) ?_
      clear st450
      have ne457 : b432 ≠ b452 := Nat.ne_of_lt (Nat.lt_of_lt_of_le f448.lt fz_b452)
      have ne458 : b437 ≠ b452 := Nat.ne_of_lt (Nat.lt_of_lt_of_le f445.lt fz_b452)
      have ge459 : n0 ≤ b452 := Nat.le_trans z451 fz_b452
      have k461 : Keep h0 h444 [] := ((k438.ext E437).wr W444 (Or.inr sz442))
      have sz460 : h0.size ≤ b452 := Nat.le_trans k461.1 fz_b452
      have e450 : T450.heap = T450.heap := rfl
      have f462 : Exa Z T450.heap b432 cST := f453
      have f463 : Fld Z T450.heap b432 cST "coder" "B" (.int (0 : Int32)) := f454
      have f464 : Fld Z T450.heap b432 cST "value" "[B" (.ref b452) := f455
      have f465 : Ia Z T450.heap b452 .byte [(nar .byte ((nar .char (b64F (fdF y (21 : Int32) (6 : Int32)))).toInt8.toInt32))] := f456
      clear X444 e444
      show Go p e below (T450.setTop (mkF m 105 #[.val (.long y), .second, .val (.int (19 : Int32)), .val (.int (6 : Int32)), .val (.int (1 : Int32)), .val (.int (1 : Int32)), .val (.int (fdF y (21 : Int32) (6 : Int32))), .val (.int (fdF y (27 : Int32) (6 : Int32))), .val (.int (b64F (fdF y (21 : Int32) (6 : Int32)))), .val (.int (b64F (fdF y (27 : Int32) (6 : Int32))))] [(.ref b432)])) _
      have k466 : Keep h0 T450.heap [] := (k461.trans K450q (allS (Or.inr sz434) all0))
      have em467 : Em Z s.vm T450.heap ["signature 1", "signature 2", "digest", "name"] := (Em.keep0 I0 k466)
      have hk468 : _ ≤ T450.heap.size := (Nat.le_trans (Nat.le_trans (Nat.le_trans (Nat.le_trans hk0 E432.1) E437.1) (Keep.of_wr W444).1) K450q.1)
      exact Go.finW X450 hS0 (Nat.le_trans hk468 (Nat.le_of_eq (congrArg Array.size (Eq.symm e450)))) hlk (v := some (.ref b432)) (fun h => by rw [Bd.returns] at h; cases h) (fun fs hr => retOut X450 hx Bd.returns rfl (Or.inr (Or.inr (Or.inr (Or.inr ⟨rfl, rfl, rfl⟩)))) (hb hby d2_105) hr) (by exact ⟨b432, b452, rfl, N450, k466, sz434, f462, f463, f464, (by unfold sgB; rw [own_sF1 (show lnA y (19 : Int32) = (1 : Int32) from hv_ln)]; exact own_ia1 f465 (own_m6 y (21 : Int32))), Em.still em467 X450.warmed.interned_eq (w39 X450.warmed.wide)⟩) (by decide) (by decide)
    · show Go p e below (T399.setTop (mkF m 68 #[.val (.long y), .second, .val (.int (19 : Int32)), .val (.int (6 : Int32)), .val (.int (1 : Int32)), .val (.int (2 : Int32)), .val (.int (fdF y (21 : Int32) (6 : Int32))), .val (.int (fdF y (27 : Int32) (6 : Int32))), .val (.int (b64F (fdF y (21 : Int32) (6 : Int32)))), .val (.int (b64F (fdF y (27 : Int32) (6 : Int32))))] [])) _
      refine Go.via (fun _ => XS.iload X399.here hx rfl (hb hby d2_68) rfl) ?_
      refine Go.via (fun _ => XS.ifYes X399.here hx rfl (pc0 := 70) (pc' := 84) rfl (hb hby d2_70) rfl ((if0 _ _).trans (feq ((by decide) : ¬ ((2 : Int32) = (0 : Int32)))).2) (by decide) (by decide)) ?_
      show Go p e below (T399.setTop (mkF m 84 #[.val (.long y), .second, .val (.int (19 : Int32)), .val (.int (6 : Int32)), .val (.int (1 : Int32)), .val (.int (2 : Int32)), .val (.int (fdF y (21 : Int32) (6 : Int32))), .val (.int (fdF y (27 : Int32) (6 : Int32))), .val (.int (b64F (fdF y (21 : Int32) (6 : Int32)))), .val (.int (b64F (fdF y (27 : Int32) (6 : Int32))))] [])) _
      refine Go.via (fun _ => XS.iload X399.here hx rfl (hb hby d2_84) rfl) ?_
      refine Go.via (fun _ => XS.iconst X399.here hx rfl (hb hby d2_86)) ?_
      refine Go.via (fun _ => XS.icmpYes X399.here hx rfl (pc0 := 87) (pc' := 106) rfl (hb hby d2_87) rfl (feq ((by decide) : ¬ ((2 : Int32) = (1 : Int32)))).2 (by decide) (by decide)) ?_
      show Go p e below (T399.setTop (mkF m 106 #[.val (.long y), .second, .val (.int (19 : Int32)), .val (.int (6 : Int32)), .val (.int (1 : Int32)), .val (.int (2 : Int32)), .val (.int (fdF y (21 : Int32) (6 : Int32))), .val (.int (fdF y (27 : Int32) (6 : Int32))), .val (.int (b64F (fdF y (21 : Int32) (6 : Int32)))), .val (.int (b64F (fdF y (27 : Int32) (6 : Int32))))] [])) _
      obtain ⟨T469, h469, X469, e469, E469, A469, D469, -, st469⟩ := newO X399 hx hZ hown (tw hw 18 rfl) (tw hw 19 rfl) (tw hw 20 rfl) e399 (g := (mkF m 106 #[.val (.long y), .second, .val (.int (19 : Int32)), .val (.int (6 : Int32)), .val (.int (1 : Int32)), .val (.int (2 : Int32)), .val (.int (fdF y (21 : Int32) (6 : Int32))), .val (.int (fdF y (27 : Int32) (6 : Int32))), .val (.int (b64F (fdF y (21 : Int32) (6 : Int32)))), .val (.int (b64F (fdF y (27 : Int32) (6 : Int32))))] [])) rfl (hb hby d2_106) (by decide) (by decide)
      obtain ⟨b469, g469⟩ : ∃ z, z = h0.size := ⟨_, rfl⟩
      rw [← g469] at A469 D469 st469
      have ge470 : n0 ≤ b469 := Nat.le_trans Z0 (Nat.le_of_eq g469.symm)
      have sz471 : h0.size ≤ b469 := Nat.le_trans (Keep.refl h0 []).1 (Nat.le_of_eq g469.symm)
      refine Go.via (st469) ?_
      clear st469
      have f472 : Fld Z h469 b469 cST "value" "[B" .null := D469 (Or.inr (tw hw 34 rfl)) (ty := (.array .byte)) (by decide)
      have f473 : Fld Z h469 b469 cST "coder" "B" (.int (0 : Int32)) := D469 (Or.inr (tw hw 35 rfl)) (ty := .byte) (by decide)
      clear X399 e399
      show Go p e below (T469.setTop (mkF m 109 #[.val (.long y), .second, .val (.int (19 : Int32)), .val (.int (6 : Int32)), .val (.int (1 : Int32)), .val (.int (2 : Int32)), .val (.int (fdF y (21 : Int32) (6 : Int32))), .val (.int (fdF y (27 : Int32) (6 : Int32))), .val (.int (b64F (fdF y (21 : Int32) (6 : Int32)))), .val (.int (b64F (fdF y (27 : Int32) (6 : Int32))))] [(.ref b469)])) _
      refine Go.via (fun _ => XS.dup X469.here hx rfl (hb hby d2_109) rfl rfl) ?_
      refine Go.via (fun _ => XS.iconst X469.here hx rfl (hb hby d2_110)) ?_
      have k475 : Keep h0 h469 [] := ((Keep.refl h0 []).ext E469)
      have z476 : n0 ≤ h469.size := (Nat.le_trans Z0 E469.1)
      obtain ⟨T474, h474, k474, X474, e474, E474, A474, B474, st474⟩ := newPE X469 hx hZ (tw hw 21 rfl) e469 (g := (mkF m 111 #[.val (.long y), .second, .val (.int (19 : Int32)), .val (.int (6 : Int32)), .val (.int (1 : Int32)), .val (.int (2 : Int32)), .val (.int (fdF y (21 : Int32) (6 : Int32))), .val (.int (fdF y (27 : Int32) (6 : Int32))), .val (.int (b64F (fdF y (21 : Int32) (6 : Int32)))), .val (.int (b64F (fdF y (27 : Int32) (6 : Int32))))] [(.int (2 : Int32)), (.ref b469), (.ref b469)])) rfl (hb hby d2_111) rfl (by decide) (cap := 2) (by decide) (by decide) (by decide) (by decide) (ad := "[C") (by decide)
      obtain ⟨b474, g474⟩ : ∃ z, z = h469.size := ⟨_, rfl⟩
      rw [← g474] at A474 B474 st474
      have ne477 : b469 ≠ b474 := Nat.ne_of_lt (Nat.lt_of_lt_of_le A469.lt (Nat.le_of_eq g474.symm))
      have ge478 : n0 ≤ b474 := Nat.le_trans z476 (Nat.le_of_eq g474.symm)
      have sz479 : h0.size ≤ b474 := Nat.le_trans k475.1 (Nat.le_of_eq g474.symm)
      refine Go.via (st474) ?_
      clear st474
      have f480 : Ia Z h474 b474 .char [(0 : Int32), (0 : Int32)] := Ia.new A474 rfl
      clear X469 e469
      show Go p e below (T474.setTop (mkF m 113 #[.val (.long y), .second, .val (.int (19 : Int32)), .val (.int (6 : Int32)), .val (.int (1 : Int32)), .val (.int (2 : Int32)), .val (.int (fdF y (21 : Int32) (6 : Int32))), .val (.int (fdF y (27 : Int32) (6 : Int32))), .val (.int (b64F (fdF y (21 : Int32) (6 : Int32)))), .val (.int (b64F (fdF y (27 : Int32) (6 : Int32))))] [(.ref b474), (.ref b469), (.ref b469)])) _
      refine Go.via (fun _ => XS.dup X474.here hx rfl (hb hby d2_113) rfl rfl) ?_
      refine Go.via (fun _ => XS.iconst X474.here hx rfl (hb hby d2_114)) ?_
      refine Go.via (fun _ => XS.iload X474.here hx rfl (hb hby d2_115) rfl) ?_
      obtain ⟨T481, h481, X481, e481, W481, V481, st481⟩ := stC' X474 hx hZ e474 f480 (j := (0 : Int32)) (by decide) (by first | decide | (simp only [List.length_cons, List.length_nil]; decide) | rfl) (g := (mkF m 117 #[.val (.long y), .second, .val (.int (19 : Int32)), .val (.int (6 : Int32)), .val (.int (1 : Int32)), .val (.int (2 : Int32)), .val (.int (fdF y (21 : Int32) (6 : Int32))), .val (.int (fdF y (27 : Int32) (6 : Int32))), .val (.int (b64F (fdF y (21 : Int32) (6 : Int32)))), .val (.int (b64F (fdF y (27 : Int32) (6 : Int32))))] [(.int (b64F (fdF y (21 : Int32) (6 : Int32)))), (.int (0 : Int32)), (.ref b474), (.ref b474), (.ref b469), (.ref b469)])) rfl rfl (hb hby d2_117)
      refine Go.via (st481) ?_
      clear st481
      have N481 := Fr.snoc X481 N0 ge478
      have f482 : Ia Z h481 b474 .char [(nar .char (b64F (fdF y (21 : Int32) (6 : Int32)))), (0 : Int32)] := V481
      clear X474 e474
      show Go p e below (T481.setTop (mkF m 118 #[.val (.long y), .second, .val (.int (19 : Int32)), .val (.int (6 : Int32)), .val (.int (1 : Int32)), .val (.int (2 : Int32)), .val (.int (fdF y (21 : Int32) (6 : Int32))), .val (.int (fdF y (27 : Int32) (6 : Int32))), .val (.int (b64F (fdF y (21 : Int32) (6 : Int32)))), .val (.int (b64F (fdF y (27 : Int32) (6 : Int32))))] [(.ref b474), (.ref b469), (.ref b469)])) _
      refine Go.via (fun _ => XS.dup X481.here hx rfl (hb hby d2_118) rfl rfl) ?_
      refine Go.via (fun _ => XS.iconst X481.here hx rfl (hb hby d2_119)) ?_
      refine Go.via (fun _ => XS.iload X481.here hx rfl (hb hby d2_120) rfl) ?_
      obtain ⟨T483, h483, X483, e483, W483, V483, st483⟩ := stC' X481 hx hZ e481 f482 (j := (1 : Int32)) (by decide) (by first | decide | (simp only [List.length_cons, List.length_nil]; decide) | rfl) (g := (mkF m 122 #[.val (.long y), .second, .val (.int (19 : Int32)), .val (.int (6 : Int32)), .val (.int (1 : Int32)), .val (.int (2 : Int32)), .val (.int (fdF y (21 : Int32) (6 : Int32))), .val (.int (fdF y (27 : Int32) (6 : Int32))), .val (.int (b64F (fdF y (21 : Int32) (6 : Int32)))), .val (.int (b64F (fdF y (27 : Int32) (6 : Int32))))] [(.int (b64F (fdF y (27 : Int32) (6 : Int32)))), (.int (1 : Int32)), (.ref b474), (.ref b474), (.ref b469), (.ref b469)])) rfl rfl (hb hby d2_122)
      refine Go.via (st483) ?_
      clear st483
      have N483 := Fr.snoc X483 N481 ge478
      have f484 : Ia Z h483 b474 .char [(nar .char (b64F (fdF y (21 : Int32) (6 : Int32)))), (nar .char (b64F (fdF y (27 : Int32) (6 : Int32))))] := V483
      clear X481 e481
      show Go p e below (T483.setTop (mkF m 123 #[.val (.long y), .second, .val (.int (19 : Int32)), .val (.int (6 : Int32)), .val (.int (1 : Int32)), .val (.int (2 : Int32)), .val (.int (fdF y (21 : Int32) (6 : Int32))), .val (.int (fdF y (27 : Int32) (6 : Int32))), .val (.int (b64F (fdF y (21 : Int32) (6 : Int32)))), .val (.int (b64F (fdF y (27 : Int32) (6 : Int32))))] [(.ref b474), (.ref b469), (.ref b469)])) _
      have f485 : Fld Z h483 b469 cST "coder" "B" (.int (0 : Int32)) := (((f473.ext E474).other W481 (Or.inl ne477)).other W483 (Or.inl ne477))
      have f486 : Fld Z h483 b469 cST "value" "[B" .null := (((f472.ext E474).other W481 (Or.inl ne477)).other W483 (Or.inl ne477))
      have f487 : Exa Z h483 b469 cST := (((A469.ext E474).wr W481).wr W483)
      have o488 : Old Z n0 h483 := ((((P0.ext E469).ext E474).wr W481 ge478).wr W483 ge478)
      have z490 : n0 ≤ h483.size := (Nat.le_trans (Nat.le_trans (Nat.le_trans z476 E474.1) (Keep.of_wr W481).1) (Keep.of_wr W483).1)
      obtain ⟨r489, _, ⟨T489, L489, k489, n489⟩, -, X489, ⟨Lc489, hQ489, l489, y489, z489⟩, st489⟩ := X483.specialBack hx (y := (⟨cST, "<init>", "([C)V"⟩ : MethodName)) rfl hown (mvT hZ (tw hw 22 rfl)) (mvT hZ (tw hw 23 rfl)) (mvT hZ (tw hw 24 rfl)) (by decide) (backOf (W := 1) (rmI1_2 l Z a0 hw [] b469 b474 (nar .char (b64F (fdF y (21 : Int32) (6 : Int32)))) (nar .char (b64F (fdF y (27 : Int32) (6 : Int32)))) cs h483 n0 z490 f485 f486 f487 f484 o488 zCS ge470 ne477 hcs (own_le _ (own_m6 y (21 : Int32))) (own_le _ (own_m6 y (27 : Int32)))) hZ (tw hw 24 rfl) (tw hw 20 rfl) (by decide) (by decide)) (g := (mkF m 123 #[.val (.long y), .second, .val (.int (19 : Int32)), .val (.int (6 : Int32)), .val (.int (1 : Int32)), .val (.int (2 : Int32)), .val (.int (fdF y (21 : Int32) (6 : Int32))), .val (.int (fdF y (27 : Int32) (6 : Int32))), .val (.int (b64F (fdF y (21 : Int32) (6 : Int32)))), .val (.int (b64F (fdF y (27 : Int32) (6 : Int32))))] [(.ref b474), (.ref b469), (.ref b469)])) rfl (by rw [hml]; rfl) (Steps.refl _) (a := b469) (argsL := [(.ref b474)]) (rest := [(.ref b469)]) (lenOf pd__28_5bC_29V rfl) rfl (by show 2 * 0 + _ ≤ _; exact Nat.le_of_eq rfl) (hb hby d2_123) (fun _ _ => ⟨rfl, e483, (by decide : 2 + 1 ≤ _), (by decide : 6 + 2 ≤ _)⟩)
      dsimp only [Pt.U, Pt.locs, Pt.cells, Pt.slots] at X489 l489 y489 z489 st489 hQ489
      rw [l489, y489, z489] at X489
      clear l489 y489 z489
      obtain ⟨b491, hr489, N489q, K489q, fz_b491, f492, f493, f494, f495⟩ := hQ489
      rw [hr489] at st489
      clear hr489
      have N489 := Fr.app N483 N489q
      refine Go.via (fun _ kQ => st489.trans kQ) ?_
      clear st489
      have ne496 : b469 ≠ b491 := Nat.ne_of_lt (Nat.lt_of_lt_of_le f487.lt fz_b491)
      have ne497 : b474 ≠ b491 := Nat.ne_of_lt (Nat.lt_of_lt_of_le f484.lt fz_b491)
      have ge498 : n0 ≤ b491 := Nat.le_trans z490 fz_b491
      have k500 : Keep h0 h483 [] := (((k475.ext E474).wr W481 (Or.inr sz479)).wr W483 (Or.inr sz479))
      have sz499 : h0.size ≤ b491 := Nat.le_trans k500.1 fz_b491
      have e489 : T489.heap = T489.heap := rfl
      have f501 : Exa Z T489.heap b469 cST := f492
      have f502 : Fld Z T489.heap b469 cST "coder" "B" (.int (0 : Int32)) := f493
      have f503 : Fld Z T489.heap b469 cST "value" "[B" (.ref b491) := f494
      have f504 : Ia Z T489.heap b491 .byte [(nar .byte ((nar .char (b64F (fdF y (21 : Int32) (6 : Int32)))).toInt8.toInt32)), (nar .byte ((nar .char (b64F (fdF y (27 : Int32) (6 : Int32)))).toInt8.toInt32))] := f495
      clear X483 e483
      show Go p e below (T489.setTop (mkF m 126 #[.val (.long y), .second, .val (.int (19 : Int32)), .val (.int (6 : Int32)), .val (.int (1 : Int32)), .val (.int (2 : Int32)), .val (.int (fdF y (21 : Int32) (6 : Int32))), .val (.int (fdF y (27 : Int32) (6 : Int32))), .val (.int (b64F (fdF y (21 : Int32) (6 : Int32)))), .val (.int (b64F (fdF y (27 : Int32) (6 : Int32))))] [(.ref b469)])) _
      have k505 : Keep h0 T489.heap [] := (k500.trans K489q (allS (Or.inr sz471) all0))
      have em506 : Em Z s.vm T489.heap ["signature 1", "signature 2", "digest", "name"] := (Em.keep0 I0 k505)
      have hk507 : _ ≤ T489.heap.size := (Nat.le_trans (Nat.le_trans (Nat.le_trans (Nat.le_trans (Nat.le_trans hk0 E469.1) E474.1) (Keep.of_wr W481).1) (Keep.of_wr W483).1) K489q.1)
      exact Go.finW X489 hS0 (Nat.le_trans hk507 (Nat.le_of_eq (congrArg Array.size (Eq.symm e489)))) hlk (v := some (.ref b469)) (fun h => by rw [Bd.returns] at h; cases h) (fun fs hr => retOut X489 hx Bd.returns rfl (Or.inr (Or.inr (Or.inr (Or.inr ⟨rfl, rfl, rfl⟩)))) (hb hby d2_126) hr) (by exact ⟨b469, b491, rfl, N489, k505, sz471, f501, f502, f503, (by unfold sgB; rw [own_sF2 (show lnA y (19 : Int32) = (2 : Int32) from hv_ln)]; exact own_ia2 f504 (own_m6 y (21 : Int32)) (own_m6 y (27 : Int32))), Em.still em506 X489.warmed.interned_eq (w39 X489.warmed.wide)⟩) (by decide) (by decide)
theorem d2_45 : decode method_7_code 45 = .ok (.iload 6, 2) := by decide +kernel
theorem d2_47 : decode method_7_code 47 = .ok (.i2c, 1) := by decide +kernel
theorem d2_63 : decode method_7_code 63 = .ok (.iload 7, 2) := by decide +kernel
theorem d2_65 : decode method_7_code 65 = .ok (.i2c, 1) := by decide +kernel
def Q_rmStnmF (Z : State) (y : Int64) (ap : Int32) (wd : Int32) (bq : Int32) (cs : Int32) (h0 : Heap) (n0 : Nat) (vQ : Option Value) (hQ : Heap) (vmQ : Vm) (LQ : List Loc) : Prop := ∃ r : Addr, ∃ b_ : Addr, vQ = some (.ref r) ∧ Fr n0 LQ ∧ Keep h0 hQ [] ∧ h0.size ≤ r ∧ Exa Z hQ r cST ∧ Fld Z hQ r cST "coder" "B" (.int (0 : Int32)) ∧ Fld Z hQ r cST "value" "[B" (.ref b_) ∧ Ia Z hQ b_ .byte (nmF y) ∧ Em Z vmQ hQ ["signature 1", "signature 2", "digest", "name"]
def V_rmStnmF (Z : State) (y : Int64) (ap : Int32) (wd : Int32) (bq : Int32) (cs : Int32) (h0 : Heap) (vmV : Vm) : Prop := Em Z vmV h0 ["signature 1", "signature 2", "digest", "name"] ∧ True
set_option maxRecDepth 65536 in
set_option maxHeartbeats 40000000 in
theorem rmStnmF (l : Launch) (Z : State) (a0 : Array Value) (hw : ∀ d ∈ tables_1, d.before a0 Z = true) (ws : List Jvm.Cond) (y : Int64) (ap : Int32) (wd : Int32) (bq : Int32) (cs : Int32) (h0 : Heap) (n0 : Nat) (Z0 : n0 ≤ h0.size) (P0 : Old Z n0 h0) (zCS : Sta Z Z.heap cST "COMPACT_STRINGS" "Z" (.int cs)) (hcs : ¬ (cs = (0 : Int32))) (hh7 : Jvm.Lit.constHeld Z cST 7) (hcw : Jvm.Lit.compactW.before a0 Z = true) (ha : ap = 33) (hd : wd = 8) (hb_ : bq = 0) :
    MetFree l (⟨cLAW, "str", "(JIIZ)Ljava/lang/String;"⟩ : MethodName) (head1 (Jvm.Cond.code (⟨cLAW, "str", "(JIIZ)Ljava/lang/String;"⟩ : MethodName) method_7_code 10 (some (.object cST)) :: ws) ({ frames := 4, cells := 4, slots := 8, locals := 66 } : Room)) (fun aQ UQ => aQ = #[(.long y), (.int ap), (.int wd), (.int bq)] ∧ Z.Warmed39 UQ.vm ∧ UQ.heap = h0 ∧ V_rmStnmF Z y ap wd bq cs h0 UQ.vm) (fun _ _ _ _ _ => True) (fun _ UQ oQ UR => ∃ vQ LQ, oQ = .returned vQ ∧ Q_rmStnmF Z y ap wd bq cs h0 n0 vQ UR.heap UR.vm LQ ∧ ReturnedEndW UQ oQ UR LQ ({ frames := 4, cells := 4, slots := 8, locals := 66 } : Room).cells ({ frames := 4, cells := 4, slots := 8, locals := 66 } : Room).slots) := by
  refine MetFree.of_bodySF (plainFor_of_name pn_2) hisR ?_
  intro p e s m args below meth c s₁ Bd hml0 hP hK
  obtain ⟨rfl, hZ0, hh, hV⟩ := hP
  obtain ⟨I0, -⟩ := hV
  have hx := Bd.exec
  have hby := Bd.bytes
  have hlk := Bd.notSynchronized
  have hml : c.maxLocals = 10 := hml0
  have hnm := (name_of_methodNamed Bd.named Bd.method).1
  have e0 : s₁.heap = h0 := by rw [← hh, Bd.state]; rfl
  have N0 := Fr.nil n0
  have hZ : Z.Warmed39 (s.setVm s.vm).vm := hZ0
  have hown : (s.setVm s.vm).vm.findClass cLAW = some m.cls := findClass_of_methodNamed Bd.named
  have X0 : Stand p l e ({ frames := 4, cells := 4, slots := 8, locals := 66 } : Room) (s.setVm s.vm) m #[(.long y), (.int ap), (.int wd), (.int bq)] below meth c s₁ [] 0 0 := Stand.of_body Bd
  have hS0 : s.Since s.vm s.heap.size := (State.WarmedH.refl _).since _
  have hk0 : s.heap.size ≤ h0.size := Nat.le_of_eq (congrArg Array.size hh)
  show Go p e below _ (DoneW s (Q_rmStnmF Z y ap wd bq cs h0 n0) ({ frames := 4, cells := 4, slots := 8, locals := 66 } : Room).cells ({ frames := 4, cells := 4, slots := 8, locals := 66 } : Room).slots)
  refine Go.via (fun tQ kQ => castTop (ef_2 m y ap wd bq) kQ) ?_
  show Go p e below (s₁.setTop (mkF m 0 #[.val (.long y), .second, .val (.int ap), .val (.int wd), .val (.int bq), .unset, .unset, .unset, .unset, .unset] [])) _
  · subst ha hd hb_
    show Go p e below (s₁.setTop (mkF m 0 #[.val (.long y), .second, .val (.int (33 : Int32)), .val (.int (8 : Int32)), .val (.int (0 : Int32)), .unset, .unset, .unset, .unset, .unset] [])) _
    refine Go.via (fun _ => XS.lloadN X0.here hx rfl (hb hby d2_0) rfl) ?_
    refine Go.via (fun _ => XS.iloadN X0.here hx rfl (hb hby d2_1) rfl) ?_
    refine Go.via (fun _ => XS.iconst X0.here hx rfl (hb hby d2_2)) ?_
    obtain ⟨r508, _, ⟨T508, L508, k508, n508⟩, -, X508, ⟨Lc508, hQ508, l508, y508, z508⟩, st508⟩ := Jvm.LawKit.callS X0 hx (y := (⟨cLAW, "field", "(JII)I"⟩ : MethodName)) hown (mvT hZ (tw hw 12 rfl)) (mvT hZ (tw hw 13 rfl)) (mvT hZ (tw hw 6 rfl)) (mvT hZ (tw hw 14 rfl)) (by decide) (backOf (W := 0) (rmFd l Z a0 hw [] y (33 : Int32) (2 : Int32)  h0 n0 Z0) hZ (tw hw 14 rfl) (tw hw 6 rfl) (by decide) (by decide)) (g := (mkF m 3 #[.val (.long y), .second, .val (.int (33 : Int32)), .val (.int (8 : Int32)), .val (.int (0 : Int32)), .unset, .unset, .unset, .unset, .unset] [(.int (2 : Int32)), (.int (33 : Int32)), (.long y)])) rfl (by rw [hml]; rfl) (argsL := [(.long y), (.int (33 : Int32)), (.int (2 : Int32))]) (rest := []) (lenOf pd__28JII_29I rfl) rfl (by show 2 * 0 + _ ≤ _; exact Nat.le_of_eq rfl) (hb hby d2_3) (fun _ _ => ⟨rfl, e0, (by decide : 0 + 0 ≤ _), (by decide : 0 + 0 ≤ _)⟩)
    dsimp only [Pt.U, Pt.locs, Pt.cells, Pt.slots] at X508 l508 y508 z508 st508 hQ508
    rw [l508, y508, z508] at X508
    clear l508 y508 z508
    obtain ⟨hr508, N508q, eh508⟩ := hQ508
    rw [hr508] at st508
    clear hr508
    rw [N508q, List.append_nil] at X508
    refine Go.via (st508) ?_
    clear st508
    have e508 : T508.heap = h0 := eh508
    clear X0 e0
    show Go p e below (T508.setTop (mkF m 6 #[.val (.long y), .second, .val (.int (33 : Int32)), .val (.int (8 : Int32)), .val (.int (0 : Int32)), .unset, .unset, .unset, .unset, .unset] [(.int (fdF y (33 : Int32) (2 : Int32)))])) _
    refine Go.via (fun _ => XS.iconst X508.here hx rfl (hb hby d2_6)) ?_
    refine Go.via (fun _ => iremM X508 hx rfl (hb hby d2_7) rfl (by decide)) ?_
    show Go p e below (T508.setTop (mkF m 8 #[.val (.long y), .second, .val (.int (33 : Int32)), .val (.int (8 : Int32)), .val (.int (0 : Int32)), .unset, .unset, .unset, .unset, .unset] [(.int ((fdF y (33 : Int32) (2 : Int32)) % (3 : Int32)))])) _
    generalize hv_ln : ((fdF y (33 : Int32) (2 : Int32)) % (3 : Int32)) = ln
    show Go p e below (T508.setTop (mkF m 8 #[.val (.long y), .second, .val (.int (33 : Int32)), .val (.int (8 : Int32)), .val (.int (0 : Int32)), .unset, .unset, .unset, .unset, .unset] [(.int ln)])) _
    refine Go.via (fun _ => XS.istore X508.here hx rfl (hb hby d2_8) rfl (l' := #[.val (.long y), .second, .val (.int (33 : Int32)), .val (.int (8 : Int32)), .val (.int (0 : Int32)), .val (.int ln), .unset, .unset, .unset, .unset]) rfl) ?_
    show Go p e below (T508.setTop (mkF m 10 #[.val (.long y), .second, .val (.int (33 : Int32)), .val (.int (8 : Int32)), .val (.int (0 : Int32)), .val (.int ln), .unset, .unset, .unset, .unset] [])) _
    refine Go.via (fun _ => XS.lloadN X508.here hx rfl (hb hby d2_10) rfl) ?_
    refine Go.via (fun _ => XS.iloadN X508.here hx rfl (hb hby d2_11) rfl) ?_
    refine Go.via (fun _ => XS.iconst X508.here hx rfl (hb hby d2_12)) ?_
    refine Go.via (fun _ => XS.iadd X508.here hx rfl (hb hby d2_13) rfl) ?_
    show Go p e below (T508.setTop (mkF m 14 #[.val (.long y), .second, .val (.int (33 : Int32)), .val (.int (8 : Int32)), .val (.int (0 : Int32)), .val (.int ln), .unset, .unset, .unset, .unset] [(.int (35 : Int32)), (.long y)])) _
    refine Go.via (fun _ => XS.iloadN X508.here hx rfl (hb hby d2_14) rfl) ?_
    obtain ⟨r509, _, ⟨T509, L509, k509, n509⟩, -, X509, ⟨Lc509, hQ509, l509, y509, z509⟩, st509⟩ := Jvm.LawKit.callS X508 hx (y := (⟨cLAW, "field", "(JII)I"⟩ : MethodName)) hown (mvT hZ (tw hw 12 rfl)) (mvT hZ (tw hw 13 rfl)) (mvT hZ (tw hw 6 rfl)) (mvT hZ (tw hw 14 rfl)) (by decide) (backOf (W := 0) (rmFd l Z a0 hw [] y (35 : Int32) (8 : Int32)  h0 n0 Z0) hZ (tw hw 14 rfl) (tw hw 6 rfl) (by decide) (by decide)) (g := (mkF m 15 #[.val (.long y), .second, .val (.int (33 : Int32)), .val (.int (8 : Int32)), .val (.int (0 : Int32)), .val (.int ln), .unset, .unset, .unset, .unset] [(.int (8 : Int32)), (.int (35 : Int32)), (.long y)])) rfl (by rw [hml]; rfl) (argsL := [(.long y), (.int (35 : Int32)), (.int (8 : Int32))]) (rest := []) (lenOf pd__28JII_29I rfl) rfl (by show 2 * 0 + _ ≤ _; exact Nat.le_of_eq rfl) (hb hby d2_15) (fun _ _ => ⟨rfl, e508, (by decide : 0 + 0 ≤ _), (by decide : 0 + 0 ≤ _)⟩)
    dsimp only [Pt.U, Pt.locs, Pt.cells, Pt.slots] at X509 l509 y509 z509 st509 hQ509
    rw [l509, y509, z509] at X509
    clear l509 y509 z509
    obtain ⟨hr509, N509q, eh509⟩ := hQ509
    rw [hr509] at st509
    clear hr509
    rw [N509q, List.append_nil] at X509
    refine Go.via (st509) ?_
    clear st509
    have e509 : T509.heap = h0 := eh509
    clear X508 e508
    show Go p e below (T509.setTop (mkF m 18 #[.val (.long y), .second, .val (.int (33 : Int32)), .val (.int (8 : Int32)), .val (.int (0 : Int32)), .val (.int ln), .unset, .unset, .unset, .unset] [(.int (fdF y (35 : Int32) (8 : Int32)))])) _
    refine Go.via (fun _ => XS.istore X509.here hx rfl (hb hby d2_18) rfl (l' := #[.val (.long y), .second, .val (.int (33 : Int32)), .val (.int (8 : Int32)), .val (.int (0 : Int32)), .val (.int ln), .val (.int (fdF y (35 : Int32) (8 : Int32))), .unset, .unset, .unset]) rfl) ?_
    show Go p e below (T509.setTop (mkF m 20 #[.val (.long y), .second, .val (.int (33 : Int32)), .val (.int (8 : Int32)), .val (.int (0 : Int32)), .val (.int ln), .val (.int (fdF y (35 : Int32) (8 : Int32))), .unset, .unset, .unset] [])) _
    refine Go.via (fun _ => XS.lloadN X509.here hx rfl (hb hby d2_20) rfl) ?_
    refine Go.via (fun _ => XS.iloadN X509.here hx rfl (hb hby d2_21) rfl) ?_
    refine Go.via (fun _ => XS.iconst X509.here hx rfl (hb hby d2_22)) ?_
    refine Go.via (fun _ => XS.iadd X509.here hx rfl (hb hby d2_23) rfl) ?_
    show Go p e below (T509.setTop (mkF m 24 #[.val (.long y), .second, .val (.int (33 : Int32)), .val (.int (8 : Int32)), .val (.int (0 : Int32)), .val (.int ln), .val (.int (fdF y (35 : Int32) (8 : Int32))), .unset, .unset, .unset] [(.int (35 : Int32)), (.long y)])) _
    refine Go.via (fun _ => XS.iloadN X509.here hx rfl (hb hby d2_24) rfl) ?_
    refine Go.via (fun _ => XS.iadd X509.here hx rfl (hb hby d2_25) rfl) ?_
    show Go p e below (T509.setTop (mkF m 26 #[.val (.long y), .second, .val (.int (33 : Int32)), .val (.int (8 : Int32)), .val (.int (0 : Int32)), .val (.int ln), .val (.int (fdF y (35 : Int32) (8 : Int32))), .unset, .unset, .unset] [(.int (43 : Int32)), (.long y)])) _
    refine Go.via (fun _ => XS.iloadN X509.here hx rfl (hb hby d2_26) rfl) ?_
    obtain ⟨r510, _, ⟨T510, L510, k510, n510⟩, -, X510, ⟨Lc510, hQ510, l510, y510, z510⟩, st510⟩ := Jvm.LawKit.callS X509 hx (y := (⟨cLAW, "field", "(JII)I"⟩ : MethodName)) hown (mvT hZ (tw hw 12 rfl)) (mvT hZ (tw hw 13 rfl)) (mvT hZ (tw hw 6 rfl)) (mvT hZ (tw hw 14 rfl)) (by decide) (backOf (W := 0) (rmFd l Z a0 hw [] y (43 : Int32) (8 : Int32)  h0 n0 Z0) hZ (tw hw 14 rfl) (tw hw 6 rfl) (by decide) (by decide)) (g := (mkF m 27 #[.val (.long y), .second, .val (.int (33 : Int32)), .val (.int (8 : Int32)), .val (.int (0 : Int32)), .val (.int ln), .val (.int (fdF y (35 : Int32) (8 : Int32))), .unset, .unset, .unset] [(.int (8 : Int32)), (.int (43 : Int32)), (.long y)])) rfl (by rw [hml]; rfl) (argsL := [(.long y), (.int (43 : Int32)), (.int (8 : Int32))]) (rest := []) (lenOf pd__28JII_29I rfl) rfl (by show 2 * 0 + _ ≤ _; exact Nat.le_of_eq rfl) (hb hby d2_27) (fun _ _ => ⟨rfl, e509, (by decide : 0 + 0 ≤ _), (by decide : 0 + 0 ≤ _)⟩)
    dsimp only [Pt.U, Pt.locs, Pt.cells, Pt.slots] at X510 l510 y510 z510 st510 hQ510
    rw [l510, y510, z510] at X510
    clear l510 y510 z510
    obtain ⟨hr510, N510q, eh510⟩ := hQ510
    rw [hr510] at st510
    clear hr510
    rw [N510q, List.append_nil] at X510
    refine Go.via (st510) ?_
    clear st510
    have e510 : T510.heap = h0 := eh510
    clear X509 e509
    show Go p e below (T510.setTop (mkF m 30 #[.val (.long y), .second, .val (.int (33 : Int32)), .val (.int (8 : Int32)), .val (.int (0 : Int32)), .val (.int ln), .val (.int (fdF y (35 : Int32) (8 : Int32))), .unset, .unset, .unset] [(.int (fdF y (43 : Int32) (8 : Int32)))])) _
    refine Go.via (fun _ => XS.istore X510.here hx rfl (hb hby d2_30) rfl (l' := #[.val (.long y), .second, .val (.int (33 : Int32)), .val (.int (8 : Int32)), .val (.int (0 : Int32)), .val (.int ln), .val (.int (fdF y (35 : Int32) (8 : Int32))), .val (.int (fdF y (43 : Int32) (8 : Int32))), .unset, .unset]) rfl) ?_
    show Go p e below (T510.setTop (mkF m 32 #[.val (.long y), .second, .val (.int (33 : Int32)), .val (.int (8 : Int32)), .val (.int (0 : Int32)), .val (.int ln), .val (.int (fdF y (35 : Int32) (8 : Int32))), .val (.int (fdF y (43 : Int32) (8 : Int32))), .unset, .unset] [])) _
    refine Go.via (fun _ => XS.iload X510.here hx rfl (hb hby d2_32) rfl) ?_
    refine Go.via (fun _ => XS.ifYes X510.here hx rfl (pc0 := 34) (pc' := 45) rfl (hb hby d2_34) rfl ((if0 _ _).trans (teq ((by decide) : (0 : Int32) = (0 : Int32))).1) (by decide) (by decide)) ?_
    show Go p e below (T510.setTop (mkF m 45 #[.val (.long y), .second, .val (.int (33 : Int32)), .val (.int (8 : Int32)), .val (.int (0 : Int32)), .val (.int ln), .val (.int (fdF y (35 : Int32) (8 : Int32))), .val (.int (fdF y (43 : Int32) (8 : Int32))), .unset, .unset] [])) _
    refine Go.via (fun _ => XS.iload X510.here hx rfl (hb hby d2_45) rfl) ?_
    refine Go.via (fun _ => XS.i2c X510.here hx rfl (hb hby d2_47) rfl) ?_
    show Go p e below (T510.setTop (mkF m 48 #[.val (.long y), .second, .val (.int (33 : Int32)), .val (.int (8 : Int32)), .val (.int (0 : Int32)), .val (.int ln), .val (.int (fdF y (35 : Int32) (8 : Int32))), .val (.int (fdF y (43 : Int32) (8 : Int32))), .unset, .unset] [(.int ((fdF y (35 : Int32) (8 : Int32)).toUInt32.toUInt16.toUInt32.toInt32))])) _
    refine Go.via (fun _ => XS.istore X510.here hx rfl (hb hby d2_48) rfl (l' := #[.val (.long y), .second, .val (.int (33 : Int32)), .val (.int (8 : Int32)), .val (.int (0 : Int32)), .val (.int ln), .val (.int (fdF y (35 : Int32) (8 : Int32))), .val (.int (fdF y (43 : Int32) (8 : Int32))), .val (.int ((fdF y (35 : Int32) (8 : Int32)).toUInt32.toUInt16.toUInt32.toInt32)), .unset]) rfl) ?_
    show Go p e below (T510.setTop (mkF m 50 #[.val (.long y), .second, .val (.int (33 : Int32)), .val (.int (8 : Int32)), .val (.int (0 : Int32)), .val (.int ln), .val (.int (fdF y (35 : Int32) (8 : Int32))), .val (.int (fdF y (43 : Int32) (8 : Int32))), .val (.int ((fdF y (35 : Int32) (8 : Int32)).toUInt32.toUInt16.toUInt32.toInt32)), .unset] [])) _
    refine Go.via (fun _ => XS.iload X510.here hx rfl (hb hby d2_50) rfl) ?_
    refine Go.via (fun _ => XS.ifYes X510.here hx rfl (pc0 := 52) (pc' := 63) rfl (hb hby d2_52) rfl ((if0 _ _).trans (teq ((by decide) : (0 : Int32) = (0 : Int32))).1) (by decide) (by decide)) ?_
    show Go p e below (T510.setTop (mkF m 63 #[.val (.long y), .second, .val (.int (33 : Int32)), .val (.int (8 : Int32)), .val (.int (0 : Int32)), .val (.int ln), .val (.int (fdF y (35 : Int32) (8 : Int32))), .val (.int (fdF y (43 : Int32) (8 : Int32))), .val (.int ((fdF y (35 : Int32) (8 : Int32)).toUInt32.toUInt16.toUInt32.toInt32)), .unset] [])) _
    refine Go.via (fun _ => XS.iload X510.here hx rfl (hb hby d2_63) rfl) ?_
    refine Go.via (fun _ => XS.i2c X510.here hx rfl (hb hby d2_65) rfl) ?_
    show Go p e below (T510.setTop (mkF m 66 #[.val (.long y), .second, .val (.int (33 : Int32)), .val (.int (8 : Int32)), .val (.int (0 : Int32)), .val (.int ln), .val (.int (fdF y (35 : Int32) (8 : Int32))), .val (.int (fdF y (43 : Int32) (8 : Int32))), .val (.int ((fdF y (35 : Int32) (8 : Int32)).toUInt32.toUInt16.toUInt32.toInt32)), .unset] [(.int ((fdF y (43 : Int32) (8 : Int32)).toUInt32.toUInt16.toUInt32.toInt32))])) _
    refine Go.via (fun _ => XS.istore X510.here hx rfl (hb hby d2_66) rfl (l' := #[.val (.long y), .second, .val (.int (33 : Int32)), .val (.int (8 : Int32)), .val (.int (0 : Int32)), .val (.int ln), .val (.int (fdF y (35 : Int32) (8 : Int32))), .val (.int (fdF y (43 : Int32) (8 : Int32))), .val (.int ((fdF y (35 : Int32) (8 : Int32)).toUInt32.toUInt16.toUInt32.toInt32)), .val (.int ((fdF y (43 : Int32) (8 : Int32)).toUInt32.toUInt16.toUInt32.toInt32))]) rfl) ?_
    show Go p e below (T510.setTop (mkF m 68 #[.val (.long y), .second, .val (.int (33 : Int32)), .val (.int (8 : Int32)), .val (.int (0 : Int32)), .val (.int ln), .val (.int (fdF y (35 : Int32) (8 : Int32))), .val (.int (fdF y (43 : Int32) (8 : Int32))), .val (.int ((fdF y (35 : Int32) (8 : Int32)).toUInt32.toUInt16.toUInt32.toInt32)), .val (.int ((fdF y (43 : Int32) (8 : Int32)).toUInt32.toUInt16.toUInt32.toInt32))] [])) _
    rcases own_l3 y (33 : Int32) hv_ln with rfl | rfl | rfl
    · show Go p e below (T510.setTop (mkF m 68 #[.val (.long y), .second, .val (.int (33 : Int32)), .val (.int (8 : Int32)), .val (.int (0 : Int32)), .val (.int (0 : Int32)), .val (.int (fdF y (35 : Int32) (8 : Int32))), .val (.int (fdF y (43 : Int32) (8 : Int32))), .val (.int ((fdF y (35 : Int32) (8 : Int32)).toUInt32.toUInt16.toUInt32.toInt32)), .val (.int ((fdF y (43 : Int32) (8 : Int32)).toUInt32.toUInt16.toUInt32.toInt32))] [])) _
      refine Go.via (fun _ => XS.iload X510.here hx rfl (hb hby d2_68) rfl) ?_
      refine Go.via (fun _ => XS.ifNo X510.here hx rfl (hb hby d2_70) rfl ((if0 _ _).trans (teq ((by decide) : (0 : Int32) = (0 : Int32))).2)) ?_
      show Go p e below (T510.setTop (mkF m 73 #[.val (.long y), .second, .val (.int (33 : Int32)), .val (.int (8 : Int32)), .val (.int (0 : Int32)), .val (.int (0 : Int32)), .val (.int (fdF y (35 : Int32) (8 : Int32))), .val (.int (fdF y (43 : Int32) (8 : Int32))), .val (.int ((fdF y (35 : Int32) (8 : Int32)).toUInt32.toUInt16.toUInt32.toInt32)), .val (.int ((fdF y (43 : Int32) (8 : Int32)).toUInt32.toUInt16.toUInt32.toInt32))] [])) _
      obtain ⟨T511, h511, X511, e511, E511, A511, D511, -, st511⟩ := newO X510 hx hZ hown (tw hw 18 rfl) (tw hw 19 rfl) (tw hw 20 rfl) e510 (g := (mkF m 73 #[.val (.long y), .second, .val (.int (33 : Int32)), .val (.int (8 : Int32)), .val (.int (0 : Int32)), .val (.int (0 : Int32)), .val (.int (fdF y (35 : Int32) (8 : Int32))), .val (.int (fdF y (43 : Int32) (8 : Int32))), .val (.int ((fdF y (35 : Int32) (8 : Int32)).toUInt32.toUInt16.toUInt32.toInt32)), .val (.int ((fdF y (43 : Int32) (8 : Int32)).toUInt32.toUInt16.toUInt32.toInt32))] [])) rfl (hb hby d2_73) (by decide) (by decide)
      obtain ⟨b511, g511⟩ : ∃ z, z = h0.size := ⟨_, rfl⟩
      rw [← g511] at A511 D511 st511
      have ge512 : n0 ≤ b511 := Nat.le_trans Z0 (Nat.le_of_eq g511.symm)
      have sz513 : h0.size ≤ b511 := Nat.le_trans (Keep.refl h0 []).1 (Nat.le_of_eq g511.symm)
      refine Go.via (st511) ?_
      clear st511
      have f514 : Fld Z h511 b511 cST "value" "[B" .null := D511 (Or.inr (tw hw 34 rfl)) (ty := (.array .byte)) (by decide)
      have f515 : Fld Z h511 b511 cST "coder" "B" (.int (0 : Int32)) := D511 (Or.inr (tw hw 35 rfl)) (ty := .byte) (by decide)
      clear X510 e510
      show Go p e below (T511.setTop (mkF m 76 #[.val (.long y), .second, .val (.int (33 : Int32)), .val (.int (8 : Int32)), .val (.int (0 : Int32)), .val (.int (0 : Int32)), .val (.int (fdF y (35 : Int32) (8 : Int32))), .val (.int (fdF y (43 : Int32) (8 : Int32))), .val (.int ((fdF y (35 : Int32) (8 : Int32)).toUInt32.toUInt16.toUInt32.toInt32)), .val (.int ((fdF y (43 : Int32) (8 : Int32)).toUInt32.toUInt16.toUInt32.toInt32))] [(.ref b511)])) _
      refine Go.via (fun _ => XS.dup X511.here hx rfl (hb hby d2_76) rfl rfl) ?_
      refine Go.via (fun _ => XS.iconst X511.here hx rfl (hb hby d2_77)) ?_
      have k517 : Keep h0 h511 [] := ((Keep.refl h0 []).ext E511)
      have z518 : n0 ≤ h511.size := (Nat.le_trans Z0 E511.1)
      obtain ⟨T516, h516, k516, X516, e516, E516, A516, B516, st516⟩ := newPE X511 hx hZ (tw hw 21 rfl) e511 (g := (mkF m 78 #[.val (.long y), .second, .val (.int (33 : Int32)), .val (.int (8 : Int32)), .val (.int (0 : Int32)), .val (.int (0 : Int32)), .val (.int (fdF y (35 : Int32) (8 : Int32))), .val (.int (fdF y (43 : Int32) (8 : Int32))), .val (.int ((fdF y (35 : Int32) (8 : Int32)).toUInt32.toUInt16.toUInt32.toInt32)), .val (.int ((fdF y (43 : Int32) (8 : Int32)).toUInt32.toUInt16.toUInt32.toInt32))] [(.int (0 : Int32)), (.ref b511), (.ref b511)])) rfl (hb hby d2_78) rfl (by decide) (cap := 0) (by decide) (by decide) (by decide) (by decide) (ad := "[C") (by decide)
      obtain ⟨b516, g516⟩ : ∃ z, z = h511.size := ⟨_, rfl⟩
      rw [← g516] at A516 B516 st516
      have ne519 : b511 ≠ b516 := Nat.ne_of_lt (Nat.lt_of_lt_of_le A511.lt (Nat.le_of_eq g516.symm))
      have ge520 : n0 ≤ b516 := Nat.le_trans z518 (Nat.le_of_eq g516.symm)
      have sz521 : h0.size ≤ b516 := Nat.le_trans k517.1 (Nat.le_of_eq g516.symm)
      refine Go.via (st516) ?_
      clear st516
      have f522 : Ia Z h516 b516 .char [] := Ia.new A516 rfl
      clear X511 e511
      show Go p e below (T516.setTop (mkF m 80 #[.val (.long y), .second, .val (.int (33 : Int32)), .val (.int (8 : Int32)), .val (.int (0 : Int32)), .val (.int (0 : Int32)), .val (.int (fdF y (35 : Int32) (8 : Int32))), .val (.int (fdF y (43 : Int32) (8 : Int32))), .val (.int ((fdF y (35 : Int32) (8 : Int32)).toUInt32.toUInt16.toUInt32.toInt32)), .val (.int ((fdF y (43 : Int32) (8 : Int32)).toUInt32.toUInt16.toUInt32.toInt32))] [(.ref b516), (.ref b511), (.ref b511)])) _
      have f523 : Fld Z h516 b511 cST "coder" "B" (.int (0 : Int32)) := (f515.ext E516)
      have f524 : Fld Z h516 b511 cST "value" "[B" .null := (f514.ext E516)
      have f525 : Exa Z h516 b511 cST := (A511.ext E516)
      have o526 : Old Z n0 h516 := ((P0.ext E511).ext E516)
      have z528 : n0 ≤ h516.size := (Nat.le_trans z518 E516.1)
      have k529 : Keep h0 h516 [] := (k517.ext E516)
      have em530 : Em Z s.vm h516 ["signature 1", "signature 2", "digest", "name"] := (Em.keep0 I0 k529)
      have hk531 : _ ≤ h516.size := (Nat.le_trans (Nat.le_trans hk0 E511.1) E516.1)
      obtain ⟨r527, _, ⟨T527, L527, k527, n527⟩, -, X527, h2527, gS527, ⟨Lc527, hQ527, l527, y527, z527⟩, st527⟩ := X516.specialBackS hx (y := (⟨cST, "<init>", "([C)V"⟩ : MethodName)) rfl hown (mvT hZ (tw hw 22 rfl)) (mvT hZ (tw hw 23 rfl)) (mvT hZ (tw hw 24 rfl)) (by decide) (backOfV (W := 1) (V := V_rmI1_e0 Z b511 b516 h516) (rmI1_e0 l Z a0 hw [] b511 b516  h516 n0 z528 f523 f524 f525 f522 o526 ge512 hh7 hcw) hZ (tw hw 24 rfl) (tw hw 20 rfl) (by decide) (by decide) (fun vm' hW => ⟨Em.still em530 hW.interned_eq (w39 hW.wide), trivial⟩)) (g := (mkF m 80 #[.val (.long y), .second, .val (.int (33 : Int32)), .val (.int (8 : Int32)), .val (.int (0 : Int32)), .val (.int (0 : Int32)), .val (.int (fdF y (35 : Int32) (8 : Int32))), .val (.int (fdF y (43 : Int32) (8 : Int32))), .val (.int ((fdF y (35 : Int32) (8 : Int32)).toUInt32.toUInt16.toUInt32.toInt32)), .val (.int ((fdF y (43 : Int32) (8 : Int32)).toUInt32.toUInt16.toUInt32.toInt32))] [(.ref b516), (.ref b511), (.ref b511)])) rfl (by rw [hml]; rfl) (Steps.refl _) (a := b511) (argsL := [(.ref b516)]) (rest := [(.ref b511)]) (lenOf pd__28_5bC_29V rfl) rfl (by show 2 * 0 + _ ≤ _; exact Nat.le_of_eq rfl) (hb hby d2_80) (fun _ _ => ⟨rfl, e516, (by decide : 2 + 2 ≤ _), (by decide : 4 + 4 ≤ _)⟩)
      dsimp only [Pt.U, Pt.locs, Pt.cells, Pt.slots] at X527 l527 y527 z527 st527 hQ527 h2527 gS527
      rw [l527, y527, z527] at X527
      clear l527 y527 z527
      obtain ⟨v532, hr527, N527q, K527q, f533, f534, f535, f536, I527⟩ := hQ527
      rw [hr527] at st527
      clear hr527
      have N527 := Fr.app N0 N527q
      refine Go.via (fun _ kQ => st527.trans kQ) ?_
      clear st527
      have e527 : T527.heap = T527.heap := rfl
      have f537 : Exa Z T527.heap b511 cST := f533
      have f538 : Fld Z T527.heap b511 cST "coder" "B" (.int (0 : Int32)) := f534
      have f539 : Fld Z T527.heap b511 cST "value" "[B" (.ref v532) := f535
      have f540 : Ia Z T527.heap v532 .byte [] := f536
      have ne541 : v532 ≠ b511 := Ia.neE (a0 := a0) f540 f537 (tw hw 19 rfl)
      obtain ⟨X527r, hS527, hZ, hown⟩ := rebS hS0 (Nat.le_trans hk531 (Nat.le_of_eq (congrArg Array.size (Eq.symm e516)))) X527 h2527 gS527 hZ hown
      clear X527 h2527 gS527
      clear X516 e516
      show Go p e below (T527.setTop (mkF m 83 #[.val (.long y), .second, .val (.int (33 : Int32)), .val (.int (8 : Int32)), .val (.int (0 : Int32)), .val (.int (0 : Int32)), .val (.int (fdF y (35 : Int32) (8 : Int32))), .val (.int (fdF y (43 : Int32) (8 : Int32))), .val (.int ((fdF y (35 : Int32) (8 : Int32)).toUInt32.toUInt16.toUInt32.toInt32)), .val (.int ((fdF y (43 : Int32) (8 : Int32)).toUInt32.toUInt16.toUInt32.toInt32))] [(.ref b511)])) _
      have k542 : Keep h0 T527.heap [] := (k529.trans K527q (allS (Or.inr sz513) all0))
      exact Go.finW X527r hS527 (Nat.le_trans (Nat.le_refl _) (Nat.le_of_eq (congrArg Array.size (Eq.symm e527)))) hlk (v := some (.ref b511)) (fun h => by rw [Bd.returns] at h; cases h) (fun fs hr => retOut X527r hx Bd.returns rfl (Or.inr (Or.inr (Or.inr (Or.inr ⟨rfl, rfl, rfl⟩)))) (hb hby d2_83) hr) (by exact ⟨b511, v532, rfl, N527, k542, sz513, f537, f538, f539, (by unfold nmF; rw [own_sF0 (show lnA y (33 : Int32) = (0 : Int32) from hv_ln)]; exact f540), Em.still I527 X527r.warmed.interned_eq (w39 X527r.warmed.wide)⟩) (by decide) (by decide)
    · show Go p e below (T510.setTop (mkF m 68 #[.val (.long y), .second, .val (.int (33 : Int32)), .val (.int (8 : Int32)), .val (.int (0 : Int32)), .val (.int (1 : Int32)), .val (.int (fdF y (35 : Int32) (8 : Int32))), .val (.int (fdF y (43 : Int32) (8 : Int32))), .val (.int ((fdF y (35 : Int32) (8 : Int32)).toUInt32.toUInt16.toUInt32.toInt32)), .val (.int ((fdF y (43 : Int32) (8 : Int32)).toUInt32.toUInt16.toUInt32.toInt32))] [])) _
      refine Go.via (fun _ => XS.iload X510.here hx rfl (hb hby d2_68) rfl) ?_
      refine Go.via (fun _ => XS.ifYes X510.here hx rfl (pc0 := 70) (pc' := 84) rfl (hb hby d2_70) rfl ((if0 _ _).trans (feq ((by decide) : ¬ ((1 : Int32) = (0 : Int32)))).2) (by decide) (by decide)) ?_
      show Go p e below (T510.setTop (mkF m 84 #[.val (.long y), .second, .val (.int (33 : Int32)), .val (.int (8 : Int32)), .val (.int (0 : Int32)), .val (.int (1 : Int32)), .val (.int (fdF y (35 : Int32) (8 : Int32))), .val (.int (fdF y (43 : Int32) (8 : Int32))), .val (.int ((fdF y (35 : Int32) (8 : Int32)).toUInt32.toUInt16.toUInt32.toInt32)), .val (.int ((fdF y (43 : Int32) (8 : Int32)).toUInt32.toUInt16.toUInt32.toInt32))] [])) _
      refine Go.via (fun _ => XS.iload X510.here hx rfl (hb hby d2_84) rfl) ?_
      refine Go.via (fun _ => XS.iconst X510.here hx rfl (hb hby d2_86)) ?_
      refine Go.via (fun _ => XS.icmpNo X510.here hx rfl (hb hby d2_87) rfl (teq ((by decide) : (1 : Int32) = (1 : Int32))).2) ?_
      show Go p e below (T510.setTop (mkF m 90 #[.val (.long y), .second, .val (.int (33 : Int32)), .val (.int (8 : Int32)), .val (.int (0 : Int32)), .val (.int (1 : Int32)), .val (.int (fdF y (35 : Int32) (8 : Int32))), .val (.int (fdF y (43 : Int32) (8 : Int32))), .val (.int ((fdF y (35 : Int32) (8 : Int32)).toUInt32.toUInt16.toUInt32.toInt32)), .val (.int ((fdF y (43 : Int32) (8 : Int32)).toUInt32.toUInt16.toUInt32.toInt32))] [])) _
      obtain ⟨T543, h543, X543, e543, E543, A543, D543, -, st543⟩ := newO X510 hx hZ hown (tw hw 18 rfl) (tw hw 19 rfl) (tw hw 20 rfl) e510 (g := (mkF m 90 #[.val (.long y), .second, .val (.int (33 : Int32)), .val (.int (8 : Int32)), .val (.int (0 : Int32)), .val (.int (1 : Int32)), .val (.int (fdF y (35 : Int32) (8 : Int32))), .val (.int (fdF y (43 : Int32) (8 : Int32))), .val (.int ((fdF y (35 : Int32) (8 : Int32)).toUInt32.toUInt16.toUInt32.toInt32)), .val (.int ((fdF y (43 : Int32) (8 : Int32)).toUInt32.toUInt16.toUInt32.toInt32))] [])) rfl (hb hby d2_90) (by decide) (by decide)
      obtain ⟨b543, g543⟩ : ∃ z, z = h0.size := ⟨_, rfl⟩
      rw [← g543] at A543 D543 st543
      have ge544 : n0 ≤ b543 := Nat.le_trans Z0 (Nat.le_of_eq g543.symm)
      have sz545 : h0.size ≤ b543 := Nat.le_trans (Keep.refl h0 []).1 (Nat.le_of_eq g543.symm)
      refine Go.via (st543) ?_
      clear st543
      have f546 : Fld Z h543 b543 cST "value" "[B" .null := D543 (Or.inr (tw hw 34 rfl)) (ty := (.array .byte)) (by decide)
      have f547 : Fld Z h543 b543 cST "coder" "B" (.int (0 : Int32)) := D543 (Or.inr (tw hw 35 rfl)) (ty := .byte) (by decide)
      clear X510 e510
      show Go p e below (T543.setTop (mkF m 93 #[.val (.long y), .second, .val (.int (33 : Int32)), .val (.int (8 : Int32)), .val (.int (0 : Int32)), .val (.int (1 : Int32)), .val (.int (fdF y (35 : Int32) (8 : Int32))), .val (.int (fdF y (43 : Int32) (8 : Int32))), .val (.int ((fdF y (35 : Int32) (8 : Int32)).toUInt32.toUInt16.toUInt32.toInt32)), .val (.int ((fdF y (43 : Int32) (8 : Int32)).toUInt32.toUInt16.toUInt32.toInt32))] [(.ref b543)])) _
      refine Go.via (fun _ => XS.dup X543.here hx rfl (hb hby d2_93) rfl rfl) ?_
      refine Go.via (fun _ => XS.iconst X543.here hx rfl (hb hby d2_94)) ?_
      have k549 : Keep h0 h543 [] := ((Keep.refl h0 []).ext E543)
      have z550 : n0 ≤ h543.size := (Nat.le_trans Z0 E543.1)
      obtain ⟨T548, h548, k548, X548, e548, E548, A548, B548, st548⟩ := newPE X543 hx hZ (tw hw 21 rfl) e543 (g := (mkF m 95 #[.val (.long y), .second, .val (.int (33 : Int32)), .val (.int (8 : Int32)), .val (.int (0 : Int32)), .val (.int (1 : Int32)), .val (.int (fdF y (35 : Int32) (8 : Int32))), .val (.int (fdF y (43 : Int32) (8 : Int32))), .val (.int ((fdF y (35 : Int32) (8 : Int32)).toUInt32.toUInt16.toUInt32.toInt32)), .val (.int ((fdF y (43 : Int32) (8 : Int32)).toUInt32.toUInt16.toUInt32.toInt32))] [(.int (1 : Int32)), (.ref b543), (.ref b543)])) rfl (hb hby d2_95) rfl (by decide) (cap := 1) (by decide) (by decide) (by decide) (by decide) (ad := "[C") (by decide)
      obtain ⟨b548, g548⟩ : ∃ z, z = h543.size := ⟨_, rfl⟩
      rw [← g548] at A548 B548 st548
      have ne551 : b543 ≠ b548 := Nat.ne_of_lt (Nat.lt_of_lt_of_le A543.lt (Nat.le_of_eq g548.symm))
      have ge552 : n0 ≤ b548 := Nat.le_trans z550 (Nat.le_of_eq g548.symm)
      have sz553 : h0.size ≤ b548 := Nat.le_trans k549.1 (Nat.le_of_eq g548.symm)
      refine Go.via (st548) ?_
      clear st548
      have f554 : Ia Z h548 b548 .char [(0 : Int32)] := Ia.new A548 rfl
      clear X543 e543
      show Go p e below (T548.setTop (mkF m 97 #[.val (.long y), .second, .val (.int (33 : Int32)), .val (.int (8 : Int32)), .val (.int (0 : Int32)), .val (.int (1 : Int32)), .val (.int (fdF y (35 : Int32) (8 : Int32))), .val (.int (fdF y (43 : Int32) (8 : Int32))), .val (.int ((fdF y (35 : Int32) (8 : Int32)).toUInt32.toUInt16.toUInt32.toInt32)), .val (.int ((fdF y (43 : Int32) (8 : Int32)).toUInt32.toUInt16.toUInt32.toInt32))] [(.ref b548), (.ref b543), (.ref b543)])) _
      refine Go.via (fun _ => XS.dup X548.here hx rfl (hb hby d2_97) rfl rfl) ?_
      refine Go.via (fun _ => XS.iconst X548.here hx rfl (hb hby d2_98)) ?_
      refine Go.via (fun _ => XS.iload X548.here hx rfl (hb hby d2_99) rfl) ?_
      obtain ⟨T555, h555, X555, e555, W555, V555, st555⟩ := stC' X548 hx hZ e548 f554 (j := (0 : Int32)) (by decide) (by first | decide | (simp only [List.length_cons, List.length_nil]; decide) | rfl) (g := (mkF m 101 #[.val (.long y), .second, .val (.int (33 : Int32)), .val (.int (8 : Int32)), .val (.int (0 : Int32)), .val (.int (1 : Int32)), .val (.int (fdF y (35 : Int32) (8 : Int32))), .val (.int (fdF y (43 : Int32) (8 : Int32))), .val (.int ((fdF y (35 : Int32) (8 : Int32)).toUInt32.toUInt16.toUInt32.toInt32)), .val (.int ((fdF y (43 : Int32) (8 : Int32)).toUInt32.toUInt16.toUInt32.toInt32))] [(.int ((fdF y (35 : Int32) (8 : Int32)).toUInt32.toUInt16.toUInt32.toInt32)), (.int (0 : Int32)), (.ref b548), (.ref b548), (.ref b543), (.ref b543)])) rfl rfl (hb hby d2_101)
      refine Go.via (st555) ?_
      clear st555
      have N555 := Fr.snoc X555 N0 ge552
      have f556 : Ia Z h555 b548 .char [(nar .char ((fdF y (35 : Int32) (8 : Int32)).toUInt32.toUInt16.toUInt32.toInt32))] := V555
      clear X548 e548
      show Go p e below (T555.setTop (mkF m 102 #[.val (.long y), .second, .val (.int (33 : Int32)), .val (.int (8 : Int32)), .val (.int (0 : Int32)), .val (.int (1 : Int32)), .val (.int (fdF y (35 : Int32) (8 : Int32))), .val (.int (fdF y (43 : Int32) (8 : Int32))), .val (.int ((fdF y (35 : Int32) (8 : Int32)).toUInt32.toUInt16.toUInt32.toInt32)), .val (.int ((fdF y (43 : Int32) (8 : Int32)).toUInt32.toUInt16.toUInt32.toInt32))] [(.ref b548), (.ref b543), (.ref b543)])) _
      have f557 : Fld Z h555 b543 cST "coder" "B" (.int (0 : Int32)) := ((f547.ext E548).other W555 (Or.inl ne551))
      have f558 : Fld Z h555 b543 cST "value" "[B" .null := ((f546.ext E548).other W555 (Or.inl ne551))
      have f559 : Exa Z h555 b543 cST := ((A543.ext E548).wr W555)
      have o560 : Old Z n0 h555 := (((P0.ext E543).ext E548).wr W555 ge552)
      have z562 : n0 ≤ h555.size := (Nat.le_trans (Nat.le_trans z550 E548.1) (Keep.of_wr W555).1)
      obtain ⟨r561, _, ⟨T561, L561, k561, n561⟩, -, X561, ⟨Lc561, hQ561, l561, y561, z561⟩, st561⟩ := X555.specialBack hx (y := (⟨cST, "<init>", "([C)V"⟩ : MethodName)) rfl hown (mvT hZ (tw hw 22 rfl)) (mvT hZ (tw hw 23 rfl)) (mvT hZ (tw hw 24 rfl)) (by decide) (backOf (W := 1) (rmI1_1 l Z a0 hw [] b543 b548 (nar .char ((fdF y (35 : Int32) (8 : Int32)).toUInt32.toUInt16.toUInt32.toInt32)) cs h555 n0 z562 f557 f558 f559 f556 o560 zCS ge544 ne551 hcs (own_nl y (35 : Int32))) hZ (tw hw 24 rfl) (tw hw 20 rfl) (by decide) (by decide)) (g := (mkF m 102 #[.val (.long y), .second, .val (.int (33 : Int32)), .val (.int (8 : Int32)), .val (.int (0 : Int32)), .val (.int (1 : Int32)), .val (.int (fdF y (35 : Int32) (8 : Int32))), .val (.int (fdF y (43 : Int32) (8 : Int32))), .val (.int ((fdF y (35 : Int32) (8 : Int32)).toUInt32.toUInt16.toUInt32.toInt32)), .val (.int ((fdF y (43 : Int32) (8 : Int32)).toUInt32.toUInt16.toUInt32.toInt32))] [(.ref b548), (.ref b543), (.ref b543)])) rfl (by rw [hml]; rfl) (Steps.refl _) (a := b543) (argsL := [(.ref b548)]) (rest := [(.ref b543)]) (lenOf pd__28_5bC_29V rfl) rfl (by show 2 * 0 + _ ≤ _; exact Nat.le_of_eq rfl) (hb hby d2_102) (fun _ _ => ⟨rfl, e555, (by decide : 2 + 1 ≤ _), (by decide : 5 + 1 ≤ _)⟩)
      dsimp only [Pt.U, Pt.locs, Pt.cells, Pt.slots] at X561 l561 y561 z561 st561 hQ561
      rw [l561, y561, z561] at X561
      clear l561 y561 z561
      obtain ⟨b563, hr561, N561q, K561q, fz_b563, f564, f565, f566, f567⟩ := hQ561
      rw [hr561] at st561
      clear hr561
      have N561 := Fr.app N555 N561q
      refine Go.via (fun _ kQ => st561.trans kQ) ?_
      clear st561
      have ne568 : b543 ≠ b563 := Nat.ne_of_lt (Nat.lt_of_lt_of_le f559.lt fz_b563)
      have ne569 : b548 ≠ b563 := Nat.ne_of_lt (Nat.lt_of_lt_of_le f556.lt fz_b563)
      have ge570 : n0 ≤ b563 := Nat.le_trans z562 fz_b563
      have k572 : Keep h0 h555 [] := ((k549.ext E548).wr W555 (Or.inr sz553))
      have sz571 : h0.size ≤ b563 := Nat.le_trans k572.1 fz_b563
      have e561 : T561.heap = T561.heap := rfl
      have f573 : Exa Z T561.heap b543 cST := f564
      have f574 : Fld Z T561.heap b543 cST "coder" "B" (.int (0 : Int32)) := f565
      have f575 : Fld Z T561.heap b543 cST "value" "[B" (.ref b563) := f566
      have f576 : Ia Z T561.heap b563 .byte [(nar .byte ((nar .char ((fdF y (35 : Int32) (8 : Int32)).toUInt32.toUInt16.toUInt32.toInt32)).toInt8.toInt32))] := f567
      clear X555 e555
      show Go p e below (T561.setTop (mkF m 105 #[.val (.long y), .second, .val (.int (33 : Int32)), .val (.int (8 : Int32)), .val (.int (0 : Int32)), .val (.int (1 : Int32)), .val (.int (fdF y (35 : Int32) (8 : Int32))), .val (.int (fdF y (43 : Int32) (8 : Int32))), .val (.int ((fdF y (35 : Int32) (8 : Int32)).toUInt32.toUInt16.toUInt32.toInt32)), .val (.int ((fdF y (43 : Int32) (8 : Int32)).toUInt32.toUInt16.toUInt32.toInt32))] [(.ref b543)])) _
      have k577 : Keep h0 T561.heap [] := (k572.trans K561q (allS (Or.inr sz545) all0))
      have em578 : Em Z s.vm T561.heap ["signature 1", "signature 2", "digest", "name"] := (Em.keep0 I0 k577)
      have hk579 : _ ≤ T561.heap.size := (Nat.le_trans (Nat.le_trans (Nat.le_trans (Nat.le_trans hk0 E543.1) E548.1) (Keep.of_wr W555).1) K561q.1)
      exact Go.finW X561 hS0 (Nat.le_trans hk579 (Nat.le_of_eq (congrArg Array.size (Eq.symm e561)))) hlk (v := some (.ref b543)) (fun h => by rw [Bd.returns] at h; cases h) (fun fs hr => retOut X561 hx Bd.returns rfl (Or.inr (Or.inr (Or.inr (Or.inr ⟨rfl, rfl, rfl⟩)))) (hb hby d2_105) hr) (by exact ⟨b543, b563, rfl, N561, k577, sz545, f573, f574, f575, (by unfold nmF; rw [own_sF1 (show lnA y (33 : Int32) = (1 : Int32) from hv_ln)]; exact f576), Em.still em578 X561.warmed.interned_eq (w39 X561.warmed.wide)⟩) (by decide) (by decide)
    · show Go p e below (T510.setTop (mkF m 68 #[.val (.long y), .second, .val (.int (33 : Int32)), .val (.int (8 : Int32)), .val (.int (0 : Int32)), .val (.int (2 : Int32)), .val (.int (fdF y (35 : Int32) (8 : Int32))), .val (.int (fdF y (43 : Int32) (8 : Int32))), .val (.int ((fdF y (35 : Int32) (8 : Int32)).toUInt32.toUInt16.toUInt32.toInt32)), .val (.int ((fdF y (43 : Int32) (8 : Int32)).toUInt32.toUInt16.toUInt32.toInt32))] [])) _
      refine Go.via (fun _ => XS.iload X510.here hx rfl (hb hby d2_68) rfl) ?_
      refine Go.via (fun _ => XS.ifYes X510.here hx rfl (pc0 := 70) (pc' := 84) rfl (hb hby d2_70) rfl ((if0 _ _).trans (feq ((by decide) : ¬ ((2 : Int32) = (0 : Int32)))).2) (by decide) (by decide)) ?_
      show Go p e below (T510.setTop (mkF m 84 #[.val (.long y), .second, .val (.int (33 : Int32)), .val (.int (8 : Int32)), .val (.int (0 : Int32)), .val (.int (2 : Int32)), .val (.int (fdF y (35 : Int32) (8 : Int32))), .val (.int (fdF y (43 : Int32) (8 : Int32))), .val (.int ((fdF y (35 : Int32) (8 : Int32)).toUInt32.toUInt16.toUInt32.toInt32)), .val (.int ((fdF y (43 : Int32) (8 : Int32)).toUInt32.toUInt16.toUInt32.toInt32))] [])) _
      refine Go.via (fun _ => XS.iload X510.here hx rfl (hb hby d2_84) rfl) ?_
      refine Go.via (fun _ => XS.iconst X510.here hx rfl (hb hby d2_86)) ?_
      refine Go.via (fun _ => XS.icmpYes X510.here hx rfl (pc0 := 87) (pc' := 106) rfl (hb hby d2_87) rfl (feq ((by decide) : ¬ ((2 : Int32) = (1 : Int32)))).2 (by decide) (by decide)) ?_
      show Go p e below (T510.setTop (mkF m 106 #[.val (.long y), .second, .val (.int (33 : Int32)), .val (.int (8 : Int32)), .val (.int (0 : Int32)), .val (.int (2 : Int32)), .val (.int (fdF y (35 : Int32) (8 : Int32))), .val (.int (fdF y (43 : Int32) (8 : Int32))), .val (.int ((fdF y (35 : Int32) (8 : Int32)).toUInt32.toUInt16.toUInt32.toInt32)), .val (.int ((fdF y (43 : Int32) (8 : Int32)).toUInt32.toUInt16.toUInt32.toInt32))] [])) _
      obtain ⟨T580, h580, X580, e580, E580, A580, D580, -, st580⟩ := newO X510 hx hZ hown (tw hw 18 rfl) (tw hw 19 rfl) (tw hw 20 rfl) e510 (g := (mkF m 106 #[.val (.long y), .second, .val (.int (33 : Int32)), .val (.int (8 : Int32)), .val (.int (0 : Int32)), .val (.int (2 : Int32)), .val (.int (fdF y (35 : Int32) (8 : Int32))), .val (.int (fdF y (43 : Int32) (8 : Int32))), .val (.int ((fdF y (35 : Int32) (8 : Int32)).toUInt32.toUInt16.toUInt32.toInt32)), .val (.int ((fdF y (43 : Int32) (8 : Int32)).toUInt32.toUInt16.toUInt32.toInt32))] [])) rfl (hb hby d2_106) (by decide) (by decide)
      obtain ⟨b580, g580⟩ : ∃ z, z = h0.size := ⟨_, rfl⟩
      rw [← g580] at A580 D580 st580
      have ge581 : n0 ≤ b580 := Nat.le_trans Z0 (Nat.le_of_eq g580.symm)
      have sz582 : h0.size ≤ b580 := Nat.le_trans (Keep.refl h0 []).1 (Nat.le_of_eq g580.symm)
      refine Go.via (st580) ?_
      clear st580
      have f583 : Fld Z h580 b580 cST "value" "[B" .null := D580 (Or.inr (tw hw 34 rfl)) (ty := (.array .byte)) (by decide)
      have f584 : Fld Z h580 b580 cST "coder" "B" (.int (0 : Int32)) := D580 (Or.inr (tw hw 35 rfl)) (ty := .byte) (by decide)
      clear X510 e510
      show Go p e below (T580.setTop (mkF m 109 #[.val (.long y), .second, .val (.int (33 : Int32)), .val (.int (8 : Int32)), .val (.int (0 : Int32)), .val (.int (2 : Int32)), .val (.int (fdF y (35 : Int32) (8 : Int32))), .val (.int (fdF y (43 : Int32) (8 : Int32))), .val (.int ((fdF y (35 : Int32) (8 : Int32)).toUInt32.toUInt16.toUInt32.toInt32)), .val (.int ((fdF y (43 : Int32) (8 : Int32)).toUInt32.toUInt16.toUInt32.toInt32))] [(.ref b580)])) _
      refine Go.via (fun _ => XS.dup X580.here hx rfl (hb hby d2_109) rfl rfl) ?_
      refine Go.via (fun _ => XS.iconst X580.here hx rfl (hb hby d2_110)) ?_
      have k586 : Keep h0 h580 [] := ((Keep.refl h0 []).ext E580)
      have z587 : n0 ≤ h580.size := (Nat.le_trans Z0 E580.1)
      obtain ⟨T585, h585, k585, X585, e585, E585, A585, B585, st585⟩ := newPE X580 hx hZ (tw hw 21 rfl) e580 (g := (mkF m 111 #[.val (.long y), .second, .val (.int (33 : Int32)), .val (.int (8 : Int32)), .val (.int (0 : Int32)), .val (.int (2 : Int32)), .val (.int (fdF y (35 : Int32) (8 : Int32))), .val (.int (fdF y (43 : Int32) (8 : Int32))), .val (.int ((fdF y (35 : Int32) (8 : Int32)).toUInt32.toUInt16.toUInt32.toInt32)), .val (.int ((fdF y (43 : Int32) (8 : Int32)).toUInt32.toUInt16.toUInt32.toInt32))] [(.int (2 : Int32)), (.ref b580), (.ref b580)])) rfl (hb hby d2_111) rfl (by decide) (cap := 2) (by decide) (by decide) (by decide) (by decide) (ad := "[C") (by decide)
      obtain ⟨b585, g585⟩ : ∃ z, z = h580.size := ⟨_, rfl⟩
      rw [← g585] at A585 B585 st585
      have ne588 : b580 ≠ b585 := Nat.ne_of_lt (Nat.lt_of_lt_of_le A580.lt (Nat.le_of_eq g585.symm))
      have ge589 : n0 ≤ b585 := Nat.le_trans z587 (Nat.le_of_eq g585.symm)
      have sz590 : h0.size ≤ b585 := Nat.le_trans k586.1 (Nat.le_of_eq g585.symm)
      refine Go.via (st585) ?_
      clear st585
      have f591 : Ia Z h585 b585 .char [(0 : Int32), (0 : Int32)] := Ia.new A585 rfl
      clear X580 e580
      show Go p e below (T585.setTop (mkF m 113 #[.val (.long y), .second, .val (.int (33 : Int32)), .val (.int (8 : Int32)), .val (.int (0 : Int32)), .val (.int (2 : Int32)), .val (.int (fdF y (35 : Int32) (8 : Int32))), .val (.int (fdF y (43 : Int32) (8 : Int32))), .val (.int ((fdF y (35 : Int32) (8 : Int32)).toUInt32.toUInt16.toUInt32.toInt32)), .val (.int ((fdF y (43 : Int32) (8 : Int32)).toUInt32.toUInt16.toUInt32.toInt32))] [(.ref b585), (.ref b580), (.ref b580)])) _
      refine Go.via (fun _ => XS.dup X585.here hx rfl (hb hby d2_113) rfl rfl) ?_
      refine Go.via (fun _ => XS.iconst X585.here hx rfl (hb hby d2_114)) ?_
      refine Go.via (fun _ => XS.iload X585.here hx rfl (hb hby d2_115) rfl) ?_
      obtain ⟨T592, h592, X592, e592, W592, V592, st592⟩ := stC' X585 hx hZ e585 f591 (j := (0 : Int32)) (by decide) (by first | decide | (simp only [List.length_cons, List.length_nil]; decide) | rfl) (g := (mkF m 117 #[.val (.long y), .second, .val (.int (33 : Int32)), .val (.int (8 : Int32)), .val (.int (0 : Int32)), .val (.int (2 : Int32)), .val (.int (fdF y (35 : Int32) (8 : Int32))), .val (.int (fdF y (43 : Int32) (8 : Int32))), .val (.int ((fdF y (35 : Int32) (8 : Int32)).toUInt32.toUInt16.toUInt32.toInt32)), .val (.int ((fdF y (43 : Int32) (8 : Int32)).toUInt32.toUInt16.toUInt32.toInt32))] [(.int ((fdF y (35 : Int32) (8 : Int32)).toUInt32.toUInt16.toUInt32.toInt32)), (.int (0 : Int32)), (.ref b585), (.ref b585), (.ref b580), (.ref b580)])) rfl rfl (hb hby d2_117)
      refine Go.via (st592) ?_
      clear st592
      have N592 := Fr.snoc X592 N0 ge589
      have f593 : Ia Z h592 b585 .char [(nar .char ((fdF y (35 : Int32) (8 : Int32)).toUInt32.toUInt16.toUInt32.toInt32)), (0 : Int32)] := V592
      clear X585 e585
      show Go p e below (T592.setTop (mkF m 118 #[.val (.long y), .second, .val (.int (33 : Int32)), .val (.int (8 : Int32)), .val (.int (0 : Int32)), .val (.int (2 : Int32)), .val (.int (fdF y (35 : Int32) (8 : Int32))), .val (.int (fdF y (43 : Int32) (8 : Int32))), .val (.int ((fdF y (35 : Int32) (8 : Int32)).toUInt32.toUInt16.toUInt32.toInt32)), .val (.int ((fdF y (43 : Int32) (8 : Int32)).toUInt32.toUInt16.toUInt32.toInt32))] [(.ref b585), (.ref b580), (.ref b580)])) _
      refine Go.via (fun _ => XS.dup X592.here hx rfl (hb hby d2_118) rfl rfl) ?_
      refine Go.via (fun _ => XS.iconst X592.here hx rfl (hb hby d2_119)) ?_
      refine Go.via (fun _ => XS.iload X592.here hx rfl (hb hby d2_120) rfl) ?_
      obtain ⟨T594, h594, X594, e594, W594, V594, st594⟩ := stC' X592 hx hZ e592 f593 (j := (1 : Int32)) (by decide) (by first | decide | (simp only [List.length_cons, List.length_nil]; decide) | rfl) (g := (mkF m 122 #[.val (.long y), .second, .val (.int (33 : Int32)), .val (.int (8 : Int32)), .val (.int (0 : Int32)), .val (.int (2 : Int32)), .val (.int (fdF y (35 : Int32) (8 : Int32))), .val (.int (fdF y (43 : Int32) (8 : Int32))), .val (.int ((fdF y (35 : Int32) (8 : Int32)).toUInt32.toUInt16.toUInt32.toInt32)), .val (.int ((fdF y (43 : Int32) (8 : Int32)).toUInt32.toUInt16.toUInt32.toInt32))] [(.int ((fdF y (43 : Int32) (8 : Int32)).toUInt32.toUInt16.toUInt32.toInt32)), (.int (1 : Int32)), (.ref b585), (.ref b585), (.ref b580), (.ref b580)])) rfl rfl (hb hby d2_122)
      refine Go.via (st594) ?_
      clear st594
      have N594 := Fr.snoc X594 N592 ge589
      have f595 : Ia Z h594 b585 .char [(nar .char ((fdF y (35 : Int32) (8 : Int32)).toUInt32.toUInt16.toUInt32.toInt32)), (nar .char ((fdF y (43 : Int32) (8 : Int32)).toUInt32.toUInt16.toUInt32.toInt32))] := V594
      clear X592 e592
      show Go p e below (T594.setTop (mkF m 123 #[.val (.long y), .second, .val (.int (33 : Int32)), .val (.int (8 : Int32)), .val (.int (0 : Int32)), .val (.int (2 : Int32)), .val (.int (fdF y (35 : Int32) (8 : Int32))), .val (.int (fdF y (43 : Int32) (8 : Int32))), .val (.int ((fdF y (35 : Int32) (8 : Int32)).toUInt32.toUInt16.toUInt32.toInt32)), .val (.int ((fdF y (43 : Int32) (8 : Int32)).toUInt32.toUInt16.toUInt32.toInt32))] [(.ref b585), (.ref b580), (.ref b580)])) _
      have f596 : Fld Z h594 b580 cST "coder" "B" (.int (0 : Int32)) := (((f584.ext E585).other W592 (Or.inl ne588)).other W594 (Or.inl ne588))
      have f597 : Fld Z h594 b580 cST "value" "[B" .null := (((f583.ext E585).other W592 (Or.inl ne588)).other W594 (Or.inl ne588))
      have f598 : Exa Z h594 b580 cST := (((A580.ext E585).wr W592).wr W594)
      have o599 : Old Z n0 h594 := ((((P0.ext E580).ext E585).wr W592 ge589).wr W594 ge589)
      have z601 : n0 ≤ h594.size := (Nat.le_trans (Nat.le_trans (Nat.le_trans z587 E585.1) (Keep.of_wr W592).1) (Keep.of_wr W594).1)
      obtain ⟨r600, _, ⟨T600, L600, k600, n600⟩, -, X600, ⟨Lc600, hQ600, l600, y600, z600⟩, st600⟩ := X594.specialBack hx (y := (⟨cST, "<init>", "([C)V"⟩ : MethodName)) rfl hown (mvT hZ (tw hw 22 rfl)) (mvT hZ (tw hw 23 rfl)) (mvT hZ (tw hw 24 rfl)) (by decide) (backOf (W := 1) (rmI1_2 l Z a0 hw [] b580 b585 (nar .char ((fdF y (35 : Int32) (8 : Int32)).toUInt32.toUInt16.toUInt32.toInt32)) (nar .char ((fdF y (43 : Int32) (8 : Int32)).toUInt32.toUInt16.toUInt32.toInt32)) cs h594 n0 z601 f596 f597 f598 f595 o599 zCS ge581 ne588 hcs (own_nl y (35 : Int32)) (own_nl y (43 : Int32))) hZ (tw hw 24 rfl) (tw hw 20 rfl) (by decide) (by decide)) (g := (mkF m 123 #[.val (.long y), .second, .val (.int (33 : Int32)), .val (.int (8 : Int32)), .val (.int (0 : Int32)), .val (.int (2 : Int32)), .val (.int (fdF y (35 : Int32) (8 : Int32))), .val (.int (fdF y (43 : Int32) (8 : Int32))), .val (.int ((fdF y (35 : Int32) (8 : Int32)).toUInt32.toUInt16.toUInt32.toInt32)), .val (.int ((fdF y (43 : Int32) (8 : Int32)).toUInt32.toUInt16.toUInt32.toInt32))] [(.ref b585), (.ref b580), (.ref b580)])) rfl (by rw [hml]; rfl) (Steps.refl _) (a := b580) (argsL := [(.ref b585)]) (rest := [(.ref b580)]) (lenOf pd__28_5bC_29V rfl) rfl (by show 2 * 0 + _ ≤ _; exact Nat.le_of_eq rfl) (hb hby d2_123) (fun _ _ => ⟨rfl, e594, (by decide : 2 + 1 ≤ _), (by decide : 6 + 2 ≤ _)⟩)
      dsimp only [Pt.U, Pt.locs, Pt.cells, Pt.slots] at X600 l600 y600 z600 st600 hQ600
      rw [l600, y600, z600] at X600
      clear l600 y600 z600
      obtain ⟨b602, hr600, N600q, K600q, fz_b602, f603, f604, f605, f606⟩ := hQ600
      rw [hr600] at st600
      clear hr600
      have N600 := Fr.app N594 N600q
      refine Go.via (fun _ kQ => st600.trans kQ) ?_
      clear st600
      have ne607 : b580 ≠ b602 := Nat.ne_of_lt (Nat.lt_of_lt_of_le f598.lt fz_b602)
      have ne608 : b585 ≠ b602 := Nat.ne_of_lt (Nat.lt_of_lt_of_le f595.lt fz_b602)
      have ge609 : n0 ≤ b602 := Nat.le_trans z601 fz_b602
      have k611 : Keep h0 h594 [] := (((k586.ext E585).wr W592 (Or.inr sz590)).wr W594 (Or.inr sz590))
      have sz610 : h0.size ≤ b602 := Nat.le_trans k611.1 fz_b602
      have e600 : T600.heap = T600.heap := rfl
      have f612 : Exa Z T600.heap b580 cST := f603
      have f613 : Fld Z T600.heap b580 cST "coder" "B" (.int (0 : Int32)) := f604
      have f614 : Fld Z T600.heap b580 cST "value" "[B" (.ref b602) := f605
      have f615 : Ia Z T600.heap b602 .byte [(nar .byte ((nar .char ((fdF y (35 : Int32) (8 : Int32)).toUInt32.toUInt16.toUInt32.toInt32)).toInt8.toInt32)), (nar .byte ((nar .char ((fdF y (43 : Int32) (8 : Int32)).toUInt32.toUInt16.toUInt32.toInt32)).toInt8.toInt32))] := f606
      clear X594 e594
      show Go p e below (T600.setTop (mkF m 126 #[.val (.long y), .second, .val (.int (33 : Int32)), .val (.int (8 : Int32)), .val (.int (0 : Int32)), .val (.int (2 : Int32)), .val (.int (fdF y (35 : Int32) (8 : Int32))), .val (.int (fdF y (43 : Int32) (8 : Int32))), .val (.int ((fdF y (35 : Int32) (8 : Int32)).toUInt32.toUInt16.toUInt32.toInt32)), .val (.int ((fdF y (43 : Int32) (8 : Int32)).toUInt32.toUInt16.toUInt32.toInt32))] [(.ref b580)])) _
      have k616 : Keep h0 T600.heap [] := (k611.trans K600q (allS (Or.inr sz582) all0))
      have em617 : Em Z s.vm T600.heap ["signature 1", "signature 2", "digest", "name"] := (Em.keep0 I0 k616)
      have hk618 : _ ≤ T600.heap.size := (Nat.le_trans (Nat.le_trans (Nat.le_trans (Nat.le_trans (Nat.le_trans hk0 E580.1) E585.1) (Keep.of_wr W592).1) (Keep.of_wr W594).1) K600q.1)
      exact Go.finW X600 hS0 (Nat.le_trans hk618 (Nat.le_of_eq (congrArg Array.size (Eq.symm e600)))) hlk (v := some (.ref b580)) (fun h => by rw [Bd.returns] at h; cases h) (fun fs hr => retOut X600 hx Bd.returns rfl (Or.inr (Or.inr (Or.inr (Or.inr ⟨rfl, rfl, rfl⟩)))) (hb hby d2_126) hr) (by exact ⟨b580, b602, rfl, N600, k616, sz582, f612, f613, f614, (by unfold nmF; rw [own_sF2 (show lnA y (33 : Int32) = (2 : Int32) from hv_ln)]; exact f615), Em.still em617 X600.warmed.interned_eq (w39 X600.warmed.wide)⟩) (by decide) (by decide)
theorem d18_0 : decode method_5_code 0 = .ok (.lload_n 0, 1) := by decide +kernel
theorem d18_1 : decode method_5_code 1 = .ok (.iload 4, 2) := by decide +kernel
theorem d18_3 : decode method_5_code 3 = .ok (.iconst 2, 1) := by decide +kernel
theorem d18_4 : decode method_5_code 4 = .ok (.invokestatic 39, 3) := by decide +kernel
theorem d18_7 : decode method_5_code 7 = .ok (.iconst 3, 1) := by decide +kernel
theorem d18_8 : decode method_5_code 8 = .ok (.irem, 1) := by decide +kernel
theorem d18_9 : decode method_5_code 9 = .ok (.istore 6, 2) := by decide +kernel
theorem d18_11 : decode method_5_code 11 = .ok (.lload_n 2, 1) := by decide +kernel
theorem d18_12 : decode method_5_code 12 = .ok (.iload 4, 2) := by decide +kernel
theorem d18_14 : decode method_5_code 14 = .ok (.iconst 2, 1) := by decide +kernel
theorem d18_15 : decode method_5_code 15 = .ok (.invokestatic 39, 3) := by decide +kernel
theorem d18_18 : decode method_5_code 18 = .ok (.iconst 3, 1) := by decide +kernel
theorem d18_19 : decode method_5_code 19 = .ok (.irem, 1) := by decide +kernel
theorem d18_20 : decode method_5_code 20 = .ok (.istore 7, 2) := by decide +kernel
theorem d18_22 : decode method_5_code 22 = .ok (.lload_n 0, 1) := by decide +kernel
theorem d18_23 : decode method_5_code 23 = .ok (.iload 4, 2) := by decide +kernel
theorem d18_25 : decode method_5_code 25 = .ok (.iconst 2, 1) := by decide +kernel
theorem d18_26 : decode method_5_code 26 = .ok (.iadd, 1) := by decide +kernel
theorem d18_27 : decode method_5_code 27 = .ok (.iload 5, 2) := by decide +kernel
theorem d18_29 : decode method_5_code 29 = .ok (.invokestatic 39, 3) := by decide +kernel
theorem d18_32 : decode method_5_code 32 = .ok (.istore 8, 2) := by decide +kernel
theorem d18_34 : decode method_5_code 34 = .ok (.lload_n 0, 1) := by decide +kernel
theorem d18_35 : decode method_5_code 35 = .ok (.iload 4, 2) := by decide +kernel
theorem d18_37 : decode method_5_code 37 = .ok (.iconst 2, 1) := by decide +kernel
theorem d18_38 : decode method_5_code 38 = .ok (.iadd, 1) := by decide +kernel
theorem d18_39 : decode method_5_code 39 = .ok (.iload 5, 2) := by decide +kernel
theorem d18_41 : decode method_5_code 41 = .ok (.iadd, 1) := by decide +kernel
theorem d18_42 : decode method_5_code 42 = .ok (.iload 5, 2) := by decide +kernel
theorem d18_44 : decode method_5_code 44 = .ok (.invokestatic 39, 3) := by decide +kernel
theorem d18_47 : decode method_5_code 47 = .ok (.istore 9, 2) := by decide +kernel
theorem d18_49 : decode method_5_code 49 = .ok (.lload_n 2, 1) := by decide +kernel
theorem d18_50 : decode method_5_code 50 = .ok (.iload 4, 2) := by decide +kernel
theorem d18_52 : decode method_5_code 52 = .ok (.iconst 2, 1) := by decide +kernel
theorem d18_53 : decode method_5_code 53 = .ok (.iadd, 1) := by decide +kernel
theorem d18_54 : decode method_5_code 54 = .ok (.iload 5, 2) := by decide +kernel
theorem d18_56 : decode method_5_code 56 = .ok (.invokestatic 39, 3) := by decide +kernel
theorem d18_59 : decode method_5_code 59 = .ok (.istore 10, 2) := by decide +kernel
theorem d18_61 : decode method_5_code 61 = .ok (.lload_n 2, 1) := by decide +kernel
theorem d18_62 : decode method_5_code 62 = .ok (.iload 4, 2) := by decide +kernel
theorem d18_64 : decode method_5_code 64 = .ok (.iconst 2, 1) := by decide +kernel
theorem d18_65 : decode method_5_code 65 = .ok (.iadd, 1) := by decide +kernel
theorem d18_66 : decode method_5_code 66 = .ok (.iload 5, 2) := by decide +kernel
theorem d18_68 : decode method_5_code 68 = .ok (.iadd, 1) := by decide +kernel
theorem d18_69 : decode method_5_code 69 = .ok (.iload 5, 2) := by decide +kernel
theorem d18_71 : decode method_5_code 71 = .ok (.invokestatic 39, 3) := by decide +kernel
theorem d18_74 : decode method_5_code 74 = .ok (.istore 11, 2) := by decide +kernel
theorem d18_76 : decode method_5_code 76 = .ok (.iload 6, 2) := by decide +kernel
theorem d18_78 : decode method_5_code 78 = .ok (.iload 7, 2) := by decide +kernel
theorem d18_80 : decode method_5_code 80 = .ok (.if_icmp .ne 33, 3) := by decide +kernel
theorem d18_83 : decode method_5_code 83 = .ok (.iload 6, 2) := by decide +kernel
theorem d18_85 : decode method_5_code 85 = .ok (.iconst 1, 1) := by decide +kernel
theorem d18_86 : decode method_5_code 86 = .ok (.if_icmp .lt 10, 3) := by decide +kernel
theorem d18_96 : decode method_5_code 96 = .ok (.iload 6, 2) := by decide +kernel
theorem d18_98 : decode method_5_code 98 = .ok (.iconst 2, 1) := by decide +kernel
theorem d18_99 : decode method_5_code 99 = .ok (.if_icmp .lt 10, 3) := by decide +kernel
theorem d18_109 : decode method_5_code 109 = .ok (.iconst 1, 1) := by decide +kernel
theorem d18_110 : decode method_5_code 110 = .ok (.goto 4, 3) := by decide +kernel
theorem d18_114 : decode method_5_code 114 = .ok (.ireturn, 1) := by decide +kernel
theorem d18_102 : decode method_5_code 102 = .ok (.iload 9, 2) := by decide +kernel
theorem d18_104 : decode method_5_code 104 = .ok (.iload 11, 2) := by decide +kernel
theorem d18_106 : decode method_5_code 106 = .ok (.if_icmp .ne 7, 3) := by decide +kernel
theorem d18_113 : decode method_5_code 113 = .ok (.iconst 0, 1) := by decide +kernel
theorem d18_89 : decode method_5_code 89 = .ok (.iload 8, 2) := by decide +kernel
theorem d18_91 : decode method_5_code 91 = .ok (.iload 10, 2) := by decide +kernel
theorem d18_93 : decode method_5_code 93 = .ok (.if_icmp .ne 20, 3) := by decide +kernel
theorem pn_18 : plainName cLAW = true := by first | (simp [plainName, overriddenIn]; done) | decide +kernel
theorem ef_18 (m : MethodId) (x0 : Int64) (x1 : Int64) (x2 : Int32) (x3 : Int32) : entryFrame m #[(.long x0), (.long x1), (.int x2), (.int x3)] 12 = mkF m 0 #[.val (.long x0), .second, .val (.long x1), .second, .val (.int x2), .val (.int x3), .unset, .unset, .unset, .unset, .unset, .unset] [] := by first | (simp [entryFrame, mkF, argsToLocals, Value.category]; done) | rfl
def Q_rmSs (Z : State) (y : Int64) (z : Int64) (ap : Int32) (wd : Int32)  (h0 : Heap) (n0 : Nat) (vQ : Option Value) (hQ : Heap) (LQ : List Loc) : Prop := vQ = some (.int (smF y z ap wd)) ∧ LQ = [] ∧ hQ = h0
set_option maxRecDepth 65536 in
set_option maxHeartbeats 40000000 in
theorem rmSs (l : Launch) (Z : State) (a0 : Array Value) (hw : ∀ d ∈ tables_1, d.before a0 Z = true) (ws : List Jvm.Cond) (y : Int64) (z : Int64) (ap : Int32) (wd : Int32)  (h0 : Heap) (n0 : Nat) (Z0 : n0 ≤ h0.size) :
    MetFree l (⟨cLAW, "same", "(JJII)Z"⟩ : MethodName) (head1 (Jvm.Cond.code (⟨cLAW, "same", "(JJII)Z"⟩ : MethodName) method_5_code 12 (some .boolean) :: ws) ({ frames := 1, cells := 0, slots := 0, locals := 15 } : Room)) (fun aQ UQ => aQ = #[(.long y), (.long z), (.int ap), (.int wd)] ∧ Z.Warmed39 UQ.vm ∧ UQ.heap = h0) (fun _ _ _ _ _ => True) (fun _ UQ oQ UR => ∃ vQ LQ, oQ = .returned vQ ∧ Q_rmSs Z y z ap wd  h0 n0 vQ UR.heap LQ ∧ FrameEnd UQ oQ UR LQ ({ frames := 1, cells := 0, slots := 0, locals := 15 } : Room).cells ({ frames := 1, cells := 0, slots := 0, locals := 15 } : Room).slots) := by
  refine MetFree.of_bodySF (plainFor_of_name pn_18) hisR ?_
  intro p e s m args below meth c s₁ Bd hml0 hP hK
  obtain ⟨rfl, hZ, hh⟩ := hP
  have hx := Bd.exec
  have hby := Bd.bytes
  have hlk := Bd.notSynchronized
  have hml : c.maxLocals = 12 := hml0
  have hown : s.vm.findClass cLAW = some m.cls := findClass_of_methodNamed Bd.named
  have hnm := (name_of_methodNamed Bd.named Bd.method).1
  have X0 : Stand p l e ({ frames := 1, cells := 0, slots := 0, locals := 15 } : Room) s m #[(.long y), (.long z), (.int ap), (.int wd)] below meth c s₁ [] 0 0 := Stand.of_body Bd
  have e0 : s₁.heap = h0 := by rw [← hh, Bd.state]; rfl
  have N0 := Fr.nil n0
  show Go p e below _ (Done s (Q_rmSs Z y z ap wd  h0 n0) ({ frames := 1, cells := 0, slots := 0, locals := 15 } : Room).cells ({ frames := 1, cells := 0, slots := 0, locals := 15 } : Room).slots)
  refine Go.via (fun tQ kQ => castTop (ef_18 m y z ap wd) kQ) ?_
  show Go p e below (s₁.setTop (mkF m 0 #[.val (.long y), .second, .val (.long z), .second, .val (.int ap), .val (.int wd), .unset, .unset, .unset, .unset, .unset, .unset] [])) _
  refine Go.via (fun _ => XS.lloadN X0.here hx rfl (hb hby d18_0) rfl) ?_
  refine Go.via (fun _ => XS.iload X0.here hx rfl (hb hby d18_1) rfl) ?_
  refine Go.via (fun _ => XS.iconst X0.here hx rfl (hb hby d18_3)) ?_
  obtain ⟨r619, _, ⟨T619, L619, k619, n619⟩, -, X619, ⟨Lc619, hQ619, l619, y619, z619⟩, st619⟩ := Jvm.LawKit.callS X0 hx (y := (⟨cLAW, "field", "(JII)I"⟩ : MethodName)) hown (mvT hZ (tw hw 12 rfl)) (mvT hZ (tw hw 13 rfl)) (mvT hZ (tw hw 6 rfl)) (mvT hZ (tw hw 14 rfl)) (by decide) (backOf (W := 0) (rmFd l Z a0 hw [] y ap (2 : Int32)  h0 n0 Z0) hZ (tw hw 14 rfl) (tw hw 6 rfl) (by decide) (by decide)) (g := (mkF m 4 #[.val (.long y), .second, .val (.long z), .second, .val (.int ap), .val (.int wd), .unset, .unset, .unset, .unset, .unset, .unset] [(.int (2 : Int32)), (.int ap), (.long y)])) rfl (by rw [hml]; rfl) (argsL := [(.long y), (.int ap), (.int (2 : Int32))]) (rest := []) (lenOf pd__28JII_29I rfl) rfl (by show 2 * 0 + _ ≤ _; exact Nat.le_of_eq rfl) (hb hby d18_4) (fun _ _ => ⟨rfl, e0, (by decide : 0 + 0 ≤ _), (by decide : 0 + 0 ≤ _)⟩)
  dsimp only [Pt.U, Pt.locs, Pt.cells, Pt.slots] at X619 l619 y619 z619 st619 hQ619
  rw [l619, y619, z619] at X619
  clear l619 y619 z619
  obtain ⟨hr619, N619q, eh619⟩ := hQ619
  rw [hr619] at st619
  clear hr619
  rw [N619q, List.append_nil] at X619
  refine Go.via (st619) ?_
  clear st619
  have e619 : T619.heap = h0 := eh619
  clear X0 e0
  show Go p e below (T619.setTop (mkF m 7 #[.val (.long y), .second, .val (.long z), .second, .val (.int ap), .val (.int wd), .unset, .unset, .unset, .unset, .unset, .unset] [(.int (fdF y ap (2 : Int32)))])) _
  refine Go.via (fun _ => XS.iconst X619.here hx rfl (hb hby d18_7)) ?_
  refine Go.via (fun _ => iremM X619 hx rfl (hb hby d18_8) rfl (by decide)) ?_
  show Go p e below (T619.setTop (mkF m 9 #[.val (.long y), .second, .val (.long z), .second, .val (.int ap), .val (.int wd), .unset, .unset, .unset, .unset, .unset, .unset] [(.int ((fdF y ap (2 : Int32)) % (3 : Int32)))])) _
  refine Go.via (fun _ => XS.istore X619.here hx rfl (hb hby d18_9) rfl (l' := #[.val (.long y), .second, .val (.long z), .second, .val (.int ap), .val (.int wd), .val (.int ((fdF y ap (2 : Int32)) % (3 : Int32))), .unset, .unset, .unset, .unset, .unset]) rfl) ?_
  show Go p e below (T619.setTop (mkF m 11 #[.val (.long y), .second, .val (.long z), .second, .val (.int ap), .val (.int wd), .val (.int ((fdF y ap (2 : Int32)) % (3 : Int32))), .unset, .unset, .unset, .unset, .unset] [])) _
  refine Go.via (fun _ => XS.lloadN X619.here hx rfl (hb hby d18_11) rfl) ?_
  refine Go.via (fun _ => XS.iload X619.here hx rfl (hb hby d18_12) rfl) ?_
  refine Go.via (fun _ => XS.iconst X619.here hx rfl (hb hby d18_14)) ?_
  obtain ⟨r620, _, ⟨T620, L620, k620, n620⟩, -, X620, ⟨Lc620, hQ620, l620, y620, z620⟩, st620⟩ := Jvm.LawKit.callS X619 hx (y := (⟨cLAW, "field", "(JII)I"⟩ : MethodName)) hown (mvT hZ (tw hw 12 rfl)) (mvT hZ (tw hw 13 rfl)) (mvT hZ (tw hw 6 rfl)) (mvT hZ (tw hw 14 rfl)) (by decide) (backOf (W := 0) (rmFd l Z a0 hw [] z ap (2 : Int32)  h0 n0 Z0) hZ (tw hw 14 rfl) (tw hw 6 rfl) (by decide) (by decide)) (g := (mkF m 15 #[.val (.long y), .second, .val (.long z), .second, .val (.int ap), .val (.int wd), .val (.int ((fdF y ap (2 : Int32)) % (3 : Int32))), .unset, .unset, .unset, .unset, .unset] [(.int (2 : Int32)), (.int ap), (.long z)])) rfl (by rw [hml]; rfl) (argsL := [(.long z), (.int ap), (.int (2 : Int32))]) (rest := []) (lenOf pd__28JII_29I rfl) rfl (by show 2 * 0 + _ ≤ _; exact Nat.le_of_eq rfl) (hb hby d18_15) (fun _ _ => ⟨rfl, e619, (by decide : 0 + 0 ≤ _), (by decide : 0 + 0 ≤ _)⟩)
  dsimp only [Pt.U, Pt.locs, Pt.cells, Pt.slots] at X620 l620 y620 z620 st620 hQ620
  rw [l620, y620, z620] at X620
  clear l620 y620 z620
  obtain ⟨hr620, N620q, eh620⟩ := hQ620
  rw [hr620] at st620
  clear hr620
  rw [N620q, List.append_nil] at X620
  refine Go.via (st620) ?_
  clear st620
  have e620 : T620.heap = h0 := eh620
  clear X619 e619
  show Go p e below (T620.setTop (mkF m 18 #[.val (.long y), .second, .val (.long z), .second, .val (.int ap), .val (.int wd), .val (.int ((fdF y ap (2 : Int32)) % (3 : Int32))), .unset, .unset, .unset, .unset, .unset] [(.int (fdF z ap (2 : Int32)))])) _
  refine Go.via (fun _ => XS.iconst X620.here hx rfl (hb hby d18_18)) ?_
  refine Go.via (fun _ => iremM X620 hx rfl (hb hby d18_19) rfl (by decide)) ?_
  show Go p e below (T620.setTop (mkF m 20 #[.val (.long y), .second, .val (.long z), .second, .val (.int ap), .val (.int wd), .val (.int ((fdF y ap (2 : Int32)) % (3 : Int32))), .unset, .unset, .unset, .unset, .unset] [(.int ((fdF z ap (2 : Int32)) % (3 : Int32)))])) _
  refine Go.via (fun _ => XS.istore X620.here hx rfl (hb hby d18_20) rfl (l' := #[.val (.long y), .second, .val (.long z), .second, .val (.int ap), .val (.int wd), .val (.int ((fdF y ap (2 : Int32)) % (3 : Int32))), .val (.int ((fdF z ap (2 : Int32)) % (3 : Int32))), .unset, .unset, .unset, .unset]) rfl) ?_
  show Go p e below (T620.setTop (mkF m 22 #[.val (.long y), .second, .val (.long z), .second, .val (.int ap), .val (.int wd), .val (.int ((fdF y ap (2 : Int32)) % (3 : Int32))), .val (.int ((fdF z ap (2 : Int32)) % (3 : Int32))), .unset, .unset, .unset, .unset] [])) _
  refine Go.via (fun _ => XS.lloadN X620.here hx rfl (hb hby d18_22) rfl) ?_
  refine Go.via (fun _ => XS.iload X620.here hx rfl (hb hby d18_23) rfl) ?_
  refine Go.via (fun _ => XS.iconst X620.here hx rfl (hb hby d18_25)) ?_
  refine Go.via (fun _ => XS.iadd X620.here hx rfl (hb hby d18_26) rfl) ?_
  show Go p e below (T620.setTop (mkF m 27 #[.val (.long y), .second, .val (.long z), .second, .val (.int ap), .val (.int wd), .val (.int ((fdF y ap (2 : Int32)) % (3 : Int32))), .val (.int ((fdF z ap (2 : Int32)) % (3 : Int32))), .unset, .unset, .unset, .unset] [(.int (ap + (2 : Int32))), (.long y)])) _
  refine Go.via (fun _ => XS.iload X620.here hx rfl (hb hby d18_27) rfl) ?_
  obtain ⟨r621, _, ⟨T621, L621, k621, n621⟩, -, X621, ⟨Lc621, hQ621, l621, y621, z621⟩, st621⟩ := Jvm.LawKit.callS X620 hx (y := (⟨cLAW, "field", "(JII)I"⟩ : MethodName)) hown (mvT hZ (tw hw 12 rfl)) (mvT hZ (tw hw 13 rfl)) (mvT hZ (tw hw 6 rfl)) (mvT hZ (tw hw 14 rfl)) (by decide) (backOf (W := 0) (rmFd l Z a0 hw [] y (ap + (2 : Int32)) wd  h0 n0 Z0) hZ (tw hw 14 rfl) (tw hw 6 rfl) (by decide) (by decide)) (g := (mkF m 29 #[.val (.long y), .second, .val (.long z), .second, .val (.int ap), .val (.int wd), .val (.int ((fdF y ap (2 : Int32)) % (3 : Int32))), .val (.int ((fdF z ap (2 : Int32)) % (3 : Int32))), .unset, .unset, .unset, .unset] [(.int wd), (.int (ap + (2 : Int32))), (.long y)])) rfl (by rw [hml]; rfl) (argsL := [(.long y), (.int (ap + (2 : Int32))), (.int wd)]) (rest := []) (lenOf pd__28JII_29I rfl) rfl (by show 2 * 0 + _ ≤ _; exact Nat.le_of_eq rfl) (hb hby d18_29) (fun _ _ => ⟨rfl, e620, (by decide : 0 + 0 ≤ _), (by decide : 0 + 0 ≤ _)⟩)
  dsimp only [Pt.U, Pt.locs, Pt.cells, Pt.slots] at X621 l621 y621 z621 st621 hQ621
  rw [l621, y621, z621] at X621
  clear l621 y621 z621
  obtain ⟨hr621, N621q, eh621⟩ := hQ621
  rw [hr621] at st621
  clear hr621
  rw [N621q, List.append_nil] at X621
  refine Go.via (st621) ?_
  clear st621
  have e621 : T621.heap = h0 := eh621
  clear X620 e620
  show Go p e below (T621.setTop (mkF m 32 #[.val (.long y), .second, .val (.long z), .second, .val (.int ap), .val (.int wd), .val (.int ((fdF y ap (2 : Int32)) % (3 : Int32))), .val (.int ((fdF z ap (2 : Int32)) % (3 : Int32))), .unset, .unset, .unset, .unset] [(.int (fdF y (ap + (2 : Int32)) wd))])) _
  refine Go.via (fun _ => XS.istore X621.here hx rfl (hb hby d18_32) rfl (l' := #[.val (.long y), .second, .val (.long z), .second, .val (.int ap), .val (.int wd), .val (.int ((fdF y ap (2 : Int32)) % (3 : Int32))), .val (.int ((fdF z ap (2 : Int32)) % (3 : Int32))), .val (.int (fdF y (ap + (2 : Int32)) wd)), .unset, .unset, .unset]) rfl) ?_
  show Go p e below (T621.setTop (mkF m 34 #[.val (.long y), .second, .val (.long z), .second, .val (.int ap), .val (.int wd), .val (.int ((fdF y ap (2 : Int32)) % (3 : Int32))), .val (.int ((fdF z ap (2 : Int32)) % (3 : Int32))), .val (.int (fdF y (ap + (2 : Int32)) wd)), .unset, .unset, .unset] [])) _
  refine Go.via (fun _ => XS.lloadN X621.here hx rfl (hb hby d18_34) rfl) ?_
  refine Go.via (fun _ => XS.iload X621.here hx rfl (hb hby d18_35) rfl) ?_
  refine Go.via (fun _ => XS.iconst X621.here hx rfl (hb hby d18_37)) ?_
  refine Go.via (fun _ => XS.iadd X621.here hx rfl (hb hby d18_38) rfl) ?_
  show Go p e below (T621.setTop (mkF m 39 #[.val (.long y), .second, .val (.long z), .second, .val (.int ap), .val (.int wd), .val (.int ((fdF y ap (2 : Int32)) % (3 : Int32))), .val (.int ((fdF z ap (2 : Int32)) % (3 : Int32))), .val (.int (fdF y (ap + (2 : Int32)) wd)), .unset, .unset, .unset] [(.int (ap + (2 : Int32))), (.long y)])) _
  refine Go.via (fun _ => XS.iload X621.here hx rfl (hb hby d18_39) rfl) ?_
  refine Go.via (fun _ => XS.iadd X621.here hx rfl (hb hby d18_41) rfl) ?_
  show Go p e below (T621.setTop (mkF m 42 #[.val (.long y), .second, .val (.long z), .second, .val (.int ap), .val (.int wd), .val (.int ((fdF y ap (2 : Int32)) % (3 : Int32))), .val (.int ((fdF z ap (2 : Int32)) % (3 : Int32))), .val (.int (fdF y (ap + (2 : Int32)) wd)), .unset, .unset, .unset] [(.int ((ap + (2 : Int32)) + wd)), (.long y)])) _
  refine Go.via (fun _ => XS.iload X621.here hx rfl (hb hby d18_42) rfl) ?_
  obtain ⟨r622, _, ⟨T622, L622, k622, n622⟩, -, X622, ⟨Lc622, hQ622, l622, y622, z622⟩, st622⟩ := Jvm.LawKit.callS X621 hx (y := (⟨cLAW, "field", "(JII)I"⟩ : MethodName)) hown (mvT hZ (tw hw 12 rfl)) (mvT hZ (tw hw 13 rfl)) (mvT hZ (tw hw 6 rfl)) (mvT hZ (tw hw 14 rfl)) (by decide) (backOf (W := 0) (rmFd l Z a0 hw [] y ((ap + (2 : Int32)) + wd) wd  h0 n0 Z0) hZ (tw hw 14 rfl) (tw hw 6 rfl) (by decide) (by decide)) (g := (mkF m 44 #[.val (.long y), .second, .val (.long z), .second, .val (.int ap), .val (.int wd), .val (.int ((fdF y ap (2 : Int32)) % (3 : Int32))), .val (.int ((fdF z ap (2 : Int32)) % (3 : Int32))), .val (.int (fdF y (ap + (2 : Int32)) wd)), .unset, .unset, .unset] [(.int wd), (.int ((ap + (2 : Int32)) + wd)), (.long y)])) rfl (by rw [hml]; rfl) (argsL := [(.long y), (.int ((ap + (2 : Int32)) + wd)), (.int wd)]) (rest := []) (lenOf pd__28JII_29I rfl) rfl (by show 2 * 0 + _ ≤ _; exact Nat.le_of_eq rfl) (hb hby d18_44) (fun _ _ => ⟨rfl, e621, (by decide : 0 + 0 ≤ _), (by decide : 0 + 0 ≤ _)⟩)
  dsimp only [Pt.U, Pt.locs, Pt.cells, Pt.slots] at X622 l622 y622 z622 st622 hQ622
  rw [l622, y622, z622] at X622
  clear l622 y622 z622
  obtain ⟨hr622, N622q, eh622⟩ := hQ622
  rw [hr622] at st622
  clear hr622
  rw [N622q, List.append_nil] at X622
  refine Go.via (st622) ?_
  clear st622
  have e622 : T622.heap = h0 := eh622
  clear X621 e621
  show Go p e below (T622.setTop (mkF m 47 #[.val (.long y), .second, .val (.long z), .second, .val (.int ap), .val (.int wd), .val (.int ((fdF y ap (2 : Int32)) % (3 : Int32))), .val (.int ((fdF z ap (2 : Int32)) % (3 : Int32))), .val (.int (fdF y (ap + (2 : Int32)) wd)), .unset, .unset, .unset] [(.int (fdF y ((ap + (2 : Int32)) + wd) wd))])) _
  refine Go.via (fun _ => XS.istore X622.here hx rfl (hb hby d18_47) rfl (l' := #[.val (.long y), .second, .val (.long z), .second, .val (.int ap), .val (.int wd), .val (.int ((fdF y ap (2 : Int32)) % (3 : Int32))), .val (.int ((fdF z ap (2 : Int32)) % (3 : Int32))), .val (.int (fdF y (ap + (2 : Int32)) wd)), .val (.int (fdF y ((ap + (2 : Int32)) + wd) wd)), .unset, .unset]) rfl) ?_
  show Go p e below (T622.setTop (mkF m 49 #[.val (.long y), .second, .val (.long z), .second, .val (.int ap), .val (.int wd), .val (.int ((fdF y ap (2 : Int32)) % (3 : Int32))), .val (.int ((fdF z ap (2 : Int32)) % (3 : Int32))), .val (.int (fdF y (ap + (2 : Int32)) wd)), .val (.int (fdF y ((ap + (2 : Int32)) + wd) wd)), .unset, .unset] [])) _
  refine Go.via (fun _ => XS.lloadN X622.here hx rfl (hb hby d18_49) rfl) ?_
  refine Go.via (fun _ => XS.iload X622.here hx rfl (hb hby d18_50) rfl) ?_
  refine Go.via (fun _ => XS.iconst X622.here hx rfl (hb hby d18_52)) ?_
  refine Go.via (fun _ => XS.iadd X622.here hx rfl (hb hby d18_53) rfl) ?_
  show Go p e below (T622.setTop (mkF m 54 #[.val (.long y), .second, .val (.long z), .second, .val (.int ap), .val (.int wd), .val (.int ((fdF y ap (2 : Int32)) % (3 : Int32))), .val (.int ((fdF z ap (2 : Int32)) % (3 : Int32))), .val (.int (fdF y (ap + (2 : Int32)) wd)), .val (.int (fdF y ((ap + (2 : Int32)) + wd) wd)), .unset, .unset] [(.int (ap + (2 : Int32))), (.long z)])) _
  refine Go.via (fun _ => XS.iload X622.here hx rfl (hb hby d18_54) rfl) ?_
  obtain ⟨r623, _, ⟨T623, L623, k623, n623⟩, -, X623, ⟨Lc623, hQ623, l623, y623, z623⟩, st623⟩ := Jvm.LawKit.callS X622 hx (y := (⟨cLAW, "field", "(JII)I"⟩ : MethodName)) hown (mvT hZ (tw hw 12 rfl)) (mvT hZ (tw hw 13 rfl)) (mvT hZ (tw hw 6 rfl)) (mvT hZ (tw hw 14 rfl)) (by decide) (backOf (W := 0) (rmFd l Z a0 hw [] z (ap + (2 : Int32)) wd  h0 n0 Z0) hZ (tw hw 14 rfl) (tw hw 6 rfl) (by decide) (by decide)) (g := (mkF m 56 #[.val (.long y), .second, .val (.long z), .second, .val (.int ap), .val (.int wd), .val (.int ((fdF y ap (2 : Int32)) % (3 : Int32))), .val (.int ((fdF z ap (2 : Int32)) % (3 : Int32))), .val (.int (fdF y (ap + (2 : Int32)) wd)), .val (.int (fdF y ((ap + (2 : Int32)) + wd) wd)), .unset, .unset] [(.int wd), (.int (ap + (2 : Int32))), (.long z)])) rfl (by rw [hml]; rfl) (argsL := [(.long z), (.int (ap + (2 : Int32))), (.int wd)]) (rest := []) (lenOf pd__28JII_29I rfl) rfl (by show 2 * 0 + _ ≤ _; exact Nat.le_of_eq rfl) (hb hby d18_56) (fun _ _ => ⟨rfl, e622, (by decide : 0 + 0 ≤ _), (by decide : 0 + 0 ≤ _)⟩)
  dsimp only [Pt.U, Pt.locs, Pt.cells, Pt.slots] at X623 l623 y623 z623 st623 hQ623
  rw [l623, y623, z623] at X623
  clear l623 y623 z623
  obtain ⟨hr623, N623q, eh623⟩ := hQ623
  rw [hr623] at st623
  clear hr623
  rw [N623q, List.append_nil] at X623
  refine Go.via (st623) ?_
  clear st623
  have e623 : T623.heap = h0 := eh623
  clear X622 e622
  show Go p e below (T623.setTop (mkF m 59 #[.val (.long y), .second, .val (.long z), .second, .val (.int ap), .val (.int wd), .val (.int ((fdF y ap (2 : Int32)) % (3 : Int32))), .val (.int ((fdF z ap (2 : Int32)) % (3 : Int32))), .val (.int (fdF y (ap + (2 : Int32)) wd)), .val (.int (fdF y ((ap + (2 : Int32)) + wd) wd)), .unset, .unset] [(.int (fdF z (ap + (2 : Int32)) wd))])) _
  refine Go.via (fun _ => XS.istore X623.here hx rfl (hb hby d18_59) rfl (l' := #[.val (.long y), .second, .val (.long z), .second, .val (.int ap), .val (.int wd), .val (.int ((fdF y ap (2 : Int32)) % (3 : Int32))), .val (.int ((fdF z ap (2 : Int32)) % (3 : Int32))), .val (.int (fdF y (ap + (2 : Int32)) wd)), .val (.int (fdF y ((ap + (2 : Int32)) + wd) wd)), .val (.int (fdF z (ap + (2 : Int32)) wd)), .unset]) rfl) ?_
  show Go p e below (T623.setTop (mkF m 61 #[.val (.long y), .second, .val (.long z), .second, .val (.int ap), .val (.int wd), .val (.int ((fdF y ap (2 : Int32)) % (3 : Int32))), .val (.int ((fdF z ap (2 : Int32)) % (3 : Int32))), .val (.int (fdF y (ap + (2 : Int32)) wd)), .val (.int (fdF y ((ap + (2 : Int32)) + wd) wd)), .val (.int (fdF z (ap + (2 : Int32)) wd)), .unset] [])) _
  refine Go.via (fun _ => XS.lloadN X623.here hx rfl (hb hby d18_61) rfl) ?_
  refine Go.via (fun _ => XS.iload X623.here hx rfl (hb hby d18_62) rfl) ?_
  refine Go.via (fun _ => XS.iconst X623.here hx rfl (hb hby d18_64)) ?_
  refine Go.via (fun _ => XS.iadd X623.here hx rfl (hb hby d18_65) rfl) ?_
  show Go p e below (T623.setTop (mkF m 66 #[.val (.long y), .second, .val (.long z), .second, .val (.int ap), .val (.int wd), .val (.int ((fdF y ap (2 : Int32)) % (3 : Int32))), .val (.int ((fdF z ap (2 : Int32)) % (3 : Int32))), .val (.int (fdF y (ap + (2 : Int32)) wd)), .val (.int (fdF y ((ap + (2 : Int32)) + wd) wd)), .val (.int (fdF z (ap + (2 : Int32)) wd)), .unset] [(.int (ap + (2 : Int32))), (.long z)])) _
  refine Go.via (fun _ => XS.iload X623.here hx rfl (hb hby d18_66) rfl) ?_
  refine Go.via (fun _ => XS.iadd X623.here hx rfl (hb hby d18_68) rfl) ?_
  show Go p e below (T623.setTop (mkF m 69 #[.val (.long y), .second, .val (.long z), .second, .val (.int ap), .val (.int wd), .val (.int ((fdF y ap (2 : Int32)) % (3 : Int32))), .val (.int ((fdF z ap (2 : Int32)) % (3 : Int32))), .val (.int (fdF y (ap + (2 : Int32)) wd)), .val (.int (fdF y ((ap + (2 : Int32)) + wd) wd)), .val (.int (fdF z (ap + (2 : Int32)) wd)), .unset] [(.int ((ap + (2 : Int32)) + wd)), (.long z)])) _
  refine Go.via (fun _ => XS.iload X623.here hx rfl (hb hby d18_69) rfl) ?_
  obtain ⟨r624, _, ⟨T624, L624, k624, n624⟩, -, X624, ⟨Lc624, hQ624, l624, y624, z624⟩, st624⟩ := Jvm.LawKit.callS X623 hx (y := (⟨cLAW, "field", "(JII)I"⟩ : MethodName)) hown (mvT hZ (tw hw 12 rfl)) (mvT hZ (tw hw 13 rfl)) (mvT hZ (tw hw 6 rfl)) (mvT hZ (tw hw 14 rfl)) (by decide) (backOf (W := 0) (rmFd l Z a0 hw [] z ((ap + (2 : Int32)) + wd) wd  h0 n0 Z0) hZ (tw hw 14 rfl) (tw hw 6 rfl) (by decide) (by decide)) (g := (mkF m 71 #[.val (.long y), .second, .val (.long z), .second, .val (.int ap), .val (.int wd), .val (.int ((fdF y ap (2 : Int32)) % (3 : Int32))), .val (.int ((fdF z ap (2 : Int32)) % (3 : Int32))), .val (.int (fdF y (ap + (2 : Int32)) wd)), .val (.int (fdF y ((ap + (2 : Int32)) + wd) wd)), .val (.int (fdF z (ap + (2 : Int32)) wd)), .unset] [(.int wd), (.int ((ap + (2 : Int32)) + wd)), (.long z)])) rfl (by rw [hml]; rfl) (argsL := [(.long z), (.int ((ap + (2 : Int32)) + wd)), (.int wd)]) (rest := []) (lenOf pd__28JII_29I rfl) rfl (by show 2 * 0 + _ ≤ _; exact Nat.le_of_eq rfl) (hb hby d18_71) (fun _ _ => ⟨rfl, e623, (by decide : 0 + 0 ≤ _), (by decide : 0 + 0 ≤ _)⟩)
  dsimp only [Pt.U, Pt.locs, Pt.cells, Pt.slots] at X624 l624 y624 z624 st624 hQ624
  rw [l624, y624, z624] at X624
  clear l624 y624 z624
  obtain ⟨hr624, N624q, eh624⟩ := hQ624
  rw [hr624] at st624
  clear hr624
  rw [N624q, List.append_nil] at X624
  refine Go.via (st624) ?_
  clear st624
  have e624 : T624.heap = h0 := eh624
  clear X623 e623
  show Go p e below (T624.setTop (mkF m 74 #[.val (.long y), .second, .val (.long z), .second, .val (.int ap), .val (.int wd), .val (.int ((fdF y ap (2 : Int32)) % (3 : Int32))), .val (.int ((fdF z ap (2 : Int32)) % (3 : Int32))), .val (.int (fdF y (ap + (2 : Int32)) wd)), .val (.int (fdF y ((ap + (2 : Int32)) + wd) wd)), .val (.int (fdF z (ap + (2 : Int32)) wd)), .unset] [(.int (fdF z ((ap + (2 : Int32)) + wd) wd))])) _
  refine Go.via (fun _ => XS.istore X624.here hx rfl (hb hby d18_74) rfl (l' := #[.val (.long y), .second, .val (.long z), .second, .val (.int ap), .val (.int wd), .val (.int ((fdF y ap (2 : Int32)) % (3 : Int32))), .val (.int ((fdF z ap (2 : Int32)) % (3 : Int32))), .val (.int (fdF y (ap + (2 : Int32)) wd)), .val (.int (fdF y ((ap + (2 : Int32)) + wd) wd)), .val (.int (fdF z (ap + (2 : Int32)) wd)), .val (.int (fdF z ((ap + (2 : Int32)) + wd) wd))]) rfl) ?_
  show Go p e below (T624.setTop (mkF m 76 #[.val (.long y), .second, .val (.long z), .second, .val (.int ap), .val (.int wd), .val (.int ((fdF y ap (2 : Int32)) % (3 : Int32))), .val (.int ((fdF z ap (2 : Int32)) % (3 : Int32))), .val (.int (fdF y (ap + (2 : Int32)) wd)), .val (.int (fdF y ((ap + (2 : Int32)) + wd) wd)), .val (.int (fdF z (ap + (2 : Int32)) wd)), .val (.int (fdF z ((ap + (2 : Int32)) + wd) wd))] [])) _
  refine Go.via (fun _ => XS.iload X624.here hx rfl (hb hby d18_76) rfl) ?_
  refine Go.via (fun _ => XS.iload X624.here hx rfl (hb hby d18_78) rfl) ?_
  by_cases hc625 : ((fdF y ap (2 : Int32)) % (3 : Int32)) = ((fdF z ap (2 : Int32)) % (3 : Int32))
  · refine Go.via (fun _ => XS.icmpNo X624.here hx rfl (hb hby d18_80) rfl (teq (hc625 : ((fdF y ap (2 : Int32)) % (3 : Int32)) = ((fdF z ap (2 : Int32)) % (3 : Int32)))).2) ?_
    refine Go.via (fun _ => XS.iload X624.here hx rfl (hb hby d18_83) rfl) ?_
    refine Go.via (fun _ => XS.iconst X624.here hx rfl (hb hby d18_85)) ?_
    show Go p e below (T624.setTop (mkF m 86 #[.val (.long y), .second, .val (.long z), .second, .val (.int ap), .val (.int wd), .val (.int ((fdF y ap (2 : Int32)) % (3 : Int32))), .val (.int ((fdF z ap (2 : Int32)) % (3 : Int32))), .val (.int (fdF y (ap + (2 : Int32)) wd)), .val (.int (fdF y ((ap + (2 : Int32)) + wd) wd)), .val (.int (fdF z (ap + (2 : Int32)) wd)), .val (.int (fdF z ((ap + (2 : Int32)) + wd) wd))] [(.int (1 : Int32)), (.int ((fdF y ap (2 : Int32)) % (3 : Int32)))])) _
    by_cases hc626 : ((fdF y ap (2 : Int32)) % (3 : Int32)) < (1 : Int32)
    · refine Go.via (fun _ => XS.icmpYes X624.here hx rfl (pc0 := 86) (pc' := 96) rfl (hb hby d18_86) rfl (tlt (hc626 : ((fdF y ap (2 : Int32)) % (3 : Int32)) < (1 : Int32))).1 (by decide) (by decide)) ?_
      show Go p e below (T624.setTop (mkF m 96 #[.val (.long y), .second, .val (.long z), .second, .val (.int ap), .val (.int wd), .val (.int ((fdF y ap (2 : Int32)) % (3 : Int32))), .val (.int ((fdF z ap (2 : Int32)) % (3 : Int32))), .val (.int (fdF y (ap + (2 : Int32)) wd)), .val (.int (fdF y ((ap + (2 : Int32)) + wd) wd)), .val (.int (fdF z (ap + (2 : Int32)) wd)), .val (.int (fdF z ((ap + (2 : Int32)) + wd) wd))] [])) _
      refine Go.via (fun _ => XS.iload X624.here hx rfl (hb hby d18_96) rfl) ?_
      refine Go.via (fun _ => XS.iconst X624.here hx rfl (hb hby d18_98)) ?_
      by_cases hc627 : ((fdF y ap (2 : Int32)) % (3 : Int32)) < (2 : Int32)
      · refine Go.via (fun _ => XS.icmpYes X624.here hx rfl (pc0 := 99) (pc' := 109) rfl (hb hby d18_99) rfl (tlt (hc627 : ((fdF y ap (2 : Int32)) % (3 : Int32)) < (2 : Int32))).1 (by decide) (by decide)) ?_
        refine Go.via (fun _ => XS.iconst X624.here hx rfl (hb hby d18_109)) ?_
        refine Go.via (fun _ => XS.goto X624.here hx rfl (pc0 := 110) (pc' := 114) rfl (hb hby d18_110) (by decide) (by decide)) ?_
        show Go p e below (T624.setTop (mkF m 114 #[.val (.long y), .second, .val (.long z), .second, .val (.int ap), .val (.int wd), .val (.int ((fdF y ap (2 : Int32)) % (3 : Int32))), .val (.int ((fdF z ap (2 : Int32)) % (3 : Int32))), .val (.int (fdF y (ap + (2 : Int32)) wd)), .val (.int (fdF y ((ap + (2 : Int32)) + wd) wd)), .val (.int (fdF z (ap + (2 : Int32)) wd)), .val (.int (fdF z ((ap + (2 : Int32)) + wd) wd))] [(.int (1 : Int32))])) _
        exact Go.fin X624 hlk (v := some (.int (1 : Int32))) (fun h => by rw [Bd.returns] at h; cases h) (fun fs hr => retN X624 hx (t := .boolean) Bd.returns (by simp) (hb hby d18_114) hr) (by rw [e624]; exact ⟨(congrArg (fun qq => some (Value.int qq)) (Eq.symm ((if_pos hc625).trans ((if_pos hc626).trans ((if_pos hc627).trans rfl))))), rfl, rfl⟩) (by decide) (by decide)
      · refine Go.via (fun _ => XS.icmpNo X624.here hx rfl (hb hby d18_99) rfl (flt (hc627 : ¬ (((fdF y ap (2 : Int32)) % (3 : Int32)) < (2 : Int32)))).1) ?_
        refine Go.via (fun _ => XS.iload X624.here hx rfl (hb hby d18_102) rfl) ?_
        refine Go.via (fun _ => XS.iload X624.here hx rfl (hb hby d18_104) rfl) ?_
        show Go p e below (T624.setTop (mkF m 106 #[.val (.long y), .second, .val (.long z), .second, .val (.int ap), .val (.int wd), .val (.int ((fdF y ap (2 : Int32)) % (3 : Int32))), .val (.int ((fdF z ap (2 : Int32)) % (3 : Int32))), .val (.int (fdF y (ap + (2 : Int32)) wd)), .val (.int (fdF y ((ap + (2 : Int32)) + wd) wd)), .val (.int (fdF z (ap + (2 : Int32)) wd)), .val (.int (fdF z ((ap + (2 : Int32)) + wd) wd))] [(.int (fdF z ((ap + (2 : Int32)) + wd) wd)), (.int (fdF y ((ap + (2 : Int32)) + wd) wd))])) _
        by_cases hc628 : (fdF y ((ap + (2 : Int32)) + wd) wd) = (fdF z ((ap + (2 : Int32)) + wd) wd)
        · refine Go.via (fun _ => XS.icmpNo X624.here hx rfl (hb hby d18_106) rfl (teq (hc628 : (fdF y ((ap + (2 : Int32)) + wd) wd) = (fdF z ((ap + (2 : Int32)) + wd) wd))).2) ?_
          show Go p e below (T624.setTop (mkF m 109 #[.val (.long y), .second, .val (.long z), .second, .val (.int ap), .val (.int wd), .val (.int ((fdF y ap (2 : Int32)) % (3 : Int32))), .val (.int ((fdF z ap (2 : Int32)) % (3 : Int32))), .val (.int (fdF y (ap + (2 : Int32)) wd)), .val (.int (fdF y ((ap + (2 : Int32)) + wd) wd)), .val (.int (fdF z (ap + (2 : Int32)) wd)), .val (.int (fdF z ((ap + (2 : Int32)) + wd) wd))] [])) _
          refine Go.via (fun _ => XS.iconst X624.here hx rfl (hb hby d18_109)) ?_
          refine Go.via (fun _ => XS.goto X624.here hx rfl (pc0 := 110) (pc' := 114) rfl (hb hby d18_110) (by decide) (by decide)) ?_
          exact Go.fin X624 hlk (v := some (.int (1 : Int32))) (fun h => by rw [Bd.returns] at h; cases h) (fun fs hr => retN X624 hx (t := .boolean) Bd.returns (by simp) (hb hby d18_114) hr) (by rw [e624]; exact ⟨(congrArg (fun qq => some (Value.int qq)) (Eq.symm ((if_pos hc625).trans ((if_pos hc626).trans ((if_neg hc627).trans ((if_pos hc628).trans rfl)))))), rfl, rfl⟩) (by decide) (by decide)
        · refine Go.via (fun _ => XS.icmpYes X624.here hx rfl (pc0 := 106) (pc' := 113) rfl (hb hby d18_106) rfl (feq (hc628 : ¬ ((fdF y ((ap + (2 : Int32)) + wd) wd) = (fdF z ((ap + (2 : Int32)) + wd) wd)))).2 (by decide) (by decide)) ?_
          show Go p e below (T624.setTop (mkF m 113 #[.val (.long y), .second, .val (.long z), .second, .val (.int ap), .val (.int wd), .val (.int ((fdF y ap (2 : Int32)) % (3 : Int32))), .val (.int ((fdF z ap (2 : Int32)) % (3 : Int32))), .val (.int (fdF y (ap + (2 : Int32)) wd)), .val (.int (fdF y ((ap + (2 : Int32)) + wd) wd)), .val (.int (fdF z (ap + (2 : Int32)) wd)), .val (.int (fdF z ((ap + (2 : Int32)) + wd) wd))] [])) _
          refine Go.via (fun _ => XS.iconst X624.here hx rfl (hb hby d18_113)) ?_
          exact Go.fin X624 hlk (v := some (.int (0 : Int32))) (fun h => by rw [Bd.returns] at h; cases h) (fun fs hr => retN X624 hx (t := .boolean) Bd.returns (by simp) (hb hby d18_114) hr) (by rw [e624]; exact ⟨(congrArg (fun qq => some (Value.int qq)) (Eq.symm ((if_pos hc625).trans ((if_pos hc626).trans ((if_neg hc627).trans ((if_neg hc628).trans rfl)))))), rfl, rfl⟩) (by decide) (by decide)
    · refine Go.via (fun _ => XS.icmpNo X624.here hx rfl (hb hby d18_86) rfl (flt (hc626 : ¬ (((fdF y ap (2 : Int32)) % (3 : Int32)) < (1 : Int32)))).1) ?_
      show Go p e below (T624.setTop (mkF m 89 #[.val (.long y), .second, .val (.long z), .second, .val (.int ap), .val (.int wd), .val (.int ((fdF y ap (2 : Int32)) % (3 : Int32))), .val (.int ((fdF z ap (2 : Int32)) % (3 : Int32))), .val (.int (fdF y (ap + (2 : Int32)) wd)), .val (.int (fdF y ((ap + (2 : Int32)) + wd) wd)), .val (.int (fdF z (ap + (2 : Int32)) wd)), .val (.int (fdF z ((ap + (2 : Int32)) + wd) wd))] [])) _
      refine Go.via (fun _ => XS.iload X624.here hx rfl (hb hby d18_89) rfl) ?_
      refine Go.via (fun _ => XS.iload X624.here hx rfl (hb hby d18_91) rfl) ?_
      by_cases hc629 : (fdF y (ap + (2 : Int32)) wd) = (fdF z (ap + (2 : Int32)) wd)
      · refine Go.via (fun _ => XS.icmpNo X624.here hx rfl (hb hby d18_93) rfl (teq (hc629 : (fdF y (ap + (2 : Int32)) wd) = (fdF z (ap + (2 : Int32)) wd))).2) ?_
        refine Go.via (fun _ => XS.iload X624.here hx rfl (hb hby d18_96) rfl) ?_
        refine Go.via (fun _ => XS.iconst X624.here hx rfl (hb hby d18_98)) ?_
        show Go p e below (T624.setTop (mkF m 99 #[.val (.long y), .second, .val (.long z), .second, .val (.int ap), .val (.int wd), .val (.int ((fdF y ap (2 : Int32)) % (3 : Int32))), .val (.int ((fdF z ap (2 : Int32)) % (3 : Int32))), .val (.int (fdF y (ap + (2 : Int32)) wd)), .val (.int (fdF y ((ap + (2 : Int32)) + wd) wd)), .val (.int (fdF z (ap + (2 : Int32)) wd)), .val (.int (fdF z ((ap + (2 : Int32)) + wd) wd))] [(.int (2 : Int32)), (.int ((fdF y ap (2 : Int32)) % (3 : Int32)))])) _
        by_cases hc630 : ((fdF y ap (2 : Int32)) % (3 : Int32)) < (2 : Int32)
        · refine Go.via (fun _ => XS.icmpYes X624.here hx rfl (pc0 := 99) (pc' := 109) rfl (hb hby d18_99) rfl (tlt (hc630 : ((fdF y ap (2 : Int32)) % (3 : Int32)) < (2 : Int32))).1 (by decide) (by decide)) ?_
          show Go p e below (T624.setTop (mkF m 109 #[.val (.long y), .second, .val (.long z), .second, .val (.int ap), .val (.int wd), .val (.int ((fdF y ap (2 : Int32)) % (3 : Int32))), .val (.int ((fdF z ap (2 : Int32)) % (3 : Int32))), .val (.int (fdF y (ap + (2 : Int32)) wd)), .val (.int (fdF y ((ap + (2 : Int32)) + wd) wd)), .val (.int (fdF z (ap + (2 : Int32)) wd)), .val (.int (fdF z ((ap + (2 : Int32)) + wd) wd))] [])) _
          refine Go.via (fun _ => XS.iconst X624.here hx rfl (hb hby d18_109)) ?_
          refine Go.via (fun _ => XS.goto X624.here hx rfl (pc0 := 110) (pc' := 114) rfl (hb hby d18_110) (by decide) (by decide)) ?_
          exact Go.fin X624 hlk (v := some (.int (1 : Int32))) (fun h => by rw [Bd.returns] at h; cases h) (fun fs hr => retN X624 hx (t := .boolean) Bd.returns (by simp) (hb hby d18_114) hr) (by rw [e624]; exact ⟨(congrArg (fun qq => some (Value.int qq)) (Eq.symm ((if_pos hc625).trans ((if_neg hc626).trans ((if_pos hc629).trans ((if_pos hc630).trans rfl)))))), rfl, rfl⟩) (by decide) (by decide)
        · refine Go.via (fun _ => XS.icmpNo X624.here hx rfl (hb hby d18_99) rfl (flt (hc630 : ¬ (((fdF y ap (2 : Int32)) % (3 : Int32)) < (2 : Int32)))).1) ?_
          show Go p e below (T624.setTop (mkF m 102 #[.val (.long y), .second, .val (.long z), .second, .val (.int ap), .val (.int wd), .val (.int ((fdF y ap (2 : Int32)) % (3 : Int32))), .val (.int ((fdF z ap (2 : Int32)) % (3 : Int32))), .val (.int (fdF y (ap + (2 : Int32)) wd)), .val (.int (fdF y ((ap + (2 : Int32)) + wd) wd)), .val (.int (fdF z (ap + (2 : Int32)) wd)), .val (.int (fdF z ((ap + (2 : Int32)) + wd) wd))] [])) _
          refine Go.via (fun _ => XS.iload X624.here hx rfl (hb hby d18_102) rfl) ?_
          refine Go.via (fun _ => XS.iload X624.here hx rfl (hb hby d18_104) rfl) ?_
          by_cases hc631 : (fdF y ((ap + (2 : Int32)) + wd) wd) = (fdF z ((ap + (2 : Int32)) + wd) wd)
          · refine Go.via (fun _ => XS.icmpNo X624.here hx rfl (hb hby d18_106) rfl (teq (hc631 : (fdF y ((ap + (2 : Int32)) + wd) wd) = (fdF z ((ap + (2 : Int32)) + wd) wd))).2) ?_
            refine Go.via (fun _ => XS.iconst X624.here hx rfl (hb hby d18_109)) ?_
            refine Go.via (fun _ => XS.goto X624.here hx rfl (pc0 := 110) (pc' := 114) rfl (hb hby d18_110) (by decide) (by decide)) ?_
            show Go p e below (T624.setTop (mkF m 114 #[.val (.long y), .second, .val (.long z), .second, .val (.int ap), .val (.int wd), .val (.int ((fdF y ap (2 : Int32)) % (3 : Int32))), .val (.int ((fdF z ap (2 : Int32)) % (3 : Int32))), .val (.int (fdF y (ap + (2 : Int32)) wd)), .val (.int (fdF y ((ap + (2 : Int32)) + wd) wd)), .val (.int (fdF z (ap + (2 : Int32)) wd)), .val (.int (fdF z ((ap + (2 : Int32)) + wd) wd))] [(.int (1 : Int32))])) _
            exact Go.fin X624 hlk (v := some (.int (1 : Int32))) (fun h => by rw [Bd.returns] at h; cases h) (fun fs hr => retN X624 hx (t := .boolean) Bd.returns (by simp) (hb hby d18_114) hr) (by rw [e624]; exact ⟨(congrArg (fun qq => some (Value.int qq)) (Eq.symm ((if_pos hc625).trans ((if_neg hc626).trans ((if_pos hc629).trans ((if_neg hc630).trans ((if_pos hc631).trans rfl))))))), rfl, rfl⟩) (by decide) (by decide)
          · refine Go.via (fun _ => XS.icmpYes X624.here hx rfl (pc0 := 106) (pc' := 113) rfl (hb hby d18_106) rfl (feq (hc631 : ¬ ((fdF y ((ap + (2 : Int32)) + wd) wd) = (fdF z ((ap + (2 : Int32)) + wd) wd)))).2 (by decide) (by decide)) ?_
            refine Go.via (fun _ => XS.iconst X624.here hx rfl (hb hby d18_113)) ?_
            exact Go.fin X624 hlk (v := some (.int (0 : Int32))) (fun h => by rw [Bd.returns] at h; cases h) (fun fs hr => retN X624 hx (t := .boolean) Bd.returns (by simp) (hb hby d18_114) hr) (by rw [e624]; exact ⟨(congrArg (fun qq => some (Value.int qq)) (Eq.symm ((if_pos hc625).trans ((if_neg hc626).trans ((if_pos hc629).trans ((if_neg hc630).trans ((if_neg hc631).trans rfl))))))), rfl, rfl⟩) (by decide) (by decide)
      · refine Go.via (fun _ => XS.icmpYes X624.here hx rfl (pc0 := 93) (pc' := 113) rfl (hb hby d18_93) rfl (feq (hc629 : ¬ ((fdF y (ap + (2 : Int32)) wd) = (fdF z (ap + (2 : Int32)) wd)))).2 (by decide) (by decide)) ?_
        refine Go.via (fun _ => XS.iconst X624.here hx rfl (hb hby d18_113)) ?_
        exact Go.fin X624 hlk (v := some (.int (0 : Int32))) (fun h => by rw [Bd.returns] at h; cases h) (fun fs hr => retN X624 hx (t := .boolean) Bd.returns (by simp) (hb hby d18_114) hr) (by rw [e624]; exact ⟨(congrArg (fun qq => some (Value.int qq)) (Eq.symm ((if_pos hc625).trans ((if_neg hc626).trans ((if_neg hc629).trans rfl))))), rfl, rfl⟩) (by decide) (by decide)
  · refine Go.via (fun _ => XS.icmpYes X624.here hx rfl (pc0 := 80) (pc' := 113) rfl (hb hby d18_80) rfl (feq (hc625 : ¬ (((fdF y ap (2 : Int32)) % (3 : Int32)) = ((fdF z ap (2 : Int32)) % (3 : Int32))))).2 (by decide) (by decide)) ?_
    refine Go.via (fun _ => XS.iconst X624.here hx rfl (hb hby d18_113)) ?_
    exact Go.fin X624 hlk (v := some (.int (0 : Int32))) (fun h => by rw [Bd.returns] at h; cases h) (fun fs hr => retN X624 hx (t := .boolean) Bd.returns (by simp) (hb hby d18_114) hr) (by rw [e624]; exact ⟨(congrArg (fun qq => some (Value.int qq)) (Eq.symm ((if_neg hc625).trans rfl))), rfl, rfl⟩) (by decide) (by decide)
theorem d15_0 : decode jdk_31_method_11_code 0 = .ok (.aload_n 0, 1) := by decide +kernel
theorem d15_1 : decode jdk_31_method_11_code 1 = .ok (.ifnonnull 12, 3) := by decide +kernel
theorem d15_13 : decode jdk_31_method_11_code 13 = .ok (.aload_n 0, 1) := by decide +kernel
theorem d15_14 : decode jdk_31_method_11_code 14 = .ok (.areturn, 1) := by decide +kernel
theorem pn_15 : plainName "java/util/Objects" = true := by first | (simp [plainName, overriddenIn]; done) | decide +kernel
theorem ef_15 (m : MethodId) (x0 : Addr) (x1 : Addr) : entryFrame m #[(.ref x0), (.ref x1)] 2 = mkF m 0 #[.val (.ref x0), .val (.ref x1)] [] := by first | (simp [entryFrame, mkF, argsToLocals, Value.category]; done) | rfl
def Q_rmRn (Z : State) (a : Addr) (mg : Addr)  (h0 : Heap) (n0 : Nat) (vQ : Option Value) (hQ : Heap) (LQ : List Loc) : Prop := vQ = some (.ref a) ∧ LQ = [] ∧ hQ = h0
set_option maxRecDepth 65536 in
set_option maxHeartbeats 40000000 in
theorem rmRn (l : Launch) (Z : State) (a0 : Array Value) (hw : ∀ d ∈ tables_1, d.before a0 Z = true) (ws : List Jvm.Cond) (a : Addr) (mg : Addr)  (h0 : Heap) (n0 : Nat) (Z0 : n0 ≤ h0.size) :
    MetFree l (⟨"java/util/Objects", "requireNonNull", "(Ljava/lang/Object;Ljava/lang/String;)Ljava/lang/Object;"⟩ : MethodName) (head1 (Jvm.Cond.code (⟨"java/util/Objects", "requireNonNull", "(Ljava/lang/Object;Ljava/lang/String;)Ljava/lang/Object;"⟩ : MethodName) jdk_31_method_11_code 2 (some (.object "java/lang/Object")) :: ws) ({ frames := 0, cells := 0, slots := 0, locals := 0 } : Room)) (fun aQ UQ => aQ = #[(.ref a), (.ref mg)] ∧ Z.Warmed39 UQ.vm ∧ UQ.heap = h0) (fun _ _ _ _ _ => True) (fun _ UQ oQ UR => ∃ vQ LQ, oQ = .returned vQ ∧ Q_rmRn Z a mg  h0 n0 vQ UR.heap LQ ∧ FrameEnd UQ oQ UR LQ ({ frames := 0, cells := 0, slots := 0, locals := 0 } : Room).cells ({ frames := 0, cells := 0, slots := 0, locals := 0 } : Room).slots) := by
  refine MetFree.of_bodySF (plainFor_of_name pn_15) hisR ?_
  intro p e s m args below meth c s₁ Bd hml0 hP hK
  obtain ⟨rfl, hZ, hh⟩ := hP
  have hx := Bd.exec
  have hby := Bd.bytes
  have hlk := Bd.notSynchronized
  have hml : c.maxLocals = 2 := hml0
  have hown : s.vm.findClass "java/util/Objects" = some m.cls := findClass_of_methodNamed Bd.named
  have hnm := (name_of_methodNamed Bd.named Bd.method).1
  have X0 : Stand p l e ({ frames := 0, cells := 0, slots := 0, locals := 0 } : Room) s m #[(.ref a), (.ref mg)] below meth c s₁ [] 0 0 := Stand.of_body Bd
  have e0 : s₁.heap = h0 := by rw [← hh, Bd.state]; rfl
  have N0 := Fr.nil n0
  show Go p e below _ (Done s (Q_rmRn Z a mg  h0 n0) ({ frames := 0, cells := 0, slots := 0, locals := 0 } : Room).cells ({ frames := 0, cells := 0, slots := 0, locals := 0 } : Room).slots)
  refine Go.via (fun tQ kQ => castTop (ef_15 m a mg) kQ) ?_
  show Go p e below (s₁.setTop (mkF m 0 #[.val (.ref a), .val (.ref mg)] [])) _
  refine Go.via (fun _ => XS.aloadN X0.here hx rfl (hb hby d15_0) rfl rfl) ?_
  refine Go.via (fun _ => XS.ifnonnullYes X0.here hx rfl (pc0 := 1) (pc' := 13) rfl (hb hby d15_1) rfl (by decide) (by decide)) ?_
  show Go p e below (s₁.setTop (mkF m 13 #[.val (.ref a), .val (.ref mg)] [])) _
  refine Go.via (fun _ => XS.aloadN X0.here hx rfl (hb hby d15_13) rfl rfl) ?_
  exact Go.fin X0 hlk (v := some (.ref a)) (fun h => by rw [Bd.returns] at h; cases h) (fun fs hr => retOut X0 hx Bd.returns rfl (Or.inr (Or.inr (Or.inr (Or.inr ⟨rfl, rfl, rfl⟩)))) (hb hby d15_14) hr) (by rw [e0]; exact ⟨rfl, rfl, rfl⟩) (by decide) (by decide)
theorem d14_0 : decode prog_17_method_1_code 0 = .ok (.aload_n 0, 1) := by decide +kernel
theorem d14_1 : decode prog_17_method_1_code 1 = .ok (.invokespecial 1, 3) := by decide +kernel
theorem d14_4 : decode prog_17_method_1_code 4 = .ok (.aload_n 0, 1) := by decide +kernel
theorem d14_5 : decode prog_17_method_1_code 5 = .ok (.aload_n 1, 1) := by decide +kernel
theorem d14_6 : decode prog_17_method_1_code 6 = .ok (.ldc 7, 2) := by decide +kernel
theorem d14_8 : decode prog_17_method_1_code 8 = .ok (.invokestatic 9, 3) := by decide +kernel
theorem pd__28Ljava_2flang_2fObject_3bLjava_2flang_2fString_3b_29Ljava_2flang_2fObject_3b : parseMethodDescriptor "(Ljava/lang/Object;Ljava/lang/String;)Ljava/lang/Object;" = some ⟨[(.object "java/lang/Object"), (.object cST)], some (.object "java/lang/Object")⟩ := by decide +kernel
theorem d14_11 : decode prog_17_method_1_code 11 = .ok (.checkcast 15, 3) := by decide +kernel
theorem d14_14 : decode prog_17_method_1_code 14 = .ok (.putfield 17, 3) := by decide +kernel
theorem d14_17 : decode prog_17_method_1_code 17 = .ok (.aload_n 0, 1) := by decide +kernel
theorem d14_18 : decode prog_17_method_1_code 18 = .ok (.aload_n 2, 1) := by decide +kernel
theorem d14_19 : decode prog_17_method_1_code 19 = .ok (.ldc 22, 2) := by decide +kernel
theorem d14_21 : decode prog_17_method_1_code 21 = .ok (.invokestatic 9, 3) := by decide +kernel
theorem d14_24 : decode prog_17_method_1_code 24 = .ok (.checkcast 24, 3) := by decide +kernel
theorem d14_27 : decode prog_17_method_1_code 27 = .ok (.putfield 26, 3) := by decide +kernel
theorem d14_30 : decode prog_17_method_1_code 30 = .ok (.return_, 1) := by decide +kernel
theorem pn_14 : plainName cEN = true := by first | (simp [plainName, overriddenIn]; done) | decide +kernel
theorem ef_14 (m : MethodId) (x0 : Addr) (x1 : Addr) (x2 : Addr) : entryFrame m #[(.ref x0), (.ref x1), (.ref x2)] 3 = mkF m 0 #[.val (.ref x0), .val (.ref x1), .val (.ref x2)] [] := by first | (simp [entryFrame, mkF, argsToLocals, Value.category]; done) | rfl
def Q_rmEn (Z : State) (f : Addr) (d : Addr) (a : Addr)  (h0 : Heap) (n0 : Nat) (vQ : Option Value) (hQ : Heap) (vmQ : Vm) (LQ : List Loc) : Prop := vQ = none ∧ Fr n0 LQ ∧ Keep h0 hQ [f] ∧ Exa Z hQ f cEN ∧ Fld Z hQ f cEN "digest" "Lcom/example/relate_by_hash/relatebyhash/ctph/CtphDigest;" (.ref d) ∧ Fld Z hQ f cEN "name" "Ljava/lang/String;" (.ref a) ∧ Em Z vmQ hQ ["signature 1", "signature 2", "digest", "name"]
def V_rmEn (Z : State) (f : Addr) (d : Addr) (a : Addr)  (h0 : Heap) (vmV : Vm) : Prop := Em Z vmV h0 ["signature 1", "signature 2", "digest", "name"] ∧ True
set_option maxRecDepth 65536 in
set_option maxHeartbeats 40000000 in
theorem rmEn (l : Launch) (Z : State) (a0 : Array Value) (hw : ∀ d ∈ tables_1, d.before a0 Z = true) (ws : List Jvm.Cond) (f : Addr) (d : Addr) (a : Addr)  (h0 : Heap) (n0 : Nat) (Z0 : n0 ≤ h0.size) (P0 : Exa Z h0 f cEN) (P1 : Fld Z h0 f cEN "digest" "Lcom/example/relate_by_hash/relatebyhash/ctph/CtphDigest;" .null) (P2 : Fld Z h0 f cEN "name" "Ljava/lang/String;" .null) (P3 : Exa Z h0 d cCD) (P4 : Exa Z h0 a cST) (P5 : Old Z n0 h0) (g_f : n0 ≤ f) :
    MetFree l (⟨cEN, "<init>", "(Lcom/example/relate_by_hash/relatebyhash/ctph/CtphDigest;Ljava/lang/String;)V"⟩ : MethodName) (head1 (Jvm.Cond.code (⟨cEN, "<init>", "(Lcom/example/relate_by_hash/relatebyhash/ctph/CtphDigest;Ljava/lang/String;)V"⟩ : MethodName) prog_17_method_1_code 3 none :: ws) ({ frames := 1, cells := 4, slots := 48, locals := 14 } : Room)) (fun aQ UQ => aQ = #[(.ref f), (.ref d), (.ref a)] ∧ Z.Warmed39 UQ.vm ∧ UQ.heap = h0 ∧ V_rmEn Z f d a  h0 UQ.vm) (fun _ _ _ _ _ => True) (fun _ UQ oQ UR => ∃ vQ LQ, oQ = .returned vQ ∧ Q_rmEn Z f d a  h0 n0 vQ UR.heap UR.vm LQ ∧ ReturnedEndW UQ oQ UR LQ ({ frames := 1, cells := 4, slots := 48, locals := 14 } : Room).cells ({ frames := 1, cells := 4, slots := 48, locals := 14 } : Room).slots) := by
  refine MetFree.of_bodySF (plainFor_of_name pn_14) hisR ?_
  intro p e s m args below meth c s₁ Bd hml0 hP hK
  obtain ⟨rfl, hZ0, hh, hV⟩ := hP
  obtain ⟨I0, -⟩ := hV
  have hx := Bd.exec
  have hby := Bd.bytes
  have hlk := Bd.notSynchronized
  have hml : c.maxLocals = 3 := hml0
  have hnm := (name_of_methodNamed Bd.named Bd.method).1
  have e0 : s₁.heap = h0 := by rw [← hh, Bd.state]; rfl
  have N0 := Fr.nil n0
  have hZ : Z.Warmed39 (s.setVm s.vm).vm := hZ0
  have hown : (s.setVm s.vm).vm.findClass cEN = some m.cls := findClass_of_methodNamed Bd.named
  have X0 : Stand p l e ({ frames := 1, cells := 4, slots := 48, locals := 14 } : Room) (s.setVm s.vm) m #[(.ref f), (.ref d), (.ref a)] below meth c s₁ [] 0 0 := Stand.of_body Bd
  have hS0 : s.Since s.vm s.heap.size := (State.WarmedH.refl _).since _
  have hk0 : s.heap.size ≤ h0.size := Nat.le_of_eq (congrArg Array.size hh)
  show Go p e below _ (DoneW s (Q_rmEn Z f d a  h0 n0) ({ frames := 1, cells := 4, slots := 48, locals := 14 } : Room).cells ({ frames := 1, cells := 4, slots := 48, locals := 14 } : Room).slots)
  refine Go.via (fun tQ kQ => castTop (ef_14 m f d a) kQ) ?_
  show Go p e below (s₁.setTop (mkF m 0 #[.val (.ref f), .val (.ref d), .val (.ref a)] [])) _
  refine Go.via (fun _ => XS.aloadN X0.here hx rfl (hb hby d14_0) rfl rfl) ?_
  obtain ⟨T632, X632, e632, st632⟩ := initO X0 hx hZ hown (tw hw 84 rfl) (tw hw 30 rfl) (tw hw 31 rfl) e0 (g := (mkF m 1 #[.val (.ref f), .val (.ref d), .val (.ref a)] [(.ref f)])) rfl (by rw [hml]; rfl) rfl (hb hby d14_1) (by decide) (W := 0) (by show 2 * 0 + _ ≤ _; exact Nat.le_of_eq rfl) (by decide)
  refine Go.via (st632) ?_
  clear st632
  clear X0 e0
  show Go p e below (T632.setTop (mkF m 4 #[.val (.ref f), .val (.ref d), .val (.ref a)] [])) _
  refine Go.via (fun _ => XS.aloadN X632.here hx rfl (hb hby d14_4) rfl rfl) ?_
  refine Go.via (fun _ => XS.aloadN X632.here hx rfl (hb hby d14_5) rfl rfl) ?_
  obtain ⟨b633, T633, h633, k1633, X633, e633, E633, hS633, hk633, hZ633, ho633, I633, st633⟩ := ldcT (text := "digest") X632 hx hZ hown (tw hw 85 rfl) (wStr hw) e632 hS0 hk0 I0 (by decide) (by decide) (g := (mkF m 6 #[.val (.ref f), .val (.ref d), .val (.ref a)] [(.ref d), (.ref f)])) rfl (hb hby d14_6) (n := 24) (by decide) (by decide) (by decide) (by decide)
  have hZ : Z.Warmed39 (s.setVm T633.vm).vm := hZ633
  have hown : (s.setVm T633.vm).vm.findClass cEN = some m.cls := ho633
  clear hZ633 ho633
  refine Go.via (st633) ?_
  clear st633
  clear X632 e632
  show Go p e below (T633.setTop (mkF m 8 #[.val (.ref f), .val (.ref d), .val (.ref a)] [(.ref b633), (.ref d), (.ref f)])) _
  have z635 : n0 ≤ h633.size := (Nat.le_trans Z0 E633.1)
  obtain ⟨r634, _, ⟨T634, L634, k634, n634⟩, -, X634, ⟨Lc634, hQ634, l634, y634, z634⟩, st634⟩ := Jvm.LawKit.callS X633 hx (y := (⟨"java/util/Objects", "requireNonNull", "(Ljava/lang/Object;Ljava/lang/String;)Ljava/lang/Object;"⟩ : MethodName)) hown (mvT hZ (tw hw 86 rfl)) (mvT hZ (tw hw 87 rfl)) (mvT hZ (tw hw 88 rfl)) (mvT hZ (tw hw 89 rfl)) (by decide) (backOf (W := 1) (rmRn l Z a0 hw [] d b633  h633 n0 z635) hZ (tw hw 89 rfl) (tw hw 88 rfl) (by decide) (by decide)) (g := (mkF m 8 #[.val (.ref f), .val (.ref d), .val (.ref a)] [(.ref b633), (.ref d), (.ref f)])) rfl (by rw [hml]; rfl) (argsL := [(.ref d), (.ref b633)]) (rest := [(.ref f)]) (lenOf pd__28Ljava_2flang_2fObject_3bLjava_2flang_2fString_3b_29Ljava_2flang_2fObject_3b rfl) rfl (by show 2 * 0 + _ ≤ _; exact Nat.le_of_eq rfl) (hb hby d14_8) (fun _ _ => ⟨rfl, e633, (by decide : 2 + 0 ≤ _), (by decide : 28 + 0 ≤ _)⟩)
  dsimp only [Pt.U, Pt.locs, Pt.cells, Pt.slots] at X634 l634 y634 z634 st634 hQ634
  rw [l634, y634, z634] at X634
  clear l634 y634 z634
  obtain ⟨hr634, N634q, eh634⟩ := hQ634
  rw [hr634] at st634
  clear hr634
  rw [N634q, List.append_nil] at X634
  refine Go.via (st634) ?_
  clear st634
  have e634 : T634.heap = h633 := eh634
  clear X633 e633
  show Go p e below (T634.setTop (mkF m 11 #[.val (.ref f), .val (.ref d), .val (.ref a)] [(.ref d), (.ref f)])) _
  have f636 : Exa Z h633 d cCD := (P3.ext E633)
  obtain ⟨T637, X637, e637, st637⟩ := castY X634 hx hZ hown (tw hw 90 rfl) e634 (Ins.self f636) (g := (mkF m 11 #[.val (.ref f), .val (.ref d), .val (.ref a)] [(.ref d), (.ref f)])) rfl rfl (hb hby d14_11)
  refine Go.via (st637) ?_
  clear st637
  clear X634 e634
  show Go p e below (T637.setTop (mkF m 14 #[.val (.ref f), .val (.ref d), .val (.ref a)] [(.ref d), (.ref f)])) _
  have f638 : Fld Z h633 f cEN "digest" "Lcom/example/relate_by_hash/relatebyhash/ctph/CtphDigest;" .null := (P1.ext E633)
  have f639 : Exa Z h633 f cEN := (P0.ext E633)
  obtain ⟨T640, h640, X640, e640, W640, st640⟩ := putF X637 hx hZ hown (host := "") (Or.inl (tw hw 92 rfl)) Via.refl e637 f638 f639 (Or.inr ⟨(tw hw 93 rfl), rfl, hnm⟩) (tw hw 79 rfl) (ty := (.object cCD)) (by decide) rfl rfl (g := (mkF m 14 #[.val (.ref f), .val (.ref d), .val (.ref a)] [(.ref d), (.ref f)])) rfl rfl (hb hby d14_14)
  refine Go.via (st640) ?_
  clear st640
  have N640 := Fr.snoc X640 N0 g_f
  have f641 : Fld Z h640 f cEN "digest" "Lcom/example/relate_by_hash/relatebyhash/ctph/CtphDigest;" (.ref d) := f638.same W640
  clear X637 e637
  show Go p e below (T640.setTop (mkF m 17 #[.val (.ref f), .val (.ref d), .val (.ref a)] [])) _
  refine Go.via (fun _ => XS.aloadN X640.here hx rfl (hb hby d14_17) rfl rfl) ?_
  refine Go.via (fun _ => XS.aloadN X640.here hx rfl (hb hby d14_18) rfl rfl) ?_
  have hk643 : _ ≤ h640.size := (Nat.le_trans hk633 (Keep.of_wr W640).1)
  have em644 : Em Z T633.vm h640 ["signature 1", "signature 2", "digest", "name"] := (Em.wr (a0 := a0) I633 W640 f639 (by decide) (tw hw 79 rfl))
  have k645 : Keep h0 h640 [f] := (((Keep.refl h0 [f]).ext E633).wr W640 (Or.inl (List.mem_of_getElem? (i := 0) rfl)))
  have z646 : n0 ≤ h640.size := (Nat.le_trans z635 (Keep.of_wr W640).1)
  obtain ⟨b642, T642, h642, k1642, X642, e642, E642, hS642, hk642, hZ642, ho642, I642, st642⟩ := ldcT (text := "name") X640 hx hZ hown (tw hw 94 rfl) (wStr hw) e640 hS633 hk643 em644 (by decide) (by decide) (g := (mkF m 19 #[.val (.ref f), .val (.ref d), .val (.ref a)] [(.ref a), (.ref f)])) rfl (hb hby d14_19) (n := 16) (by decide) (by decide) (by decide) (by decide)
  have hZ : Z.Warmed39 (s.setVm T642.vm).vm := hZ642
  have hown : (s.setVm T642.vm).vm.findClass cEN = some m.cls := ho642
  clear hZ642 ho642
  refine Go.via (st642) ?_
  clear st642
  clear X640 e640
  show Go p e below (T642.setTop (mkF m 21 #[.val (.ref f), .val (.ref d), .val (.ref a)] [(.ref b642), (.ref a), (.ref f)])) _
  have z648 : n0 ≤ h642.size := (Nat.le_trans z646 E642.1)
  obtain ⟨r647, _, ⟨T647, L647, k647, n647⟩, -, X647, ⟨Lc647, hQ647, l647, y647, z647⟩, st647⟩ := Jvm.LawKit.callS X642 hx (y := (⟨"java/util/Objects", "requireNonNull", "(Ljava/lang/Object;Ljava/lang/String;)Ljava/lang/Object;"⟩ : MethodName)) hown (mvT hZ (tw hw 86 rfl)) (mvT hZ (tw hw 87 rfl)) (mvT hZ (tw hw 88 rfl)) (mvT hZ (tw hw 89 rfl)) (by decide) (backOf (W := 1) (rmRn l Z a0 hw [] a b642  h642 n0 z648) hZ (tw hw 89 rfl) (tw hw 88 rfl) (by decide) (by decide)) (g := (mkF m 21 #[.val (.ref f), .val (.ref d), .val (.ref a)] [(.ref b642), (.ref a), (.ref f)])) rfl (by rw [hml]; rfl) (argsL := [(.ref a), (.ref b642)]) (rest := [(.ref f)]) (lenOf pd__28Ljava_2flang_2fObject_3bLjava_2flang_2fString_3b_29Ljava_2flang_2fObject_3b rfl) rfl (by show 2 * 0 + _ ≤ _; exact Nat.le_of_eq rfl) (hb hby d14_21) (fun _ _ => ⟨rfl, e642, (by decide : 4 + 0 ≤ _), (by decide : 48 + 0 ≤ _)⟩)
  dsimp only [Pt.U, Pt.locs, Pt.cells, Pt.slots] at X647 l647 y647 z647 st647 hQ647
  rw [l647, y647, z647] at X647
  clear l647 y647 z647
  obtain ⟨hr647, N647q, eh647⟩ := hQ647
  rw [hr647] at st647
  clear hr647
  rw [N647q, List.append_nil] at X647
  refine Go.via (st647) ?_
  clear st647
  have e647 : T647.heap = h642 := eh647
  clear X642 e642
  show Go p e below (T647.setTop (mkF m 24 #[.val (.ref f), .val (.ref d), .val (.ref a)] [(.ref a), (.ref f)])) _
  have f649 : Exa Z h642 a cST := (((P4.ext E633).wr W640).ext E642)
  obtain ⟨T650, X650, e650, st650⟩ := castY X647 hx hZ hown (tw hw 95 rfl) e647 (Ins.self f649) (g := (mkF m 24 #[.val (.ref f), .val (.ref d), .val (.ref a)] [(.ref a), (.ref f)])) rfl rfl (hb hby d14_24)
  refine Go.via (st650) ?_
  clear st650
  clear X647 e647
  show Go p e below (T650.setTop (mkF m 27 #[.val (.ref f), .val (.ref d), .val (.ref a)] [(.ref a), (.ref f)])) _
  have f651 : Fld Z h642 f cEN "name" "Ljava/lang/String;" .null := (((P2.ext E633).other W640 (Or.inr (slot_ne (Or.inr (tw hw 97 rfl)) (Or.inr (tw hw 93 rfl)) (by decide) (t := (.object cST)) (t' := (.object cCD)) (by decide) (by decide)))).ext E642)
  have f652 : Exa Z h642 f cEN := ((f639.wr W640).ext E642)
  obtain ⟨T653, h653, X653, e653, W653, st653⟩ := putF X650 hx hZ hown (host := "") (Or.inl (tw hw 96 rfl)) Via.refl e650 f651 f652 (Or.inr ⟨(tw hw 97 rfl), rfl, hnm⟩) (tw hw 79 rfl) (ty := (.object cST)) (by decide) rfl rfl (g := (mkF m 27 #[.val (.ref f), .val (.ref d), .val (.ref a)] [(.ref a), (.ref f)])) rfl rfl (hb hby d14_27)
  refine Go.via (st653) ?_
  clear st653
  have N653 := Fr.snoc X653 N640 g_f
  have f654 : Fld Z h653 f cEN "name" "Ljava/lang/String;" (.ref a) := f651.same W653
  clear X650 e650
  show Go p e below (T653.setTop (mkF m 30 #[.val (.ref f), .val (.ref d), .val (.ref a)] [])) _
  have k655 : Keep h0 h653 [f] := ((k645.ext E642).wr W653 (Or.inl (List.mem_of_getElem? (i := 0) rfl)))
  have f656 : Exa Z h653 f cEN := (f652.wr W653)
  have f657 : Fld Z h653 f cEN "digest" "Lcom/example/relate_by_hash/relatebyhash/ctph/CtphDigest;" (.ref d) := ((f641.ext E642).other W653 (Or.inr (slot_ne (Or.inr (tw hw 93 rfl)) (Or.inr (tw hw 97 rfl)) (by decide) (t := (.object cCD)) (t' := (.object cST)) (by decide) (by decide))))
  have em658 : Em Z T642.vm h653 ["signature 1", "signature 2", "digest", "name"] := (Em.wr (a0 := a0) I642 W653 f652 (by decide) (tw hw 79 rfl))
  have hk659 : _ ≤ h653.size := (Nat.le_trans hk642 (Keep.of_wr W653).1)
  exact Go.finW X653 hS642 (Nat.le_trans hk659 (Nat.le_of_eq (congrArg Array.size (Eq.symm e653)))) hlk (v := none) (fun _ => rfl) (fun fs hr => X653.returnOut hx Bd.returns (hb hby d14_30) hr) (by rw [e653]; exact ⟨rfl, N653, k655, f656, f657, f654, Em.still em658 X653.warmed.interned_eq (w39 X653.warmed.wide)⟩) (by decide) (by decide)
theorem d16_0 : decode prog_17_method_4_code 0 = .ok (.aload_n 0, 1) := by decide +kernel
theorem d16_1 : decode prog_17_method_4_code 1 = .ok (.aload_n 1, 1) := by decide +kernel
theorem d16_2 : decode prog_17_method_4_code 2 = .ok (.if_acmp .ne 5, 3) := by decide +kernel
theorem d16_5 : decode prog_17_method_4_code 5 = .ok (.iconst 1, 1) := by decide +kernel
theorem d16_6 : decode prog_17_method_4_code 6 = .ok (.ireturn, 1) := by decide +kernel
theorem pn_16 : plainName cEN = true := by first | (simp [plainName, overriddenIn]; done) | decide +kernel
theorem ef_16 (m : MethodId) (x0 : Addr) (x1 : Addr) : entryFrame m #[(.ref x0), (.ref x1)] 3 = mkF m 0 #[.val (.ref x0), .val (.ref x1), .unset] [] := by first | (simp [entryFrame, mkF, argsToLocals, Value.category]; done) | rfl
def Q_rmEs (Z : State) (f : Addr) (f : Addr)  (h0 : Heap) (n0 : Nat) (vQ : Option Value) (hQ : Heap) (LQ : List Loc) : Prop := vQ = some (.int (1 : Int32)) ∧ LQ = [] ∧ hQ = h0
set_option maxRecDepth 65536 in
set_option maxHeartbeats 40000000 in
theorem rmEs (l : Launch) (Z : State) (a0 : Array Value) (hw : ∀ d ∈ tables_1, d.before a0 Z = true) (ws : List Jvm.Cond) (f : Addr) (f : Addr)  (h0 : Heap) (n0 : Nat) (Z0 : n0 ≤ h0.size) :
    MetFree l (⟨cEN, "equals", "(Ljava/lang/Object;)Z"⟩ : MethodName) (head1 (Jvm.Cond.code (⟨cEN, "equals", "(Ljava/lang/Object;)Z"⟩ : MethodName) prog_17_method_4_code 3 (some .boolean) :: ws) ({ frames := 0, cells := 0, slots := 0, locals := 0 } : Room)) (fun aQ UQ => aQ = #[(.ref f), (.ref f)] ∧ Z.Warmed39 UQ.vm ∧ UQ.heap = h0) (fun _ _ _ _ _ => True) (fun _ UQ oQ UR => ∃ vQ LQ, oQ = .returned vQ ∧ Q_rmEs Z f f  h0 n0 vQ UR.heap LQ ∧ FrameEnd UQ oQ UR LQ ({ frames := 0, cells := 0, slots := 0, locals := 0 } : Room).cells ({ frames := 0, cells := 0, slots := 0, locals := 0 } : Room).slots) := by
  refine MetFree.of_bodySF (plainFor_of_name pn_16) hisR ?_
  intro p e s m args below meth c s₁ Bd hml0 hP hK
  obtain ⟨rfl, hZ, hh⟩ := hP
  have hx := Bd.exec
  have hby := Bd.bytes
  have hlk := Bd.notSynchronized
  have hml : c.maxLocals = 3 := hml0
  have hown : s.vm.findClass cEN = some m.cls := findClass_of_methodNamed Bd.named
  have hnm := (name_of_methodNamed Bd.named Bd.method).1
  have X0 : Stand p l e ({ frames := 0, cells := 0, slots := 0, locals := 0 } : Room) s m #[(.ref f), (.ref f)] below meth c s₁ [] 0 0 := Stand.of_body Bd
  have e0 : s₁.heap = h0 := by rw [← hh, Bd.state]; rfl
  have N0 := Fr.nil n0
  show Go p e below _ (Done s (Q_rmEs Z f f  h0 n0) ({ frames := 0, cells := 0, slots := 0, locals := 0 } : Room).cells ({ frames := 0, cells := 0, slots := 0, locals := 0 } : Room).slots)
  refine Go.via (fun tQ kQ => castTop (ef_16 m f f) kQ) ?_
  show Go p e below (s₁.setTop (mkF m 0 #[.val (.ref f), .val (.ref f), .unset] [])) _
  refine Go.via (fun _ => XS.aloadN X0.here hx rfl (hb hby d16_0) rfl rfl) ?_
  refine Go.via (fun _ => XS.aloadN X0.here hx rfl (hb hby d16_1) rfl rfl) ?_
  refine Go.via (fun _ => Jvm.RoadKit.acmp (g := (mkF m 2 #[.val (.ref f), .val (.ref f), .unset] [(.ref f), (.ref f)])) X0 hx rfl rfl rfl (pc0 := 2) (pc' := 5) (same := true) rfl (hb hby d16_2) rfl (decide_eq_true rfl) (by decide) (by decide)) ?_
  show Go p e below (s₁.setTop (mkF m 5 #[.val (.ref f), .val (.ref f), .unset] [])) _
  refine Go.via (fun _ => XS.iconst X0.here hx rfl (hb hby d16_5)) ?_
  exact Go.fin X0 hlk (v := some (.int (1 : Int32))) (fun h => by rw [Bd.returns] at h; cases h) (fun fs hr => retN X0 hx (t := .boolean) Bd.returns (by simp) (hb hby d16_6) hr) (by rw [e0]; exact ⟨rfl, rfl, rfl⟩) (by decide) (by decide)
theorem d16_7 : decode prog_17_method_4_code 7 = .ok (.aload_n 1, 1) := by decide +kernel
theorem d16_8 : decode prog_17_method_4_code 8 = .ok (.instanceof 18, 3) := by decide +kernel
theorem d16_11 : decode prog_17_method_4_code 11 = .ok (.ifCond .ne 5, 3) := by decide +kernel
theorem d16_14 : decode prog_17_method_4_code 14 = .ok (.iconst 0, 1) := by decide +kernel
theorem d16_15 : decode prog_17_method_4_code 15 = .ok (.ireturn, 1) := by decide +kernel
theorem ef_16n1 (m : MethodId) (x0 : Addr) : entryFrame m #[(.ref x0), .null] 3 = mkF m 0 #[.val (.ref x0), .val .null, .unset] [] := by first | (simp [entryFrame, mkF, argsToLocals, Value.category]; done) | rfl
def Q_rmEz (Z : State) (f : Addr)  (h0 : Heap) (n0 : Nat) (vQ : Option Value) (hQ : Heap) (LQ : List Loc) : Prop := vQ = some (.int (0 : Int32)) ∧ LQ = [] ∧ hQ = h0
set_option maxRecDepth 65536 in
set_option maxHeartbeats 40000000 in
theorem rmEz (l : Launch) (Z : State) (a0 : Array Value) (hw : ∀ d ∈ tables_1, d.before a0 Z = true) (ws : List Jvm.Cond) (f : Addr)  (h0 : Heap) (n0 : Nat) (Z0 : n0 ≤ h0.size) :
    MetFree l (⟨cEN, "equals", "(Ljava/lang/Object;)Z"⟩ : MethodName) (head1 (Jvm.Cond.code (⟨cEN, "equals", "(Ljava/lang/Object;)Z"⟩ : MethodName) prog_17_method_4_code 3 (some .boolean) :: ws) ({ frames := 0, cells := 0, slots := 0, locals := 0 } : Room)) (fun aQ UQ => aQ = #[(.ref f), .null] ∧ Z.Warmed39 UQ.vm ∧ UQ.heap = h0) (fun _ _ _ _ _ => True) (fun _ UQ oQ UR => ∃ vQ LQ, oQ = .returned vQ ∧ Q_rmEz Z f  h0 n0 vQ UR.heap LQ ∧ FrameEnd UQ oQ UR LQ ({ frames := 0, cells := 0, slots := 0, locals := 0 } : Room).cells ({ frames := 0, cells := 0, slots := 0, locals := 0 } : Room).slots) := by
  refine MetFree.of_bodySF (plainFor_of_name pn_16) hisR ?_
  intro p e s m args below meth c s₁ Bd hml0 hP hK
  obtain ⟨rfl, hZ, hh⟩ := hP
  have hx := Bd.exec
  have hby := Bd.bytes
  have hlk := Bd.notSynchronized
  have hml : c.maxLocals = 3 := hml0
  have hown : s.vm.findClass cEN = some m.cls := findClass_of_methodNamed Bd.named
  have hnm := (name_of_methodNamed Bd.named Bd.method).1
  have X0 : Stand p l e ({ frames := 0, cells := 0, slots := 0, locals := 0 } : Room) s m #[(.ref f), .null] below meth c s₁ [] 0 0 := Stand.of_body Bd
  have e0 : s₁.heap = h0 := by rw [← hh, Bd.state]; rfl
  have N0 := Fr.nil n0
  show Go p e below _ (Done s (Q_rmEz Z f  h0 n0) ({ frames := 0, cells := 0, slots := 0, locals := 0 } : Room).cells ({ frames := 0, cells := 0, slots := 0, locals := 0 } : Room).slots)
  refine Go.via (fun tQ kQ => castTop (ef_16n1 m f) kQ) ?_
  show Go p e below (s₁.setTop (mkF m 0 #[.val (.ref f), .val .null, .unset] [])) _
  refine Go.via (fun _ => XS.aloadN X0.here hx rfl (hb hby d16_0) rfl rfl) ?_
  refine Go.via (fun _ => XS.aloadN X0.here hx rfl (hb hby d16_1) rfl rfl) ?_
  refine Go.via (fun _ => Jvm.RoadKit.acmp (g := (mkF m 2 #[.val (.ref f), .val .null, .unset] [.null, (.ref f)])) X0 hx rfl rfl rfl (pc0 := 2) (pc' := 7) (same := false) rfl (hb hby d16_2) rfl (decide_eq_false nofun) (by decide) (by decide)) ?_
  show Go p e below (s₁.setTop (mkF m 7 #[.val (.ref f), .val .null, .unset] [])) _
  refine Go.via (fun _ => XS.aloadN X0.here hx rfl (hb hby d16_7) rfl rfl) ?_
  refine Go.via (X0.instanceofNull hx (g := (mkF m 8 #[.val (.ref f), .val .null, .unset] [.null])) rfl rfl (hb hby d16_8)) ?_
  show Go p e below (s₁.setTop (mkF m 11 #[.val (.ref f), .val .null, .unset] [(.int (0 : Int32))])) _
  refine Go.via (fun _ => XS.ifNo X0.here hx rfl (hb hby d16_11) rfl ((if0 _ _).trans (teq ((by decide) : (0 : Int32) = (0 : Int32))).2)) ?_
  show Go p e below (s₁.setTop (mkF m 14 #[.val (.ref f), .val .null, .unset] [])) _
  refine Go.via (fun _ => XS.iconst X0.here hx rfl (hb hby d16_14)) ?_
  exact Go.fin X0 hlk (v := some (.int (0 : Int32))) (fun h => by rw [Bd.returns] at h; cases h) (fun fs hr => retN X0 hx (t := .boolean) Bd.returns (by simp) (hb hby d16_15) hr) (by rw [e0]; exact ⟨rfl, rfl, rfl⟩) (by decide) (by decide)
def Q_rmEi (Z : State) (f : Addr) (g_ : Addr)  (h0 : Heap) (n0 : Nat) (vQ : Option Value) (hQ : Heap) (LQ : List Loc) : Prop := vQ = some (.int (0 : Int32)) ∧ LQ = [] ∧ hQ = h0
set_option maxRecDepth 65536 in
set_option maxHeartbeats 40000000 in
theorem rmEi (l : Launch) (Z : State) (a0 : Array Value) (hw : ∀ d ∈ tables_1, d.before a0 Z = true) (ws : List Jvm.Cond) (f : Addr) (g_ : Addr)  (h0 : Heap) (n0 : Nat) (Z0 : n0 ≤ h0.size) (P0 : Exa Z h0 g_ cCD) (hfg : f ≠ g_) :
    MetFree l (⟨cEN, "equals", "(Ljava/lang/Object;)Z"⟩ : MethodName) (head1 (Jvm.Cond.code (⟨cEN, "equals", "(Ljava/lang/Object;)Z"⟩ : MethodName) prog_17_method_4_code 3 (some .boolean) :: ws) ({ frames := 0, cells := 0, slots := 0, locals := 0 } : Room)) (fun aQ UQ => aQ = #[(.ref f), (.ref g_)] ∧ Z.Warmed39 UQ.vm ∧ UQ.heap = h0) (fun _ _ _ _ _ => True) (fun _ UQ oQ UR => ∃ vQ LQ, oQ = .returned vQ ∧ Q_rmEi Z f g_  h0 n0 vQ UR.heap LQ ∧ FrameEnd UQ oQ UR LQ ({ frames := 0, cells := 0, slots := 0, locals := 0 } : Room).cells ({ frames := 0, cells := 0, slots := 0, locals := 0 } : Room).slots) := by
  refine MetFree.of_bodySF (plainFor_of_name pn_16) hisR ?_
  intro p e s m args below meth c s₁ Bd hml0 hP hK
  obtain ⟨rfl, hZ, hh⟩ := hP
  have hx := Bd.exec
  have hby := Bd.bytes
  have hlk := Bd.notSynchronized
  have hml : c.maxLocals = 3 := hml0
  have hown : s.vm.findClass cEN = some m.cls := findClass_of_methodNamed Bd.named
  have hnm := (name_of_methodNamed Bd.named Bd.method).1
  have X0 : Stand p l e ({ frames := 0, cells := 0, slots := 0, locals := 0 } : Room) s m #[(.ref f), (.ref g_)] below meth c s₁ [] 0 0 := Stand.of_body Bd
  have e0 : s₁.heap = h0 := by rw [← hh, Bd.state]; rfl
  have N0 := Fr.nil n0
  show Go p e below _ (Done s (Q_rmEi Z f g_  h0 n0) ({ frames := 0, cells := 0, slots := 0, locals := 0 } : Room).cells ({ frames := 0, cells := 0, slots := 0, locals := 0 } : Room).slots)
  refine Go.via (fun tQ kQ => castTop (ef_16 m f g_) kQ) ?_
  show Go p e below (s₁.setTop (mkF m 0 #[.val (.ref f), .val (.ref g_), .unset] [])) _
  refine Go.via (fun _ => XS.aloadN X0.here hx rfl (hb hby d16_0) rfl rfl) ?_
  refine Go.via (fun _ => XS.aloadN X0.here hx rfl (hb hby d16_1) rfl rfl) ?_
  refine Go.via (fun _ => Jvm.RoadKit.acmp (g := (mkF m 2 #[.val (.ref f), .val (.ref g_), .unset] [(.ref g_), (.ref f)])) X0 hx rfl rfl rfl (pc0 := 2) (pc' := 7) (same := false) rfl (hb hby d16_2) rfl (decide_eq_false fun q => hfg (Value.ref.inj q)) (by decide) (by decide)) ?_
  show Go p e below (s₁.setTop (mkF m 7 #[.val (.ref f), .val (.ref g_), .unset] [])) _
  refine Go.via (fun _ => XS.aloadN X0.here hx rfl (hb hby d16_7) rfl rfl) ?_
  obtain ⟨T661, X661, e661, st661⟩ := instNo X0 hx hZ hown (tw hw 103 rfl) e0 P0 (ns_no (a0 := a0) (tw hw 159 rfl) (tw hw 79 rfl) (NS.step (tw hw 159 rfl) (ns_root (a0 := a0) (tw hw 160 rfl) (tw hw 79 rfl) (by decide)) (by decide)) (by decide)) (g := (mkF m 8 #[.val (.ref f), .val (.ref g_), .unset] [(.ref g_)])) rfl rfl (hb hby d16_8)
  refine Go.via (st661) ?_
  clear st661
  clear X0 e0
  show Go p e below (T661.setTop (mkF m 11 #[.val (.ref f), .val (.ref g_), .unset] [(.int (0 : Int32))])) _
  refine Go.via (fun _ => XS.ifNo X661.here hx rfl (hb hby d16_11) rfl ((if0 _ _).trans (teq ((by decide) : (0 : Int32) = (0 : Int32))).2)) ?_
  show Go p e below (T661.setTop (mkF m 14 #[.val (.ref f), .val (.ref g_), .unset] [])) _
  refine Go.via (fun _ => XS.iconst X661.here hx rfl (hb hby d16_14)) ?_
  exact Go.fin X661 hlk (v := some (.int (0 : Int32))) (fun h => by rw [Bd.returns] at h; cases h) (fun fs hr => retN X661 hx (t := .boolean) Bd.returns (by simp) (hb hby d16_15) hr) (by rw [e661]; exact ⟨rfl, rfl, rfl⟩) (by decide) (by decide)
theorem d16_16 : decode prog_17_method_4_code 16 = .ok (.aload_n 1, 1) := by decide +kernel
theorem d16_17 : decode prog_17_method_4_code 17 = .ok (.checkcast 18, 3) := by decide +kernel
theorem d16_20 : decode prog_17_method_4_code 20 = .ok (.astore_n 2, 1) := by decide +kernel
theorem d16_21 : decode prog_17_method_4_code 21 = .ok (.aload_n 0, 1) := by decide +kernel
theorem d16_22 : decode prog_17_method_4_code 22 = .ok (.getfield 17, 3) := by decide +kernel
theorem d16_25 : decode prog_17_method_4_code 25 = .ok (.aload_n 2, 1) := by decide +kernel
theorem d16_26 : decode prog_17_method_4_code 26 = .ok (.getfield 17, 3) := by decide +kernel
theorem d16_29 : decode prog_17_method_4_code 29 = .ok (.invokevirtual 29, 3) := by decide +kernel
theorem d16_32 : decode prog_17_method_4_code 32 = .ok (.ifCond .eq 21, 3) := by decide +kernel
theorem d16_53 : decode prog_17_method_4_code 53 = .ok (.iconst 0, 1) := by decide +kernel
theorem d16_54 : decode prog_17_method_4_code 54 = .ok (.ireturn, 1) := by decide +kernel
theorem d16_35 : decode prog_17_method_4_code 35 = .ok (.aload_n 0, 1) := by decide +kernel
theorem d16_36 : decode prog_17_method_4_code 36 = .ok (.getfield 26, 3) := by decide +kernel
theorem d16_39 : decode prog_17_method_4_code 39 = .ok (.aload_n 2, 1) := by decide +kernel
theorem d16_40 : decode prog_17_method_4_code 40 = .ok (.getfield 26, 3) := by decide +kernel
theorem d16_43 : decode prog_17_method_4_code 43 = .ok (.invokevirtual 33, 3) := by decide +kernel
theorem d16_46 : decode prog_17_method_4_code 46 = .ok (.ifCond .eq 7, 3) := by decide +kernel
theorem d16_49 : decode prog_17_method_4_code 49 = .ok (.iconst 1, 1) := by decide +kernel
theorem d16_50 : decode prog_17_method_4_code 50 = .ok (.goto 4, 3) := by decide +kernel
def Q_rmEo2 (Z : State) (f : Addr) (g_ : Addr) (d : Addr) (d2 : Addr) (na : Addr) (nb : Addr) (v : Int64) (w : Int64) (s1 : Addr) (s2 : Addr) (t1 : Addr) (t2 : Addr) (b1 : Addr) (b2 : Addr) (c1 : Addr) (c2 : Addr) (xs : List Int32) (us : List Int32) (ys : List Int32) (vs : List Int32) (cs : Int32) (bn : Addr) (cn : Addr) (zs : List Int32) (ts : List Int32) (h0 : Heap) (n0 : Nat) (vQ : Option Value) (hQ : Heap) (LQ : List Loc) : Prop := vQ = some (.int (enF v w xs ys us vs zs ts)) ∧ LQ = [] ∧ hQ = h0
set_option maxRecDepth 65536 in
set_option maxHeartbeats 40000000 in
theorem rmEo2 (l : Launch) (Z : State) (a0 : Array Value) (hw : ∀ d ∈ tables_1, d.before a0 Z = true) (ws : List Jvm.Cond) (f : Addr) (g_ : Addr) (d : Addr) (d2 : Addr) (na : Addr) (nb : Addr) (v : Int64) (w : Int64) (s1 : Addr) (s2 : Addr) (t1 : Addr) (t2 : Addr) (b1 : Addr) (b2 : Addr) (c1 : Addr) (c2 : Addr) (xs : List Int32) (us : List Int32) (ys : List Int32) (vs : List Int32) (cs : Int32) (bn : Addr) (cn : Addr) (zs : List Int32) (ts : List Int32) (h0 : Heap) (n0 : Nat) (Z0 : n0 ≤ h0.size) (P0 : Exa Z h0 f cEN) (P1 : Fld Z h0 f cEN "digest" "Lcom/example/relate_by_hash/relatebyhash/ctph/CtphDigest;" (.ref d)) (P2 : Fld Z h0 f cEN "name" "Ljava/lang/String;" (.ref na)) (P3 : Exa Z h0 g_ cEN) (P4 : Fld Z h0 g_ cEN "digest" "Lcom/example/relate_by_hash/relatebyhash/ctph/CtphDigest;" (.ref d2)) (P5 : Fld Z h0 g_ cEN "name" "Ljava/lang/String;" (.ref nb)) (P6 : Exa Z h0 d cCD) (P7 : Fld Z h0 d cCD "blockSize" "J" (.long v)) (P8 : Fld Z h0 d cCD "signature1" "Ljava/lang/String;" (.ref s1)) (P9 : Fld Z h0 d cCD "signature2" "Ljava/lang/String;" (.ref s2)) (P10 : Exa Z h0 d2 cCD) (P11 : Fld Z h0 d2 cCD "blockSize" "J" (.long w)) (P12 : Fld Z h0 d2 cCD "signature1" "Ljava/lang/String;" (.ref t1)) (P13 : Fld Z h0 d2 cCD "signature2" "Ljava/lang/String;" (.ref t2)) (P14 : Exa Z h0 s1 cST) (P15 : Fld Z h0 s1 cST "coder" "B" (.int (0 : Int32))) (P16 : Fld Z h0 s1 cST "value" "[B" (.ref b1)) (P17 : Ia Z h0 b1 .byte xs) (P18 : Exa Z h0 s2 cST) (P19 : Fld Z h0 s2 cST "coder" "B" (.int (0 : Int32))) (P20 : Fld Z h0 s2 cST "value" "[B" (.ref b2)) (P21 : Ia Z h0 b2 .byte us) (P22 : Exa Z h0 t1 cST) (P23 : Fld Z h0 t1 cST "coder" "B" (.int (0 : Int32))) (P24 : Fld Z h0 t1 cST "value" "[B" (.ref c1)) (P25 : Ia Z h0 c1 .byte ys) (P26 : Exa Z h0 t2 cST) (P27 : Fld Z h0 t2 cST "coder" "B" (.int (0 : Int32))) (P28 : Fld Z h0 t2 cST "value" "[B" (.ref c2)) (P29 : Ia Z h0 c2 .byte vs) (P30 : Exa Z h0 na cST) (P31 : Fld Z h0 na cST "coder" "B" (.int (0 : Int32))) (P32 : Fld Z h0 na cST "value" "[B" (.ref bn)) (P33 : Ia Z h0 bn .byte zs) (P34 : Exa Z h0 nb cST) (P35 : Fld Z h0 nb cST "coder" "B" (.int (0 : Int32))) (P36 : Fld Z h0 nb cST "value" "[B" (.ref cn)) (P37 : Ia Z h0 cn .byte ts) (P38 : Old Z n0 h0) (zCS : Sta Z Z.heap cST "COMPACT_STRINGS" "Z" (.int cs)) (hfg : f ≠ g_) (hdd : d ≠ d2) (hnn : na ≠ nb) (h1 : s1 ≠ t1) (h2 : s2 ≠ t2) (hX : Sh xs) (hY : Sh ys) (hU : Sh us) (hV_ : Sh vs) (hcs : ¬ (cs = (0 : Int32))) (hZs : Sh zs) (hTs : Sh ts) :
    MetFree l (⟨cEN, "equals", "(Ljava/lang/Object;)Z"⟩ : MethodName) (head1 (Jvm.Cond.code (⟨cEN, "equals", "(Ljava/lang/Object;)Z"⟩ : MethodName) prog_17_method_4_code 3 (some .boolean) :: ws) ({ frames := 3, cells := 0, slots := 0, locals := 42 } : Room)) (fun aQ UQ => aQ = #[(.ref f), (.ref g_)] ∧ Z.Warmed39 UQ.vm ∧ UQ.heap = h0) (fun _ _ _ _ _ => True) (fun _ UQ oQ UR => ∃ vQ LQ, oQ = .returned vQ ∧ Q_rmEo2 Z f g_ d d2 na nb v w s1 s2 t1 t2 b1 b2 c1 c2 xs us ys vs cs bn cn zs ts h0 n0 vQ UR.heap LQ ∧ FrameEnd UQ oQ UR LQ ({ frames := 3, cells := 0, slots := 0, locals := 42 } : Room).cells ({ frames := 3, cells := 0, slots := 0, locals := 42 } : Room).slots) := by
  refine MetFree.of_bodySF (plainFor_of_name pn_16) hisR ?_
  intro p e s m args below meth c s₁ Bd hml0 hP hK
  obtain ⟨rfl, hZ, hh⟩ := hP
  have hx := Bd.exec
  have hby := Bd.bytes
  have hlk := Bd.notSynchronized
  have hml : c.maxLocals = 3 := hml0
  have hown : s.vm.findClass cEN = some m.cls := findClass_of_methodNamed Bd.named
  have hnm := (name_of_methodNamed Bd.named Bd.method).1
  have X0 : Stand p l e ({ frames := 3, cells := 0, slots := 0, locals := 42 } : Room) s m #[(.ref f), (.ref g_)] below meth c s₁ [] 0 0 := Stand.of_body Bd
  have e0 : s₁.heap = h0 := by rw [← hh, Bd.state]; rfl
  have N0 := Fr.nil n0
  show Go p e below _ (Done s (Q_rmEo2 Z f g_ d d2 na nb v w s1 s2 t1 t2 b1 b2 c1 c2 xs us ys vs cs bn cn zs ts h0 n0) ({ frames := 3, cells := 0, slots := 0, locals := 42 } : Room).cells ({ frames := 3, cells := 0, slots := 0, locals := 42 } : Room).slots)
  refine Go.via (fun tQ kQ => castTop (ef_16 m f g_) kQ) ?_
  show Go p e below (s₁.setTop (mkF m 0 #[.val (.ref f), .val (.ref g_), .unset] [])) _
  refine Go.via (fun _ => XS.aloadN X0.here hx rfl (hb hby d16_0) rfl rfl) ?_
  refine Go.via (fun _ => XS.aloadN X0.here hx rfl (hb hby d16_1) rfl rfl) ?_
  refine Go.via (fun _ => Jvm.RoadKit.acmp (g := (mkF m 2 #[.val (.ref f), .val (.ref g_), .unset] [(.ref g_), (.ref f)])) X0 hx rfl rfl rfl (pc0 := 2) (pc' := 7) (same := false) rfl (hb hby d16_2) rfl (decide_eq_false fun q => hfg (Value.ref.inj q)) (by decide) (by decide)) ?_
  show Go p e below (s₁.setTop (mkF m 7 #[.val (.ref f), .val (.ref g_), .unset] [])) _
  refine Go.via (fun _ => XS.aloadN X0.here hx rfl (hb hby d16_7) rfl rfl) ?_
  obtain ⟨T662, X662, e662, st662⟩ := instY X0 hx hZ hown (tw hw 103 rfl) e0 (Ins.self P3) (g := (mkF m 8 #[.val (.ref f), .val (.ref g_), .unset] [(.ref g_)])) rfl rfl (hb hby d16_8)
  refine Go.via (st662) ?_
  clear st662
  clear X0 e0
  show Go p e below (T662.setTop (mkF m 11 #[.val (.ref f), .val (.ref g_), .unset] [(.int (1 : Int32))])) _
  refine Go.via (fun _ => XS.ifYes X662.here hx rfl (pc0 := 11) (pc' := 16) rfl (hb hby d16_11) rfl ((if0 _ _).trans (feq ((by decide) : ¬ ((1 : Int32) = (0 : Int32)))).2) (by decide) (by decide)) ?_
  show Go p e below (T662.setTop (mkF m 16 #[.val (.ref f), .val (.ref g_), .unset] [])) _
  refine Go.via (fun _ => XS.aloadN X662.here hx rfl (hb hby d16_16) rfl rfl) ?_
  obtain ⟨T663, X663, e663, st663⟩ := castY X662 hx hZ hown (tw hw 103 rfl) e662 (Ins.self P3) (g := (mkF m 17 #[.val (.ref f), .val (.ref g_), .unset] [(.ref g_)])) rfl rfl (hb hby d16_17)
  refine Go.via (st663) ?_
  clear st663
  clear X662 e662
  show Go p e below (T663.setTop (mkF m 20 #[.val (.ref f), .val (.ref g_), .unset] [(.ref g_)])) _
  refine Go.via (fun _ => XS.astoreN X663.here hx rfl (hb hby d16_20) rfl rfl (l' := #[.val (.ref f), .val (.ref g_), .val (.ref g_)]) rfl) ?_
  show Go p e below (T663.setTop (mkF m 21 #[.val (.ref f), .val (.ref g_), .val (.ref g_)] [])) _
  refine Go.via (fun _ => XS.aloadN X663.here hx rfl (hb hby d16_21) rfl rfl) ?_
  obtain ⟨T664, X664, e664, st664⟩ := getF X663 hx hZ hown (host := "") (Or.inl (tw hw 92 rfl)) Via.refl e663 P1 (g := (mkF m 22 #[.val (.ref f), .val (.ref g_), .val (.ref g_)] [(.ref f)])) rfl rfl (hb hby d16_22)
  refine Go.via (st664) ?_
  clear st664
  clear X663 e663
  show Go p e below (T664.setTop (mkF m 25 #[.val (.ref f), .val (.ref g_), .val (.ref g_)] [(.ref d)])) _
  refine Go.via (fun _ => XS.aloadN X664.here hx rfl (hb hby d16_25) rfl rfl) ?_
  obtain ⟨T665, X665, e665, st665⟩ := getF X664 hx hZ hown (host := "") (Or.inl (tw hw 92 rfl)) Via.refl e664 P4 (g := (mkF m 26 #[.val (.ref f), .val (.ref g_), .val (.ref g_)] [(.ref g_), (.ref d)])) rfl rfl (hb hby d16_26)
  refine Go.via (st665) ?_
  clear st665
  clear X664 e664
  show Go p e below (T665.setTop (mkF m 29 #[.val (.ref f), .val (.ref g_), .val (.ref g_)] [(.ref d2), (.ref d)])) _
  obtain ⟨cq666, kq666, q666a, q666b, q666c⟩ := isOf hZ e665 P6
  obtain ⟨r666, _, ⟨T666, L666, k666, n666⟩, -, X666, ⟨Lc666, hQ666, l666, y666, z666⟩, st666⟩ := X665.virtualBack hx (y := (⟨cCD, "equals", "(Ljava/lang/Object;)Z"⟩ : MethodName)) (z := (⟨cCD, "equals", "(Ljava/lang/Object;)Z"⟩ : MethodName)) hown (mvT hZ (tw hw 105 rfl)) (mvT hZ (tw hw 106 rfl)) (notFace_of_selects (args := #[]) (mvT hZ (tw hw 108 rfl))) (mvT hZ (tw hw 108 rfl)) (mvT hZ (tw hw 107 rfl)) (by decide) (backOf (W := 0) (rmEo l Z a0 hw [] d d2 v w s1 s2 t1 t2 b1 b2 c1 c2 xs us ys vs cs h0 n0 Z0 P6 P7 P8 P9 P10 P11 P12 P13 P14 P15 P16 P17 P18 P19 P20 P21 P22 P23 P24 P25 P26 P27 P28 P29 P38 zCS hdd h1 h2 hX hY hU hV_ hcs) hZ (tw hw 109 rfl) (tw hw 2 rfl) (by decide) (by decide)) q666a q666c (g := (mkF m 29 #[.val (.ref f), .val (.ref g_), .val (.ref g_)] [(.ref d2), (.ref d)])) rfl (by rw [hml]; rfl) (Steps.refl _) (argsL := [(.ref d2)]) (rest := []) (lenOf pd__28Ljava_2flang_2fObject_3b_29Z rfl) rfl (by show 2 * 0 + _ ≤ _; exact Nat.le_of_eq rfl) (hb hby d16_29) (fun _ _ => ⟨rfl, e665, (by decide : 0 + 0 ≤ _), (by decide : 0 + 0 ≤ _)⟩)
  dsimp only [Pt.U, Pt.locs, Pt.cells, Pt.slots] at X666 l666 y666 z666 st666 hQ666
  rw [l666, y666, z666] at X666
  clear l666 y666 z666
  obtain ⟨hr666, N666q, eh666⟩ := hQ666
  rw [hr666] at st666
  clear hr666
  rw [N666q, List.append_nil] at X666
  refine Go.via (fun _ kQ => st666.trans kQ) ?_
  clear st666
  have e666 : T666.heap = h0 := eh666
  clear X665 e665
  show Go p e below (T666.setTop (mkF m 32 #[.val (.ref f), .val (.ref g_), .val (.ref g_)] [(.int (eqF v w xs ys us vs))])) _
  by_cases hc667 : (eqF v w xs ys us vs) = (0 : Int32)
  · refine Go.via (fun _ => XS.ifYes X666.here hx rfl (pc0 := 32) (pc' := 53) rfl (hb hby d16_32) rfl ((if0 _ _).trans (teq (hc667 : (eqF v w xs ys us vs) = (0 : Int32))).1) (by decide) (by decide)) ?_
    show Go p e below (T666.setTop (mkF m 53 #[.val (.ref f), .val (.ref g_), .val (.ref g_)] [])) _
    refine Go.via (fun _ => XS.iconst X666.here hx rfl (hb hby d16_53)) ?_
    exact Go.fin X666 hlk (v := some (.int (0 : Int32))) (fun h => by rw [Bd.returns] at h; cases h) (fun fs hr => retN X666 hx (t := .boolean) Bd.returns (by simp) (hb hby d16_54) hr) (by rw [e666]; exact ⟨(congrArg (fun qq => some (Value.int qq)) (Eq.symm ((if_pos hc667).trans rfl))), rfl, rfl⟩) (by decide) (by decide)
  · refine Go.via (fun _ => XS.ifNo X666.here hx rfl (hb hby d16_32) rfl ((if0 _ _).trans (feq (hc667 : ¬ ((eqF v w xs ys us vs) = (0 : Int32)))).1)) ?_
    show Go p e below (T666.setTop (mkF m 35 #[.val (.ref f), .val (.ref g_), .val (.ref g_)] [])) _
    refine Go.via (fun _ => XS.aloadN X666.here hx rfl (hb hby d16_35) rfl rfl) ?_
    obtain ⟨T668, X668, e668, st668⟩ := getF X666 hx hZ hown (host := "") (Or.inl (tw hw 96 rfl)) Via.refl e666 P2 (g := (mkF m 36 #[.val (.ref f), .val (.ref g_), .val (.ref g_)] [(.ref f)])) rfl rfl (hb hby d16_36)
    refine Go.via (st668) ?_
    clear st668
    clear X666 e666
    show Go p e below (T668.setTop (mkF m 39 #[.val (.ref f), .val (.ref g_), .val (.ref g_)] [(.ref na)])) _
    refine Go.via (fun _ => XS.aloadN X668.here hx rfl (hb hby d16_39) rfl rfl) ?_
    obtain ⟨T669, X669, e669, st669⟩ := getF X668 hx hZ hown (host := "") (Or.inl (tw hw 96 rfl)) Via.refl e668 P5 (g := (mkF m 40 #[.val (.ref f), .val (.ref g_), .val (.ref g_)] [(.ref g_), (.ref na)])) rfl rfl (hb hby d16_40)
    refine Go.via (st669) ?_
    clear st669
    clear X668 e668
    show Go p e below (T669.setTop (mkF m 43 #[.val (.ref f), .val (.ref g_), .val (.ref g_)] [(.ref nb), (.ref na)])) _
    obtain ⟨cq670, kq670, q670a, q670b, q670c⟩ := isOf hZ e669 P30
    obtain ⟨r670, _, ⟨T670, L670, k670, n670⟩, -, X670, ⟨Lc670, hQ670, l670, y670, z670⟩, st670⟩ := X669.virtualBack hx (y := (⟨cST, "equals", "(Ljava/lang/Object;)Z"⟩ : MethodName)) (z := (⟨cST, "equals", "(Ljava/lang/Object;)Z"⟩ : MethodName)) hown (mvT hZ (tw hw 124 rfl)) (mvT hZ (tw hw 115 rfl)) (notFace_of_selects (args := #[]) (mvT hZ (tw hw 117 rfl))) (mvT hZ (tw hw 117 rfl)) (mvT hZ (tw hw 116 rfl)) (by decide) (backOf (W := 0) (rmSe l Z a0 hw [] na nb cs bn cn zs ts h0 n0 Z0 P30 P31 P32 P33 P34 P35 P36 P37 P38 zCS hnn hZs hTs hcs) hZ (tw hw 118 rfl) (tw hw 20 rfl) (by decide) (by decide)) q670a q670c (g := (mkF m 43 #[.val (.ref f), .val (.ref g_), .val (.ref g_)] [(.ref nb), (.ref na)])) rfl (by rw [hml]; rfl) (Steps.refl _) (argsL := [(.ref nb)]) (rest := []) (lenOf pd__28Ljava_2flang_2fObject_3b_29Z rfl) rfl (by show 2 * 0 + _ ≤ _; exact Nat.le_of_eq rfl) (hb hby d16_43) (fun _ _ => ⟨rfl, e669, (by decide : 0 + 0 ≤ _), (by decide : 0 + 0 ≤ _)⟩)
    dsimp only [Pt.U, Pt.locs, Pt.cells, Pt.slots] at X670 l670 y670 z670 st670 hQ670
    rw [l670, y670, z670] at X670
    clear l670 y670 z670
    obtain ⟨hr670, N670q, eh670⟩ := hQ670
    rw [hr670] at st670
    clear hr670
    rw [N670q, List.append_nil] at X670
    refine Go.via (fun _ kQ => st670.trans kQ) ?_
    clear st670
    have e670 : T670.heap = h0 := eh670
    clear X669 e669
    show Go p e below (T670.setTop (mkF m 46 #[.val (.ref f), .val (.ref g_), .val (.ref g_)] [(.int (seF zs ts))])) _
    by_cases hc671 : (seF zs ts) = (0 : Int32)
    · refine Go.via (fun _ => XS.ifYes X670.here hx rfl (pc0 := 46) (pc' := 53) rfl (hb hby d16_46) rfl ((if0 _ _).trans (teq (hc671 : (seF zs ts) = (0 : Int32))).1) (by decide) (by decide)) ?_
      show Go p e below (T670.setTop (mkF m 53 #[.val (.ref f), .val (.ref g_), .val (.ref g_)] [])) _
      refine Go.via (fun _ => XS.iconst X670.here hx rfl (hb hby d16_53)) ?_
      exact Go.fin X670 hlk (v := some (.int (0 : Int32))) (fun h => by rw [Bd.returns] at h; cases h) (fun fs hr => retN X670 hx (t := .boolean) Bd.returns (by simp) (hb hby d16_54) hr) (by rw [e670]; exact ⟨(congrArg (fun qq => some (Value.int qq)) (Eq.symm ((if_neg hc667).trans ((if_pos hc671).trans rfl)))), rfl, rfl⟩) (by decide) (by decide)
    · refine Go.via (fun _ => XS.ifNo X670.here hx rfl (hb hby d16_46) rfl ((if0 _ _).trans (feq (hc671 : ¬ ((seF zs ts) = (0 : Int32)))).1)) ?_
      show Go p e below (T670.setTop (mkF m 49 #[.val (.ref f), .val (.ref g_), .val (.ref g_)] [])) _
      refine Go.via (fun _ => XS.iconst X670.here hx rfl (hb hby d16_49)) ?_
      refine Go.via (fun _ => XS.goto X670.here hx rfl (pc0 := 50) (pc' := 54) rfl (hb hby d16_50) (by decide) (by decide)) ?_
      exact Go.fin X670 hlk (v := some (.int (1 : Int32))) (fun h => by rw [Bd.returns] at h; cases h) (fun fs hr => retN X670 hx (t := .boolean) Bd.returns (by simp) (hb hby d16_54) hr) (by rw [e670]; exact ⟨(congrArg (fun qq => some (Value.int qq)) (Eq.symm ((if_neg hc667).trans ((if_neg hc671).trans rfl)))), rfl, rfl⟩) (by decide) (by decide)
theorem pd__28JIIZ_29Ljava_2flang_2fString_3b : parseMethodDescriptor "(JIIZ)Ljava/lang/String;" = some ⟨[.long, .int, .int, .boolean], some (.object cST)⟩ := by decide +kernel
theorem pd__28JLjava_2flang_2fString_3bLjava_2flang_2fString_3b_29V : parseMethodDescriptor "(JLjava/lang/String;Ljava/lang/String;)V" = some ⟨[.long, (.object cST), (.object cST)], none⟩ := by decide +kernel
theorem pd__28Lcom_2fexample_2frelate_by_hash_2frelatebyhash_2fctph_2fCtphDigest_3bLjava_2flang_2fString_3b_29V : parseMethodDescriptor "(Lcom/example/relate_by_hash/relatebyhash/ctph/CtphDigest;Ljava/lang/String;)V" = some ⟨[(.object cCD), (.object cST)], none⟩ := by decide +kernel
theorem pd__28JJII_29Z : parseMethodDescriptor "(JJII)Z" = some ⟨[.long, .long, .int, .int], some .boolean⟩ := by decide +kernel
def Q_rm0 (Z : State) (p0 : Int64) (p1 : Int64) (p2 : Int32) (cs : Int32) (fv : Value) (h0 : Heap) (n0 : Nat) (vQ : Option Value) (hQ : Heap) (vmQ : Vm) (LQ : List Loc) : Prop := vQ = some (.int (1 : Int32)) ∧ Fr n0 LQ ∧ Keep h0 hQ [] ∧ Em Z vmQ hQ ["signature 1", "signature 2", "digest", "name"]
def V_rm0 (Z : State) (p0 : Int64) (p1 : Int64) (p2 : Int32) (cs : Int32) (fv : Value) (h0 : Heap) (vmV : Vm) : Prop := Em Z vmV h0 ["signature 1", "signature 2", "digest", "name"] ∧ True
set_option maxRecDepth 65536 in
set_option maxHeartbeats 40000000 in
theorem rm_rm0_l294_5 (l : Launch) (Z : State) (a0 : Array Value) (hw : ∀ d ∈ tables_1, d.before a0 Z = true) (p0 : Int64) (p1 : Int64) (p2 : Int32) (cs : Int32) (fv : Value) (h0 : Heap) (n0 : Nat) (zCS : Sta Z Z.heap cST "COMPACT_STRINGS" "Z" (.int cs)) (zF : Sta Z Z.heap cPR "SIOOBE_FORMATTER" "Ljava/util/function/BiFunction;" fv) (hcs : ¬ (cs = (0 : Int32))) (hfv : fv = .null ∨ ∃ fa : Addr, fv = .ref fa) (hh7 : Jvm.Lit.constHeld Z cST 7) (hcw : Jvm.Lit.compactW.before a0 Z = true) {p : Program} {e : Env} {s : State} {m : MethodId} {below : List Frame} {meth : Method} {c : Code} (hx : p.tables.exec = Jvm.exec) (hby : c.code = code) (hlk : meth.locks = false) (hml : c.maxLocals = 21) (hret : meth.sig.returnType = ret) :
    ∀ (T1056 : State) (L1056 : List Loc) (h1056 : Heap) (vm1056 : Vm) (K1056 : Nat) (ks : Int64) (u1 : Int64) (u2 : Int64) (u3 : Int64) (md : Int32) (b680 : Addr) (b692 : Addr) (b712 : Addr) (b751 : Addr) (b768 : Addr) (b804 : Addr) (b856 : Addr) (b876 : Addr) (b936 : Addr) (b973 : Addr) (v693 : Addr) (v713 : Addr) (v769 : Addr) (v805 : Addr) (v877 : Addr) (v974 : Addr), Stand p l e room_1 (s.setVm vm1056) m #[(.long p0), (.long p1), (.int p2)] below meth c T1056 L1056 44 346 → T1056.heap = h1056 → Fr n0 L1056 → n0 ≤ h1056.size → Keep h0 h1056 [] → Z.Warmed39 (s.setVm vm1056).vm → (s.setVm vm1056).vm.findClass cLAW = some m.cls → s.Since vm1056 K1056 → K1056 ≤ h1056.size → Em Z vm1056 h1056 ["signature 1", "signature 2", "digest", "name"] → Old Z n0 h1056 → Exa Z h1056 b680 cCD → Fld Z h1056 b680 cCD "blockSize" "J" (.long ((3 : Int64) <<< ((kF p0) &&& 0x3f).toInt64)) → Fld Z h1056 b680 cCD "signature1" "Ljava/lang/String;" (.ref b692) → Fld Z h1056 b680 cCD "signature2" "Ljava/lang/String;" (.ref b712) → Exa Z h1056 b692 cST → Fld Z h1056 b692 cST "coder" "B" (.int (0 : Int32)) → Fld Z h1056 b692 cST "value" "[B" (.ref v693) → Ia Z h1056 v693 .byte (sgA p0) → Exa Z h1056 b712 cST → Fld Z h1056 b712 cST "coder" "B" (.int (0 : Int32)) → Fld Z h1056 b712 cST "value" "[B" (.ref v713) → Ia Z h1056 v713 .byte (sgB p0) → Exa Z h1056 b751 cCD → Fld Z h1056 b751 cCD "blockSize" "J" (.long ((3 : Int64) <<< ((kF ks) &&& 0x3f).toInt64)) → Fld Z h1056 b751 cCD "signature1" "Ljava/lang/String;" (.ref b768) → Fld Z h1056 b751 cCD "signature2" "Ljava/lang/String;" (.ref b804) → Exa Z h1056 b768 cST → Fld Z h1056 b768 cST "coder" "B" (.int (0 : Int32)) → Fld Z h1056 b768 cST "value" "[B" (.ref v769) → Ia Z h1056 v769 .byte (sgA u1) → Exa Z h1056 b804 cST → Fld Z h1056 b804 cST "coder" "B" (.int (0 : Int32)) → Fld Z h1056 b804 cST "value" "[B" (.ref v805) → Ia Z h1056 v805 .byte (sgB u2) → Exa Z h1056 b856 cEN → Fld Z h1056 b856 cEN "digest" "Lcom/example/relate_by_hash/relatebyhash/ctph/CtphDigest;" (.ref b680) → Fld Z h1056 b856 cEN "name" "Ljava/lang/String;" (.ref b876) → Exa Z h1056 b876 cST → Fld Z h1056 b876 cST "coder" "B" (.int (0 : Int32)) → Fld Z h1056 b876 cST "value" "[B" (.ref v877) → Ia Z h1056 v877 .byte (nmF p0) → Exa Z h1056 b936 cEN → Fld Z h1056 b936 cEN "digest" "Lcom/example/relate_by_hash/relatebyhash/ctph/CtphDigest;" (.ref b751) → Fld Z h1056 b936 cEN "name" "Ljava/lang/String;" (.ref b973) → Exa Z h1056 b973 cST → Fld Z h1056 b973 cST "coder" "B" (.int (0 : Int32)) → Fld Z h1056 b973 cST "value" "[B" (.ref v974) → Ia Z h1056 v974 .byte (nmF u3) → b680 ≠ b751 → b692 ≠ b768 → b712 ≠ b804 → b856 ≠ b936 → b876 ≠ b973 → (kF p0) = (kF ks) → (smF p0 u1 (5 : Int32) (6 : Int32)) = (0 : Int32) → Go p e below (T1056.setTop (mkF m 294 #[.val (.long p0), .second, .val (.long p1), .second, .val (.int p2), .val (.long ks), .second, .val (.long u1), .second, .val (.long u2), .second, .val (.long u3), .second, .val (.ref b680), .val (.ref b751), .val (.ref b856), .val (.ref b936), .val (.int md), .val (.int (0 : Int32)), .unset, .unset] [])) (DoneW s (Q_rm0 Z p0 p1 p2 cs fv h0 n0) room_1.cells room_1.slots) := by
  intro T1056 L1056 h1056 vm1056 K1056 ks u1 u2 u3 md b680 b692 b712 b751 b768 b804 b856 b876 b936 b973 v693 v713 v769 v805 v877 v974 X1056 e1056 N1056 z1056 k1056 hZ hown hS1056 hk1056 I1056 lf0_1056 lf1_1056 lf2_1056 lf3_1056 lf4_1056 lf5_1056 lf6_1056 lf7_1056 lf8_1056 lf9_1056 lf10_1056 lf11_1056 lf12_1056 lf13_1056 lf14_1056 lf15_1056 lf16_1056 lf17_1056 lf18_1056 lf19_1056 lf20_1056 lf21_1056 lf22_1056 lf23_1056 lf24_1056 lf25_1056 lf26_1056 lf27_1056 lf28_1056 lf29_1056 lf30_1056 lf31_1056 lf32_1056 lf33_1056 lf34_1056 lf35_1056 lf36_1056 lf37_1056 lf38_1056 lf48_1056 lf54_1056 lf66_1056 lf113_1056 lf127_1056 hc1053 hc1055
  show Go p e below (T1056.setTop (mkF m 294 #[.val (.long p0), .second, .val (.long p1), .second, .val (.int p2), .val (.long ks), .second, .val (.long u1), .second, .val (.long u2), .second, .val (.long u3), .second, .val (.ref b680), .val (.ref b751), .val (.ref b856), .val (.ref b936), .val (.int md), .val (.int (0 : Int32)), .unset, .unset] [])) _
  refine Go.via (fun _ => XS.aload X1056.here hx rfl (hb hby at_294) rfl rfl) ?_
  refine Go.via (fun _ => XS.aload X1056.here hx rfl (hb hby at_296) rfl rfl) ?_
  obtain ⟨cq1057, kq1057, q1057a, q1057b, q1057c⟩ := isOf hZ e1056 lf25_1056
  obtain ⟨r1057, _, ⟨T1057, L1057, k1057, n1057⟩, -, X1057, ⟨Lc1057, hQ1057, l1057, y1057, z1057⟩, st1057⟩ := X1056.virtualBack hx (y := (⟨cEN, "equals", "(Ljava/lang/Object;)Z"⟩ : MethodName)) (z := (⟨cEN, "equals", "(Ljava/lang/Object;)Z"⟩ : MethodName)) hown (mvT hZ (tw hw 98 rfl)) (mvT hZ (tw hw 99 rfl)) (notFace_of_selects (args := #[]) (mvT hZ (tw hw 101 rfl))) (mvT hZ (tw hw 101 rfl)) (mvT hZ (tw hw 100 rfl)) (by decide) (backOf (W := 0) (rmEo2 l Z a0 hw [] b856 b936 b680 b751 b876 b973 ((3 : Int64) <<< ((kF p0) &&& 0x3f).toInt64) ((3 : Int64) <<< ((kF ks) &&& 0x3f).toInt64) b692 b712 b768 b804 v693 v713 v769 v805 (sgA p0) (sgB p0) (sgA u1) (sgB u2) cs v877 v974 (nmF p0) (nmF u3) h1056 n0 z1056 lf25_1056 lf26_1056 lf27_1056 lf32_1056 lf33_1056 lf34_1056 lf1_1056 lf2_1056 lf3_1056 lf4_1056 lf13_1056 lf14_1056 lf15_1056 lf16_1056 lf5_1056 lf6_1056 lf7_1056 lf8_1056 lf9_1056 lf10_1056 lf11_1056 lf12_1056 lf17_1056 lf18_1056 lf19_1056 lf20_1056 lf21_1056 lf22_1056 lf23_1056 lf24_1056 lf28_1056 lf29_1056 lf30_1056 lf31_1056 lf35_1056 lf36_1056 lf37_1056 lf38_1056 lf0_1056 zCS lf113_1056 lf48_1056 lf127_1056 lf54_1056 lf66_1056 (own_Sh (own_SgA _)) (own_Sh (own_SgA _)) (own_Sh (own_SgB _)) (own_Sh (own_SgB _)) hcs (own_ShN _) (own_ShN _)) hZ (tw hw 102 rfl) (tw hw 80 rfl) (by decide) (by decide)) q1057a q1057c (g := (mkF m 298 #[.val (.long p0), .second, .val (.long p1), .second, .val (.int p2), .val (.long ks), .second, .val (.long u1), .second, .val (.long u2), .second, .val (.long u3), .second, .val (.ref b680), .val (.ref b751), .val (.ref b856), .val (.ref b936), .val (.int md), .val (.int (0 : Int32)), .unset, .unset] [(.ref b936), (.ref b856)])) rfl (by rw [hml]; rfl) (Steps.refl _) (argsL := [(.ref b936)]) (rest := []) (lenOf pd__28Ljava_2flang_2fObject_3b_29Z rfl) rfl (by show 2 * 0 + _ ≤ _; exact Nat.le_of_eq rfl) (hb hby at_298) (fun _ _ => ⟨rfl, e1056, (by decide : 44 + 0 ≤ _), (by decide : 346 + 0 ≤ _)⟩)
  dsimp only [Pt.U, Pt.locs, Pt.cells, Pt.slots] at X1057 l1057 y1057 z1057 st1057 hQ1057
  rw [l1057, y1057, z1057] at X1057
  clear l1057 y1057 z1057
  obtain ⟨hr1057, N1057q, eh1057⟩ := hQ1057
  rw [hr1057] at st1057
  clear hr1057
  rw [N1057q, List.append_nil] at X1057
  refine Go.via (fun _ kQ => st1057.trans kQ) ?_
  clear st1057
  have e1057 : T1057.heap = h1056 := eh1057
  clear X1056 e1056
  show Go p e below (T1057.setTop (mkF m 301 #[.val (.long p0), .second, .val (.long p1), .second, .val (.int p2), .val (.long ks), .second, .val (.long u1), .second, .val (.long u2), .second, .val (.long u3), .second, .val (.ref b680), .val (.ref b751), .val (.ref b856), .val (.ref b936), .val (.int md), .val (.int (0 : Int32)), .unset, .unset] [(.int (enF ((3 : Int64) <<< ((kF p0) &&& 0x3f).toInt64) ((3 : Int64) <<< ((kF ks) &&& 0x3f).toInt64) (sgA p0) (sgA u1) (sgB p0) (sgB u2) (nmF p0) (nmF u3)))])) _
  refine Go.via (fun _ => XS.istore X1057.here hx rfl (hb hby at_301) rfl (l' := #[.val (.long p0), .second, .val (.long p1), .second, .val (.int p2), .val (.long ks), .second, .val (.long u1), .second, .val (.long u2), .second, .val (.long u3), .second, .val (.ref b680), .val (.ref b751), .val (.ref b856), .val (.ref b936), .val (.int md), .val (.int (0 : Int32)), .val (.int (enF ((3 : Int64) <<< ((kF p0) &&& 0x3f).toInt64) ((3 : Int64) <<< ((kF ks) &&& 0x3f).toInt64) (sgA p0) (sgA u1) (sgB p0) (sgB u2) (nmF p0) (nmF u3))), .unset]) rfl) ?_
  show Go p e below (T1057.setTop (mkF m 303 #[.val (.long p0), .second, .val (.long p1), .second, .val (.int p2), .val (.long ks), .second, .val (.long u1), .second, .val (.long u2), .second, .val (.long u3), .second, .val (.ref b680), .val (.ref b751), .val (.ref b856), .val (.ref b936), .val (.int md), .val (.int (0 : Int32)), .val (.int (enF ((3 : Int64) <<< ((kF p0) &&& 0x3f).toInt64) ((3 : Int64) <<< ((kF ks) &&& 0x3f).toInt64) (sgA p0) (sgA u1) (sgB p0) (sgB u2) (nmF p0) (nmF u3))), .unset] [])) _
  refine Go.via (fun _ => XS.aload X1057.here hx rfl (hb hby at_303) rfl rfl) ?_
  refine Go.via (fun _ => XS.aload X1057.here hx rfl (hb hby at_305) rfl rfl) ?_
  obtain ⟨cq1058, kq1058, q1058a, q1058b, q1058c⟩ := isOf hZ e1057 lf32_1056
  obtain ⟨r1058, _, ⟨T1058, L1058, k1058, n1058⟩, -, X1058, ⟨Lc1058, hQ1058, l1058, y1058, z1058⟩, st1058⟩ := X1057.virtualBack hx (y := (⟨cEN, "equals", "(Ljava/lang/Object;)Z"⟩ : MethodName)) (z := (⟨cEN, "equals", "(Ljava/lang/Object;)Z"⟩ : MethodName)) hown (mvT hZ (tw hw 98 rfl)) (mvT hZ (tw hw 99 rfl)) (notFace_of_selects (args := #[]) (mvT hZ (tw hw 101 rfl))) (mvT hZ (tw hw 101 rfl)) (mvT hZ (tw hw 100 rfl)) (by decide) (backOf (W := 0) (rmEo2 l Z a0 hw [] b936 b856 b751 b680 b973 b876 ((3 : Int64) <<< ((kF ks) &&& 0x3f).toInt64) ((3 : Int64) <<< ((kF p0) &&& 0x3f).toInt64) b768 b804 b692 b712 v769 v805 v693 v713 (sgA u1) (sgB u2) (sgA p0) (sgB p0) cs v974 v877 (nmF u3) (nmF p0) h1056 n0 z1056 lf32_1056 lf33_1056 lf34_1056 lf25_1056 lf26_1056 lf27_1056 lf13_1056 lf14_1056 lf15_1056 lf16_1056 lf1_1056 lf2_1056 lf3_1056 lf4_1056 lf17_1056 lf18_1056 lf19_1056 lf20_1056 lf21_1056 lf22_1056 lf23_1056 lf24_1056 lf5_1056 lf6_1056 lf7_1056 lf8_1056 lf9_1056 lf10_1056 lf11_1056 lf12_1056 lf35_1056 lf36_1056 lf37_1056 lf38_1056 lf28_1056 lf29_1056 lf30_1056 lf31_1056 lf0_1056 zCS (Ne.symm lf113_1056) (Ne.symm lf48_1056) (Ne.symm lf127_1056) (Ne.symm lf54_1056) (Ne.symm lf66_1056) (own_Sh (own_SgA _)) (own_Sh (own_SgA _)) (own_Sh (own_SgB _)) (own_Sh (own_SgB _)) hcs (own_ShN _) (own_ShN _)) hZ (tw hw 102 rfl) (tw hw 80 rfl) (by decide) (by decide)) q1058a q1058c (g := (mkF m 307 #[.val (.long p0), .second, .val (.long p1), .second, .val (.int p2), .val (.long ks), .second, .val (.long u1), .second, .val (.long u2), .second, .val (.long u3), .second, .val (.ref b680), .val (.ref b751), .val (.ref b856), .val (.ref b936), .val (.int md), .val (.int (0 : Int32)), .val (.int (enF ((3 : Int64) <<< ((kF p0) &&& 0x3f).toInt64) ((3 : Int64) <<< ((kF ks) &&& 0x3f).toInt64) (sgA p0) (sgA u1) (sgB p0) (sgB u2) (nmF p0) (nmF u3))), .unset] [(.ref b856), (.ref b936)])) rfl (by rw [hml]; rfl) (Steps.refl _) (argsL := [(.ref b856)]) (rest := []) (lenOf pd__28Ljava_2flang_2fObject_3b_29Z rfl) rfl (by show 2 * 0 + _ ≤ _; exact Nat.le_of_eq rfl) (hb hby at_307) (fun _ _ => ⟨rfl, e1057, (by decide : 44 + 0 ≤ _), (by decide : 346 + 0 ≤ _)⟩)
  dsimp only [Pt.U, Pt.locs, Pt.cells, Pt.slots] at X1058 l1058 y1058 z1058 st1058 hQ1058
  rw [l1058, y1058, z1058] at X1058
  clear l1058 y1058 z1058
  obtain ⟨hr1058, N1058q, eh1058⟩ := hQ1058
  rw [hr1058] at st1058
  clear hr1058
  rw [N1058q, List.append_nil] at X1058
  refine Go.via (fun _ kQ => st1058.trans kQ) ?_
  clear st1058
  have e1058 : T1058.heap = h1056 := eh1058
  clear X1057 e1057
  show Go p e below (T1058.setTop (mkF m 310 #[.val (.long p0), .second, .val (.long p1), .second, .val (.int p2), .val (.long ks), .second, .val (.long u1), .second, .val (.long u2), .second, .val (.long u3), .second, .val (.ref b680), .val (.ref b751), .val (.ref b856), .val (.ref b936), .val (.int md), .val (.int (0 : Int32)), .val (.int (enF ((3 : Int64) <<< ((kF p0) &&& 0x3f).toInt64) ((3 : Int64) <<< ((kF ks) &&& 0x3f).toInt64) (sgA p0) (sgA u1) (sgB p0) (sgB u2) (nmF p0) (nmF u3))), .unset] [(.int (enF ((3 : Int64) <<< ((kF ks) &&& 0x3f).toInt64) ((3 : Int64) <<< ((kF p0) &&& 0x3f).toInt64) (sgA u1) (sgA p0) (sgB u2) (sgB p0) (nmF u3) (nmF p0)))])) _
  refine Go.via (fun _ => XS.istore X1058.here hx rfl (hb hby at_310) rfl (l' := #[.val (.long p0), .second, .val (.long p1), .second, .val (.int p2), .val (.long ks), .second, .val (.long u1), .second, .val (.long u2), .second, .val (.long u3), .second, .val (.ref b680), .val (.ref b751), .val (.ref b856), .val (.ref b936), .val (.int md), .val (.int (0 : Int32)), .val (.int (enF ((3 : Int64) <<< ((kF p0) &&& 0x3f).toInt64) ((3 : Int64) <<< ((kF ks) &&& 0x3f).toInt64) (sgA p0) (sgA u1) (sgB p0) (sgB u2) (nmF p0) (nmF u3))), .val (.int (enF ((3 : Int64) <<< ((kF ks) &&& 0x3f).toInt64) ((3 : Int64) <<< ((kF p0) &&& 0x3f).toInt64) (sgA u1) (sgA p0) (sgB u2) (sgB p0) (nmF u3) (nmF p0)))]) rfl) ?_
  show Go p e below (T1058.setTop (mkF m 312 #[.val (.long p0), .second, .val (.long p1), .second, .val (.int p2), .val (.long ks), .second, .val (.long u1), .second, .val (.long u2), .second, .val (.long u3), .second, .val (.ref b680), .val (.ref b751), .val (.ref b856), .val (.ref b936), .val (.int md), .val (.int (0 : Int32)), .val (.int (enF ((3 : Int64) <<< ((kF p0) &&& 0x3f).toInt64) ((3 : Int64) <<< ((kF ks) &&& 0x3f).toInt64) (sgA p0) (sgA u1) (sgB p0) (sgB u2) (nmF p0) (nmF u3))), .val (.int (enF ((3 : Int64) <<< ((kF ks) &&& 0x3f).toInt64) ((3 : Int64) <<< ((kF p0) &&& 0x3f).toInt64) (sgA u1) (sgA p0) (sgB u2) (sgB p0) (nmF u3) (nmF p0)))] [])) _
  refine Go.via (fun _ => XS.iload X1058.here hx rfl (hb hby at_312) rfl) ?_
  refine Go.via (fun _ => XS.iload X1058.here hx rfl (hb hby at_314) rfl) ?_
  refine Go.via (fun _ => XS.icmpNo X1058.here hx rfl (hb hby at_316) rfl (teq (((own_en p0 ks u1 u2 u3).trans ((if_pos hc1053).trans ((if_pos hc1055).trans rfl))) : (enF ((3 : Int64) <<< ((kF p0) &&& 0x3f).toInt64) ((3 : Int64) <<< ((kF ks) &&& 0x3f).toInt64) (sgA p0) (sgA u1) (sgB p0) (sgB u2) (nmF p0) (nmF u3)) = (0 : Int32))).2) ?_
  show Go p e below (T1058.setTop (mkF m 319 #[.val (.long p0), .second, .val (.long p1), .second, .val (.int p2), .val (.long ks), .second, .val (.long u1), .second, .val (.long u2), .second, .val (.long u3), .second, .val (.ref b680), .val (.ref b751), .val (.ref b856), .val (.ref b936), .val (.int md), .val (.int (0 : Int32)), .val (.int (enF ((3 : Int64) <<< ((kF p0) &&& 0x3f).toInt64) ((3 : Int64) <<< ((kF ks) &&& 0x3f).toInt64) (sgA p0) (sgA u1) (sgB p0) (sgB u2) (nmF p0) (nmF u3))), .val (.int (enF ((3 : Int64) <<< ((kF ks) &&& 0x3f).toInt64) ((3 : Int64) <<< ((kF p0) &&& 0x3f).toInt64) (sgA u1) (sgA p0) (sgB u2) (sgB p0) (nmF u3) (nmF p0)))] [])) _
  refine Go.via (fun _ => XS.iload X1058.here hx rfl (hb hby at_319) rfl) ?_
  refine Go.via (fun _ => XS.iload X1058.here hx rfl (hb hby at_321) rfl) ?_
  refine Go.via (fun _ => XS.icmpNo X1058.here hx rfl (hb hby at_323) rfl (teq (((own_ens p0 ks u1 u2 u3).trans ((if_pos hc1053).trans ((if_pos hc1055).trans rfl))) : (enF ((3 : Int64) <<< ((kF ks) &&& 0x3f).toInt64) ((3 : Int64) <<< ((kF p0) &&& 0x3f).toInt64) (sgA u1) (sgA p0) (sgB u2) (sgB p0) (nmF u3) (nmF p0)) = (0 : Int32))).2) ?_
  show Go p e below (T1058.setTop (mkF m 326 #[.val (.long p0), .second, .val (.long p1), .second, .val (.int p2), .val (.long ks), .second, .val (.long u1), .second, .val (.long u2), .second, .val (.long u3), .second, .val (.ref b680), .val (.ref b751), .val (.ref b856), .val (.ref b936), .val (.int md), .val (.int (0 : Int32)), .val (.int (enF ((3 : Int64) <<< ((kF p0) &&& 0x3f).toInt64) ((3 : Int64) <<< ((kF ks) &&& 0x3f).toInt64) (sgA p0) (sgA u1) (sgB p0) (sgB u2) (nmF p0) (nmF u3))), .val (.int (enF ((3 : Int64) <<< ((kF ks) &&& 0x3f).toInt64) ((3 : Int64) <<< ((kF p0) &&& 0x3f).toInt64) (sgA u1) (sgA p0) (sgB u2) (sgB p0) (nmF u3) (nmF p0)))] [])) _
  refine Go.via (fun _ => XS.iconst X1058.here hx rfl (hb hby at_326)) ?_
  refine Go.via (fun _ => XS.goto X1058.here hx rfl (pc0 := 327) (pc' := 331) rfl (hb hby at_327) (by decide) (by decide)) ?_
  exact Go.finW X1058 hS1056 (Nat.le_trans hk1056 (Nat.le_of_eq (congrArg Array.size (Eq.symm e1058)))) hlk (v := some (.int (1 : Int32))) (fun h => by rw [hret] at h; cases h) (fun fs hr => retN X1058 hx (t := .boolean) hret (by simp) (hb hby at_331) hr) (by rw [e1058]; exact ⟨rfl, N1056, k1056, Em.still I1056 X1058.warmed.interned_eq (w39 X1058.warmed.wide)⟩) (by decide) (by decide)
set_option maxRecDepth 65536 in
set_option maxHeartbeats 40000000 in
theorem rm_rm0_l294_6 (l : Launch) (Z : State) (a0 : Array Value) (hw : ∀ d ∈ tables_1, d.before a0 Z = true) (p0 : Int64) (p1 : Int64) (p2 : Int32) (cs : Int32) (fv : Value) (h0 : Heap) (n0 : Nat) (zCS : Sta Z Z.heap cST "COMPACT_STRINGS" "Z" (.int cs)) (zF : Sta Z Z.heap cPR "SIOOBE_FORMATTER" "Ljava/util/function/BiFunction;" fv) (hcs : ¬ (cs = (0 : Int32))) (hfv : fv = .null ∨ ∃ fa : Addr, fv = .ref fa) (hh7 : Jvm.Lit.constHeld Z cST 7) (hcw : Jvm.Lit.compactW.before a0 Z = true) {p : Program} {e : Env} {s : State} {m : MethodId} {below : List Frame} {meth : Method} {c : Code} (hx : p.tables.exec = Jvm.exec) (hby : c.code = code) (hlk : meth.locks = false) (hml : c.maxLocals = 21) (hret : meth.sig.returnType = ret) :
    ∀ (T1061 : State) (L1061 : List Loc) (h1061 : Heap) (vm1061 : Vm) (K1061 : Nat) (ks : Int64) (u1 : Int64) (u2 : Int64) (u3 : Int64) (md : Int32) (b680 : Addr) (b692 : Addr) (b712 : Addr) (b751 : Addr) (b768 : Addr) (b804 : Addr) (b856 : Addr) (b876 : Addr) (b936 : Addr) (b973 : Addr) (v693 : Addr) (v713 : Addr) (v769 : Addr) (v805 : Addr) (v877 : Addr) (v974 : Addr), Stand p l e room_1 (s.setVm vm1061) m #[(.long p0), (.long p1), (.int p2)] below meth c T1061 L1061 44 346 → T1061.heap = h1061 → Fr n0 L1061 → n0 ≤ h1061.size → Keep h0 h1061 [] → Z.Warmed39 (s.setVm vm1061).vm → (s.setVm vm1061).vm.findClass cLAW = some m.cls → s.Since vm1061 K1061 → K1061 ≤ h1061.size → Em Z vm1061 h1061 ["signature 1", "signature 2", "digest", "name"] → Old Z n0 h1061 → Exa Z h1061 b680 cCD → Fld Z h1061 b680 cCD "blockSize" "J" (.long ((3 : Int64) <<< ((kF p0) &&& 0x3f).toInt64)) → Fld Z h1061 b680 cCD "signature1" "Ljava/lang/String;" (.ref b692) → Fld Z h1061 b680 cCD "signature2" "Ljava/lang/String;" (.ref b712) → Exa Z h1061 b692 cST → Fld Z h1061 b692 cST "coder" "B" (.int (0 : Int32)) → Fld Z h1061 b692 cST "value" "[B" (.ref v693) → Ia Z h1061 v693 .byte (sgA p0) → Exa Z h1061 b712 cST → Fld Z h1061 b712 cST "coder" "B" (.int (0 : Int32)) → Fld Z h1061 b712 cST "value" "[B" (.ref v713) → Ia Z h1061 v713 .byte (sgB p0) → Exa Z h1061 b751 cCD → Fld Z h1061 b751 cCD "blockSize" "J" (.long ((3 : Int64) <<< ((kF ks) &&& 0x3f).toInt64)) → Fld Z h1061 b751 cCD "signature1" "Ljava/lang/String;" (.ref b768) → Fld Z h1061 b751 cCD "signature2" "Ljava/lang/String;" (.ref b804) → Exa Z h1061 b768 cST → Fld Z h1061 b768 cST "coder" "B" (.int (0 : Int32)) → Fld Z h1061 b768 cST "value" "[B" (.ref v769) → Ia Z h1061 v769 .byte (sgA u1) → Exa Z h1061 b804 cST → Fld Z h1061 b804 cST "coder" "B" (.int (0 : Int32)) → Fld Z h1061 b804 cST "value" "[B" (.ref v805) → Ia Z h1061 v805 .byte (sgB u2) → Exa Z h1061 b856 cEN → Fld Z h1061 b856 cEN "digest" "Lcom/example/relate_by_hash/relatebyhash/ctph/CtphDigest;" (.ref b680) → Fld Z h1061 b856 cEN "name" "Ljava/lang/String;" (.ref b876) → Exa Z h1061 b876 cST → Fld Z h1061 b876 cST "coder" "B" (.int (0 : Int32)) → Fld Z h1061 b876 cST "value" "[B" (.ref v877) → Ia Z h1061 v877 .byte (nmF p0) → Exa Z h1061 b936 cEN → Fld Z h1061 b936 cEN "digest" "Lcom/example/relate_by_hash/relatebyhash/ctph/CtphDigest;" (.ref b751) → Fld Z h1061 b936 cEN "name" "Ljava/lang/String;" (.ref b973) → Exa Z h1061 b973 cST → Fld Z h1061 b973 cST "coder" "B" (.int (0 : Int32)) → Fld Z h1061 b973 cST "value" "[B" (.ref v974) → Ia Z h1061 v974 .byte (nmF u3) → b680 ≠ b751 → b692 ≠ b768 → b712 ≠ b804 → b856 ≠ b936 → b876 ≠ b973 → (kF p0) = (kF ks) → ¬ ((smF p0 u1 (5 : Int32) (6 : Int32)) = (0 : Int32)) → (smF p0 u2 (19 : Int32) (6 : Int32)) = (0 : Int32) → Go p e below (T1061.setTop (mkF m 294 #[.val (.long p0), .second, .val (.long p1), .second, .val (.int p2), .val (.long ks), .second, .val (.long u1), .second, .val (.long u2), .second, .val (.long u3), .second, .val (.ref b680), .val (.ref b751), .val (.ref b856), .val (.ref b936), .val (.int md), .val (.int (0 : Int32)), .unset, .unset] [])) (DoneW s (Q_rm0 Z p0 p1 p2 cs fv h0 n0) room_1.cells room_1.slots) := by
  intro T1061 L1061 h1061 vm1061 K1061 ks u1 u2 u3 md b680 b692 b712 b751 b768 b804 b856 b876 b936 b973 v693 v713 v769 v805 v877 v974 X1061 e1061 N1061 z1061 k1061 hZ hown hS1061 hk1061 I1061 lf0_1061 lf1_1061 lf2_1061 lf3_1061 lf4_1061 lf5_1061 lf6_1061 lf7_1061 lf8_1061 lf9_1061 lf10_1061 lf11_1061 lf12_1061 lf13_1061 lf14_1061 lf15_1061 lf16_1061 lf17_1061 lf18_1061 lf19_1061 lf20_1061 lf21_1061 lf22_1061 lf23_1061 lf24_1061 lf25_1061 lf26_1061 lf27_1061 lf28_1061 lf29_1061 lf30_1061 lf31_1061 lf32_1061 lf33_1061 lf34_1061 lf35_1061 lf36_1061 lf37_1061 lf38_1061 lf48_1061 lf54_1061 lf66_1061 lf113_1061 lf127_1061 hc1053 hc1055 hc1060
  show Go p e below (T1061.setTop (mkF m 294 #[.val (.long p0), .second, .val (.long p1), .second, .val (.int p2), .val (.long ks), .second, .val (.long u1), .second, .val (.long u2), .second, .val (.long u3), .second, .val (.ref b680), .val (.ref b751), .val (.ref b856), .val (.ref b936), .val (.int md), .val (.int (0 : Int32)), .unset, .unset] [])) _
  refine Go.via (fun _ => XS.aload X1061.here hx rfl (hb hby at_294) rfl rfl) ?_
  refine Go.via (fun _ => XS.aload X1061.here hx rfl (hb hby at_296) rfl rfl) ?_
  obtain ⟨cq1062, kq1062, q1062a, q1062b, q1062c⟩ := isOf hZ e1061 lf25_1061
  obtain ⟨r1062, _, ⟨T1062, L1062, k1062, n1062⟩, -, X1062, ⟨Lc1062, hQ1062, l1062, y1062, z1062⟩, st1062⟩ := X1061.virtualBack hx (y := (⟨cEN, "equals", "(Ljava/lang/Object;)Z"⟩ : MethodName)) (z := (⟨cEN, "equals", "(Ljava/lang/Object;)Z"⟩ : MethodName)) hown (mvT hZ (tw hw 98 rfl)) (mvT hZ (tw hw 99 rfl)) (notFace_of_selects (args := #[]) (mvT hZ (tw hw 101 rfl))) (mvT hZ (tw hw 101 rfl)) (mvT hZ (tw hw 100 rfl)) (by decide) (backOf (W := 0) (rmEo2 l Z a0 hw [] b856 b936 b680 b751 b876 b973 ((3 : Int64) <<< ((kF p0) &&& 0x3f).toInt64) ((3 : Int64) <<< ((kF ks) &&& 0x3f).toInt64) b692 b712 b768 b804 v693 v713 v769 v805 (sgA p0) (sgB p0) (sgA u1) (sgB u2) cs v877 v974 (nmF p0) (nmF u3) h1061 n0 z1061 lf25_1061 lf26_1061 lf27_1061 lf32_1061 lf33_1061 lf34_1061 lf1_1061 lf2_1061 lf3_1061 lf4_1061 lf13_1061 lf14_1061 lf15_1061 lf16_1061 lf5_1061 lf6_1061 lf7_1061 lf8_1061 lf9_1061 lf10_1061 lf11_1061 lf12_1061 lf17_1061 lf18_1061 lf19_1061 lf20_1061 lf21_1061 lf22_1061 lf23_1061 lf24_1061 lf28_1061 lf29_1061 lf30_1061 lf31_1061 lf35_1061 lf36_1061 lf37_1061 lf38_1061 lf0_1061 zCS lf113_1061 lf48_1061 lf127_1061 lf54_1061 lf66_1061 (own_Sh (own_SgA _)) (own_Sh (own_SgA _)) (own_Sh (own_SgB _)) (own_Sh (own_SgB _)) hcs (own_ShN _) (own_ShN _)) hZ (tw hw 102 rfl) (tw hw 80 rfl) (by decide) (by decide)) q1062a q1062c (g := (mkF m 298 #[.val (.long p0), .second, .val (.long p1), .second, .val (.int p2), .val (.long ks), .second, .val (.long u1), .second, .val (.long u2), .second, .val (.long u3), .second, .val (.ref b680), .val (.ref b751), .val (.ref b856), .val (.ref b936), .val (.int md), .val (.int (0 : Int32)), .unset, .unset] [(.ref b936), (.ref b856)])) rfl (by rw [hml]; rfl) (Steps.refl _) (argsL := [(.ref b936)]) (rest := []) (lenOf pd__28Ljava_2flang_2fObject_3b_29Z rfl) rfl (by show 2 * 0 + _ ≤ _; exact Nat.le_of_eq rfl) (hb hby at_298) (fun _ _ => ⟨rfl, e1061, (by decide : 44 + 0 ≤ _), (by decide : 346 + 0 ≤ _)⟩)
  dsimp only [Pt.U, Pt.locs, Pt.cells, Pt.slots] at X1062 l1062 y1062 z1062 st1062 hQ1062
  rw [l1062, y1062, z1062] at X1062
  clear l1062 y1062 z1062
  obtain ⟨hr1062, N1062q, eh1062⟩ := hQ1062
  rw [hr1062] at st1062
  clear hr1062
  rw [N1062q, List.append_nil] at X1062
  refine Go.via (fun _ kQ => st1062.trans kQ) ?_
  clear st1062
  have e1062 : T1062.heap = h1061 := eh1062
  clear X1061 e1061
  show Go p e below (T1062.setTop (mkF m 301 #[.val (.long p0), .second, .val (.long p1), .second, .val (.int p2), .val (.long ks), .second, .val (.long u1), .second, .val (.long u2), .second, .val (.long u3), .second, .val (.ref b680), .val (.ref b751), .val (.ref b856), .val (.ref b936), .val (.int md), .val (.int (0 : Int32)), .unset, .unset] [(.int (enF ((3 : Int64) <<< ((kF p0) &&& 0x3f).toInt64) ((3 : Int64) <<< ((kF ks) &&& 0x3f).toInt64) (sgA p0) (sgA u1) (sgB p0) (sgB u2) (nmF p0) (nmF u3)))])) _
  refine Go.via (fun _ => XS.istore X1062.here hx rfl (hb hby at_301) rfl (l' := #[.val (.long p0), .second, .val (.long p1), .second, .val (.int p2), .val (.long ks), .second, .val (.long u1), .second, .val (.long u2), .second, .val (.long u3), .second, .val (.ref b680), .val (.ref b751), .val (.ref b856), .val (.ref b936), .val (.int md), .val (.int (0 : Int32)), .val (.int (enF ((3 : Int64) <<< ((kF p0) &&& 0x3f).toInt64) ((3 : Int64) <<< ((kF ks) &&& 0x3f).toInt64) (sgA p0) (sgA u1) (sgB p0) (sgB u2) (nmF p0) (nmF u3))), .unset]) rfl) ?_
  show Go p e below (T1062.setTop (mkF m 303 #[.val (.long p0), .second, .val (.long p1), .second, .val (.int p2), .val (.long ks), .second, .val (.long u1), .second, .val (.long u2), .second, .val (.long u3), .second, .val (.ref b680), .val (.ref b751), .val (.ref b856), .val (.ref b936), .val (.int md), .val (.int (0 : Int32)), .val (.int (enF ((3 : Int64) <<< ((kF p0) &&& 0x3f).toInt64) ((3 : Int64) <<< ((kF ks) &&& 0x3f).toInt64) (sgA p0) (sgA u1) (sgB p0) (sgB u2) (nmF p0) (nmF u3))), .unset] [])) _
  refine Go.via (fun _ => XS.aload X1062.here hx rfl (hb hby at_303) rfl rfl) ?_
  refine Go.via (fun _ => XS.aload X1062.here hx rfl (hb hby at_305) rfl rfl) ?_
  obtain ⟨cq1063, kq1063, q1063a, q1063b, q1063c⟩ := isOf hZ e1062 lf32_1061
  obtain ⟨r1063, _, ⟨T1063, L1063, k1063, n1063⟩, -, X1063, ⟨Lc1063, hQ1063, l1063, y1063, z1063⟩, st1063⟩ := X1062.virtualBack hx (y := (⟨cEN, "equals", "(Ljava/lang/Object;)Z"⟩ : MethodName)) (z := (⟨cEN, "equals", "(Ljava/lang/Object;)Z"⟩ : MethodName)) hown (mvT hZ (tw hw 98 rfl)) (mvT hZ (tw hw 99 rfl)) (notFace_of_selects (args := #[]) (mvT hZ (tw hw 101 rfl))) (mvT hZ (tw hw 101 rfl)) (mvT hZ (tw hw 100 rfl)) (by decide) (backOf (W := 0) (rmEo2 l Z a0 hw [] b936 b856 b751 b680 b973 b876 ((3 : Int64) <<< ((kF ks) &&& 0x3f).toInt64) ((3 : Int64) <<< ((kF p0) &&& 0x3f).toInt64) b768 b804 b692 b712 v769 v805 v693 v713 (sgA u1) (sgB u2) (sgA p0) (sgB p0) cs v974 v877 (nmF u3) (nmF p0) h1061 n0 z1061 lf32_1061 lf33_1061 lf34_1061 lf25_1061 lf26_1061 lf27_1061 lf13_1061 lf14_1061 lf15_1061 lf16_1061 lf1_1061 lf2_1061 lf3_1061 lf4_1061 lf17_1061 lf18_1061 lf19_1061 lf20_1061 lf21_1061 lf22_1061 lf23_1061 lf24_1061 lf5_1061 lf6_1061 lf7_1061 lf8_1061 lf9_1061 lf10_1061 lf11_1061 lf12_1061 lf35_1061 lf36_1061 lf37_1061 lf38_1061 lf28_1061 lf29_1061 lf30_1061 lf31_1061 lf0_1061 zCS (Ne.symm lf113_1061) (Ne.symm lf48_1061) (Ne.symm lf127_1061) (Ne.symm lf54_1061) (Ne.symm lf66_1061) (own_Sh (own_SgA _)) (own_Sh (own_SgA _)) (own_Sh (own_SgB _)) (own_Sh (own_SgB _)) hcs (own_ShN _) (own_ShN _)) hZ (tw hw 102 rfl) (tw hw 80 rfl) (by decide) (by decide)) q1063a q1063c (g := (mkF m 307 #[.val (.long p0), .second, .val (.long p1), .second, .val (.int p2), .val (.long ks), .second, .val (.long u1), .second, .val (.long u2), .second, .val (.long u3), .second, .val (.ref b680), .val (.ref b751), .val (.ref b856), .val (.ref b936), .val (.int md), .val (.int (0 : Int32)), .val (.int (enF ((3 : Int64) <<< ((kF p0) &&& 0x3f).toInt64) ((3 : Int64) <<< ((kF ks) &&& 0x3f).toInt64) (sgA p0) (sgA u1) (sgB p0) (sgB u2) (nmF p0) (nmF u3))), .unset] [(.ref b856), (.ref b936)])) rfl (by rw [hml]; rfl) (Steps.refl _) (argsL := [(.ref b856)]) (rest := []) (lenOf pd__28Ljava_2flang_2fObject_3b_29Z rfl) rfl (by show 2 * 0 + _ ≤ _; exact Nat.le_of_eq rfl) (hb hby at_307) (fun _ _ => ⟨rfl, e1062, (by decide : 44 + 0 ≤ _), (by decide : 346 + 0 ≤ _)⟩)
  dsimp only [Pt.U, Pt.locs, Pt.cells, Pt.slots] at X1063 l1063 y1063 z1063 st1063 hQ1063
  rw [l1063, y1063, z1063] at X1063
  clear l1063 y1063 z1063
  obtain ⟨hr1063, N1063q, eh1063⟩ := hQ1063
  rw [hr1063] at st1063
  clear hr1063
  rw [N1063q, List.append_nil] at X1063
  refine Go.via (fun _ kQ => st1063.trans kQ) ?_
  clear st1063
  have e1063 : T1063.heap = h1061 := eh1063
  clear X1062 e1062
  show Go p e below (T1063.setTop (mkF m 310 #[.val (.long p0), .second, .val (.long p1), .second, .val (.int p2), .val (.long ks), .second, .val (.long u1), .second, .val (.long u2), .second, .val (.long u3), .second, .val (.ref b680), .val (.ref b751), .val (.ref b856), .val (.ref b936), .val (.int md), .val (.int (0 : Int32)), .val (.int (enF ((3 : Int64) <<< ((kF p0) &&& 0x3f).toInt64) ((3 : Int64) <<< ((kF ks) &&& 0x3f).toInt64) (sgA p0) (sgA u1) (sgB p0) (sgB u2) (nmF p0) (nmF u3))), .unset] [(.int (enF ((3 : Int64) <<< ((kF ks) &&& 0x3f).toInt64) ((3 : Int64) <<< ((kF p0) &&& 0x3f).toInt64) (sgA u1) (sgA p0) (sgB u2) (sgB p0) (nmF u3) (nmF p0)))])) _
  refine Go.via (fun _ => XS.istore X1063.here hx rfl (hb hby at_310) rfl (l' := #[.val (.long p0), .second, .val (.long p1), .second, .val (.int p2), .val (.long ks), .second, .val (.long u1), .second, .val (.long u2), .second, .val (.long u3), .second, .val (.ref b680), .val (.ref b751), .val (.ref b856), .val (.ref b936), .val (.int md), .val (.int (0 : Int32)), .val (.int (enF ((3 : Int64) <<< ((kF p0) &&& 0x3f).toInt64) ((3 : Int64) <<< ((kF ks) &&& 0x3f).toInt64) (sgA p0) (sgA u1) (sgB p0) (sgB u2) (nmF p0) (nmF u3))), .val (.int (enF ((3 : Int64) <<< ((kF ks) &&& 0x3f).toInt64) ((3 : Int64) <<< ((kF p0) &&& 0x3f).toInt64) (sgA u1) (sgA p0) (sgB u2) (sgB p0) (nmF u3) (nmF p0)))]) rfl) ?_
  show Go p e below (T1063.setTop (mkF m 312 #[.val (.long p0), .second, .val (.long p1), .second, .val (.int p2), .val (.long ks), .second, .val (.long u1), .second, .val (.long u2), .second, .val (.long u3), .second, .val (.ref b680), .val (.ref b751), .val (.ref b856), .val (.ref b936), .val (.int md), .val (.int (0 : Int32)), .val (.int (enF ((3 : Int64) <<< ((kF p0) &&& 0x3f).toInt64) ((3 : Int64) <<< ((kF ks) &&& 0x3f).toInt64) (sgA p0) (sgA u1) (sgB p0) (sgB u2) (nmF p0) (nmF u3))), .val (.int (enF ((3 : Int64) <<< ((kF ks) &&& 0x3f).toInt64) ((3 : Int64) <<< ((kF p0) &&& 0x3f).toInt64) (sgA u1) (sgA p0) (sgB u2) (sgB p0) (nmF u3) (nmF p0)))] [])) _
  refine Go.via (fun _ => XS.iload X1063.here hx rfl (hb hby at_312) rfl) ?_
  refine Go.via (fun _ => XS.iload X1063.here hx rfl (hb hby at_314) rfl) ?_
  refine Go.via (fun _ => XS.icmpNo X1063.here hx rfl (hb hby at_316) rfl (teq (((own_en p0 ks u1 u2 u3).trans ((if_pos hc1053).trans ((if_neg hc1055).trans ((if_pos hc1060).trans rfl)))) : (enF ((3 : Int64) <<< ((kF p0) &&& 0x3f).toInt64) ((3 : Int64) <<< ((kF ks) &&& 0x3f).toInt64) (sgA p0) (sgA u1) (sgB p0) (sgB u2) (nmF p0) (nmF u3)) = (0 : Int32))).2) ?_
  show Go p e below (T1063.setTop (mkF m 319 #[.val (.long p0), .second, .val (.long p1), .second, .val (.int p2), .val (.long ks), .second, .val (.long u1), .second, .val (.long u2), .second, .val (.long u3), .second, .val (.ref b680), .val (.ref b751), .val (.ref b856), .val (.ref b936), .val (.int md), .val (.int (0 : Int32)), .val (.int (enF ((3 : Int64) <<< ((kF p0) &&& 0x3f).toInt64) ((3 : Int64) <<< ((kF ks) &&& 0x3f).toInt64) (sgA p0) (sgA u1) (sgB p0) (sgB u2) (nmF p0) (nmF u3))), .val (.int (enF ((3 : Int64) <<< ((kF ks) &&& 0x3f).toInt64) ((3 : Int64) <<< ((kF p0) &&& 0x3f).toInt64) (sgA u1) (sgA p0) (sgB u2) (sgB p0) (nmF u3) (nmF p0)))] [])) _
  refine Go.via (fun _ => XS.iload X1063.here hx rfl (hb hby at_319) rfl) ?_
  refine Go.via (fun _ => XS.iload X1063.here hx rfl (hb hby at_321) rfl) ?_
  refine Go.via (fun _ => XS.icmpNo X1063.here hx rfl (hb hby at_323) rfl (teq (((own_ens p0 ks u1 u2 u3).trans ((if_pos hc1053).trans ((if_neg hc1055).trans ((if_pos hc1060).trans rfl)))) : (enF ((3 : Int64) <<< ((kF ks) &&& 0x3f).toInt64) ((3 : Int64) <<< ((kF p0) &&& 0x3f).toInt64) (sgA u1) (sgA p0) (sgB u2) (sgB p0) (nmF u3) (nmF p0)) = (0 : Int32))).2) ?_
  show Go p e below (T1063.setTop (mkF m 326 #[.val (.long p0), .second, .val (.long p1), .second, .val (.int p2), .val (.long ks), .second, .val (.long u1), .second, .val (.long u2), .second, .val (.long u3), .second, .val (.ref b680), .val (.ref b751), .val (.ref b856), .val (.ref b936), .val (.int md), .val (.int (0 : Int32)), .val (.int (enF ((3 : Int64) <<< ((kF p0) &&& 0x3f).toInt64) ((3 : Int64) <<< ((kF ks) &&& 0x3f).toInt64) (sgA p0) (sgA u1) (sgB p0) (sgB u2) (nmF p0) (nmF u3))), .val (.int (enF ((3 : Int64) <<< ((kF ks) &&& 0x3f).toInt64) ((3 : Int64) <<< ((kF p0) &&& 0x3f).toInt64) (sgA u1) (sgA p0) (sgB u2) (sgB p0) (nmF u3) (nmF p0)))] [])) _
  refine Go.via (fun _ => XS.iconst X1063.here hx rfl (hb hby at_326)) ?_
  refine Go.via (fun _ => XS.goto X1063.here hx rfl (pc0 := 327) (pc' := 331) rfl (hb hby at_327) (by decide) (by decide)) ?_
  exact Go.finW X1063 hS1061 (Nat.le_trans hk1061 (Nat.le_of_eq (congrArg Array.size (Eq.symm e1063)))) hlk (v := some (.int (1 : Int32))) (fun h => by rw [hret] at h; cases h) (fun fs hr => retN X1063 hx (t := .boolean) hret (by simp) (hb hby at_331) hr) (by rw [e1063]; exact ⟨rfl, N1061, k1061, Em.still I1061 X1063.warmed.interned_eq (w39 X1063.warmed.wide)⟩) (by decide) (by decide)
set_option maxRecDepth 65536 in
set_option maxHeartbeats 40000000 in
theorem rm_rm0_l294_7 (l : Launch) (Z : State) (a0 : Array Value) (hw : ∀ d ∈ tables_1, d.before a0 Z = true) (p0 : Int64) (p1 : Int64) (p2 : Int32) (cs : Int32) (fv : Value) (h0 : Heap) (n0 : Nat) (zCS : Sta Z Z.heap cST "COMPACT_STRINGS" "Z" (.int cs)) (zF : Sta Z Z.heap cPR "SIOOBE_FORMATTER" "Ljava/util/function/BiFunction;" fv) (hcs : ¬ (cs = (0 : Int32))) (hfv : fv = .null ∨ ∃ fa : Addr, fv = .ref fa) (hh7 : Jvm.Lit.constHeld Z cST 7) (hcw : Jvm.Lit.compactW.before a0 Z = true) {p : Program} {e : Env} {s : State} {m : MethodId} {below : List Frame} {meth : Method} {c : Code} (hx : p.tables.exec = Jvm.exec) (hby : c.code = code) (hlk : meth.locks = false) (hml : c.maxLocals = 21) (hret : meth.sig.returnType = ret) :
    ∀ (T1066 : State) (L1066 : List Loc) (h1066 : Heap) (vm1066 : Vm) (K1066 : Nat) (ks : Int64) (u1 : Int64) (u2 : Int64) (u3 : Int64) (md : Int32) (b680 : Addr) (b692 : Addr) (b712 : Addr) (b751 : Addr) (b768 : Addr) (b804 : Addr) (b856 : Addr) (b876 : Addr) (b936 : Addr) (b973 : Addr) (v693 : Addr) (v713 : Addr) (v769 : Addr) (v805 : Addr) (v877 : Addr) (v974 : Addr), Stand p l e room_1 (s.setVm vm1066) m #[(.long p0), (.long p1), (.int p2)] below meth c T1066 L1066 44 346 → T1066.heap = h1066 → Fr n0 L1066 → n0 ≤ h1066.size → Keep h0 h1066 [] → Z.Warmed39 (s.setVm vm1066).vm → (s.setVm vm1066).vm.findClass cLAW = some m.cls → s.Since vm1066 K1066 → K1066 ≤ h1066.size → Em Z vm1066 h1066 ["signature 1", "signature 2", "digest", "name"] → Old Z n0 h1066 → Exa Z h1066 b680 cCD → Fld Z h1066 b680 cCD "blockSize" "J" (.long ((3 : Int64) <<< ((kF p0) &&& 0x3f).toInt64)) → Fld Z h1066 b680 cCD "signature1" "Ljava/lang/String;" (.ref b692) → Fld Z h1066 b680 cCD "signature2" "Ljava/lang/String;" (.ref b712) → Exa Z h1066 b692 cST → Fld Z h1066 b692 cST "coder" "B" (.int (0 : Int32)) → Fld Z h1066 b692 cST "value" "[B" (.ref v693) → Ia Z h1066 v693 .byte (sgA p0) → Exa Z h1066 b712 cST → Fld Z h1066 b712 cST "coder" "B" (.int (0 : Int32)) → Fld Z h1066 b712 cST "value" "[B" (.ref v713) → Ia Z h1066 v713 .byte (sgB p0) → Exa Z h1066 b751 cCD → Fld Z h1066 b751 cCD "blockSize" "J" (.long ((3 : Int64) <<< ((kF ks) &&& 0x3f).toInt64)) → Fld Z h1066 b751 cCD "signature1" "Ljava/lang/String;" (.ref b768) → Fld Z h1066 b751 cCD "signature2" "Ljava/lang/String;" (.ref b804) → Exa Z h1066 b768 cST → Fld Z h1066 b768 cST "coder" "B" (.int (0 : Int32)) → Fld Z h1066 b768 cST "value" "[B" (.ref v769) → Ia Z h1066 v769 .byte (sgA u1) → Exa Z h1066 b804 cST → Fld Z h1066 b804 cST "coder" "B" (.int (0 : Int32)) → Fld Z h1066 b804 cST "value" "[B" (.ref v805) → Ia Z h1066 v805 .byte (sgB u2) → Exa Z h1066 b856 cEN → Fld Z h1066 b856 cEN "digest" "Lcom/example/relate_by_hash/relatebyhash/ctph/CtphDigest;" (.ref b680) → Fld Z h1066 b856 cEN "name" "Ljava/lang/String;" (.ref b876) → Exa Z h1066 b876 cST → Fld Z h1066 b876 cST "coder" "B" (.int (0 : Int32)) → Fld Z h1066 b876 cST "value" "[B" (.ref v877) → Ia Z h1066 v877 .byte (nmF p0) → Exa Z h1066 b936 cEN → Fld Z h1066 b936 cEN "digest" "Lcom/example/relate_by_hash/relatebyhash/ctph/CtphDigest;" (.ref b751) → Fld Z h1066 b936 cEN "name" "Ljava/lang/String;" (.ref b973) → Exa Z h1066 b973 cST → Fld Z h1066 b973 cST "coder" "B" (.int (0 : Int32)) → Fld Z h1066 b973 cST "value" "[B" (.ref v974) → Ia Z h1066 v974 .byte (nmF u3) → b680 ≠ b751 → b692 ≠ b768 → b712 ≠ b804 → b856 ≠ b936 → b876 ≠ b973 → (kF p0) = (kF ks) → ¬ ((smF p0 u1 (5 : Int32) (6 : Int32)) = (0 : Int32)) → ¬ ((smF p0 u2 (19 : Int32) (6 : Int32)) = (0 : Int32)) → (smF p0 u3 (33 : Int32) (8 : Int32)) = (0 : Int32) → Go p e below (T1066.setTop (mkF m 294 #[.val (.long p0), .second, .val (.long p1), .second, .val (.int p2), .val (.long ks), .second, .val (.long u1), .second, .val (.long u2), .second, .val (.long u3), .second, .val (.ref b680), .val (.ref b751), .val (.ref b856), .val (.ref b936), .val (.int md), .val (.int (0 : Int32)), .unset, .unset] [])) (DoneW s (Q_rm0 Z p0 p1 p2 cs fv h0 n0) room_1.cells room_1.slots) := by
  intro T1066 L1066 h1066 vm1066 K1066 ks u1 u2 u3 md b680 b692 b712 b751 b768 b804 b856 b876 b936 b973 v693 v713 v769 v805 v877 v974 X1066 e1066 N1066 z1066 k1066 hZ hown hS1066 hk1066 I1066 lf0_1066 lf1_1066 lf2_1066 lf3_1066 lf4_1066 lf5_1066 lf6_1066 lf7_1066 lf8_1066 lf9_1066 lf10_1066 lf11_1066 lf12_1066 lf13_1066 lf14_1066 lf15_1066 lf16_1066 lf17_1066 lf18_1066 lf19_1066 lf20_1066 lf21_1066 lf22_1066 lf23_1066 lf24_1066 lf25_1066 lf26_1066 lf27_1066 lf28_1066 lf29_1066 lf30_1066 lf31_1066 lf32_1066 lf33_1066 lf34_1066 lf35_1066 lf36_1066 lf37_1066 lf38_1066 lf48_1066 lf54_1066 lf66_1066 lf113_1066 lf127_1066 hc1053 hc1055 hc1060 hc1065
  show Go p e below (T1066.setTop (mkF m 294 #[.val (.long p0), .second, .val (.long p1), .second, .val (.int p2), .val (.long ks), .second, .val (.long u1), .second, .val (.long u2), .second, .val (.long u3), .second, .val (.ref b680), .val (.ref b751), .val (.ref b856), .val (.ref b936), .val (.int md), .val (.int (0 : Int32)), .unset, .unset] [])) _
  refine Go.via (fun _ => XS.aload X1066.here hx rfl (hb hby at_294) rfl rfl) ?_
  refine Go.via (fun _ => XS.aload X1066.here hx rfl (hb hby at_296) rfl rfl) ?_
  obtain ⟨cq1067, kq1067, q1067a, q1067b, q1067c⟩ := isOf hZ e1066 lf25_1066
  obtain ⟨r1067, _, ⟨T1067, L1067, k1067, n1067⟩, -, X1067, ⟨Lc1067, hQ1067, l1067, y1067, z1067⟩, st1067⟩ := X1066.virtualBack hx (y := (⟨cEN, "equals", "(Ljava/lang/Object;)Z"⟩ : MethodName)) (z := (⟨cEN, "equals", "(Ljava/lang/Object;)Z"⟩ : MethodName)) hown (mvT hZ (tw hw 98 rfl)) (mvT hZ (tw hw 99 rfl)) (notFace_of_selects (args := #[]) (mvT hZ (tw hw 101 rfl))) (mvT hZ (tw hw 101 rfl)) (mvT hZ (tw hw 100 rfl)) (by decide) (backOf (W := 0) (rmEo2 l Z a0 hw [] b856 b936 b680 b751 b876 b973 ((3 : Int64) <<< ((kF p0) &&& 0x3f).toInt64) ((3 : Int64) <<< ((kF ks) &&& 0x3f).toInt64) b692 b712 b768 b804 v693 v713 v769 v805 (sgA p0) (sgB p0) (sgA u1) (sgB u2) cs v877 v974 (nmF p0) (nmF u3) h1066 n0 z1066 lf25_1066 lf26_1066 lf27_1066 lf32_1066 lf33_1066 lf34_1066 lf1_1066 lf2_1066 lf3_1066 lf4_1066 lf13_1066 lf14_1066 lf15_1066 lf16_1066 lf5_1066 lf6_1066 lf7_1066 lf8_1066 lf9_1066 lf10_1066 lf11_1066 lf12_1066 lf17_1066 lf18_1066 lf19_1066 lf20_1066 lf21_1066 lf22_1066 lf23_1066 lf24_1066 lf28_1066 lf29_1066 lf30_1066 lf31_1066 lf35_1066 lf36_1066 lf37_1066 lf38_1066 lf0_1066 zCS lf113_1066 lf48_1066 lf127_1066 lf54_1066 lf66_1066 (own_Sh (own_SgA _)) (own_Sh (own_SgA _)) (own_Sh (own_SgB _)) (own_Sh (own_SgB _)) hcs (own_ShN _) (own_ShN _)) hZ (tw hw 102 rfl) (tw hw 80 rfl) (by decide) (by decide)) q1067a q1067c (g := (mkF m 298 #[.val (.long p0), .second, .val (.long p1), .second, .val (.int p2), .val (.long ks), .second, .val (.long u1), .second, .val (.long u2), .second, .val (.long u3), .second, .val (.ref b680), .val (.ref b751), .val (.ref b856), .val (.ref b936), .val (.int md), .val (.int (0 : Int32)), .unset, .unset] [(.ref b936), (.ref b856)])) rfl (by rw [hml]; rfl) (Steps.refl _) (argsL := [(.ref b936)]) (rest := []) (lenOf pd__28Ljava_2flang_2fObject_3b_29Z rfl) rfl (by show 2 * 0 + _ ≤ _; exact Nat.le_of_eq rfl) (hb hby at_298) (fun _ _ => ⟨rfl, e1066, (by decide : 44 + 0 ≤ _), (by decide : 346 + 0 ≤ _)⟩)
  dsimp only [Pt.U, Pt.locs, Pt.cells, Pt.slots] at X1067 l1067 y1067 z1067 st1067 hQ1067
  rw [l1067, y1067, z1067] at X1067
  clear l1067 y1067 z1067
  obtain ⟨hr1067, N1067q, eh1067⟩ := hQ1067
  rw [hr1067] at st1067
  clear hr1067
  rw [N1067q, List.append_nil] at X1067
  refine Go.via (fun _ kQ => st1067.trans kQ) ?_
  clear st1067
  have e1067 : T1067.heap = h1066 := eh1067
  clear X1066 e1066
  show Go p e below (T1067.setTop (mkF m 301 #[.val (.long p0), .second, .val (.long p1), .second, .val (.int p2), .val (.long ks), .second, .val (.long u1), .second, .val (.long u2), .second, .val (.long u3), .second, .val (.ref b680), .val (.ref b751), .val (.ref b856), .val (.ref b936), .val (.int md), .val (.int (0 : Int32)), .unset, .unset] [(.int (enF ((3 : Int64) <<< ((kF p0) &&& 0x3f).toInt64) ((3 : Int64) <<< ((kF ks) &&& 0x3f).toInt64) (sgA p0) (sgA u1) (sgB p0) (sgB u2) (nmF p0) (nmF u3)))])) _
  refine Go.via (fun _ => XS.istore X1067.here hx rfl (hb hby at_301) rfl (l' := #[.val (.long p0), .second, .val (.long p1), .second, .val (.int p2), .val (.long ks), .second, .val (.long u1), .second, .val (.long u2), .second, .val (.long u3), .second, .val (.ref b680), .val (.ref b751), .val (.ref b856), .val (.ref b936), .val (.int md), .val (.int (0 : Int32)), .val (.int (enF ((3 : Int64) <<< ((kF p0) &&& 0x3f).toInt64) ((3 : Int64) <<< ((kF ks) &&& 0x3f).toInt64) (sgA p0) (sgA u1) (sgB p0) (sgB u2) (nmF p0) (nmF u3))), .unset]) rfl) ?_
  show Go p e below (T1067.setTop (mkF m 303 #[.val (.long p0), .second, .val (.long p1), .second, .val (.int p2), .val (.long ks), .second, .val (.long u1), .second, .val (.long u2), .second, .val (.long u3), .second, .val (.ref b680), .val (.ref b751), .val (.ref b856), .val (.ref b936), .val (.int md), .val (.int (0 : Int32)), .val (.int (enF ((3 : Int64) <<< ((kF p0) &&& 0x3f).toInt64) ((3 : Int64) <<< ((kF ks) &&& 0x3f).toInt64) (sgA p0) (sgA u1) (sgB p0) (sgB u2) (nmF p0) (nmF u3))), .unset] [])) _
  refine Go.via (fun _ => XS.aload X1067.here hx rfl (hb hby at_303) rfl rfl) ?_
  refine Go.via (fun _ => XS.aload X1067.here hx rfl (hb hby at_305) rfl rfl) ?_
  obtain ⟨cq1068, kq1068, q1068a, q1068b, q1068c⟩ := isOf hZ e1067 lf32_1066
  obtain ⟨r1068, _, ⟨T1068, L1068, k1068, n1068⟩, -, X1068, ⟨Lc1068, hQ1068, l1068, y1068, z1068⟩, st1068⟩ := X1067.virtualBack hx (y := (⟨cEN, "equals", "(Ljava/lang/Object;)Z"⟩ : MethodName)) (z := (⟨cEN, "equals", "(Ljava/lang/Object;)Z"⟩ : MethodName)) hown (mvT hZ (tw hw 98 rfl)) (mvT hZ (tw hw 99 rfl)) (notFace_of_selects (args := #[]) (mvT hZ (tw hw 101 rfl))) (mvT hZ (tw hw 101 rfl)) (mvT hZ (tw hw 100 rfl)) (by decide) (backOf (W := 0) (rmEo2 l Z a0 hw [] b936 b856 b751 b680 b973 b876 ((3 : Int64) <<< ((kF ks) &&& 0x3f).toInt64) ((3 : Int64) <<< ((kF p0) &&& 0x3f).toInt64) b768 b804 b692 b712 v769 v805 v693 v713 (sgA u1) (sgB u2) (sgA p0) (sgB p0) cs v974 v877 (nmF u3) (nmF p0) h1066 n0 z1066 lf32_1066 lf33_1066 lf34_1066 lf25_1066 lf26_1066 lf27_1066 lf13_1066 lf14_1066 lf15_1066 lf16_1066 lf1_1066 lf2_1066 lf3_1066 lf4_1066 lf17_1066 lf18_1066 lf19_1066 lf20_1066 lf21_1066 lf22_1066 lf23_1066 lf24_1066 lf5_1066 lf6_1066 lf7_1066 lf8_1066 lf9_1066 lf10_1066 lf11_1066 lf12_1066 lf35_1066 lf36_1066 lf37_1066 lf38_1066 lf28_1066 lf29_1066 lf30_1066 lf31_1066 lf0_1066 zCS (Ne.symm lf113_1066) (Ne.symm lf48_1066) (Ne.symm lf127_1066) (Ne.symm lf54_1066) (Ne.symm lf66_1066) (own_Sh (own_SgA _)) (own_Sh (own_SgA _)) (own_Sh (own_SgB _)) (own_Sh (own_SgB _)) hcs (own_ShN _) (own_ShN _)) hZ (tw hw 102 rfl) (tw hw 80 rfl) (by decide) (by decide)) q1068a q1068c (g := (mkF m 307 #[.val (.long p0), .second, .val (.long p1), .second, .val (.int p2), .val (.long ks), .second, .val (.long u1), .second, .val (.long u2), .second, .val (.long u3), .second, .val (.ref b680), .val (.ref b751), .val (.ref b856), .val (.ref b936), .val (.int md), .val (.int (0 : Int32)), .val (.int (enF ((3 : Int64) <<< ((kF p0) &&& 0x3f).toInt64) ((3 : Int64) <<< ((kF ks) &&& 0x3f).toInt64) (sgA p0) (sgA u1) (sgB p0) (sgB u2) (nmF p0) (nmF u3))), .unset] [(.ref b856), (.ref b936)])) rfl (by rw [hml]; rfl) (Steps.refl _) (argsL := [(.ref b856)]) (rest := []) (lenOf pd__28Ljava_2flang_2fObject_3b_29Z rfl) rfl (by show 2 * 0 + _ ≤ _; exact Nat.le_of_eq rfl) (hb hby at_307) (fun _ _ => ⟨rfl, e1067, (by decide : 44 + 0 ≤ _), (by decide : 346 + 0 ≤ _)⟩)
  dsimp only [Pt.U, Pt.locs, Pt.cells, Pt.slots] at X1068 l1068 y1068 z1068 st1068 hQ1068
  rw [l1068, y1068, z1068] at X1068
  clear l1068 y1068 z1068
  obtain ⟨hr1068, N1068q, eh1068⟩ := hQ1068
  rw [hr1068] at st1068
  clear hr1068
  rw [N1068q, List.append_nil] at X1068
  refine Go.via (fun _ kQ => st1068.trans kQ) ?_
  clear st1068
  have e1068 : T1068.heap = h1066 := eh1068
  clear X1067 e1067
  show Go p e below (T1068.setTop (mkF m 310 #[.val (.long p0), .second, .val (.long p1), .second, .val (.int p2), .val (.long ks), .second, .val (.long u1), .second, .val (.long u2), .second, .val (.long u3), .second, .val (.ref b680), .val (.ref b751), .val (.ref b856), .val (.ref b936), .val (.int md), .val (.int (0 : Int32)), .val (.int (enF ((3 : Int64) <<< ((kF p0) &&& 0x3f).toInt64) ((3 : Int64) <<< ((kF ks) &&& 0x3f).toInt64) (sgA p0) (sgA u1) (sgB p0) (sgB u2) (nmF p0) (nmF u3))), .unset] [(.int (enF ((3 : Int64) <<< ((kF ks) &&& 0x3f).toInt64) ((3 : Int64) <<< ((kF p0) &&& 0x3f).toInt64) (sgA u1) (sgA p0) (sgB u2) (sgB p0) (nmF u3) (nmF p0)))])) _
  refine Go.via (fun _ => XS.istore X1068.here hx rfl (hb hby at_310) rfl (l' := #[.val (.long p0), .second, .val (.long p1), .second, .val (.int p2), .val (.long ks), .second, .val (.long u1), .second, .val (.long u2), .second, .val (.long u3), .second, .val (.ref b680), .val (.ref b751), .val (.ref b856), .val (.ref b936), .val (.int md), .val (.int (0 : Int32)), .val (.int (enF ((3 : Int64) <<< ((kF p0) &&& 0x3f).toInt64) ((3 : Int64) <<< ((kF ks) &&& 0x3f).toInt64) (sgA p0) (sgA u1) (sgB p0) (sgB u2) (nmF p0) (nmF u3))), .val (.int (enF ((3 : Int64) <<< ((kF ks) &&& 0x3f).toInt64) ((3 : Int64) <<< ((kF p0) &&& 0x3f).toInt64) (sgA u1) (sgA p0) (sgB u2) (sgB p0) (nmF u3) (nmF p0)))]) rfl) ?_
  show Go p e below (T1068.setTop (mkF m 312 #[.val (.long p0), .second, .val (.long p1), .second, .val (.int p2), .val (.long ks), .second, .val (.long u1), .second, .val (.long u2), .second, .val (.long u3), .second, .val (.ref b680), .val (.ref b751), .val (.ref b856), .val (.ref b936), .val (.int md), .val (.int (0 : Int32)), .val (.int (enF ((3 : Int64) <<< ((kF p0) &&& 0x3f).toInt64) ((3 : Int64) <<< ((kF ks) &&& 0x3f).toInt64) (sgA p0) (sgA u1) (sgB p0) (sgB u2) (nmF p0) (nmF u3))), .val (.int (enF ((3 : Int64) <<< ((kF ks) &&& 0x3f).toInt64) ((3 : Int64) <<< ((kF p0) &&& 0x3f).toInt64) (sgA u1) (sgA p0) (sgB u2) (sgB p0) (nmF u3) (nmF p0)))] [])) _
  refine Go.via (fun _ => XS.iload X1068.here hx rfl (hb hby at_312) rfl) ?_
  refine Go.via (fun _ => XS.iload X1068.here hx rfl (hb hby at_314) rfl) ?_
  refine Go.via (fun _ => XS.icmpNo X1068.here hx rfl (hb hby at_316) rfl (teq (((own_en p0 ks u1 u2 u3).trans ((if_pos hc1053).trans ((if_neg hc1055).trans ((if_neg hc1060).trans ((if_pos hc1065).trans rfl))))) : (enF ((3 : Int64) <<< ((kF p0) &&& 0x3f).toInt64) ((3 : Int64) <<< ((kF ks) &&& 0x3f).toInt64) (sgA p0) (sgA u1) (sgB p0) (sgB u2) (nmF p0) (nmF u3)) = (0 : Int32))).2) ?_
  show Go p e below (T1068.setTop (mkF m 319 #[.val (.long p0), .second, .val (.long p1), .second, .val (.int p2), .val (.long ks), .second, .val (.long u1), .second, .val (.long u2), .second, .val (.long u3), .second, .val (.ref b680), .val (.ref b751), .val (.ref b856), .val (.ref b936), .val (.int md), .val (.int (0 : Int32)), .val (.int (enF ((3 : Int64) <<< ((kF p0) &&& 0x3f).toInt64) ((3 : Int64) <<< ((kF ks) &&& 0x3f).toInt64) (sgA p0) (sgA u1) (sgB p0) (sgB u2) (nmF p0) (nmF u3))), .val (.int (enF ((3 : Int64) <<< ((kF ks) &&& 0x3f).toInt64) ((3 : Int64) <<< ((kF p0) &&& 0x3f).toInt64) (sgA u1) (sgA p0) (sgB u2) (sgB p0) (nmF u3) (nmF p0)))] [])) _
  refine Go.via (fun _ => XS.iload X1068.here hx rfl (hb hby at_319) rfl) ?_
  refine Go.via (fun _ => XS.iload X1068.here hx rfl (hb hby at_321) rfl) ?_
  refine Go.via (fun _ => XS.icmpNo X1068.here hx rfl (hb hby at_323) rfl (teq (((own_ens p0 ks u1 u2 u3).trans ((if_pos hc1053).trans ((if_neg hc1055).trans ((if_neg hc1060).trans ((if_pos hc1065).trans rfl))))) : (enF ((3 : Int64) <<< ((kF ks) &&& 0x3f).toInt64) ((3 : Int64) <<< ((kF p0) &&& 0x3f).toInt64) (sgA u1) (sgA p0) (sgB u2) (sgB p0) (nmF u3) (nmF p0)) = (0 : Int32))).2) ?_
  show Go p e below (T1068.setTop (mkF m 326 #[.val (.long p0), .second, .val (.long p1), .second, .val (.int p2), .val (.long ks), .second, .val (.long u1), .second, .val (.long u2), .second, .val (.long u3), .second, .val (.ref b680), .val (.ref b751), .val (.ref b856), .val (.ref b936), .val (.int md), .val (.int (0 : Int32)), .val (.int (enF ((3 : Int64) <<< ((kF p0) &&& 0x3f).toInt64) ((3 : Int64) <<< ((kF ks) &&& 0x3f).toInt64) (sgA p0) (sgA u1) (sgB p0) (sgB u2) (nmF p0) (nmF u3))), .val (.int (enF ((3 : Int64) <<< ((kF ks) &&& 0x3f).toInt64) ((3 : Int64) <<< ((kF p0) &&& 0x3f).toInt64) (sgA u1) (sgA p0) (sgB u2) (sgB p0) (nmF u3) (nmF p0)))] [])) _
  refine Go.via (fun _ => XS.iconst X1068.here hx rfl (hb hby at_326)) ?_
  refine Go.via (fun _ => XS.goto X1068.here hx rfl (pc0 := 327) (pc' := 331) rfl (hb hby at_327) (by decide) (by decide)) ?_
  exact Go.finW X1068 hS1066 (Nat.le_trans hk1066 (Nat.le_of_eq (congrArg Array.size (Eq.symm e1068)))) hlk (v := some (.int (1 : Int32))) (fun h => by rw [hret] at h; cases h) (fun fs hr => retN X1068 hx (t := .boolean) hret (by simp) (hb hby at_331) hr) (by rw [e1068]; exact ⟨rfl, N1066, k1066, Em.still I1066 X1068.warmed.interned_eq (w39 X1068.warmed.wide)⟩) (by decide) (by decide)
set_option maxRecDepth 65536 in
set_option maxHeartbeats 40000000 in
theorem rm_rm0_l294_8 (l : Launch) (Z : State) (a0 : Array Value) (hw : ∀ d ∈ tables_1, d.before a0 Z = true) (p0 : Int64) (p1 : Int64) (p2 : Int32) (cs : Int32) (fv : Value) (h0 : Heap) (n0 : Nat) (zCS : Sta Z Z.heap cST "COMPACT_STRINGS" "Z" (.int cs)) (zF : Sta Z Z.heap cPR "SIOOBE_FORMATTER" "Ljava/util/function/BiFunction;" fv) (hcs : ¬ (cs = (0 : Int32))) (hfv : fv = .null ∨ ∃ fa : Addr, fv = .ref fa) (hh7 : Jvm.Lit.constHeld Z cST 7) (hcw : Jvm.Lit.compactW.before a0 Z = true) {p : Program} {e : Env} {s : State} {m : MethodId} {below : List Frame} {meth : Method} {c : Code} (hx : p.tables.exec = Jvm.exec) (hby : c.code = code) (hlk : meth.locks = false) (hml : c.maxLocals = 21) (hret : meth.sig.returnType = ret) :
    ∀ (T1069 : State) (L1069 : List Loc) (h1069 : Heap) (vm1069 : Vm) (K1069 : Nat) (ks : Int64) (u1 : Int64) (u2 : Int64) (u3 : Int64) (md : Int32) (b680 : Addr) (b692 : Addr) (b712 : Addr) (b751 : Addr) (b768 : Addr) (b804 : Addr) (b856 : Addr) (b876 : Addr) (b936 : Addr) (b973 : Addr) (v693 : Addr) (v713 : Addr) (v769 : Addr) (v805 : Addr) (v877 : Addr) (v974 : Addr), Stand p l e room_1 (s.setVm vm1069) m #[(.long p0), (.long p1), (.int p2)] below meth c T1069 L1069 44 346 → T1069.heap = h1069 → Fr n0 L1069 → n0 ≤ h1069.size → Keep h0 h1069 [] → Z.Warmed39 (s.setVm vm1069).vm → (s.setVm vm1069).vm.findClass cLAW = some m.cls → s.Since vm1069 K1069 → K1069 ≤ h1069.size → Em Z vm1069 h1069 ["signature 1", "signature 2", "digest", "name"] → Old Z n0 h1069 → Exa Z h1069 b680 cCD → Fld Z h1069 b680 cCD "blockSize" "J" (.long ((3 : Int64) <<< ((kF p0) &&& 0x3f).toInt64)) → Fld Z h1069 b680 cCD "signature1" "Ljava/lang/String;" (.ref b692) → Fld Z h1069 b680 cCD "signature2" "Ljava/lang/String;" (.ref b712) → Exa Z h1069 b692 cST → Fld Z h1069 b692 cST "coder" "B" (.int (0 : Int32)) → Fld Z h1069 b692 cST "value" "[B" (.ref v693) → Ia Z h1069 v693 .byte (sgA p0) → Exa Z h1069 b712 cST → Fld Z h1069 b712 cST "coder" "B" (.int (0 : Int32)) → Fld Z h1069 b712 cST "value" "[B" (.ref v713) → Ia Z h1069 v713 .byte (sgB p0) → Exa Z h1069 b751 cCD → Fld Z h1069 b751 cCD "blockSize" "J" (.long ((3 : Int64) <<< ((kF ks) &&& 0x3f).toInt64)) → Fld Z h1069 b751 cCD "signature1" "Ljava/lang/String;" (.ref b768) → Fld Z h1069 b751 cCD "signature2" "Ljava/lang/String;" (.ref b804) → Exa Z h1069 b768 cST → Fld Z h1069 b768 cST "coder" "B" (.int (0 : Int32)) → Fld Z h1069 b768 cST "value" "[B" (.ref v769) → Ia Z h1069 v769 .byte (sgA u1) → Exa Z h1069 b804 cST → Fld Z h1069 b804 cST "coder" "B" (.int (0 : Int32)) → Fld Z h1069 b804 cST "value" "[B" (.ref v805) → Ia Z h1069 v805 .byte (sgB u2) → Exa Z h1069 b856 cEN → Fld Z h1069 b856 cEN "digest" "Lcom/example/relate_by_hash/relatebyhash/ctph/CtphDigest;" (.ref b680) → Fld Z h1069 b856 cEN "name" "Ljava/lang/String;" (.ref b876) → Exa Z h1069 b876 cST → Fld Z h1069 b876 cST "coder" "B" (.int (0 : Int32)) → Fld Z h1069 b876 cST "value" "[B" (.ref v877) → Ia Z h1069 v877 .byte (nmF p0) → Exa Z h1069 b936 cEN → Fld Z h1069 b936 cEN "digest" "Lcom/example/relate_by_hash/relatebyhash/ctph/CtphDigest;" (.ref b751) → Fld Z h1069 b936 cEN "name" "Ljava/lang/String;" (.ref b973) → Exa Z h1069 b973 cST → Fld Z h1069 b973 cST "coder" "B" (.int (0 : Int32)) → Fld Z h1069 b973 cST "value" "[B" (.ref v974) → Ia Z h1069 v974 .byte (nmF u3) → b680 ≠ b751 → b692 ≠ b768 → b712 ≠ b804 → b856 ≠ b936 → b876 ≠ b973 → (kF p0) = (kF ks) → ¬ ((smF p0 u1 (5 : Int32) (6 : Int32)) = (0 : Int32)) → ¬ ((smF p0 u2 (19 : Int32) (6 : Int32)) = (0 : Int32)) → ¬ ((smF p0 u3 (33 : Int32) (8 : Int32)) = (0 : Int32)) → Go p e below (T1069.setTop (mkF m 294 #[.val (.long p0), .second, .val (.long p1), .second, .val (.int p2), .val (.long ks), .second, .val (.long u1), .second, .val (.long u2), .second, .val (.long u3), .second, .val (.ref b680), .val (.ref b751), .val (.ref b856), .val (.ref b936), .val (.int md), .val (.int (1 : Int32)), .unset, .unset] [])) (DoneW s (Q_rm0 Z p0 p1 p2 cs fv h0 n0) room_1.cells room_1.slots) := by
  intro T1069 L1069 h1069 vm1069 K1069 ks u1 u2 u3 md b680 b692 b712 b751 b768 b804 b856 b876 b936 b973 v693 v713 v769 v805 v877 v974 X1069 e1069 N1069 z1069 k1069 hZ hown hS1069 hk1069 I1069 lf0_1069 lf1_1069 lf2_1069 lf3_1069 lf4_1069 lf5_1069 lf6_1069 lf7_1069 lf8_1069 lf9_1069 lf10_1069 lf11_1069 lf12_1069 lf13_1069 lf14_1069 lf15_1069 lf16_1069 lf17_1069 lf18_1069 lf19_1069 lf20_1069 lf21_1069 lf22_1069 lf23_1069 lf24_1069 lf25_1069 lf26_1069 lf27_1069 lf28_1069 lf29_1069 lf30_1069 lf31_1069 lf32_1069 lf33_1069 lf34_1069 lf35_1069 lf36_1069 lf37_1069 lf38_1069 lf48_1069 lf54_1069 lf66_1069 lf113_1069 lf127_1069 hc1053 hc1055 hc1060 hc1065
  show Go p e below (T1069.setTop (mkF m 294 #[.val (.long p0), .second, .val (.long p1), .second, .val (.int p2), .val (.long ks), .second, .val (.long u1), .second, .val (.long u2), .second, .val (.long u3), .second, .val (.ref b680), .val (.ref b751), .val (.ref b856), .val (.ref b936), .val (.int md), .val (.int (1 : Int32)), .unset, .unset] [])) _
  refine Go.via (fun _ => XS.aload X1069.here hx rfl (hb hby at_294) rfl rfl) ?_
  refine Go.via (fun _ => XS.aload X1069.here hx rfl (hb hby at_296) rfl rfl) ?_
  obtain ⟨cq1070, kq1070, q1070a, q1070b, q1070c⟩ := isOf hZ e1069 lf25_1069
  obtain ⟨r1070, _, ⟨T1070, L1070, k1070, n1070⟩, -, X1070, ⟨Lc1070, hQ1070, l1070, y1070, z1070⟩, st1070⟩ := X1069.virtualBack hx (y := (⟨cEN, "equals", "(Ljava/lang/Object;)Z"⟩ : MethodName)) (z := (⟨cEN, "equals", "(Ljava/lang/Object;)Z"⟩ : MethodName)) hown (mvT hZ (tw hw 98 rfl)) (mvT hZ (tw hw 99 rfl)) (notFace_of_selects (args := #[]) (mvT hZ (tw hw 101 rfl))) (mvT hZ (tw hw 101 rfl)) (mvT hZ (tw hw 100 rfl)) (by decide) (backOf (W := 0) (rmEo2 l Z a0 hw [] b856 b936 b680 b751 b876 b973 ((3 : Int64) <<< ((kF p0) &&& 0x3f).toInt64) ((3 : Int64) <<< ((kF ks) &&& 0x3f).toInt64) b692 b712 b768 b804 v693 v713 v769 v805 (sgA p0) (sgB p0) (sgA u1) (sgB u2) cs v877 v974 (nmF p0) (nmF u3) h1069 n0 z1069 lf25_1069 lf26_1069 lf27_1069 lf32_1069 lf33_1069 lf34_1069 lf1_1069 lf2_1069 lf3_1069 lf4_1069 lf13_1069 lf14_1069 lf15_1069 lf16_1069 lf5_1069 lf6_1069 lf7_1069 lf8_1069 lf9_1069 lf10_1069 lf11_1069 lf12_1069 lf17_1069 lf18_1069 lf19_1069 lf20_1069 lf21_1069 lf22_1069 lf23_1069 lf24_1069 lf28_1069 lf29_1069 lf30_1069 lf31_1069 lf35_1069 lf36_1069 lf37_1069 lf38_1069 lf0_1069 zCS lf113_1069 lf48_1069 lf127_1069 lf54_1069 lf66_1069 (own_Sh (own_SgA _)) (own_Sh (own_SgA _)) (own_Sh (own_SgB _)) (own_Sh (own_SgB _)) hcs (own_ShN _) (own_ShN _)) hZ (tw hw 102 rfl) (tw hw 80 rfl) (by decide) (by decide)) q1070a q1070c (g := (mkF m 298 #[.val (.long p0), .second, .val (.long p1), .second, .val (.int p2), .val (.long ks), .second, .val (.long u1), .second, .val (.long u2), .second, .val (.long u3), .second, .val (.ref b680), .val (.ref b751), .val (.ref b856), .val (.ref b936), .val (.int md), .val (.int (1 : Int32)), .unset, .unset] [(.ref b936), (.ref b856)])) rfl (by rw [hml]; rfl) (Steps.refl _) (argsL := [(.ref b936)]) (rest := []) (lenOf pd__28Ljava_2flang_2fObject_3b_29Z rfl) rfl (by show 2 * 0 + _ ≤ _; exact Nat.le_of_eq rfl) (hb hby at_298) (fun _ _ => ⟨rfl, e1069, (by decide : 44 + 0 ≤ _), (by decide : 346 + 0 ≤ _)⟩)
  dsimp only [Pt.U, Pt.locs, Pt.cells, Pt.slots] at X1070 l1070 y1070 z1070 st1070 hQ1070
  rw [l1070, y1070, z1070] at X1070
  clear l1070 y1070 z1070
  obtain ⟨hr1070, N1070q, eh1070⟩ := hQ1070
  rw [hr1070] at st1070
  clear hr1070
  rw [N1070q, List.append_nil] at X1070
  refine Go.via (fun _ kQ => st1070.trans kQ) ?_
  clear st1070
  have e1070 : T1070.heap = h1069 := eh1070
  clear X1069 e1069
  show Go p e below (T1070.setTop (mkF m 301 #[.val (.long p0), .second, .val (.long p1), .second, .val (.int p2), .val (.long ks), .second, .val (.long u1), .second, .val (.long u2), .second, .val (.long u3), .second, .val (.ref b680), .val (.ref b751), .val (.ref b856), .val (.ref b936), .val (.int md), .val (.int (1 : Int32)), .unset, .unset] [(.int (enF ((3 : Int64) <<< ((kF p0) &&& 0x3f).toInt64) ((3 : Int64) <<< ((kF ks) &&& 0x3f).toInt64) (sgA p0) (sgA u1) (sgB p0) (sgB u2) (nmF p0) (nmF u3)))])) _
  refine Go.via (fun _ => XS.istore X1070.here hx rfl (hb hby at_301) rfl (l' := #[.val (.long p0), .second, .val (.long p1), .second, .val (.int p2), .val (.long ks), .second, .val (.long u1), .second, .val (.long u2), .second, .val (.long u3), .second, .val (.ref b680), .val (.ref b751), .val (.ref b856), .val (.ref b936), .val (.int md), .val (.int (1 : Int32)), .val (.int (enF ((3 : Int64) <<< ((kF p0) &&& 0x3f).toInt64) ((3 : Int64) <<< ((kF ks) &&& 0x3f).toInt64) (sgA p0) (sgA u1) (sgB p0) (sgB u2) (nmF p0) (nmF u3))), .unset]) rfl) ?_
  show Go p e below (T1070.setTop (mkF m 303 #[.val (.long p0), .second, .val (.long p1), .second, .val (.int p2), .val (.long ks), .second, .val (.long u1), .second, .val (.long u2), .second, .val (.long u3), .second, .val (.ref b680), .val (.ref b751), .val (.ref b856), .val (.ref b936), .val (.int md), .val (.int (1 : Int32)), .val (.int (enF ((3 : Int64) <<< ((kF p0) &&& 0x3f).toInt64) ((3 : Int64) <<< ((kF ks) &&& 0x3f).toInt64) (sgA p0) (sgA u1) (sgB p0) (sgB u2) (nmF p0) (nmF u3))), .unset] [])) _
  refine Go.via (fun _ => XS.aload X1070.here hx rfl (hb hby at_303) rfl rfl) ?_
  refine Go.via (fun _ => XS.aload X1070.here hx rfl (hb hby at_305) rfl rfl) ?_
  obtain ⟨cq1071, kq1071, q1071a, q1071b, q1071c⟩ := isOf hZ e1070 lf32_1069
  obtain ⟨r1071, _, ⟨T1071, L1071, k1071, n1071⟩, -, X1071, ⟨Lc1071, hQ1071, l1071, y1071, z1071⟩, st1071⟩ := X1070.virtualBack hx (y := (⟨cEN, "equals", "(Ljava/lang/Object;)Z"⟩ : MethodName)) (z := (⟨cEN, "equals", "(Ljava/lang/Object;)Z"⟩ : MethodName)) hown (mvT hZ (tw hw 98 rfl)) (mvT hZ (tw hw 99 rfl)) (notFace_of_selects (args := #[]) (mvT hZ (tw hw 101 rfl))) (mvT hZ (tw hw 101 rfl)) (mvT hZ (tw hw 100 rfl)) (by decide) (backOf (W := 0) (rmEo2 l Z a0 hw [] b936 b856 b751 b680 b973 b876 ((3 : Int64) <<< ((kF ks) &&& 0x3f).toInt64) ((3 : Int64) <<< ((kF p0) &&& 0x3f).toInt64) b768 b804 b692 b712 v769 v805 v693 v713 (sgA u1) (sgB u2) (sgA p0) (sgB p0) cs v974 v877 (nmF u3) (nmF p0) h1069 n0 z1069 lf32_1069 lf33_1069 lf34_1069 lf25_1069 lf26_1069 lf27_1069 lf13_1069 lf14_1069 lf15_1069 lf16_1069 lf1_1069 lf2_1069 lf3_1069 lf4_1069 lf17_1069 lf18_1069 lf19_1069 lf20_1069 lf21_1069 lf22_1069 lf23_1069 lf24_1069 lf5_1069 lf6_1069 lf7_1069 lf8_1069 lf9_1069 lf10_1069 lf11_1069 lf12_1069 lf35_1069 lf36_1069 lf37_1069 lf38_1069 lf28_1069 lf29_1069 lf30_1069 lf31_1069 lf0_1069 zCS (Ne.symm lf113_1069) (Ne.symm lf48_1069) (Ne.symm lf127_1069) (Ne.symm lf54_1069) (Ne.symm lf66_1069) (own_Sh (own_SgA _)) (own_Sh (own_SgA _)) (own_Sh (own_SgB _)) (own_Sh (own_SgB _)) hcs (own_ShN _) (own_ShN _)) hZ (tw hw 102 rfl) (tw hw 80 rfl) (by decide) (by decide)) q1071a q1071c (g := (mkF m 307 #[.val (.long p0), .second, .val (.long p1), .second, .val (.int p2), .val (.long ks), .second, .val (.long u1), .second, .val (.long u2), .second, .val (.long u3), .second, .val (.ref b680), .val (.ref b751), .val (.ref b856), .val (.ref b936), .val (.int md), .val (.int (1 : Int32)), .val (.int (enF ((3 : Int64) <<< ((kF p0) &&& 0x3f).toInt64) ((3 : Int64) <<< ((kF ks) &&& 0x3f).toInt64) (sgA p0) (sgA u1) (sgB p0) (sgB u2) (nmF p0) (nmF u3))), .unset] [(.ref b856), (.ref b936)])) rfl (by rw [hml]; rfl) (Steps.refl _) (argsL := [(.ref b856)]) (rest := []) (lenOf pd__28Ljava_2flang_2fObject_3b_29Z rfl) rfl (by show 2 * 0 + _ ≤ _; exact Nat.le_of_eq rfl) (hb hby at_307) (fun _ _ => ⟨rfl, e1070, (by decide : 44 + 0 ≤ _), (by decide : 346 + 0 ≤ _)⟩)
  dsimp only [Pt.U, Pt.locs, Pt.cells, Pt.slots] at X1071 l1071 y1071 z1071 st1071 hQ1071
  rw [l1071, y1071, z1071] at X1071
  clear l1071 y1071 z1071
  obtain ⟨hr1071, N1071q, eh1071⟩ := hQ1071
  rw [hr1071] at st1071
  clear hr1071
  rw [N1071q, List.append_nil] at X1071
  refine Go.via (fun _ kQ => st1071.trans kQ) ?_
  clear st1071
  have e1071 : T1071.heap = h1069 := eh1071
  clear X1070 e1070
  show Go p e below (T1071.setTop (mkF m 310 #[.val (.long p0), .second, .val (.long p1), .second, .val (.int p2), .val (.long ks), .second, .val (.long u1), .second, .val (.long u2), .second, .val (.long u3), .second, .val (.ref b680), .val (.ref b751), .val (.ref b856), .val (.ref b936), .val (.int md), .val (.int (1 : Int32)), .val (.int (enF ((3 : Int64) <<< ((kF p0) &&& 0x3f).toInt64) ((3 : Int64) <<< ((kF ks) &&& 0x3f).toInt64) (sgA p0) (sgA u1) (sgB p0) (sgB u2) (nmF p0) (nmF u3))), .unset] [(.int (enF ((3 : Int64) <<< ((kF ks) &&& 0x3f).toInt64) ((3 : Int64) <<< ((kF p0) &&& 0x3f).toInt64) (sgA u1) (sgA p0) (sgB u2) (sgB p0) (nmF u3) (nmF p0)))])) _
  refine Go.via (fun _ => XS.istore X1071.here hx rfl (hb hby at_310) rfl (l' := #[.val (.long p0), .second, .val (.long p1), .second, .val (.int p2), .val (.long ks), .second, .val (.long u1), .second, .val (.long u2), .second, .val (.long u3), .second, .val (.ref b680), .val (.ref b751), .val (.ref b856), .val (.ref b936), .val (.int md), .val (.int (1 : Int32)), .val (.int (enF ((3 : Int64) <<< ((kF p0) &&& 0x3f).toInt64) ((3 : Int64) <<< ((kF ks) &&& 0x3f).toInt64) (sgA p0) (sgA u1) (sgB p0) (sgB u2) (nmF p0) (nmF u3))), .val (.int (enF ((3 : Int64) <<< ((kF ks) &&& 0x3f).toInt64) ((3 : Int64) <<< ((kF p0) &&& 0x3f).toInt64) (sgA u1) (sgA p0) (sgB u2) (sgB p0) (nmF u3) (nmF p0)))]) rfl) ?_
  show Go p e below (T1071.setTop (mkF m 312 #[.val (.long p0), .second, .val (.long p1), .second, .val (.int p2), .val (.long ks), .second, .val (.long u1), .second, .val (.long u2), .second, .val (.long u3), .second, .val (.ref b680), .val (.ref b751), .val (.ref b856), .val (.ref b936), .val (.int md), .val (.int (1 : Int32)), .val (.int (enF ((3 : Int64) <<< ((kF p0) &&& 0x3f).toInt64) ((3 : Int64) <<< ((kF ks) &&& 0x3f).toInt64) (sgA p0) (sgA u1) (sgB p0) (sgB u2) (nmF p0) (nmF u3))), .val (.int (enF ((3 : Int64) <<< ((kF ks) &&& 0x3f).toInt64) ((3 : Int64) <<< ((kF p0) &&& 0x3f).toInt64) (sgA u1) (sgA p0) (sgB u2) (sgB p0) (nmF u3) (nmF p0)))] [])) _
  refine Go.via (fun _ => XS.iload X1071.here hx rfl (hb hby at_312) rfl) ?_
  refine Go.via (fun _ => XS.iload X1071.here hx rfl (hb hby at_314) rfl) ?_
  refine Go.via (fun _ => XS.icmpNo X1071.here hx rfl (hb hby at_316) rfl (teq (((own_en p0 ks u1 u2 u3).trans ((if_pos hc1053).trans ((if_neg hc1055).trans ((if_neg hc1060).trans ((if_neg hc1065).trans rfl))))) : (enF ((3 : Int64) <<< ((kF p0) &&& 0x3f).toInt64) ((3 : Int64) <<< ((kF ks) &&& 0x3f).toInt64) (sgA p0) (sgA u1) (sgB p0) (sgB u2) (nmF p0) (nmF u3)) = (1 : Int32))).2) ?_
  show Go p e below (T1071.setTop (mkF m 319 #[.val (.long p0), .second, .val (.long p1), .second, .val (.int p2), .val (.long ks), .second, .val (.long u1), .second, .val (.long u2), .second, .val (.long u3), .second, .val (.ref b680), .val (.ref b751), .val (.ref b856), .val (.ref b936), .val (.int md), .val (.int (1 : Int32)), .val (.int (enF ((3 : Int64) <<< ((kF p0) &&& 0x3f).toInt64) ((3 : Int64) <<< ((kF ks) &&& 0x3f).toInt64) (sgA p0) (sgA u1) (sgB p0) (sgB u2) (nmF p0) (nmF u3))), .val (.int (enF ((3 : Int64) <<< ((kF ks) &&& 0x3f).toInt64) ((3 : Int64) <<< ((kF p0) &&& 0x3f).toInt64) (sgA u1) (sgA p0) (sgB u2) (sgB p0) (nmF u3) (nmF p0)))] [])) _
  refine Go.via (fun _ => XS.iload X1071.here hx rfl (hb hby at_319) rfl) ?_
  refine Go.via (fun _ => XS.iload X1071.here hx rfl (hb hby at_321) rfl) ?_
  refine Go.via (fun _ => XS.icmpNo X1071.here hx rfl (hb hby at_323) rfl (teq (((own_ens p0 ks u1 u2 u3).trans ((if_pos hc1053).trans ((if_neg hc1055).trans ((if_neg hc1060).trans ((if_neg hc1065).trans rfl))))) : (enF ((3 : Int64) <<< ((kF ks) &&& 0x3f).toInt64) ((3 : Int64) <<< ((kF p0) &&& 0x3f).toInt64) (sgA u1) (sgA p0) (sgB u2) (sgB p0) (nmF u3) (nmF p0)) = (1 : Int32))).2) ?_
  show Go p e below (T1071.setTop (mkF m 326 #[.val (.long p0), .second, .val (.long p1), .second, .val (.int p2), .val (.long ks), .second, .val (.long u1), .second, .val (.long u2), .second, .val (.long u3), .second, .val (.ref b680), .val (.ref b751), .val (.ref b856), .val (.ref b936), .val (.int md), .val (.int (1 : Int32)), .val (.int (enF ((3 : Int64) <<< ((kF p0) &&& 0x3f).toInt64) ((3 : Int64) <<< ((kF ks) &&& 0x3f).toInt64) (sgA p0) (sgA u1) (sgB p0) (sgB u2) (nmF p0) (nmF u3))), .val (.int (enF ((3 : Int64) <<< ((kF ks) &&& 0x3f).toInt64) ((3 : Int64) <<< ((kF p0) &&& 0x3f).toInt64) (sgA u1) (sgA p0) (sgB u2) (sgB p0) (nmF u3) (nmF p0)))] [])) _
  refine Go.via (fun _ => XS.iconst X1071.here hx rfl (hb hby at_326)) ?_
  refine Go.via (fun _ => XS.goto X1071.here hx rfl (pc0 := 327) (pc' := 331) rfl (hb hby at_327) (by decide) (by decide)) ?_
  exact Go.finW X1071 hS1069 (Nat.le_trans hk1069 (Nat.le_of_eq (congrArg Array.size (Eq.symm e1071)))) hlk (v := some (.int (1 : Int32))) (fun h => by rw [hret] at h; cases h) (fun fs hr => retN X1071 hx (t := .boolean) hret (by simp) (hb hby at_331) hr) (by rw [e1071]; exact ⟨rfl, N1069, k1069, Em.still I1069 X1071.warmed.interned_eq (w39 X1071.warmed.wide)⟩) (by decide) (by decide)
set_option maxRecDepth 65536 in
set_option maxHeartbeats 40000000 in
theorem rm_rm0_l294_9 (l : Launch) (Z : State) (a0 : Array Value) (hw : ∀ d ∈ tables_1, d.before a0 Z = true) (p0 : Int64) (p1 : Int64) (p2 : Int32) (cs : Int32) (fv : Value) (h0 : Heap) (n0 : Nat) (zCS : Sta Z Z.heap cST "COMPACT_STRINGS" "Z" (.int cs)) (zF : Sta Z Z.heap cPR "SIOOBE_FORMATTER" "Ljava/util/function/BiFunction;" fv) (hcs : ¬ (cs = (0 : Int32))) (hfv : fv = .null ∨ ∃ fa : Addr, fv = .ref fa) (hh7 : Jvm.Lit.constHeld Z cST 7) (hcw : Jvm.Lit.compactW.before a0 Z = true) {p : Program} {e : Env} {s : State} {m : MethodId} {below : List Frame} {meth : Method} {c : Code} (hx : p.tables.exec = Jvm.exec) (hby : c.code = code) (hlk : meth.locks = false) (hml : c.maxLocals = 21) (hret : meth.sig.returnType = ret) :
    ∀ (T1072 : State) (L1072 : List Loc) (h1072 : Heap) (vm1072 : Vm) (K1072 : Nat) (ks : Int64) (u1 : Int64) (u2 : Int64) (u3 : Int64) (md : Int32) (b680 : Addr) (b692 : Addr) (b712 : Addr) (b751 : Addr) (b768 : Addr) (b804 : Addr) (b856 : Addr) (b876 : Addr) (b936 : Addr) (b973 : Addr) (v693 : Addr) (v713 : Addr) (v769 : Addr) (v805 : Addr) (v877 : Addr) (v974 : Addr), Stand p l e room_1 (s.setVm vm1072) m #[(.long p0), (.long p1), (.int p2)] below meth c T1072 L1072 44 346 → T1072.heap = h1072 → Fr n0 L1072 → n0 ≤ h1072.size → Keep h0 h1072 [] → Z.Warmed39 (s.setVm vm1072).vm → (s.setVm vm1072).vm.findClass cLAW = some m.cls → s.Since vm1072 K1072 → K1072 ≤ h1072.size → Em Z vm1072 h1072 ["signature 1", "signature 2", "digest", "name"] → Old Z n0 h1072 → Exa Z h1072 b680 cCD → Fld Z h1072 b680 cCD "blockSize" "J" (.long ((3 : Int64) <<< ((kF p0) &&& 0x3f).toInt64)) → Fld Z h1072 b680 cCD "signature1" "Ljava/lang/String;" (.ref b692) → Fld Z h1072 b680 cCD "signature2" "Ljava/lang/String;" (.ref b712) → Exa Z h1072 b692 cST → Fld Z h1072 b692 cST "coder" "B" (.int (0 : Int32)) → Fld Z h1072 b692 cST "value" "[B" (.ref v693) → Ia Z h1072 v693 .byte (sgA p0) → Exa Z h1072 b712 cST → Fld Z h1072 b712 cST "coder" "B" (.int (0 : Int32)) → Fld Z h1072 b712 cST "value" "[B" (.ref v713) → Ia Z h1072 v713 .byte (sgB p0) → Exa Z h1072 b751 cCD → Fld Z h1072 b751 cCD "blockSize" "J" (.long ((3 : Int64) <<< ((kF ks) &&& 0x3f).toInt64)) → Fld Z h1072 b751 cCD "signature1" "Ljava/lang/String;" (.ref b768) → Fld Z h1072 b751 cCD "signature2" "Ljava/lang/String;" (.ref b804) → Exa Z h1072 b768 cST → Fld Z h1072 b768 cST "coder" "B" (.int (0 : Int32)) → Fld Z h1072 b768 cST "value" "[B" (.ref v769) → Ia Z h1072 v769 .byte (sgA u1) → Exa Z h1072 b804 cST → Fld Z h1072 b804 cST "coder" "B" (.int (0 : Int32)) → Fld Z h1072 b804 cST "value" "[B" (.ref v805) → Ia Z h1072 v805 .byte (sgB u2) → Exa Z h1072 b856 cEN → Fld Z h1072 b856 cEN "digest" "Lcom/example/relate_by_hash/relatebyhash/ctph/CtphDigest;" (.ref b680) → Fld Z h1072 b856 cEN "name" "Ljava/lang/String;" (.ref b876) → Exa Z h1072 b876 cST → Fld Z h1072 b876 cST "coder" "B" (.int (0 : Int32)) → Fld Z h1072 b876 cST "value" "[B" (.ref v877) → Ia Z h1072 v877 .byte (nmF p0) → Exa Z h1072 b936 cEN → Fld Z h1072 b936 cEN "digest" "Lcom/example/relate_by_hash/relatebyhash/ctph/CtphDigest;" (.ref b751) → Fld Z h1072 b936 cEN "name" "Ljava/lang/String;" (.ref b973) → Exa Z h1072 b973 cST → Fld Z h1072 b973 cST "coder" "B" (.int (0 : Int32)) → Fld Z h1072 b973 cST "value" "[B" (.ref v974) → Ia Z h1072 v974 .byte (nmF u3) → b680 ≠ b751 → b692 ≠ b768 → b712 ≠ b804 → b856 ≠ b936 → b876 ≠ b973 → ¬ ((kF p0) = (kF ks)) → Go p e below (T1072.setTop (mkF m 294 #[.val (.long p0), .second, .val (.long p1), .second, .val (.int p2), .val (.long ks), .second, .val (.long u1), .second, .val (.long u2), .second, .val (.long u3), .second, .val (.ref b680), .val (.ref b751), .val (.ref b856), .val (.ref b936), .val (.int md), .val (.int (0 : Int32)), .unset, .unset] [])) (DoneW s (Q_rm0 Z p0 p1 p2 cs fv h0 n0) room_1.cells room_1.slots) := by
  intro T1072 L1072 h1072 vm1072 K1072 ks u1 u2 u3 md b680 b692 b712 b751 b768 b804 b856 b876 b936 b973 v693 v713 v769 v805 v877 v974 X1072 e1072 N1072 z1072 k1072 hZ hown hS1072 hk1072 I1072 lf0_1072 lf1_1072 lf2_1072 lf3_1072 lf4_1072 lf5_1072 lf6_1072 lf7_1072 lf8_1072 lf9_1072 lf10_1072 lf11_1072 lf12_1072 lf13_1072 lf14_1072 lf15_1072 lf16_1072 lf17_1072 lf18_1072 lf19_1072 lf20_1072 lf21_1072 lf22_1072 lf23_1072 lf24_1072 lf25_1072 lf26_1072 lf27_1072 lf28_1072 lf29_1072 lf30_1072 lf31_1072 lf32_1072 lf33_1072 lf34_1072 lf35_1072 lf36_1072 lf37_1072 lf38_1072 lf48_1072 lf54_1072 lf66_1072 lf113_1072 lf127_1072 hc1053
  show Go p e below (T1072.setTop (mkF m 294 #[.val (.long p0), .second, .val (.long p1), .second, .val (.int p2), .val (.long ks), .second, .val (.long u1), .second, .val (.long u2), .second, .val (.long u3), .second, .val (.ref b680), .val (.ref b751), .val (.ref b856), .val (.ref b936), .val (.int md), .val (.int (0 : Int32)), .unset, .unset] [])) _
  refine Go.via (fun _ => XS.aload X1072.here hx rfl (hb hby at_294) rfl rfl) ?_
  refine Go.via (fun _ => XS.aload X1072.here hx rfl (hb hby at_296) rfl rfl) ?_
  obtain ⟨cq1073, kq1073, q1073a, q1073b, q1073c⟩ := isOf hZ e1072 lf25_1072
  obtain ⟨r1073, _, ⟨T1073, L1073, k1073, n1073⟩, -, X1073, ⟨Lc1073, hQ1073, l1073, y1073, z1073⟩, st1073⟩ := X1072.virtualBack hx (y := (⟨cEN, "equals", "(Ljava/lang/Object;)Z"⟩ : MethodName)) (z := (⟨cEN, "equals", "(Ljava/lang/Object;)Z"⟩ : MethodName)) hown (mvT hZ (tw hw 98 rfl)) (mvT hZ (tw hw 99 rfl)) (notFace_of_selects (args := #[]) (mvT hZ (tw hw 101 rfl))) (mvT hZ (tw hw 101 rfl)) (mvT hZ (tw hw 100 rfl)) (by decide) (backOf (W := 0) (rmEo2 l Z a0 hw [] b856 b936 b680 b751 b876 b973 ((3 : Int64) <<< ((kF p0) &&& 0x3f).toInt64) ((3 : Int64) <<< ((kF ks) &&& 0x3f).toInt64) b692 b712 b768 b804 v693 v713 v769 v805 (sgA p0) (sgB p0) (sgA u1) (sgB u2) cs v877 v974 (nmF p0) (nmF u3) h1072 n0 z1072 lf25_1072 lf26_1072 lf27_1072 lf32_1072 lf33_1072 lf34_1072 lf1_1072 lf2_1072 lf3_1072 lf4_1072 lf13_1072 lf14_1072 lf15_1072 lf16_1072 lf5_1072 lf6_1072 lf7_1072 lf8_1072 lf9_1072 lf10_1072 lf11_1072 lf12_1072 lf17_1072 lf18_1072 lf19_1072 lf20_1072 lf21_1072 lf22_1072 lf23_1072 lf24_1072 lf28_1072 lf29_1072 lf30_1072 lf31_1072 lf35_1072 lf36_1072 lf37_1072 lf38_1072 lf0_1072 zCS lf113_1072 lf48_1072 lf127_1072 lf54_1072 lf66_1072 (own_Sh (own_SgA _)) (own_Sh (own_SgA _)) (own_Sh (own_SgB _)) (own_Sh (own_SgB _)) hcs (own_ShN _) (own_ShN _)) hZ (tw hw 102 rfl) (tw hw 80 rfl) (by decide) (by decide)) q1073a q1073c (g := (mkF m 298 #[.val (.long p0), .second, .val (.long p1), .second, .val (.int p2), .val (.long ks), .second, .val (.long u1), .second, .val (.long u2), .second, .val (.long u3), .second, .val (.ref b680), .val (.ref b751), .val (.ref b856), .val (.ref b936), .val (.int md), .val (.int (0 : Int32)), .unset, .unset] [(.ref b936), (.ref b856)])) rfl (by rw [hml]; rfl) (Steps.refl _) (argsL := [(.ref b936)]) (rest := []) (lenOf pd__28Ljava_2flang_2fObject_3b_29Z rfl) rfl (by show 2 * 0 + _ ≤ _; exact Nat.le_of_eq rfl) (hb hby at_298) (fun _ _ => ⟨rfl, e1072, (by decide : 44 + 0 ≤ _), (by decide : 346 + 0 ≤ _)⟩)
  dsimp only [Pt.U, Pt.locs, Pt.cells, Pt.slots] at X1073 l1073 y1073 z1073 st1073 hQ1073
  rw [l1073, y1073, z1073] at X1073
  clear l1073 y1073 z1073
  obtain ⟨hr1073, N1073q, eh1073⟩ := hQ1073
  rw [hr1073] at st1073
  clear hr1073
  rw [N1073q, List.append_nil] at X1073
  refine Go.via (fun _ kQ => st1073.trans kQ) ?_
  clear st1073
  have e1073 : T1073.heap = h1072 := eh1073
  clear X1072 e1072
  show Go p e below (T1073.setTop (mkF m 301 #[.val (.long p0), .second, .val (.long p1), .second, .val (.int p2), .val (.long ks), .second, .val (.long u1), .second, .val (.long u2), .second, .val (.long u3), .second, .val (.ref b680), .val (.ref b751), .val (.ref b856), .val (.ref b936), .val (.int md), .val (.int (0 : Int32)), .unset, .unset] [(.int (enF ((3 : Int64) <<< ((kF p0) &&& 0x3f).toInt64) ((3 : Int64) <<< ((kF ks) &&& 0x3f).toInt64) (sgA p0) (sgA u1) (sgB p0) (sgB u2) (nmF p0) (nmF u3)))])) _
  refine Go.via (fun _ => XS.istore X1073.here hx rfl (hb hby at_301) rfl (l' := #[.val (.long p0), .second, .val (.long p1), .second, .val (.int p2), .val (.long ks), .second, .val (.long u1), .second, .val (.long u2), .second, .val (.long u3), .second, .val (.ref b680), .val (.ref b751), .val (.ref b856), .val (.ref b936), .val (.int md), .val (.int (0 : Int32)), .val (.int (enF ((3 : Int64) <<< ((kF p0) &&& 0x3f).toInt64) ((3 : Int64) <<< ((kF ks) &&& 0x3f).toInt64) (sgA p0) (sgA u1) (sgB p0) (sgB u2) (nmF p0) (nmF u3))), .unset]) rfl) ?_
  show Go p e below (T1073.setTop (mkF m 303 #[.val (.long p0), .second, .val (.long p1), .second, .val (.int p2), .val (.long ks), .second, .val (.long u1), .second, .val (.long u2), .second, .val (.long u3), .second, .val (.ref b680), .val (.ref b751), .val (.ref b856), .val (.ref b936), .val (.int md), .val (.int (0 : Int32)), .val (.int (enF ((3 : Int64) <<< ((kF p0) &&& 0x3f).toInt64) ((3 : Int64) <<< ((kF ks) &&& 0x3f).toInt64) (sgA p0) (sgA u1) (sgB p0) (sgB u2) (nmF p0) (nmF u3))), .unset] [])) _
  refine Go.via (fun _ => XS.aload X1073.here hx rfl (hb hby at_303) rfl rfl) ?_
  refine Go.via (fun _ => XS.aload X1073.here hx rfl (hb hby at_305) rfl rfl) ?_
  obtain ⟨cq1074, kq1074, q1074a, q1074b, q1074c⟩ := isOf hZ e1073 lf32_1072
  obtain ⟨r1074, _, ⟨T1074, L1074, k1074, n1074⟩, -, X1074, ⟨Lc1074, hQ1074, l1074, y1074, z1074⟩, st1074⟩ := X1073.virtualBack hx (y := (⟨cEN, "equals", "(Ljava/lang/Object;)Z"⟩ : MethodName)) (z := (⟨cEN, "equals", "(Ljava/lang/Object;)Z"⟩ : MethodName)) hown (mvT hZ (tw hw 98 rfl)) (mvT hZ (tw hw 99 rfl)) (notFace_of_selects (args := #[]) (mvT hZ (tw hw 101 rfl))) (mvT hZ (tw hw 101 rfl)) (mvT hZ (tw hw 100 rfl)) (by decide) (backOf (W := 0) (rmEo2 l Z a0 hw [] b936 b856 b751 b680 b973 b876 ((3 : Int64) <<< ((kF ks) &&& 0x3f).toInt64) ((3 : Int64) <<< ((kF p0) &&& 0x3f).toInt64) b768 b804 b692 b712 v769 v805 v693 v713 (sgA u1) (sgB u2) (sgA p0) (sgB p0) cs v974 v877 (nmF u3) (nmF p0) h1072 n0 z1072 lf32_1072 lf33_1072 lf34_1072 lf25_1072 lf26_1072 lf27_1072 lf13_1072 lf14_1072 lf15_1072 lf16_1072 lf1_1072 lf2_1072 lf3_1072 lf4_1072 lf17_1072 lf18_1072 lf19_1072 lf20_1072 lf21_1072 lf22_1072 lf23_1072 lf24_1072 lf5_1072 lf6_1072 lf7_1072 lf8_1072 lf9_1072 lf10_1072 lf11_1072 lf12_1072 lf35_1072 lf36_1072 lf37_1072 lf38_1072 lf28_1072 lf29_1072 lf30_1072 lf31_1072 lf0_1072 zCS (Ne.symm lf113_1072) (Ne.symm lf48_1072) (Ne.symm lf127_1072) (Ne.symm lf54_1072) (Ne.symm lf66_1072) (own_Sh (own_SgA _)) (own_Sh (own_SgA _)) (own_Sh (own_SgB _)) (own_Sh (own_SgB _)) hcs (own_ShN _) (own_ShN _)) hZ (tw hw 102 rfl) (tw hw 80 rfl) (by decide) (by decide)) q1074a q1074c (g := (mkF m 307 #[.val (.long p0), .second, .val (.long p1), .second, .val (.int p2), .val (.long ks), .second, .val (.long u1), .second, .val (.long u2), .second, .val (.long u3), .second, .val (.ref b680), .val (.ref b751), .val (.ref b856), .val (.ref b936), .val (.int md), .val (.int (0 : Int32)), .val (.int (enF ((3 : Int64) <<< ((kF p0) &&& 0x3f).toInt64) ((3 : Int64) <<< ((kF ks) &&& 0x3f).toInt64) (sgA p0) (sgA u1) (sgB p0) (sgB u2) (nmF p0) (nmF u3))), .unset] [(.ref b856), (.ref b936)])) rfl (by rw [hml]; rfl) (Steps.refl _) (argsL := [(.ref b856)]) (rest := []) (lenOf pd__28Ljava_2flang_2fObject_3b_29Z rfl) rfl (by show 2 * 0 + _ ≤ _; exact Nat.le_of_eq rfl) (hb hby at_307) (fun _ _ => ⟨rfl, e1073, (by decide : 44 + 0 ≤ _), (by decide : 346 + 0 ≤ _)⟩)
  dsimp only [Pt.U, Pt.locs, Pt.cells, Pt.slots] at X1074 l1074 y1074 z1074 st1074 hQ1074
  rw [l1074, y1074, z1074] at X1074
  clear l1074 y1074 z1074
  obtain ⟨hr1074, N1074q, eh1074⟩ := hQ1074
  rw [hr1074] at st1074
  clear hr1074
  rw [N1074q, List.append_nil] at X1074
  refine Go.via (fun _ kQ => st1074.trans kQ) ?_
  clear st1074
  have e1074 : T1074.heap = h1072 := eh1074
  clear X1073 e1073
  show Go p e below (T1074.setTop (mkF m 310 #[.val (.long p0), .second, .val (.long p1), .second, .val (.int p2), .val (.long ks), .second, .val (.long u1), .second, .val (.long u2), .second, .val (.long u3), .second, .val (.ref b680), .val (.ref b751), .val (.ref b856), .val (.ref b936), .val (.int md), .val (.int (0 : Int32)), .val (.int (enF ((3 : Int64) <<< ((kF p0) &&& 0x3f).toInt64) ((3 : Int64) <<< ((kF ks) &&& 0x3f).toInt64) (sgA p0) (sgA u1) (sgB p0) (sgB u2) (nmF p0) (nmF u3))), .unset] [(.int (enF ((3 : Int64) <<< ((kF ks) &&& 0x3f).toInt64) ((3 : Int64) <<< ((kF p0) &&& 0x3f).toInt64) (sgA u1) (sgA p0) (sgB u2) (sgB p0) (nmF u3) (nmF p0)))])) _
  refine Go.via (fun _ => XS.istore X1074.here hx rfl (hb hby at_310) rfl (l' := #[.val (.long p0), .second, .val (.long p1), .second, .val (.int p2), .val (.long ks), .second, .val (.long u1), .second, .val (.long u2), .second, .val (.long u3), .second, .val (.ref b680), .val (.ref b751), .val (.ref b856), .val (.ref b936), .val (.int md), .val (.int (0 : Int32)), .val (.int (enF ((3 : Int64) <<< ((kF p0) &&& 0x3f).toInt64) ((3 : Int64) <<< ((kF ks) &&& 0x3f).toInt64) (sgA p0) (sgA u1) (sgB p0) (sgB u2) (nmF p0) (nmF u3))), .val (.int (enF ((3 : Int64) <<< ((kF ks) &&& 0x3f).toInt64) ((3 : Int64) <<< ((kF p0) &&& 0x3f).toInt64) (sgA u1) (sgA p0) (sgB u2) (sgB p0) (nmF u3) (nmF p0)))]) rfl) ?_
  show Go p e below (T1074.setTop (mkF m 312 #[.val (.long p0), .second, .val (.long p1), .second, .val (.int p2), .val (.long ks), .second, .val (.long u1), .second, .val (.long u2), .second, .val (.long u3), .second, .val (.ref b680), .val (.ref b751), .val (.ref b856), .val (.ref b936), .val (.int md), .val (.int (0 : Int32)), .val (.int (enF ((3 : Int64) <<< ((kF p0) &&& 0x3f).toInt64) ((3 : Int64) <<< ((kF ks) &&& 0x3f).toInt64) (sgA p0) (sgA u1) (sgB p0) (sgB u2) (nmF p0) (nmF u3))), .val (.int (enF ((3 : Int64) <<< ((kF ks) &&& 0x3f).toInt64) ((3 : Int64) <<< ((kF p0) &&& 0x3f).toInt64) (sgA u1) (sgA p0) (sgB u2) (sgB p0) (nmF u3) (nmF p0)))] [])) _
  refine Go.via (fun _ => XS.iload X1074.here hx rfl (hb hby at_312) rfl) ?_
  refine Go.via (fun _ => XS.iload X1074.here hx rfl (hb hby at_314) rfl) ?_
  refine Go.via (fun _ => XS.icmpNo X1074.here hx rfl (hb hby at_316) rfl (teq (((own_en p0 ks u1 u2 u3).trans ((if_neg hc1053).trans rfl)) : (enF ((3 : Int64) <<< ((kF p0) &&& 0x3f).toInt64) ((3 : Int64) <<< ((kF ks) &&& 0x3f).toInt64) (sgA p0) (sgA u1) (sgB p0) (sgB u2) (nmF p0) (nmF u3)) = (0 : Int32))).2) ?_
  show Go p e below (T1074.setTop (mkF m 319 #[.val (.long p0), .second, .val (.long p1), .second, .val (.int p2), .val (.long ks), .second, .val (.long u1), .second, .val (.long u2), .second, .val (.long u3), .second, .val (.ref b680), .val (.ref b751), .val (.ref b856), .val (.ref b936), .val (.int md), .val (.int (0 : Int32)), .val (.int (enF ((3 : Int64) <<< ((kF p0) &&& 0x3f).toInt64) ((3 : Int64) <<< ((kF ks) &&& 0x3f).toInt64) (sgA p0) (sgA u1) (sgB p0) (sgB u2) (nmF p0) (nmF u3))), .val (.int (enF ((3 : Int64) <<< ((kF ks) &&& 0x3f).toInt64) ((3 : Int64) <<< ((kF p0) &&& 0x3f).toInt64) (sgA u1) (sgA p0) (sgB u2) (sgB p0) (nmF u3) (nmF p0)))] [])) _
  refine Go.via (fun _ => XS.iload X1074.here hx rfl (hb hby at_319) rfl) ?_
  refine Go.via (fun _ => XS.iload X1074.here hx rfl (hb hby at_321) rfl) ?_
  refine Go.via (fun _ => XS.icmpNo X1074.here hx rfl (hb hby at_323) rfl (teq (((own_ens p0 ks u1 u2 u3).trans ((if_neg hc1053).trans rfl)) : (enF ((3 : Int64) <<< ((kF ks) &&& 0x3f).toInt64) ((3 : Int64) <<< ((kF p0) &&& 0x3f).toInt64) (sgA u1) (sgA p0) (sgB u2) (sgB p0) (nmF u3) (nmF p0)) = (0 : Int32))).2) ?_
  show Go p e below (T1074.setTop (mkF m 326 #[.val (.long p0), .second, .val (.long p1), .second, .val (.int p2), .val (.long ks), .second, .val (.long u1), .second, .val (.long u2), .second, .val (.long u3), .second, .val (.ref b680), .val (.ref b751), .val (.ref b856), .val (.ref b936), .val (.int md), .val (.int (0 : Int32)), .val (.int (enF ((3 : Int64) <<< ((kF p0) &&& 0x3f).toInt64) ((3 : Int64) <<< ((kF ks) &&& 0x3f).toInt64) (sgA p0) (sgA u1) (sgB p0) (sgB u2) (nmF p0) (nmF u3))), .val (.int (enF ((3 : Int64) <<< ((kF ks) &&& 0x3f).toInt64) ((3 : Int64) <<< ((kF p0) &&& 0x3f).toInt64) (sgA u1) (sgA p0) (sgB u2) (sgB p0) (nmF u3) (nmF p0)))] [])) _
  refine Go.via (fun _ => XS.iconst X1074.here hx rfl (hb hby at_326)) ?_
  refine Go.via (fun _ => XS.goto X1074.here hx rfl (pc0 := 327) (pc' := 331) rfl (hb hby at_327) (by decide) (by decide)) ?_
  exact Go.finW X1074 hS1072 (Nat.le_trans hk1072 (Nat.le_of_eq (congrArg Array.size (Eq.symm e1074)))) hlk (v := some (.int (1 : Int32))) (fun h => by rw [hret] at h; cases h) (fun fs hr => retN X1074 hx (t := .boolean) hret (by simp) (hb hby at_331) hr) (by rw [e1074]; exact ⟨rfl, N1072, k1072, Em.still I1072 X1074.warmed.interned_eq (w39 X1074.warmed.wide)⟩) (by decide) (by decide)
set_option maxRecDepth 65536 in
set_option maxHeartbeats 40000000 in
theorem rm_rm0_l237_4 (l : Launch) (Z : State) (a0 : Array Value) (hw : ∀ d ∈ tables_1, d.before a0 Z = true) (p0 : Int64) (p1 : Int64) (p2 : Int32) (cs : Int32) (fv : Value) (h0 : Heap) (n0 : Nat) (zCS : Sta Z Z.heap cST "COMPACT_STRINGS" "Z" (.int cs)) (zF : Sta Z Z.heap cPR "SIOOBE_FORMATTER" "Ljava/util/function/BiFunction;" fv) (hcs : ¬ (cs = (0 : Int32))) (hfv : fv = .null ∨ ∃ fa : Addr, fv = .ref fa) (hh7 : Jvm.Lit.constHeld Z cST 7) (hcw : Jvm.Lit.compactW.before a0 Z = true) {p : Program} {e : Env} {s : State} {m : MethodId} {below : List Frame} {meth : Method} {c : Code} (hx : p.tables.exec = Jvm.exec) (hby : c.code = code) (hlk : meth.locks = false) (hml : c.maxLocals = 21) (hret : meth.sig.returnType = ret) :
    ∀ (T1050 : State) (L1050 : List Loc) (h1050 : Heap) (vm1050 : Vm) (K1050 : Nat) (ks : Int64) (u1 : Int64) (u2 : Int64) (u3 : Int64) (md : Int32) (b680 : Addr) (b692 : Addr) (b712 : Addr) (b751 : Addr) (b768 : Addr) (b804 : Addr) (b856 : Addr) (b876 : Addr) (b936 : Addr) (b973 : Addr) (v693 : Addr) (v713 : Addr) (v769 : Addr) (v805 : Addr) (v877 : Addr) (v974 : Addr), Stand p l e room_1 (s.setVm vm1050) m #[(.long p0), (.long p1), (.int p2)] below meth c T1050 L1050 44 346 → T1050.heap = h1050 → Fr n0 L1050 → n0 ≤ h1050.size → Keep h0 h1050 [] → Z.Warmed39 (s.setVm vm1050).vm → (s.setVm vm1050).vm.findClass cLAW = some m.cls → s.Since vm1050 K1050 → K1050 ≤ h1050.size → Em Z vm1050 h1050 ["signature 1", "signature 2", "digest", "name"] → Old Z n0 h1050 → Exa Z h1050 b680 cCD → Fld Z h1050 b680 cCD "blockSize" "J" (.long ((3 : Int64) <<< ((kF p0) &&& 0x3f).toInt64)) → Fld Z h1050 b680 cCD "signature1" "Ljava/lang/String;" (.ref b692) → Fld Z h1050 b680 cCD "signature2" "Ljava/lang/String;" (.ref b712) → Exa Z h1050 b692 cST → Fld Z h1050 b692 cST "coder" "B" (.int (0 : Int32)) → Fld Z h1050 b692 cST "value" "[B" (.ref v693) → Ia Z h1050 v693 .byte (sgA p0) → Exa Z h1050 b712 cST → Fld Z h1050 b712 cST "coder" "B" (.int (0 : Int32)) → Fld Z h1050 b712 cST "value" "[B" (.ref v713) → Ia Z h1050 v713 .byte (sgB p0) → Exa Z h1050 b751 cCD → Fld Z h1050 b751 cCD "blockSize" "J" (.long ((3 : Int64) <<< ((kF ks) &&& 0x3f).toInt64)) → Fld Z h1050 b751 cCD "signature1" "Ljava/lang/String;" (.ref b768) → Fld Z h1050 b751 cCD "signature2" "Ljava/lang/String;" (.ref b804) → Exa Z h1050 b768 cST → Fld Z h1050 b768 cST "coder" "B" (.int (0 : Int32)) → Fld Z h1050 b768 cST "value" "[B" (.ref v769) → Ia Z h1050 v769 .byte (sgA u1) → Exa Z h1050 b804 cST → Fld Z h1050 b804 cST "coder" "B" (.int (0 : Int32)) → Fld Z h1050 b804 cST "value" "[B" (.ref v805) → Ia Z h1050 v805 .byte (sgB u2) → Exa Z h1050 b856 cEN → Fld Z h1050 b856 cEN "digest" "Lcom/example/relate_by_hash/relatebyhash/ctph/CtphDigest;" (.ref b680) → Fld Z h1050 b856 cEN "name" "Ljava/lang/String;" (.ref b876) → Exa Z h1050 b876 cST → Fld Z h1050 b876 cST "coder" "B" (.int (0 : Int32)) → Fld Z h1050 b876 cST "value" "[B" (.ref v877) → Ia Z h1050 v877 .byte (nmF p0) → Exa Z h1050 b936 cEN → Fld Z h1050 b936 cEN "digest" "Lcom/example/relate_by_hash/relatebyhash/ctph/CtphDigest;" (.ref b751) → Fld Z h1050 b936 cEN "name" "Ljava/lang/String;" (.ref b973) → Exa Z h1050 b973 cST → Fld Z h1050 b973 cST "coder" "B" (.int (0 : Int32)) → Fld Z h1050 b973 cST "value" "[B" (.ref v974) → Ia Z h1050 v974 .byte (nmF u3) → b680 ≠ b751 → b692 ≠ b768 → b712 ≠ b804 → b856 ≠ b936 → b876 ≠ b973 → Go p e below (T1050.setTop (mkF m 237 #[.val (.long p0), .second, .val (.long p1), .second, .val (.int p2), .val (.long ks), .second, .val (.long u1), .second, .val (.long u2), .second, .val (.long u3), .second, .val (.ref b680), .val (.ref b751), .val (.ref b856), .val (.ref b936), .val (.int md), .unset, .unset, .unset] [])) (DoneW s (Q_rm0 Z p0 p1 p2 cs fv h0 n0) room_1.cells room_1.slots) := by
  intro T1050 L1050 h1050 vm1050 K1050 ks u1 u2 u3 md b680 b692 b712 b751 b768 b804 b856 b876 b936 b973 v693 v713 v769 v805 v877 v974 X1050 e1050 N1050 z1050 k1050 hZ hown hS1050 hk1050 I1050 lf0_1050 lf1_1050 lf2_1050 lf3_1050 lf4_1050 lf5_1050 lf6_1050 lf7_1050 lf8_1050 lf9_1050 lf10_1050 lf11_1050 lf12_1050 lf13_1050 lf14_1050 lf15_1050 lf16_1050 lf17_1050 lf18_1050 lf19_1050 lf20_1050 lf21_1050 lf22_1050 lf23_1050 lf24_1050 lf25_1050 lf26_1050 lf27_1050 lf28_1050 lf29_1050 lf30_1050 lf31_1050 lf32_1050 lf33_1050 lf34_1050 lf35_1050 lf36_1050 lf37_1050 lf38_1050 lf48_1050 lf54_1050 lf66_1050 lf113_1050 lf127_1050 
  show Go p e below (T1050.setTop (mkF m 237 #[.val (.long p0), .second, .val (.long p1), .second, .val (.int p2), .val (.long ks), .second, .val (.long u1), .second, .val (.long u2), .second, .val (.long u3), .second, .val (.ref b680), .val (.ref b751), .val (.ref b856), .val (.ref b936), .val (.int md), .unset, .unset, .unset] [])) _
  refine Go.via (fun _ => XS.lloadN X1050.here hx rfl (hb hby at_237) rfl) ?_
  obtain ⟨r1051, _, ⟨T1051, L1051, k1051, n1051⟩, -, X1051, ⟨Lc1051, hQ1051, l1051, y1051, z1051⟩, st1051⟩ := Jvm.LawKit.callS X1050 hx (y := (⟨cLAW, "k", "(J)I"⟩ : MethodName)) hown (mvT hZ (tw hw 4 rfl)) (mvT hZ (tw hw 5 rfl)) (mvT hZ (tw hw 6 rfl)) (mvT hZ (tw hw 7 rfl)) (by decide) (backOf (W := 0) (rmK l Z a0 hw [] p0  h1050 n0 z1050) hZ (tw hw 7 rfl) (tw hw 6 rfl) (by decide) (by decide)) (g := (mkF m 238 #[.val (.long p0), .second, .val (.long p1), .second, .val (.int p2), .val (.long ks), .second, .val (.long u1), .second, .val (.long u2), .second, .val (.long u3), .second, .val (.ref b680), .val (.ref b751), .val (.ref b856), .val (.ref b936), .val (.int md), .unset, .unset, .unset] [(.long p0)])) rfl (by rw [hml]; rfl) (argsL := [(.long p0)]) (rest := []) (lenOf pd__28J_29I rfl) rfl (by show 2 * 0 + _ ≤ _; exact Nat.le_of_eq rfl) (hb hby at_238) (fun _ _ => ⟨rfl, e1050, (by decide : 44 + 0 ≤ _), (by decide : 346 + 0 ≤ _)⟩)
  dsimp only [Pt.U, Pt.locs, Pt.cells, Pt.slots] at X1051 l1051 y1051 z1051 st1051 hQ1051
  rw [l1051, y1051, z1051] at X1051
  clear l1051 y1051 z1051
  obtain ⟨hr1051, N1051q, eh1051⟩ := hQ1051
  rw [hr1051] at st1051
  clear hr1051
  rw [N1051q, List.append_nil] at X1051
  refine Go.via (st1051) ?_
  clear st1051
  have e1051 : T1051.heap = h1050 := eh1051
  clear X1050 e1050
  show Go p e below (T1051.setTop (mkF m 241 #[.val (.long p0), .second, .val (.long p1), .second, .val (.int p2), .val (.long ks), .second, .val (.long u1), .second, .val (.long u2), .second, .val (.long u3), .second, .val (.ref b680), .val (.ref b751), .val (.ref b856), .val (.ref b936), .val (.int md), .unset, .unset, .unset] [(.int (kF p0))])) _
  refine Go.via (fun _ => XS.lload X1051.here hx rfl (hb hby at_241) rfl) ?_
  obtain ⟨r1052, _, ⟨T1052, L1052, k1052, n1052⟩, -, X1052, ⟨Lc1052, hQ1052, l1052, y1052, z1052⟩, st1052⟩ := Jvm.LawKit.callS X1051 hx (y := (⟨cLAW, "k", "(J)I"⟩ : MethodName)) hown (mvT hZ (tw hw 4 rfl)) (mvT hZ (tw hw 5 rfl)) (mvT hZ (tw hw 6 rfl)) (mvT hZ (tw hw 7 rfl)) (by decide) (backOf (W := 1) (rmK l Z a0 hw [] ks  h1050 n0 z1050) hZ (tw hw 7 rfl) (tw hw 6 rfl) (by decide) (by decide)) (g := (mkF m 243 #[.val (.long p0), .second, .val (.long p1), .second, .val (.int p2), .val (.long ks), .second, .val (.long u1), .second, .val (.long u2), .second, .val (.long u3), .second, .val (.ref b680), .val (.ref b751), .val (.ref b856), .val (.ref b936), .val (.int md), .unset, .unset, .unset] [(.long ks), (.int (kF p0))])) rfl (by rw [hml]; rfl) (argsL := [(.long ks)]) (rest := [(.int (kF p0))]) (lenOf pd__28J_29I rfl) rfl (by show 2 * 0 + _ ≤ _; exact Nat.le_of_eq rfl) (hb hby at_243) (fun _ _ => ⟨rfl, e1051, (by decide : 44 + 0 ≤ _), (by decide : 346 + 0 ≤ _)⟩)
  dsimp only [Pt.U, Pt.locs, Pt.cells, Pt.slots] at X1052 l1052 y1052 z1052 st1052 hQ1052
  rw [l1052, y1052, z1052] at X1052
  clear l1052 y1052 z1052
  obtain ⟨hr1052, N1052q, eh1052⟩ := hQ1052
  rw [hr1052] at st1052
  clear hr1052
  rw [N1052q, List.append_nil] at X1052
  refine Go.via (st1052) ?_
  clear st1052
  have e1052 : T1052.heap = h1050 := eh1052
  clear X1051 e1051
  show Go p e below (T1052.setTop (mkF m 246 #[.val (.long p0), .second, .val (.long p1), .second, .val (.int p2), .val (.long ks), .second, .val (.long u1), .second, .val (.long u2), .second, .val (.long u3), .second, .val (.ref b680), .val (.ref b751), .val (.ref b856), .val (.ref b936), .val (.int md), .unset, .unset, .unset] [(.int (kF ks)), (.int (kF p0))])) _
  by_cases hc1053 : (kF p0) = (kF ks)
  · refine Go.via (fun _ => XS.icmpNo X1052.here hx rfl (hb hby at_246) rfl (teq (hc1053 : (kF p0) = (kF ks))).2) ?_
    show Go p e below (T1052.setTop (mkF m 249 #[.val (.long p0), .second, .val (.long p1), .second, .val (.int p2), .val (.long ks), .second, .val (.long u1), .second, .val (.long u2), .second, .val (.long u3), .second, .val (.ref b680), .val (.ref b751), .val (.ref b856), .val (.ref b936), .val (.int md), .unset, .unset, .unset] [])) _
    refine Go.via (fun _ => XS.lloadN X1052.here hx rfl (hb hby at_249) rfl) ?_
    refine Go.via (fun _ => XS.lload X1052.here hx rfl (hb hby at_250) rfl) ?_
    refine Go.via (fun _ => XS.iconst X1052.here hx rfl (hb hby at_252)) ?_
    refine Go.via (fun _ => XS.bipush X1052.here hx rfl (hb hby at_253)) ?_
    show Go p e below (T1052.setTop (mkF m 255 #[.val (.long p0), .second, .val (.long p1), .second, .val (.int p2), .val (.long ks), .second, .val (.long u1), .second, .val (.long u2), .second, .val (.long u3), .second, .val (.ref b680), .val (.ref b751), .val (.ref b856), .val (.ref b936), .val (.int md), .unset, .unset, .unset] [(.int (6 : Int32)), (.int (5 : Int32)), (.long u1), (.long p0)])) _
    obtain ⟨r1054, _, ⟨T1054, L1054, k1054, n1054⟩, -, X1054, ⟨Lc1054, hQ1054, l1054, y1054, z1054⟩, st1054⟩ := Jvm.LawKit.callS X1052 hx (y := (⟨cLAW, "same", "(JJII)Z"⟩ : MethodName)) hown (mvT hZ (tw hw 111 rfl)) (mvT hZ (tw hw 112 rfl)) (mvT hZ (tw hw 6 rfl)) (mvT hZ (tw hw 113 rfl)) (by decide) (backOf (W := 0) (rmSs l Z a0 hw [] p0 u1 (5 : Int32) (6 : Int32)  h1050 n0 z1050) hZ (tw hw 113 rfl) (tw hw 6 rfl) (by decide) (by decide)) (g := (mkF m 255 #[.val (.long p0), .second, .val (.long p1), .second, .val (.int p2), .val (.long ks), .second, .val (.long u1), .second, .val (.long u2), .second, .val (.long u3), .second, .val (.ref b680), .val (.ref b751), .val (.ref b856), .val (.ref b936), .val (.int md), .unset, .unset, .unset] [(.int (6 : Int32)), (.int (5 : Int32)), (.long u1), (.long p0)])) rfl (by rw [hml]; rfl) (argsL := [(.long p0), (.long u1), (.int (5 : Int32)), (.int (6 : Int32))]) (rest := []) (lenOf pd__28JJII_29Z rfl) rfl (by show 2 * 0 + _ ≤ _; exact Nat.le_of_eq rfl) (hb hby at_255) (fun _ _ => ⟨rfl, e1052, (by decide : 44 + 0 ≤ _), (by decide : 346 + 0 ≤ _)⟩)
    dsimp only [Pt.U, Pt.locs, Pt.cells, Pt.slots] at X1054 l1054 y1054 z1054 st1054 hQ1054
    rw [l1054, y1054, z1054] at X1054
    clear l1054 y1054 z1054
    obtain ⟨hr1054, N1054q, eh1054⟩ := hQ1054
    rw [hr1054] at st1054
    clear hr1054
    rw [N1054q, List.append_nil] at X1054
    refine Go.via (st1054) ?_
    clear st1054
    have e1054 : T1054.heap = h1050 := eh1054
    clear X1052 e1052
    show Go p e below (T1054.setTop (mkF m 258 #[.val (.long p0), .second, .val (.long p1), .second, .val (.int p2), .val (.long ks), .second, .val (.long u1), .second, .val (.long u2), .second, .val (.long u3), .second, .val (.ref b680), .val (.ref b751), .val (.ref b856), .val (.ref b936), .val (.int md), .unset, .unset, .unset] [(.int (smF p0 u1 (5 : Int32) (6 : Int32)))])) _
    by_cases hc1055 : (smF p0 u1 (5 : Int32) (6 : Int32)) = (0 : Int32)
    · refine Go.via (fun _ => XS.ifYes X1054.here hx rfl (pc0 := 258) (pc' := 291) rfl (hb hby at_258) rfl ((if0 _ _).trans (teq (hc1055 : (smF p0 u1 (5 : Int32) (6 : Int32)) = (0 : Int32))).1) (by decide) (by decide)) ?_
      show Go p e below (T1054.setTop (mkF m 291 #[.val (.long p0), .second, .val (.long p1), .second, .val (.int p2), .val (.long ks), .second, .val (.long u1), .second, .val (.long u2), .second, .val (.long u3), .second, .val (.ref b680), .val (.ref b751), .val (.ref b856), .val (.ref b936), .val (.int md), .unset, .unset, .unset] [])) _
      refine Go.via (fun _ => XS.iconst X1054.here hx rfl (hb hby at_291)) ?_
      refine Go.via (fun _ => XS.istore X1054.here hx rfl (hb hby at_292) rfl (l' := #[.val (.long p0), .second, .val (.long p1), .second, .val (.int p2), .val (.long ks), .second, .val (.long u1), .second, .val (.long u2), .second, .val (.long u3), .second, .val (.ref b680), .val (.ref b751), .val (.ref b856), .val (.ref b936), .val (.int md), .val (.int (0 : Int32)), .unset, .unset]) rfl) ?_
      exact rm_rm0_l294_5 l Z a0 hw p0 p1 p2 cs fv h0 n0 zCS zF hcs hfv hh7 hcw hx hby hlk hml hret T1054 _ h1050 vm1050 _ ks u1 u2 u3 md b680 b692 b712 b751 b768 b804 b856 b876 b936 b973 v693 v713 v769 v805 v877 v974 X1054 e1054 N1050 z1050 k1050 hZ hown hS1050 hk1050 I1050 lf0_1050 lf1_1050 lf2_1050 lf3_1050 lf4_1050 lf5_1050 lf6_1050 lf7_1050 lf8_1050 lf9_1050 lf10_1050 lf11_1050 lf12_1050 lf13_1050 lf14_1050 lf15_1050 lf16_1050 lf17_1050 lf18_1050 lf19_1050 lf20_1050 lf21_1050 lf22_1050 lf23_1050 lf24_1050 lf25_1050 lf26_1050 lf27_1050 lf28_1050 lf29_1050 lf30_1050 lf31_1050 lf32_1050 lf33_1050 lf34_1050 lf35_1050 lf36_1050 lf37_1050 lf38_1050 lf48_1050 lf54_1050 lf66_1050 lf113_1050 lf127_1050 hc1053 hc1055
    · refine Go.via (fun _ => XS.ifNo X1054.here hx rfl (hb hby at_258) rfl ((if0 _ _).trans (feq (hc1055 : ¬ ((smF p0 u1 (5 : Int32) (6 : Int32)) = (0 : Int32)))).1)) ?_
      show Go p e below (T1054.setTop (mkF m 261 #[.val (.long p0), .second, .val (.long p1), .second, .val (.int p2), .val (.long ks), .second, .val (.long u1), .second, .val (.long u2), .second, .val (.long u3), .second, .val (.ref b680), .val (.ref b751), .val (.ref b856), .val (.ref b936), .val (.int md), .unset, .unset, .unset] [])) _
      refine Go.via (fun _ => XS.lloadN X1054.here hx rfl (hb hby at_261) rfl) ?_
      refine Go.via (fun _ => XS.lload X1054.here hx rfl (hb hby at_262) rfl) ?_
      refine Go.via (fun _ => XS.bipush X1054.here hx rfl (hb hby at_264)) ?_
      refine Go.via (fun _ => XS.bipush X1054.here hx rfl (hb hby at_266)) ?_
      show Go p e below (T1054.setTop (mkF m 268 #[.val (.long p0), .second, .val (.long p1), .second, .val (.int p2), .val (.long ks), .second, .val (.long u1), .second, .val (.long u2), .second, .val (.long u3), .second, .val (.ref b680), .val (.ref b751), .val (.ref b856), .val (.ref b936), .val (.int md), .unset, .unset, .unset] [(.int (6 : Int32)), (.int (19 : Int32)), (.long u2), (.long p0)])) _
      obtain ⟨r1059, _, ⟨T1059, L1059, k1059, n1059⟩, -, X1059, ⟨Lc1059, hQ1059, l1059, y1059, z1059⟩, st1059⟩ := Jvm.LawKit.callS X1054 hx (y := (⟨cLAW, "same", "(JJII)Z"⟩ : MethodName)) hown (mvT hZ (tw hw 111 rfl)) (mvT hZ (tw hw 112 rfl)) (mvT hZ (tw hw 6 rfl)) (mvT hZ (tw hw 113 rfl)) (by decide) (backOf (W := 0) (rmSs l Z a0 hw [] p0 u2 (19 : Int32) (6 : Int32)  h1050 n0 z1050) hZ (tw hw 113 rfl) (tw hw 6 rfl) (by decide) (by decide)) (g := (mkF m 268 #[.val (.long p0), .second, .val (.long p1), .second, .val (.int p2), .val (.long ks), .second, .val (.long u1), .second, .val (.long u2), .second, .val (.long u3), .second, .val (.ref b680), .val (.ref b751), .val (.ref b856), .val (.ref b936), .val (.int md), .unset, .unset, .unset] [(.int (6 : Int32)), (.int (19 : Int32)), (.long u2), (.long p0)])) rfl (by rw [hml]; rfl) (argsL := [(.long p0), (.long u2), (.int (19 : Int32)), (.int (6 : Int32))]) (rest := []) (lenOf pd__28JJII_29Z rfl) rfl (by show 2 * 0 + _ ≤ _; exact Nat.le_of_eq rfl) (hb hby at_268) (fun _ _ => ⟨rfl, e1054, (by decide : 44 + 0 ≤ _), (by decide : 346 + 0 ≤ _)⟩)
      dsimp only [Pt.U, Pt.locs, Pt.cells, Pt.slots] at X1059 l1059 y1059 z1059 st1059 hQ1059
      rw [l1059, y1059, z1059] at X1059
      clear l1059 y1059 z1059
      obtain ⟨hr1059, N1059q, eh1059⟩ := hQ1059
      rw [hr1059] at st1059
      clear hr1059
      rw [N1059q, List.append_nil] at X1059
      refine Go.via (st1059) ?_
      clear st1059
      have e1059 : T1059.heap = h1050 := eh1059
      clear X1054 e1054
      show Go p e below (T1059.setTop (mkF m 271 #[.val (.long p0), .second, .val (.long p1), .second, .val (.int p2), .val (.long ks), .second, .val (.long u1), .second, .val (.long u2), .second, .val (.long u3), .second, .val (.ref b680), .val (.ref b751), .val (.ref b856), .val (.ref b936), .val (.int md), .unset, .unset, .unset] [(.int (smF p0 u2 (19 : Int32) (6 : Int32)))])) _
      by_cases hc1060 : (smF p0 u2 (19 : Int32) (6 : Int32)) = (0 : Int32)
      · refine Go.via (fun _ => XS.ifYes X1059.here hx rfl (pc0 := 271) (pc' := 291) rfl (hb hby at_271) rfl ((if0 _ _).trans (teq (hc1060 : (smF p0 u2 (19 : Int32) (6 : Int32)) = (0 : Int32))).1) (by decide) (by decide)) ?_
        show Go p e below (T1059.setTop (mkF m 291 #[.val (.long p0), .second, .val (.long p1), .second, .val (.int p2), .val (.long ks), .second, .val (.long u1), .second, .val (.long u2), .second, .val (.long u3), .second, .val (.ref b680), .val (.ref b751), .val (.ref b856), .val (.ref b936), .val (.int md), .unset, .unset, .unset] [])) _
        refine Go.via (fun _ => XS.iconst X1059.here hx rfl (hb hby at_291)) ?_
        refine Go.via (fun _ => XS.istore X1059.here hx rfl (hb hby at_292) rfl (l' := #[.val (.long p0), .second, .val (.long p1), .second, .val (.int p2), .val (.long ks), .second, .val (.long u1), .second, .val (.long u2), .second, .val (.long u3), .second, .val (.ref b680), .val (.ref b751), .val (.ref b856), .val (.ref b936), .val (.int md), .val (.int (0 : Int32)), .unset, .unset]) rfl) ?_
        exact rm_rm0_l294_6 l Z a0 hw p0 p1 p2 cs fv h0 n0 zCS zF hcs hfv hh7 hcw hx hby hlk hml hret T1059 _ h1050 vm1050 _ ks u1 u2 u3 md b680 b692 b712 b751 b768 b804 b856 b876 b936 b973 v693 v713 v769 v805 v877 v974 X1059 e1059 N1050 z1050 k1050 hZ hown hS1050 hk1050 I1050 lf0_1050 lf1_1050 lf2_1050 lf3_1050 lf4_1050 lf5_1050 lf6_1050 lf7_1050 lf8_1050 lf9_1050 lf10_1050 lf11_1050 lf12_1050 lf13_1050 lf14_1050 lf15_1050 lf16_1050 lf17_1050 lf18_1050 lf19_1050 lf20_1050 lf21_1050 lf22_1050 lf23_1050 lf24_1050 lf25_1050 lf26_1050 lf27_1050 lf28_1050 lf29_1050 lf30_1050 lf31_1050 lf32_1050 lf33_1050 lf34_1050 lf35_1050 lf36_1050 lf37_1050 lf38_1050 lf48_1050 lf54_1050 lf66_1050 lf113_1050 lf127_1050 hc1053 hc1055 hc1060
      · refine Go.via (fun _ => XS.ifNo X1059.here hx rfl (hb hby at_271) rfl ((if0 _ _).trans (feq (hc1060 : ¬ ((smF p0 u2 (19 : Int32) (6 : Int32)) = (0 : Int32)))).1)) ?_
        show Go p e below (T1059.setTop (mkF m 274 #[.val (.long p0), .second, .val (.long p1), .second, .val (.int p2), .val (.long ks), .second, .val (.long u1), .second, .val (.long u2), .second, .val (.long u3), .second, .val (.ref b680), .val (.ref b751), .val (.ref b856), .val (.ref b936), .val (.int md), .unset, .unset, .unset] [])) _
        refine Go.via (fun _ => XS.lloadN X1059.here hx rfl (hb hby at_274) rfl) ?_
        refine Go.via (fun _ => XS.lload X1059.here hx rfl (hb hby at_275) rfl) ?_
        refine Go.via (fun _ => XS.bipush X1059.here hx rfl (hb hby at_277)) ?_
        refine Go.via (fun _ => XS.bipush X1059.here hx rfl (hb hby at_279)) ?_
        show Go p e below (T1059.setTop (mkF m 281 #[.val (.long p0), .second, .val (.long p1), .second, .val (.int p2), .val (.long ks), .second, .val (.long u1), .second, .val (.long u2), .second, .val (.long u3), .second, .val (.ref b680), .val (.ref b751), .val (.ref b856), .val (.ref b936), .val (.int md), .unset, .unset, .unset] [(.int (8 : Int32)), (.int (33 : Int32)), (.long u3), (.long p0)])) _
        obtain ⟨r1064, _, ⟨T1064, L1064, k1064, n1064⟩, -, X1064, ⟨Lc1064, hQ1064, l1064, y1064, z1064⟩, st1064⟩ := Jvm.LawKit.callS X1059 hx (y := (⟨cLAW, "same", "(JJII)Z"⟩ : MethodName)) hown (mvT hZ (tw hw 111 rfl)) (mvT hZ (tw hw 112 rfl)) (mvT hZ (tw hw 6 rfl)) (mvT hZ (tw hw 113 rfl)) (by decide) (backOf (W := 0) (rmSs l Z a0 hw [] p0 u3 (33 : Int32) (8 : Int32)  h1050 n0 z1050) hZ (tw hw 113 rfl) (tw hw 6 rfl) (by decide) (by decide)) (g := (mkF m 281 #[.val (.long p0), .second, .val (.long p1), .second, .val (.int p2), .val (.long ks), .second, .val (.long u1), .second, .val (.long u2), .second, .val (.long u3), .second, .val (.ref b680), .val (.ref b751), .val (.ref b856), .val (.ref b936), .val (.int md), .unset, .unset, .unset] [(.int (8 : Int32)), (.int (33 : Int32)), (.long u3), (.long p0)])) rfl (by rw [hml]; rfl) (argsL := [(.long p0), (.long u3), (.int (33 : Int32)), (.int (8 : Int32))]) (rest := []) (lenOf pd__28JJII_29Z rfl) rfl (by show 2 * 0 + _ ≤ _; exact Nat.le_of_eq rfl) (hb hby at_281) (fun _ _ => ⟨rfl, e1059, (by decide : 44 + 0 ≤ _), (by decide : 346 + 0 ≤ _)⟩)
        dsimp only [Pt.U, Pt.locs, Pt.cells, Pt.slots] at X1064 l1064 y1064 z1064 st1064 hQ1064
        rw [l1064, y1064, z1064] at X1064
        clear l1064 y1064 z1064
        obtain ⟨hr1064, N1064q, eh1064⟩ := hQ1064
        rw [hr1064] at st1064
        clear hr1064
        rw [N1064q, List.append_nil] at X1064
        refine Go.via (st1064) ?_
        clear st1064
        have e1064 : T1064.heap = h1050 := eh1064
        clear X1059 e1059
        show Go p e below (T1064.setTop (mkF m 284 #[.val (.long p0), .second, .val (.long p1), .second, .val (.int p2), .val (.long ks), .second, .val (.long u1), .second, .val (.long u2), .second, .val (.long u3), .second, .val (.ref b680), .val (.ref b751), .val (.ref b856), .val (.ref b936), .val (.int md), .unset, .unset, .unset] [(.int (smF p0 u3 (33 : Int32) (8 : Int32)))])) _
        by_cases hc1065 : (smF p0 u3 (33 : Int32) (8 : Int32)) = (0 : Int32)
        · refine Go.via (fun _ => XS.ifYes X1064.here hx rfl (pc0 := 284) (pc' := 291) rfl (hb hby at_284) rfl ((if0 _ _).trans (teq (hc1065 : (smF p0 u3 (33 : Int32) (8 : Int32)) = (0 : Int32))).1) (by decide) (by decide)) ?_
          show Go p e below (T1064.setTop (mkF m 291 #[.val (.long p0), .second, .val (.long p1), .second, .val (.int p2), .val (.long ks), .second, .val (.long u1), .second, .val (.long u2), .second, .val (.long u3), .second, .val (.ref b680), .val (.ref b751), .val (.ref b856), .val (.ref b936), .val (.int md), .unset, .unset, .unset] [])) _
          refine Go.via (fun _ => XS.iconst X1064.here hx rfl (hb hby at_291)) ?_
          refine Go.via (fun _ => XS.istore X1064.here hx rfl (hb hby at_292) rfl (l' := #[.val (.long p0), .second, .val (.long p1), .second, .val (.int p2), .val (.long ks), .second, .val (.long u1), .second, .val (.long u2), .second, .val (.long u3), .second, .val (.ref b680), .val (.ref b751), .val (.ref b856), .val (.ref b936), .val (.int md), .val (.int (0 : Int32)), .unset, .unset]) rfl) ?_
          exact rm_rm0_l294_7 l Z a0 hw p0 p1 p2 cs fv h0 n0 zCS zF hcs hfv hh7 hcw hx hby hlk hml hret T1064 _ h1050 vm1050 _ ks u1 u2 u3 md b680 b692 b712 b751 b768 b804 b856 b876 b936 b973 v693 v713 v769 v805 v877 v974 X1064 e1064 N1050 z1050 k1050 hZ hown hS1050 hk1050 I1050 lf0_1050 lf1_1050 lf2_1050 lf3_1050 lf4_1050 lf5_1050 lf6_1050 lf7_1050 lf8_1050 lf9_1050 lf10_1050 lf11_1050 lf12_1050 lf13_1050 lf14_1050 lf15_1050 lf16_1050 lf17_1050 lf18_1050 lf19_1050 lf20_1050 lf21_1050 lf22_1050 lf23_1050 lf24_1050 lf25_1050 lf26_1050 lf27_1050 lf28_1050 lf29_1050 lf30_1050 lf31_1050 lf32_1050 lf33_1050 lf34_1050 lf35_1050 lf36_1050 lf37_1050 lf38_1050 lf48_1050 lf54_1050 lf66_1050 lf113_1050 lf127_1050 hc1053 hc1055 hc1060 hc1065
        · refine Go.via (fun _ => XS.ifNo X1064.here hx rfl (hb hby at_284) rfl ((if0 _ _).trans (feq (hc1065 : ¬ ((smF p0 u3 (33 : Int32) (8 : Int32)) = (0 : Int32)))).1)) ?_
          show Go p e below (T1064.setTop (mkF m 287 #[.val (.long p0), .second, .val (.long p1), .second, .val (.int p2), .val (.long ks), .second, .val (.long u1), .second, .val (.long u2), .second, .val (.long u3), .second, .val (.ref b680), .val (.ref b751), .val (.ref b856), .val (.ref b936), .val (.int md), .unset, .unset, .unset] [])) _
          refine Go.via (fun _ => XS.iconst X1064.here hx rfl (hb hby at_287)) ?_
          refine Go.via (fun _ => XS.goto X1064.here hx rfl (pc0 := 288) (pc' := 292) rfl (hb hby at_288) (by decide) (by decide)) ?_
          refine Go.via (fun _ => XS.istore X1064.here hx rfl (hb hby at_292) rfl (l' := #[.val (.long p0), .second, .val (.long p1), .second, .val (.int p2), .val (.long ks), .second, .val (.long u1), .second, .val (.long u2), .second, .val (.long u3), .second, .val (.ref b680), .val (.ref b751), .val (.ref b856), .val (.ref b936), .val (.int md), .val (.int (1 : Int32)), .unset, .unset]) rfl) ?_
          exact rm_rm0_l294_8 l Z a0 hw p0 p1 p2 cs fv h0 n0 zCS zF hcs hfv hh7 hcw hx hby hlk hml hret T1064 _ h1050 vm1050 _ ks u1 u2 u3 md b680 b692 b712 b751 b768 b804 b856 b876 b936 b973 v693 v713 v769 v805 v877 v974 X1064 e1064 N1050 z1050 k1050 hZ hown hS1050 hk1050 I1050 lf0_1050 lf1_1050 lf2_1050 lf3_1050 lf4_1050 lf5_1050 lf6_1050 lf7_1050 lf8_1050 lf9_1050 lf10_1050 lf11_1050 lf12_1050 lf13_1050 lf14_1050 lf15_1050 lf16_1050 lf17_1050 lf18_1050 lf19_1050 lf20_1050 lf21_1050 lf22_1050 lf23_1050 lf24_1050 lf25_1050 lf26_1050 lf27_1050 lf28_1050 lf29_1050 lf30_1050 lf31_1050 lf32_1050 lf33_1050 lf34_1050 lf35_1050 lf36_1050 lf37_1050 lf38_1050 lf48_1050 lf54_1050 lf66_1050 lf113_1050 lf127_1050 hc1053 hc1055 hc1060 hc1065
  · refine Go.via (fun _ => XS.icmpYes X1052.here hx rfl (pc0 := 246) (pc' := 291) rfl (hb hby at_246) rfl (feq (hc1053 : ¬ ((kF p0) = (kF ks)))).2 (by decide) (by decide)) ?_
    show Go p e below (T1052.setTop (mkF m 291 #[.val (.long p0), .second, .val (.long p1), .second, .val (.int p2), .val (.long ks), .second, .val (.long u1), .second, .val (.long u2), .second, .val (.long u3), .second, .val (.ref b680), .val (.ref b751), .val (.ref b856), .val (.ref b936), .val (.int md), .unset, .unset, .unset] [])) _
    refine Go.via (fun _ => XS.iconst X1052.here hx rfl (hb hby at_291)) ?_
    refine Go.via (fun _ => XS.istore X1052.here hx rfl (hb hby at_292) rfl (l' := #[.val (.long p0), .second, .val (.long p1), .second, .val (.int p2), .val (.long ks), .second, .val (.long u1), .second, .val (.long u2), .second, .val (.long u3), .second, .val (.ref b680), .val (.ref b751), .val (.ref b856), .val (.ref b936), .val (.int md), .val (.int (0 : Int32)), .unset, .unset]) rfl) ?_
    exact rm_rm0_l294_9 l Z a0 hw p0 p1 p2 cs fv h0 n0 zCS zF hcs hfv hh7 hcw hx hby hlk hml hret T1052 _ h1050 vm1050 _ ks u1 u2 u3 md b680 b692 b712 b751 b768 b804 b856 b876 b936 b973 v693 v713 v769 v805 v877 v974 X1052 e1052 N1050 z1050 k1050 hZ hown hS1050 hk1050 I1050 lf0_1050 lf1_1050 lf2_1050 lf3_1050 lf4_1050 lf5_1050 lf6_1050 lf7_1050 lf8_1050 lf9_1050 lf10_1050 lf11_1050 lf12_1050 lf13_1050 lf14_1050 lf15_1050 lf16_1050 lf17_1050 lf18_1050 lf19_1050 lf20_1050 lf21_1050 lf22_1050 lf23_1050 lf24_1050 lf25_1050 lf26_1050 lf27_1050 lf28_1050 lf29_1050 lf30_1050 lf31_1050 lf32_1050 lf33_1050 lf34_1050 lf35_1050 lf36_1050 lf37_1050 lf38_1050 lf48_1050 lf54_1050 lf66_1050 lf113_1050 lf127_1050 hc1053
set_option maxRecDepth 65536 in
set_option maxHeartbeats 40000000 in
theorem rm_rm0_l169_3 (l : Launch) (Z : State) (a0 : Array Value) (hw : ∀ d ∈ tables_1, d.before a0 Z = true) (p0 : Int64) (p1 : Int64) (p2 : Int32) (cs : Int32) (fv : Value) (h0 : Heap) (n0 : Nat) (zCS : Sta Z Z.heap cST "COMPACT_STRINGS" "Z" (.int cs)) (zF : Sta Z Z.heap cPR "SIOOBE_FORMATTER" "Ljava/util/function/BiFunction;" fv) (hcs : ¬ (cs = (0 : Int32))) (hfv : fv = .null ∨ ∃ fa : Addr, fv = .ref fa) (hh7 : Jvm.Lit.constHeld Z cST 7) (hcw : Jvm.Lit.compactW.before a0 Z = true) {p : Program} {e : Env} {s : State} {m : MethodId} {below : List Frame} {meth : Method} {c : Code} (hx : p.tables.exec = Jvm.exec) (hby : c.code = code) (hlk : meth.locks = false) (hml : c.maxLocals = 21) (hret : meth.sig.returnType = ret) :
    ∀ (T1043 : State) (L1043 : List Loc) (h1043 : Heap) (vm1043 : Vm) (K1043 : Nat) (ks : Int64) (u1 : Int64) (u2 : Int64) (u3 : Int64) (b680 : Addr) (b692 : Addr) (b712 : Addr) (b751 : Addr) (b768 : Addr) (b804 : Addr) (b856 : Addr) (b876 : Addr) (b936 : Addr) (b973 : Addr) (v693 : Addr) (v713 : Addr) (v769 : Addr) (v805 : Addr) (v877 : Addr) (v974 : Addr), Stand p l e room_1 (s.setVm vm1043) m #[(.long p0), (.long p1), (.int p2)] below meth c T1043 L1043 44 346 → T1043.heap = h1043 → Fr n0 L1043 → n0 ≤ h1043.size → Keep h0 h1043 [] → Z.Warmed39 (s.setVm vm1043).vm → (s.setVm vm1043).vm.findClass cLAW = some m.cls → s.Since vm1043 K1043 → K1043 ≤ h1043.size → Em Z vm1043 h1043 ["signature 1", "signature 2", "digest", "name"] → Old Z n0 h1043 → Exa Z h1043 b680 cCD → Fld Z h1043 b680 cCD "blockSize" "J" (.long ((3 : Int64) <<< ((kF p0) &&& 0x3f).toInt64)) → Fld Z h1043 b680 cCD "signature1" "Ljava/lang/String;" (.ref b692) → Fld Z h1043 b680 cCD "signature2" "Ljava/lang/String;" (.ref b712) → Exa Z h1043 b692 cST → Fld Z h1043 b692 cST "coder" "B" (.int (0 : Int32)) → Fld Z h1043 b692 cST "value" "[B" (.ref v693) → Ia Z h1043 v693 .byte (sgA p0) → Exa Z h1043 b712 cST → Fld Z h1043 b712 cST "coder" "B" (.int (0 : Int32)) → Fld Z h1043 b712 cST "value" "[B" (.ref v713) → Ia Z h1043 v713 .byte (sgB p0) → Exa Z h1043 b751 cCD → Fld Z h1043 b751 cCD "blockSize" "J" (.long ((3 : Int64) <<< ((kF ks) &&& 0x3f).toInt64)) → Fld Z h1043 b751 cCD "signature1" "Ljava/lang/String;" (.ref b768) → Fld Z h1043 b751 cCD "signature2" "Ljava/lang/String;" (.ref b804) → Exa Z h1043 b768 cST → Fld Z h1043 b768 cST "coder" "B" (.int (0 : Int32)) → Fld Z h1043 b768 cST "value" "[B" (.ref v769) → Ia Z h1043 v769 .byte (sgA u1) → Exa Z h1043 b804 cST → Fld Z h1043 b804 cST "coder" "B" (.int (0 : Int32)) → Fld Z h1043 b804 cST "value" "[B" (.ref v805) → Ia Z h1043 v805 .byte (sgB u2) → Exa Z h1043 b856 cEN → Fld Z h1043 b856 cEN "digest" "Lcom/example/relate_by_hash/relatebyhash/ctph/CtphDigest;" (.ref b680) → Fld Z h1043 b856 cEN "name" "Ljava/lang/String;" (.ref b876) → Exa Z h1043 b876 cST → Fld Z h1043 b876 cST "coder" "B" (.int (0 : Int32)) → Fld Z h1043 b876 cST "value" "[B" (.ref v877) → Ia Z h1043 v877 .byte (nmF p0) → Exa Z h1043 b936 cEN → Fld Z h1043 b936 cEN "digest" "Lcom/example/relate_by_hash/relatebyhash/ctph/CtphDigest;" (.ref b751) → Fld Z h1043 b936 cEN "name" "Ljava/lang/String;" (.ref b973) → Exa Z h1043 b973 cST → Fld Z h1043 b973 cST "coder" "B" (.int (0 : Int32)) → Fld Z h1043 b973 cST "value" "[B" (.ref v974) → Ia Z h1043 v974 .byte (nmF u3) → b680 ≠ b751 → b692 ≠ b768 → b712 ≠ b804 → b680 ≠ b856 → b856 ≠ b936 → b876 ≠ b973 → Go p e below (T1043.setTop (mkF m 169 #[.val (.long p0), .second, .val (.long p1), .second, .val (.int p2), .val (.long ks), .second, .val (.long u1), .second, .val (.long u2), .second, .val (.long u3), .second, .val (.ref b680), .val (.ref b751), .val (.ref b856), .val (.ref b936), .unset, .unset, .unset, .unset] [])) (DoneW s (Q_rm0 Z p0 p1 p2 cs fv h0 n0) room_1.cells room_1.slots) := by
  intro T1043 L1043 h1043 vm1043 K1043 ks u1 u2 u3 b680 b692 b712 b751 b768 b804 b856 b876 b936 b973 v693 v713 v769 v805 v877 v974 X1043 e1043 N1043 z1043 k1043 hZ hown hS1043 hk1043 I1043 lf0_1043 lf1_1043 lf2_1043 lf3_1043 lf4_1043 lf5_1043 lf6_1043 lf7_1043 lf8_1043 lf9_1043 lf10_1043 lf11_1043 lf12_1043 lf13_1043 lf14_1043 lf15_1043 lf16_1043 lf17_1043 lf18_1043 lf19_1043 lf20_1043 lf21_1043 lf22_1043 lf23_1043 lf24_1043 lf25_1043 lf26_1043 lf27_1043 lf28_1043 lf29_1043 lf30_1043 lf31_1043 lf32_1043 lf33_1043 lf34_1043 lf35_1043 lf36_1043 lf37_1043 lf38_1043 lf48_1043 lf54_1043 lf66_1043 lf78_1043 lf113_1043 lf127_1043 
  show Go p e below (T1043.setTop (mkF m 169 #[.val (.long p0), .second, .val (.long p1), .second, .val (.int p2), .val (.long ks), .second, .val (.long u1), .second, .val (.long u2), .second, .val (.long u3), .second, .val (.ref b680), .val (.ref b751), .val (.ref b856), .val (.ref b936), .unset, .unset, .unset, .unset] [])) _
  refine Go.via (fun _ => XS.iload X1043.here hx rfl (hb hby at_169) rfl) ?_
  refine Go.via (fun _ => XS.iconst X1043.here hx rfl (hb hby at_171)) ?_
  refine Go.via (fun _ => XS.iushr X1043.here hx rfl (hb hby at_172) rfl) ?_
  show Go p e below (T1043.setTop (mkF m 173 #[.val (.long p0), .second, .val (.long p1), .second, .val (.int p2), .val (.long ks), .second, .val (.long u1), .second, .val (.long u2), .second, .val (.long u3), .second, .val (.ref b680), .val (.ref b751), .val (.ref b856), .val (.ref b936), .unset, .unset, .unset, .unset] [(.int ((p2.toUInt32 >>> ((4 : Int32) &&& 31).toUInt32).toInt32))])) _
  refine Go.via (fun _ => XS.bipush X1043.here hx rfl (hb hby at_173)) ?_
  refine Go.via (fun _ => XS.iand X1043.here hx rfl (hb hby at_175) rfl) ?_
  show Go p e below (T1043.setTop (mkF m 176 #[.val (.long p0), .second, .val (.long p1), .second, .val (.int p2), .val (.long ks), .second, .val (.long u1), .second, .val (.long u2), .second, .val (.long u3), .second, .val (.ref b680), .val (.ref b751), .val (.ref b856), .val (.ref b936), .unset, .unset, .unset, .unset] [(.int (((p2.toUInt32 >>> ((4 : Int32) &&& 31).toUInt32).toInt32) &&& (7 : Int32)))])) _
  generalize hv_md : (((p2.toUInt32 >>> ((4 : Int32) &&& 31).toUInt32).toInt32) &&& (7 : Int32)) = md
  show Go p e below (T1043.setTop (mkF m 176 #[.val (.long p0), .second, .val (.long p1), .second, .val (.int p2), .val (.long ks), .second, .val (.long u1), .second, .val (.long u2), .second, .val (.long u3), .second, .val (.ref b680), .val (.ref b751), .val (.ref b856), .val (.ref b936), .unset, .unset, .unset, .unset] [(.int md)])) _
  refine Go.via (fun _ => XS.istore X1043.here hx rfl (hb hby at_176) rfl (l' := #[.val (.long p0), .second, .val (.long p1), .second, .val (.int p2), .val (.long ks), .second, .val (.long u1), .second, .val (.long u2), .second, .val (.long u3), .second, .val (.ref b680), .val (.ref b751), .val (.ref b856), .val (.ref b936), .val (.int md), .unset, .unset, .unset]) rfl) ?_
  show Go p e below (T1043.setTop (mkF m 178 #[.val (.long p0), .second, .val (.long p1), .second, .val (.int p2), .val (.long ks), .second, .val (.long u1), .second, .val (.long u2), .second, .val (.long u3), .second, .val (.ref b680), .val (.ref b751), .val (.ref b856), .val (.ref b936), .val (.int md), .unset, .unset, .unset] [])) _
  refine Go.via (fun _ => XS.iload X1043.here hx rfl (hb hby at_178) rfl) ?_
  refine Go.via (fun _ => XS.iconst X1043.here hx rfl (hb hby at_180)) ?_
  by_cases hc1044 : md = (5 : Int32)
  · refine Go.via (fun _ => XS.icmpNo X1043.here hx rfl (hb hby at_181) rfl (teq (hc1044 : md = (5 : Int32))).2) ?_
    refine Go.via (fun _ => XS.aload X1043.here hx rfl (hb hby at_184) rfl rfl) ?_
    refine Go.via (fun _ => XS.aload X1043.here hx rfl (hb hby at_186) rfl rfl) ?_
    show Go p e below (T1043.setTop (mkF m 188 #[.val (.long p0), .second, .val (.long p1), .second, .val (.int p2), .val (.long ks), .second, .val (.long u1), .second, .val (.long u2), .second, .val (.long u3), .second, .val (.ref b680), .val (.ref b751), .val (.ref b856), .val (.ref b936), .val (.int md), .unset, .unset, .unset] [(.ref b856), (.ref b856)])) _
    obtain ⟨cq1045, kq1045, q1045a, q1045b, q1045c⟩ := isOf hZ e1043 lf25_1043
    obtain ⟨r1045, _, ⟨T1045, L1045, k1045, n1045⟩, -, X1045, ⟨Lc1045, hQ1045, l1045, y1045, z1045⟩, st1045⟩ := X1043.virtualBack hx (y := (⟨cEN, "equals", "(Ljava/lang/Object;)Z"⟩ : MethodName)) (z := (⟨cEN, "equals", "(Ljava/lang/Object;)Z"⟩ : MethodName)) hown (mvT hZ (tw hw 98 rfl)) (mvT hZ (tw hw 99 rfl)) (notFace_of_selects (args := #[]) (mvT hZ (tw hw 101 rfl))) (mvT hZ (tw hw 101 rfl)) (mvT hZ (tw hw 100 rfl)) (by decide) (backOf (W := 0) (rmEs l Z a0 hw [] b856 b856  h1043 n0 z1043) hZ (tw hw 102 rfl) (tw hw 80 rfl) (by decide) (by decide)) q1045a q1045c (g := (mkF m 188 #[.val (.long p0), .second, .val (.long p1), .second, .val (.int p2), .val (.long ks), .second, .val (.long u1), .second, .val (.long u2), .second, .val (.long u3), .second, .val (.ref b680), .val (.ref b751), .val (.ref b856), .val (.ref b936), .val (.int md), .unset, .unset, .unset] [(.ref b856), (.ref b856)])) rfl (by rw [hml]; rfl) (Steps.refl _) (argsL := [(.ref b856)]) (rest := []) (lenOf pd__28Ljava_2flang_2fObject_3b_29Z rfl) rfl (by show 2 * 0 + _ ≤ _; exact Nat.le_of_eq rfl) (hb hby at_188) (fun _ _ => ⟨rfl, e1043, (by decide : 44 + 0 ≤ _), (by decide : 346 + 0 ≤ _)⟩)
    dsimp only [Pt.U, Pt.locs, Pt.cells, Pt.slots] at X1045 l1045 y1045 z1045 st1045 hQ1045
    rw [l1045, y1045, z1045] at X1045
    clear l1045 y1045 z1045
    obtain ⟨hr1045, N1045q, eh1045⟩ := hQ1045
    rw [hr1045] at st1045
    clear hr1045
    rw [N1045q, List.append_nil] at X1045
    refine Go.via (fun _ kQ => st1045.trans kQ) ?_
    clear st1045
    have e1045 : T1045.heap = h1043 := eh1045
    clear X1043 e1043
    show Go p e below (T1045.setTop (mkF m 191 #[.val (.long p0), .second, .val (.long p1), .second, .val (.int p2), .val (.long ks), .second, .val (.long u1), .second, .val (.long u2), .second, .val (.long u3), .second, .val (.ref b680), .val (.ref b751), .val (.ref b856), .val (.ref b936), .val (.int md), .unset, .unset, .unset] [(.int (1 : Int32))])) _
    exact Go.finW X1045 hS1043 (Nat.le_trans hk1043 (Nat.le_of_eq (congrArg Array.size (Eq.symm e1045)))) hlk (v := some (.int (1 : Int32))) (fun h => by rw [hret] at h; cases h) (fun fs hr => retN X1045 hx (t := .boolean) hret (by simp) (hb hby at_191) hr) (by rw [e1045]; exact ⟨rfl, N1043, k1043, Em.still I1043 X1045.warmed.interned_eq (w39 X1045.warmed.wide)⟩) (by decide) (by decide)
  · refine Go.via (fun _ => XS.icmpYes X1043.here hx rfl (pc0 := 181) (pc' := 192) rfl (hb hby at_181) rfl (feq (hc1044 : ¬ (md = (5 : Int32)))).2 (by decide) (by decide)) ?_
    refine Go.via (fun _ => XS.iload X1043.here hx rfl (hb hby at_192) rfl) ?_
    refine Go.via (fun _ => XS.bipush X1043.here hx rfl (hb hby at_194)) ?_
    show Go p e below (T1043.setTop (mkF m 196 #[.val (.long p0), .second, .val (.long p1), .second, .val (.int p2), .val (.long ks), .second, .val (.long u1), .second, .val (.long u2), .second, .val (.long u3), .second, .val (.ref b680), .val (.ref b751), .val (.ref b856), .val (.ref b936), .val (.int md), .unset, .unset, .unset] [(.int (6 : Int32)), (.int md)])) _
    by_cases hc1046 : md = (6 : Int32)
    · refine Go.via (fun _ => XS.icmpNo X1043.here hx rfl (hb hby at_196) rfl (teq (hc1046 : md = (6 : Int32))).2) ?_
      show Go p e below (T1043.setTop (mkF m 199 #[.val (.long p0), .second, .val (.long p1), .second, .val (.int p2), .val (.long ks), .second, .val (.long u1), .second, .val (.long u2), .second, .val (.long u3), .second, .val (.ref b680), .val (.ref b751), .val (.ref b856), .val (.ref b936), .val (.int md), .unset, .unset, .unset] [])) _
      refine Go.via (fun _ => XS.aload X1043.here hx rfl (hb hby at_199) rfl rfl) ?_
      refine Go.via (fun _ => XS.aconstNull X1043.here hx rfl (hb hby at_201)) ?_
      show Go p e below (T1043.setTop (mkF m 202 #[.val (.long p0), .second, .val (.long p1), .second, .val (.int p2), .val (.long ks), .second, .val (.long u1), .second, .val (.long u2), .second, .val (.long u3), .second, .val (.ref b680), .val (.ref b751), .val (.ref b856), .val (.ref b936), .val (.int md), .unset, .unset, .unset] [.null, (.ref b856)])) _
      obtain ⟨cq1047, kq1047, q1047a, q1047b, q1047c⟩ := isOf hZ e1043 lf25_1043
      obtain ⟨r1047, _, ⟨T1047, L1047, k1047, n1047⟩, -, X1047, ⟨Lc1047, hQ1047, l1047, y1047, z1047⟩, st1047⟩ := X1043.virtualBack hx (y := (⟨cEN, "equals", "(Ljava/lang/Object;)Z"⟩ : MethodName)) (z := (⟨cEN, "equals", "(Ljava/lang/Object;)Z"⟩ : MethodName)) hown (mvT hZ (tw hw 98 rfl)) (mvT hZ (tw hw 99 rfl)) (notFace_of_selects (args := #[]) (mvT hZ (tw hw 101 rfl))) (mvT hZ (tw hw 101 rfl)) (mvT hZ (tw hw 100 rfl)) (by decide) (backOf (W := 0) (rmEz l Z a0 hw [] b856  h1043 n0 z1043) hZ (tw hw 102 rfl) (tw hw 80 rfl) (by decide) (by decide)) q1047a q1047c (g := (mkF m 202 #[.val (.long p0), .second, .val (.long p1), .second, .val (.int p2), .val (.long ks), .second, .val (.long u1), .second, .val (.long u2), .second, .val (.long u3), .second, .val (.ref b680), .val (.ref b751), .val (.ref b856), .val (.ref b936), .val (.int md), .unset, .unset, .unset] [.null, (.ref b856)])) rfl (by rw [hml]; rfl) (Steps.refl _) (argsL := [.null]) (rest := []) (lenOf pd__28Ljava_2flang_2fObject_3b_29Z rfl) rfl (by show 2 * 0 + _ ≤ _; exact Nat.le_of_eq rfl) (hb hby at_202) (fun _ _ => ⟨rfl, e1043, (by decide : 44 + 0 ≤ _), (by decide : 346 + 0 ≤ _)⟩)
      dsimp only [Pt.U, Pt.locs, Pt.cells, Pt.slots] at X1047 l1047 y1047 z1047 st1047 hQ1047
      rw [l1047, y1047, z1047] at X1047
      clear l1047 y1047 z1047
      obtain ⟨hr1047, N1047q, eh1047⟩ := hQ1047
      rw [hr1047] at st1047
      clear hr1047
      rw [N1047q, List.append_nil] at X1047
      refine Go.via (fun _ kQ => st1047.trans kQ) ?_
      clear st1047
      have e1047 : T1047.heap = h1043 := eh1047
      clear X1043 e1043
      show Go p e below (T1047.setTop (mkF m 205 #[.val (.long p0), .second, .val (.long p1), .second, .val (.int p2), .val (.long ks), .second, .val (.long u1), .second, .val (.long u2), .second, .val (.long u3), .second, .val (.ref b680), .val (.ref b751), .val (.ref b856), .val (.ref b936), .val (.int md), .unset, .unset, .unset] [(.int (0 : Int32))])) _
      refine Go.via (fun _ => XS.ifNo X1047.here hx rfl (hb hby at_205) rfl ((if0 _ _).trans (teq ((by decide) : (0 : Int32) = (0 : Int32))).2)) ?_
      show Go p e below (T1047.setTop (mkF m 208 #[.val (.long p0), .second, .val (.long p1), .second, .val (.int p2), .val (.long ks), .second, .val (.long u1), .second, .val (.long u2), .second, .val (.long u3), .second, .val (.ref b680), .val (.ref b751), .val (.ref b856), .val (.ref b936), .val (.int md), .unset, .unset, .unset] [])) _
      refine Go.via (fun _ => XS.iconst X1047.here hx rfl (hb hby at_208)) ?_
      refine Go.via (fun _ => XS.goto X1047.here hx rfl (pc0 := 209) (pc' := 213) rfl (hb hby at_209) (by decide) (by decide)) ?_
      exact Go.finW X1047 hS1043 (Nat.le_trans hk1043 (Nat.le_of_eq (congrArg Array.size (Eq.symm e1047)))) hlk (v := some (.int (1 : Int32))) (fun h => by rw [hret] at h; cases h) (fun fs hr => retN X1047 hx (t := .boolean) hret (by simp) (hb hby at_213) hr) (by rw [e1047]; exact ⟨rfl, N1043, k1043, Em.still I1043 X1047.warmed.interned_eq (w39 X1047.warmed.wide)⟩) (by decide) (by decide)
    · refine Go.via (fun _ => XS.icmpYes X1043.here hx rfl (pc0 := 196) (pc' := 214) rfl (hb hby at_196) rfl (feq (hc1046 : ¬ (md = (6 : Int32)))).2 (by decide) (by decide)) ?_
      show Go p e below (T1043.setTop (mkF m 214 #[.val (.long p0), .second, .val (.long p1), .second, .val (.int p2), .val (.long ks), .second, .val (.long u1), .second, .val (.long u2), .second, .val (.long u3), .second, .val (.ref b680), .val (.ref b751), .val (.ref b856), .val (.ref b936), .val (.int md), .unset, .unset, .unset] [])) _
      refine Go.via (fun _ => XS.iload X1043.here hx rfl (hb hby at_214) rfl) ?_
      refine Go.via (fun _ => XS.bipush X1043.here hx rfl (hb hby at_216)) ?_
      by_cases hc1048 : md = (7 : Int32)
      · refine Go.via (fun _ => XS.icmpNo X1043.here hx rfl (hb hby at_218) rfl (teq (hc1048 : md = (7 : Int32))).2) ?_
        refine Go.via (fun _ => XS.aload X1043.here hx rfl (hb hby at_221) rfl rfl) ?_
        refine Go.via (fun _ => XS.aload X1043.here hx rfl (hb hby at_223) rfl rfl) ?_
        show Go p e below (T1043.setTop (mkF m 225 #[.val (.long p0), .second, .val (.long p1), .second, .val (.int p2), .val (.long ks), .second, .val (.long u1), .second, .val (.long u2), .second, .val (.long u3), .second, .val (.ref b680), .val (.ref b751), .val (.ref b856), .val (.ref b936), .val (.int md), .unset, .unset, .unset] [(.ref b680), (.ref b856)])) _
        obtain ⟨cq1049, kq1049, q1049a, q1049b, q1049c⟩ := isOf hZ e1043 lf25_1043
        obtain ⟨r1049, _, ⟨T1049, L1049, k1049, n1049⟩, -, X1049, ⟨Lc1049, hQ1049, l1049, y1049, z1049⟩, st1049⟩ := X1043.virtualBack hx (y := (⟨cEN, "equals", "(Ljava/lang/Object;)Z"⟩ : MethodName)) (z := (⟨cEN, "equals", "(Ljava/lang/Object;)Z"⟩ : MethodName)) hown (mvT hZ (tw hw 98 rfl)) (mvT hZ (tw hw 99 rfl)) (notFace_of_selects (args := #[]) (mvT hZ (tw hw 101 rfl))) (mvT hZ (tw hw 101 rfl)) (mvT hZ (tw hw 100 rfl)) (by decide) (backOf (W := 0) (rmEi l Z a0 hw [] b856 b680  h1043 n0 z1043 lf1_1043 (Ne.symm lf78_1043)) hZ (tw hw 102 rfl) (tw hw 80 rfl) (by decide) (by decide)) q1049a q1049c (g := (mkF m 225 #[.val (.long p0), .second, .val (.long p1), .second, .val (.int p2), .val (.long ks), .second, .val (.long u1), .second, .val (.long u2), .second, .val (.long u3), .second, .val (.ref b680), .val (.ref b751), .val (.ref b856), .val (.ref b936), .val (.int md), .unset, .unset, .unset] [(.ref b680), (.ref b856)])) rfl (by rw [hml]; rfl) (Steps.refl _) (argsL := [(.ref b680)]) (rest := []) (lenOf pd__28Ljava_2flang_2fObject_3b_29Z rfl) rfl (by show 2 * 0 + _ ≤ _; exact Nat.le_of_eq rfl) (hb hby at_225) (fun _ _ => ⟨rfl, e1043, (by decide : 44 + 0 ≤ _), (by decide : 346 + 0 ≤ _)⟩)
        dsimp only [Pt.U, Pt.locs, Pt.cells, Pt.slots] at X1049 l1049 y1049 z1049 st1049 hQ1049
        rw [l1049, y1049, z1049] at X1049
        clear l1049 y1049 z1049
        obtain ⟨hr1049, N1049q, eh1049⟩ := hQ1049
        rw [hr1049] at st1049
        clear hr1049
        rw [N1049q, List.append_nil] at X1049
        refine Go.via (fun _ kQ => st1049.trans kQ) ?_
        clear st1049
        have e1049 : T1049.heap = h1043 := eh1049
        clear X1043 e1043
        show Go p e below (T1049.setTop (mkF m 228 #[.val (.long p0), .second, .val (.long p1), .second, .val (.int p2), .val (.long ks), .second, .val (.long u1), .second, .val (.long u2), .second, .val (.long u3), .second, .val (.ref b680), .val (.ref b751), .val (.ref b856), .val (.ref b936), .val (.int md), .unset, .unset, .unset] [(.int (0 : Int32))])) _
        refine Go.via (fun _ => XS.ifNo X1049.here hx rfl (hb hby at_228) rfl ((if0 _ _).trans (teq ((by decide) : (0 : Int32) = (0 : Int32))).2)) ?_
        show Go p e below (T1049.setTop (mkF m 231 #[.val (.long p0), .second, .val (.long p1), .second, .val (.int p2), .val (.long ks), .second, .val (.long u1), .second, .val (.long u2), .second, .val (.long u3), .second, .val (.ref b680), .val (.ref b751), .val (.ref b856), .val (.ref b936), .val (.int md), .unset, .unset, .unset] [])) _
        refine Go.via (fun _ => XS.iconst X1049.here hx rfl (hb hby at_231)) ?_
        refine Go.via (fun _ => XS.goto X1049.here hx rfl (pc0 := 232) (pc' := 236) rfl (hb hby at_232) (by decide) (by decide)) ?_
        exact Go.finW X1049 hS1043 (Nat.le_trans hk1043 (Nat.le_of_eq (congrArg Array.size (Eq.symm e1049)))) hlk (v := some (.int (1 : Int32))) (fun h => by rw [hret] at h; cases h) (fun fs hr => retN X1049 hx (t := .boolean) hret (by simp) (hb hby at_236) hr) (by rw [e1049]; exact ⟨rfl, N1043, k1043, Em.still I1043 X1049.warmed.interned_eq (w39 X1049.warmed.wide)⟩) (by decide) (by decide)
      · refine Go.via (fun _ => XS.icmpYes X1043.here hx rfl (pc0 := 218) (pc' := 237) rfl (hb hby at_218) rfl (feq (hc1048 : ¬ (md = (7 : Int32)))).2 (by decide) (by decide)) ?_
        exact rm_rm0_l237_4 l Z a0 hw p0 p1 p2 cs fv h0 n0 zCS zF hcs hfv hh7 hcw hx hby hlk hml hret T1043 _ h1043 vm1043 _ ks u1 u2 u3 md b680 b692 b712 b751 b768 b804 b856 b876 b936 b973 v693 v713 v769 v805 v877 v974 X1043 e1043 N1043 z1043 k1043 hZ hown hS1043 hk1043 I1043 lf0_1043 lf1_1043 lf2_1043 lf3_1043 lf4_1043 lf5_1043 lf6_1043 lf7_1043 lf8_1043 lf9_1043 lf10_1043 lf11_1043 lf12_1043 lf13_1043 lf14_1043 lf15_1043 lf16_1043 lf17_1043 lf18_1043 lf19_1043 lf20_1043 lf21_1043 lf22_1043 lf23_1043 lf24_1043 lf25_1043 lf26_1043 lf27_1043 lf28_1043 lf29_1043 lf30_1043 lf31_1043 lf32_1043 lf33_1043 lf34_1043 lf35_1043 lf36_1043 lf37_1043 lf38_1043 lf48_1043 lf54_1043 lf66_1043 lf113_1043 lf127_1043
set_option maxRecDepth 65536 in
set_option maxHeartbeats 40000000 in
theorem rm_rm0_l128_2 (l : Launch) (Z : State) (a0 : Array Value) (hw : ∀ d ∈ tables_1, d.before a0 Z = true) (p0 : Int64) (p1 : Int64) (p2 : Int32) (cs : Int32) (fv : Value) (h0 : Heap) (n0 : Nat) (zCS : Sta Z Z.heap cST "COMPACT_STRINGS" "Z" (.int cs)) (zF : Sta Z Z.heap cPR "SIOOBE_FORMATTER" "Ljava/util/function/BiFunction;" fv) (hcs : ¬ (cs = (0 : Int32))) (hfv : fv = .null ∨ ∃ fa : Addr, fv = .ref fa) (hh7 : Jvm.Lit.constHeld Z cST 7) (hcw : Jvm.Lit.compactW.before a0 Z = true) {p : Program} {e : Env} {s : State} {m : MethodId} {below : List Frame} {meth : Method} {c : Code} (hx : p.tables.exec = Jvm.exec) (hby : c.code = code) (hlk : meth.locks = false) (hml : c.maxLocals = 21) (hret : meth.sig.returnType = ret) :
    ∀ (T855 : State) (L855 : List Loc) (h855 : Heap) (vm855 : Vm) (K855 : Nat) (ks : Int64) (u1 : Int64) (u2 : Int64) (u3 : Int64) (b680 : Addr) (b692 : Addr) (b712 : Addr) (b751 : Addr) (b768 : Addr) (b804 : Addr) (v693 : Addr) (v713 : Addr) (v769 : Addr) (v805 : Addr), Stand p l e room_1 (s.setVm vm855) m #[(.long p0), (.long p1), (.int p2)] below meth c T855 L855 26 230 → T855.heap = h855 → Fr n0 L855 → n0 ≤ h855.size → Keep h0 h855 [] → Z.Warmed39 (s.setVm vm855).vm → (s.setVm vm855).vm.findClass cLAW = some m.cls → s.Since vm855 K855 → K855 ≤ h855.size → Em Z vm855 h855 ["signature 1", "signature 2", "digest", "name"] → Old Z n0 h855 → Exa Z h855 b680 cCD → Fld Z h855 b680 cCD "blockSize" "J" (.long ((3 : Int64) <<< ((kF p0) &&& 0x3f).toInt64)) → Fld Z h855 b680 cCD "signature1" "Ljava/lang/String;" (.ref b692) → Fld Z h855 b680 cCD "signature2" "Ljava/lang/String;" (.ref b712) → Exa Z h855 b692 cST → Fld Z h855 b692 cST "coder" "B" (.int (0 : Int32)) → Fld Z h855 b692 cST "value" "[B" (.ref v693) → Ia Z h855 v693 .byte (sgA p0) → Exa Z h855 b712 cST → Fld Z h855 b712 cST "coder" "B" (.int (0 : Int32)) → Fld Z h855 b712 cST "value" "[B" (.ref v713) → Ia Z h855 v713 .byte (sgB p0) → Exa Z h855 b751 cCD → Fld Z h855 b751 cCD "blockSize" "J" (.long ((3 : Int64) <<< ((kF ks) &&& 0x3f).toInt64)) → Fld Z h855 b751 cCD "signature1" "Ljava/lang/String;" (.ref b768) → Fld Z h855 b751 cCD "signature2" "Ljava/lang/String;" (.ref b804) → Exa Z h855 b768 cST → Fld Z h855 b768 cST "coder" "B" (.int (0 : Int32)) → Fld Z h855 b768 cST "value" "[B" (.ref v769) → Ia Z h855 v769 .byte (sgA u1) → Exa Z h855 b804 cST → Fld Z h855 b804 cST "coder" "B" (.int (0 : Int32)) → Fld Z h855 b804 cST "value" "[B" (.ref v805) → Ia Z h855 v805 .byte (sgB u2) → b680 ≠ b751 → b692 ≠ b768 → b712 ≠ b804 → Go p e below (T855.setTop (mkF m 128 #[.val (.long p0), .second, .val (.long p1), .second, .val (.int p2), .val (.long ks), .second, .val (.long u1), .second, .val (.long u2), .second, .val (.long u3), .second, .val (.ref b680), .val (.ref b751), .unset, .unset, .unset, .unset, .unset, .unset] [])) (DoneW s (Q_rm0 Z p0 p1 p2 cs fv h0 n0) room_1.cells room_1.slots) := by
  intro T855 L855 h855 vm855 K855 ks u1 u2 u3 b680 b692 b712 b751 b768 b804 v693 v713 v769 v805 X855 e855 N855 z855 k855 hZ hown hS855 hk855 I855 lf0_855 lf1_855 lf2_855 lf3_855 lf4_855 lf5_855 lf6_855 lf7_855 lf8_855 lf9_855 lf10_855 lf11_855 lf12_855 lf13_855 lf14_855 lf15_855 lf16_855 lf17_855 lf18_855 lf19_855 lf20_855 lf21_855 lf22_855 lf23_855 lf24_855 lf34_855 lf40_855 lf52_855 
  show Go p e below (T855.setTop (mkF m 128 #[.val (.long p0), .second, .val (.long p1), .second, .val (.int p2), .val (.long ks), .second, .val (.long u1), .second, .val (.long u2), .second, .val (.long u3), .second, .val (.ref b680), .val (.ref b751), .unset, .unset, .unset, .unset, .unset, .unset] [])) _
  obtain ⟨T856, h856, X856, e856, E856, A856, D856, -, st856⟩ := newO X855 hx hZ hown (tw hw 78 rfl) (tw hw 79 rfl) (tw hw 80 rfl) e855 (g := (mkF m 128 #[.val (.long p0), .second, .val (.long p1), .second, .val (.int p2), .val (.long ks), .second, .val (.long u1), .second, .val (.long u2), .second, .val (.long u3), .second, .val (.ref b680), .val (.ref b751), .unset, .unset, .unset, .unset, .unset, .unset] [])) rfl (hb hby at_128) (by decide) (by decide)
  obtain ⟨b856, g856⟩ : ∃ z, z = h855.size := ⟨_, rfl⟩
  rw [← g856] at A856 D856 st856
  have ne857 : b680 ≠ b856 := Nat.ne_of_lt (Nat.lt_of_lt_of_le lf1_855.lt (Nat.le_of_eq g856.symm))
  have ne858 : b692 ≠ b856 := Nat.ne_of_lt (Nat.lt_of_lt_of_le lf5_855.lt (Nat.le_of_eq g856.symm))
  have ne859 : b712 ≠ b856 := Nat.ne_of_lt (Nat.lt_of_lt_of_le lf9_855.lt (Nat.le_of_eq g856.symm))
  have ne860 : b751 ≠ b856 := Nat.ne_of_lt (Nat.lt_of_lt_of_le lf13_855.lt (Nat.le_of_eq g856.symm))
  have ne861 : b768 ≠ b856 := Nat.ne_of_lt (Nat.lt_of_lt_of_le lf17_855.lt (Nat.le_of_eq g856.symm))
  have ne862 : b804 ≠ b856 := Nat.ne_of_lt (Nat.lt_of_lt_of_le lf21_855.lt (Nat.le_of_eq g856.symm))
  have ne863 : v693 ≠ b856 := Nat.ne_of_lt (Nat.lt_of_lt_of_le lf8_855.lt (Nat.le_of_eq g856.symm))
  have ne864 : v713 ≠ b856 := Nat.ne_of_lt (Nat.lt_of_lt_of_le lf12_855.lt (Nat.le_of_eq g856.symm))
  have ne865 : v769 ≠ b856 := Nat.ne_of_lt (Nat.lt_of_lt_of_le lf20_855.lt (Nat.le_of_eq g856.symm))
  have ne866 : v805 ≠ b856 := Nat.ne_of_lt (Nat.lt_of_lt_of_le lf24_855.lt (Nat.le_of_eq g856.symm))
  have ge867 : n0 ≤ b856 := Nat.le_trans z855 (Nat.le_of_eq g856.symm)
  have sz868 : h0.size ≤ b856 := Nat.le_trans k855.1 (Nat.le_of_eq g856.symm)
  refine Go.via (st856) ?_
  clear st856
  have f869 : Fld Z h856 b856 cEN "digest" "Lcom/example/relate_by_hash/relatebyhash/ctph/CtphDigest;" .null := D856 (Or.inr (tw hw 93 rfl)) (ty := (.object cCD)) (by decide)
  have f870 : Fld Z h856 b856 cEN "name" "Ljava/lang/String;" .null := D856 (Or.inr (tw hw 97 rfl)) (ty := (.object cST)) (by decide)
  clear X855 e855
  show Go p e below (T856.setTop (mkF m 131 #[.val (.long p0), .second, .val (.long p1), .second, .val (.int p2), .val (.long ks), .second, .val (.long u1), .second, .val (.long u2), .second, .val (.long u3), .second, .val (.ref b680), .val (.ref b751), .unset, .unset, .unset, .unset, .unset, .unset] [(.ref b856)])) _
  refine Go.via (fun _ => XS.dup X856.here hx rfl (hb hby at_131) rfl rfl) ?_
  refine Go.via (fun _ => XS.aload X856.here hx rfl (hb hby at_132) rfl rfl) ?_
  refine Go.via (fun _ => XS.lloadN X856.here hx rfl (hb hby at_134) rfl) ?_
  refine Go.via (fun _ => XS.bipush X856.here hx rfl (hb hby at_135)) ?_
  show Go p e below (T856.setTop (mkF m 137 #[.val (.long p0), .second, .val (.long p1), .second, .val (.int p2), .val (.long ks), .second, .val (.long u1), .second, .val (.long u2), .second, .val (.long u3), .second, .val (.ref b680), .val (.ref b751), .unset, .unset, .unset, .unset, .unset, .unset] [(.int (33 : Int32)), (.long p0), (.ref b680), (.ref b856), (.ref b856)])) _
  refine Go.via (fun _ => XS.bipush X856.here hx rfl (hb hby at_137)) ?_
  refine Go.via (fun _ => XS.iconst X856.here hx rfl (hb hby at_139)) ?_
  have o871 : Old Z n0 h856 := (lf0_855.ext E856)
  have z873 : n0 ≤ h856.size := (Nat.le_trans z855 E856.1)
  have em874 : Em Z vm855 h856 ["signature 1", "signature 2", "digest", "name"] := (I855.ext E856)
  have hk875 : _ ≤ h856.size := (Nat.le_trans hk855 E856.1)
  obtain ⟨r872, _, ⟨T872, L872, k872, n872⟩, -, X872, h2872, gS872, ⟨Lc872, hQ872, l872, y872, z872⟩, st872⟩ := Jvm.RoadKit.callSS X856 hx (y := (⟨cLAW, "str", "(JIIZ)Ljava/lang/String;"⟩ : MethodName)) hown (mvT hZ (tw hw 9 rfl)) (mvT hZ (tw hw 10 rfl)) (mvT hZ (tw hw 6 rfl)) (mvT hZ (tw hw 11 rfl)) (by decide) (backOfV (W := 3) (V := V_rmStnmF Z p0 (33 : Int32) (8 : Int32) (0 : Int32) cs h856) (rmStnmF l Z a0 hw [] p0 (33 : Int32) (8 : Int32) (0 : Int32) cs h856 n0 z873 o871 zCS hcs hh7 hcw rfl rfl rfl) hZ (tw hw 11 rfl) (tw hw 6 rfl) (by decide) (by decide) (fun vm' hW => ⟨Em.still em874 hW.interned_eq (w39 hW.wide), trivial⟩)) (g := (mkF m 140 #[.val (.long p0), .second, .val (.long p1), .second, .val (.int p2), .val (.long ks), .second, .val (.long u1), .second, .val (.long u2), .second, .val (.long u3), .second, .val (.ref b680), .val (.ref b751), .unset, .unset, .unset, .unset, .unset, .unset] [(.int (0 : Int32)), (.int (8 : Int32)), (.int (33 : Int32)), (.long p0), (.ref b680), (.ref b856), (.ref b856)])) rfl (by rw [hml]; rfl) (argsL := [(.long p0), (.int (33 : Int32)), (.int (8 : Int32)), (.int (0 : Int32))]) (rest := [(.ref b680), (.ref b856), (.ref b856)]) (lenOf pd__28JIIZ_29Ljava_2flang_2fString_3b rfl) rfl (by show 2 * 0 + _ ≤ _; exact Nat.le_of_eq rfl) (hb hby at_140) (fun _ _ => ⟨rfl, e856, (by decide : 27 + 4 ≤ _), (by decide : 232 + 8 ≤ _)⟩)
  dsimp only [Pt.U, Pt.locs, Pt.cells, Pt.slots] at X872 l872 y872 z872 st872 hQ872 h2872 gS872
  rw [l872, y872, z872] at X872
  clear l872 y872 z872
  obtain ⟨b876, v877, hr872, N872q, K872q, fz_b876, f878, f879, f880, f881, I872⟩ := hQ872
  rw [hr872] at st872
  clear hr872
  have N872 := Fr.app N855 N872q
  refine Go.via (fun _ kQ => st872.trans kQ) ?_
  clear st872
  have f882 : Exa Z h856 b680 cCD := (lf1_855.ext E856)
  have ne883 : b680 ≠ b876 := Nat.ne_of_lt (Nat.lt_of_lt_of_le f882.lt fz_b876)
  have f884 : Exa Z h856 b692 cST := (lf5_855.ext E856)
  have ne885 : b692 ≠ b876 := Nat.ne_of_lt (Nat.lt_of_lt_of_le f884.lt fz_b876)
  have f886 : Exa Z h856 b712 cST := (lf9_855.ext E856)
  have ne887 : b712 ≠ b876 := Nat.ne_of_lt (Nat.lt_of_lt_of_le f886.lt fz_b876)
  have f888 : Exa Z h856 b751 cCD := (lf13_855.ext E856)
  have ne889 : b751 ≠ b876 := Nat.ne_of_lt (Nat.lt_of_lt_of_le f888.lt fz_b876)
  have f890 : Exa Z h856 b768 cST := (lf17_855.ext E856)
  have ne891 : b768 ≠ b876 := Nat.ne_of_lt (Nat.lt_of_lt_of_le f890.lt fz_b876)
  have f892 : Exa Z h856 b804 cST := (lf21_855.ext E856)
  have ne893 : b804 ≠ b876 := Nat.ne_of_lt (Nat.lt_of_lt_of_le f892.lt fz_b876)
  have ne894 : b856 ≠ b876 := Nat.ne_of_lt (Nat.lt_of_lt_of_le A856.lt fz_b876)
  have f895 : Ia Z h856 v693 .byte (sgA p0) := (lf8_855.ext E856)
  have ne896 : v693 ≠ b876 := Nat.ne_of_lt (Nat.lt_of_lt_of_le f895.lt fz_b876)
  have f897 : Ia Z h856 v713 .byte (sgB p0) := (lf12_855.ext E856)
  have ne898 : v713 ≠ b876 := Nat.ne_of_lt (Nat.lt_of_lt_of_le f897.lt fz_b876)
  have f899 : Ia Z h856 v769 .byte (sgA u1) := (lf20_855.ext E856)
  have ne900 : v769 ≠ b876 := Nat.ne_of_lt (Nat.lt_of_lt_of_le f899.lt fz_b876)
  have f901 : Ia Z h856 v805 .byte (sgB u2) := (lf24_855.ext E856)
  have ne902 : v805 ≠ b876 := Nat.ne_of_lt (Nat.lt_of_lt_of_le f901.lt fz_b876)
  have ge903 : n0 ≤ b876 := Nat.le_trans z873 fz_b876
  have k905 : Keep h0 h856 [] := (k855.ext E856)
  have sz904 : h0.size ≤ b876 := Nat.le_trans k905.1 fz_b876
  have e872 : T872.heap = T872.heap := rfl
  have f906 : Exa Z T872.heap b876 cST := f878
  have f907 : Fld Z T872.heap b876 cST "coder" "B" (.int (0 : Int32)) := f879
  have f908 : Fld Z T872.heap b876 cST "value" "[B" (.ref v877) := f880
  have f909 : Ia Z T872.heap v877 .byte (nmF p0) := f881
  have f910 : Exa Z T872.heap b680 cCD := (f882.keep K872q)
  have ne911 : v877 ≠ b680 := Ia.neE (a0 := a0) f909 f910 (tw hw 1 rfl)
  have f912 : Exa Z T872.heap b692 cST := (f884.keep K872q)
  have ne913 : v877 ≠ b692 := Ia.neE (a0 := a0) f909 f912 (tw hw 19 rfl)
  have f914 : Exa Z T872.heap b712 cST := (f886.keep K872q)
  have ne915 : v877 ≠ b712 := Ia.neE (a0 := a0) f909 f914 (tw hw 19 rfl)
  have f916 : Exa Z T872.heap b751 cCD := (f888.keep K872q)
  have ne917 : v877 ≠ b751 := Ia.neE (a0 := a0) f909 f916 (tw hw 1 rfl)
  have f918 : Exa Z T872.heap b768 cST := (f890.keep K872q)
  have ne919 : v877 ≠ b768 := Ia.neE (a0 := a0) f909 f918 (tw hw 19 rfl)
  have f920 : Exa Z T872.heap b804 cST := (f892.keep K872q)
  have ne921 : v877 ≠ b804 := Ia.neE (a0 := a0) f909 f920 (tw hw 19 rfl)
  have f922 : Exa Z T872.heap b856 cEN := (A856.keep K872q)
  have ne923 : v877 ≠ b856 := Ia.neE (a0 := a0) f909 f922 (tw hw 79 rfl)
  have ne924 : v877 ≠ b876 := Ia.neE (a0 := a0) f909 f906 (tw hw 19 rfl)
  obtain ⟨X872r, hS872, hZ, hown⟩ := rebS hS855 (Nat.le_trans hk875 (Nat.le_of_eq (congrArg Array.size (Eq.symm e856)))) X872 h2872 gS872 hZ hown
  clear X872 h2872 gS872
  clear X856 e856
  show Go p e below (T872.setTop (mkF m 143 #[.val (.long p0), .second, .val (.long p1), .second, .val (.int p2), .val (.long ks), .second, .val (.long u1), .second, .val (.long u2), .second, .val (.long u3), .second, .val (.ref b680), .val (.ref b751), .unset, .unset, .unset, .unset, .unset, .unset] [(.ref b876), (.ref b680), (.ref b856), (.ref b856)])) _
  have f925 : Fld Z T872.heap b856 cEN "digest" "Lcom/example/relate_by_hash/relatebyhash/ctph/CtphDigest;" .null := (f869.keep K872q nin0)
  have f926 : Fld Z T872.heap b856 cEN "name" "Ljava/lang/String;" .null := (f870.keep K872q nin0)
  have o927 : Old Z n0 T872.heap := (o871.keep K872q all0)
  have z929 : n0 ≤ T872.heap.size := (Nat.le_trans z873 K872q.1)
  obtain ⟨r928, _, ⟨T928, L928, k928, n928⟩, -, X928, h2928, gS928, ⟨Lc928, hQ928, l928, y928, z928⟩, st928⟩ := X872r.specialBackS hx (y := (⟨cEN, "<init>", "(Lcom/example/relate_by_hash/relatebyhash/ctph/CtphDigest;Ljava/lang/String;)V"⟩ : MethodName)) rfl hown (mvT hZ (tw hw 81 rfl)) (mvT hZ (tw hw 82 rfl)) (mvT hZ (tw hw 83 rfl)) (by decide) (backOfV (W := 1) (V := V_rmEn Z b856 b680 b876 T872.heap) (rmEn l Z a0 hw [] b856 b680 b876  T872.heap n0 z929 f922 f925 f926 f910 f906 o927 ge867) hZ (tw hw 83 rfl) (tw hw 80 rfl) (by decide) (by decide) (fun vm' hW => ⟨Em.still I872 hW.interned_eq (w39 hW.wide), trivial⟩)) (g := (mkF m 143 #[.val (.long p0), .second, .val (.long p1), .second, .val (.int p2), .val (.long ks), .second, .val (.long u1), .second, .val (.long u2), .second, .val (.long u3), .second, .val (.ref b680), .val (.ref b751), .unset, .unset, .unset, .unset, .unset, .unset] [(.ref b876), (.ref b680), (.ref b856), (.ref b856)])) rfl (by rw [hml]; rfl) (Steps.refl _) (a := b856) (argsL := [(.ref b680), (.ref b876)]) (rest := [(.ref b856)]) (lenOf pd__28Lcom_2fexample_2frelate_by_hash_2frelatebyhash_2fctph_2fCtphDigest_3bLjava_2flang_2fString_3b_29V rfl) rfl (by show 2 * 0 + _ ≤ _; exact Nat.le_of_eq rfl) (hb hby at_143) (fun _ _ => ⟨rfl, e872, (by decide : 31 + 4 ≤ _), (by decide : 240 + 48 ≤ _)⟩)
  dsimp only [Pt.U, Pt.locs, Pt.cells, Pt.slots] at X928 l928 y928 z928 st928 hQ928 h2928 gS928
  rw [l928, y928, z928] at X928
  clear l928 y928 z928
  obtain ⟨hr928, N928q, K928q, f930, f931, f932, I928⟩ := hQ928
  rw [hr928] at st928
  clear hr928
  have N928 := Fr.app N872 N928q
  refine Go.via (fun _ kQ => st928.trans kQ) ?_
  clear st928
  have e928 : T928.heap = T928.heap := rfl
  have f933 : Exa Z T928.heap b856 cEN := f930
  have f934 : Fld Z T928.heap b856 cEN "digest" "Lcom/example/relate_by_hash/relatebyhash/ctph/CtphDigest;" (.ref b680) := f931
  have f935 : Fld Z T928.heap b856 cEN "name" "Ljava/lang/String;" (.ref b876) := f932
  obtain ⟨X928r, hS928, hZ, hown⟩ := rebS hS872 (Nat.le_trans (Nat.le_refl _) (Nat.le_of_eq (congrArg Array.size (Eq.symm e872)))) X928 h2928 gS928 hZ hown
  clear X928 h2928 gS928
  clear X872r e872
  show Go p e below (T928.setTop (mkF m 146 #[.val (.long p0), .second, .val (.long p1), .second, .val (.int p2), .val (.long ks), .second, .val (.long u1), .second, .val (.long u2), .second, .val (.long u3), .second, .val (.ref b680), .val (.ref b751), .unset, .unset, .unset, .unset, .unset, .unset] [(.ref b856)])) _
  refine Go.via (fun _ => XS.astore X928r.here hx rfl (hb hby at_146) rfl rfl (l' := #[.val (.long p0), .second, .val (.long p1), .second, .val (.int p2), .val (.long ks), .second, .val (.long u1), .second, .val (.long u2), .second, .val (.long u3), .second, .val (.ref b680), .val (.ref b751), .val (.ref b856), .unset, .unset, .unset, .unset, .unset]) rfl) ?_
  show Go p e below (T928.setTop (mkF m 148 #[.val (.long p0), .second, .val (.long p1), .second, .val (.int p2), .val (.long ks), .second, .val (.long u1), .second, .val (.long u2), .second, .val (.long u3), .second, .val (.ref b680), .val (.ref b751), .val (.ref b856), .unset, .unset, .unset, .unset, .unset] [])) _
  have k937 : Keep h0 T928.heap [] := ((k905.trans K872q all0).trans K928q (allS (Or.inr sz868) all0))
  have z938 : n0 ≤ T928.heap.size := (Nat.le_trans z929 K928q.1)
  obtain ⟨T936, h936, X936, e936, E936, A936, D936, -, st936⟩ := newO X928r hx hZ hown (tw hw 78 rfl) (tw hw 79 rfl) (tw hw 80 rfl) e928 (g := (mkF m 148 #[.val (.long p0), .second, .val (.long p1), .second, .val (.int p2), .val (.long ks), .second, .val (.long u1), .second, .val (.long u2), .second, .val (.long u3), .second, .val (.ref b680), .val (.ref b751), .val (.ref b856), .unset, .unset, .unset, .unset, .unset] [])) rfl (hb hby at_148) (by decide) (by decide)
  obtain ⟨b936, g936⟩ : ∃ z, z = T928.heap.size := ⟨_, rfl⟩
  rw [← g936] at A936 D936 st936
  have f940 : Exa Z T928.heap b680 cCD := (f910.keep K928q)
  have ne939 : b680 ≠ b936 := Nat.ne_of_lt (Nat.lt_of_lt_of_le f940.lt (Nat.le_of_eq g936.symm))
  have f942 : Exa Z T928.heap b692 cST := (f912.keep K928q)
  have ne941 : b692 ≠ b936 := Nat.ne_of_lt (Nat.lt_of_lt_of_le f942.lt (Nat.le_of_eq g936.symm))
  have f944 : Exa Z T928.heap b712 cST := (f914.keep K928q)
  have ne943 : b712 ≠ b936 := Nat.ne_of_lt (Nat.lt_of_lt_of_le f944.lt (Nat.le_of_eq g936.symm))
  have f946 : Exa Z T928.heap b751 cCD := (f916.keep K928q)
  have ne945 : b751 ≠ b936 := Nat.ne_of_lt (Nat.lt_of_lt_of_le f946.lt (Nat.le_of_eq g936.symm))
  have f948 : Exa Z T928.heap b768 cST := (f918.keep K928q)
  have ne947 : b768 ≠ b936 := Nat.ne_of_lt (Nat.lt_of_lt_of_le f948.lt (Nat.le_of_eq g936.symm))
  have f950 : Exa Z T928.heap b804 cST := (f920.keep K928q)
  have ne949 : b804 ≠ b936 := Nat.ne_of_lt (Nat.lt_of_lt_of_le f950.lt (Nat.le_of_eq g936.symm))
  have ne951 : b856 ≠ b936 := Nat.ne_of_lt (Nat.lt_of_lt_of_le f933.lt (Nat.le_of_eq g936.symm))
  have f953 : Exa Z T928.heap b876 cST := (f906.keep K928q)
  have ne952 : b876 ≠ b936 := Nat.ne_of_lt (Nat.lt_of_lt_of_le f953.lt (Nat.le_of_eq g936.symm))
  have f955 : Ia Z T928.heap v693 .byte (sgA p0) := ((f895.keep K872q nin0).keep K928q (ninS ne863 nin0))
  have ne954 : v693 ≠ b936 := Nat.ne_of_lt (Nat.lt_of_lt_of_le f955.lt (Nat.le_of_eq g936.symm))
  have f957 : Ia Z T928.heap v713 .byte (sgB p0) := ((f897.keep K872q nin0).keep K928q (ninS ne864 nin0))
  have ne956 : v713 ≠ b936 := Nat.ne_of_lt (Nat.lt_of_lt_of_le f957.lt (Nat.le_of_eq g936.symm))
  have f959 : Ia Z T928.heap v769 .byte (sgA u1) := ((f899.keep K872q nin0).keep K928q (ninS ne865 nin0))
  have ne958 : v769 ≠ b936 := Nat.ne_of_lt (Nat.lt_of_lt_of_le f959.lt (Nat.le_of_eq g936.symm))
  have f961 : Ia Z T928.heap v805 .byte (sgB u2) := ((f901.keep K872q nin0).keep K928q (ninS ne866 nin0))
  have ne960 : v805 ≠ b936 := Nat.ne_of_lt (Nat.lt_of_lt_of_le f961.lt (Nat.le_of_eq g936.symm))
  have f963 : Ia Z T928.heap v877 .byte (nmF p0) := (f909.keep K928q (ninS ne923 nin0))
  have ne962 : v877 ≠ b936 := Nat.ne_of_lt (Nat.lt_of_lt_of_le f963.lt (Nat.le_of_eq g936.symm))
  have ge964 : n0 ≤ b936 := Nat.le_trans z938 (Nat.le_of_eq g936.symm)
  have sz965 : h0.size ≤ b936 := Nat.le_trans k937.1 (Nat.le_of_eq g936.symm)
  refine Go.via (st936) ?_
  clear st936
  have f966 : Fld Z h936 b936 cEN "digest" "Lcom/example/relate_by_hash/relatebyhash/ctph/CtphDigest;" .null := D936 (Or.inr (tw hw 93 rfl)) (ty := (.object cCD)) (by decide)
  have f967 : Fld Z h936 b936 cEN "name" "Ljava/lang/String;" .null := D936 (Or.inr (tw hw 97 rfl)) (ty := (.object cST)) (by decide)
  clear X928r e928
  show Go p e below (T936.setTop (mkF m 151 #[.val (.long p0), .second, .val (.long p1), .second, .val (.int p2), .val (.long ks), .second, .val (.long u1), .second, .val (.long u2), .second, .val (.long u3), .second, .val (.ref b680), .val (.ref b751), .val (.ref b856), .unset, .unset, .unset, .unset, .unset] [(.ref b936)])) _
  refine Go.via (fun _ => XS.dup X936.here hx rfl (hb hby at_151) rfl rfl) ?_
  refine Go.via (fun _ => XS.aload X936.here hx rfl (hb hby at_152) rfl rfl) ?_
  refine Go.via (fun _ => XS.lload X936.here hx rfl (hb hby at_154) rfl) ?_
  refine Go.via (fun _ => XS.bipush X936.here hx rfl (hb hby at_156)) ?_
  show Go p e below (T936.setTop (mkF m 158 #[.val (.long p0), .second, .val (.long p1), .second, .val (.int p2), .val (.long ks), .second, .val (.long u1), .second, .val (.long u2), .second, .val (.long u3), .second, .val (.ref b680), .val (.ref b751), .val (.ref b856), .unset, .unset, .unset, .unset, .unset] [(.int (33 : Int32)), (.long u3), (.ref b751), (.ref b936), (.ref b936)])) _
  refine Go.via (fun _ => XS.bipush X936.here hx rfl (hb hby at_158)) ?_
  refine Go.via (fun _ => XS.iconst X936.here hx rfl (hb hby at_160)) ?_
  have o968 : Old Z n0 h936 := ((o927.keep K928q (allS ge867 all0)).ext E936)
  have z970 : n0 ≤ h936.size := (Nat.le_trans z938 E936.1)
  have em971 : Em Z T928.vm h936 ["signature 1", "signature 2", "digest", "name"] := (I928.ext E936)
  have hk972 : _ ≤ h936.size := (Nat.le_trans (Nat.le_refl _) E936.1)
  obtain ⟨r969, _, ⟨T969, L969, k969, n969⟩, -, X969, h2969, gS969, ⟨Lc969, hQ969, l969, y969, z969⟩, st969⟩ := Jvm.RoadKit.callSS X936 hx (y := (⟨cLAW, "str", "(JIIZ)Ljava/lang/String;"⟩ : MethodName)) hown (mvT hZ (tw hw 9 rfl)) (mvT hZ (tw hw 10 rfl)) (mvT hZ (tw hw 6 rfl)) (mvT hZ (tw hw 11 rfl)) (by decide) (backOfV (W := 3) (V := V_rmStnmF Z u3 (33 : Int32) (8 : Int32) (0 : Int32) cs h936) (rmStnmF l Z a0 hw [] u3 (33 : Int32) (8 : Int32) (0 : Int32) cs h936 n0 z970 o968 zCS hcs hh7 hcw rfl rfl rfl) hZ (tw hw 11 rfl) (tw hw 6 rfl) (by decide) (by decide) (fun vm' hW => ⟨Em.still em971 hW.interned_eq (w39 hW.wide), trivial⟩)) (g := (mkF m 161 #[.val (.long p0), .second, .val (.long p1), .second, .val (.int p2), .val (.long ks), .second, .val (.long u1), .second, .val (.long u2), .second, .val (.long u3), .second, .val (.ref b680), .val (.ref b751), .val (.ref b856), .unset, .unset, .unset, .unset, .unset] [(.int (0 : Int32)), (.int (8 : Int32)), (.int (33 : Int32)), (.long u3), (.ref b751), (.ref b936), (.ref b936)])) rfl (by rw [hml]; rfl) (argsL := [(.long u3), (.int (33 : Int32)), (.int (8 : Int32)), (.int (0 : Int32))]) (rest := [(.ref b751), (.ref b936), (.ref b936)]) (lenOf pd__28JIIZ_29Ljava_2flang_2fString_3b rfl) rfl (by show 2 * 0 + _ ≤ _; exact Nat.le_of_eq rfl) (hb hby at_161) (fun _ _ => ⟨rfl, e936, (by decide : 36 + 4 ≤ _), (by decide : 290 + 8 ≤ _)⟩)
  dsimp only [Pt.U, Pt.locs, Pt.cells, Pt.slots] at X969 l969 y969 z969 st969 hQ969 h2969 gS969
  rw [l969, y969, z969] at X969
  clear l969 y969 z969
  obtain ⟨b973, v974, hr969, N969q, K969q, fz_b973, f975, f976, f977, f978, I969⟩ := hQ969
  rw [hr969] at st969
  clear hr969
  have N969 := Fr.app N928 N969q
  refine Go.via (fun _ kQ => st969.trans kQ) ?_
  clear st969
  have f979 : Exa Z h936 b680 cCD := (f940.ext E936)
  have ne980 : b680 ≠ b973 := Nat.ne_of_lt (Nat.lt_of_lt_of_le f979.lt fz_b973)
  have f981 : Exa Z h936 b692 cST := (f942.ext E936)
  have ne982 : b692 ≠ b973 := Nat.ne_of_lt (Nat.lt_of_lt_of_le f981.lt fz_b973)
  have f983 : Exa Z h936 b712 cST := (f944.ext E936)
  have ne984 : b712 ≠ b973 := Nat.ne_of_lt (Nat.lt_of_lt_of_le f983.lt fz_b973)
  have f985 : Exa Z h936 b751 cCD := (f946.ext E936)
  have ne986 : b751 ≠ b973 := Nat.ne_of_lt (Nat.lt_of_lt_of_le f985.lt fz_b973)
  have f987 : Exa Z h936 b768 cST := (f948.ext E936)
  have ne988 : b768 ≠ b973 := Nat.ne_of_lt (Nat.lt_of_lt_of_le f987.lt fz_b973)
  have f989 : Exa Z h936 b804 cST := (f950.ext E936)
  have ne990 : b804 ≠ b973 := Nat.ne_of_lt (Nat.lt_of_lt_of_le f989.lt fz_b973)
  have f991 : Exa Z h936 b856 cEN := (f933.ext E936)
  have ne992 : b856 ≠ b973 := Nat.ne_of_lt (Nat.lt_of_lt_of_le f991.lt fz_b973)
  have f993 : Exa Z h936 b876 cST := (f953.ext E936)
  have ne994 : b876 ≠ b973 := Nat.ne_of_lt (Nat.lt_of_lt_of_le f993.lt fz_b973)
  have ne995 : b936 ≠ b973 := Nat.ne_of_lt (Nat.lt_of_lt_of_le A936.lt fz_b973)
  have f996 : Ia Z h936 v693 .byte (sgA p0) := (f955.ext E936)
  have ne997 : v693 ≠ b973 := Nat.ne_of_lt (Nat.lt_of_lt_of_le f996.lt fz_b973)
  have f998 : Ia Z h936 v713 .byte (sgB p0) := (f957.ext E936)
  have ne999 : v713 ≠ b973 := Nat.ne_of_lt (Nat.lt_of_lt_of_le f998.lt fz_b973)
  have f1000 : Ia Z h936 v769 .byte (sgA u1) := (f959.ext E936)
  have ne1001 : v769 ≠ b973 := Nat.ne_of_lt (Nat.lt_of_lt_of_le f1000.lt fz_b973)
  have f1002 : Ia Z h936 v805 .byte (sgB u2) := (f961.ext E936)
  have ne1003 : v805 ≠ b973 := Nat.ne_of_lt (Nat.lt_of_lt_of_le f1002.lt fz_b973)
  have f1004 : Ia Z h936 v877 .byte (nmF p0) := (f963.ext E936)
  have ne1005 : v877 ≠ b973 := Nat.ne_of_lt (Nat.lt_of_lt_of_le f1004.lt fz_b973)
  have ge1006 : n0 ≤ b973 := Nat.le_trans z970 fz_b973
  have k1008 : Keep h0 h936 [] := (k937.ext E936)
  have sz1007 : h0.size ≤ b973 := Nat.le_trans k1008.1 fz_b973
  have e969 : T969.heap = T969.heap := rfl
  have f1009 : Exa Z T969.heap b973 cST := f975
  have f1010 : Fld Z T969.heap b973 cST "coder" "B" (.int (0 : Int32)) := f976
  have f1011 : Fld Z T969.heap b973 cST "value" "[B" (.ref v974) := f977
  have f1012 : Ia Z T969.heap v974 .byte (nmF u3) := f978
  have f1013 : Exa Z T969.heap b680 cCD := (f979.keep K969q)
  have ne1014 : v974 ≠ b680 := Ia.neE (a0 := a0) f1012 f1013 (tw hw 1 rfl)
  have f1015 : Exa Z T969.heap b692 cST := (f981.keep K969q)
  have ne1016 : v974 ≠ b692 := Ia.neE (a0 := a0) f1012 f1015 (tw hw 19 rfl)
  have f1017 : Exa Z T969.heap b712 cST := (f983.keep K969q)
  have ne1018 : v974 ≠ b712 := Ia.neE (a0 := a0) f1012 f1017 (tw hw 19 rfl)
  have f1019 : Exa Z T969.heap b751 cCD := (f985.keep K969q)
  have ne1020 : v974 ≠ b751 := Ia.neE (a0 := a0) f1012 f1019 (tw hw 1 rfl)
  have f1021 : Exa Z T969.heap b768 cST := (f987.keep K969q)
  have ne1022 : v974 ≠ b768 := Ia.neE (a0 := a0) f1012 f1021 (tw hw 19 rfl)
  have f1023 : Exa Z T969.heap b804 cST := (f989.keep K969q)
  have ne1024 : v974 ≠ b804 := Ia.neE (a0 := a0) f1012 f1023 (tw hw 19 rfl)
  have f1025 : Exa Z T969.heap b856 cEN := (f991.keep K969q)
  have ne1026 : v974 ≠ b856 := Ia.neE (a0 := a0) f1012 f1025 (tw hw 79 rfl)
  have f1027 : Exa Z T969.heap b876 cST := (f993.keep K969q)
  have ne1028 : v974 ≠ b876 := Ia.neE (a0 := a0) f1012 f1027 (tw hw 19 rfl)
  have f1029 : Exa Z T969.heap b936 cEN := (A936.keep K969q)
  have ne1030 : v974 ≠ b936 := Ia.neE (a0 := a0) f1012 f1029 (tw hw 79 rfl)
  have ne1031 : v974 ≠ b973 := Ia.neE (a0 := a0) f1012 f1009 (tw hw 19 rfl)
  obtain ⟨X969r, hS969, hZ, hown⟩ := rebS hS928 (Nat.le_trans hk972 (Nat.le_of_eq (congrArg Array.size (Eq.symm e936)))) X969 h2969 gS969 hZ hown
  clear X969 h2969 gS969
  clear X936 e936
  show Go p e below (T969.setTop (mkF m 164 #[.val (.long p0), .second, .val (.long p1), .second, .val (.int p2), .val (.long ks), .second, .val (.long u1), .second, .val (.long u2), .second, .val (.long u3), .second, .val (.ref b680), .val (.ref b751), .val (.ref b856), .unset, .unset, .unset, .unset, .unset] [(.ref b973), (.ref b751), (.ref b936), (.ref b936)])) _
  have f1032 : Fld Z T969.heap b936 cEN "digest" "Lcom/example/relate_by_hash/relatebyhash/ctph/CtphDigest;" .null := (f966.keep K969q nin0)
  have f1033 : Fld Z T969.heap b936 cEN "name" "Ljava/lang/String;" .null := (f967.keep K969q nin0)
  have o1034 : Old Z n0 T969.heap := (o968.keep K969q all0)
  have z1036 : n0 ≤ T969.heap.size := (Nat.le_trans z970 K969q.1)
  obtain ⟨r1035, _, ⟨T1035, L1035, k1035, n1035⟩, -, X1035, h21035, gS1035, ⟨Lc1035, hQ1035, l1035, y1035, z1035⟩, st1035⟩ := X969r.specialBackS hx (y := (⟨cEN, "<init>", "(Lcom/example/relate_by_hash/relatebyhash/ctph/CtphDigest;Ljava/lang/String;)V"⟩ : MethodName)) rfl hown (mvT hZ (tw hw 81 rfl)) (mvT hZ (tw hw 82 rfl)) (mvT hZ (tw hw 83 rfl)) (by decide) (backOfV (W := 1) (V := V_rmEn Z b936 b751 b973 T969.heap) (rmEn l Z a0 hw [] b936 b751 b973  T969.heap n0 z1036 f1029 f1032 f1033 f1019 f1009 o1034 ge964) hZ (tw hw 83 rfl) (tw hw 80 rfl) (by decide) (by decide) (fun vm' hW => ⟨Em.still I969 hW.interned_eq (w39 hW.wide), trivial⟩)) (g := (mkF m 164 #[.val (.long p0), .second, .val (.long p1), .second, .val (.int p2), .val (.long ks), .second, .val (.long u1), .second, .val (.long u2), .second, .val (.long u3), .second, .val (.ref b680), .val (.ref b751), .val (.ref b856), .unset, .unset, .unset, .unset, .unset] [(.ref b973), (.ref b751), (.ref b936), (.ref b936)])) rfl (by rw [hml]; rfl) (Steps.refl _) (a := b936) (argsL := [(.ref b751), (.ref b973)]) (rest := [(.ref b936)]) (lenOf pd__28Lcom_2fexample_2frelate_by_hash_2frelatebyhash_2fctph_2fCtphDigest_3bLjava_2flang_2fString_3b_29V rfl) rfl (by show 2 * 0 + _ ≤ _; exact Nat.le_of_eq rfl) (hb hby at_164) (fun _ _ => ⟨rfl, e969, (by decide : 40 + 4 ≤ _), (by decide : 298 + 48 ≤ _)⟩)
  dsimp only [Pt.U, Pt.locs, Pt.cells, Pt.slots] at X1035 l1035 y1035 z1035 st1035 hQ1035 h21035 gS1035
  rw [l1035, y1035, z1035] at X1035
  clear l1035 y1035 z1035
  obtain ⟨hr1035, N1035q, K1035q, f1037, f1038, f1039, I1035⟩ := hQ1035
  rw [hr1035] at st1035
  clear hr1035
  have N1035 := Fr.app N969 N1035q
  refine Go.via (fun _ kQ => st1035.trans kQ) ?_
  clear st1035
  have e1035 : T1035.heap = T1035.heap := rfl
  have f1040 : Exa Z T1035.heap b936 cEN := f1037
  have f1041 : Fld Z T1035.heap b936 cEN "digest" "Lcom/example/relate_by_hash/relatebyhash/ctph/CtphDigest;" (.ref b751) := f1038
  have f1042 : Fld Z T1035.heap b936 cEN "name" "Ljava/lang/String;" (.ref b973) := f1039
  obtain ⟨X1035r, hS1035, hZ, hown⟩ := rebS hS969 (Nat.le_trans (Nat.le_refl _) (Nat.le_of_eq (congrArg Array.size (Eq.symm e969)))) X1035 h21035 gS1035 hZ hown
  clear X1035 h21035 gS1035
  clear X969r e969
  show Go p e below (T1035.setTop (mkF m 167 #[.val (.long p0), .second, .val (.long p1), .second, .val (.int p2), .val (.long ks), .second, .val (.long u1), .second, .val (.long u2), .second, .val (.long u3), .second, .val (.ref b680), .val (.ref b751), .val (.ref b856), .unset, .unset, .unset, .unset, .unset] [(.ref b936)])) _
  refine Go.via (fun _ => XS.astore X1035r.here hx rfl (hb hby at_167) rfl rfl (l' := #[.val (.long p0), .second, .val (.long p1), .second, .val (.int p2), .val (.long ks), .second, .val (.long u1), .second, .val (.long u2), .second, .val (.long u3), .second, .val (.ref b680), .val (.ref b751), .val (.ref b856), .val (.ref b936), .unset, .unset, .unset, .unset]) rfl) ?_
  have z1075 : n0 ≤ T1035.heap.size := (Nat.le_trans z1036 K1035q.1)
  have k1076 : Keep h0 T1035.heap [] := ((k1008.trans K969q all0).trans K1035q (allS (Or.inr sz965) all0))
  have o1077 : Old Z n0 T1035.heap := (o1034.keep K1035q (allS ge964 all0))
  have f1078 : Exa Z T1035.heap b680 cCD := (f1013.keep K1035q)
  have f1079 : Fld Z T1035.heap b680 cCD "blockSize" "J" (.long ((3 : Int64) <<< ((kF p0) &&& 0x3f).toInt64)) := ((((((lf2_855.ext E856).keep K872q nin0).keep K928q (ninS ne857 nin0)).ext E936).keep K969q nin0).keep K1035q (ninS ne939 nin0))
  have f1080 : Fld Z T1035.heap b680 cCD "signature1" "Ljava/lang/String;" (.ref b692) := ((((((lf3_855.ext E856).keep K872q nin0).keep K928q (ninS ne857 nin0)).ext E936).keep K969q nin0).keep K1035q (ninS ne939 nin0))
  have f1081 : Fld Z T1035.heap b680 cCD "signature2" "Ljava/lang/String;" (.ref b712) := ((((((lf4_855.ext E856).keep K872q nin0).keep K928q (ninS ne857 nin0)).ext E936).keep K969q nin0).keep K1035q (ninS ne939 nin0))
  have f1082 : Exa Z T1035.heap b692 cST := (f1015.keep K1035q)
  have f1083 : Fld Z T1035.heap b692 cST "coder" "B" (.int (0 : Int32)) := ((((((lf6_855.ext E856).keep K872q nin0).keep K928q (ninS ne858 nin0)).ext E936).keep K969q nin0).keep K1035q (ninS ne941 nin0))
  have f1084 : Fld Z T1035.heap b692 cST "value" "[B" (.ref v693) := ((((((lf7_855.ext E856).keep K872q nin0).keep K928q (ninS ne858 nin0)).ext E936).keep K969q nin0).keep K1035q (ninS ne941 nin0))
  have f1085 : Ia Z T1035.heap v693 .byte (sgA p0) := ((f996.keep K969q nin0).keep K1035q (ninS ne954 nin0))
  have f1086 : Exa Z T1035.heap b712 cST := (f1017.keep K1035q)
  have f1087 : Fld Z T1035.heap b712 cST "coder" "B" (.int (0 : Int32)) := ((((((lf10_855.ext E856).keep K872q nin0).keep K928q (ninS ne859 nin0)).ext E936).keep K969q nin0).keep K1035q (ninS ne943 nin0))
  have f1088 : Fld Z T1035.heap b712 cST "value" "[B" (.ref v713) := ((((((lf11_855.ext E856).keep K872q nin0).keep K928q (ninS ne859 nin0)).ext E936).keep K969q nin0).keep K1035q (ninS ne943 nin0))
  have f1089 : Ia Z T1035.heap v713 .byte (sgB p0) := ((f998.keep K969q nin0).keep K1035q (ninS ne956 nin0))
  have f1090 : Exa Z T1035.heap b751 cCD := (f1019.keep K1035q)
  have f1091 : Fld Z T1035.heap b751 cCD "blockSize" "J" (.long ((3 : Int64) <<< ((kF ks) &&& 0x3f).toInt64)) := ((((((lf14_855.ext E856).keep K872q nin0).keep K928q (ninS ne860 nin0)).ext E936).keep K969q nin0).keep K1035q (ninS ne945 nin0))
  have f1092 : Fld Z T1035.heap b751 cCD "signature1" "Ljava/lang/String;" (.ref b768) := ((((((lf15_855.ext E856).keep K872q nin0).keep K928q (ninS ne860 nin0)).ext E936).keep K969q nin0).keep K1035q (ninS ne945 nin0))
  have f1093 : Fld Z T1035.heap b751 cCD "signature2" "Ljava/lang/String;" (.ref b804) := ((((((lf16_855.ext E856).keep K872q nin0).keep K928q (ninS ne860 nin0)).ext E936).keep K969q nin0).keep K1035q (ninS ne945 nin0))
  have f1094 : Exa Z T1035.heap b768 cST := (f1021.keep K1035q)
  have f1095 : Fld Z T1035.heap b768 cST "coder" "B" (.int (0 : Int32)) := ((((((lf18_855.ext E856).keep K872q nin0).keep K928q (ninS ne861 nin0)).ext E936).keep K969q nin0).keep K1035q (ninS ne947 nin0))
  have f1096 : Fld Z T1035.heap b768 cST "value" "[B" (.ref v769) := ((((((lf19_855.ext E856).keep K872q nin0).keep K928q (ninS ne861 nin0)).ext E936).keep K969q nin0).keep K1035q (ninS ne947 nin0))
  have f1097 : Ia Z T1035.heap v769 .byte (sgA u1) := ((f1000.keep K969q nin0).keep K1035q (ninS ne958 nin0))
  have f1098 : Exa Z T1035.heap b804 cST := (f1023.keep K1035q)
  have f1099 : Fld Z T1035.heap b804 cST "coder" "B" (.int (0 : Int32)) := ((((((lf22_855.ext E856).keep K872q nin0).keep K928q (ninS ne862 nin0)).ext E936).keep K969q nin0).keep K1035q (ninS ne949 nin0))
  have f1100 : Fld Z T1035.heap b804 cST "value" "[B" (.ref v805) := ((((((lf23_855.ext E856).keep K872q nin0).keep K928q (ninS ne862 nin0)).ext E936).keep K969q nin0).keep K1035q (ninS ne949 nin0))
  have f1101 : Ia Z T1035.heap v805 .byte (sgB u2) := ((f1002.keep K969q nin0).keep K1035q (ninS ne960 nin0))
  have f1102 : Exa Z T1035.heap b856 cEN := (f1025.keep K1035q)
  have f1103 : Fld Z T1035.heap b856 cEN "digest" "Lcom/example/relate_by_hash/relatebyhash/ctph/CtphDigest;" (.ref b680) := (((f934.ext E936).keep K969q nin0).keep K1035q (ninS ne951 nin0))
  have f1104 : Fld Z T1035.heap b856 cEN "name" "Ljava/lang/String;" (.ref b876) := (((f935.ext E936).keep K969q nin0).keep K1035q (ninS ne951 nin0))
  have f1105 : Exa Z T1035.heap b876 cST := (f1027.keep K1035q)
  have f1106 : Fld Z T1035.heap b876 cST "coder" "B" (.int (0 : Int32)) := ((((f907.keep K928q (ninS (Ne.symm ne894) nin0)).ext E936).keep K969q nin0).keep K1035q (ninS ne952 nin0))
  have f1107 : Fld Z T1035.heap b876 cST "value" "[B" (.ref v877) := ((((f908.keep K928q (ninS (Ne.symm ne894) nin0)).ext E936).keep K969q nin0).keep K1035q (ninS ne952 nin0))
  have f1108 : Ia Z T1035.heap v877 .byte (nmF p0) := ((f1004.keep K969q nin0).keep K1035q (ninS ne962 nin0))
  have f1109 : Exa Z T1035.heap b973 cST := (f1009.keep K1035q)
  have f1110 : Fld Z T1035.heap b973 cST "coder" "B" (.int (0 : Int32)) := (f1010.keep K1035q (ninS (Ne.symm ne995) nin0))
  have f1111 : Fld Z T1035.heap b973 cST "value" "[B" (.ref v974) := (f1011.keep K1035q (ninS (Ne.symm ne995) nin0))
  have f1112 : Ia Z T1035.heap v974 .byte (nmF u3) := (f1012.keep K1035q (ninS ne1030 nin0))
  exact rm_rm0_l169_3 l Z a0 hw p0 p1 p2 cs fv h0 n0 zCS zF hcs hfv hh7 hcw hx hby hlk hml hret T1035 _ T1035.heap T1035.vm _ ks u1 u2 u3 b680 b692 b712 b751 b768 b804 b856 b876 b936 b973 v693 v713 v769 v805 v877 v974 X1035r e1035 N1035 z1075 k1076 hZ hown hS1035 (Nat.le_refl _) I1035 o1077 f1078 f1079 f1080 f1081 f1082 f1083 f1084 f1085 f1086 f1087 f1088 f1089 f1090 f1091 f1092 f1093 f1094 f1095 f1096 f1097 f1098 f1099 f1100 f1101 f1102 f1103 f1104 f1105 f1106 f1107 f1108 f1040 f1041 f1042 f1109 f1110 f1111 f1112 lf34_855 lf40_855 lf52_855 ne857 ne951 ne994
set_option maxRecDepth 65536 in
set_option maxHeartbeats 40000000 in
theorem rm_rm0_l91_1 (l : Launch) (Z : State) (a0 : Array Value) (hw : ∀ d ∈ tables_1, d.before a0 Z = true) (p0 : Int64) (p1 : Int64) (p2 : Int32) (cs : Int32) (fv : Value) (h0 : Heap) (n0 : Nat) (zCS : Sta Z Z.heap cST "COMPACT_STRINGS" "Z" (.int cs)) (zF : Sta Z Z.heap cPR "SIOOBE_FORMATTER" "Ljava/util/function/BiFunction;" fv) (hcs : ¬ (cs = (0 : Int32))) (hfv : fv = .null ∨ ∃ fa : Addr, fv = .ref fa) (hh7 : Jvm.Lit.constHeld Z cST 7) (hcw : Jvm.Lit.compactW.before a0 Z = true) {p : Program} {e : Env} {s : State} {m : MethodId} {below : List Frame} {meth : Method} {c : Code} (hx : p.tables.exec = Jvm.exec) (hby : c.code = code) (hlk : meth.locks = false) (hml : c.maxLocals = 21) (hret : meth.sig.returnType = ret) :
    ∀ (T750 : State) (L750 : List Loc) (h750 : Heap) (vm750 : Vm) (K750 : Nat) (ks : Int64) (u1 : Int64) (u2 : Int64) (u3 : Int64) (b680 : Addr) (b692 : Addr) (b712 : Addr) (v693 : Addr) (v713 : Addr), Stand p l e room_1 (s.setVm vm750) m #[(.long p0), (.long p1), (.int p2)] below meth c T750 L750 13 115 → T750.heap = h750 → Fr n0 L750 → n0 ≤ h750.size → Keep h0 h750 [] → Z.Warmed39 (s.setVm vm750).vm → (s.setVm vm750).vm.findClass cLAW = some m.cls → s.Since vm750 K750 → K750 ≤ h750.size → Em Z vm750 h750 ["signature 1", "signature 2", "digest", "name"] → Old Z n0 h750 → Exa Z h750 b680 cCD → Fld Z h750 b680 cCD "blockSize" "J" (.long ((3 : Int64) <<< ((kF p0) &&& 0x3f).toInt64)) → Fld Z h750 b680 cCD "signature1" "Ljava/lang/String;" (.ref b692) → Fld Z h750 b680 cCD "signature2" "Ljava/lang/String;" (.ref b712) → Exa Z h750 b692 cST → Fld Z h750 b692 cST "coder" "B" (.int (0 : Int32)) → Fld Z h750 b692 cST "value" "[B" (.ref v693) → Ia Z h750 v693 .byte (sgA p0) → Exa Z h750 b712 cST → Fld Z h750 b712 cST "coder" "B" (.int (0 : Int32)) → Fld Z h750 b712 cST "value" "[B" (.ref v713) → Ia Z h750 v713 .byte (sgB p0) → Go p e below (T750.setTop (mkF m 91 #[.val (.long p0), .second, .val (.long p1), .second, .val (.int p2), .val (.long ks), .second, .val (.long u1), .second, .val (.long u2), .second, .val (.long u3), .second, .val (.ref b680), .unset, .unset, .unset, .unset, .unset, .unset, .unset] [])) (DoneW s (Q_rm0 Z p0 p1 p2 cs fv h0 n0) room_1.cells room_1.slots) := by
  intro T750 L750 h750 vm750 K750 ks u1 u2 u3 b680 b692 b712 v693 v713 X750 e750 N750 z750 k750 hZ hown hS750 hk750 I750 lf0_750 lf1_750 lf2_750 lf3_750 lf4_750 lf5_750 lf6_750 lf7_750 lf8_750 lf9_750 lf10_750 lf11_750 lf12_750 
  show Go p e below (T750.setTop (mkF m 91 #[.val (.long p0), .second, .val (.long p1), .second, .val (.int p2), .val (.long ks), .second, .val (.long u1), .second, .val (.long u2), .second, .val (.long u3), .second, .val (.ref b680), .unset, .unset, .unset, .unset, .unset, .unset, .unset] [])) _
  obtain ⟨T751, h751, X751, e751, E751, A751, D751, -, st751⟩ := newO X750 hx hZ hown (tw hw 0 rfl) (tw hw 1 rfl) (tw hw 2 rfl) e750 (g := (mkF m 91 #[.val (.long p0), .second, .val (.long p1), .second, .val (.int p2), .val (.long ks), .second, .val (.long u1), .second, .val (.long u2), .second, .val (.long u3), .second, .val (.ref b680), .unset, .unset, .unset, .unset, .unset, .unset, .unset] [])) rfl (hb hby at_91) (by decide) (by decide)
  obtain ⟨b751, g751⟩ : ∃ z, z = h750.size := ⟨_, rfl⟩
  rw [← g751] at A751 D751 st751
  have ne752 : b680 ≠ b751 := Nat.ne_of_lt (Nat.lt_of_lt_of_le lf1_750.lt (Nat.le_of_eq g751.symm))
  have ne753 : b692 ≠ b751 := Nat.ne_of_lt (Nat.lt_of_lt_of_le lf5_750.lt (Nat.le_of_eq g751.symm))
  have ne754 : b712 ≠ b751 := Nat.ne_of_lt (Nat.lt_of_lt_of_le lf9_750.lt (Nat.le_of_eq g751.symm))
  have ne755 : v693 ≠ b751 := Nat.ne_of_lt (Nat.lt_of_lt_of_le lf8_750.lt (Nat.le_of_eq g751.symm))
  have ne756 : v713 ≠ b751 := Nat.ne_of_lt (Nat.lt_of_lt_of_le lf12_750.lt (Nat.le_of_eq g751.symm))
  have ge757 : n0 ≤ b751 := Nat.le_trans z750 (Nat.le_of_eq g751.symm)
  have sz758 : h0.size ≤ b751 := Nat.le_trans k750.1 (Nat.le_of_eq g751.symm)
  refine Go.via (st751) ?_
  clear st751
  have f759 : Fld Z h751 b751 cCD "blockSize" "J" (.long (0 : Int64)) := D751 (Or.inr (tw hw 73 rfl)) (ty := .long) (by decide)
  have f760 : Fld Z h751 b751 cCD "signature1" "Ljava/lang/String;" .null := D751 (Or.inr (tw hw 75 rfl)) (ty := (.object cST)) (by decide)
  have f761 : Fld Z h751 b751 cCD "signature2" "Ljava/lang/String;" .null := D751 (Or.inr (tw hw 77 rfl)) (ty := (.object cST)) (by decide)
  clear X750 e750
  show Go p e below (T751.setTop (mkF m 94 #[.val (.long p0), .second, .val (.long p1), .second, .val (.int p2), .val (.long ks), .second, .val (.long u1), .second, .val (.long u2), .second, .val (.long u3), .second, .val (.ref b680), .unset, .unset, .unset, .unset, .unset, .unset, .unset] [(.ref b751)])) _
  refine Go.via (fun _ => XS.dup X751.here hx rfl (hb hby at_94) rfl rfl) ?_
  refine Go.via (X751.ldc2Long hx hown (mvT hZ (tw hw 3 rfl)) (g := (mkF m 95 #[.val (.long p0), .second, .val (.long p1), .second, .val (.int p2), .val (.long ks), .second, .val (.long u1), .second, .val (.long u2), .second, .val (.long u3), .second, .val (.ref b680), .unset, .unset, .unset, .unset, .unset, .unset, .unset] [(.ref b751), (.ref b751)])) rfl (hb hby at_95)) ?_
  show Go p e below (T751.setTop (mkF m 98 #[.val (.long p0), .second, .val (.long p1), .second, .val (.int p2), .val (.long ks), .second, .val (.long u1), .second, .val (.long u2), .second, .val (.long u3), .second, .val (.ref b680), .unset, .unset, .unset, .unset, .unset, .unset, .unset] [(.long (3 : Int64)), (.ref b751), (.ref b751)])) _
  refine Go.via (fun _ => XS.lload X751.here hx rfl (hb hby at_98) rfl) ?_
  have z763 : n0 ≤ h751.size := (Nat.le_trans z750 E751.1)
  obtain ⟨r762, _, ⟨T762, L762, k762, n762⟩, -, X762, ⟨Lc762, hQ762, l762, y762, z762⟩, st762⟩ := Jvm.LawKit.callS X751 hx (y := (⟨cLAW, "k", "(J)I"⟩ : MethodName)) hown (mvT hZ (tw hw 4 rfl)) (mvT hZ (tw hw 5 rfl)) (mvT hZ (tw hw 6 rfl)) (mvT hZ (tw hw 7 rfl)) (by decide) (backOf (W := 4) (rmK l Z a0 hw [] ks  h751 n0 z763) hZ (tw hw 7 rfl) (tw hw 6 rfl) (by decide) (by decide)) (g := (mkF m 100 #[.val (.long p0), .second, .val (.long p1), .second, .val (.int p2), .val (.long ks), .second, .val (.long u1), .second, .val (.long u2), .second, .val (.long u3), .second, .val (.ref b680), .unset, .unset, .unset, .unset, .unset, .unset, .unset] [(.long ks), (.long (3 : Int64)), (.ref b751), (.ref b751)])) rfl (by rw [hml]; rfl) (argsL := [(.long ks)]) (rest := [(.long (3 : Int64)), (.ref b751), (.ref b751)]) (lenOf pd__28J_29I rfl) rfl (by show 2 * 0 + _ ≤ _; exact Nat.le_of_eq rfl) (hb hby at_100) (fun _ _ => ⟨rfl, e751, (by decide : 14 + 0 ≤ _), (by decide : 118 + 0 ≤ _)⟩)
  dsimp only [Pt.U, Pt.locs, Pt.cells, Pt.slots] at X762 l762 y762 z762 st762 hQ762
  rw [l762, y762, z762] at X762
  clear l762 y762 z762
  obtain ⟨hr762, N762q, eh762⟩ := hQ762
  rw [hr762] at st762
  clear hr762
  rw [N762q, List.append_nil] at X762
  refine Go.via (st762) ?_
  clear st762
  have e762 : T762.heap = h751 := eh762
  clear X751 e751
  show Go p e below (T762.setTop (mkF m 103 #[.val (.long p0), .second, .val (.long p1), .second, .val (.int p2), .val (.long ks), .second, .val (.long u1), .second, .val (.long u2), .second, .val (.long u3), .second, .val (.ref b680), .unset, .unset, .unset, .unset, .unset, .unset, .unset] [(.int (kF ks)), (.long (3 : Int64)), (.ref b751), (.ref b751)])) _
  refine Go.via (fun _ => XS.lshl X762.here hx rfl (hb hby at_103) rfl) ?_
  show Go p e below (T762.setTop (mkF m 104 #[.val (.long p0), .second, .val (.long p1), .second, .val (.int p2), .val (.long ks), .second, .val (.long u1), .second, .val (.long u2), .second, .val (.long u3), .second, .val (.ref b680), .unset, .unset, .unset, .unset, .unset, .unset, .unset] [(.long ((3 : Int64) <<< ((kF ks) &&& 0x3f).toInt64)), (.ref b751), (.ref b751)])) _
  refine Go.via (fun _ => XS.lload X762.here hx rfl (hb hby at_104) rfl) ?_
  refine Go.via (fun _ => XS.iconst X762.here hx rfl (hb hby at_106)) ?_
  refine Go.via (fun _ => XS.bipush X762.here hx rfl (hb hby at_107)) ?_
  refine Go.via (fun _ => XS.iconst X762.here hx rfl (hb hby at_109)) ?_
  show Go p e below (T762.setTop (mkF m 110 #[.val (.long p0), .second, .val (.long p1), .second, .val (.int p2), .val (.long ks), .second, .val (.long u1), .second, .val (.long u2), .second, .val (.long u3), .second, .val (.ref b680), .unset, .unset, .unset, .unset, .unset, .unset, .unset] [(.int (1 : Int32)), (.int (6 : Int32)), (.int (5 : Int32)), (.long u1), (.long ((3 : Int64) <<< ((kF ks) &&& 0x3f).toInt64)), (.ref b751), (.ref b751)])) _
  have o764 : Old Z n0 h751 := (lf0_750.ext E751)
  have em766 : Em Z vm750 h751 ["signature 1", "signature 2", "digest", "name"] := (I750.ext E751)
  have hk767 : _ ≤ h751.size := (Nat.le_trans hk750 E751.1)
  obtain ⟨r765, _, ⟨T765, L765, k765, n765⟩, -, X765, h2765, gS765, ⟨Lc765, hQ765, l765, y765, z765⟩, st765⟩ := Jvm.RoadKit.callSS X762 hx (y := (⟨cLAW, "str", "(JIIZ)Ljava/lang/String;"⟩ : MethodName)) hown (mvT hZ (tw hw 9 rfl)) (mvT hZ (tw hw 10 rfl)) (mvT hZ (tw hw 6 rfl)) (mvT hZ (tw hw 11 rfl)) (by decide) (backOfV (W := 4) (V := V_rmStsgA Z u1 (5 : Int32) (6 : Int32) (1 : Int32) cs h751) (rmStsgA l Z a0 hw [] u1 (5 : Int32) (6 : Int32) (1 : Int32) cs h751 n0 z763 o764 zCS hcs hh7 hcw rfl rfl rfl) hZ (tw hw 11 rfl) (tw hw 6 rfl) (by decide) (by decide) (fun vm' hW => ⟨Em.still em766 hW.interned_eq (w39 hW.wide), trivial⟩)) (g := (mkF m 110 #[.val (.long p0), .second, .val (.long p1), .second, .val (.int p2), .val (.long ks), .second, .val (.long u1), .second, .val (.long u2), .second, .val (.long u3), .second, .val (.ref b680), .unset, .unset, .unset, .unset, .unset, .unset, .unset] [(.int (1 : Int32)), (.int (6 : Int32)), (.int (5 : Int32)), (.long u1), (.long ((3 : Int64) <<< ((kF ks) &&& 0x3f).toInt64)), (.ref b751), (.ref b751)])) rfl (by rw [hml]; rfl) (argsL := [(.long u1), (.int (5 : Int32)), (.int (6 : Int32)), (.int (1 : Int32))]) (rest := [(.long ((3 : Int64) <<< ((kF ks) &&& 0x3f).toInt64)), (.ref b751), (.ref b751)]) (lenOf pd__28JIIZ_29Ljava_2flang_2fString_3b rfl) rfl (by show 2 * 0 + _ ≤ _; exact Nat.le_of_eq rfl) (hb hby at_110) (fun _ _ => ⟨rfl, e762, (by decide : 14 + 4 ≤ _), (by decide : 118 + 8 ≤ _)⟩)
  dsimp only [Pt.U, Pt.locs, Pt.cells, Pt.slots] at X765 l765 y765 z765 st765 hQ765 h2765 gS765
  rw [l765, y765, z765] at X765
  clear l765 y765 z765
  obtain ⟨b768, v769, hr765, N765q, K765q, fz_b768, f770, f771, f772, f773, I765⟩ := hQ765
  rw [hr765] at st765
  clear hr765
  have N765 := Fr.app N750 N765q
  refine Go.via (fun _ kQ => st765.trans kQ) ?_
  clear st765
  have f774 : Exa Z h751 b680 cCD := (lf1_750.ext E751)
  have ne775 : b680 ≠ b768 := Nat.ne_of_lt (Nat.lt_of_lt_of_le f774.lt fz_b768)
  have f776 : Exa Z h751 b692 cST := (lf5_750.ext E751)
  have ne777 : b692 ≠ b768 := Nat.ne_of_lt (Nat.lt_of_lt_of_le f776.lt fz_b768)
  have f778 : Exa Z h751 b712 cST := (lf9_750.ext E751)
  have ne779 : b712 ≠ b768 := Nat.ne_of_lt (Nat.lt_of_lt_of_le f778.lt fz_b768)
  have ne780 : b751 ≠ b768 := Nat.ne_of_lt (Nat.lt_of_lt_of_le A751.lt fz_b768)
  have f781 : Ia Z h751 v693 .byte (sgA p0) := (lf8_750.ext E751)
  have ne782 : v693 ≠ b768 := Nat.ne_of_lt (Nat.lt_of_lt_of_le f781.lt fz_b768)
  have f783 : Ia Z h751 v713 .byte (sgB p0) := (lf12_750.ext E751)
  have ne784 : v713 ≠ b768 := Nat.ne_of_lt (Nat.lt_of_lt_of_le f783.lt fz_b768)
  have ge785 : n0 ≤ b768 := Nat.le_trans z763 fz_b768
  have k787 : Keep h0 h751 [] := (k750.ext E751)
  have sz786 : h0.size ≤ b768 := Nat.le_trans k787.1 fz_b768
  have e765 : T765.heap = T765.heap := rfl
  have f788 : Exa Z T765.heap b768 cST := f770
  have f789 : Fld Z T765.heap b768 cST "coder" "B" (.int (0 : Int32)) := f771
  have f790 : Fld Z T765.heap b768 cST "value" "[B" (.ref v769) := f772
  have f791 : Ia Z T765.heap v769 .byte (sgA u1) := f773
  have f792 : Exa Z T765.heap b680 cCD := (f774.keep K765q)
  have ne793 : v769 ≠ b680 := Ia.neE (a0 := a0) f791 f792 (tw hw 1 rfl)
  have f794 : Exa Z T765.heap b692 cST := (f776.keep K765q)
  have ne795 : v769 ≠ b692 := Ia.neE (a0 := a0) f791 f794 (tw hw 19 rfl)
  have f796 : Exa Z T765.heap b712 cST := (f778.keep K765q)
  have ne797 : v769 ≠ b712 := Ia.neE (a0 := a0) f791 f796 (tw hw 19 rfl)
  have f798 : Exa Z T765.heap b751 cCD := (A751.keep K765q)
  have ne799 : v769 ≠ b751 := Ia.neE (a0 := a0) f791 f798 (tw hw 1 rfl)
  have ne800 : v769 ≠ b768 := Ia.neE (a0 := a0) f791 f788 (tw hw 19 rfl)
  obtain ⟨X765r, hS765, hZ, hown⟩ := rebS hS750 (Nat.le_trans hk767 (Nat.le_of_eq (congrArg Array.size (Eq.symm e762)))) X765 h2765 gS765 hZ hown
  clear X765 h2765 gS765
  clear X762 e762
  show Go p e below (T765.setTop (mkF m 113 #[.val (.long p0), .second, .val (.long p1), .second, .val (.int p2), .val (.long ks), .second, .val (.long u1), .second, .val (.long u2), .second, .val (.long u3), .second, .val (.ref b680), .unset, .unset, .unset, .unset, .unset, .unset, .unset] [(.ref b768), (.long ((3 : Int64) <<< ((kF ks) &&& 0x3f).toInt64)), (.ref b751), (.ref b751)])) _
  refine Go.via (fun _ => XS.lload X765r.here hx rfl (hb hby at_113) rfl) ?_
  refine Go.via (fun _ => XS.bipush X765r.here hx rfl (hb hby at_115)) ?_
  refine Go.via (fun _ => XS.bipush X765r.here hx rfl (hb hby at_117)) ?_
  refine Go.via (fun _ => XS.iconst X765r.here hx rfl (hb hby at_119)) ?_
  show Go p e below (T765.setTop (mkF m 120 #[.val (.long p0), .second, .val (.long p1), .second, .val (.int p2), .val (.long ks), .second, .val (.long u1), .second, .val (.long u2), .second, .val (.long u3), .second, .val (.ref b680), .unset, .unset, .unset, .unset, .unset, .unset, .unset] [(.int (1 : Int32)), (.int (6 : Int32)), (.int (19 : Int32)), (.long u2), (.ref b768), (.long ((3 : Int64) <<< ((kF ks) &&& 0x3f).toInt64)), (.ref b751), (.ref b751)])) _
  have o801 : Old Z n0 T765.heap := (o764.keep K765q all0)
  have z803 : n0 ≤ T765.heap.size := (Nat.le_trans z763 K765q.1)
  obtain ⟨r802, _, ⟨T802, L802, k802, n802⟩, -, X802, h2802, gS802, ⟨Lc802, hQ802, l802, y802, z802⟩, st802⟩ := Jvm.RoadKit.callSS X765r hx (y := (⟨cLAW, "str", "(JIIZ)Ljava/lang/String;"⟩ : MethodName)) hown (mvT hZ (tw hw 9 rfl)) (mvT hZ (tw hw 10 rfl)) (mvT hZ (tw hw 6 rfl)) (mvT hZ (tw hw 11 rfl)) (by decide) (backOfV (W := 5) (V := V_rmStsgB Z u2 (19 : Int32) (6 : Int32) (1 : Int32) cs T765.heap) (rmStsgB l Z a0 hw [] u2 (19 : Int32) (6 : Int32) (1 : Int32) cs T765.heap n0 z803 o801 zCS hcs hh7 hcw rfl rfl rfl) hZ (tw hw 11 rfl) (tw hw 6 rfl) (by decide) (by decide) (fun vm' hW => ⟨Em.still I765 hW.interned_eq (w39 hW.wide), trivial⟩)) (g := (mkF m 120 #[.val (.long p0), .second, .val (.long p1), .second, .val (.int p2), .val (.long ks), .second, .val (.long u1), .second, .val (.long u2), .second, .val (.long u3), .second, .val (.ref b680), .unset, .unset, .unset, .unset, .unset, .unset, .unset] [(.int (1 : Int32)), (.int (6 : Int32)), (.int (19 : Int32)), (.long u2), (.ref b768), (.long ((3 : Int64) <<< ((kF ks) &&& 0x3f).toInt64)), (.ref b751), (.ref b751)])) rfl (by rw [hml]; rfl) (argsL := [(.long u2), (.int (19 : Int32)), (.int (6 : Int32)), (.int (1 : Int32))]) (rest := [(.ref b768), (.long ((3 : Int64) <<< ((kF ks) &&& 0x3f).toInt64)), (.ref b751), (.ref b751)]) (lenOf pd__28JIIZ_29Ljava_2flang_2fString_3b rfl) rfl (by show 2 * 0 + _ ≤ _; exact Nat.le_of_eq rfl) (hb hby at_120) (fun _ _ => ⟨rfl, e765, (by decide : 18 + 4 ≤ _), (by decide : 126 + 8 ≤ _)⟩)
  dsimp only [Pt.U, Pt.locs, Pt.cells, Pt.slots] at X802 l802 y802 z802 st802 hQ802 h2802 gS802
  rw [l802, y802, z802] at X802
  clear l802 y802 z802
  obtain ⟨b804, v805, hr802, N802q, K802q, fz_b804, f806, f807, f808, f809, I802⟩ := hQ802
  rw [hr802] at st802
  clear hr802
  have N802 := Fr.app N765 N802q
  refine Go.via (fun _ kQ => st802.trans kQ) ?_
  clear st802
  have ne810 : b680 ≠ b804 := Nat.ne_of_lt (Nat.lt_of_lt_of_le f792.lt fz_b804)
  have ne811 : b692 ≠ b804 := Nat.ne_of_lt (Nat.lt_of_lt_of_le f794.lt fz_b804)
  have ne812 : b712 ≠ b804 := Nat.ne_of_lt (Nat.lt_of_lt_of_le f796.lt fz_b804)
  have ne813 : b751 ≠ b804 := Nat.ne_of_lt (Nat.lt_of_lt_of_le f798.lt fz_b804)
  have ne814 : b768 ≠ b804 := Nat.ne_of_lt (Nat.lt_of_lt_of_le f788.lt fz_b804)
  have f815 : Ia Z T765.heap v693 .byte (sgA p0) := (f781.keep K765q nin0)
  have ne816 : v693 ≠ b804 := Nat.ne_of_lt (Nat.lt_of_lt_of_le f815.lt fz_b804)
  have f817 : Ia Z T765.heap v713 .byte (sgB p0) := (f783.keep K765q nin0)
  have ne818 : v713 ≠ b804 := Nat.ne_of_lt (Nat.lt_of_lt_of_le f817.lt fz_b804)
  have ne819 : v769 ≠ b804 := Nat.ne_of_lt (Nat.lt_of_lt_of_le f791.lt fz_b804)
  have ge820 : n0 ≤ b804 := Nat.le_trans z803 fz_b804
  have k822 : Keep h0 T765.heap [] := (k787.trans K765q all0)
  have sz821 : h0.size ≤ b804 := Nat.le_trans k822.1 fz_b804
  have e802 : T802.heap = T802.heap := rfl
  have f823 : Exa Z T802.heap b804 cST := f806
  have f824 : Fld Z T802.heap b804 cST "coder" "B" (.int (0 : Int32)) := f807
  have f825 : Fld Z T802.heap b804 cST "value" "[B" (.ref v805) := f808
  have f826 : Ia Z T802.heap v805 .byte (sgB u2) := f809
  have f827 : Exa Z T802.heap b680 cCD := (f792.keep K802q)
  have ne828 : v805 ≠ b680 := Ia.neE (a0 := a0) f826 f827 (tw hw 1 rfl)
  have f829 : Exa Z T802.heap b692 cST := (f794.keep K802q)
  have ne830 : v805 ≠ b692 := Ia.neE (a0 := a0) f826 f829 (tw hw 19 rfl)
  have f831 : Exa Z T802.heap b712 cST := (f796.keep K802q)
  have ne832 : v805 ≠ b712 := Ia.neE (a0 := a0) f826 f831 (tw hw 19 rfl)
  have f833 : Exa Z T802.heap b751 cCD := (f798.keep K802q)
  have ne834 : v805 ≠ b751 := Ia.neE (a0 := a0) f826 f833 (tw hw 1 rfl)
  have f835 : Exa Z T802.heap b768 cST := (f788.keep K802q)
  have ne836 : v805 ≠ b768 := Ia.neE (a0 := a0) f826 f835 (tw hw 19 rfl)
  have ne837 : v805 ≠ b804 := Ia.neE (a0 := a0) f826 f823 (tw hw 19 rfl)
  obtain ⟨X802r, hS802, hZ, hown⟩ := rebS hS765 (Nat.le_trans (Nat.le_refl _) (Nat.le_of_eq (congrArg Array.size (Eq.symm e765)))) X802 h2802 gS802 hZ hown
  clear X802 h2802 gS802
  clear X765r e765
  show Go p e below (T802.setTop (mkF m 123 #[.val (.long p0), .second, .val (.long p1), .second, .val (.int p2), .val (.long ks), .second, .val (.long u1), .second, .val (.long u2), .second, .val (.long u3), .second, .val (.ref b680), .unset, .unset, .unset, .unset, .unset, .unset, .unset] [(.ref b804), (.ref b768), (.long ((3 : Int64) <<< ((kF ks) &&& 0x3f).toInt64)), (.ref b751), (.ref b751)])) _
  have f838 : Fld Z T802.heap b751 cCD "blockSize" "J" (.long (0 : Int64)) := ((f759.keep K765q nin0).keep K802q nin0)
  have f839 : Fld Z T802.heap b751 cCD "signature1" "Ljava/lang/String;" .null := ((f760.keep K765q nin0).keep K802q nin0)
  have f840 : Fld Z T802.heap b751 cCD "signature2" "Ljava/lang/String;" .null := ((f761.keep K765q nin0).keep K802q nin0)
  have f841 : Fld Z T802.heap b768 cST "coder" "B" (.int (0 : Int32)) := (f789.keep K802q nin0)
  have f842 : Fld Z T802.heap b768 cST "value" "[B" (.ref v769) := (f790.keep K802q nin0)
  have f843 : Ia Z T802.heap v769 .byte (sgA u1) := (f791.keep K802q nin0)
  have o844 : Old Z n0 T802.heap := (o801.keep K802q all0)
  have z846 : n0 ≤ T802.heap.size := (Nat.le_trans z803 K802q.1)
  obtain ⟨r845, _, ⟨T845, L845, k845, n845⟩, -, X845, h2845, gS845, ⟨Lc845, hQ845, l845, y845, z845⟩, st845⟩ := X802r.specialBackS hx (y := (⟨cCD, "<init>", "(JLjava/lang/String;Ljava/lang/String;)V"⟩ : MethodName)) rfl hown (mvT hZ (tw hw 40 rfl)) (mvT hZ (tw hw 41 rfl)) (mvT hZ (tw hw 42 rfl)) (by decide) (backOfV (W := 1) (V := V_rmDc Z b751 ((3 : Int64) <<< ((kF ks) &&& 0x3f).toInt64) b768 b804 v769 v805 (sgA u1) (sgB u2) cs fv T802.heap) (rmDc l Z a0 hw [] b751 ((3 : Int64) <<< ((kF ks) &&& 0x3f).toInt64) b768 b804 v769 v805 (sgA u1) (sgB u2) cs fv T802.heap n0 z846 f833 f838 f839 f840 f835 f841 f842 f843 f823 f824 f825 f826 o844 zCS zF ge757 (own_SgA _) (own_SgB _) (own_Bv (own_k _)) hcs hfv) hZ (tw hw 42 rfl) (tw hw 2 rfl) (by decide) (by decide) (fun vm' hW => ⟨Em.still I802 hW.interned_eq (w39 hW.wide), trivial⟩)) (g := (mkF m 123 #[.val (.long p0), .second, .val (.long p1), .second, .val (.int p2), .val (.long ks), .second, .val (.long u1), .second, .val (.long u2), .second, .val (.long u3), .second, .val (.ref b680), .unset, .unset, .unset, .unset, .unset, .unset, .unset] [(.ref b804), (.ref b768), (.long ((3 : Int64) <<< ((kF ks) &&& 0x3f).toInt64)), (.ref b751), (.ref b751)])) rfl (by rw [hml]; rfl) (Steps.refl _) (a := b751) (argsL := [(.long ((3 : Int64) <<< ((kF ks) &&& 0x3f).toInt64)), (.ref b768), (.ref b804)]) (rest := [(.ref b751)]) (lenOf pd__28JLjava_2flang_2fString_3bLjava_2flang_2fString_3b_29V rfl) rfl (by show 2 * 0 + _ ≤ _; exact Nat.le_of_eq rfl) (hb hby at_123) (fun _ _ => ⟨rfl, e802, (by decide : 22 + 4 ≤ _), (by decide : 134 + 96 ≤ _)⟩)
  dsimp only [Pt.U, Pt.locs, Pt.cells, Pt.slots] at X845 l845 y845 z845 st845 hQ845 h2845 gS845
  rw [l845, y845, z845] at X845
  clear l845 y845 z845
  obtain ⟨hr845, N845q, K845q, f847, f848, f849, f850, I845⟩ := hQ845
  rw [hr845] at st845
  clear hr845
  have N845 := Fr.app N802 N845q
  refine Go.via (fun _ kQ => st845.trans kQ) ?_
  clear st845
  have e845 : T845.heap = T845.heap := rfl
  have f851 : Exa Z T845.heap b751 cCD := f847
  have f852 : Fld Z T845.heap b751 cCD "blockSize" "J" (.long ((3 : Int64) <<< ((kF ks) &&& 0x3f).toInt64)) := f848
  have f853 : Fld Z T845.heap b751 cCD "signature1" "Ljava/lang/String;" (.ref b768) := f849
  have f854 : Fld Z T845.heap b751 cCD "signature2" "Ljava/lang/String;" (.ref b804) := f850
  obtain ⟨X845r, hS845, hZ, hown⟩ := rebS hS802 (Nat.le_trans (Nat.le_refl _) (Nat.le_of_eq (congrArg Array.size (Eq.symm e802)))) X845 h2845 gS845 hZ hown
  clear X845 h2845 gS845
  clear X802r e802
  show Go p e below (T845.setTop (mkF m 126 #[.val (.long p0), .second, .val (.long p1), .second, .val (.int p2), .val (.long ks), .second, .val (.long u1), .second, .val (.long u2), .second, .val (.long u3), .second, .val (.ref b680), .unset, .unset, .unset, .unset, .unset, .unset, .unset] [(.ref b751)])) _
  refine Go.via (fun _ => XS.astore X845r.here hx rfl (hb hby at_126) rfl rfl (l' := #[.val (.long p0), .second, .val (.long p1), .second, .val (.int p2), .val (.long ks), .second, .val (.long u1), .second, .val (.long u2), .second, .val (.long u3), .second, .val (.ref b680), .val (.ref b751), .unset, .unset, .unset, .unset, .unset, .unset]) rfl) ?_
  have z1113 : n0 ≤ T845.heap.size := (Nat.le_trans z846 K845q.1)
  have k1114 : Keep h0 T845.heap [] := ((k822.trans K802q all0).trans K845q (allS (Or.inr sz758) all0))
  have o1115 : Old Z n0 T845.heap := (o844.keep K845q (allS ge757 all0))
  have f1116 : Exa Z T845.heap b680 cCD := (f827.keep K845q)
  have f1117 : Fld Z T845.heap b680 cCD "blockSize" "J" (.long ((3 : Int64) <<< ((kF p0) &&& 0x3f).toInt64)) := ((((lf2_750.ext E751).keep K765q nin0).keep K802q nin0).keep K845q (ninS ne752 nin0))
  have f1118 : Fld Z T845.heap b680 cCD "signature1" "Ljava/lang/String;" (.ref b692) := ((((lf3_750.ext E751).keep K765q nin0).keep K802q nin0).keep K845q (ninS ne752 nin0))
  have f1119 : Fld Z T845.heap b680 cCD "signature2" "Ljava/lang/String;" (.ref b712) := ((((lf4_750.ext E751).keep K765q nin0).keep K802q nin0).keep K845q (ninS ne752 nin0))
  have f1120 : Exa Z T845.heap b692 cST := (f829.keep K845q)
  have f1121 : Fld Z T845.heap b692 cST "coder" "B" (.int (0 : Int32)) := ((((lf6_750.ext E751).keep K765q nin0).keep K802q nin0).keep K845q (ninS ne753 nin0))
  have f1122 : Fld Z T845.heap b692 cST "value" "[B" (.ref v693) := ((((lf7_750.ext E751).keep K765q nin0).keep K802q nin0).keep K845q (ninS ne753 nin0))
  have f1123 : Ia Z T845.heap v693 .byte (sgA p0) := ((f815.keep K802q nin0).keep K845q (ninS ne755 nin0))
  have f1124 : Exa Z T845.heap b712 cST := (f831.keep K845q)
  have f1125 : Fld Z T845.heap b712 cST "coder" "B" (.int (0 : Int32)) := ((((lf10_750.ext E751).keep K765q nin0).keep K802q nin0).keep K845q (ninS ne754 nin0))
  have f1126 : Fld Z T845.heap b712 cST "value" "[B" (.ref v713) := ((((lf11_750.ext E751).keep K765q nin0).keep K802q nin0).keep K845q (ninS ne754 nin0))
  have f1127 : Ia Z T845.heap v713 .byte (sgB p0) := ((f817.keep K802q nin0).keep K845q (ninS ne756 nin0))
  have f1128 : Exa Z T845.heap b768 cST := (f835.keep K845q)
  have f1129 : Fld Z T845.heap b768 cST "coder" "B" (.int (0 : Int32)) := (f841.keep K845q (ninS (Ne.symm ne780) nin0))
  have f1130 : Fld Z T845.heap b768 cST "value" "[B" (.ref v769) := (f842.keep K845q (ninS (Ne.symm ne780) nin0))
  have f1131 : Ia Z T845.heap v769 .byte (sgA u1) := (f843.keep K845q (ninS ne799 nin0))
  have f1132 : Exa Z T845.heap b804 cST := (f823.keep K845q)
  have f1133 : Fld Z T845.heap b804 cST "coder" "B" (.int (0 : Int32)) := (f824.keep K845q (ninS (Ne.symm ne813) nin0))
  have f1134 : Fld Z T845.heap b804 cST "value" "[B" (.ref v805) := (f825.keep K845q (ninS (Ne.symm ne813) nin0))
  have f1135 : Ia Z T845.heap v805 .byte (sgB u2) := (f826.keep K845q (ninS ne834 nin0))
  exact rm_rm0_l128_2 l Z a0 hw p0 p1 p2 cs fv h0 n0 zCS zF hcs hfv hh7 hcw hx hby hlk hml hret T845 _ T845.heap T845.vm _ ks u1 u2 u3 b680 b692 b712 b751 b768 b804 v693 v713 v769 v805 X845r e845 N845 z1113 k1114 hZ hown hS845 (Nat.le_refl _) I845 o1115 f1116 f1117 f1118 f1119 f1120 f1121 f1122 f1123 f1124 f1125 f1126 f1127 f851 f852 f853 f854 f1128 f1129 f1130 f1131 f1132 f1133 f1134 f1135 ne752 ne777 ne812
theorem pn_0 : plainName cLAW = true := by first | (simp [plainName, overriddenIn]; done) | decide +kernel
theorem ef_0 (m : MethodId) (x0 : Int64) (x1 : Int64) (x2 : Int32) : entryFrame m #[(.long x0), (.long x1), (.int x2)] maxLocals = mkF m 0 #[.val (.long x0), .second, .val (.long x1), .second, .val (.int x2), .unset, .unset, .unset, .unset, .unset, .unset, .unset, .unset, .unset, .unset, .unset, .unset, .unset, .unset, .unset, .unset] [] := by first | (simp [entryFrame, mkF, argsToLocals, Value.category, maxLocals]; done) | rfl
set_option maxRecDepth 65536 in
set_option maxHeartbeats 40000000 in
theorem rm0 (l : Launch) (Z : State) (a0 : Array Value) (hw : ∀ d ∈ tables_1, d.before a0 Z = true) (ws : List Jvm.Cond) (p0 : Int64) (p1 : Int64) (p2 : Int32) (cs : Int32) (fv : Value) (h0 : Heap) (n0 : Nat) (Z0 : n0 ≤ h0.size) (P0 : Old Z n0 h0) (zCS : Sta Z Z.heap cST "COMPACT_STRINGS" "Z" (.int cs)) (zF : Sta Z Z.heap cPR "SIOOBE_FORMATTER" "Ljava/util/function/BiFunction;" fv) (hcs : ¬ (cs = (0 : Int32))) (hfv : fv = .null ∨ ∃ fa : Addr, fv = .ref fa) (hh7 : Jvm.Lit.constHeld Z cST 7) (hcw : Jvm.Lit.compactW.before a0 Z = true) :
    MetFree l x (head1 (Jvm.Cond.code x code maxLocals ret :: ws) room_1) (fun aQ UQ => aQ = #[(.long p0), (.long p1), (.int p2)] ∧ Z.Warmed39 UQ.vm ∧ UQ.heap = h0 ∧ V_rm0 Z p0 p1 p2 cs fv h0 UQ.vm) (fun _ _ _ _ _ => True) (fun _ UQ oQ UR => ∃ vQ LQ, oQ = .returned vQ ∧ Q_rm0 Z p0 p1 p2 cs fv h0 n0 vQ UR.heap UR.vm LQ ∧ ReturnedEndW UQ oQ UR LQ room_1.cells room_1.slots) := by
  refine MetFree.of_bodySF (plainFor_of_name pn_0) hisR ?_
  intro p e s m args below meth c s₁ Bd hml0 hP hK
  obtain ⟨rfl, hZ0, hh, hV⟩ := hP
  obtain ⟨I0, -⟩ := hV
  have hx := Bd.exec
  have hby := Bd.bytes
  have hlk := Bd.notSynchronized
  have hml : c.maxLocals = 21 := hml0
  have hnm := (name_of_methodNamed Bd.named Bd.method).1
  have e0 : s₁.heap = h0 := by rw [← hh, Bd.state]; rfl
  have N0 := Fr.nil n0
  have hZ : Z.Warmed39 (s.setVm s.vm).vm := hZ0
  have hown : (s.setVm s.vm).vm.findClass cLAW = some m.cls := findClass_of_methodNamed Bd.named
  have X0 : Stand p l e room_1 (s.setVm s.vm) m #[(.long p0), (.long p1), (.int p2)] below meth c s₁ [] 0 0 := Stand.of_body Bd
  have hS0 : s.Since s.vm s.heap.size := (State.WarmedH.refl _).since _
  have hk0 : s.heap.size ≤ h0.size := Nat.le_of_eq (congrArg Array.size hh)
  show Go p e below _ (DoneW s (Q_rm0 Z p0 p1 p2 cs fv h0 n0) room_1.cells room_1.slots)
  refine Go.via (fun tQ kQ => castTop (ef_0 m p0 p1 p2) kQ) ?_
  show Go p e below (s₁.setTop (mkF m 0 #[.val (.long p0), .second, .val (.long p1), .second, .val (.int p2), .unset, .unset, .unset, .unset, .unset, .unset, .unset, .unset, .unset, .unset, .unset, .unset, .unset, .unset, .unset, .unset] [])) _
  refine Go.via (fun _ => XS.iload X0.here hx rfl (hb hby at_0) rfl) ?_
  refine Go.via (fun _ => XS.iconst X0.here hx rfl (hb hby at_2)) ?_
  refine Go.via (fun _ => XS.iand X0.here hx rfl (hb hby at_3) rfl) ?_
  show Go p e below (s₁.setTop (mkF m 4 #[.val (.long p0), .second, .val (.long p1), .second, .val (.int p2), .unset, .unset, .unset, .unset, .unset, .unset, .unset, .unset, .unset, .unset, .unset, .unset, .unset, .unset, .unset, .unset] [(.int (p2 &&& (1 : Int32)))])) _
  suffices hm673 : Go p e below (s₁.setTop (mkF m 12 #[.val (.long p0), .second, .val (.long p1), .second, .val (.int p2), .unset, .unset, .unset, .unset, .unset, .unset, .unset, .unset, .unset, .unset, .unset, .unset, .unset, .unset, .unset, .unset] [(.long (if (p2 &&& (1 : Int32)) = (0 : Int32) then p1 else p0))])) (DoneW s (Q_rm0 Z p0 p1 p2 cs fv h0 n0) room_1.cells room_1.slots) by
    by_cases hc672 : (p2 &&& (1 : Int32)) = (0 : Int32)
    · rw [if_pos hc672] at hm673
      refine Go.via (fun _ => XS.ifYes X0.here hx rfl (pc0 := 4) (pc' := 11) rfl (hb hby at_4) rfl ((if0 _ _).trans (teq (hc672 : (p2 &&& (1 : Int32)) = (0 : Int32))).1) (by decide) (by decide)) ?_
      show Go p e below (s₁.setTop (mkF m 11 #[.val (.long p0), .second, .val (.long p1), .second, .val (.int p2), .unset, .unset, .unset, .unset, .unset, .unset, .unset, .unset, .unset, .unset, .unset, .unset, .unset, .unset, .unset, .unset] [])) _
      refine Go.via (fun _ => XS.lloadN X0.here hx rfl (hb hby at_11) rfl) ?_
      exact hm673
    · rw [if_neg hc672] at hm673
      refine Go.via (fun _ => XS.ifNo X0.here hx rfl (hb hby at_4) rfl ((if0 _ _).trans (feq (hc672 : ¬ ((p2 &&& (1 : Int32)) = (0 : Int32)))).1)) ?_
      show Go p e below (s₁.setTop (mkF m 7 #[.val (.long p0), .second, .val (.long p1), .second, .val (.int p2), .unset, .unset, .unset, .unset, .unset, .unset, .unset, .unset, .unset, .unset, .unset, .unset, .unset, .unset, .unset, .unset] [])) _
      refine Go.via (fun _ => XS.lloadN X0.here hx rfl (hb hby at_7) rfl) ?_
      refine Go.via (fun _ => XS.goto X0.here hx rfl (pc0 := 8) (pc' := 12) rfl (hb hby at_8) (by decide) (by decide)) ?_
      exact hm673
  show Go p e below (s₁.setTop (mkF m 12 #[.val (.long p0), .second, .val (.long p1), .second, .val (.int p2), .unset, .unset, .unset, .unset, .unset, .unset, .unset, .unset, .unset, .unset, .unset, .unset, .unset, .unset, .unset, .unset] [(.long (if (p2 &&& (1 : Int32)) = (0 : Int32) then p1 else p0))])) _
  generalize hv_ks : (if (p2 &&& (1 : Int32)) = (0 : Int32) then p1 else p0) = ks
  show Go p e below (s₁.setTop (mkF m 12 #[.val (.long p0), .second, .val (.long p1), .second, .val (.int p2), .unset, .unset, .unset, .unset, .unset, .unset, .unset, .unset, .unset, .unset, .unset, .unset, .unset, .unset, .unset, .unset] [(.long ks)])) _
  refine Go.via (fun _ => XS.lstore X0.here hx rfl (hb hby at_12) rfl (l' := #[.val (.long p0), .second, .val (.long p1), .second, .val (.int p2), .val (.long ks), .second, .unset, .unset, .unset, .unset, .unset, .unset, .unset, .unset, .unset, .unset, .unset, .unset, .unset, .unset]) rfl) ?_
  show Go p e below (s₁.setTop (mkF m 14 #[.val (.long p0), .second, .val (.long p1), .second, .val (.int p2), .val (.long ks), .second, .unset, .unset, .unset, .unset, .unset, .unset, .unset, .unset, .unset, .unset, .unset, .unset, .unset, .unset] [])) _
  refine Go.via (fun _ => XS.iload X0.here hx rfl (hb hby at_14) rfl) ?_
  refine Go.via (fun _ => XS.iconst X0.here hx rfl (hb hby at_16)) ?_
  refine Go.via (fun _ => XS.iand X0.here hx rfl (hb hby at_17) rfl) ?_
  show Go p e below (s₁.setTop (mkF m 18 #[.val (.long p0), .second, .val (.long p1), .second, .val (.int p2), .val (.long ks), .second, .unset, .unset, .unset, .unset, .unset, .unset, .unset, .unset, .unset, .unset, .unset, .unset, .unset, .unset] [(.int (p2 &&& (2 : Int32)))])) _
  suffices hm675 : Go p e below (s₁.setTop (mkF m 26 #[.val (.long p0), .second, .val (.long p1), .second, .val (.int p2), .val (.long ks), .second, .unset, .unset, .unset, .unset, .unset, .unset, .unset, .unset, .unset, .unset, .unset, .unset, .unset, .unset] [(.long (if (p2 &&& (2 : Int32)) = (0 : Int32) then p1 else p0))])) (DoneW s (Q_rm0 Z p0 p1 p2 cs fv h0 n0) room_1.cells room_1.slots) by
    by_cases hc674 : (p2 &&& (2 : Int32)) = (0 : Int32)
    · rw [if_pos hc674] at hm675
      refine Go.via (fun _ => XS.ifYes X0.here hx rfl (pc0 := 18) (pc' := 25) rfl (hb hby at_18) rfl ((if0 _ _).trans (teq (hc674 : (p2 &&& (2 : Int32)) = (0 : Int32))).1) (by decide) (by decide)) ?_
      show Go p e below (s₁.setTop (mkF m 25 #[.val (.long p0), .second, .val (.long p1), .second, .val (.int p2), .val (.long ks), .second, .unset, .unset, .unset, .unset, .unset, .unset, .unset, .unset, .unset, .unset, .unset, .unset, .unset, .unset] [])) _
      refine Go.via (fun _ => XS.lloadN X0.here hx rfl (hb hby at_25) rfl) ?_
      exact hm675
    · rw [if_neg hc674] at hm675
      refine Go.via (fun _ => XS.ifNo X0.here hx rfl (hb hby at_18) rfl ((if0 _ _).trans (feq (hc674 : ¬ ((p2 &&& (2 : Int32)) = (0 : Int32)))).1)) ?_
      show Go p e below (s₁.setTop (mkF m 21 #[.val (.long p0), .second, .val (.long p1), .second, .val (.int p2), .val (.long ks), .second, .unset, .unset, .unset, .unset, .unset, .unset, .unset, .unset, .unset, .unset, .unset, .unset, .unset, .unset] [])) _
      refine Go.via (fun _ => XS.lloadN X0.here hx rfl (hb hby at_21) rfl) ?_
      refine Go.via (fun _ => XS.goto X0.here hx rfl (pc0 := 22) (pc' := 26) rfl (hb hby at_22) (by decide) (by decide)) ?_
      exact hm675
  show Go p e below (s₁.setTop (mkF m 26 #[.val (.long p0), .second, .val (.long p1), .second, .val (.int p2), .val (.long ks), .second, .unset, .unset, .unset, .unset, .unset, .unset, .unset, .unset, .unset, .unset, .unset, .unset, .unset, .unset] [(.long (if (p2 &&& (2 : Int32)) = (0 : Int32) then p1 else p0))])) _
  generalize hv_u1 : (if (p2 &&& (2 : Int32)) = (0 : Int32) then p1 else p0) = u1
  show Go p e below (s₁.setTop (mkF m 26 #[.val (.long p0), .second, .val (.long p1), .second, .val (.int p2), .val (.long ks), .second, .unset, .unset, .unset, .unset, .unset, .unset, .unset, .unset, .unset, .unset, .unset, .unset, .unset, .unset] [(.long u1)])) _
  refine Go.via (fun _ => XS.lstore X0.here hx rfl (hb hby at_26) rfl (l' := #[.val (.long p0), .second, .val (.long p1), .second, .val (.int p2), .val (.long ks), .second, .val (.long u1), .second, .unset, .unset, .unset, .unset, .unset, .unset, .unset, .unset, .unset, .unset, .unset, .unset]) rfl) ?_
  show Go p e below (s₁.setTop (mkF m 28 #[.val (.long p0), .second, .val (.long p1), .second, .val (.int p2), .val (.long ks), .second, .val (.long u1), .second, .unset, .unset, .unset, .unset, .unset, .unset, .unset, .unset, .unset, .unset, .unset, .unset] [])) _
  refine Go.via (fun _ => XS.iload X0.here hx rfl (hb hby at_28) rfl) ?_
  refine Go.via (fun _ => XS.iconst X0.here hx rfl (hb hby at_30)) ?_
  refine Go.via (fun _ => XS.iand X0.here hx rfl (hb hby at_31) rfl) ?_
  show Go p e below (s₁.setTop (mkF m 32 #[.val (.long p0), .second, .val (.long p1), .second, .val (.int p2), .val (.long ks), .second, .val (.long u1), .second, .unset, .unset, .unset, .unset, .unset, .unset, .unset, .unset, .unset, .unset, .unset, .unset] [(.int (p2 &&& (4 : Int32)))])) _
  suffices hm677 : Go p e below (s₁.setTop (mkF m 40 #[.val (.long p0), .second, .val (.long p1), .second, .val (.int p2), .val (.long ks), .second, .val (.long u1), .second, .unset, .unset, .unset, .unset, .unset, .unset, .unset, .unset, .unset, .unset, .unset, .unset] [(.long (if (p2 &&& (4 : Int32)) = (0 : Int32) then p1 else p0))])) (DoneW s (Q_rm0 Z p0 p1 p2 cs fv h0 n0) room_1.cells room_1.slots) by
    by_cases hc676 : (p2 &&& (4 : Int32)) = (0 : Int32)
    · rw [if_pos hc676] at hm677
      refine Go.via (fun _ => XS.ifYes X0.here hx rfl (pc0 := 32) (pc' := 39) rfl (hb hby at_32) rfl ((if0 _ _).trans (teq (hc676 : (p2 &&& (4 : Int32)) = (0 : Int32))).1) (by decide) (by decide)) ?_
      show Go p e below (s₁.setTop (mkF m 39 #[.val (.long p0), .second, .val (.long p1), .second, .val (.int p2), .val (.long ks), .second, .val (.long u1), .second, .unset, .unset, .unset, .unset, .unset, .unset, .unset, .unset, .unset, .unset, .unset, .unset] [])) _
      refine Go.via (fun _ => XS.lloadN X0.here hx rfl (hb hby at_39) rfl) ?_
      exact hm677
    · rw [if_neg hc676] at hm677
      refine Go.via (fun _ => XS.ifNo X0.here hx rfl (hb hby at_32) rfl ((if0 _ _).trans (feq (hc676 : ¬ ((p2 &&& (4 : Int32)) = (0 : Int32)))).1)) ?_
      show Go p e below (s₁.setTop (mkF m 35 #[.val (.long p0), .second, .val (.long p1), .second, .val (.int p2), .val (.long ks), .second, .val (.long u1), .second, .unset, .unset, .unset, .unset, .unset, .unset, .unset, .unset, .unset, .unset, .unset, .unset] [])) _
      refine Go.via (fun _ => XS.lloadN X0.here hx rfl (hb hby at_35) rfl) ?_
      refine Go.via (fun _ => XS.goto X0.here hx rfl (pc0 := 36) (pc' := 40) rfl (hb hby at_36) (by decide) (by decide)) ?_
      exact hm677
  show Go p e below (s₁.setTop (mkF m 40 #[.val (.long p0), .second, .val (.long p1), .second, .val (.int p2), .val (.long ks), .second, .val (.long u1), .second, .unset, .unset, .unset, .unset, .unset, .unset, .unset, .unset, .unset, .unset, .unset, .unset] [(.long (if (p2 &&& (4 : Int32)) = (0 : Int32) then p1 else p0))])) _
  generalize hv_u2 : (if (p2 &&& (4 : Int32)) = (0 : Int32) then p1 else p0) = u2
  show Go p e below (s₁.setTop (mkF m 40 #[.val (.long p0), .second, .val (.long p1), .second, .val (.int p2), .val (.long ks), .second, .val (.long u1), .second, .unset, .unset, .unset, .unset, .unset, .unset, .unset, .unset, .unset, .unset, .unset, .unset] [(.long u2)])) _
  refine Go.via (fun _ => XS.lstore X0.here hx rfl (hb hby at_40) rfl (l' := #[.val (.long p0), .second, .val (.long p1), .second, .val (.int p2), .val (.long ks), .second, .val (.long u1), .second, .val (.long u2), .second, .unset, .unset, .unset, .unset, .unset, .unset, .unset, .unset, .unset, .unset]) rfl) ?_
  show Go p e below (s₁.setTop (mkF m 42 #[.val (.long p0), .second, .val (.long p1), .second, .val (.int p2), .val (.long ks), .second, .val (.long u1), .second, .val (.long u2), .second, .unset, .unset, .unset, .unset, .unset, .unset, .unset, .unset, .unset, .unset] [])) _
  refine Go.via (fun _ => XS.iload X0.here hx rfl (hb hby at_42) rfl) ?_
  refine Go.via (fun _ => XS.bipush X0.here hx rfl (hb hby at_44)) ?_
  refine Go.via (fun _ => XS.iand X0.here hx rfl (hb hby at_46) rfl) ?_
  show Go p e below (s₁.setTop (mkF m 47 #[.val (.long p0), .second, .val (.long p1), .second, .val (.int p2), .val (.long ks), .second, .val (.long u1), .second, .val (.long u2), .second, .unset, .unset, .unset, .unset, .unset, .unset, .unset, .unset, .unset, .unset] [(.int (p2 &&& (8 : Int32)))])) _
  suffices hm679 : Go p e below (s₁.setTop (mkF m 55 #[.val (.long p0), .second, .val (.long p1), .second, .val (.int p2), .val (.long ks), .second, .val (.long u1), .second, .val (.long u2), .second, .unset, .unset, .unset, .unset, .unset, .unset, .unset, .unset, .unset, .unset] [(.long (if (p2 &&& (8 : Int32)) = (0 : Int32) then p1 else p0))])) (DoneW s (Q_rm0 Z p0 p1 p2 cs fv h0 n0) room_1.cells room_1.slots) by
    by_cases hc678 : (p2 &&& (8 : Int32)) = (0 : Int32)
    · rw [if_pos hc678] at hm679
      refine Go.via (fun _ => XS.ifYes X0.here hx rfl (pc0 := 47) (pc' := 54) rfl (hb hby at_47) rfl ((if0 _ _).trans (teq (hc678 : (p2 &&& (8 : Int32)) = (0 : Int32))).1) (by decide) (by decide)) ?_
      show Go p e below (s₁.setTop (mkF m 54 #[.val (.long p0), .second, .val (.long p1), .second, .val (.int p2), .val (.long ks), .second, .val (.long u1), .second, .val (.long u2), .second, .unset, .unset, .unset, .unset, .unset, .unset, .unset, .unset, .unset, .unset] [])) _
      refine Go.via (fun _ => XS.lloadN X0.here hx rfl (hb hby at_54) rfl) ?_
      exact hm679
    · rw [if_neg hc678] at hm679
      refine Go.via (fun _ => XS.ifNo X0.here hx rfl (hb hby at_47) rfl ((if0 _ _).trans (feq (hc678 : ¬ ((p2 &&& (8 : Int32)) = (0 : Int32)))).1)) ?_
      show Go p e below (s₁.setTop (mkF m 50 #[.val (.long p0), .second, .val (.long p1), .second, .val (.int p2), .val (.long ks), .second, .val (.long u1), .second, .val (.long u2), .second, .unset, .unset, .unset, .unset, .unset, .unset, .unset, .unset, .unset, .unset] [])) _
      refine Go.via (fun _ => XS.lloadN X0.here hx rfl (hb hby at_50) rfl) ?_
      refine Go.via (fun _ => XS.goto X0.here hx rfl (pc0 := 51) (pc' := 55) rfl (hb hby at_51) (by decide) (by decide)) ?_
      exact hm679
  show Go p e below (s₁.setTop (mkF m 55 #[.val (.long p0), .second, .val (.long p1), .second, .val (.int p2), .val (.long ks), .second, .val (.long u1), .second, .val (.long u2), .second, .unset, .unset, .unset, .unset, .unset, .unset, .unset, .unset, .unset, .unset] [(.long (if (p2 &&& (8 : Int32)) = (0 : Int32) then p1 else p0))])) _
  generalize hv_u3 : (if (p2 &&& (8 : Int32)) = (0 : Int32) then p1 else p0) = u3
  show Go p e below (s₁.setTop (mkF m 55 #[.val (.long p0), .second, .val (.long p1), .second, .val (.int p2), .val (.long ks), .second, .val (.long u1), .second, .val (.long u2), .second, .unset, .unset, .unset, .unset, .unset, .unset, .unset, .unset, .unset, .unset] [(.long u3)])) _
  refine Go.via (fun _ => XS.lstore X0.here hx rfl (hb hby at_55) rfl (l' := #[.val (.long p0), .second, .val (.long p1), .second, .val (.int p2), .val (.long ks), .second, .val (.long u1), .second, .val (.long u2), .second, .val (.long u3), .second, .unset, .unset, .unset, .unset, .unset, .unset, .unset, .unset]) rfl) ?_
  show Go p e below (s₁.setTop (mkF m 57 #[.val (.long p0), .second, .val (.long p1), .second, .val (.int p2), .val (.long ks), .second, .val (.long u1), .second, .val (.long u2), .second, .val (.long u3), .second, .unset, .unset, .unset, .unset, .unset, .unset, .unset, .unset] [])) _
  obtain ⟨T680, h680, X680, e680, E680, A680, D680, -, st680⟩ := newO X0 hx hZ hown (tw hw 0 rfl) (tw hw 1 rfl) (tw hw 2 rfl) e0 (g := (mkF m 57 #[.val (.long p0), .second, .val (.long p1), .second, .val (.int p2), .val (.long ks), .second, .val (.long u1), .second, .val (.long u2), .second, .val (.long u3), .second, .unset, .unset, .unset, .unset, .unset, .unset, .unset, .unset] [])) rfl (hb hby at_57) (by decide) (by decide)
  obtain ⟨b680, g680⟩ : ∃ z, z = h0.size := ⟨_, rfl⟩
  rw [← g680] at A680 D680 st680
  have ge681 : n0 ≤ b680 := Nat.le_trans Z0 (Nat.le_of_eq g680.symm)
  have sz682 : h0.size ≤ b680 := Nat.le_trans (Keep.refl h0 []).1 (Nat.le_of_eq g680.symm)
  refine Go.via (st680) ?_
  clear st680
  have f683 : Fld Z h680 b680 cCD "blockSize" "J" (.long (0 : Int64)) := D680 (Or.inr (tw hw 73 rfl)) (ty := .long) (by decide)
  have f684 : Fld Z h680 b680 cCD "signature1" "Ljava/lang/String;" .null := D680 (Or.inr (tw hw 75 rfl)) (ty := (.object cST)) (by decide)
  have f685 : Fld Z h680 b680 cCD "signature2" "Ljava/lang/String;" .null := D680 (Or.inr (tw hw 77 rfl)) (ty := (.object cST)) (by decide)
  clear X0 e0
  show Go p e below (T680.setTop (mkF m 60 #[.val (.long p0), .second, .val (.long p1), .second, .val (.int p2), .val (.long ks), .second, .val (.long u1), .second, .val (.long u2), .second, .val (.long u3), .second, .unset, .unset, .unset, .unset, .unset, .unset, .unset, .unset] [(.ref b680)])) _
  refine Go.via (fun _ => XS.dup X680.here hx rfl (hb hby at_60) rfl rfl) ?_
  refine Go.via (X680.ldc2Long hx hown (mvT hZ (tw hw 3 rfl)) (g := (mkF m 61 #[.val (.long p0), .second, .val (.long p1), .second, .val (.int p2), .val (.long ks), .second, .val (.long u1), .second, .val (.long u2), .second, .val (.long u3), .second, .unset, .unset, .unset, .unset, .unset, .unset, .unset, .unset] [(.ref b680), (.ref b680)])) rfl (hb hby at_61)) ?_
  show Go p e below (T680.setTop (mkF m 64 #[.val (.long p0), .second, .val (.long p1), .second, .val (.int p2), .val (.long ks), .second, .val (.long u1), .second, .val (.long u2), .second, .val (.long u3), .second, .unset, .unset, .unset, .unset, .unset, .unset, .unset, .unset] [(.long (3 : Int64)), (.ref b680), (.ref b680)])) _
  refine Go.via (fun _ => XS.lloadN X680.here hx rfl (hb hby at_64) rfl) ?_
  have z687 : n0 ≤ h680.size := (Nat.le_trans Z0 E680.1)
  obtain ⟨r686, _, ⟨T686, L686, k686, n686⟩, -, X686, ⟨Lc686, hQ686, l686, y686, z686⟩, st686⟩ := Jvm.LawKit.callS X680 hx (y := (⟨cLAW, "k", "(J)I"⟩ : MethodName)) hown (mvT hZ (tw hw 4 rfl)) (mvT hZ (tw hw 5 rfl)) (mvT hZ (tw hw 6 rfl)) (mvT hZ (tw hw 7 rfl)) (by decide) (backOf (W := 4) (rmK l Z a0 hw [] p0  h680 n0 z687) hZ (tw hw 7 rfl) (tw hw 6 rfl) (by decide) (by decide)) (g := (mkF m 65 #[.val (.long p0), .second, .val (.long p1), .second, .val (.int p2), .val (.long ks), .second, .val (.long u1), .second, .val (.long u2), .second, .val (.long u3), .second, .unset, .unset, .unset, .unset, .unset, .unset, .unset, .unset] [(.long p0), (.long (3 : Int64)), (.ref b680), (.ref b680)])) rfl (by rw [hml]; rfl) (argsL := [(.long p0)]) (rest := [(.long (3 : Int64)), (.ref b680), (.ref b680)]) (lenOf pd__28J_29I rfl) rfl (by show 2 * 0 + _ ≤ _; exact Nat.le_of_eq rfl) (hb hby at_65) (fun _ _ => ⟨rfl, e680, (by decide : 1 + 0 ≤ _), (by decide : 3 + 0 ≤ _)⟩)
  dsimp only [Pt.U, Pt.locs, Pt.cells, Pt.slots] at X686 l686 y686 z686 st686 hQ686
  rw [l686, y686, z686] at X686
  clear l686 y686 z686
  obtain ⟨hr686, N686q, eh686⟩ := hQ686
  rw [hr686] at st686
  clear hr686
  rw [N686q, List.append_nil] at X686
  refine Go.via (st686) ?_
  clear st686
  have e686 : T686.heap = h680 := eh686
  clear X680 e680
  show Go p e below (T686.setTop (mkF m 68 #[.val (.long p0), .second, .val (.long p1), .second, .val (.int p2), .val (.long ks), .second, .val (.long u1), .second, .val (.long u2), .second, .val (.long u3), .second, .unset, .unset, .unset, .unset, .unset, .unset, .unset, .unset] [(.int (kF p0)), (.long (3 : Int64)), (.ref b680), (.ref b680)])) _
  refine Go.via (fun _ => XS.lshl X686.here hx rfl (hb hby at_68) rfl) ?_
  show Go p e below (T686.setTop (mkF m 69 #[.val (.long p0), .second, .val (.long p1), .second, .val (.int p2), .val (.long ks), .second, .val (.long u1), .second, .val (.long u2), .second, .val (.long u3), .second, .unset, .unset, .unset, .unset, .unset, .unset, .unset, .unset] [(.long ((3 : Int64) <<< ((kF p0) &&& 0x3f).toInt64)), (.ref b680), (.ref b680)])) _
  refine Go.via (fun _ => XS.lloadN X686.here hx rfl (hb hby at_69) rfl) ?_
  refine Go.via (fun _ => XS.iconst X686.here hx rfl (hb hby at_70)) ?_
  refine Go.via (fun _ => XS.bipush X686.here hx rfl (hb hby at_71)) ?_
  refine Go.via (fun _ => XS.iconst X686.here hx rfl (hb hby at_73)) ?_
  show Go p e below (T686.setTop (mkF m 74 #[.val (.long p0), .second, .val (.long p1), .second, .val (.int p2), .val (.long ks), .second, .val (.long u1), .second, .val (.long u2), .second, .val (.long u3), .second, .unset, .unset, .unset, .unset, .unset, .unset, .unset, .unset] [(.int (1 : Int32)), (.int (6 : Int32)), (.int (5 : Int32)), (.long p0), (.long ((3 : Int64) <<< ((kF p0) &&& 0x3f).toInt64)), (.ref b680), (.ref b680)])) _
  have o688 : Old Z n0 h680 := (P0.ext E680)
  have em690 : Em Z s.vm h680 ["signature 1", "signature 2", "digest", "name"] := (I0.ext E680)
  have hk691 : _ ≤ h680.size := (Nat.le_trans hk0 E680.1)
  obtain ⟨r689, _, ⟨T689, L689, k689, n689⟩, -, X689, h2689, gS689, ⟨Lc689, hQ689, l689, y689, z689⟩, st689⟩ := Jvm.RoadKit.callSS X686 hx (y := (⟨cLAW, "str", "(JIIZ)Ljava/lang/String;"⟩ : MethodName)) hown (mvT hZ (tw hw 9 rfl)) (mvT hZ (tw hw 10 rfl)) (mvT hZ (tw hw 6 rfl)) (mvT hZ (tw hw 11 rfl)) (by decide) (backOfV (W := 4) (V := V_rmStsgA Z p0 (5 : Int32) (6 : Int32) (1 : Int32) cs h680) (rmStsgA l Z a0 hw [] p0 (5 : Int32) (6 : Int32) (1 : Int32) cs h680 n0 z687 o688 zCS hcs hh7 hcw rfl rfl rfl) hZ (tw hw 11 rfl) (tw hw 6 rfl) (by decide) (by decide) (fun vm' hW => ⟨Em.still em690 hW.interned_eq (w39 hW.wide), trivial⟩)) (g := (mkF m 74 #[.val (.long p0), .second, .val (.long p1), .second, .val (.int p2), .val (.long ks), .second, .val (.long u1), .second, .val (.long u2), .second, .val (.long u3), .second, .unset, .unset, .unset, .unset, .unset, .unset, .unset, .unset] [(.int (1 : Int32)), (.int (6 : Int32)), (.int (5 : Int32)), (.long p0), (.long ((3 : Int64) <<< ((kF p0) &&& 0x3f).toInt64)), (.ref b680), (.ref b680)])) rfl (by rw [hml]; rfl) (argsL := [(.long p0), (.int (5 : Int32)), (.int (6 : Int32)), (.int (1 : Int32))]) (rest := [(.long ((3 : Int64) <<< ((kF p0) &&& 0x3f).toInt64)), (.ref b680), (.ref b680)]) (lenOf pd__28JIIZ_29Ljava_2flang_2fString_3b rfl) rfl (by show 2 * 0 + _ ≤ _; exact Nat.le_of_eq rfl) (hb hby at_74) (fun _ _ => ⟨rfl, e686, (by decide : 1 + 4 ≤ _), (by decide : 3 + 8 ≤ _)⟩)
  dsimp only [Pt.U, Pt.locs, Pt.cells, Pt.slots] at X689 l689 y689 z689 st689 hQ689 h2689 gS689
  rw [l689, y689, z689] at X689
  clear l689 y689 z689
  obtain ⟨b692, v693, hr689, N689q, K689q, fz_b692, f694, f695, f696, f697, I689⟩ := hQ689
  rw [hr689] at st689
  clear hr689
  have N689 := Fr.app N0 N689q
  refine Go.via (fun _ kQ => st689.trans kQ) ?_
  clear st689
  have ne698 : b680 ≠ b692 := Nat.ne_of_lt (Nat.lt_of_lt_of_le A680.lt fz_b692)
  have ge699 : n0 ≤ b692 := Nat.le_trans z687 fz_b692
  have k701 : Keep h0 h680 [] := ((Keep.refl h0 []).ext E680)
  have sz700 : h0.size ≤ b692 := Nat.le_trans k701.1 fz_b692
  have e689 : T689.heap = T689.heap := rfl
  have f702 : Exa Z T689.heap b692 cST := f694
  have f703 : Fld Z T689.heap b692 cST "coder" "B" (.int (0 : Int32)) := f695
  have f704 : Fld Z T689.heap b692 cST "value" "[B" (.ref v693) := f696
  have f705 : Ia Z T689.heap v693 .byte (sgA p0) := f697
  have f706 : Exa Z T689.heap b680 cCD := (A680.keep K689q)
  have ne707 : v693 ≠ b680 := Ia.neE (a0 := a0) f705 f706 (tw hw 1 rfl)
  have ne708 : v693 ≠ b692 := Ia.neE (a0 := a0) f705 f702 (tw hw 19 rfl)
  obtain ⟨X689r, hS689, hZ, hown⟩ := rebS hS0 (Nat.le_trans hk691 (Nat.le_of_eq (congrArg Array.size (Eq.symm e686)))) X689 h2689 gS689 hZ hown
  clear X689 h2689 gS689
  clear X686 e686
  show Go p e below (T689.setTop (mkF m 77 #[.val (.long p0), .second, .val (.long p1), .second, .val (.int p2), .val (.long ks), .second, .val (.long u1), .second, .val (.long u2), .second, .val (.long u3), .second, .unset, .unset, .unset, .unset, .unset, .unset, .unset, .unset] [(.ref b692), (.long ((3 : Int64) <<< ((kF p0) &&& 0x3f).toInt64)), (.ref b680), (.ref b680)])) _
  refine Go.via (fun _ => XS.lloadN X689r.here hx rfl (hb hby at_77) rfl) ?_
  refine Go.via (fun _ => XS.bipush X689r.here hx rfl (hb hby at_78)) ?_
  refine Go.via (fun _ => XS.bipush X689r.here hx rfl (hb hby at_80)) ?_
  refine Go.via (fun _ => XS.iconst X689r.here hx rfl (hb hby at_82)) ?_
  show Go p e below (T689.setTop (mkF m 83 #[.val (.long p0), .second, .val (.long p1), .second, .val (.int p2), .val (.long ks), .second, .val (.long u1), .second, .val (.long u2), .second, .val (.long u3), .second, .unset, .unset, .unset, .unset, .unset, .unset, .unset, .unset] [(.int (1 : Int32)), (.int (6 : Int32)), (.int (19 : Int32)), (.long p0), (.ref b692), (.long ((3 : Int64) <<< ((kF p0) &&& 0x3f).toInt64)), (.ref b680), (.ref b680)])) _
  have o709 : Old Z n0 T689.heap := (o688.keep K689q all0)
  have z711 : n0 ≤ T689.heap.size := (Nat.le_trans z687 K689q.1)
  obtain ⟨r710, _, ⟨T710, L710, k710, n710⟩, -, X710, h2710, gS710, ⟨Lc710, hQ710, l710, y710, z710⟩, st710⟩ := Jvm.RoadKit.callSS X689r hx (y := (⟨cLAW, "str", "(JIIZ)Ljava/lang/String;"⟩ : MethodName)) hown (mvT hZ (tw hw 9 rfl)) (mvT hZ (tw hw 10 rfl)) (mvT hZ (tw hw 6 rfl)) (mvT hZ (tw hw 11 rfl)) (by decide) (backOfV (W := 5) (V := V_rmStsgB Z p0 (19 : Int32) (6 : Int32) (1 : Int32) cs T689.heap) (rmStsgB l Z a0 hw [] p0 (19 : Int32) (6 : Int32) (1 : Int32) cs T689.heap n0 z711 o709 zCS hcs hh7 hcw rfl rfl rfl) hZ (tw hw 11 rfl) (tw hw 6 rfl) (by decide) (by decide) (fun vm' hW => ⟨Em.still I689 hW.interned_eq (w39 hW.wide), trivial⟩)) (g := (mkF m 83 #[.val (.long p0), .second, .val (.long p1), .second, .val (.int p2), .val (.long ks), .second, .val (.long u1), .second, .val (.long u2), .second, .val (.long u3), .second, .unset, .unset, .unset, .unset, .unset, .unset, .unset, .unset] [(.int (1 : Int32)), (.int (6 : Int32)), (.int (19 : Int32)), (.long p0), (.ref b692), (.long ((3 : Int64) <<< ((kF p0) &&& 0x3f).toInt64)), (.ref b680), (.ref b680)])) rfl (by rw [hml]; rfl) (argsL := [(.long p0), (.int (19 : Int32)), (.int (6 : Int32)), (.int (1 : Int32))]) (rest := [(.ref b692), (.long ((3 : Int64) <<< ((kF p0) &&& 0x3f).toInt64)), (.ref b680), (.ref b680)]) (lenOf pd__28JIIZ_29Ljava_2flang_2fString_3b rfl) rfl (by show 2 * 0 + _ ≤ _; exact Nat.le_of_eq rfl) (hb hby at_83) (fun _ _ => ⟨rfl, e689, (by decide : 5 + 4 ≤ _), (by decide : 11 + 8 ≤ _)⟩)
  dsimp only [Pt.U, Pt.locs, Pt.cells, Pt.slots] at X710 l710 y710 z710 st710 hQ710 h2710 gS710
  rw [l710, y710, z710] at X710
  clear l710 y710 z710
  obtain ⟨b712, v713, hr710, N710q, K710q, fz_b712, f714, f715, f716, f717, I710⟩ := hQ710
  rw [hr710] at st710
  clear hr710
  have N710 := Fr.app N689 N710q
  refine Go.via (fun _ kQ => st710.trans kQ) ?_
  clear st710
  have ne718 : b680 ≠ b712 := Nat.ne_of_lt (Nat.lt_of_lt_of_le f706.lt fz_b712)
  have ne719 : b692 ≠ b712 := Nat.ne_of_lt (Nat.lt_of_lt_of_le f702.lt fz_b712)
  have ne720 : v693 ≠ b712 := Nat.ne_of_lt (Nat.lt_of_lt_of_le f705.lt fz_b712)
  have ge721 : n0 ≤ b712 := Nat.le_trans z711 fz_b712
  have k723 : Keep h0 T689.heap [] := (k701.trans K689q all0)
  have sz722 : h0.size ≤ b712 := Nat.le_trans k723.1 fz_b712
  have e710 : T710.heap = T710.heap := rfl
  have f724 : Exa Z T710.heap b712 cST := f714
  have f725 : Fld Z T710.heap b712 cST "coder" "B" (.int (0 : Int32)) := f715
  have f726 : Fld Z T710.heap b712 cST "value" "[B" (.ref v713) := f716
  have f727 : Ia Z T710.heap v713 .byte (sgB p0) := f717
  have f728 : Exa Z T710.heap b680 cCD := (f706.keep K710q)
  have ne729 : v713 ≠ b680 := Ia.neE (a0 := a0) f727 f728 (tw hw 1 rfl)
  have f730 : Exa Z T710.heap b692 cST := (f702.keep K710q)
  have ne731 : v713 ≠ b692 := Ia.neE (a0 := a0) f727 f730 (tw hw 19 rfl)
  have ne732 : v713 ≠ b712 := Ia.neE (a0 := a0) f727 f724 (tw hw 19 rfl)
  obtain ⟨X710r, hS710, hZ, hown⟩ := rebS hS689 (Nat.le_trans (Nat.le_refl _) (Nat.le_of_eq (congrArg Array.size (Eq.symm e689)))) X710 h2710 gS710 hZ hown
  clear X710 h2710 gS710
  clear X689r e689
  show Go p e below (T710.setTop (mkF m 86 #[.val (.long p0), .second, .val (.long p1), .second, .val (.int p2), .val (.long ks), .second, .val (.long u1), .second, .val (.long u2), .second, .val (.long u3), .second, .unset, .unset, .unset, .unset, .unset, .unset, .unset, .unset] [(.ref b712), (.ref b692), (.long ((3 : Int64) <<< ((kF p0) &&& 0x3f).toInt64)), (.ref b680), (.ref b680)])) _
  have f733 : Fld Z T710.heap b680 cCD "blockSize" "J" (.long (0 : Int64)) := ((f683.keep K689q nin0).keep K710q nin0)
  have f734 : Fld Z T710.heap b680 cCD "signature1" "Ljava/lang/String;" .null := ((f684.keep K689q nin0).keep K710q nin0)
  have f735 : Fld Z T710.heap b680 cCD "signature2" "Ljava/lang/String;" .null := ((f685.keep K689q nin0).keep K710q nin0)
  have f736 : Fld Z T710.heap b692 cST "coder" "B" (.int (0 : Int32)) := (f703.keep K710q nin0)
  have f737 : Fld Z T710.heap b692 cST "value" "[B" (.ref v693) := (f704.keep K710q nin0)
  have f738 : Ia Z T710.heap v693 .byte (sgA p0) := (f705.keep K710q nin0)
  have o739 : Old Z n0 T710.heap := (o709.keep K710q all0)
  have z741 : n0 ≤ T710.heap.size := (Nat.le_trans z711 K710q.1)
  obtain ⟨r740, _, ⟨T740, L740, k740, n740⟩, -, X740, h2740, gS740, ⟨Lc740, hQ740, l740, y740, z740⟩, st740⟩ := X710r.specialBackS hx (y := (⟨cCD, "<init>", "(JLjava/lang/String;Ljava/lang/String;)V"⟩ : MethodName)) rfl hown (mvT hZ (tw hw 40 rfl)) (mvT hZ (tw hw 41 rfl)) (mvT hZ (tw hw 42 rfl)) (by decide) (backOfV (W := 1) (V := V_rmDc Z b680 ((3 : Int64) <<< ((kF p0) &&& 0x3f).toInt64) b692 b712 v693 v713 (sgA p0) (sgB p0) cs fv T710.heap) (rmDc l Z a0 hw [] b680 ((3 : Int64) <<< ((kF p0) &&& 0x3f).toInt64) b692 b712 v693 v713 (sgA p0) (sgB p0) cs fv T710.heap n0 z741 f728 f733 f734 f735 f730 f736 f737 f738 f724 f725 f726 f727 o739 zCS zF ge681 (own_SgA _) (own_SgB _) (own_Bv (own_k _)) hcs hfv) hZ (tw hw 42 rfl) (tw hw 2 rfl) (by decide) (by decide) (fun vm' hW => ⟨Em.still I710 hW.interned_eq (w39 hW.wide), trivial⟩)) (g := (mkF m 86 #[.val (.long p0), .second, .val (.long p1), .second, .val (.int p2), .val (.long ks), .second, .val (.long u1), .second, .val (.long u2), .second, .val (.long u3), .second, .unset, .unset, .unset, .unset, .unset, .unset, .unset, .unset] [(.ref b712), (.ref b692), (.long ((3 : Int64) <<< ((kF p0) &&& 0x3f).toInt64)), (.ref b680), (.ref b680)])) rfl (by rw [hml]; rfl) (Steps.refl _) (a := b680) (argsL := [(.long ((3 : Int64) <<< ((kF p0) &&& 0x3f).toInt64)), (.ref b692), (.ref b712)]) (rest := [(.ref b680)]) (lenOf pd__28JLjava_2flang_2fString_3bLjava_2flang_2fString_3b_29V rfl) rfl (by show 2 * 0 + _ ≤ _; exact Nat.le_of_eq rfl) (hb hby at_86) (fun _ _ => ⟨rfl, e710, (by decide : 9 + 4 ≤ _), (by decide : 19 + 96 ≤ _)⟩)
  dsimp only [Pt.U, Pt.locs, Pt.cells, Pt.slots] at X740 l740 y740 z740 st740 hQ740 h2740 gS740
  rw [l740, y740, z740] at X740
  clear l740 y740 z740
  obtain ⟨hr740, N740q, K740q, f742, f743, f744, f745, I740⟩ := hQ740
  rw [hr740] at st740
  clear hr740
  have N740 := Fr.app N710 N740q
  refine Go.via (fun _ kQ => st740.trans kQ) ?_
  clear st740
  have e740 : T740.heap = T740.heap := rfl
  have f746 : Exa Z T740.heap b680 cCD := f742
  have f747 : Fld Z T740.heap b680 cCD "blockSize" "J" (.long ((3 : Int64) <<< ((kF p0) &&& 0x3f).toInt64)) := f743
  have f748 : Fld Z T740.heap b680 cCD "signature1" "Ljava/lang/String;" (.ref b692) := f744
  have f749 : Fld Z T740.heap b680 cCD "signature2" "Ljava/lang/String;" (.ref b712) := f745
  obtain ⟨X740r, hS740, hZ, hown⟩ := rebS hS710 (Nat.le_trans (Nat.le_refl _) (Nat.le_of_eq (congrArg Array.size (Eq.symm e710)))) X740 h2740 gS740 hZ hown
  clear X740 h2740 gS740
  clear X710r e710
  show Go p e below (T740.setTop (mkF m 89 #[.val (.long p0), .second, .val (.long p1), .second, .val (.int p2), .val (.long ks), .second, .val (.long u1), .second, .val (.long u2), .second, .val (.long u3), .second, .unset, .unset, .unset, .unset, .unset, .unset, .unset, .unset] [(.ref b680)])) _
  refine Go.via (fun _ => XS.astore X740r.here hx rfl (hb hby at_89) rfl rfl (l' := #[.val (.long p0), .second, .val (.long p1), .second, .val (.int p2), .val (.long ks), .second, .val (.long u1), .second, .val (.long u2), .second, .val (.long u3), .second, .val (.ref b680), .unset, .unset, .unset, .unset, .unset, .unset, .unset]) rfl) ?_
  have z1136 : n0 ≤ T740.heap.size := (Nat.le_trans z741 K740q.1)
  have k1137 : Keep h0 T740.heap [] := ((k723.trans K710q all0).trans K740q (allS (Or.inr sz682) all0))
  have o1138 : Old Z n0 T740.heap := (o739.keep K740q (allS ge681 all0))
  have f1139 : Exa Z T740.heap b692 cST := (f730.keep K740q)
  have f1140 : Fld Z T740.heap b692 cST "coder" "B" (.int (0 : Int32)) := (f736.keep K740q (ninS (Ne.symm ne698) nin0))
  have f1141 : Fld Z T740.heap b692 cST "value" "[B" (.ref v693) := (f737.keep K740q (ninS (Ne.symm ne698) nin0))
  have f1142 : Ia Z T740.heap v693 .byte (sgA p0) := (f738.keep K740q (ninS ne707 nin0))
  have f1143 : Exa Z T740.heap b712 cST := (f724.keep K740q)
  have f1144 : Fld Z T740.heap b712 cST "coder" "B" (.int (0 : Int32)) := (f725.keep K740q (ninS (Ne.symm ne718) nin0))
  have f1145 : Fld Z T740.heap b712 cST "value" "[B" (.ref v713) := (f726.keep K740q (ninS (Ne.symm ne718) nin0))
  have f1146 : Ia Z T740.heap v713 .byte (sgB p0) := (f727.keep K740q (ninS ne729 nin0))
  exact rm_rm0_l91_1 l Z a0 hw p0 p1 p2 cs fv h0 n0 zCS zF hcs hfv hh7 hcw hx hby hlk hml Bd.returns T740 _ T740.heap T740.vm _ ks u1 u2 u3 b680 b692 b712 v693 v713 X740r e740 N740 z1136 k1137 hZ hown hS740 (Nat.le_refl _) I740 o1138 f746 f747 f748 f749 f1139 f1140 f1141 f1142 f1143 f1144 f1145 f1146
theorem own_isr {args : Array Value} {s : State} {t : Term} (h : (Jvm.Cond.isRef t).value args s none s [] = some true) : ∃ v, t.eval args s none [] s = some v ∧ (v = .null ∨ ∃ a : Addr, v = .ref a) := by
  cases ev : t.eval args s none [] s with
  | none => simp [Cond.value, ev] at h
  | some v => cases v <;> simp [Cond.value, ev] at h ⊢
theorem own_isi {args : Array Value} {s : State} {t : Term} (h : (Jvm.Cond.isInt t).value args s none s [] = some true) : ∃ v, t.eval args s none [] s = some (.int v) := by
  cases ev : t.eval args s none [] s with
  | none => simp [Cond.value, ev] at h
  | some v => cases v <;> simp [Cond.value, ev] at h ⊢
theorem own_nz {args : Array Value} {s : State} {t : Term} {n : Int32} (ev : t.eval args s none [] s = some (.int n)) (h : (Jvm.Cond.not (Jvm.Cond.eq t (.int 0))).value args s none s [] = some true) : ¬ (n = (0 : Int32)) := by
  intro q; subst q; simp [Cond.value, ev, Term.eval] at h
set_option maxRecDepth 65536 in
set_option maxHeartbeats 40000000 in
theorem comes_1 {Post : Tables → Env → Array Value → State → Outcome → State → Prop} (hpost : ∀ tb e args s v u, (limb_1_1.after args s (.returned v) u = true ∧ limb_1_2.after args s (.returned v) u = true ∧ True) → FramedW s (.returned v) u (Jvm.fieldLocs frame_1_writes args s ++ Jvm.arrayLocs frame_1_arrays args s ++ Jvm.staticLocs frame_1_statics s) 64 5376 → Post tb e args s (.returned v) u) :
    ArmFor flags0 classFile x code maxLocals ret World_1 tables_1 room_1 Calls_1 rest_1 Pre_1 Post := by
  intro l hfl _ _ p e ha hc hk s m args below hf hA hF happ hP
  obtain ⟨hcalls, hrest, hpre⟩ := hP
  obtain ⟨-, -, -, hnamed, -, -, -, hat⟩ := (Spec.applies_iff hf).mp happ
  obtain ⟨hg, hn⟩ := and_e (Cond.before_iff.mp (show (Jvm.Cond.and given_1 narrow_1).before args s = true from hpre))
  obtain ⟨g0, r0⟩ := and_e hg
  obtain ⟨q0, r1⟩ := and_e r0
  obtain ⟨q1, r2⟩ := and_e r1
  have q2 := r2
  obtain ⟨w0, w1, w2, rfl⟩ : ∃ w0 w1 w2 : Value, args = #[w0, w1, w2] := by
    have hs : args.size = 3 := by simpa [Cond.value, given_1] using g0
    obtain ⟨L⟩ := args
    match L, hs with
    | [w0, w1, w2], _ => exact ⟨w0, w1, w2, rfl⟩
  have hw := fun d (hd : d ∈ tables_1) => atoms_spec (ws := Jvm.Cond.code x code maxLocals ret :: tables_1) hat d (List.mem_cons_of_mem _ hd)
  have hfit : Fit s := fun {y c} hc i hi => by
    obtain ⟨ha, rfl⟩ := Array.getElem?_eq_some_iff.mp hc
    have q := List.all_eq_true.mp ((Array.all_eq_true_iff_forall_mem.mp hF) _ (Array.getElem_mem ha)) i (List.mem_range.mpr hi)
    simpa [Array.getElem?_eq_getElem hi] using q
  obtain ⟨i0, ei0⟩ := isL_v q0
  obtain rfl : w0 = (.long i0) := Option.some.inj ei0
  obtain ⟨i1, ei1⟩ := isL_v q1
  obtain rfl : w1 = (.long i1) := Option.some.inj ei1
  obtain ⟨i2, ei2⟩ := is_v q2
  obtain rfl : w2 = (.int i2) := Option.some.inj ei2
  obtain ⟨hsets, hown0⟩ := atoms_of _ (rest_1_c_eq ▸ (show rest_1_c.before _ s = true from hrest))
  obtain ⟨cs, ecs⟩ := own_isi (Cond.before_iff.mp (hsets _ (List.mem_of_getElem? (i := 1) rfl)))
  have zCS := Sta.start ecs (Or.inl (hsets _ (List.mem_of_getElem? (i := 0) rfl)))
  have hcs := own_nz ecs (Cond.before_iff.mp (hsets _ (List.mem_of_getElem? (i := 2) rfl)))
  have hcw : Jvm.Lit.compactW.before _ s = true := (hsets _ (List.mem_of_getElem? (i := 2) rfl))
  obtain ⟨fv, efv, hfv⟩ := own_isr (Cond.before_iff.mp (hsets _ (List.mem_of_getElem? (i := 8) rfl)))
  have zF := Sta.start efv (Or.inl (hsets _ (List.mem_of_getElem? (i := 7) rfl)))
  obtain ⟨n, o, h1, h2, h3, _, L, rfl, ⟨rfl, N, -⟩, hq⟩ := rm0 l s _ hw tables_1 i0 i1 i2 cs fv s.heap s.heap.size (Nat.le_refl _) (Old.start s) zCS zF hcs hfv (hcalls.1 _ (List.mem_of_getElem? (i := 4) rfl)) hcw p e ha hc hk s m _ below hf ((Spec.applies_iff_loose hf).mp happ).1 ⟨rfl, State.Warmed39.refl s, rfl, ⟨Em.begin, trivial⟩⟩ trivial
  refine ⟨n, _, h1, h2, h3, hpost _ _ _ _ _ _ ⟨Cond.after_iff.mpr rfl, Cond.after_iff.mpr (eq_i res_at (Term.int_eval (1)) rfl), trivial⟩ ⟨hq.1, hq.2.1, hq.2.2.1, (hq.2.2.2.sift fun y hy => Or.inr (N y hy)).mono (by decide) (by decide)⟩⟩
theorem main_1_1 : Claimed_1_1 := comes_1 fun _ _ _ _ _ _ h hF => ⟨h.1, hF⟩
theorem main_1_2 : Claimed_1_2 := comes_1 fun _ _ _ _ _ _ h hF => ⟨h.2.1, hF⟩
end Jvm.Pilot.@@N@@
namespace Jvm.Pilot.@@N@@
open Jvm Jvm.ClassFile Sem Op Lib Jvm.Free Jvm.Stand Jvm.Pilot.@@N@@.Jvm.D
/-! MADE BY PROGRAM (witnessworld.py) out of the Statement's table words and the real class files: 24 classes; the members and pool entries that the words name. The judged class is class 1, her method 1. -/
namespace start1
open Jvm.ClassFile
def u (s : String) : CpInfo := .utf8 (stringToUtf16 s)
/-- a pool by its gaps: so many unusable entries, then the entry; so many at the end -/
def gap : Nat → List CpInfo → List CpInfo
  | 0, r => r
  | n + 1, r => .unusable :: gap n r
def poolList (es : List (Nat × CpInfo)) (last : Nat) : List CpInfo := es.foldr (fun e r => gap e.1 (e.2 :: r)) (gap last [])
def pool (es : List (Nat × CpInfo)) (last : Nat) : Array CpInfo := ⟨poolList es last⟩
def fileOf (pool : Array CpInfo) (this : Nat) (attrs : Array Attribute := #[]) (ms : Array MethodInfo := #[]) (fl : Nat := 33) (sup : Nat := 0) (ifs : Array Nat := #[]) (fds : Array FieldInfo := #[]) : ClassFile where
  minorVersion := 0
  majorVersion := 65
  constantPool := pool
  accessFlags := fl
  thisClass := this
  superClass := sup
  interfaces := ifs
  fields := fds
  methods := ms
  attributes := attrs
def plain (name : String) (sup : Option ClassId) : Class where
  name := name
  kind := .ordinary
  loader := none
  accessFlags := 33
  super := sup
  interfaces := #[]
  cf := none
  fields := #[]
  methods := #[]
  instanceTypes := #[]
  staticTypes := #[]
  resolved := #[]
  callSites := []
  init := .initialized
  statics := none
  mirror := none

def pool0 : Array CpInfo := pool [(5, u "<init>"), (0, u "()V"), (1, .class_ 10), (1, u "java/lang/Object")] 113

def k0c0 : Code := { maxStack := 0, maxLocals := 1, code := object_method_1_code, exceptionTable := #[], attributes := #[] }
def k0m0 : Method := { name := "<init>", desc := "()V", sig := { parameters := [], returnType := none }, accessFlags := 1, code := some k0c0 }
/-- java/lang/Object -/
def k0 : Class := { plain "java/lang/Object" none with
  accessFlags := 33
  interfaces := #[]
  cf := some (fileOf pool0 8 #[] #[{ accessFlags := 1, nameIndex := 5, descriptorIndex := 6, attributes := #[] }] 33 0 #[] #[])
  fields := #[]
  methods := #[k0m0]
  instanceTypes := #[]
  staticTypes := #[]
  resolved := Array.replicate 124 none
  statics := none }

def pool1 : Array CpInfo := pool [(2, .class_ 4), (1, u "java/lang/Object"), (0, u "<init>"), (0, u "()V"), (0, .class_ 8), (0, u "com/example/relate_by_hash/relatebyhash/ctph/CtphDigest"), (0, .long 3), (1, .methodref 12 13), (0, .class_ 14), (0, .nameAndType 15 16), (0, u "com/example/relate_by_hash/relatebyhash/ctph/EntryEqualsPinLaw"), (0, u "k"), (0, u "(J)I"), (0, .methodref 12 18), (0, .nameAndType 19 20), (0, u "str"), (0, u "(JIIZ)Ljava/lang/String;"), (0, .methodref 7 22), (0, .nameAndType 5 23), (0, u "(JLjava/lang/String;Ljava/lang/String;)V"), (0, .class_ 25), (0, u "com/example/relate_by_hash/relatebyhash/ctph/CtphDigestList$Entry"), (0, .methodref 24 27), (0, .nameAndType 5 28), (0, u "(Lcom/example/relate_by_hash/relatebyhash/ctph/CtphDigest;Ljava/lang/String;)V"), (0, .methodref 24 30), (0, .nameAndType 31 32), (0, u "equals"), (0, u "(Ljava/lang/Object;)Z"), (0, .methodref 12 34), (0, .nameAndType 35 36), (0, u "same"), (0, u "(JJII)Z"), (0, .long 31), (1, .methodref 12 40), (0, .nameAndType 41 42), (0, u "field"), (0, u "(JII)I"), (0, .methodref 12 44), (0, .nameAndType 45 46), (0, u "b64"), (0, u "(I)C"), (0, .class_ 48), (0, u "java/lang/String"), (0, .methodref 47 50), (0, .nameAndType 5 51), (0, u "([C)V"), (2, u "law"), (0, u "(JJI)Z")] 7

def k1m0 : Method := { name := "<init>", desc := "()V", sig := { parameters := [], returnType := none }, accessFlags := 1, code := none }
def k1c1 : Code := { maxStack := 10, maxLocals := 21, code := code, exceptionTable := #[], attributes := #[] }
def k1m1 : Method := { name := "law", desc := "(JJI)Z", sig := { parameters := [.long, .long, .int], returnType := some .boolean }, accessFlags := 9, code := some k1c1 }
def k1c2 : Code := { maxStack := 4, maxLocals := 2, code := method_3_code, exceptionTable := #[], attributes := #[] }
def k1m2 : Method := { name := "k", desc := "(J)I", sig := { parameters := [.long], returnType := some .int }, accessFlags := 10, code := some k1c2 }
def k1c3 : Code := { maxStack := 6, maxLocals := 4, code := method_4_code, exceptionTable := #[], attributes := #[] }
def k1m3 : Method := { name := "field", desc := "(JII)I", sig := { parameters := [.long, .int, .int], returnType := some .int }, accessFlags := 10, code := some k1c3 }
def k1c4 : Code := { maxStack := 4, maxLocals := 12, code := method_5_code, exceptionTable := #[], attributes := #[] }
def k1m4 : Method := { name := "same", desc := "(JJII)Z", sig := { parameters := [.long, .long, .int, .int], returnType := some .boolean }, accessFlags := 10, code := some k1c4 }
def k1c5 : Code := { maxStack := 3, maxLocals := 1, code := method_6_code, exceptionTable := #[], attributes := #[] }
def k1m5 : Method := { name := "b64", desc := "(I)C", sig := { parameters := [.int], returnType := some .char }, accessFlags := 10, code := some k1c5 }
def k1c6 : Code := { maxStack := 6, maxLocals := 10, code := method_7_code, exceptionTable := #[], attributes := #[] }
def k1m6 : Method := { name := "str", desc := "(JIIZ)Ljava/lang/String;", sig := { parameters := [.long, .int, .int, .boolean], returnType := some (.object "java/lang/String") }, accessFlags := 10, code := some k1c6 }
/-- com/example/relate_by_hash/relatebyhash/ctph/EntryEqualsPinLaw -/
def k1 : Class := { plain "com/example/relate_by_hash/relatebyhash/ctph/EntryEqualsPinLaw" (some 0) with
  accessFlags := 49
  interfaces := #[]
  cf := some (fileOf pool1 12 #[] #[{ accessFlags := 1, nameIndex := 5, descriptorIndex := 6, attributes := #[] }, { accessFlags := 9, nameIndex := 54, descriptorIndex := 55, attributes := #[] }, { accessFlags := 10, nameIndex := 15, descriptorIndex := 16, attributes := #[] }, { accessFlags := 10, nameIndex := 41, descriptorIndex := 42, attributes := #[] }, { accessFlags := 10, nameIndex := 35, descriptorIndex := 36, attributes := #[] }, { accessFlags := 10, nameIndex := 45, descriptorIndex := 46, attributes := #[] }, { accessFlags := 10, nameIndex := 19, descriptorIndex := 20, attributes := #[] }] 49 2 #[] #[])
  fields := #[]
  methods := #[k1m0, k1m1, k1m2, k1m3, k1m4, k1m5, k1m6]
  instanceTypes := #[]
  staticTypes := #[]
  resolved := Array.replicate 63 none
  statics := none }

def pool2 : Array CpInfo := pool [(1, .class_ 2), (0, u "com/example/relate_by_hash/relatebyhash/ctph/CtphDigest"), (0, .methodref 4 5), (0, .class_ 6), (0, .nameAndType 7 8), (0, u "java/lang/Object"), (0, u "<init>"), (0, u "()V"), (0, .methodref 1 10), (0, .nameAndType 11 12), (0, u "isValidBlockSize"), (0, u "(J)Z"), (9, .string 23), (0, u "signature 1"), (0, .methodref 1 25), (0, .nameAndType 26 27), (0, u "checkSignature"), (0, u "(Ljava/lang/String;Ljava/lang/String;I)V"), (0, .string 29), (0, u "signature 2"), (0, .fieldref 1 31), (0, .nameAndType 32 33), (0, u "blockSize"), (0, u "J"), (0, .fieldref 1 35), (0, .nameAndType 36 37), (0, u "signature1"), (0, u "Ljava/lang/String;"), (0, .fieldref 1 39), (0, .nameAndType 40 37), (0, u "signature2"), (1, .class_ 44), (1, u "java/lang/String"), (20, u "(JLjava/lang/String;Ljava/lang/String;)V"), (3, .methodref 42 70), (0, .nameAndType 71 72), (0, u "equals"), (0, u "(Ljava/lang/Object;)Z"), (1, .class_ 76), (1, u "java/lang/Long"), (8, .long 3), (1, .long 3221225472), (1, .methodref 74 90), (0, .nameAndType 91 92), (0, u "bitCount"), (0, u "(J)I"), (6, .methodref 42 100), (0, .nameAndType 101 102), (0, u "length"), (0, u "()I"), (0, .methodref 42 104), (0, .nameAndType 105 106), (0, u "charAt"), (0, u "(I)C"), (11, u "MAX_BLOCK_SIZE_DIGITS"), (0, u "I"), (8, .methodref 1 129), (0, .nameAndType 130 131), (0, u "isBase64"), (0, u "(C)Z"), (19, u "MIN_BLOCK_SIZE"), (1, u "MAX_BLOCK_SIZE_EXPONENT"), (1, u "MAX_BLOCK_SIZE"), (0, u "MAX_SIGNATURE1_LENGTH"), (1, u "MAX_SIGNATURE2_LENGTH"), (1, u "BLOCK_SIZE_RULE")] 40

def k2c0 : Code := { maxStack := 4, maxLocals := 5, code := prog_15_method_1_code, exceptionTable := #[], attributes := #[] }
def k2m0 : Method := { name := "<init>", desc := "(JLjava/lang/String;Ljava/lang/String;)V", sig := { parameters := [.long, (.object "java/lang/String"), (.object "java/lang/String")], returnType := none }, accessFlags := 1, code := some k2c0 }
def k2c1 : Code := { maxStack := 4, maxLocals := 3, code := prog_15_method_7_code, exceptionTable := #[], attributes := #[] }
def k2m1 : Method := { name := "equals", desc := "(Ljava/lang/Object;)Z", sig := { parameters := [(.object "java/lang/Object")], returnType := some .boolean }, accessFlags := 1, code := some k2c1 }
def k2c2 : Code := { maxStack := 4, maxLocals := 2, code := prog_15_method_9_code, exceptionTable := #[], attributes := #[] }
def k2m2 : Method := { name := "isValidBlockSize", desc := "(J)Z", sig := { parameters := [.long], returnType := some .boolean }, accessFlags := 10, code := some k2c2 }
def k2c3 : Code := { maxStack := 6, maxLocals := 5, code := prog_15_method_11_code, exceptionTable := #[], attributes := #[] }
def k2m3 : Method := { name := "checkSignature", desc := "(Ljava/lang/String;Ljava/lang/String;I)V", sig := { parameters := [(.object "java/lang/String"), (.object "java/lang/String"), .int], returnType := none }, accessFlags := 10, code := some k2c3 }
def k2c4 : Code := { maxStack := 2, maxLocals := 1, code := prog_15_method_12_code, exceptionTable := #[], attributes := #[] }
def k2m4 : Method := { name := "isBase64", desc := "(C)Z", sig := { parameters := [.char], returnType := some .boolean }, accessFlags := 10, code := some k2c4 }
/-- com/example/relate_by_hash/relatebyhash/ctph/CtphDigest -/
def k2 : Class := { plain "com/example/relate_by_hash/relatebyhash/ctph/CtphDigest" (some 0) with
  accessFlags := 33
  interfaces := #[]
  cf := some (fileOf pool2 1 #[] #[{ accessFlags := 1, nameIndex := 7, descriptorIndex := 65, attributes := #[] }, { accessFlags := 1, nameIndex := 71, descriptorIndex := 72, attributes := #[] }, { accessFlags := 10, nameIndex := 11, descriptorIndex := 12, attributes := #[] }, { accessFlags := 10, nameIndex := 26, descriptorIndex := 27, attributes := #[] }, { accessFlags := 10, nameIndex := 130, descriptorIndex := 131, attributes := #[] }] 33 4 #[] #[{ accessFlags := 24, nameIndex := 151, descriptorIndex := 33, attributes := #[] }, { accessFlags := 24, nameIndex := 153, descriptorIndex := 119, attributes := #[] }, { accessFlags := 24, nameIndex := 155, descriptorIndex := 33, attributes := #[] }, { accessFlags := 26, nameIndex := 118, descriptorIndex := 119, attributes := #[] }, { accessFlags := 24, nameIndex := 156, descriptorIndex := 119, attributes := #[] }, { accessFlags := 24, nameIndex := 158, descriptorIndex := 119, attributes := #[] }, { accessFlags := 26, nameIndex := 160, descriptorIndex := 37, attributes := #[] }, { accessFlags := 18, nameIndex := 32, descriptorIndex := 33, attributes := #[] }, { accessFlags := 18, nameIndex := 36, descriptorIndex := 37, attributes := #[] }, { accessFlags := 18, nameIndex := 40, descriptorIndex := 37, attributes := #[] }])
  fields := #[{ name := "MIN_BLOCK_SIZE", type := .long, accessFlags := 24, slot := 0, constantValue := 0 }, { name := "MAX_BLOCK_SIZE_EXPONENT", type := .int, accessFlags := 24, slot := 1, constantValue := 0 }, { name := "MAX_BLOCK_SIZE", type := .long, accessFlags := 24, slot := 2, constantValue := 0 }, { name := "MAX_BLOCK_SIZE_DIGITS", type := .int, accessFlags := 26, slot := 3, constantValue := 0 }, { name := "MAX_SIGNATURE1_LENGTH", type := .int, accessFlags := 24, slot := 4, constantValue := 0 }, { name := "MAX_SIGNATURE2_LENGTH", type := .int, accessFlags := 24, slot := 5, constantValue := 0 }, { name := "BLOCK_SIZE_RULE", type := (.object "java/lang/String"), accessFlags := 26, slot := 6, constantValue := 0 }, { name := "blockSize", type := .long, accessFlags := 18, slot := 0, constantValue := 0 }, { name := "signature1", type := (.object "java/lang/String"), accessFlags := 18, slot := 1, constantValue := 0 }, { name := "signature2", type := (.object "java/lang/String"), accessFlags := 18, slot := 2, constantValue := 0 }]
  methods := #[k2m0, k2m1, k2m2, k2m3, k2m4]
  instanceTypes := #[.long, (.object "java/lang/String"), (.object "java/lang/String")]
  staticTypes := #[.long, .int, .long, .int, .int, .int, (.object "java/lang/String")]
  resolved := Array.replicate 201 none
  statics := none }

def pool3 : Array CpInfo := pool [(1, .class_ 2), (0, u "java/io/Serializable"), (0, .class_ 4), (0, u "java/lang/Object")] 2

/-- java/io/Serializable -/
def k3 : Class := { plain "java/io/Serializable" (some 0) with
  accessFlags := 1537
  interfaces := #[]
  cf := some (fileOf pool3 1 #[] #[] 1537 3 #[] #[])
  fields := #[]
  methods := #[]
  instanceTypes := #[]
  staticTypes := #[]
  resolved := Array.replicate 7 none
  statics := none }

def pool4 : Array CpInfo := pool [(1, .class_ 2), (0, u "java/lang/Comparable"), (0, .class_ 4), (0, u "java/lang/Object")] 7

/-- java/lang/Comparable -/
def k4 : Class := { plain "java/lang/Comparable" (some 0) with
  accessFlags := 1537
  interfaces := #[]
  cf := some (fileOf pool4 1 #[] #[] 1537 3 #[] #[])
  fields := #[]
  methods := #[]
  instanceTypes := #[]
  staticTypes := #[]
  resolved := Array.replicate 12 none
  statics := none }

def pool5 : Array CpInfo := pool [(2, .class_ 4), (1, u "java/lang/CharSequence"), (42, .class_ 48), (0, u "java/lang/CharSequence$1CodePointIterator"), (10, .class_ 60), (0, u "java/lang/CharSequence$1CharIterator"), (5, .class_ 67), (0, u "java/lang/Object")] 63

/-- java/lang/CharSequence -/
def k5 : Class := { plain "java/lang/CharSequence" (some 0) with
  accessFlags := 1537
  interfaces := #[]
  cf := some (fileOf pool5 2 #[.nestMembers #[47, 59]] #[] 1537 66 #[] #[])
  fields := #[]
  methods := #[]
  instanceTypes := #[]
  staticTypes := #[]
  resolved := Array.replicate 131 none
  statics := none }

def pool6 : Array CpInfo := pool [(1, .class_ 2), (0, u "java/lang/constant/Constable"), (0, .class_ 4), (0, u "java/lang/Object")] 6

/-- java/lang/constant/Constable -/
def k6 : Class := { plain "java/lang/constant/Constable" (some 0) with
  accessFlags := 1537
  interfaces := #[]
  cf := some (fileOf pool6 1 #[] #[] 1537 3 #[] #[])
  fields := #[]
  methods := #[]
  instanceTypes := #[]
  staticTypes := #[]
  resolved := Array.replicate 11 none
  statics := none }

def pool7 : Array CpInfo := pool [(1, .class_ 2), (0, u "java/lang/constant/ConstantDesc"), (0, .class_ 4), (0, u "java/lang/Object")] 32

/-- java/lang/constant/ConstantDesc -/
def k7 : Class := { plain "java/lang/constant/ConstantDesc" (some 0) with
  accessFlags := 1537
  interfaces := #[]
  cf := some (fileOf pool7 1 #[] #[] 1537 3 #[] #[])
  fields := #[]
  methods := #[]
  instanceTypes := #[]
  staticTypes := #[]
  resolved := Array.replicate 37 none
  statics := none }

def pool8 : Array CpInfo := pool [(1, .methodref 2 3), (0, .class_ 4), (0, .nameAndType 5 6), (0, u "java/lang/Object"), (0, u "<init>"), (0, u "()V"), (0, .string 8), (0, u ""), (0, .fieldref 10 11), (0, .class_ 12), (0, .nameAndType 13 14), (0, u "java/lang/String"), (0, u "value"), (0, u "[B"), (0, .fieldref 10 16), (0, .nameAndType 17 18), (0, u "coder"), (0, u "B"), (2, u "hash"), (0, u "I"), (2, u "hashIsZero"), (0, u "Z"), (0, .methodref 10 28), (0, .nameAndType 5 29), (0, u "([CIILjava/lang/Void;)V"), (8, .fieldref 10 39), (0, .nameAndType 40 26), (0, u "COMPACT_STRINGS"), (1, .class_ 44), (1, u "java/lang/StringUTF16"), (0, u "compress"), (1, .methodref 42 48), (0, .nameAndType 49 50), (0, u "coderFromArrayLen"), (0, u "([BI)B"), (56, .class_ 109), (1, u "java/lang/StringLatin1"), (32, u "()Z"), (34, .methodref 42 178), (0, .nameAndType 45 179), (0, u "([CII)[B"), (154, u "()I"), (0, .methodref 10 336), (0, .nameAndType 17 337), (0, u "()B"), (25, u "([BI)C"), (27, u "(II)V"), (35, u "(I)C"), (64, .methodref 10 493), (0, .nameAndType 494 142), (0, u "isLatin1"), (0, .methodref 107 496), (0, .nameAndType 497 363), (0, u "charAt"), (3, u "checkIndex"), (5, u "length"), (33, .methodref 107 542), (0, .nameAndType 543 544), (0, u "equals"), (0, u "([B[B)Z"), (28, u "(Ljava/lang/Object;)Z"), (1, .class_ 576), (0, u "java/lang/CharSequence"), (22, u "CASE_INSENSITIVE_ORDER"), (0, u "Ljava/util/Comparator;"), (409, u "([C)V"), (42, .fieldref 1054 1055), (0, .class_ 1056), (0, .nameAndType 1057 1058), (0, u "jdk/internal/util/Preconditions"), (0, u "SIOOBE_FORMATTER"), (0, u "Ljava/util/function/BiFunction;"), (0, .methodref 1054 1060), (0, .nameAndType 501 1061), (0, u "(IILjava/util/function/BiFunction;)I"), (39, u "serialPersistentFields"), (0, u "[Ljava/io/ObjectStreamField;"), (0, .class_ 1104), (0, u "java/lang/String$CaseInsensitiveComparator"), (1, .class_ 1107), (0, u "java/io/Serializable"), (0, .class_ 1109), (0, u "java/lang/Comparable"), (0, .class_ 1111), (0, u "java/lang/constant/Constable"), (0, .class_ 1113), (0, u "java/lang/constant/ConstantDesc"), (2, u "serialVersionUID"), (0, u "J"), (3, u "REPL"), (0, u "C"), (2, u "LATIN1"), (1, u "UTF16")] 323

def k8m0 : Method := { name := "<init>", desc := "()V", sig := { parameters := [], returnType := none }, accessFlags := 1, code := none }
def k8c1 : Code := { maxStack := 5, maxLocals := 2, code := jdk_42_method_3_code, exceptionTable := #[], attributes := #[] }
def k8m1 : Method := { name := "<init>", desc := "([C)V", sig := { parameters := [(.array .char)], returnType := none }, accessFlags := 1, code := some k8c1 }
def k8c2 : Code := { maxStack := 2, maxLocals := 1, code := jdk_42_method_54_code, exceptionTable := #[], attributes := #[] }
def k8m2 : Method := { name := "length", desc := "()I", sig := { parameters := [], returnType := some .int }, accessFlags := 1, code := some k8c2 }
def k8c3 : Code := { maxStack := 2, maxLocals := 2, code := jdk_42_method_56_code, exceptionTable := #[], attributes := #[] }
def k8m3 : Method := { name := "charAt", desc := "(I)C", sig := { parameters := [.int], returnType := some .char }, accessFlags := 1, code := some k8c3 }
def k8c4 : Code := { maxStack := 2, maxLocals := 3, code := jdk_42_method_66_code, exceptionTable := #[], attributes := #[] }
def k8m4 : Method := { name := "equals", desc := "(Ljava/lang/Object;)Z", sig := { parameters := [(.object "java/lang/Object")], returnType := some .boolean }, accessFlags := 1, code := some k8c4 }
def k8c5 : Code := { maxStack := 4, maxLocals := 6, code := jdk_42_method_149_code, exceptionTable := #[], attributes := #[] }
def k8m5 : Method := { name := "<init>", desc := "([CIILjava/lang/Void;)V", sig := { parameters := [(.array .char), .int, .int, (.object "java/lang/Void")], returnType := none }, accessFlags := 2, code := some k8c5 }
def k8c6 : Code := { maxStack := 1, maxLocals := 1, code := jdk_42_method_152_code, exceptionTable := #[], attributes := #[] }
def k8m6 : Method := { name := "coder", desc := "()B", sig := { parameters := [], returnType := some .byte }, accessFlags := 0, code := some k8c6 }
def k8c7 : Code := { maxStack := 1, maxLocals := 1, code := jdk_42_method_154_code, exceptionTable := #[], attributes := #[] }
def k8m7 : Method := { name := "isLatin1", desc := "()Z", sig := { parameters := [], returnType := some .boolean }, accessFlags := 0, code := some k8c7 }
def k8c8 : Code := { maxStack := 3, maxLocals := 2, code := jdk_42_method_155_code, exceptionTable := #[], attributes := #[] }
def k8m8 : Method := { name := "checkIndex", desc := "(II)V", sig := { parameters := [.int, .int], returnType := none }, accessFlags := 8, code := some k8c8 }
/-- java/lang/String -/
def k8 : Class := { plain "java/lang/String" (some 0) with
  accessFlags := 49
  interfaces := #[3, 4, 5, 6, 7]
  cf := some (fileOf pool8 10 #[.nestMembers #[1103]] #[{ accessFlags := 1, nameIndex := 5, descriptorIndex := 6, attributes := #[] }, { accessFlags := 1, nameIndex := 5, descriptorIndex := 1010, attributes := #[] }, { accessFlags := 1, nameIndex := 507, descriptorIndex := 334, attributes := #[] }, { accessFlags := 1, nameIndex := 497, descriptorIndex := 427, attributes := #[] }, { accessFlags := 1, nameIndex := 543, descriptorIndex := 573, attributes := #[] }, { accessFlags := 2, nameIndex := 5, descriptorIndex := 29, attributes := #[] }, { accessFlags := 0, nameIndex := 17, descriptorIndex := 337, attributes := #[] }, { accessFlags := 0, nameIndex := 494, descriptorIndex := 142, attributes := #[] }, { accessFlags := 8, nameIndex := 501, descriptorIndex := 391, attributes := #[] }] 49 2 #[1106, 1108, 575, 1110, 1112] #[{ accessFlags := 18, nameIndex := 13, descriptorIndex := 14, attributes := #[] }, { accessFlags := 18, nameIndex := 17, descriptorIndex := 18, attributes := #[] }, { accessFlags := 2, nameIndex := 21, descriptorIndex := 22, attributes := #[] }, { accessFlags := 2, nameIndex := 25, descriptorIndex := 26, attributes := #[] }, { accessFlags := 26, nameIndex := 1116, descriptorIndex := 1117, attributes := #[] }, { accessFlags := 24, nameIndex := 40, descriptorIndex := 26, attributes := #[] }, { accessFlags := 26, nameIndex := 1101, descriptorIndex := 1102, attributes := #[] }, { accessFlags := 26, nameIndex := 1121, descriptorIndex := 1122, attributes := #[] }, { accessFlags := 25, nameIndex := 599, descriptorIndex := 600, attributes := #[] }, { accessFlags := 24, nameIndex := 1125, descriptorIndex := 18, attributes := #[] }, { accessFlags := 24, nameIndex := 1127, descriptorIndex := 18, attributes := #[] }])
  fields := #[{ name := "value", type := (.array .byte), accessFlags := 18, slot := 0, constantValue := 0 }, { name := "coder", type := .byte, accessFlags := 18, slot := 1, constantValue := 0 }, { name := "hash", type := .int, accessFlags := 2, slot := 2, constantValue := 0 }, { name := "hashIsZero", type := .boolean, accessFlags := 2, slot := 3, constantValue := 0 }, { name := "serialVersionUID", type := .long, accessFlags := 26, slot := 0, constantValue := 0 }, { name := "COMPACT_STRINGS", type := .boolean, accessFlags := 24, slot := 1, constantValue := 0 }, { name := "serialPersistentFields", type := (.array (.object "java/io/ObjectStreamField")), accessFlags := 26, slot := 2, constantValue := 0 }, { name := "REPL", type := .char, accessFlags := 26, slot := 3, constantValue := 0 }, { name := "CASE_INSENSITIVE_ORDER", type := (.object "java/util/Comparator"), accessFlags := 25, slot := 4, constantValue := 0 }, { name := "LATIN1", type := .byte, accessFlags := 24, slot := 5, constantValue := 0 }, { name := "UTF16", type := .byte, accessFlags := 24, slot := 6, constantValue := 0 }]
  methods := #[k8m0, k8m1, k8m2, k8m3, k8m4, k8m5, k8m6, k8m7, k8m8]
  instanceTypes := #[(.array .byte), .byte, .int, .boolean]
  staticTypes := #[.long, .boolean, (.array (.object "java/io/ObjectStreamField")), .char, (.object "java/util/Comparator"), .byte, .byte]
  resolved := Array.replicate 1451 none
  statics := some 0 }

def pool9 : Array CpInfo := pool [(2, .class_ 4), (1, u "java/lang/Object"), (0, u "<init>"), (0, u "()V"), (1, .class_ 10), (1, u "java/lang/Number"), (2, .class_ 14), (0, u "java/io/Serializable"), (0, u "serialVersionUID"), (0, u "J")] 20

def k9m0 : Method := { name := "<init>", desc := "()V", sig := { parameters := [], returnType := none }, accessFlags := 1, code := none }
/-- java/lang/Number -/
def k9 : Class := { plain "java/lang/Number" (some 0) with
  accessFlags := 1057
  interfaces := #[3]
  cf := some (fileOf pool9 8 #[] #[{ accessFlags := 1, nameIndex := 5, descriptorIndex := 6, attributes := #[] }] 1057 2 #[13] #[{ accessFlags := 26, nameIndex := 15, descriptorIndex := 16, attributes := #[] }])
  fields := #[{ name := "serialVersionUID", type := .long, accessFlags := 26, slot := 0, constantValue := 0 }]
  methods := #[k9m0]
  instanceTypes := #[]
  staticTypes := #[.long]
  resolved := Array.replicate 37 none
  statics := none }

def pool10 : Array CpInfo := pool [(1, .class_ 2), (0, u "java/lang/Long"), (98, u "(J)I"), (133, .class_ 237), (1, u "java/lang/Long$LongCache"), (33, .class_ 272), (0, u "java/lang/Number"), (2, u "value"), (0, u "J"), (37, .long 6148914691236517205), (1, .long 3689348814741910323), (1, .long 1085102592571150095), (42, u "TYPE"), (0, u "Ljava/lang/Class;"), (0, .class_ 364), (0, u "java/lang/Comparable"), (0, .class_ 366), (0, u "java/lang/constant/Constable"), (0, .class_ 368), (0, u "java/lang/constant/ConstantDesc"), (0, u "MIN_VALUE"), (1, u "MAX_VALUE"), (4, u "SIZE"), (0, u "I"), (1, u "BYTES"), (1, u "serialVersionUID"), (94, u "bitCount")] 47

def k10c0 : Code := { maxStack := 6, maxLocals := 2, code := jdk_35_method_50_code, exceptionTable := #[], attributes := #[] }
def k10m0 : Method := { name := "bitCount", desc := "(J)I", sig := { parameters := [.long], returnType := some .int }, accessFlags := 9, code := some k10c0 }
/-- java/lang/Long -/
def k10 : Class := { plain "java/lang/Long" (some 9) with
  accessFlags := 49
  interfaces := #[4, 6, 7]
  cf := some (fileOf pool10 1 #[.nestMembers #[235]] #[{ accessFlags := 9, nameIndex := 476, descriptorIndex := 101, attributes := #[] }] 49 271 #[363, 365, 367] #[{ accessFlags := 25, nameIndex := 369, descriptorIndex := 276, attributes := #[] }, { accessFlags := 25, nameIndex := 371, descriptorIndex := 276, attributes := #[] }, { accessFlags := 25, nameIndex := 361, descriptorIndex := 362, attributes := #[] }, { accessFlags := 18, nameIndex := 275, descriptorIndex := 276, attributes := #[] }, { accessFlags := 25, nameIndex := 376, descriptorIndex := 377, attributes := #[] }, { accessFlags := 25, nameIndex := 379, descriptorIndex := 377, attributes := #[] }, { accessFlags := 26, nameIndex := 381, descriptorIndex := 276, attributes := #[] }])
  fields := #[{ name := "MIN_VALUE", type := .long, accessFlags := 25, slot := 0, constantValue := 0 }, { name := "MAX_VALUE", type := .long, accessFlags := 25, slot := 1, constantValue := 0 }, { name := "TYPE", type := (.object "java/lang/Class"), accessFlags := 25, slot := 2, constantValue := 0 }, { name := "value", type := .long, accessFlags := 18, slot := 0, constantValue := 0 }, { name := "SIZE", type := .int, accessFlags := 25, slot := 3, constantValue := 0 }, { name := "BYTES", type := .int, accessFlags := 25, slot := 4, constantValue := 0 }, { name := "serialVersionUID", type := .long, accessFlags := 26, slot := 5, constantValue := 0 }]
  methods := #[k10m0]
  instanceTypes := #[.long]
  staticTypes := #[.long, .long, (.object "java/lang/Class"), .int, .int, .long]
  resolved := Array.replicate 524 none
  statics := none }

def pool11 : Array CpInfo := pool [(1, .methodref 2 3), (0, .class_ 4), (0, .nameAndType 5 6), (0, u "java/lang/Object"), (0, u "<init>"), (0, u "()V"), (0, .string 8), (0, u "digest"), (0, .methodref 10 11), (0, .class_ 12), (0, .nameAndType 13 14), (0, u "java/util/Objects"), (0, u "requireNonNull"), (0, u "(Ljava/lang/Object;Ljava/lang/String;)Ljava/lang/Object;"), (0, .class_ 16), (0, u "com/example/relate_by_hash/relatebyhash/ctph/CtphDigest"), (0, .fieldref 18 19), (0, .class_ 20), (0, .nameAndType 8 21), (0, u "com/example/relate_by_hash/relatebyhash/ctph/CtphDigestList$Entry"), (0, u "Lcom/example/relate_by_hash/relatebyhash/ctph/CtphDigest;"), (0, .string 23), (0, u "name"), (0, .class_ 25), (0, u "java/lang/String"), (0, .fieldref 18 27), (0, .nameAndType 23 28), (0, u "Ljava/lang/String;"), (0, .methodref 15 30), (0, .nameAndType 31 32), (0, u "equals"), (0, u "(Ljava/lang/Object;)Z"), (0, .methodref 24 30), (5, .class_ 41), (1, u "com/example/relate_by_hash/relatebyhash/ctph/CtphDigestList"), (2, u "(Lcom/example/relate_by_hash/relatebyhash/ctph/CtphDigest;Ljava/lang/String;)V")] 13

def k11c0 : Code := { maxStack := 3, maxLocals := 3, code := prog_17_method_1_code, exceptionTable := #[], attributes := #[] }
def k11m0 : Method := { name := "<init>", desc := "(Lcom/example/relate_by_hash/relatebyhash/ctph/CtphDigest;Ljava/lang/String;)V", sig := { parameters := [(.object "com/example/relate_by_hash/relatebyhash/ctph/CtphDigest"), (.object "java/lang/String")], returnType := none }, accessFlags := 1, code := some k11c0 }
def k11c1 : Code := { maxStack := 2, maxLocals := 3, code := prog_17_method_4_code, exceptionTable := #[], attributes := #[] }
def k11m1 : Method := { name := "equals", desc := "(Ljava/lang/Object;)Z", sig := { parameters := [(.object "java/lang/Object")], returnType := some .boolean }, accessFlags := 1, code := some k11c1 }
/-- com/example/relate_by_hash/relatebyhash/ctph/CtphDigestList$Entry -/
def k11 : Class := { plain "com/example/relate_by_hash/relatebyhash/ctph/CtphDigestList$Entry" (some 0) with
  accessFlags := 33
  interfaces := #[]
  cf := some (fileOf pool11 18 #[.nestHost 39] #[{ accessFlags := 1, nameIndex := 5, descriptorIndex := 44, attributes := #[] }, { accessFlags := 1, nameIndex := 31, descriptorIndex := 32, attributes := #[] }] 33 2 #[] #[{ accessFlags := 18, nameIndex := 8, descriptorIndex := 21, attributes := #[] }, { accessFlags := 18, nameIndex := 23, descriptorIndex := 28, attributes := #[] }])
  fields := #[{ name := "digest", type := (.object "com/example/relate_by_hash/relatebyhash/ctph/CtphDigest"), accessFlags := 18, slot := 0, constantValue := 0 }, { name := "name", type := (.object "java/lang/String"), accessFlags := 18, slot := 1, constantValue := 0 }]
  methods := #[k11m0, k11m1]
  instanceTypes := #[(.object "com/example/relate_by_hash/relatebyhash/ctph/CtphDigest"), (.object "java/lang/String")]
  staticTypes := #[]
  resolved := Array.replicate 58 none
  statics := none }

def pool12 : Array CpInfo := pool [(2, .class_ 4), (1, u "java/lang/Object"), (0, u "<init>"), (0, u "()V"), (35, .class_ 44), (1, u "java/util/Objects"), (0, u "requireNonNull"), (48, u "(Ljava/lang/Object;Ljava/lang/String;)Ljava/lang/Object;")] 89

def k12m0 : Method := { name := "<init>", desc := "()V", sig := { parameters := [], returnType := none }, accessFlags := 2, code := none }
def k12c1 : Code := { maxStack := 3, maxLocals := 2, code := jdk_31_method_11_code, exceptionTable := #[], attributes := #[] }
def k12m1 : Method := { name := "requireNonNull", desc := "(Ljava/lang/Object;Ljava/lang/String;)Ljava/lang/Object;", sig := { parameters := [(.object "java/lang/Object"), (.object "java/lang/String")], returnType := some (.object "java/lang/Object") }, accessFlags := 9, code := some k12c1 }
/-- java/util/Objects -/
def k12 : Class := { plain "java/util/Objects" (some 0) with
  accessFlags := 49
  interfaces := #[]
  cf := some (fileOf pool12 42 #[] #[{ accessFlags := 2, nameIndex := 5, descriptorIndex := 6, attributes := #[] }, { accessFlags := 9, nameIndex := 45, descriptorIndex := 94, attributes := #[] }] 49 2 #[] #[])
  fields := #[]
  methods := #[k12m0, k12m1]
  instanceTypes := #[]
  staticTypes := #[]
  resolved := Array.replicate 184 none
  statics := none }

def pool13 : Array CpInfo := pool [(1, .class_ 2), (0, u "java/lang/String"), (1, .class_ 6), (1, u "java/lang/Object"), (0, u "<init>"), (0, u "()V"), (0, .methodref 1 10), (0, .nameAndType 11 12), (0, u "checkIndex"), (0, u "(II)V"), (1, .class_ 16), (1, u "java/lang/StringLatin1"), (36, u "([BI)C"), (67, u "$assertionsDisabled"), (0, u "Z"), (98, .class_ 223), (1, u "java/lang/StringLatin1$LinesSpliterator"), (28, u "charAt"), (28, u "equals"), (0, u "([B[B)Z"), (107, .class_ 391), (0, u "java/lang/StringLatin1$CharsSpliterator")] 3

def k13m0 : Method := { name := "<init>", desc := "()V", sig := { parameters := [], returnType := none }, accessFlags := 0, code := none }
def k13c1 : Code := { maxStack := 2, maxLocals := 2, code := jdk_43_method_2_code, exceptionTable := #[], attributes := #[] }
def k13m1 : Method := { name := "charAt", desc := "([BI)C", sig := { parameters := [(.array .byte), .int], returnType := some .char }, accessFlags := 9, code := some k13c1 }
def k13c2 : Code := { maxStack := 3, maxLocals := 3, code := jdk_43_method_13_code, exceptionTable := #[], attributes := #[] }
def k13m2 : Method := { name := "equals", desc := "([B[B)Z", sig := { parameters := [(.array .byte), (.array .byte)], returnType := some .boolean }, accessFlags := 9, code := some k13c2 }
/-- java/lang/StringLatin1 -/
def k13 : Class := { plain "java/lang/StringLatin1" (some 0) with
  accessFlags := 48
  interfaces := #[]
  cf := some (fileOf pool13 14 #[.nestMembers #[390, 221]] #[{ accessFlags := 0, nameIndex := 7, descriptorIndex := 8, attributes := #[] }, { accessFlags := 9, nameIndex := 252, descriptorIndex := 53, attributes := #[] }, { accessFlags := 9, nameIndex := 281, descriptorIndex := 282, attributes := #[] }] 48 4 #[] #[{ accessFlags := 4120, nameIndex := 121, descriptorIndex := 122, attributes := #[] }])
  fields := #[{ name := "$assertionsDisabled", type := .boolean, accessFlags := 4120, slot := 0, constantValue := 0 }]
  methods := #[k13m0, k13m1, k13m2]
  instanceTypes := #[]
  staticTypes := #[.boolean]
  resolved := Array.replicate 395 none
  statics := none }

def pool14 : Array CpInfo := pool [(6, .class_ 8), (1, u "java/lang/Object"), (0, u "<init>"), (0, u "()V"), (1, .class_ 14), (1, u "java/lang/StringUTF16"), (31, u "$assertionsDisabled"), (0, u "Z"), (13, u "HI_BYTE_SHIFT"), (0, u "I"), (2, u "LO_BYTE_SHIFT"), (49, .methodref 12 116), (0, .nameAndType 117 118), (0, u "compress"), (0, u "([CI[BII)I"), (3, u "([CII)[B"), (138, u "coderFromArrayLen"), (0, u "([BI)B"), (106, .class_ 371), (1, u "java/lang/StringUTF16$LinesSpliterator"), (58, u "MAX_LENGTH"), (196, .class_ 628), (0, u "java/lang/StringUTF16$CodePointsSpliterator"), (0, .class_ 630), (0, u "java/lang/StringUTF16$CharsSpliterator")] 4

def k14m0 : Method := { name := "<init>", desc := "()V", sig := { parameters := [], returnType := none }, accessFlags := 0, code := none }
def k14c1 : Code := { maxStack := 2, maxLocals := 2, code := jdk_52_method_15_code, exceptionTable := #[], attributes := #[] }
def k14m1 : Method := { name := "coderFromArrayLen", desc := "([BI)B", sig := { parameters := [(.array .byte), .int], returnType := some .byte }, accessFlags := 8, code := some k14c1 }
def k14c2 : Code := { maxStack := 5, maxLocals := 6, code := jdk_52_method_16_code, exceptionTable := #[], attributes := #[] }
def k14m2 : Method := { name := "compress", desc := "([CII)[B", sig := { parameters := [(.array .char), .int, .int], returnType := some (.array .byte) }, accessFlags := 9, code := some k14c2 }
def k14c3 : Code := { maxStack := 3, maxLocals := 7, code := jdk_52_method_21_code, exceptionTable := #[], attributes := #[] }
def k14m3 : Method := { name := "compress", desc := "([CI[BII)I", sig := { parameters := [(.array .char), .int, (.array .byte), .int, .int], returnType := some .int }, accessFlags := 9, code := some k14c3 }
/-- java/lang/StringUTF16 -/
def k14 : Class := { plain "java/lang/StringUTF16" (some 0) with
  accessFlags := 48
  interfaces := #[]
  cf := some (fileOf pool14 12 #[.nestMembers #[627, 629, 369]] #[{ accessFlags := 0, nameIndex := 9, descriptorIndex := 10, attributes := #[] }, { accessFlags := 8, nameIndex := 261, descriptorIndex := 262, attributes := #[] }, { accessFlags := 9, nameIndex := 117, descriptorIndex := 122, attributes := #[] }, { accessFlags := 9, nameIndex := 117, descriptorIndex := 118, attributes := #[] }] 48 6 #[] #[{ accessFlags := 26, nameIndex := 61, descriptorIndex := 62, attributes := #[] }, { accessFlags := 26, nameIndex := 65, descriptorIndex := 62, attributes := #[] }, { accessFlags := 24, nameIndex := 430, descriptorIndex := 62, attributes := #[] }, { accessFlags := 4120, nameIndex := 46, descriptorIndex := 47, attributes := #[] }])
  fields := #[{ name := "HI_BYTE_SHIFT", type := .int, accessFlags := 26, slot := 0, constantValue := 0 }, { name := "LO_BYTE_SHIFT", type := .int, accessFlags := 26, slot := 1, constantValue := 0 }, { name := "MAX_LENGTH", type := .int, accessFlags := 24, slot := 2, constantValue := 0 }, { name := "$assertionsDisabled", type := .boolean, accessFlags := 4120, slot := 3, constantValue := 0 }]
  methods := #[k14m0, k14m1, k14m2, k14m3]
  instanceTypes := #[]
  staticTypes := #[.int, .int, .int, .boolean]
  resolved := Array.replicate 635 none
  statics := none }

def pool15 : Array CpInfo := pool [(2, .class_ 4), (1, u "java/lang/Object"), (0, u "<init>"), (0, u "()V"), (17, .class_ 26), (1, u "jdk/internal/util/Preconditions"), (6, u "checkIndex"), (21, .class_ 56), (0, u "jdk/internal/util/Preconditions$4"), (57, .class_ 115), (0, u "jdk/internal/util/Preconditions$1"), (7, u "SIOOBE_FORMATTER"), (0, u "Ljava/util/function/BiFunction;"), (0, .class_ 126), (0, u "jdk/internal/util/Preconditions$2"), (3, u "AIOOBE_FORMATTER"), (0, .class_ 132), (0, u "jdk/internal/util/Preconditions$3"), (3, u "IOOBE_FORMATTER"), (41, u "(IILjava/util/function/BiFunction;)I")] 15

def k15m0 : Method := { name := "<init>", desc := "()V", sig := { parameters := [], returnType := none }, accessFlags := 1, code := none }
def k15c1 : Code := { maxStack := 3, maxLocals := 3, code := jdk_41_method_11_code, exceptionTable := #[], attributes := #[] }
def k15m1 : Method := { name := "checkIndex", desc := "(IILjava/util/function/BiFunction;)I", sig := { parameters := [.int, .int, (.object "java/util/function/BiFunction")], returnType := some .int }, accessFlags := 9, code := some k15c1 }
/-- jdk/internal/util/Preconditions -/
def k15 : Class := { plain "jdk/internal/util/Preconditions" (some 0) with
  accessFlags := 33
  interfaces := #[]
  cf := some (fileOf pool15 24 #[.nestMembers #[55, 131, 125, 114]] #[{ accessFlags := 1, nameIndex := 5, descriptorIndex := 6, attributes := #[] }, { accessFlags := 9, nameIndex := 33, descriptorIndex := 178, attributes := #[] }] 33 2 #[] #[{ accessFlags := 25, nameIndex := 123, descriptorIndex := 124, attributes := #[] }, { accessFlags := 25, nameIndex := 130, descriptorIndex := 124, attributes := #[] }, { accessFlags := 25, nameIndex := 136, descriptorIndex := 124, attributes := #[] }])
  fields := #[{ name := "SIOOBE_FORMATTER", type := (.object "java/util/function/BiFunction"), accessFlags := 25, slot := 0, constantValue := 0 }, { name := "AIOOBE_FORMATTER", type := (.object "java/util/function/BiFunction"), accessFlags := 25, slot := 1, constantValue := 0 }, { name := "IOOBE_FORMATTER", type := (.object "java/util/function/BiFunction"), accessFlags := 25, slot := 2, constantValue := 0 }]
  methods := #[k15m0, k15m1]
  instanceTypes := #[]
  staticTypes := #[(.object "java/util/function/BiFunction"), (.object "java/util/function/BiFunction"), (.object "java/util/function/BiFunction")]
  resolved := Array.replicate 194 none
  statics := some 1 }

def pool16 : Array CpInfo := pool [(9, u "<init>"), (6, .class_ 18), (1, u "java/lang/Object"), (0, u "()V"), (1, .class_ 23), (1, u "jdk/internal/util/ArraysSupport"), (0, u "LOG2_ARRAY_LONG_INDEX_SCALE"), (0, u "I"), (2, u "U"), (0, u "Ljdk/internal/misc/Unsafe;"), (8, u "BIG_ENDIAN"), (0, u "Z"), (8, u "LOG2_BYTE_BIT_SIZE"), (4, u "LOG2_ARRAY_INT_INDEX_SCALE"), (54, u "JLA"), (0, u "Ljdk/internal/access/JavaLangAccess;"), (11, u "LOG2_ARRAY_BOOLEAN_INDEX_SCALE"), (9, u "LOG2_ARRAY_BYTE_INDEX_SCALE"), (5, u "LOG2_ARRAY_CHAR_INDEX_SCALE"), (5, u "LOG2_ARRAY_SHORT_INDEX_SCALE"), (18, u "LOG2_ARRAY_FLOAT_INDEX_SCALE"), (24, u "LOG2_ARRAY_DOUBLE_INDEX_SCALE"), (89, u "T_BOOLEAN"), (2, u "T_CHAR"), (1, u "T_FLOAT"), (1, u "T_DOUBLE"), (1, u "T_BYTE"), (1, u "T_SHORT"), (1, u "T_INT"), (1, u "T_LONG"), (1, u "SOFT_MAX_ARRAY_LENGTH")] 83

def k16m0 : Method := { name := "<init>", desc := "()V", sig := { parameters := [], returnType := none }, accessFlags := 2, code := none }
/-- jdk/internal/util/ArraysSupport -/
def k16 : Class := { plain "jdk/internal/util/ArraysSupport" (some 0) with
  accessFlags := 33
  interfaces := #[]
  cf := some (fileOf pool16 21 #[] #[{ accessFlags := 2, nameIndex := 9, descriptorIndex := 19, attributes := #[] }] 33 16 #[] #[{ accessFlags := 24, nameIndex := 28, descriptorIndex := 29, attributes := #[] }, { accessFlags := 26, nameIndex := 38, descriptorIndex := 39, attributes := #[] }, { accessFlags := 25, nameIndex := 121, descriptorIndex := 25, attributes := #[] }, { accessFlags := 25, nameIndex := 131, descriptorIndex := 25, attributes := #[] }, { accessFlags := 25, nameIndex := 137, descriptorIndex := 25, attributes := #[] }, { accessFlags := 25, nameIndex := 143, descriptorIndex := 25, attributes := #[] }, { accessFlags := 25, nameIndex := 53, descriptorIndex := 25, attributes := #[] }, { accessFlags := 25, nameIndex := 24, descriptorIndex := 25, attributes := #[] }, { accessFlags := 25, nameIndex := 162, descriptorIndex := 25, attributes := #[] }, { accessFlags := 25, nameIndex := 187, descriptorIndex := 25, attributes := #[] }, { accessFlags := 26, nameIndex := 48, descriptorIndex := 25, attributes := #[] }, { accessFlags := 25, nameIndex := 277, descriptorIndex := 25, attributes := #[] }, { accessFlags := 25, nameIndex := 280, descriptorIndex := 25, attributes := #[] }, { accessFlags := 25, nameIndex := 282, descriptorIndex := 25, attributes := #[] }, { accessFlags := 25, nameIndex := 284, descriptorIndex := 25, attributes := #[] }, { accessFlags := 25, nameIndex := 286, descriptorIndex := 25, attributes := #[] }, { accessFlags := 25, nameIndex := 288, descriptorIndex := 25, attributes := #[] }, { accessFlags := 25, nameIndex := 290, descriptorIndex := 25, attributes := #[] }, { accessFlags := 25, nameIndex := 292, descriptorIndex := 25, attributes := #[] }, { accessFlags := 26, nameIndex := 108, descriptorIndex := 109, attributes := #[] }, { accessFlags := 25, nameIndex := 294, descriptorIndex := 25, attributes := #[] }])
  fields := #[{ name := "U", type := (.object "jdk/internal/misc/Unsafe"), accessFlags := 24, slot := 0, constantValue := 0 }, { name := "BIG_ENDIAN", type := .boolean, accessFlags := 26, slot := 1, constantValue := 0 }, { name := "LOG2_ARRAY_BOOLEAN_INDEX_SCALE", type := .int, accessFlags := 25, slot := 2, constantValue := 0 }, { name := "LOG2_ARRAY_BYTE_INDEX_SCALE", type := .int, accessFlags := 25, slot := 3, constantValue := 0 }, { name := "LOG2_ARRAY_CHAR_INDEX_SCALE", type := .int, accessFlags := 25, slot := 4, constantValue := 0 }, { name := "LOG2_ARRAY_SHORT_INDEX_SCALE", type := .int, accessFlags := 25, slot := 5, constantValue := 0 }, { name := "LOG2_ARRAY_INT_INDEX_SCALE", type := .int, accessFlags := 25, slot := 6, constantValue := 0 }, { name := "LOG2_ARRAY_LONG_INDEX_SCALE", type := .int, accessFlags := 25, slot := 7, constantValue := 0 }, { name := "LOG2_ARRAY_FLOAT_INDEX_SCALE", type := .int, accessFlags := 25, slot := 8, constantValue := 0 }, { name := "LOG2_ARRAY_DOUBLE_INDEX_SCALE", type := .int, accessFlags := 25, slot := 9, constantValue := 0 }, { name := "LOG2_BYTE_BIT_SIZE", type := .int, accessFlags := 26, slot := 10, constantValue := 0 }, { name := "T_BOOLEAN", type := .int, accessFlags := 25, slot := 11, constantValue := 0 }, { name := "T_CHAR", type := .int, accessFlags := 25, slot := 12, constantValue := 0 }, { name := "T_FLOAT", type := .int, accessFlags := 25, slot := 13, constantValue := 0 }, { name := "T_DOUBLE", type := .int, accessFlags := 25, slot := 14, constantValue := 0 }, { name := "T_BYTE", type := .int, accessFlags := 25, slot := 15, constantValue := 0 }, { name := "T_SHORT", type := .int, accessFlags := 25, slot := 16, constantValue := 0 }, { name := "T_INT", type := .int, accessFlags := 25, slot := 17, constantValue := 0 }, { name := "T_LONG", type := .int, accessFlags := 25, slot := 18, constantValue := 0 }, { name := "JLA", type := (.object "jdk/internal/access/JavaLangAccess"), accessFlags := 26, slot := 19, constantValue := 0 }, { name := "SOFT_MAX_ARRAY_LENGTH", type := .int, accessFlags := 25, slot := 20, constantValue := 0 }]
  methods := #[k16m0]
  instanceTypes := #[]
  staticTypes := #[(.object "jdk/internal/misc/Unsafe"), .boolean, .int, .int, .int, .int, .int, .int, .int, .int, .int, .int, .int, .int, .int, .int, .int, .int, .int, (.object "jdk/internal/access/JavaLangAccess"), .int]
  resolved := Array.replicate 378 none
  statics := none }

def pool17 : Array CpInfo := pool [(1, u "java/lang/Cloneable"), (0, .class_ 1), (0, u "java/lang/Object"), (0, .class_ 3)] 3

/-- java/lang/Cloneable -/
def k17 : Class := { plain "java/lang/Cloneable" (some 0) with
  accessFlags := 1537
  interfaces := #[]
  cf := some (fileOf pool17 2 #[] #[] 1537 4 #[] #[])
  fields := #[]
  methods := #[]
  instanceTypes := #[]
  staticTypes := #[]
  resolved := Array.replicate 8 none
  statics := none }

/-- the primitive byte -/
def k18 : Class := { plain "byte" none with kind := .primitive 'B', accessFlags := 0x411 }
/-- [B -/
def k19 : Class := { plain "[B" (some 0) with kind := .array 18 .byte, interfaces := #[17, 3], accessFlags := 1041 }

/-- the primitive char -/
def k20 : Class := { plain "char" none with kind := .primitive 'C', accessFlags := 0x411 }
/-- [C -/
def k21 : Class := { plain "[C" (some 0) with kind := .array 20 .char, interfaces := #[17, 3], accessFlags := 1041 }

/-- the primitive int -/
def k22 : Class := { plain "int" none with kind := .primitive 'I', accessFlags := 0x411 }
/-- [I -/
def k23 : Class := { plain "[I" (some 0) with kind := .array 22 .int, interfaces := #[17, 3], accessFlags := 1041 }

def heap : Heap := #[{ cls := 8, slots := #[.long 0, .int 1, .null, .int 0, .null, .int 0, .int 0], vm := .statics 8 },
  { cls := 15, slots := #[.null, .null, .null], vm := .statics 15 }]
def classes : Array Class := #[k0, k1, k2, k3, k4, k5, k6, k7, k8, k9, k10, k11, k12, k13, k14, k15, k16, k17, k18, k19, k20, k21, k22, k23]
def interned : List (Array UInt16 × Addr) := []
def slotsUsed : Nat := 10
def theMethod : MethodId := ⟨1, 1⟩
def args0 : Array Value := #[.long 5, .long 7, .int 3]
def aboutOver (below : List Frame) : State where
  vm := { classes := classes, interned := interned.toArray }
  heap := heap
  slotsUsed := slotsUsed
  threads := #[{ frames := .invoking theMethod args0 :: below }]
def below0 : List Frame := [.native { method := ⟨0, 0⟩, args := #[] }]
def about1 : State := aboutOver below0
def p0 : Program := .bare "" "" ""
def e0 : Env := launch0.env 0 0 0
theorem w_frames : about1.frames = Frame.invoking theMethod args0 :: below0 := rfl
set_option maxRecDepth 65536 in
theorem w_args : argsFit about1.vm theMethod args0 = true := by decide +kernel
set_option maxRecDepth 65536 in
theorem w_heap : heapFits about1 = true := by decide +kernel
set_option maxRecDepth 65536 in
theorem w_runnable : about1.curStatus? = some .runnable := by decide +kernel
set_option maxRecDepth 65536 in
theorem w_alone : about1.alone = true := by decide +kernel
set_option maxRecDepth 65536 in
theorem w_named : about1.methodNamed? x = some theMethod := by decide +kernel
set_option maxRecDepth 65536 in
theorem w_hears : about1.hears theMethod below0 = true := by decide +kernel
set_option maxRecDepth 65536 in
theorem w_ripe : about1.ripe theMethod args0 below0 = true := by decide +kernel
theorem w_running : about1.status = .running := rfl
set_option maxRecDepth 65536 in
theorem w_room : about1.hasRoom e0.platform room_1 = true :=
  launch0.hasRoom_least _ room_1 (by decide +kernel) (by decide +kernel) (by decide +kernel) (by decide +kernel) (by decide +kernel) (by decide +kernel)
theorem allAtoms_all (ts : List Jvm.Cond) (a : Array Jvm.Value) (st : Jvm.State) : (allAtoms ts).before a st = ts.all (fun c => c.before a st) := by
  induction ts with
  | nil => rfl
  | cons c t ih =>
    show (Jvm.Cond.and c (allAtoms t)).before a st = _
    rw [Jvm.Cond.before_and, ih, List.all_cons]
def words1 : List Jvm.Cond := Jvm.Cond.code x code maxLocals ret :: tables_1
/-- a 'code' word, met by the world's own term for the bytes: nothing is compared byte by byte -/
theorem code_word {y : MethodName} {bytes : ByteArray} {mx : Nat} {rt : Option FieldType} {a : Array Value} {s : State} {m : MethodId} {meth : Method} {c : Code} (h1 : s.methodNamed? y = some m) (h2 : s.vm.method? m = some meth) (h3 : meth.code = some c) (h4 : c.code = bytes)
    (h5 : (c.maxLocals == mx && c.exceptionTable.isEmpty && decide (c.maxStack ≤ mostOperands) && decide (meth.sig.returnType = rt) && !meth.locks && decide (parseMethodDescriptor y.desc = some meth.sig)) = true) : (Jvm.Cond.code y bytes mx rt).before a s = true := by
  simp only [Bool.and_eq_true, beq_iff_eq, Bool.not_eq_true', decide_eq_true_eq] at h5
  obtain ⟨⟨⟨⟨⟨g1, g2⟩, g3⟩, g4⟩, g5⟩, g6⟩ := h5
  simp [Cond.before, Cond.holds, Cond.value, h1, h2, h3, h4, g1, g2, g3, g4, g5, g6]
def isCode : Jvm.Cond → Bool
  | .code _ _ _ _ => true
  | _ => false
theorem all_split {L : List Jvm.Cond} {P : Jvm.Cond → Bool} (h1 : L.all (fun c => isCode c || P c) = true) (h2 : ∀ c ∈ L.filter isCode, P c = true) : L.all P = true := by
  refine List.all_eq_true.mpr fun c hc => ?_
  have h := List.all_eq_true.mp h1 c hc
  rcases Bool.eq_false_or_eq_true (isCode c) with hi | hi
  · exact h2 c (List.mem_filter.mpr ⟨hc, hi⟩)
  · simpa [hi] using h
set_option maxRecDepth 65536 in
theorem w_c0 : (Jvm.Cond.code x code maxLocals ret).before args0 about1 = true := code_word (m := ⟨1, 1⟩) (meth := k1m1) (c := k1c1) (by decide +kernel) rfl rfl rfl (by decide +kernel)
set_option maxRecDepth 65536 in
theorem w_c1 : (Jvm.Cond.code ({ cls := "com/example/relate_by_hash/relatebyhash/ctph/EntryEqualsPinLaw", name := "k", desc := "(J)I" } : Jvm.MethodName) method_3_code (2 : Nat) (Option.some Jvm.ClassFile.FieldType.int)).before args0 about1 = true := code_word (m := ⟨1, 2⟩) (meth := k1m2) (c := k1c2) (by decide +kernel) rfl rfl rfl (by decide +kernel)
set_option maxRecDepth 65536 in
theorem w_c2 : (Jvm.Cond.code ({ cls := "com/example/relate_by_hash/relatebyhash/ctph/EntryEqualsPinLaw", name := "str", desc := "(JIIZ)Ljava/lang/String;" } : Jvm.MethodName) method_7_code (10 : Nat) (Option.some (Jvm.ClassFile.FieldType.object "java/lang/String"))).before args0 about1 = true := code_word (m := ⟨1, 6⟩) (meth := k1m6) (c := k1c6) (by decide +kernel) rfl rfl rfl (by decide +kernel)
set_option maxRecDepth 65536 in
theorem w_c3 : (Jvm.Cond.code ({ cls := "com/example/relate_by_hash/relatebyhash/ctph/EntryEqualsPinLaw", name := "field", desc := "(JII)I" } : Jvm.MethodName) method_4_code (4 : Nat) (Option.some Jvm.ClassFile.FieldType.int)).before args0 about1 = true := code_word (m := ⟨1, 3⟩) (meth := k1m3) (c := k1c3) (by decide +kernel) rfl rfl rfl (by decide +kernel)
set_option maxRecDepth 65536 in
theorem w_c4 : (Jvm.Cond.code ({ cls := "com/example/relate_by_hash/relatebyhash/ctph/EntryEqualsPinLaw", name := "b64", desc := "(I)C" } : Jvm.MethodName) method_6_code (1 : Nat) (Option.some Jvm.ClassFile.FieldType.char)).before args0 about1 = true := code_word (m := ⟨1, 5⟩) (meth := k1m5) (c := k1c5) (by decide +kernel) rfl rfl rfl (by decide +kernel)
set_option maxRecDepth 65536 in
theorem w_c5 : (Jvm.Cond.code ({ cls := "java/lang/String", name := "<init>", desc := "([C)V" } : Jvm.MethodName) jdk_42_method_3_code (2 : Nat) (Option.none : Option Jvm.ClassFile.FieldType)).before args0 about1 = true := code_word (m := ⟨8, 1⟩) (meth := k8m1) (c := k8c1) (by decide +kernel) rfl rfl rfl (by decide +kernel)
set_option maxRecDepth 65536 in
theorem w_c6 : (Jvm.Cond.code ({ cls := "java/lang/String", name := "<init>", desc := "([CIILjava/lang/Void;)V" } : Jvm.MethodName) jdk_42_method_149_code (6 : Nat) (Option.none : Option Jvm.ClassFile.FieldType)).before args0 about1 = true := code_word (m := ⟨8, 5⟩) (meth := k8m5) (c := k8c5) (by decide +kernel) rfl rfl rfl (by decide +kernel)
set_option maxRecDepth 65536 in
theorem w_c7 : (Jvm.Cond.code ({ cls := "java/lang/Object", name := "<init>", desc := "()V" } : Jvm.MethodName) object_method_1_code (1 : Nat) (Option.none : Option Jvm.ClassFile.FieldType)).before args0 about1 = true := code_word (m := ⟨0, 0⟩) (meth := k0m0) (c := k0c0) (by decide +kernel) rfl rfl rfl (by decide +kernel)
set_option maxRecDepth 65536 in
theorem w_c8 : (Jvm.Cond.code ({ cls := "com/example/relate_by_hash/relatebyhash/ctph/CtphDigest", name := "<init>", desc := "(JLjava/lang/String;Ljava/lang/String;)V" } : Jvm.MethodName) prog_15_method_1_code (5 : Nat) (Option.none : Option Jvm.ClassFile.FieldType)).before args0 about1 = true := code_word (m := ⟨2, 0⟩) (meth := k2m0) (c := k2c0) (by decide +kernel) rfl rfl rfl (by decide +kernel)
set_option maxRecDepth 65536 in
theorem w_c9 : (Jvm.Cond.code ({ cls := "com/example/relate_by_hash/relatebyhash/ctph/CtphDigest", name := "isValidBlockSize", desc := "(J)Z" } : Jvm.MethodName) prog_15_method_9_code (2 : Nat) (Option.some Jvm.ClassFile.FieldType.boolean)).before args0 about1 = true := code_word (m := ⟨2, 2⟩) (meth := k2m2) (c := k2c2) (by decide +kernel) rfl rfl rfl (by decide +kernel)
set_option maxRecDepth 65536 in
theorem w_c10 : (Jvm.Cond.code ({ cls := "java/lang/Long", name := "bitCount", desc := "(J)I" } : Jvm.MethodName) jdk_35_method_50_code (2 : Nat) (Option.some Jvm.ClassFile.FieldType.int)).before args0 about1 = true := code_word (m := ⟨10, 0⟩) (meth := k10m0) (c := k10c0) (by decide +kernel) rfl rfl rfl (by decide +kernel)
set_option maxRecDepth 65536 in
theorem w_c11 : (Jvm.Cond.code ({ cls := "com/example/relate_by_hash/relatebyhash/ctph/CtphDigest", name := "checkSignature", desc := "(Ljava/lang/String;Ljava/lang/String;I)V" } : Jvm.MethodName) prog_15_method_11_code (5 : Nat) (Option.none : Option Jvm.ClassFile.FieldType)).before args0 about1 = true := code_word (m := ⟨2, 3⟩) (meth := k2m3) (c := k2c3) (by decide +kernel) rfl rfl rfl (by decide +kernel)
set_option maxRecDepth 65536 in
theorem w_c12 : (Jvm.Cond.code ({ cls := "java/lang/String", name := "length", desc := "()I" } : Jvm.MethodName) jdk_42_method_54_code (1 : Nat) (Option.some Jvm.ClassFile.FieldType.int)).before args0 about1 = true := code_word (m := ⟨8, 2⟩) (meth := k8m2) (c := k8c2) (by decide +kernel) rfl rfl rfl (by decide +kernel)
set_option maxRecDepth 65536 in
theorem w_c13 : (Jvm.Cond.code ({ cls := "java/lang/String", name := "coder", desc := "()B" } : Jvm.MethodName) jdk_42_method_152_code (1 : Nat) (Option.some Jvm.ClassFile.FieldType.byte)).before args0 about1 = true := code_word (m := ⟨8, 6⟩) (meth := k8m6) (c := k8c6) (by decide +kernel) rfl rfl rfl (by decide +kernel)
set_option maxRecDepth 65536 in
theorem w_c14 : (Jvm.Cond.code ({ cls := "com/example/relate_by_hash/relatebyhash/ctph/CtphDigestList$Entry", name := "<init>", desc := "(Lcom/example/relate_by_hash/relatebyhash/ctph/CtphDigest;Ljava/lang/String;)V" } : Jvm.MethodName) prog_17_method_1_code (3 : Nat) (Option.none : Option Jvm.ClassFile.FieldType)).before args0 about1 = true := code_word (m := ⟨11, 0⟩) (meth := k11m0) (c := k11c0) (by decide +kernel) rfl rfl rfl (by decide +kernel)
set_option maxRecDepth 65536 in
theorem w_c15 : (Jvm.Cond.code ({ cls := "java/util/Objects", name := "requireNonNull", desc := "(Ljava/lang/Object;Ljava/lang/String;)Ljava/lang/Object;" } : Jvm.MethodName) jdk_31_method_11_code (2 : Nat) (Option.some (Jvm.ClassFile.FieldType.object "java/lang/Object"))).before args0 about1 = true := code_word (m := ⟨12, 1⟩) (meth := k12m1) (c := k12c1) (by decide +kernel) rfl rfl rfl (by decide +kernel)
set_option maxRecDepth 65536 in
theorem w_c16 : (Jvm.Cond.code ({ cls := "com/example/relate_by_hash/relatebyhash/ctph/CtphDigestList$Entry", name := "equals", desc := "(Ljava/lang/Object;)Z" } : Jvm.MethodName) prog_17_method_4_code (3 : Nat) (Option.some Jvm.ClassFile.FieldType.boolean)).before args0 about1 = true := code_word (m := ⟨11, 1⟩) (meth := k11m1) (c := k11c1) (by decide +kernel) rfl rfl rfl (by decide +kernel)
set_option maxRecDepth 65536 in
theorem w_c17 : (Jvm.Cond.code ({ cls := "com/example/relate_by_hash/relatebyhash/ctph/CtphDigest", name := "equals", desc := "(Ljava/lang/Object;)Z" } : Jvm.MethodName) prog_15_method_7_code (3 : Nat) (Option.some Jvm.ClassFile.FieldType.boolean)).before args0 about1 = true := code_word (m := ⟨2, 1⟩) (meth := k2m1) (c := k2c1) (by decide +kernel) rfl rfl rfl (by decide +kernel)
set_option maxRecDepth 65536 in
theorem w_c18 : (Jvm.Cond.code ({ cls := "com/example/relate_by_hash/relatebyhash/ctph/EntryEqualsPinLaw", name := "same", desc := "(JJII)Z" } : Jvm.MethodName) method_5_code (12 : Nat) (Option.some Jvm.ClassFile.FieldType.boolean)).before args0 about1 = true := code_word (m := ⟨1, 4⟩) (meth := k1m4) (c := k1c4) (by decide +kernel) rfl rfl rfl (by decide +kernel)
set_option maxRecDepth 65536 in
theorem w_c19 : (Jvm.Cond.code ({ cls := "java/lang/String", name := "equals", desc := "(Ljava/lang/Object;)Z" } : Jvm.MethodName) jdk_42_method_66_code (3 : Nat) (Option.some Jvm.ClassFile.FieldType.boolean)).before args0 about1 = true := code_word (m := ⟨8, 4⟩) (meth := k8m4) (c := k8c4) (by decide +kernel) rfl rfl rfl (by decide +kernel)
set_option maxRecDepth 65536 in
theorem w_c20 : (Jvm.Cond.code ({ cls := "java/lang/StringLatin1", name := "equals", desc := "([B[B)Z" } : Jvm.MethodName) jdk_43_method_13_code (3 : Nat) (Option.some Jvm.ClassFile.FieldType.boolean)).before args0 about1 = true := code_word (m := ⟨13, 2⟩) (meth := k13m2) (c := k13c2) (by decide +kernel) rfl rfl rfl (by decide +kernel)
set_option maxRecDepth 65536 in
theorem w_c21 : (Jvm.Cond.code ({ cls := "java/lang/StringUTF16", name := "compress", desc := "([CII)[B" } : Jvm.MethodName) jdk_52_method_16_code (6 : Nat) (Option.some (Jvm.ClassFile.FieldType.array Jvm.ClassFile.FieldType.byte))).before args0 about1 = true := code_word (m := ⟨14, 2⟩) (meth := k14m2) (c := k14c2) (by decide +kernel) rfl rfl rfl (by decide +kernel)
set_option maxRecDepth 65536 in
theorem w_c22 : (Jvm.Cond.code ({ cls := "java/lang/StringUTF16", name := "compress", desc := "([CI[BII)I" } : Jvm.MethodName) jdk_52_method_21_code (7 : Nat) (Option.some Jvm.ClassFile.FieldType.int)).before args0 about1 = true := code_word (m := ⟨14, 3⟩) (meth := k14m3) (c := k14c3) (by decide +kernel) rfl rfl rfl (by decide +kernel)
set_option maxRecDepth 65536 in
theorem w_c23 : (Jvm.Cond.code ({ cls := "java/lang/StringUTF16", name := "coderFromArrayLen", desc := "([BI)B" } : Jvm.MethodName) jdk_52_method_15_code (2 : Nat) (Option.some Jvm.ClassFile.FieldType.byte)).before args0 about1 = true := code_word (m := ⟨14, 1⟩) (meth := k14m1) (c := k14c1) (by decide +kernel) rfl rfl rfl (by decide +kernel)
set_option maxRecDepth 65536 in
theorem w_c24 : (Jvm.Cond.code ({ cls := "java/lang/String", name := "charAt", desc := "(I)C" } : Jvm.MethodName) jdk_42_method_56_code (2 : Nat) (Option.some Jvm.ClassFile.FieldType.char)).before args0 about1 = true := code_word (m := ⟨8, 3⟩) (meth := k8m3) (c := k8c3) (by decide +kernel) rfl rfl rfl (by decide +kernel)
set_option maxRecDepth 65536 in
theorem w_c25 : (Jvm.Cond.code ({ cls := "java/lang/String", name := "isLatin1", desc := "()Z" } : Jvm.MethodName) jdk_42_method_154_code (1 : Nat) (Option.some Jvm.ClassFile.FieldType.boolean)).before args0 about1 = true := code_word (m := ⟨8, 7⟩) (meth := k8m7) (c := k8c7) (by decide +kernel) rfl rfl rfl (by decide +kernel)
set_option maxRecDepth 65536 in
theorem w_c26 : (Jvm.Cond.code ({ cls := "java/lang/StringLatin1", name := "charAt", desc := "([BI)C" } : Jvm.MethodName) jdk_43_method_2_code (2 : Nat) (Option.some Jvm.ClassFile.FieldType.char)).before args0 about1 = true := code_word (m := ⟨13, 1⟩) (meth := k13m1) (c := k13c1) (by decide +kernel) rfl rfl rfl (by decide +kernel)
set_option maxRecDepth 65536 in
theorem w_c27 : (Jvm.Cond.code ({ cls := "java/lang/String", name := "checkIndex", desc := "(II)V" } : Jvm.MethodName) jdk_42_method_155_code (2 : Nat) (Option.none : Option Jvm.ClassFile.FieldType)).before args0 about1 = true := code_word (m := ⟨8, 8⟩) (meth := k8m8) (c := k8c8) (by decide +kernel) rfl rfl rfl (by decide +kernel)
set_option maxRecDepth 65536 in
theorem w_c28 : (Jvm.Cond.code ({ cls := "jdk/internal/util/Preconditions", name := "checkIndex", desc := "(IILjava/util/function/BiFunction;)I" } : Jvm.MethodName) jdk_41_method_11_code (3 : Nat) (Option.some Jvm.ClassFile.FieldType.int)).before args0 about1 = true := code_word (m := ⟨15, 1⟩) (meth := k15m1) (c := k15c1) (by decide +kernel) rfl rfl rfl (by decide +kernel)
set_option maxRecDepth 65536 in
theorem w_c29 : (Jvm.Cond.code ({ cls := "com/example/relate_by_hash/relatebyhash/ctph/CtphDigest", name := "isBase64", desc := "(C)Z" } : Jvm.MethodName) prog_15_method_12_code (1 : Nat) (Option.some Jvm.ClassFile.FieldType.boolean)).before args0 about1 = true := code_word (m := ⟨2, 4⟩) (meth := k2m4) (c := k2c4) (by decide +kernel) rfl rfl rfl (by decide +kernel)
def codes1 : List Jvm.Cond := [Jvm.Cond.code x code maxLocals ret, Jvm.Cond.code ({ cls := "com/example/relate_by_hash/relatebyhash/ctph/EntryEqualsPinLaw", name := "k", desc := "(J)I" } : Jvm.MethodName) method_3_code (2 : Nat) (Option.some Jvm.ClassFile.FieldType.int), Jvm.Cond.code ({ cls := "com/example/relate_by_hash/relatebyhash/ctph/EntryEqualsPinLaw", name := "str", desc := "(JIIZ)Ljava/lang/String;" } : Jvm.MethodName) method_7_code (10 : Nat) (Option.some (Jvm.ClassFile.FieldType.object "java/lang/String")), Jvm.Cond.code ({ cls := "com/example/relate_by_hash/relatebyhash/ctph/EntryEqualsPinLaw", name := "field", desc := "(JII)I" } : Jvm.MethodName) method_4_code (4 : Nat) (Option.some Jvm.ClassFile.FieldType.int), Jvm.Cond.code ({ cls := "com/example/relate_by_hash/relatebyhash/ctph/EntryEqualsPinLaw", name := "b64", desc := "(I)C" } : Jvm.MethodName) method_6_code (1 : Nat) (Option.some Jvm.ClassFile.FieldType.char), Jvm.Cond.code ({ cls := "java/lang/String", name := "<init>", desc := "([C)V" } : Jvm.MethodName) jdk_42_method_3_code (2 : Nat) (Option.none : Option Jvm.ClassFile.FieldType), Jvm.Cond.code ({ cls := "java/lang/String", name := "<init>", desc := "([CIILjava/lang/Void;)V" } : Jvm.MethodName) jdk_42_method_149_code (6 : Nat) (Option.none : Option Jvm.ClassFile.FieldType), Jvm.Cond.code ({ cls := "java/lang/Object", name := "<init>", desc := "()V" } : Jvm.MethodName) object_method_1_code (1 : Nat) (Option.none : Option Jvm.ClassFile.FieldType), Jvm.Cond.code ({ cls := "com/example/relate_by_hash/relatebyhash/ctph/CtphDigest", name := "<init>", desc := "(JLjava/lang/String;Ljava/lang/String;)V" } : Jvm.MethodName) prog_15_method_1_code (5 : Nat) (Option.none : Option Jvm.ClassFile.FieldType), Jvm.Cond.code ({ cls := "com/example/relate_by_hash/relatebyhash/ctph/CtphDigest", name := "isValidBlockSize", desc := "(J)Z" } : Jvm.MethodName) prog_15_method_9_code (2 : Nat) (Option.some Jvm.ClassFile.FieldType.boolean), Jvm.Cond.code ({ cls := "java/lang/Long", name := "bitCount", desc := "(J)I" } : Jvm.MethodName) jdk_35_method_50_code (2 : Nat) (Option.some Jvm.ClassFile.FieldType.int), Jvm.Cond.code ({ cls := "com/example/relate_by_hash/relatebyhash/ctph/CtphDigest", name := "checkSignature", desc := "(Ljava/lang/String;Ljava/lang/String;I)V" } : Jvm.MethodName) prog_15_method_11_code (5 : Nat) (Option.none : Option Jvm.ClassFile.FieldType), Jvm.Cond.code ({ cls := "java/lang/String", name := "length", desc := "()I" } : Jvm.MethodName) jdk_42_method_54_code (1 : Nat) (Option.some Jvm.ClassFile.FieldType.int), Jvm.Cond.code ({ cls := "java/lang/String", name := "coder", desc := "()B" } : Jvm.MethodName) jdk_42_method_152_code (1 : Nat) (Option.some Jvm.ClassFile.FieldType.byte), Jvm.Cond.code ({ cls := "com/example/relate_by_hash/relatebyhash/ctph/CtphDigestList$Entry", name := "<init>", desc := "(Lcom/example/relate_by_hash/relatebyhash/ctph/CtphDigest;Ljava/lang/String;)V" } : Jvm.MethodName) prog_17_method_1_code (3 : Nat) (Option.none : Option Jvm.ClassFile.FieldType), Jvm.Cond.code ({ cls := "java/util/Objects", name := "requireNonNull", desc := "(Ljava/lang/Object;Ljava/lang/String;)Ljava/lang/Object;" } : Jvm.MethodName) jdk_31_method_11_code (2 : Nat) (Option.some (Jvm.ClassFile.FieldType.object "java/lang/Object")), Jvm.Cond.code ({ cls := "com/example/relate_by_hash/relatebyhash/ctph/CtphDigestList$Entry", name := "equals", desc := "(Ljava/lang/Object;)Z" } : Jvm.MethodName) prog_17_method_4_code (3 : Nat) (Option.some Jvm.ClassFile.FieldType.boolean), Jvm.Cond.code ({ cls := "com/example/relate_by_hash/relatebyhash/ctph/CtphDigest", name := "equals", desc := "(Ljava/lang/Object;)Z" } : Jvm.MethodName) prog_15_method_7_code (3 : Nat) (Option.some Jvm.ClassFile.FieldType.boolean), Jvm.Cond.code ({ cls := "com/example/relate_by_hash/relatebyhash/ctph/EntryEqualsPinLaw", name := "same", desc := "(JJII)Z" } : Jvm.MethodName) method_5_code (12 : Nat) (Option.some Jvm.ClassFile.FieldType.boolean), Jvm.Cond.code ({ cls := "java/lang/String", name := "equals", desc := "(Ljava/lang/Object;)Z" } : Jvm.MethodName) jdk_42_method_66_code (3 : Nat) (Option.some Jvm.ClassFile.FieldType.boolean), Jvm.Cond.code ({ cls := "java/lang/StringLatin1", name := "equals", desc := "([B[B)Z" } : Jvm.MethodName) jdk_43_method_13_code (3 : Nat) (Option.some Jvm.ClassFile.FieldType.boolean), Jvm.Cond.code ({ cls := "java/lang/StringUTF16", name := "compress", desc := "([CII)[B" } : Jvm.MethodName) jdk_52_method_16_code (6 : Nat) (Option.some (Jvm.ClassFile.FieldType.array Jvm.ClassFile.FieldType.byte)), Jvm.Cond.code ({ cls := "java/lang/StringUTF16", name := "compress", desc := "([CI[BII)I" } : Jvm.MethodName) jdk_52_method_21_code (7 : Nat) (Option.some Jvm.ClassFile.FieldType.int), Jvm.Cond.code ({ cls := "java/lang/StringUTF16", name := "coderFromArrayLen", desc := "([BI)B" } : Jvm.MethodName) jdk_52_method_15_code (2 : Nat) (Option.some Jvm.ClassFile.FieldType.byte), Jvm.Cond.code ({ cls := "java/lang/String", name := "charAt", desc := "(I)C" } : Jvm.MethodName) jdk_42_method_56_code (2 : Nat) (Option.some Jvm.ClassFile.FieldType.char), Jvm.Cond.code ({ cls := "java/lang/String", name := "isLatin1", desc := "()Z" } : Jvm.MethodName) jdk_42_method_154_code (1 : Nat) (Option.some Jvm.ClassFile.FieldType.boolean), Jvm.Cond.code ({ cls := "java/lang/StringLatin1", name := "charAt", desc := "([BI)C" } : Jvm.MethodName) jdk_43_method_2_code (2 : Nat) (Option.some Jvm.ClassFile.FieldType.char), Jvm.Cond.code ({ cls := "java/lang/String", name := "checkIndex", desc := "(II)V" } : Jvm.MethodName) jdk_42_method_155_code (2 : Nat) (Option.none : Option Jvm.ClassFile.FieldType), Jvm.Cond.code ({ cls := "jdk/internal/util/Preconditions", name := "checkIndex", desc := "(IILjava/util/function/BiFunction;)I" } : Jvm.MethodName) jdk_41_method_11_code (3 : Nat) (Option.some Jvm.ClassFile.FieldType.int), Jvm.Cond.code ({ cls := "com/example/relate_by_hash/relatebyhash/ctph/CtphDigest", name := "isBase64", desc := "(C)Z" } : Jvm.MethodName) prog_15_method_12_code (1 : Nat) (Option.some Jvm.ClassFile.FieldType.boolean)]
set_option maxRecDepth 65536 in
theorem codes_eq : words1.filter isCode = codes1 := rfl
theorem w_codes : ∀ c ∈ words1.filter isCode, c.before args0 about1 = true := by
  rw [codes_eq]
  intro c hc
  simp only [codes1, List.mem_cons, List.not_mem_nil, or_false] at hc
  rcases hc with rfl | rfl | rfl | rfl | rfl | rfl | rfl | rfl | rfl | rfl | rfl | rfl | rfl | rfl | rfl | rfl | rfl | rfl | rfl | rfl | rfl | rfl | rfl | rfl | rfl | rfl | rfl | rfl | rfl | rfl
  · exact w_c0
  · exact w_c1
  · exact w_c2
  · exact w_c3
  · exact w_c4
  · exact w_c5
  · exact w_c6
  · exact w_c7
  · exact w_c8
  · exact w_c9
  · exact w_c10
  · exact w_c11
  · exact w_c12
  · exact w_c13
  · exact w_c14
  · exact w_c15
  · exact w_c16
  · exact w_c17
  · exact w_c18
  · exact w_c19
  · exact w_c20
  · exact w_c21
  · exact w_c22
  · exact w_c23
  · exact w_c24
  · exact w_c25
  · exact w_c26
  · exact w_c27
  · exact w_c28
  · exact w_c29
set_option maxRecDepth 65536 in
theorem w_t1 : (words1.take 24).all (fun c => isCode c || c.before args0 about1) = true := by decide +kernel
set_option maxRecDepth 65536 in
theorem w_t2 : ((words1.drop 24).take 24).all (fun c => isCode c || c.before args0 about1) = true := by decide +kernel
set_option maxRecDepth 65536 in
theorem w_t3 : (((words1.drop 24).drop 24).take 24).all (fun c => isCode c || c.before args0 about1) = true := by decide +kernel
set_option maxRecDepth 65536 in
theorem w_t4 : ((((words1.drop 24).drop 24).drop 24).take 24).all (fun c => isCode c || c.before args0 about1) = true := by decide +kernel
set_option maxRecDepth 65536 in
theorem w_t5 : (((((words1.drop 24).drop 24).drop 24).drop 24).take 24).all (fun c => isCode c || c.before args0 about1) = true := by decide +kernel
set_option maxRecDepth 65536 in
theorem w_t6 : ((((((words1.drop 24).drop 24).drop 24).drop 24).drop 24).take 24).all (fun c => isCode c || c.before args0 about1) = true := by decide +kernel
set_option maxRecDepth 65536 in
theorem w_t7 : ((((((words1.drop 24).drop 24).drop 24).drop 24).drop 24).drop 24).all (fun c => isCode c || c.before args0 about1) = true := by decide +kernel
theorem w_tables : (allAtoms (Jvm.Cond.code x code maxLocals ret :: tables_1)).before args0 about1 = true := by
  rw [allAtoms_all]
  show words1.all (fun c => c.before args0 about1) = true
  refine all_split ?_ w_codes
  rw [← List.take_append_drop 24 words1, List.all_append, w_t1, ← List.take_append_drop 24 (words1.drop 24), List.all_append, w_t2, ← List.take_append_drop 24 ((words1.drop 24).drop 24), List.all_append, w_t3, ← List.take_append_drop 24 (((words1.drop 24).drop 24).drop 24), List.all_append, w_t4, ← List.take_append_drop 24 ((((words1.drop 24).drop 24).drop 24).drop 24), List.all_append, w_t5, ← List.take_append_drop 24 (((((words1.drop 24).drop 24).drop 24).drop 24).drop 24), List.all_append, w_t6, w_t7]
  rfl
set_option maxRecDepth 65536 in
theorem w_rest : rest_1_c.before args0 about1 = true := by decide +kernel
set_option maxRecDepth 65536 in
theorem w_case : (Jvm.Cond.and given_1 narrow_1).before args0 about1 = true := by decide +kernel
set_option maxRecDepth 65536 in
theorem w_consts : constsHeld consts_1 about1 := Jvm.Lit.constsHeldB_iff.mp (by decide +kernel)
theorem w_applies : (headSpec (Jvm.Cond.code x code maxLocals ret :: tables_1) room_1).applies x e0.platform about1 = true :=
  (Spec.applies_iff w_frames).mpr ⟨w_running, w_runnable, w_alone, w_named, w_hears, w_ripe, w_room, w_tables⟩
theorem atStart : AtStart classFile x code maxLocals ret World_1 tables_1 room_1 Calls_1 rest_1 Pre_1 launch0 p0 e0 about1 theMethod args0 below0 :=
  ⟨lists_1, trivial, launch0.admits_env _ _ _, launch0.least_env, fairChoices_fair.cas, fairChoices_fair.clock, w_frames, w_args, w_heap, w_applies, ⟨w_consts, trivial⟩, w_rest, w_case⟩
end start1
theorem witness_1 : WitnessClaimed_1 := ⟨start1.p0, start1.e0, start1.about1, start1.theMethod, start1.args0, start1.below0, start1.atStart⟩
end Jvm.Pilot.@@N@@
