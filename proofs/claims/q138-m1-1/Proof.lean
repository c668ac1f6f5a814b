import JvmDerived
import JvmDerived.Pilot.@@N@@Statement
import JvmDerived.Pilot.@@N@@Code
set_option linter.unusedVariables false
set_option linter.unusedSimpArgs false
namespace Jvm.OwnKit
open Sem ClassFile Op Lib Jvm.Stand Jvm.Free Jvm.LawKit Jvm.RoadKit
section Own
variable {p : Program} {l : Launch} {e : Env} {R : Room} {s : State} {m : MethodId} {args : Array Value} {below : List Frame} {meth : Method} {c : Code} {T : State} {locs : List Loc} {cells slots : Nat} {Z : State} {h h' : Heap} {a b : Addr}
theorem retI (X : Stand p l e R s m args below meth c T locs cells slots) (hx : p.tables.exec = Jvm.exec) {pc : Nat} {Ls : Array Slot} {z : Int32} {rest : List Value} (hret : meth.sig.returnType = some .int) (hd : decode c.code pc = .ok (.ireturn, 1)) {fs : List Frame}
    (hl : ∀ (f : JFrame) (acts : List Action), f.method = m → f.locked = none → f.entered = [] → (doReturn e (T.setTop f) acts (some (.int z))).1 = T.setFrames fs) : Steps p.tables e below (T.setTop (mkF m pc Ls (.int z :: rest))) (T.setFrames fs) :=
  retOut X hx hret rfl (Or.inl ⟨rfl, Or.inl rfl, z, rfl⟩) hd hl
/-- the run goes on from S to an end of which G holds -/
def Go (p : Program) (e : Env) (below : List Frame) (S : State) (G : State → Outcome → Prop) : Prop := ∃ s₂ o, Steps p.tables e below S s₂ ∧ s₂.status = .running ∧ Ended s₂ below o ∧ G s₂ o
theorem Go.via {S S' : State} {G : State → Outcome → Prop} (h : ∀ t, Steps p.tables e below S' t → Steps p.tables e below S t) (k : Go p e below S' G) : Go p e below S G := by
  obtain ⟨a, o, h1, r⟩ := k; exact ⟨a, o, h a h1, r⟩
/-- the end: what is returned, what the heap says, what was written -/
abbrev Done (s : State) (Q : Option Value → Heap → List Loc → Prop) (kc ks : Nat) : State → Outcome → Prop := fun s₂ o => ∃ v L, o = .returned v ∧ Q v s₂.heap L ∧ FrameEnd s o s₂ L kc ks
theorem Go.fin {S : State} (X : Stand p l e R s m args below meth c T locs cells slots) (hlk : meth.locks = false) {v : Option Value} (hv : meth.sig.returnType = none → v = none) {Q : Option Value → Heap → List Loc → Prop} {kc ks : Nat}
    (hstep : ∀ fs, (∀ (f : JFrame) (acts : List Action), f.method = m → f.locked = none → f.entered = [] → (doReturn e (T.setTop f) acts v).1 = T.setFrames fs) → Steps p.tables e below S (T.setFrames fs))
    (hQ : Q v T.heap locs) (hc : cells ≤ kc) (hs : slots ≤ ks) : Go p e below S (Done s Q kc ks) := by
  obtain ⟨fs, hr, hrun, hended, hW, hsame⟩ := X.leave (v := v) hv hlk
  exact ⟨_, _, hstep fs hr, hrun, hended, _, _, rfl, hQ, ⟨_, rfl⟩, hW, hsame.mono hc hs⟩
/-- an array of ints, bytes, chars, shorts or booleans, whole -/
def Ia (Z : State) (h : Heap) (a : Addr) (ty : FieldType) (xs : List Int32) : Prop := ∃ c : Cell, Arr Z h a c ty ∧ c.slots = (xs.map Value.int).toArray ∧ xs.length < 2147483648 ∧ ∀ x ∈ xs, fits ty (.int x) = true
variable {ty : FieldType} {xs : List Int32} {ws : List Addr} {sl : Nat} {v w : Value} {j x n : Int32} {k : ClassId} {rest : List Value}
theorem Ia.lt (F : Ia Z h a ty xs) : a < h.size := by obtain ⟨c, A, -⟩ := F; exact A.lt
theorem Ia.ext (F : Ia Z h a ty xs) (E : Ext h h') : Ia Z h' a ty xs := by obtain ⟨c, A, r⟩ := F; exact ⟨c, A.ext E, r⟩
theorem Ia.other (F : Ia Z h b ty xs) (W : Wr h h' a sl v) (q : b ≠ a) : Ia Z h' b ty xs := by obtain ⟨c, A, r⟩ := F; exact ⟨c, A.other W q, r⟩
theorem Ia.keep (F : Ia Z h a ty xs) (K : Keep h h' ws) (q : a ∉ ws) : Ia Z h' a ty xs := by obtain ⟨c, A, r⟩ := F; exact ⟨c, ⟨K.2.1 a c A.1 q, A.2⟩, r⟩
theorem nn_lt {n : Int32} : n.toNatClampNeg < 2147483648 := by
  have h1 := n.toInt_lt
  simp only [Int32.toNatClampNeg]; omega
theorem Ia.new (A : Arr Z h a (newA k ty n) ty) (hd : defaultValue ty = .int 0) (hf : fits ty (.int 0) = true := by rfl) : Ia Z h a ty (List.replicate n.toNatClampNeg 0) := ⟨_, A, by simp [newA, hd], by simp [nn_lt], fun x hx => by rw [(List.mem_replicate.mp hx).2]; exact hf⟩
theorem Ia.hin {cl : Cell} (e : cl.slots = (xs.map Value.int).toArray) (hj : ¬ j < 0) (hlt : j.toNatClampNeg < xs.length) : ¬ (j < 0 ∨ cl.slots.size ≤ j.toNatClampNeg) := by
  rw [e]; simp only [List.size_toArray, List.length_map]; rintro (q | q); exact hj q; omega
theorem Ia.at {cl : Cell} (e : cl.slots = (xs.map Value.int).toArray) (hv : xs[j.toNatClampNeg]? = some x) : cl.slots[j.toNatClampNeg]? = some (.int x) := by
  rw [e]; simp [hv]
theorem lt_of_at (hv : xs[j.toNatClampNeg]? = some x) : j.toNatClampNeg < xs.length := (List.getElem?_eq_some_iff.mp hv).1
theorem Ia.set {cl : Cell} (A : Arr Z h a cl ty) (e : cl.slots = (xs.map Value.int).toArray) (hl : xs.length < 2147483648) (hf : ∀ x ∈ xs, fits ty (.int x) = true) (W : Wr h h' a j.toNatClampNeg (.int x)) (hx : fits ty (.int x) = true) : Ia Z h' a ty (xs.set j.toNatClampNeg x) :=
  ⟨_, A.same W, by simp [Cell.setSlot, e, List.map_set], by simpa using hl, fun y hy => by rcases List.mem_or_eq_of_mem_set hy with q | q; exact hf y q; rw [q]; exact hx⟩
theorem ldI (X : Stand p l e R s m args below meth c T locs cells slots) (hx : p.tables.exec = Jvm.exec) (hZ : Z.Warmed39 s.vm) (eT : T.heap = h) (F : Ia Z h a .int xs) {v : Int32} (hj : ¬ j < 0) (hv : xs[j.toNatClampNeg]? = some v) {g : JFrame} (hg : g.method = m) (hs : g.stack = .int j :: .ref a :: rest) (hd : decode c.code g.pc = .ok (.iaload, 1)) :
    ∀ t, Steps p.tables e below (T.setTop { g with pc := g.pc + 1, stack := .int v :: rest }) t → Steps p.tables e below (T.setTop g) t := by
  obtain ⟨cl, A, q, -⟩ := F
  exact X.iaload hx (j := j) (v := .int v) (by rw [eT]; exact A.1) (State.isArrayOf_alike hZ.alike A.2.1) A.2.2 (Ia.hin q hj (lt_of_at hv)) (Ia.at q hv) hg hs hd
theorem ldB (X : Stand p l e R s m args below meth c T locs cells slots) (hx : p.tables.exec = Jvm.exec) (hZ : Z.Warmed39 s.vm) (eT : T.heap = h) (F : Ia Z h a .byte xs) {v : Int32} (hj : ¬ j < 0) (hv : xs[j.toNatClampNeg]? = some v) {g : JFrame} (hg : g.method = m) (hs : g.stack = .int j :: .ref a :: rest) (hd : decode c.code g.pc = .ok (.baload, 1)) :
    ∀ t, Steps p.tables e below (T.setTop { g with pc := g.pc + 1, stack := .int v :: rest }) t → Steps p.tables e below (T.setTop g) t := by
  obtain ⟨cl, A, q, -⟩ := F
  exact X.baloadBytes hx (j := j) (v := .int v) (by rw [eT]; exact A.1) (State.isArrayOf_alike hZ.alike A.2.1) A.2.2 (Ia.hin q hj (lt_of_at hv)) (Ia.at q hv) hg hs hd
theorem ldC (X : Stand p l e R s m args below meth c T locs cells slots) (hx : p.tables.exec = Jvm.exec) (hZ : Z.Warmed39 s.vm) (eT : T.heap = h) (F : Ia Z h a .char xs) {v : Int32} (hj : ¬ j < 0) (hv : xs[j.toNatClampNeg]? = some v) {g : JFrame} (hg : g.method = m) (hs : g.stack = .int j :: .ref a :: rest) (hd : decode c.code g.pc = .ok (.caload, 1)) :
    ∀ t, Steps p.tables e below (T.setTop { g with pc := g.pc + 1, stack := .int v :: rest }) t → Steps p.tables e below (T.setTop g) t := by
  obtain ⟨cl, A, q, -⟩ := F
  exact X.caload hx (j := j) (v := .int v) (by rw [eT]; exact A.1) (State.isArrayOf_alike hZ.alike A.2.1) A.2.2 (Ia.hin q hj (lt_of_at hv)) (Ia.at q hv) hg hs hd
theorem stI' (X : Stand p l e R s m args below meth c T locs cells slots) (hx : p.tables.exec = Jvm.exec) (hZ : Z.Warmed39 s.vm) (eT : T.heap = h) (F : Ia Z h a .int xs) (hj : ¬ j < 0) (hlt : j.toNatClampNeg < xs.length) {g : JFrame} (hg : g.method = m) (hs : g.stack = .int x :: .int j :: .ref a :: rest) (hd : decode c.code g.pc = .ok (.iastore, 1)) :
    ∃ T' h', Stand p l e R s m args below meth c T' (locs ++ [⟨a, j.toNatClampNeg⟩]) cells slots ∧ T'.heap = h' ∧ Wr h h' a j.toNatClampNeg (.int x) ∧ Ia Z h' a .int (xs.set j.toNatClampNeg x) ∧ ∀ t, Steps p.tables e below (T'.setTop { g with pc := g.pc + 1, stack := rest }) t → Steps p.tables e below (T.setTop g) t := by
  obtain ⟨cl, A, q, hl, hf⟩ := F
  obtain ⟨T', h', X', e', W, st⟩ := stI X hx hZ eT A (Ia.hin q hj hlt) hg hs hd
  exact ⟨T', h', X', e', W, Ia.set A q hl hf W rfl, st⟩
theorem stB' (X : Stand p l e R s m args below meth c T locs cells slots) (hx : p.tables.exec = Jvm.exec) (hZ : Z.Warmed39 s.vm) (eT : T.heap = h) (F : Ia Z h a .byte xs) (hj : ¬ j < 0) (hlt : j.toNatClampNeg < xs.length) {g : JFrame} (hg : g.method = m) (hs : g.stack = .int x :: .int j :: .ref a :: rest) (hd : decode c.code g.pc = .ok (.bastore, 1)) :
    ∃ T' h', Stand p l e R s m args below meth c T' (locs ++ [⟨a, j.toNatClampNeg⟩]) cells slots ∧ T'.heap = h' ∧ Wr h h' a j.toNatClampNeg (.int (nar .byte x)) ∧ Ia Z h' a .byte (xs.set j.toNatClampNeg (nar .byte x)) ∧ ∀ t, Steps p.tables e below (T'.setTop { g with pc := g.pc + 1, stack := rest }) t → Steps p.tables e below (T.setTop g) t := by
  obtain ⟨cl, A, q, hl, hf⟩ := F
  obtain ⟨T', h', X', e', W, st⟩ := stB X hx hZ eT A (Ia.hin q hj hlt) hg hs hd
  exact ⟨T', h', X', e', W, Ia.set A q hl hf W (fits_nar_byte x), st⟩
theorem stC' (X : Stand p l e R s m args below meth c T locs cells slots) (hx : p.tables.exec = Jvm.exec) (hZ : Z.Warmed39 s.vm) (eT : T.heap = h) (F : Ia Z h a .char xs) (hj : ¬ j < 0) (hlt : j.toNatClampNeg < xs.length) {g : JFrame} (hg : g.method = m) (hs : g.stack = .int x :: .int j :: .ref a :: rest) (hd : decode c.code g.pc = .ok (.castore, 1)) :
    ∃ T' h', Stand p l e R s m args below meth c T' (locs ++ [⟨a, j.toNatClampNeg⟩]) cells slots ∧ T'.heap = h' ∧ Wr h h' a j.toNatClampNeg (.int (nar .char x)) ∧ Ia Z h' a .char (xs.set j.toNatClampNeg (nar .char x)) ∧ ∀ t, Steps p.tables e below (T'.setTop { g with pc := g.pc + 1, stack := rest }) t → Steps p.tables e below (T.setTop g) t := by
  obtain ⟨cl, A, q, hl, hf⟩ := F
  obtain ⟨T', h', X', e', W, st⟩ := stC X hx hZ eT A (Ia.hin q hj hlt) hg hs hd
  exact ⟨T', h', X', e', W, Ia.set A q hl hf W (fits_nar_char x), st⟩
theorem lenI (X : Stand p l e R s m args below meth c T locs cells slots) (hx : p.tables.exec = Jvm.exec) (hZ : Z.Warmed39 s.vm) (eT : T.heap = h) (F : Ia Z h a ty xs) (hn : xs.length.toInt32 = n) {g : JFrame} (hg : g.method = m) (hs : g.stack = .ref a :: rest) (hd : decode c.code g.pc = .ok (.arraylength, 1)) :
    ∀ t, Steps p.tables e below (T.setTop { g with pc := g.pc + 1, stack := .int n :: rest }) t → Steps p.tables e below (T.setTop g) t := by
  obtain ⟨cl, A, q, -⟩ := F
  have q2 : cl.slots.size.toInt32 = n := by rw [q]; simpa using hn
  have := X.arraylength hx (by rw [eT]; exact A.1) (State.isArrayOf_alike hZ.alike A.2.1) hg hs hd
  rw [q2] at this
  exact this
theorem len32 (hl : xs.length < 2147483648) : xs.length.toInt32.toNatClampNeg = xs.length ∧ ¬ xs.length.toInt32 < 0 := by
  have h1 : xs.length.toInt32.toInt = (xs.length : Int) := Int32.toInt_ofNat_small hl
  refine ⟨by simp only [Int32.toNatClampNeg]; omega, ?_⟩
  rw [Int32.lt_iff_toInt_lt, h1]
  have : (0 : Int32).toInt = 0 := rfl
  omega
theorem Ia.arv (F : Ia Z h a ty xs) : ∃ k, Arv Z h a k ty xs.length.toInt32 (xs.map Value.int) (.int 0) ∧ xs.length < 2147483648 := by
  obtain ⟨c, A, q, hl, hf⟩ := F
  refine ⟨c.cls, ⟨c, A, rfl, by rw [q, (len32 hl).1]; simp, (len32 hl).2, fun i hi => ?_, fun i hi => ?_⟩, hl⟩
  · have hi2 : i < xs.length := by rw [q] at hi; simpa using hi
    rw [q]; simp [List.getD, hi2]
  · have hi2 : i < xs.length := by rw [q] at hi; simpa using hi
    have := hf xs[i] (List.getElem_mem hi2)
    simpa [List.getD, hi2] using this
theorem Ia.of_arv {z : Int32} {d : Value} (F : Arv Z h a k ty z (xs.map Value.int) d) (hl : xs.length = z.toNatClampNeg) : Ia Z h a ty xs := by
  obtain ⟨c, A, q1, S, N, H, G⟩ := F
  have hn : z.toNatClampNeg < 2147483648 := nn_lt
  refine ⟨c, A, ?_, by omega, fun x hx => ?_⟩
  · apply Array.ext
    · rw [S, ← hl]; simp
    · intro i h1 h2
      have := H i h1
      have h3 : i < xs.length := by rw [hl, ← S]; exact h1
      rw [Array.getElem?_eq_getElem h1] at this
      simpa [List.getD, h3] using this
  · obtain ⟨i, hi, rfl⟩ := List.getElem_of_mem hx
    have := G i (by rw [S, ← hl]; exact hi)
    simpa [List.getD, hi] using this
theorem cpI {ys : List Int32} {sp dp nn : Int32} (X : Stand p l e R s m args below meth c T locs cells slots) (hx : p.tables.exec = Jvm.exec) (hZ : Z.Warmed39 s.vm) {a0 : Array Value} {own : String} {index : Nat} (hown : s.vm.findClass own = some m.cls)
    (w1 : (Cond.methodLink own index Jvm.Stand.acN).before a0 Z = true) (w2 : (Cond.native Jvm.Stand.acN).before a0 Z = true) (w3 : (Cond.static Jvm.Stand.acN).before a0 Z = true) (w4 : (Cond.initialized "java/lang/System").before a0 Z = true) (eT : T.heap = h)
    (A : Ia Z h a ty xs) (B : Ia Z h b ty ys) (hty : refKind ty = false) (h1 : ¬ sp < 0) (h2 : ¬ dp < 0) (h3 : ¬ nn < 0) (h4 : sp.toNatClampNeg + nn.toNatClampNeg ≤ xs.length) (h5 : dp.toNatClampNeg + nn.toNatClampNeg ≤ ys.length)
    {n0 : Nat} (N : Fr n0 locs) (ge : n0 ≤ b)
    {g : JFrame} (hg : g.method = m) (hsize : g.locals.size = c.maxLocals) {rest : List Value} (hs : g.stack = .int nn :: .int dp :: .ref b :: .int sp :: .ref a :: rest) (hd : decode c.code g.pc = .ok (.invokestatic index, 3))
    (hf : 1 ≤ R.frames) {W : Nat} (hW : 2 * g.monitorRoom + (rest.map fun v => v.category).sum ≤ W) (hlo : W + (nativeFrameWords "java/lang/System" "arraycopy" 5 + 11) ≤ R.locals) :
    ∃ T' h' L, Stand p l e R s m args below meth c T' L cells slots ∧ T'.heap = h' ∧ Fr n0 L ∧ Keep h h' [b] ∧ Ia Z h' b ty (ys.take dp.toNatClampNeg ++ (xs.drop sp.toNatClampNeg).take nn.toNatClampNeg ++ ys.drop (dp.toNatClampNeg + nn.toNatClampNeg)) ∧
      ∀ target, Steps p.tables e below (T'.setTop { g with pc := g.pc + 3, stack := rest }) target → Steps p.tables e below (T.setTop g) target := by
  obtain ⟨k, A', la⟩ := A.arv
  obtain ⟨k', B', lb⟩ := B.arv
  obtain ⟨T', h', L, X', e', N', K', V', st⟩ := cpA X hx hZ hown w1 w2 w3 w4 eT A' B' (us := ((xs.drop sp.toNatClampNeg).take nn.toNatClampNeg).map Value.int) (Or.inl ⟨rfl, hty⟩) h1 h2 h3 (by rw [(len32 la).1]; exact h4) (by rw [(len32 lb).1]; exact h5)
    (by
      apply List.ext_getElem
      · simp; omega
      · intro i q1 q2
        have q3 : i < nn.toNatClampNeg := by simpa using q2
        have q4 : sp.toNatClampNeg + i < xs.length := by omega
        simp [List.getD, q4])
    (by simpa using h5) N ge hg hsize hs hd hf hW hlo
  refine ⟨T', h', L, X', e', N', K', Ia.of_arv (k := k') (z := ys.length.toInt32) (d := .int 0) ?_ ?_, st⟩
  · simpa [List.map_append, List.map_take, List.map_drop] using V'
  · rw [(len32 lb).1]; simp; omega
theorem cloneI (X : Stand p l e R s m args below meth c T locs cells slots) (hx : p.tables.exec = Jvm.exec) (hZ : Z.Warmed39 s.vm) {a0 : Array Value} {own ad : String} {index : Nat} (hown : s.vm.findClass own = some m.cls)
    (w1 : (Cond.methodLink own index ⟨ad, "clone", "()Ljava/lang/Object;"⟩).before a0 Z = true) (w2 : (Cond.sameMethod ad "java/lang/Object" "clone" "()Ljava/lang/Object;").before a0 Z = true) (w3 : (Cond.native ⟨"java/lang/Object", "clone", "()Ljava/lang/Object;"⟩).before a0 Z = true)
    (w4 : (Cond.instanceMethod ⟨"java/lang/Object", "clone", "()Ljava/lang/Object;"⟩).before a0 Z = true) (w5 : (Cond.selects ad ⟨ad, "clone", "()Ljava/lang/Object;"⟩ ⟨"java/lang/Object", "clone", "()Ljava/lang/Object;"⟩).before a0 Z = true) (w6 : (Cond.castable ad "java/lang/Cloneable").before a0 Z = true)
    (eT : T.heap = h) (F : Ia Z h a ty xs) (E : Exa Z h a ad) {g : JFrame} (hg : g.method = m) (hsize : g.locals.size = c.maxLocals) {rest : List Value} (hst : g.stack = .ref a :: rest) (hd : decode c.code g.pc = .ok (.invokevirtual index, 3))
    (hf : 1 ≤ R.frames) {W cap : Nat} (hW : 2 * g.monitorRoom + (rest.map fun v => v.category).sum ≤ W) (hl : W + 14 ≤ R.locals) (hcap : xs.length ≤ cap) (hc : cells + 1 ≤ R.cells) (hsl : slots + cap ≤ R.slots) :
    ∃ T' h', Stand p l e R s m args below meth c T' locs (cells + 1) (slots + cap) ∧ T'.heap = h' ∧ Ext h h' ∧ Ia Z h' h.size ty xs ∧ Exa Z h' h.size ad ∧
      ∀ target, Steps p.tables e below (T'.setTop { g with pc := g.pc + 3, stack := .ref h.size :: rest }) target → Steps p.tables e below (T.setTop g) target := by
  obtain ⟨k, A, la⟩ := F.arv
  obtain ⟨T', h', X', e', ex, A', E', st⟩ := cloneH X hx hZ hown w1 w2 w3 w4 w5 w6 eT A.arh E hg hsize hst hd hf hW hl (by rw [(len32 la).1]; exact hcap) hc hsl
  exact ⟨T', h', X', e', ex, Ia.of_arv (k := k) (z := xs.length.toInt32) (d := .int 0) A' (len32 la).1.symm, E', st⟩
theorem selP {a0 : Array Value} {y : MethodName} {kk : Nat} (hZ : Z.Warmed39 s.vm) (wi : (Cond.instantiable y.cls kk).before a0 Z = true) (wp : (Cond.privateMethod y).before a0 Z = true) (wm : (Cond.instanceMethod y).before a0 Z = true) (hy : y.cls ≠ "java/lang/invoke/MethodHandle" ∧ y.cls ≠ "java/lang/invoke/VarHandle") : (Cond.selects y.cls y y).before args s = true := by
  obtain ⟨c, k, h1, h2, -, h4, -⟩ := Cond.instantiable_spec (mvT (args := args) hZ wi)
  exact selects_self_of_private h1 h2 (by simp only [Bool.or_eq_false_iff] at h4; exact h4.1) (Cond.privateMethod_at (mvP hZ wp (args := args))) (mvT hZ wm) hy
end Own
end Jvm.OwnKit
namespace Jvm.Pilot.@@N@@
open Jvm Jvm.ClassFile Sem Op Lib Jvm.Free Jvm.Stand Jvm.LawKit Jvm.RoadKit Bundle Jvm.Pilot.@@N@@.Jvm.D Jvm.OwnKit
theorem tw {a0 : Array Value} {Z : State} (hw : ∀ d ∈ tables_1, d.before a0 Z = true) (i : Nat) {d : Jvm.Cond} (h : tables_1[i]? = some d) : d.before a0 Z = true := hw d (List.mem_of_getElem? h)
theorem d3_0 : decode jdk_29_method_69_code 0 = .ok (.iload_n 0, 1) := by decide +kernel
theorem d3_1 : decode jdk_29_method_69_code 1 = .ok (.iload_n 1, 1) := by decide +kernel
theorem d3_2 : decode jdk_29_method_69_code 2 = .ok (.if_icmp .gt 7, 3) := by decide +kernel
theorem d3_9 : decode jdk_29_method_69_code 9 = .ok (.iload_n 1, 1) := by decide +kernel
theorem d3_10 : decode jdk_29_method_69_code 10 = .ok (.ireturn, 1) := by decide +kernel
theorem d3_5 : decode jdk_29_method_69_code 5 = .ok (.iload_n 0, 1) := by decide +kernel
theorem d3_6 : decode jdk_29_method_69_code 6 = .ok (.goto 4, 3) := by decide +kernel
theorem ef_3 (m : MethodId) (x0 : Int32) (x1 : Int32) : entryFrame m #[(.int x0), (.int x1)] 2 = mkF m 0 #[.val (.int x0), .val (.int x1)] [] := by first | (simp [entryFrame, mkF, argsToLocals, Value.category]; done) | rfl
def Q_rmM (Z : State) (x : Int32) (y : Int32)  (h0 : Heap) (n0 : Nat) (vQ : Option Value) (hQ : Heap) (LQ : List Loc) : Prop := vQ = some (.int (if y < x then y else x)) ∧ Fr n0 LQ ∧ hQ = h0
set_option maxRecDepth 65536 in
set_option maxHeartbeats 40000000 in
theorem rmM (l : Launch) (Z : State) (a0 : Array Value) (hw : ∀ d ∈ tables_1, d.before a0 Z = true) (ws : List Jvm.Cond) (x : Int32) (y : Int32)  (h0 : Heap) (n0 : Nat) (Z0 : n0 ≤ h0.size) :
    MetFree l (⟨"java/lang/Math", "min", "(II)I"⟩ : MethodName) (head1 (Jvm.Cond.code (⟨"java/lang/Math", "min", "(II)I"⟩ : MethodName) jdk_29_method_69_code 2 (some .int) :: ws) ({ frames := 0, cells := 0, slots := 0, locals := 0 } : Room)) (fun aQ UQ => aQ = #[(.int x), (.int y)] ∧ Z.Warmed39 UQ.vm ∧ UQ.heap = h0) (fun _ _ _ _ _ => True) (fun _ UQ oQ UR => ∃ vQ LQ, oQ = .returned vQ ∧ Q_rmM Z x y  h0 n0 vQ UR.heap LQ ∧ FrameEnd UQ oQ UR LQ ({ frames := 0, cells := 0, slots := 0, locals := 0 } : Room).cells ({ frames := 0, cells := 0, slots := 0, locals := 0 } : Room).slots) := by
  refine MetFree.of_bodySF (Jvm.Free.JP.mathPlain rfl (by decide +kernel)) hisR ?_
  intro p e s m args below meth c s₁ Bd hml0 hP hK
  obtain ⟨rfl, hZ, hh⟩ := hP
  have hx := Bd.exec
  have hby := Bd.bytes
  have hlk := Bd.notSynchronized
  have hml : c.maxLocals = 2 := hml0
  have hown : s.vm.findClass "java/lang/Math" = some m.cls := findClass_of_methodNamed Bd.named
  have hnm := (name_of_methodNamed Bd.named Bd.method).1
  have X0 : Stand p l e ({ frames := 0, cells := 0, slots := 0, locals := 0 } : Room) s m #[(.int x), (.int y)] below meth c s₁ [] 0 0 := Stand.of_body Bd
  have e0 : s₁.heap = h0 := by rw [← hh, Bd.state]; rfl
  have N0 := Fr.nil n0
  show Go p e below _ (Done s (Q_rmM Z x y  h0 n0) ({ frames := 0, cells := 0, slots := 0, locals := 0 } : Room).cells ({ frames := 0, cells := 0, slots := 0, locals := 0 } : Room).slots)
  refine Go.via (fun tQ kQ => castTop (ef_3 m x y) kQ) ?_
  show Go p e below (s₁.setTop (mkF m 0 #[.val (.int x), .val (.int y)] [])) _
  refine Go.via (fun _ => XS.iloadN X0.here hx rfl (hb hby d3_0) rfl) ?_
  refine Go.via (fun _ => XS.iloadN X0.here hx rfl (hb hby d3_1) rfl) ?_
  by_cases hc1 : y < x
  · refine Go.via (fun _ => XS.icmpYes X0.here hx rfl (pc0 := 2) (pc' := 9) rfl (hb hby d3_2) rfl (tlt (hc1 : y < x)).2.2.1 (by decide) (by decide)) ?_
    refine Go.via (fun _ => XS.iloadN X0.here hx rfl (hb hby d3_9) rfl) ?_
    exact Go.fin X0 hlk (v := some (.int y)) (fun h => by rw [Bd.returns] at h; cases h) (fun fs hr => OwnKit.retI X0 hx Bd.returns (hb hby d3_10) hr) (by rw [e0]; exact ⟨(by first | rw [if_pos (by assumption)] | rw [if_neg (by assumption)]), N0, rfl⟩) (by decide) (by decide)
  · refine Go.via (fun _ => XS.icmpNo X0.here hx rfl (hb hby d3_2) rfl (flt (hc1 : ¬ (y < x))).2.2.1) ?_
    refine Go.via (fun _ => XS.iloadN X0.here hx rfl (hb hby d3_5) rfl) ?_
    refine Go.via (fun _ => XS.goto X0.here hx rfl (pc0 := 6) (pc' := 10) rfl (hb hby d3_6) (by decide) (by decide)) ?_
    show Go p e below (s₁.setTop (mkF m 10 #[.val (.int x), .val (.int y)] [(.int x)])) _
    exact Go.fin X0 hlk (v := some (.int x)) (fun h => by rw [Bd.returns] at h; cases h) (fun fs hr => OwnKit.retI X0 hx Bd.returns (hb hby d3_10) hr) (by rw [e0]; exact ⟨(by first | rw [if_pos (by assumption)] | rw [if_neg (by assumption)]), N0, rfl⟩) (by decide) (by decide)
def own_cpy (xs : List Int32) (n : Int32) : List Int32 := xs.take n.toNatClampNeg ++ List.replicate (n.toNatClampNeg - xs.length) 0
theorem own_l32 {n : Nat} (h : n < 2147483648) : n.toInt32.toInt = (n : Int) := Int32.toInt_ofNat_small h
theorem own_nn {z : Int32} (h : 0 ≤ z.toInt) : ¬ z < 0 := by
  rw [Int32.lt_iff_toInt_lt]; have : (0 : Int32).toInt = 0 := rfl; omega
theorem own_mn {xs : List Int32} {n : Int32} (hl : xs.length < 2147483648) (h0 : ¬ n < 0) : ¬ (if n < xs.length.toInt32 then n else xs.length.toInt32) < 0 ∧ (if n < xs.length.toInt32 then n else xs.length.toInt32).toNatClampNeg = min n.toNatClampNeg xs.length := by
  have e := own_l32 hl
  have e2 := nat_of h0
  have e3 := (len32 hl).1
  split
  · rename_i q; rw [Int32.lt_iff_toInt_lt, e] at q; exact ⟨h0, by omega⟩
  · rename_i q; rw [Int32.lt_iff_toInt_lt, e] at q; exact ⟨own_nn (by omega), by omega⟩
theorem own_cpc {Z : State} {h : Heap} {r : Addr} {n : Int32} {xs : List Int32} (hl : xs.length < 2147483648) (h0 : ¬ n < 0)
    (V : Ia Z h r .int ((List.replicate (n).toNatClampNeg (0 : Int32)).take (0 : Int32).toNatClampNeg ++ (xs.drop (0 : Int32).toNatClampNeg).take (if n < xs.length.toInt32 then n else xs.length.toInt32).toNatClampNeg ++ (List.replicate (n).toNatClampNeg (0 : Int32)).drop ((0 : Int32).toNatClampNeg + (if n < xs.length.toInt32 then n else xs.length.toInt32).toNatClampNeg))) : Ia Z h r .int (own_cpy xs n) := by
  have e : (0 : Int32).toNatClampNeg = 0 := rfl
  rw [e, (own_mn hl h0).2] at V
  have e2 : own_cpy xs n = (List.replicate (n).toNatClampNeg (0 : Int32)).take 0 ++ (xs.drop 0).take (min n.toNatClampNeg xs.length) ++ (List.replicate (n).toNatClampNeg (0 : Int32)).drop (0 + min n.toNatClampNeg xs.length) := by
    simp only [own_cpy, List.take_zero, List.nil_append, List.drop_zero, List.drop_replicate, Nat.zero_add]
    congr 1
    · by_cases q : n.toNatClampNeg ≤ xs.length
      · rw [Nat.min_eq_left q]
      · rw [Nat.min_eq_right (by omega), List.take_of_length_le (by omega), List.take_of_length_le (Nat.le_refl _)]
    · congr 1; omega
  rw [e2]; exact V
theorem d2_0 : decode jdk_65_method_123_code 0 = .ok (.iload_n 1, 1) := by decide +kernel
theorem d2_1 : decode jdk_65_method_123_code 1 = .ok (.aload_n 0, 1) := by decide +kernel
theorem d2_2 : decode jdk_65_method_123_code 2 = .ok (.arraylength, 1) := by decide +kernel
theorem d2_3 : decode jdk_65_method_123_code 3 = .ok (.if_icmp .ne 11, 3) := by decide +kernel
theorem d2_14 : decode jdk_65_method_123_code 14 = .ok (.iload_n 1, 1) := by decide +kernel
theorem d2_15 : decode jdk_65_method_123_code 15 = .ok (.newarray .int, 2) := by decide +kernel
theorem d2_17 : decode jdk_65_method_123_code 17 = .ok (.astore_n 2, 1) := by decide +kernel
theorem d2_18 : decode jdk_65_method_123_code 18 = .ok (.aload_n 0, 1) := by decide +kernel
theorem d2_19 : decode jdk_65_method_123_code 19 = .ok (.iconst 0, 1) := by decide +kernel
theorem d2_20 : decode jdk_65_method_123_code 20 = .ok (.aload_n 2, 1) := by decide +kernel
theorem d2_21 : decode jdk_65_method_123_code 21 = .ok (.iconst 0, 1) := by decide +kernel
theorem d2_22 : decode jdk_65_method_123_code 22 = .ok (.aload_n 0, 1) := by decide +kernel
theorem d2_23 : decode jdk_65_method_123_code 23 = .ok (.arraylength, 1) := by decide +kernel
theorem d2_24 : decode jdk_65_method_123_code 24 = .ok (.iload_n 1, 1) := by decide +kernel
theorem d2_25 : decode jdk_65_method_123_code 25 = .ok (.invokestatic 304, 3) := by decide +kernel
theorem pd__28II_29I : parseMethodDescriptor "(II)I" = some ⟨[.int, .int], some .int⟩ := by decide +kernel
theorem d2_28 : decode jdk_65_method_123_code 28 = .ok (.invokestatic 150, 3) := by decide +kernel
theorem d2_31 : decode jdk_65_method_123_code 31 = .ok (.aload_n 2, 1) := by decide +kernel
theorem d2_32 : decode jdk_65_method_123_code 32 = .ok (.areturn, 1) := by decide +kernel
theorem pn_2 : plainName "java/util/Arrays" = true := by first | (simp [plainName, overriddenIn]; done) | decide +kernel
theorem ef_2 (m : MethodId) (x0 : Addr) (x1 : Int32) : entryFrame m #[(.ref x0), (.int x1)] 3 = mkF m 0 #[.val (.ref x0), .val (.int x1), .unset] [] := by first | (simp [entryFrame, mkF, argsToLocals, Value.category]; done) | rfl
def Q_rmC (Z : State) (b : Addr) (n : Int32) (xs : List Int32) (h0 : Heap) (n0 : Nat) (vQ : Option Value) (hQ : Heap) (LQ : List Loc) : Prop := ∃ r : Addr, vQ = some (.ref r) ∧ Fr n0 LQ ∧ Keep h0 hQ [] ∧ h0.size ≤ r ∧ Ia Z hQ r .int (own_cpy xs n)
set_option maxRecDepth 65536 in
set_option maxHeartbeats 40000000 in
theorem rmC (l : Launch) (Z : State) (a0 : Array Value) (hw : ∀ d ∈ tables_1, d.before a0 Z = true) (ws : List Jvm.Cond) (b : Addr) (n : Int32) (xs : List Int32) (h0 : Heap) (n0 : Nat) (Z0 : n0 ≤ h0.size) (P0 : Ia Z h0 b .int xs) (hne : ¬ n = xs.length.toInt32) (h0n : ¬ n < 0) (hcap : n.toNatClampNeg ≤ 4) (hxl : xs.length < 2147483648) :
    MetFree l (⟨"java/util/Arrays", "copyOf", "([II)[I"⟩ : MethodName) (head1 (Jvm.Cond.code (⟨"java/util/Arrays", "copyOf", "([II)[I"⟩ : MethodName) jdk_65_method_123_code 3 (some (.array .int)) :: ws) ({ frames := 1, cells := 1, slots := 4, locals := 40 } : Room)) (fun aQ UQ => aQ = #[(.ref b), (.int n)] ∧ Z.Warmed39 UQ.vm ∧ UQ.heap = h0) (fun _ _ _ _ _ => True) (fun _ UQ oQ UR => ∃ vQ LQ, oQ = .returned vQ ∧ Q_rmC Z b n xs h0 n0 vQ UR.heap LQ ∧ FrameEnd UQ oQ UR LQ ({ frames := 1, cells := 1, slots := 4, locals := 40 } : Room).cells ({ frames := 1, cells := 1, slots := 4, locals := 40 } : Room).slots) := by
  refine MetFree.of_bodySF (plainFor_of_name pn_2) hisR ?_
  intro p e s m args below meth c s₁ Bd hml0 hP hK
  obtain ⟨rfl, hZ, hh⟩ := hP
  have hx := Bd.exec
  have hby := Bd.bytes
  have hlk := Bd.notSynchronized
  have hml : c.maxLocals = 3 := hml0
  have hown : s.vm.findClass "java/util/Arrays" = some m.cls := findClass_of_methodNamed Bd.named
  have hnm := (name_of_methodNamed Bd.named Bd.method).1
  have X0 : Stand p l e ({ frames := 1, cells := 1, slots := 4, locals := 40 } : Room) s m #[(.ref b), (.int n)] below meth c s₁ [] 0 0 := Stand.of_body Bd
  have e0 : s₁.heap = h0 := by rw [← hh, Bd.state]; rfl
  have N0 := Fr.nil n0
  show Go p e below _ (Done s (Q_rmC Z b n xs h0 n0) ({ frames := 1, cells := 1, slots := 4, locals := 40 } : Room).cells ({ frames := 1, cells := 1, slots := 4, locals := 40 } : Room).slots)
  refine Go.via (fun tQ kQ => castTop (ef_2 m b n) kQ) ?_
  show Go p e below (s₁.setTop (mkF m 0 #[.val (.ref b), .val (.int n), .unset] [])) _
  refine Go.via (fun _ => XS.iloadN X0.here hx rfl (hb hby d2_0) rfl) ?_
  refine Go.via (fun _ => XS.aloadN X0.here hx rfl (hb hby d2_1) rfl rfl) ?_
  refine Go.via (lenI X0 hx hZ e0 P0 (n := (xs.length.toInt32)) rfl (g := (mkF m 2 #[.val (.ref b), .val (.int n), .unset] [(.ref b), (.int n)])) rfl rfl (hb hby d2_2)) ?_
  show Go p e below (s₁.setTop (mkF m 3 #[.val (.ref b), .val (.int n), .unset] [(.int (xs.length.toInt32)), (.int n)])) _
  refine Go.via (fun _ => XS.icmpYes X0.here hx rfl (pc0 := 3) (pc' := 14) rfl (hb hby d2_3) rfl (feq (hne : ¬ (n = (xs.length.toInt32)))).2 (by decide) (by decide)) ?_
  show Go p e below (s₁.setTop (mkF m 14 #[.val (.ref b), .val (.int n), .unset] [])) _
  refine Go.via (fun _ => XS.iloadN X0.here hx rfl (hb hby d2_14) rfl) ?_
  obtain ⟨T2, h2, k2, X2, e2, E2, A2, B2, st2⟩ := newPE X0 hx hZ (tw hw 0 rfl) e0 (g := (mkF m 15 #[.val (.ref b), .val (.int n), .unset] [(.int n)])) rfl (hb hby d2_15) rfl h0n (cap := 4) hcap (by decide) (by decide) (by decide) (ad := "[I") (by decide)
  obtain ⟨b2, g2⟩ : ∃ z, z = h0.size := ⟨_, rfl⟩
  rw [← g2] at A2 B2 st2
  have ne3 : b ≠ b2 := Nat.ne_of_lt (Nat.lt_of_lt_of_le P0.lt (Nat.le_of_eq g2.symm))
  have ge4 : n0 ≤ b2 := Nat.le_trans Z0 (Nat.le_of_eq g2.symm)
  have sz5 : h0.size ≤ b2 := Nat.le_trans (Keep.refl h0 []).1 (Nat.le_of_eq g2.symm)
  refine Go.via (st2) ?_
  clear st2
  have f6 : Ia Z h2 b2 .int (List.replicate (n).toNatClampNeg 0) := Ia.new A2 rfl
  clear X0 e0
  show Go p e below (T2.setTop (mkF m 17 #[.val (.ref b), .val (.int n), .unset] [(.ref b2)])) _
  refine Go.via (fun _ => XS.astoreN X2.here hx rfl (hb hby d2_17) rfl rfl (l' := #[.val (.ref b), .val (.int n), .val (.ref b2)]) rfl) ?_
  show Go p e below (T2.setTop (mkF m 18 #[.val (.ref b), .val (.int n), .val (.ref b2)] [])) _
  refine Go.via (fun _ => XS.aloadN X2.here hx rfl (hb hby d2_18) rfl rfl) ?_
  refine Go.via (fun _ => XS.iconst X2.here hx rfl (hb hby d2_19)) ?_
  refine Go.via (fun _ => XS.aloadN X2.here hx rfl (hb hby d2_20) rfl rfl) ?_
  refine Go.via (fun _ => XS.iconst X2.here hx rfl (hb hby d2_21)) ?_
  show Go p e below (T2.setTop (mkF m 22 #[.val (.ref b), .val (.int n), .val (.ref b2)] [(.int (0 : Int32)), (.ref b2), (.int (0 : Int32)), (.ref b)])) _
  refine Go.via (fun _ => XS.aloadN X2.here hx rfl (hb hby d2_22) rfl rfl) ?_
  have f7 : Ia Z h2 b .int xs := (P0.ext E2)
  refine Go.via (lenI X2 hx hZ e2 f7 (n := (xs.length.toInt32)) rfl (g := (mkF m 23 #[.val (.ref b), .val (.int n), .val (.ref b2)] [(.ref b), (.int (0 : Int32)), (.ref b2), (.int (0 : Int32)), (.ref b)])) rfl rfl (hb hby d2_23)) ?_
  show Go p e below (T2.setTop (mkF m 24 #[.val (.ref b), .val (.int n), .val (.ref b2)] [(.int (xs.length.toInt32)), (.int (0 : Int32)), (.ref b2), (.int (0 : Int32)), (.ref b)])) _
  refine Go.via (fun _ => XS.iloadN X2.here hx rfl (hb hby d2_24) rfl) ?_
  have z9 : n0 ≤ h2.size := (Nat.le_trans Z0 E2.1)
  obtain ⟨_, _, ⟨T8, L8, k8, n8⟩, -, X8, ⟨Lc8, hQ8, l8, y8, z8⟩, st8⟩ := Jvm.LawKit.callS X2 hx (y := (⟨"java/lang/Math", "min", "(II)I"⟩ : MethodName)) hown (mvT hZ (tw hw 9 rfl)) (mvT hZ (tw hw 10 rfl)) (mvT hZ (tw hw 11 rfl)) (mvT hZ (tw hw 12 rfl)) (by decide) (backOf (W := 4) (rmM l Z a0 hw [] (xs.length.toInt32) n  h2 n0 z9) hZ (tw hw 12 rfl) (tw hw 11 rfl) (by decide) (by decide)) (g := (mkF m 25 #[.val (.ref b), .val (.int n), .val (.ref b2)] [(.int n), (.int (xs.length.toInt32)), (.int (0 : Int32)), (.ref b2), (.int (0 : Int32)), (.ref b)])) rfl (by rw [hml]; rfl) (argsL := [(.int (xs.length.toInt32)), (.int n)]) (rest := [(.int (0 : Int32)), (.ref b2), (.int (0 : Int32)), (.ref b)]) (lenOf pd__28II_29I rfl) rfl (by show 2 * 0 + _ ≤ _; exact Nat.le_of_eq rfl) (hb hby d2_25) (fun _ _ => ⟨rfl, e2, (by decide : 1 + 0 ≤ _), (by decide : 4 + 0 ≤ _)⟩)
  dsimp only [Pt.U, Pt.locs, Pt.cells, Pt.slots] at X8 l8 y8 z8 st8 hQ8
  subst l8 y8 z8
  obtain ⟨rfl, N8q, eh8⟩ := hQ8
  have N8 := Fr.app N0 N8q
  refine Go.via (st8) ?_
  clear st8
  have e8 : T8.heap = h2 := eh8
  clear X2 e2
  show Go p e below (T8.setTop (mkF m 28 #[.val (.ref b), .val (.int n), .val (.ref b2)] [(.int (if n < (xs.length.toInt32) then n else (xs.length.toInt32))), (.int (0 : Int32)), (.ref b2), (.int (0 : Int32)), (.ref b)])) _
  have k11 : Keep h0 h2 [] := ((Keep.refl h0 []).ext E2)
  obtain ⟨T10, h10, L10, X10, e10, N10, K10, V10, st10⟩ := cpI X8 hx hZ hown (tw hw 13 rfl) (tw hw 16 rfl) (tw hw 14 rfl) (tw hw 15 rfl) e8 f7 f6 rfl (by decide) (by decide) (own_mn hxl h0n).1 (by rw [(own_mn hxl h0n).2, show (0 : Int32).toNatClampNeg = 0 from rfl]; omega) (by rw [(own_mn hxl h0n).2, show (0 : Int32).toNatClampNeg = 0 from rfl, List.length_replicate]; omega) N8 ge4 (g := (mkF m 28 #[.val (.ref b), .val (.int n), .val (.ref b2)] [(.int (if n < (xs.length.toInt32) then n else (xs.length.toInt32))), (.int (0 : Int32)), (.ref b2), (.int (0 : Int32)), (.ref b)])) rfl (by rw [hml]; rfl) rfl (hb hby d2_28) (by decide) (W := 0) (by show 2 * 0 + _ ≤ _; exact Nat.le_of_eq rfl) (by decide)
  refine Go.via (st10) ?_
  clear st10
  have f12 : Ia Z h10 b2 .int (own_cpy xs n) := (own_cpc hxl h0n V10)
  clear X8 e8
  show Go p e below (T10.setTop (mkF m 31 #[.val (.ref b), .val (.int n), .val (.ref b2)] [])) _
  refine Go.via (fun _ => XS.aloadN X10.here hx rfl (hb hby d2_31) rfl rfl) ?_
  have k13 : Keep h0 h10 [] := (k11.trans K10 (allS (Or.inr sz5) all0))
  exact Go.fin X10 hlk (v := some (.ref b2)) (fun h => by rw [Bd.returns] at h; cases h) (fun fs hr => retOut X10 hx Bd.returns rfl (Or.inr (Or.inr (Or.inr (Or.inr ⟨rfl, rfl, rfl⟩)))) (hb hby d2_32) hr) (by rw [e10]; exact ⟨b2, rfl, N10, k13, sz5, f12⟩) (by decide) (by decide)
theorem d4_0 : decode prog_12_method_1_code 0 = .ok (.aload_n 0, 1) := by decide +kernel
theorem d4_1 : decode prog_12_method_1_code 1 = .ok (.invokespecial 1, 3) := by decide +kernel
theorem d4_4 : decode prog_12_method_1_code 4 = .ok (.aload_n 0, 1) := by decide +kernel
theorem d4_5 : decode prog_12_method_1_code 5 = .ok (.aload_n 1, 1) := by decide +kernel
theorem d4_6 : decode prog_12_method_1_code 6 = .ok (.putfield 7, 3) := by decide +kernel
theorem d4_9 : decode prog_12_method_1_code 9 = .ok (.aload_n 0, 1) := by decide +kernel
theorem d4_10 : decode prog_12_method_1_code 10 = .ok (.aload_n 2, 1) := by decide +kernel
theorem d4_11 : decode prog_12_method_1_code 11 = .ok (.putfield 13, 3) := by decide +kernel
theorem d4_14 : decode prog_12_method_1_code 14 = .ok (.return_, 1) := by decide +kernel
theorem pn_4 : plainName "com/example/acquaint/acquaint/query/Adjacency" = true := by first | (simp [plainName, overriddenIn]; done) | decide +kernel
theorem ef_4 (m : MethodId) (x0 : Addr) (x1 : Addr) (x2 : Addr) : entryFrame m #[(.ref x0), (.ref x1), (.ref x2)] 3 = mkF m 0 #[.val (.ref x0), .val (.ref x1), .val (.ref x2)] [] := by first | (simp [entryFrame, mkF, argsToLocals, Value.category]; done) | rfl
def Q_rmI (Z : State) (a : Addr) (o : Addr) (d : Addr)  (h0 : Heap) (n0 : Nat) (vQ : Option Value) (hQ : Heap) (LQ : List Loc) : Prop := vQ = none ∧ Fr n0 LQ ∧ Keep h0 hQ [a] ∧ Exa Z hQ a "com/example/acquaint/acquaint/query/Adjacency" ∧ Fld Z hQ a "com/example/acquaint/acquaint/query/Adjacency" "offsets" "[I" (.ref o) ∧ Fld Z hQ a "com/example/acquaint/acquaint/query/Adjacency" "targets" "[I" (.ref d)
set_option maxRecDepth 65536 in
set_option maxHeartbeats 40000000 in
theorem rmI (l : Launch) (Z : State) (a0 : Array Value) (hw : ∀ d ∈ tables_1, d.before a0 Z = true) (ws : List Jvm.Cond) (a : Addr) (o : Addr) (d : Addr)  (h0 : Heap) (n0 : Nat) (Z0 : n0 ≤ h0.size) (P0 : Exa Z h0 a "com/example/acquaint/acquaint/query/Adjacency") (P1 : Fld Z h0 a "com/example/acquaint/acquaint/query/Adjacency" "offsets" "[I" .null) (P2 : Fld Z h0 a "com/example/acquaint/acquaint/query/Adjacency" "targets" "[I" .null) (g_a : n0 ≤ a) :
    MetFree l (⟨"com/example/acquaint/acquaint/query/Adjacency", "<init>", "([I[I)V"⟩ : MethodName) (head1 (Jvm.Cond.code (⟨"com/example/acquaint/acquaint/query/Adjacency", "<init>", "([I[I)V"⟩ : MethodName) prog_12_method_1_code 3 none :: ws) ({ frames := 1, cells := 0, slots := 0, locals := 12 } : Room)) (fun aQ UQ => aQ = #[(.ref a), (.ref o), (.ref d)] ∧ Z.Warmed39 UQ.vm ∧ UQ.heap = h0) (fun _ _ _ _ _ => True) (fun _ UQ oQ UR => ∃ vQ LQ, oQ = .returned vQ ∧ Q_rmI Z a o d  h0 n0 vQ UR.heap LQ ∧ FrameEnd UQ oQ UR LQ ({ frames := 1, cells := 0, slots := 0, locals := 12 } : Room).cells ({ frames := 1, cells := 0, slots := 0, locals := 12 } : Room).slots) := by
  refine MetFree.of_bodySF (plainFor_of_name pn_4) hisR ?_
  intro p e s m args below meth c s₁ Bd hml0 hP hK
  obtain ⟨rfl, hZ, hh⟩ := hP
  have hx := Bd.exec
  have hby := Bd.bytes
  have hlk := Bd.notSynchronized
  have hml : c.maxLocals = 3 := hml0
  have hown : s.vm.findClass "com/example/acquaint/acquaint/query/Adjacency" = some m.cls := findClass_of_methodNamed Bd.named
  have hnm := (name_of_methodNamed Bd.named Bd.method).1
  have X0 : Stand p l e ({ frames := 1, cells := 0, slots := 0, locals := 12 } : Room) s m #[(.ref a), (.ref o), (.ref d)] below meth c s₁ [] 0 0 := Stand.of_body Bd
  have e0 : s₁.heap = h0 := by rw [← hh, Bd.state]; rfl
  have N0 := Fr.nil n0
  show Go p e below _ (Done s (Q_rmI Z a o d  h0 n0) ({ frames := 1, cells := 0, slots := 0, locals := 12 } : Room).cells ({ frames := 1, cells := 0, slots := 0, locals := 12 } : Room).slots)
  refine Go.via (fun tQ kQ => castTop (ef_4 m a o d) kQ) ?_
  show Go p e below (s₁.setTop (mkF m 0 #[.val (.ref a), .val (.ref o), .val (.ref d)] [])) _
  refine Go.via (fun _ => XS.aloadN X0.here hx rfl (hb hby d4_0) rfl rfl) ?_
  obtain ⟨T14, X14, e14, st14⟩ := initO X0 hx hZ hown (tw hw 22 rfl) (tw hw 23 rfl) (tw hw 24 rfl) e0 (g := (mkF m 1 #[.val (.ref a), .val (.ref o), .val (.ref d)] [(.ref a)])) rfl (by rw [hml]; rfl) rfl (hb hby d4_1) (by decide) (W := 0) (by show 2 * 0 + _ ≤ _; exact Nat.le_of_eq rfl) (by decide)
  refine Go.via (st14) ?_
  clear st14
  clear X0 e0
  show Go p e below (T14.setTop (mkF m 4 #[.val (.ref a), .val (.ref o), .val (.ref d)] [])) _
  refine Go.via (fun _ => XS.aloadN X14.here hx rfl (hb hby d4_4) rfl rfl) ?_
  refine Go.via (fun _ => XS.aloadN X14.here hx rfl (hb hby d4_5) rfl rfl) ?_
  obtain ⟨T15, h15, X15, e15, W15, st15⟩ := putF X14 hx hZ hown (host := "") (Or.inl (tw hw 25 rfl)) Via.refl e14 P1 P0 (Or.inr ⟨(tw hw 26 rfl), rfl, hnm⟩) (tw hw 18 rfl) (ty := (.array .int)) (by decide) rfl rfl (g := (mkF m 6 #[.val (.ref a), .val (.ref o), .val (.ref d)] [(.ref o), (.ref a)])) rfl rfl (hb hby d4_6)
  refine Go.via (st15) ?_
  clear st15
  have N15 := Fr.snoc X15 N0 g_a
  have f16 : Fld Z h15 a "com/example/acquaint/acquaint/query/Adjacency" "offsets" "[I" (.ref o) := P1.same W15
  clear X14 e14
  show Go p e below (T15.setTop (mkF m 9 #[.val (.ref a), .val (.ref o), .val (.ref d)] [])) _
  refine Go.via (fun _ => XS.aloadN X15.here hx rfl (hb hby d4_9) rfl rfl) ?_
  refine Go.via (fun _ => XS.aloadN X15.here hx rfl (hb hby d4_10) rfl rfl) ?_
  have f17 : Fld Z h15 a "com/example/acquaint/acquaint/query/Adjacency" "targets" "[I" .null := (P2.other W15 (Or.inr (slot_ne (Or.inr (tw hw 28 rfl)) (Or.inr (tw hw 26 rfl)) (by decide) (t := (.array .int)) (t' := (.array .int)) (by decide) (by decide))))
  have f18 : Exa Z h15 a "com/example/acquaint/acquaint/query/Adjacency" := (P0.wr W15)
  obtain ⟨T19, h19, X19, e19, W19, st19⟩ := putF X15 hx hZ hown (host := "") (Or.inl (tw hw 27 rfl)) Via.refl e15 f17 f18 (Or.inr ⟨(tw hw 28 rfl), rfl, hnm⟩) (tw hw 18 rfl) (ty := (.array .int)) (by decide) rfl rfl (g := (mkF m 11 #[.val (.ref a), .val (.ref o), .val (.ref d)] [(.ref d), (.ref a)])) rfl rfl (hb hby d4_11)
  refine Go.via (st19) ?_
  clear st19
  have N19 := Fr.snoc X19 N15 g_a
  have f20 : Fld Z h19 a "com/example/acquaint/acquaint/query/Adjacency" "targets" "[I" (.ref d) := f17.same W19
  clear X15 e15
  show Go p e below (T19.setTop (mkF m 14 #[.val (.ref a), .val (.ref o), .val (.ref d)] [])) _
  have k21 : Keep h0 h19 [a] := (((Keep.refl h0 [a]).wr W15 (Or.inl (List.mem_of_getElem? (i := 0) rfl))).wr W19 (Or.inl (List.mem_of_getElem? (i := 0) rfl)))
  have f22 : Exa Z h19 a "com/example/acquaint/acquaint/query/Adjacency" := (f18.wr W19)
  have f23 : Fld Z h19 a "com/example/acquaint/acquaint/query/Adjacency" "offsets" "[I" (.ref o) := (f16.other W19 (Or.inr (slot_ne (Or.inr (tw hw 26 rfl)) (Or.inr (tw hw 28 rfl)) (by decide) (t := (.array .int)) (t' := (.array .int)) (by decide) (by decide))))
  exact Go.fin X19 hlk (v := none) (fun _ => rfl) (fun fs hr => X19.returnOut hx Bd.returns (hb hby d4_14) hr) (by rw [e19]; exact ⟨rfl, N19, k21, f22, f23, f20⟩) (by decide) (by decide)
abbrev own_below (s a b c : Int32) : Int32 := (((if a < s then (1 : Int32) else (0 : Int32)) + (if b < s then (1 : Int32) else (0 : Int32))) + (if c < s then (1 : Int32) else (0 : Int32)))
abbrev own_p1 (s0 s1 s2 : Int32) : Int32 := (own_below s1 s0 s1 s2) + (if s0 = s1 then (1 : Int32) else (0 : Int32))
abbrev own_p2 (s0 s1 s2 : Int32) : Int32 := ((own_below s2 s0 s1 s2) + (if s0 = s2 then (1 : Int32) else (0 : Int32))) + (if s1 = s2 then (1 : Int32) else (0 : Int32))
def own_rel (c s0 s1 s2 t0 t1 t2 : Int32) (O E : List Int32) : Prop := E.length = 3 ∧ (¬ (own_below s0 s0 s1 s2) < 0 ∧ E[(own_below s0 s0 s1 s2).toNatClampNeg]? = some t0) ∧ (¬ (own_p1 s0 s1 s2) < 0 ∧ E[(own_p1 s0 s1 s2).toNatClampNeg]? = some t1) ∧ (¬ (own_p2 s0 s1 s2) < 0 ∧ E[(own_p2 s0 s1 s2).toNatClampNeg]? = some t2) ∧
    O[(0 : Int32).toNatClampNeg]? = some 0 ∧ ((1 : Int32) < c → O[(1 : Int32).toNatClampNeg]? = some (own_below 1 s0 s1 s2)) ∧ ((2 : Int32) < c → O[(2 : Int32).toNatClampNeg]? = some (own_below 2 s0 s1 s2)) ∧ ((3 : Int32) < c → O[(3 : Int32).toNatClampNeg]? = some (own_below 3 s0 s1 s2)) ∧ (¬ ((c - (1 : Int32)) + (1 : Int32)) < 0 ∧ O[((c - (1 : Int32)) + (1 : Int32)).toNatClampNeg]? = some 3)
theorem own_get {xs : List Int32} {i : Int32} (h0 : ¬ i < 0) (h : i.toNatClampNeg < xs.length) : xs[i.toNatClampNeg]? = some (List.getD xs (i).toNatClampNeg 0) := by
  simp [List.getD, List.getElem?_eq_getElem h]
theorem d6_0 : decode method_2_code 0 = .ok (.iload_n 1, 1) := by decide +kernel
theorem d6_1 : decode method_2_code 1 = .ok (.iload_n 0, 1) := by decide +kernel
theorem d6_2 : decode method_2_code 2 = .ok (.if_icmp .ge 7, 3) := by decide +kernel
theorem d6_5 : decode method_2_code 5 = .ok (.iconst 1, 1) := by decide +kernel
theorem d6_6 : decode method_2_code 6 = .ok (.goto 4, 3) := by decide +kernel
theorem d6_9 : decode method_2_code 9 = .ok (.iconst 0, 1) := by decide +kernel
theorem d6_10 : decode method_2_code 10 = .ok (.iload_n 2, 1) := by decide +kernel
theorem d6_11 : decode method_2_code 11 = .ok (.iload_n 0, 1) := by decide +kernel
theorem d6_12 : decode method_2_code 12 = .ok (.if_icmp .ge 7, 3) := by decide +kernel
theorem d6_15 : decode method_2_code 15 = .ok (.iconst 1, 1) := by decide +kernel
theorem d6_16 : decode method_2_code 16 = .ok (.goto 4, 3) := by decide +kernel
theorem d6_19 : decode method_2_code 19 = .ok (.iconst 0, 1) := by decide +kernel
theorem d6_20 : decode method_2_code 20 = .ok (.iadd, 1) := by decide +kernel
theorem d6_21 : decode method_2_code 21 = .ok (.iload_n 3, 1) := by decide +kernel
theorem d6_22 : decode method_2_code 22 = .ok (.iload_n 0, 1) := by decide +kernel
theorem d6_23 : decode method_2_code 23 = .ok (.if_icmp .ge 7, 3) := by decide +kernel
theorem d6_26 : decode method_2_code 26 = .ok (.iconst 1, 1) := by decide +kernel
theorem d6_27 : decode method_2_code 27 = .ok (.goto 4, 3) := by decide +kernel
theorem d6_30 : decode method_2_code 30 = .ok (.iconst 0, 1) := by decide +kernel
theorem d6_31 : decode method_2_code 31 = .ok (.iadd, 1) := by decide +kernel
theorem d6_32 : decode method_2_code 32 = .ok (.ireturn, 1) := by decide +kernel
theorem pn_6 : plainName "com/example/acquaint/acquaint/query/AdjacencyOfPinLaw" = true := by first | (simp [plainName, overriddenIn]; done) | decide +kernel
theorem ef_6 (m : MethodId) (x0 : Int32) (x1 : Int32) (x2 : Int32) (x3 : Int32) : entryFrame m #[(.int x0), (.int x1), (.int x2), (.int x3)] 4 = mkF m 0 #[.val (.int x0), .val (.int x1), .val (.int x2), .val (.int x3)] [] := by first | (simp [entryFrame, mkF, argsToLocals, Value.category]; done) | rfl
def Q_rmW (Z : State) (s_ : Int32) (a : Int32) (b : Int32) (c_ : Int32)  (h0 : Heap) (n0 : Nat) (vQ : Option Value) (hQ : Heap) (LQ : List Loc) : Prop := vQ = some (.int (own_below s_ a b c_)) ∧ Fr n0 LQ ∧ hQ = h0
set_option maxRecDepth 65536 in
set_option maxHeartbeats 40000000 in
theorem rmW (l : Launch) (Z : State) (a0 : Array Value) (hw : ∀ d ∈ tables_1, d.before a0 Z = true) (ws : List Jvm.Cond) (s_ : Int32) (a : Int32) (b : Int32) (c_ : Int32)  (h0 : Heap) (n0 : Nat) (Z0 : n0 ≤ h0.size) :
    MetFree l (⟨"com/example/acquaint/acquaint/query/AdjacencyOfPinLaw", "below", "(IIII)I"⟩ : MethodName) (head1 (Jvm.Cond.code (⟨"com/example/acquaint/acquaint/query/AdjacencyOfPinLaw", "below", "(IIII)I"⟩ : MethodName) method_2_code 4 (some .int) :: ws) ({ frames := 0, cells := 0, slots := 0, locals := 0 } : Room)) (fun aQ UQ => aQ = #[(.int s_), (.int a), (.int b), (.int c_)] ∧ Z.Warmed39 UQ.vm ∧ UQ.heap = h0) (fun _ _ _ _ _ => True) (fun _ UQ oQ UR => ∃ vQ LQ, oQ = .returned vQ ∧ Q_rmW Z s_ a b c_  h0 n0 vQ UR.heap LQ ∧ FrameEnd UQ oQ UR LQ ({ frames := 0, cells := 0, slots := 0, locals := 0 } : Room).cells ({ frames := 0, cells := 0, slots := 0, locals := 0 } : Room).slots) := by
  refine MetFree.of_bodySF (plainFor_of_name pn_6) hisR ?_
  intro p e s m args below meth c s₁ Bd hml0 hP hK
  obtain ⟨rfl, hZ, hh⟩ := hP
  have hx := Bd.exec
  have hby := Bd.bytes
  have hlk := Bd.notSynchronized
  have hml : c.maxLocals = 4 := hml0
  have hown : s.vm.findClass "com/example/acquaint/acquaint/query/AdjacencyOfPinLaw" = some m.cls := findClass_of_methodNamed Bd.named
  have hnm := (name_of_methodNamed Bd.named Bd.method).1
  have X0 : Stand p l e ({ frames := 0, cells := 0, slots := 0, locals := 0 } : Room) s m #[(.int s_), (.int a), (.int b), (.int c_)] below meth c s₁ [] 0 0 := Stand.of_body Bd
  have e0 : s₁.heap = h0 := by rw [← hh, Bd.state]; rfl
  have N0 := Fr.nil n0
  show Go p e below _ (Done s (Q_rmW Z s_ a b c_  h0 n0) ({ frames := 0, cells := 0, slots := 0, locals := 0 } : Room).cells ({ frames := 0, cells := 0, slots := 0, locals := 0 } : Room).slots)
  refine Go.via (fun tQ kQ => castTop (ef_6 m s_ a b c_) kQ) ?_
  show Go p e below (s₁.setTop (mkF m 0 #[.val (.int s_), .val (.int a), .val (.int b), .val (.int c_)] [])) _
  refine Go.via (fun _ => XS.iloadN X0.here hx rfl (hb hby d6_0) rfl) ?_
  refine Go.via (fun _ => XS.iloadN X0.here hx rfl (hb hby d6_1) rfl) ?_
  suffices hm25 : Go p e below (s₁.setTop (mkF m 10 #[.val (.int s_), .val (.int a), .val (.int b), .val (.int c_)] [(.int (if a < s_ then (1 : Int32) else (0 : Int32)))])) (Done s (Q_rmW Z s_ a b c_ h0 n0) ({ frames := 0, cells := 0, slots := 0, locals := 0 } : Room).cells ({ frames := 0, cells := 0, slots := 0, locals := 0 } : Room).slots) by
    by_cases hc24 : a < s_
    · rw [if_pos hc24] at hm25
      refine Go.via (fun _ => XS.icmpNo X0.here hx rfl (hb hby d6_2) rfl (tlt (hc24 : a < s_)).2.1) ?_
      refine Go.via (fun _ => XS.iconst X0.here hx rfl (hb hby d6_5)) ?_
      refine Go.via (fun _ => XS.goto X0.here hx rfl (pc0 := 6) (pc' := 10) rfl (hb hby d6_6) (by decide) (by decide)) ?_
      exact hm25
    · rw [if_neg hc24] at hm25
      refine Go.via (fun _ => XS.icmpYes X0.here hx rfl (pc0 := 2) (pc' := 9) rfl (hb hby d6_2) rfl (flt (hc24 : ¬ (a < s_))).2.1 (by decide) (by decide)) ?_
      refine Go.via (fun _ => XS.iconst X0.here hx rfl (hb hby d6_9)) ?_
      exact hm25
  show Go p e below (s₁.setTop (mkF m 10 #[.val (.int s_), .val (.int a), .val (.int b), .val (.int c_)] [(.int (if a < s_ then (1 : Int32) else (0 : Int32)))])) _
  refine Go.via (fun _ => XS.iloadN X0.here hx rfl (hb hby d6_10) rfl) ?_
  refine Go.via (fun _ => XS.iloadN X0.here hx rfl (hb hby d6_11) rfl) ?_
  suffices hm27 : Go p e below (s₁.setTop (mkF m 20 #[.val (.int s_), .val (.int a), .val (.int b), .val (.int c_)] [(.int (if b < s_ then (1 : Int32) else (0 : Int32))), (.int (if a < s_ then (1 : Int32) else (0 : Int32)))])) (Done s (Q_rmW Z s_ a b c_ h0 n0) ({ frames := 0, cells := 0, slots := 0, locals := 0 } : Room).cells ({ frames := 0, cells := 0, slots := 0, locals := 0 } : Room).slots) by
    by_cases hc26 : b < s_
    · rw [if_pos hc26] at hm27
      refine Go.via (fun _ => XS.icmpNo X0.here hx rfl (hb hby d6_12) rfl (tlt (hc26 : b < s_)).2.1) ?_
      refine Go.via (fun _ => XS.iconst X0.here hx rfl (hb hby d6_15)) ?_
      refine Go.via (fun _ => XS.goto X0.here hx rfl (pc0 := 16) (pc' := 20) rfl (hb hby d6_16) (by decide) (by decide)) ?_
      exact hm27
    · rw [if_neg hc26] at hm27
      refine Go.via (fun _ => XS.icmpYes X0.here hx rfl (pc0 := 12) (pc' := 19) rfl (hb hby d6_12) rfl (flt (hc26 : ¬ (b < s_))).2.1 (by decide) (by decide)) ?_
      refine Go.via (fun _ => XS.iconst X0.here hx rfl (hb hby d6_19)) ?_
      exact hm27
  show Go p e below (s₁.setTop (mkF m 20 #[.val (.int s_), .val (.int a), .val (.int b), .val (.int c_)] [(.int (if b < s_ then (1 : Int32) else (0 : Int32))), (.int (if a < s_ then (1 : Int32) else (0 : Int32)))])) _
  refine Go.via (fun _ => XS.iadd X0.here hx rfl (hb hby d6_20) rfl) ?_
  show Go p e below (s₁.setTop (mkF m 21 #[.val (.int s_), .val (.int a), .val (.int b), .val (.int c_)] [(.int ((if a < s_ then (1 : Int32) else (0 : Int32)) + (if b < s_ then (1 : Int32) else (0 : Int32))))])) _
  refine Go.via (fun _ => XS.iloadN X0.here hx rfl (hb hby d6_21) rfl) ?_
  refine Go.via (fun _ => XS.iloadN X0.here hx rfl (hb hby d6_22) rfl) ?_
  suffices hm29 : Go p e below (s₁.setTop (mkF m 31 #[.val (.int s_), .val (.int a), .val (.int b), .val (.int c_)] [(.int (if c_ < s_ then (1 : Int32) else (0 : Int32))), (.int ((if a < s_ then (1 : Int32) else (0 : Int32)) + (if b < s_ then (1 : Int32) else (0 : Int32))))])) (Done s (Q_rmW Z s_ a b c_ h0 n0) ({ frames := 0, cells := 0, slots := 0, locals := 0 } : Room).cells ({ frames := 0, cells := 0, slots := 0, locals := 0 } : Room).slots) by
    by_cases hc28 : c_ < s_
    · rw [if_pos hc28] at hm29
      refine Go.via (fun _ => XS.icmpNo X0.here hx rfl (hb hby d6_23) rfl (tlt (hc28 : c_ < s_)).2.1) ?_
      refine Go.via (fun _ => XS.iconst X0.here hx rfl (hb hby d6_26)) ?_
      refine Go.via (fun _ => XS.goto X0.here hx rfl (pc0 := 27) (pc' := 31) rfl (hb hby d6_27) (by decide) (by decide)) ?_
      exact hm29
    · rw [if_neg hc28] at hm29
      refine Go.via (fun _ => XS.icmpYes X0.here hx rfl (pc0 := 23) (pc' := 30) rfl (hb hby d6_23) rfl (flt (hc28 : ¬ (c_ < s_))).2.1 (by decide) (by decide)) ?_
      refine Go.via (fun _ => XS.iconst X0.here hx rfl (hb hby d6_30)) ?_
      exact hm29
  show Go p e below (s₁.setTop (mkF m 31 #[.val (.int s_), .val (.int a), .val (.int b), .val (.int c_)] [(.int (if c_ < s_ then (1 : Int32) else (0 : Int32))), (.int ((if a < s_ then (1 : Int32) else (0 : Int32)) + (if b < s_ then (1 : Int32) else (0 : Int32))))])) _
  refine Go.via (fun _ => XS.iadd X0.here hx rfl (hb hby d6_31) rfl) ?_
  show Go p e below (s₁.setTop (mkF m 32 #[.val (.int s_), .val (.int a), .val (.int b), .val (.int c_)] [(.int (((if a < s_ then (1 : Int32) else (0 : Int32)) + (if b < s_ then (1 : Int32) else (0 : Int32))) + (if c_ < s_ then (1 : Int32) else (0 : Int32))))])) _
  exact Go.fin X0 hlk (v := some (.int (((if a < s_ then (1 : Int32) else (0 : Int32)) + (if b < s_ then (1 : Int32) else (0 : Int32))) + (if c_ < s_ then (1 : Int32) else (0 : Int32))))) (fun h => by rw [Bd.returns] at h; cases h) (fun fs hr => OwnKit.retI X0 hx Bd.returns (hb hby d6_32) hr) (by rw [e0]; exact ⟨rfl, N0, rfl⟩) (by decide) (by decide)
theorem d1_0 : decode prog_12_method_2_code 0 = .ok (.iload_n 0, 1) := by decide +kernel
theorem d1_1 : decode prog_12_method_2_code 1 = .ok (.iconst 1, 1) := by decide +kernel
theorem d1_2 : decode prog_12_method_2_code 2 = .ok (.iadd, 1) := by decide +kernel
theorem d1_3 : decode prog_12_method_2_code 3 = .ok (.newarray .int, 2) := by decide +kernel
theorem d1_5 : decode prog_12_method_2_code 5 = .ok (.astore_n 3, 1) := by decide +kernel
theorem d1_6 : decode prog_12_method_2_code 6 = .ok (.aload_n 1, 1) := by decide +kernel
theorem d1_7 : decode prog_12_method_2_code 7 = .ok (.astore 4, 2) := by decide +kernel
theorem d1_9 : decode prog_12_method_2_code 9 = .ok (.aload 4, 2) := by decide +kernel
theorem d1_11 : decode prog_12_method_2_code 11 = .ok (.arraylength, 1) := by decide +kernel
theorem d1_12 : decode prog_12_method_2_code 12 = .ok (.istore 5, 2) := by decide +kernel
theorem d1_14 : decode prog_12_method_2_code 14 = .ok (.iconst 0, 1) := by decide +kernel
theorem d1_15 : decode prog_12_method_2_code 15 = .ok (.istore 6, 2) := by decide +kernel
theorem d1_17 : decode prog_12_method_2_code 17 = .ok (.iload 6, 2) := by decide +kernel
theorem d1_19 : decode prog_12_method_2_code 19 = .ok (.iload 5, 2) := by decide +kernel
theorem d1_21 : decode prog_12_method_2_code 21 = .ok (.if_icmp .ge 26, 3) := by decide +kernel
theorem d1_24 : decode prog_12_method_2_code 24 = .ok (.aload 4, 2) := by decide +kernel
theorem d1_26 : decode prog_12_method_2_code 26 = .ok (.iload 6, 2) := by decide +kernel
theorem d1_28 : decode prog_12_method_2_code 28 = .ok (.iaload, 1) := by decide +kernel
theorem d1_29 : decode prog_12_method_2_code 29 = .ok (.istore 7, 2) := by decide +kernel
theorem d1_31 : decode prog_12_method_2_code 31 = .ok (.aload_n 3, 1) := by decide +kernel
theorem d1_32 : decode prog_12_method_2_code 32 = .ok (.iload 7, 2) := by decide +kernel
theorem d1_34 : decode prog_12_method_2_code 34 = .ok (.iconst 1, 1) := by decide +kernel
theorem d1_35 : decode prog_12_method_2_code 35 = .ok (.iadd, 1) := by decide +kernel
theorem d1_36 : decode prog_12_method_2_code 36 = .ok (.dup2, 1) := by decide +kernel
theorem d1_37 : decode prog_12_method_2_code 37 = .ok (.iaload, 1) := by decide +kernel
theorem d1_38 : decode prog_12_method_2_code 38 = .ok (.iconst 1, 1) := by decide +kernel
theorem d1_39 : decode prog_12_method_2_code 39 = .ok (.iadd, 1) := by decide +kernel
theorem d1_40 : decode prog_12_method_2_code 40 = .ok (.iastore, 1) := by decide +kernel
theorem d1_41 : decode prog_12_method_2_code 41 = .ok (.iinc 6 1, 3) := by decide +kernel
theorem d1_44 : decode prog_12_method_2_code 44 = .ok (.goto (-27), 3) := by decide +kernel
theorem d1_47 : decode prog_12_method_2_code 47 = .ok (.iconst 0, 1) := by decide +kernel
theorem d1_48 : decode prog_12_method_2_code 48 = .ok (.istore 4, 2) := by decide +kernel
theorem d1_50 : decode prog_12_method_2_code 50 = .ok (.iload 4, 2) := by decide +kernel
theorem d1_52 : decode prog_12_method_2_code 52 = .ok (.iload_n 0, 1) := by decide +kernel
theorem d1_53 : decode prog_12_method_2_code 53 = .ok (.if_icmp .ge 22, 3) := by decide +kernel
theorem d1_56 : decode prog_12_method_2_code 56 = .ok (.aload_n 3, 1) := by decide +kernel
theorem d1_57 : decode prog_12_method_2_code 57 = .ok (.iload 4, 2) := by decide +kernel
theorem d1_59 : decode prog_12_method_2_code 59 = .ok (.iconst 1, 1) := by decide +kernel
theorem d1_60 : decode prog_12_method_2_code 60 = .ok (.iadd, 1) := by decide +kernel
theorem d1_61 : decode prog_12_method_2_code 61 = .ok (.dup2, 1) := by decide +kernel
theorem d1_62 : decode prog_12_method_2_code 62 = .ok (.iaload, 1) := by decide +kernel
theorem d1_63 : decode prog_12_method_2_code 63 = .ok (.aload_n 3, 1) := by decide +kernel
theorem d1_64 : decode prog_12_method_2_code 64 = .ok (.iload 4, 2) := by decide +kernel
theorem d1_66 : decode prog_12_method_2_code 66 = .ok (.iaload, 1) := by decide +kernel
theorem d1_67 : decode prog_12_method_2_code 67 = .ok (.iadd, 1) := by decide +kernel
theorem d1_68 : decode prog_12_method_2_code 68 = .ok (.iastore, 1) := by decide +kernel
theorem d1_69 : decode prog_12_method_2_code 69 = .ok (.iinc 4 1, 3) := by decide +kernel
theorem d1_72 : decode prog_12_method_2_code 72 = .ok (.goto (-22), 3) := by decide +kernel
theorem d1_75 : decode prog_12_method_2_code 75 = .ok (.aload_n 2, 1) := by decide +kernel
theorem d1_76 : decode prog_12_method_2_code 76 = .ok (.arraylength, 1) := by decide +kernel
theorem d1_77 : decode prog_12_method_2_code 77 = .ok (.newarray .int, 2) := by decide +kernel
theorem d1_79 : decode prog_12_method_2_code 79 = .ok (.astore 4, 2) := by decide +kernel
theorem d1_81 : decode prog_12_method_2_code 81 = .ok (.aload_n 3, 1) := by decide +kernel
theorem d1_82 : decode prog_12_method_2_code 82 = .ok (.iload_n 0, 1) := by decide +kernel
theorem d1_83 : decode prog_12_method_2_code 83 = .ok (.invokestatic 16, 3) := by decide +kernel
theorem pd__28_5bII_29_5bI : parseMethodDescriptor "([II)[I" = some ⟨[(.array .int), .int], some (.array .int)⟩ := by decide +kernel
theorem d1_86 : decode prog_12_method_2_code 86 = .ok (.astore 5, 2) := by decide +kernel
theorem d1_88 : decode prog_12_method_2_code 88 = .ok (.iconst 0, 1) := by decide +kernel
theorem d1_89 : decode prog_12_method_2_code 89 = .ok (.istore 6, 2) := by decide +kernel
theorem d1_91 : decode prog_12_method_2_code 91 = .ok (.iload 6, 2) := by decide +kernel
theorem d1_93 : decode prog_12_method_2_code 93 = .ok (.aload_n 1, 1) := by decide +kernel
theorem d1_94 : decode prog_12_method_2_code 94 = .ok (.arraylength, 1) := by decide +kernel
theorem d1_95 : decode prog_12_method_2_code 95 = .ok (.if_icmp .ge 28, 3) := by decide +kernel
theorem d1_98 : decode prog_12_method_2_code 98 = .ok (.aload 4, 2) := by decide +kernel
theorem d1_100 : decode prog_12_method_2_code 100 = .ok (.aload 5, 2) := by decide +kernel
theorem d1_102 : decode prog_12_method_2_code 102 = .ok (.aload_n 1, 1) := by decide +kernel
theorem d1_103 : decode prog_12_method_2_code 103 = .ok (.iload 6, 2) := by decide +kernel
theorem d1_105 : decode prog_12_method_2_code 105 = .ok (.iaload, 1) := by decide +kernel
theorem d1_106 : decode prog_12_method_2_code 106 = .ok (.dup2, 1) := by decide +kernel
theorem d1_107 : decode prog_12_method_2_code 107 = .ok (.iaload, 1) := by decide +kernel
theorem d1_108 : decode prog_12_method_2_code 108 = .ok (.dup_x2, 1) := by decide +kernel
theorem d1_109 : decode prog_12_method_2_code 109 = .ok (.iconst 1, 1) := by decide +kernel
theorem d1_110 : decode prog_12_method_2_code 110 = .ok (.iadd, 1) := by decide +kernel
theorem d1_111 : decode prog_12_method_2_code 111 = .ok (.iastore, 1) := by decide +kernel
theorem d1_112 : decode prog_12_method_2_code 112 = .ok (.aload_n 2, 1) := by decide +kernel
theorem d1_113 : decode prog_12_method_2_code 113 = .ok (.iload 6, 2) := by decide +kernel
theorem d1_115 : decode prog_12_method_2_code 115 = .ok (.iaload, 1) := by decide +kernel
theorem d1_116 : decode prog_12_method_2_code 116 = .ok (.iastore, 1) := by decide +kernel
theorem d1_117 : decode prog_12_method_2_code 117 = .ok (.iinc 6 1, 3) := by decide +kernel
theorem d1_120 : decode prog_12_method_2_code 120 = .ok (.goto (-29), 3) := by decide +kernel
theorem d1_123 : decode prog_12_method_2_code 123 = .ok (.new 8, 3) := by decide +kernel
theorem d1_126 : decode prog_12_method_2_code 126 = .ok (.dup, 1) := by decide +kernel
theorem d1_127 : decode prog_12_method_2_code 127 = .ok (.aload_n 3, 1) := by decide +kernel
theorem d1_128 : decode prog_12_method_2_code 128 = .ok (.aload 4, 2) := by decide +kernel
theorem d1_130 : decode prog_12_method_2_code 130 = .ok (.invokespecial 22, 3) := by decide +kernel
theorem pd__28_5bI_5bI_29V : parseMethodDescriptor "([I[I)V" = some ⟨[(.array .int), (.array .int)], none⟩ := by decide +kernel
theorem d1_133 : decode prog_12_method_2_code 133 = .ok (.areturn, 1) := by decide +kernel
theorem own_b1_0 {s0 s1 s2 t0 t1 t2 : Int32} {o36 : List Int32} {o40 : List Int32} {o44 : List Int32} {o48 : List Int32} {o51 : List Int32} {e63 : List Int32} {n79 : List Int32} {w81 : Int32} (ho36 : o36 = [(0 : Int32), (0 : Int32)]) (ho40 : o40 = (List.set o36 ((s0 + (1 : Int32))).toNatClampNeg ((List.getD o36 ((s0 + (1 : Int32))).toNatClampNeg 0) + (1 : Int32)))) (ho44 : o44 = (List.set o40 ((s1 + (1 : Int32))).toNatClampNeg ((List.getD o40 ((s1 + (1 : Int32))).toNatClampNeg 0) + (1 : Int32)))) (ho48 : o48 = (List.set o44 ((s2 + (1 : Int32))).toNatClampNeg ((List.getD o44 ((s2 + (1 : Int32))).toNatClampNeg 0) + (1 : Int32)))) (ho51 : o51 = (List.set o48 ((1 : Int32)).toNatClampNeg ((List.getD o48 ((1 : Int32)).toNatClampNeg 0) + (List.getD o48 ((0 : Int32)).toNatClampNeg 0)))) (he63 : e63 = [(0 : Int32), (0 : Int32), (0 : Int32)]) (hn79 : n79 = (own_cpy o51 (1 : Int32))) (hhw81 : (List.getD n79 (s0).toNatClampNeg 0) = w81) (r0 : (s0 = 0)) (r1 : (s1 = 0)) (r2 : (s2 = 0)) : ¬ w81 < 0 ∧ w81.toNatClampNeg < 3 := by
  subst hhw81
  subst hn79
  subst he63
  subst ho51
  subst ho48
  subst ho44
  subst ho40
  subst ho36
  rcases r0 with rfl <;> rcases r1 with rfl <;> rcases r2 with rfl <;> exact ⟨by decide, by decide⟩
theorem own_b1_1 {s0 s1 s2 t0 t1 t2 : Int32} {o36 : List Int32} {o40 : List Int32} {o44 : List Int32} {o48 : List Int32} {o51 : List Int32} {e63 : List Int32} {n79 : List Int32} {w81 : Int32} {n84 : List Int32} {e89 : List Int32} {w92 : Int32} (ho36 : o36 = [(0 : Int32), (0 : Int32)]) (ho40 : o40 = (List.set o36 ((s0 + (1 : Int32))).toNatClampNeg ((List.getD o36 ((s0 + (1 : Int32))).toNatClampNeg 0) + (1 : Int32)))) (ho44 : o44 = (List.set o40 ((s1 + (1 : Int32))).toNatClampNeg ((List.getD o40 ((s1 + (1 : Int32))).toNatClampNeg 0) + (1 : Int32)))) (ho48 : o48 = (List.set o44 ((s2 + (1 : Int32))).toNatClampNeg ((List.getD o44 ((s2 + (1 : Int32))).toNatClampNeg 0) + (1 : Int32)))) (ho51 : o51 = (List.set o48 ((1 : Int32)).toNatClampNeg ((List.getD o48 ((1 : Int32)).toNatClampNeg 0) + (List.getD o48 ((0 : Int32)).toNatClampNeg 0)))) (he63 : e63 = [(0 : Int32), (0 : Int32), (0 : Int32)]) (hn79 : n79 = (own_cpy o51 (1 : Int32))) (hhw81 : (List.getD n79 (s0).toNatClampNeg 0) = w81) (hn84 : n84 = (List.set n79 (s0).toNatClampNeg (w81 + (1 : Int32)))) (he89 : e89 = (List.set e63 (w81).toNatClampNeg t0)) (hhw92 : (List.getD n84 (s1).toNatClampNeg 0) = w92) (r0 : (s0 = 0)) (r1 : (s1 = 0)) (r2 : (s2 = 0)) : ¬ w92 < 0 ∧ w92.toNatClampNeg < 3 := by
  subst hhw92
  subst he89
  subst hn84
  subst hhw81
  subst hn79
  subst he63
  subst ho51
  subst ho48
  subst ho44
  subst ho40
  subst ho36
  rcases r0 with rfl <;> rcases r1 with rfl <;> rcases r2 with rfl <;> exact ⟨by decide, by decide⟩
theorem own_b1_2 {s0 s1 s2 t0 t1 t2 : Int32} {o36 : List Int32} {o40 : List Int32} {o44 : List Int32} {o48 : List Int32} {o51 : List Int32} {e63 : List Int32} {n79 : List Int32} {w81 : Int32} {n84 : List Int32} {e89 : List Int32} {w92 : Int32} {n95 : List Int32} {e100 : List Int32} {w103 : Int32} (ho36 : o36 = [(0 : Int32), (0 : Int32)]) (ho40 : o40 = (List.set o36 ((s0 + (1 : Int32))).toNatClampNeg ((List.getD o36 ((s0 + (1 : Int32))).toNatClampNeg 0) + (1 : Int32)))) (ho44 : o44 = (List.set o40 ((s1 + (1 : Int32))).toNatClampNeg ((List.getD o40 ((s1 + (1 : Int32))).toNatClampNeg 0) + (1 : Int32)))) (ho48 : o48 = (List.set o44 ((s2 + (1 : Int32))).toNatClampNeg ((List.getD o44 ((s2 + (1 : Int32))).toNatClampNeg 0) + (1 : Int32)))) (ho51 : o51 = (List.set o48 ((1 : Int32)).toNatClampNeg ((List.getD o48 ((1 : Int32)).toNatClampNeg 0) + (List.getD o48 ((0 : Int32)).toNatClampNeg 0)))) (he63 : e63 = [(0 : Int32), (0 : Int32), (0 : Int32)]) (hn79 : n79 = (own_cpy o51 (1 : Int32))) (hhw81 : (List.getD n79 (s0).toNatClampNeg 0) = w81) (hn84 : n84 = (List.set n79 (s0).toNatClampNeg (w81 + (1 : Int32)))) (he89 : e89 = (List.set e63 (w81).toNatClampNeg t0)) (hhw92 : (List.getD n84 (s1).toNatClampNeg 0) = w92) (hn95 : n95 = (List.set n84 (s1).toNatClampNeg (w92 + (1 : Int32)))) (he100 : e100 = (List.set e89 (w92).toNatClampNeg t1)) (hhw103 : (List.getD n95 (s2).toNatClampNeg 0) = w103) (r0 : (s0 = 0)) (r1 : (s1 = 0)) (r2 : (s2 = 0)) : ¬ w103 < 0 ∧ w103.toNatClampNeg < 3 := by
  subst hhw103
  subst he100
  subst hn95
  subst hhw92
  subst he89
  subst hn84
  subst hhw81
  subst hn79
  subst he63
  subst ho51
  subst ho48
  subst ho44
  subst ho40
  subst ho36
  rcases r0 with rfl <;> rcases r1 with rfl <;> rcases r2 with rfl <;> exact ⟨by decide, by decide⟩
theorem own_r1 {s0 s1 s2 t0 t1 t2 : Int32} {o36 : List Int32} {o40 : List Int32} {o44 : List Int32} {o48 : List Int32} {o51 : List Int32} {e63 : List Int32} {n79 : List Int32} {w81 : Int32} {n84 : List Int32} {e89 : List Int32} {w92 : Int32} {n95 : List Int32} {e100 : List Int32} {w103 : Int32} {n106 : List Int32} {e111 : List Int32} (ho36 : o36 = [(0 : Int32), (0 : Int32)]) (ho40 : o40 = (List.set o36 ((s0 + (1 : Int32))).toNatClampNeg ((List.getD o36 ((s0 + (1 : Int32))).toNatClampNeg 0) + (1 : Int32)))) (ho44 : o44 = (List.set o40 ((s1 + (1 : Int32))).toNatClampNeg ((List.getD o40 ((s1 + (1 : Int32))).toNatClampNeg 0) + (1 : Int32)))) (ho48 : o48 = (List.set o44 ((s2 + (1 : Int32))).toNatClampNeg ((List.getD o44 ((s2 + (1 : Int32))).toNatClampNeg 0) + (1 : Int32)))) (ho51 : o51 = (List.set o48 ((1 : Int32)).toNatClampNeg ((List.getD o48 ((1 : Int32)).toNatClampNeg 0) + (List.getD o48 ((0 : Int32)).toNatClampNeg 0)))) (he63 : e63 = [(0 : Int32), (0 : Int32), (0 : Int32)]) (hn79 : n79 = (own_cpy o51 (1 : Int32))) (hhw81 : (List.getD n79 (s0).toNatClampNeg 0) = w81) (hn84 : n84 = (List.set n79 (s0).toNatClampNeg (w81 + (1 : Int32)))) (he89 : e89 = (List.set e63 (w81).toNatClampNeg t0)) (hhw92 : (List.getD n84 (s1).toNatClampNeg 0) = w92) (hn95 : n95 = (List.set n84 (s1).toNatClampNeg (w92 + (1 : Int32)))) (he100 : e100 = (List.set e89 (w92).toNatClampNeg t1)) (hhw103 : (List.getD n95 (s2).toNatClampNeg 0) = w103) (hn106 : n106 = (List.set n95 (s2).toNatClampNeg (w103 + (1 : Int32)))) (he111 : e111 = (List.set e100 (w103).toNatClampNeg t2)) (r0 : (s0 = 0)) (r1 : (s1 = 0)) (r2 : (s2 = 0)) : own_rel 1 s0 s1 s2 t0 t1 t2 o51 e111 := by
  subst he111
  subst hn106
  subst hhw103
  subst he100
  subst hn95
  subst hhw92
  subst he89
  subst hn84
  subst hhw81
  subst hn79
  subst he63
  subst ho51
  subst ho48
  subst ho44
  subst ho40
  subst ho36
  rcases r0 with rfl <;> rcases r1 with rfl <;> rcases r2 with rfl <;> exact ⟨rfl, ⟨by decide, rfl⟩, ⟨by decide, rfl⟩, ⟨by decide, rfl⟩, rfl, fun q => by first | rfl | exact absurd q (by decide), fun q => by first | rfl | exact absurd q (by decide), fun q => by first | rfl | exact absurd q (by decide), ⟨by decide, rfl⟩⟩
theorem own_b2_0 {s0 s1 s2 t0 t1 t2 : Int32} {o145 : List Int32} {o149 : List Int32} {o153 : List Int32} {o157 : List Int32} {o160 : List Int32} {o163 : List Int32} {e175 : List Int32} {n191 : List Int32} {w193 : Int32} (ho145 : o145 = [(0 : Int32), (0 : Int32), (0 : Int32)]) (ho149 : o149 = (List.set o145 ((s0 + (1 : Int32))).toNatClampNeg ((List.getD o145 ((s0 + (1 : Int32))).toNatClampNeg 0) + (1 : Int32)))) (ho153 : o153 = (List.set o149 ((s1 + (1 : Int32))).toNatClampNeg ((List.getD o149 ((s1 + (1 : Int32))).toNatClampNeg 0) + (1 : Int32)))) (ho157 : o157 = (List.set o153 ((s2 + (1 : Int32))).toNatClampNeg ((List.getD o153 ((s2 + (1 : Int32))).toNatClampNeg 0) + (1 : Int32)))) (ho160 : o160 = (List.set o157 ((1 : Int32)).toNatClampNeg ((List.getD o157 ((1 : Int32)).toNatClampNeg 0) + (List.getD o157 ((0 : Int32)).toNatClampNeg 0)))) (ho163 : o163 = (List.set o160 ((2 : Int32)).toNatClampNeg ((List.getD o160 ((2 : Int32)).toNatClampNeg 0) + (List.getD o160 ((1 : Int32)).toNatClampNeg 0)))) (he175 : e175 = [(0 : Int32), (0 : Int32), (0 : Int32)]) (hn191 : n191 = (own_cpy o163 (2 : Int32))) (hhw193 : (List.getD n191 (s0).toNatClampNeg 0) = w193) (r0 : (s0 = 0 ∨ s0 = 1)) (r1 : (s1 = 0 ∨ s1 = 1)) (r2 : (s2 = 0 ∨ s2 = 1)) : ¬ w193 < 0 ∧ w193.toNatClampNeg < 3 := by
  subst hhw193
  subst hn191
  subst he175
  subst ho163
  subst ho160
  subst ho157
  subst ho153
  subst ho149
  subst ho145
  rcases r0 with rfl | rfl <;> rcases r1 with rfl | rfl <;> rcases r2 with rfl | rfl <;> exact ⟨by decide, by decide⟩
theorem own_b2_1 {s0 s1 s2 t0 t1 t2 : Int32} {o145 : List Int32} {o149 : List Int32} {o153 : List Int32} {o157 : List Int32} {o160 : List Int32} {o163 : List Int32} {e175 : List Int32} {n191 : List Int32} {w193 : Int32} {n196 : List Int32} {e201 : List Int32} {w204 : Int32} (ho145 : o145 = [(0 : Int32), (0 : Int32), (0 : Int32)]) (ho149 : o149 = (List.set o145 ((s0 + (1 : Int32))).toNatClampNeg ((List.getD o145 ((s0 + (1 : Int32))).toNatClampNeg 0) + (1 : Int32)))) (ho153 : o153 = (List.set o149 ((s1 + (1 : Int32))).toNatClampNeg ((List.getD o149 ((s1 + (1 : Int32))).toNatClampNeg 0) + (1 : Int32)))) (ho157 : o157 = (List.set o153 ((s2 + (1 : Int32))).toNatClampNeg ((List.getD o153 ((s2 + (1 : Int32))).toNatClampNeg 0) + (1 : Int32)))) (ho160 : o160 = (List.set o157 ((1 : Int32)).toNatClampNeg ((List.getD o157 ((1 : Int32)).toNatClampNeg 0) + (List.getD o157 ((0 : Int32)).toNatClampNeg 0)))) (ho163 : o163 = (List.set o160 ((2 : Int32)).toNatClampNeg ((List.getD o160 ((2 : Int32)).toNatClampNeg 0) + (List.getD o160 ((1 : Int32)).toNatClampNeg 0)))) (he175 : e175 = [(0 : Int32), (0 : Int32), (0 : Int32)]) (hn191 : n191 = (own_cpy o163 (2 : Int32))) (hhw193 : (List.getD n191 (s0).toNatClampNeg 0) = w193) (hn196 : n196 = (List.set n191 (s0).toNatClampNeg (w193 + (1 : Int32)))) (he201 : e201 = (List.set e175 (w193).toNatClampNeg t0)) (hhw204 : (List.getD n196 (s1).toNatClampNeg 0) = w204) (r0 : (s0 = 0 ∨ s0 = 1)) (r1 : (s1 = 0 ∨ s1 = 1)) (r2 : (s2 = 0 ∨ s2 = 1)) : ¬ w204 < 0 ∧ w204.toNatClampNeg < 3 := by
  subst hhw204
  subst he201
  subst hn196
  subst hhw193
  subst hn191
  subst he175
  subst ho163
  subst ho160
  subst ho157
  subst ho153
  subst ho149
  subst ho145
  rcases r0 with rfl | rfl <;> rcases r1 with rfl | rfl <;> rcases r2 with rfl | rfl <;> exact ⟨by decide, by decide⟩
theorem own_b2_2 {s0 s1 s2 t0 t1 t2 : Int32} {o145 : List Int32} {o149 : List Int32} {o153 : List Int32} {o157 : List Int32} {o160 : List Int32} {o163 : List Int32} {e175 : List Int32} {n191 : List Int32} {w193 : Int32} {n196 : List Int32} {e201 : List Int32} {w204 : Int32} {n207 : List Int32} {e212 : List Int32} {w215 : Int32} (ho145 : o145 = [(0 : Int32), (0 : Int32), (0 : Int32)]) (ho149 : o149 = (List.set o145 ((s0 + (1 : Int32))).toNatClampNeg ((List.getD o145 ((s0 + (1 : Int32))).toNatClampNeg 0) + (1 : Int32)))) (ho153 : o153 = (List.set o149 ((s1 + (1 : Int32))).toNatClampNeg ((List.getD o149 ((s1 + (1 : Int32))).toNatClampNeg 0) + (1 : Int32)))) (ho157 : o157 = (List.set o153 ((s2 + (1 : Int32))).toNatClampNeg ((List.getD o153 ((s2 + (1 : Int32))).toNatClampNeg 0) + (1 : Int32)))) (ho160 : o160 = (List.set o157 ((1 : Int32)).toNatClampNeg ((List.getD o157 ((1 : Int32)).toNatClampNeg 0) + (List.getD o157 ((0 : Int32)).toNatClampNeg 0)))) (ho163 : o163 = (List.set o160 ((2 : Int32)).toNatClampNeg ((List.getD o160 ((2 : Int32)).toNatClampNeg 0) + (List.getD o160 ((1 : Int32)).toNatClampNeg 0)))) (he175 : e175 = [(0 : Int32), (0 : Int32), (0 : Int32)]) (hn191 : n191 = (own_cpy o163 (2 : Int32))) (hhw193 : (List.getD n191 (s0).toNatClampNeg 0) = w193) (hn196 : n196 = (List.set n191 (s0).toNatClampNeg (w193 + (1 : Int32)))) (he201 : e201 = (List.set e175 (w193).toNatClampNeg t0)) (hhw204 : (List.getD n196 (s1).toNatClampNeg 0) = w204) (hn207 : n207 = (List.set n196 (s1).toNatClampNeg (w204 + (1 : Int32)))) (he212 : e212 = (List.set e201 (w204).toNatClampNeg t1)) (hhw215 : (List.getD n207 (s2).toNatClampNeg 0) = w215) (r0 : (s0 = 0 ∨ s0 = 1)) (r1 : (s1 = 0 ∨ s1 = 1)) (r2 : (s2 = 0 ∨ s2 = 1)) : ¬ w215 < 0 ∧ w215.toNatClampNeg < 3 := by
  subst hhw215
  subst he212
  subst hn207
  subst hhw204
  subst he201
  subst hn196
  subst hhw193
  subst hn191
  subst he175
  subst ho163
  subst ho160
  subst ho157
  subst ho153
  subst ho149
  subst ho145
  rcases r0 with rfl | rfl <;> rcases r1 with rfl | rfl <;> rcases r2 with rfl | rfl <;> exact ⟨by decide, by decide⟩
theorem own_r2 {s0 s1 s2 t0 t1 t2 : Int32} {o145 : List Int32} {o149 : List Int32} {o153 : List Int32} {o157 : List Int32} {o160 : List Int32} {o163 : List Int32} {e175 : List Int32} {n191 : List Int32} {w193 : Int32} {n196 : List Int32} {e201 : List Int32} {w204 : Int32} {n207 : List Int32} {e212 : List Int32} {w215 : Int32} {n218 : List Int32} {e223 : List Int32} (ho145 : o145 = [(0 : Int32), (0 : Int32), (0 : Int32)]) (ho149 : o149 = (List.set o145 ((s0 + (1 : Int32))).toNatClampNeg ((List.getD o145 ((s0 + (1 : Int32))).toNatClampNeg 0) + (1 : Int32)))) (ho153 : o153 = (List.set o149 ((s1 + (1 : Int32))).toNatClampNeg ((List.getD o149 ((s1 + (1 : Int32))).toNatClampNeg 0) + (1 : Int32)))) (ho157 : o157 = (List.set o153 ((s2 + (1 : Int32))).toNatClampNeg ((List.getD o153 ((s2 + (1 : Int32))).toNatClampNeg 0) + (1 : Int32)))) (ho160 : o160 = (List.set o157 ((1 : Int32)).toNatClampNeg ((List.getD o157 ((1 : Int32)).toNatClampNeg 0) + (List.getD o157 ((0 : Int32)).toNatClampNeg 0)))) (ho163 : o163 = (List.set o160 ((2 : Int32)).toNatClampNeg ((List.getD o160 ((2 : Int32)).toNatClampNeg 0) + (List.getD o160 ((1 : Int32)).toNatClampNeg 0)))) (he175 : e175 = [(0 : Int32), (0 : Int32), (0 : Int32)]) (hn191 : n191 = (own_cpy o163 (2 : Int32))) (hhw193 : (List.getD n191 (s0).toNatClampNeg 0) = w193) (hn196 : n196 = (List.set n191 (s0).toNatClampNeg (w193 + (1 : Int32)))) (he201 : e201 = (List.set e175 (w193).toNatClampNeg t0)) (hhw204 : (List.getD n196 (s1).toNatClampNeg 0) = w204) (hn207 : n207 = (List.set n196 (s1).toNatClampNeg (w204 + (1 : Int32)))) (he212 : e212 = (List.set e201 (w204).toNatClampNeg t1)) (hhw215 : (List.getD n207 (s2).toNatClampNeg 0) = w215) (hn218 : n218 = (List.set n207 (s2).toNatClampNeg (w215 + (1 : Int32)))) (he223 : e223 = (List.set e212 (w215).toNatClampNeg t2)) (r0 : (s0 = 0 ∨ s0 = 1)) (r1 : (s1 = 0 ∨ s1 = 1)) (r2 : (s2 = 0 ∨ s2 = 1)) : own_rel 2 s0 s1 s2 t0 t1 t2 o163 e223 := by
  subst he223
  subst hn218
  subst hhw215
  subst he212
  subst hn207
  subst hhw204
  subst he201
  subst hn196
  subst hhw193
  subst hn191
  subst he175
  subst ho163
  subst ho160
  subst ho157
  subst ho153
  subst ho149
  subst ho145
  rcases r0 with rfl | rfl <;> rcases r1 with rfl | rfl <;> rcases r2 with rfl | rfl <;> exact ⟨rfl, ⟨by decide, rfl⟩, ⟨by decide, rfl⟩, ⟨by decide, rfl⟩, rfl, fun q => by first | rfl | exact absurd q (by decide), fun q => by first | rfl | exact absurd q (by decide), fun q => by first | rfl | exact absurd q (by decide), ⟨by decide, rfl⟩⟩
theorem own_b3_0 {s0 s1 s2 t0 t1 t2 : Int32} {o257 : List Int32} {o261 : List Int32} {o265 : List Int32} {o269 : List Int32} {o272 : List Int32} {o275 : List Int32} {o278 : List Int32} {e290 : List Int32} {n306 : List Int32} {w308 : Int32} (ho257 : o257 = [(0 : Int32), (0 : Int32), (0 : Int32), (0 : Int32)]) (ho261 : o261 = (List.set o257 ((s0 + (1 : Int32))).toNatClampNeg ((List.getD o257 ((s0 + (1 : Int32))).toNatClampNeg 0) + (1 : Int32)))) (ho265 : o265 = (List.set o261 ((s1 + (1 : Int32))).toNatClampNeg ((List.getD o261 ((s1 + (1 : Int32))).toNatClampNeg 0) + (1 : Int32)))) (ho269 : o269 = (List.set o265 ((s2 + (1 : Int32))).toNatClampNeg ((List.getD o265 ((s2 + (1 : Int32))).toNatClampNeg 0) + (1 : Int32)))) (ho272 : o272 = (List.set o269 ((1 : Int32)).toNatClampNeg ((List.getD o269 ((1 : Int32)).toNatClampNeg 0) + (List.getD o269 ((0 : Int32)).toNatClampNeg 0)))) (ho275 : o275 = (List.set o272 ((2 : Int32)).toNatClampNeg ((List.getD o272 ((2 : Int32)).toNatClampNeg 0) + (List.getD o272 ((1 : Int32)).toNatClampNeg 0)))) (ho278 : o278 = (List.set o275 ((3 : Int32)).toNatClampNeg ((List.getD o275 ((3 : Int32)).toNatClampNeg 0) + (List.getD o275 ((2 : Int32)).toNatClampNeg 0)))) (he290 : e290 = [(0 : Int32), (0 : Int32), (0 : Int32)]) (hn306 : n306 = (own_cpy o278 (3 : Int32))) (hhw308 : (List.getD n306 (s0).toNatClampNeg 0) = w308) (r0 : (s0 = 0 ∨ s0 = 1 ∨ s0 = 2)) (r1 : (s1 = 0 ∨ s1 = 1 ∨ s1 = 2)) (r2 : (s2 = 0 ∨ s2 = 1 ∨ s2 = 2)) : ¬ w308 < 0 ∧ w308.toNatClampNeg < 3 := by
  subst hhw308
  subst hn306
  subst he290
  subst ho278
  subst ho275
  subst ho272
  subst ho269
  subst ho265
  subst ho261
  subst ho257
  rcases r0 with rfl | rfl | rfl <;> rcases r1 with rfl | rfl | rfl <;> rcases r2 with rfl | rfl | rfl <;> exact ⟨by decide, by decide⟩
theorem own_b3_1 {s0 s1 s2 t0 t1 t2 : Int32} {o257 : List Int32} {o261 : List Int32} {o265 : List Int32} {o269 : List Int32} {o272 : List Int32} {o275 : List Int32} {o278 : List Int32} {e290 : List Int32} {n306 : List Int32} {w308 : Int32} {n311 : List Int32} {e316 : List Int32} {w319 : Int32} (ho257 : o257 = [(0 : Int32), (0 : Int32), (0 : Int32), (0 : Int32)]) (ho261 : o261 = (List.set o257 ((s0 + (1 : Int32))).toNatClampNeg ((List.getD o257 ((s0 + (1 : Int32))).toNatClampNeg 0) + (1 : Int32)))) (ho265 : o265 = (List.set o261 ((s1 + (1 : Int32))).toNatClampNeg ((List.getD o261 ((s1 + (1 : Int32))).toNatClampNeg 0) + (1 : Int32)))) (ho269 : o269 = (List.set o265 ((s2 + (1 : Int32))).toNatClampNeg ((List.getD o265 ((s2 + (1 : Int32))).toNatClampNeg 0) + (1 : Int32)))) (ho272 : o272 = (List.set o269 ((1 : Int32)).toNatClampNeg ((List.getD o269 ((1 : Int32)).toNatClampNeg 0) + (List.getD o269 ((0 : Int32)).toNatClampNeg 0)))) (ho275 : o275 = (List.set o272 ((2 : Int32)).toNatClampNeg ((List.getD o272 ((2 : Int32)).toNatClampNeg 0) + (List.getD o272 ((1 : Int32)).toNatClampNeg 0)))) (ho278 : o278 = (List.set o275 ((3 : Int32)).toNatClampNeg ((List.getD o275 ((3 : Int32)).toNatClampNeg 0) + (List.getD o275 ((2 : Int32)).toNatClampNeg 0)))) (he290 : e290 = [(0 : Int32), (0 : Int32), (0 : Int32)]) (hn306 : n306 = (own_cpy o278 (3 : Int32))) (hhw308 : (List.getD n306 (s0).toNatClampNeg 0) = w308) (hn311 : n311 = (List.set n306 (s0).toNatClampNeg (w308 + (1 : Int32)))) (he316 : e316 = (List.set e290 (w308).toNatClampNeg t0)) (hhw319 : (List.getD n311 (s1).toNatClampNeg 0) = w319) (r0 : (s0 = 0 ∨ s0 = 1 ∨ s0 = 2)) (r1 : (s1 = 0 ∨ s1 = 1 ∨ s1 = 2)) (r2 : (s2 = 0 ∨ s2 = 1 ∨ s2 = 2)) : ¬ w319 < 0 ∧ w319.toNatClampNeg < 3 := by
  subst hhw319
  subst he316
  subst hn311
  subst hhw308
  subst hn306
  subst he290
  subst ho278
  subst ho275
  subst ho272
  subst ho269
  subst ho265
  subst ho261
  subst ho257
  rcases r0 with rfl | rfl | rfl <;> rcases r1 with rfl | rfl | rfl <;> rcases r2 with rfl | rfl | rfl <;> exact ⟨by decide, by decide⟩
theorem own_b3_2 {s0 s1 s2 t0 t1 t2 : Int32} {o257 : List Int32} {o261 : List Int32} {o265 : List Int32} {o269 : List Int32} {o272 : List Int32} {o275 : List Int32} {o278 : List Int32} {e290 : List Int32} {n306 : List Int32} {w308 : Int32} {n311 : List Int32} {e316 : List Int32} {w319 : Int32} {n322 : List Int32} {e327 : List Int32} {w330 : Int32} (ho257 : o257 = [(0 : Int32), (0 : Int32), (0 : Int32), (0 : Int32)]) (ho261 : o261 = (List.set o257 ((s0 + (1 : Int32))).toNatClampNeg ((List.getD o257 ((s0 + (1 : Int32))).toNatClampNeg 0) + (1 : Int32)))) (ho265 : o265 = (List.set o261 ((s1 + (1 : Int32))).toNatClampNeg ((List.getD o261 ((s1 + (1 : Int32))).toNatClampNeg 0) + (1 : Int32)))) (ho269 : o269 = (List.set o265 ((s2 + (1 : Int32))).toNatClampNeg ((List.getD o265 ((s2 + (1 : Int32))).toNatClampNeg 0) + (1 : Int32)))) (ho272 : o272 = (List.set o269 ((1 : Int32)).toNatClampNeg ((List.getD o269 ((1 : Int32)).toNatClampNeg 0) + (List.getD o269 ((0 : Int32)).toNatClampNeg 0)))) (ho275 : o275 = (List.set o272 ((2 : Int32)).toNatClampNeg ((List.getD o272 ((2 : Int32)).toNatClampNeg 0) + (List.getD o272 ((1 : Int32)).toNatClampNeg 0)))) (ho278 : o278 = (List.set o275 ((3 : Int32)).toNatClampNeg ((List.getD o275 ((3 : Int32)).toNatClampNeg 0) + (List.getD o275 ((2 : Int32)).toNatClampNeg 0)))) (he290 : e290 = [(0 : Int32), (0 : Int32), (0 : Int32)]) (hn306 : n306 = (own_cpy o278 (3 : Int32))) (hhw308 : (List.getD n306 (s0).toNatClampNeg 0) = w308) (hn311 : n311 = (List.set n306 (s0).toNatClampNeg (w308 + (1 : Int32)))) (he316 : e316 = (List.set e290 (w308).toNatClampNeg t0)) (hhw319 : (List.getD n311 (s1).toNatClampNeg 0) = w319) (hn322 : n322 = (List.set n311 (s1).toNatClampNeg (w319 + (1 : Int32)))) (he327 : e327 = (List.set e316 (w319).toNatClampNeg t1)) (hhw330 : (List.getD n322 (s2).toNatClampNeg 0) = w330) (r0 : (s0 = 0 ∨ s0 = 1 ∨ s0 = 2)) (r1 : (s1 = 0 ∨ s1 = 1 ∨ s1 = 2)) (r2 : (s2 = 0 ∨ s2 = 1 ∨ s2 = 2)) : ¬ w330 < 0 ∧ w330.toNatClampNeg < 3 := by
  subst hhw330
  subst he327
  subst hn322
  subst hhw319
  subst he316
  subst hn311
  subst hhw308
  subst hn306
  subst he290
  subst ho278
  subst ho275
  subst ho272
  subst ho269
  subst ho265
  subst ho261
  subst ho257
  rcases r0 with rfl | rfl | rfl <;> rcases r1 with rfl | rfl | rfl <;> rcases r2 with rfl | rfl | rfl <;> exact ⟨by decide, by decide⟩
theorem own_r3 {s0 s1 s2 t0 t1 t2 : Int32} {o257 : List Int32} {o261 : List Int32} {o265 : List Int32} {o269 : List Int32} {o272 : List Int32} {o275 : List Int32} {o278 : List Int32} {e290 : List Int32} {n306 : List Int32} {w308 : Int32} {n311 : List Int32} {e316 : List Int32} {w319 : Int32} {n322 : List Int32} {e327 : List Int32} {w330 : Int32} {n333 : List Int32} {e338 : List Int32} (ho257 : o257 = [(0 : Int32), (0 : Int32), (0 : Int32), (0 : Int32)]) (ho261 : o261 = (List.set o257 ((s0 + (1 : Int32))).toNatClampNeg ((List.getD o257 ((s0 + (1 : Int32))).toNatClampNeg 0) + (1 : Int32)))) (ho265 : o265 = (List.set o261 ((s1 + (1 : Int32))).toNatClampNeg ((List.getD o261 ((s1 + (1 : Int32))).toNatClampNeg 0) + (1 : Int32)))) (ho269 : o269 = (List.set o265 ((s2 + (1 : Int32))).toNatClampNeg ((List.getD o265 ((s2 + (1 : Int32))).toNatClampNeg 0) + (1 : Int32)))) (ho272 : o272 = (List.set o269 ((1 : Int32)).toNatClampNeg ((List.getD o269 ((1 : Int32)).toNatClampNeg 0) + (List.getD o269 ((0 : Int32)).toNatClampNeg 0)))) (ho275 : o275 = (List.set o272 ((2 : Int32)).toNatClampNeg ((List.getD o272 ((2 : Int32)).toNatClampNeg 0) + (List.getD o272 ((1 : Int32)).toNatClampNeg 0)))) (ho278 : o278 = (List.set o275 ((3 : Int32)).toNatClampNeg ((List.getD o275 ((3 : Int32)).toNatClampNeg 0) + (List.getD o275 ((2 : Int32)).toNatClampNeg 0)))) (he290 : e290 = [(0 : Int32), (0 : Int32), (0 : Int32)]) (hn306 : n306 = (own_cpy o278 (3 : Int32))) (hhw308 : (List.getD n306 (s0).toNatClampNeg 0) = w308) (hn311 : n311 = (List.set n306 (s0).toNatClampNeg (w308 + (1 : Int32)))) (he316 : e316 = (List.set e290 (w308).toNatClampNeg t0)) (hhw319 : (List.getD n311 (s1).toNatClampNeg 0) = w319) (hn322 : n322 = (List.set n311 (s1).toNatClampNeg (w319 + (1 : Int32)))) (he327 : e327 = (List.set e316 (w319).toNatClampNeg t1)) (hhw330 : (List.getD n322 (s2).toNatClampNeg 0) = w330) (hn333 : n333 = (List.set n322 (s2).toNatClampNeg (w330 + (1 : Int32)))) (he338 : e338 = (List.set e327 (w330).toNatClampNeg t2)) (r0 : (s0 = 0 ∨ s0 = 1 ∨ s0 = 2)) (r1 : (s1 = 0 ∨ s1 = 1 ∨ s1 = 2)) (r2 : (s2 = 0 ∨ s2 = 1 ∨ s2 = 2)) : own_rel 3 s0 s1 s2 t0 t1 t2 o278 e338 := by
  subst he338
  subst hn333
  subst hhw330
  subst he327
  subst hn322
  subst hhw319
  subst he316
  subst hn311
  subst hhw308
  subst hn306
  subst he290
  subst ho278
  subst ho275
  subst ho272
  subst ho269
  subst ho265
  subst ho261
  subst ho257
  rcases r0 with rfl | rfl | rfl <;> rcases r1 with rfl | rfl | rfl <;> rcases r2 with rfl | rfl | rfl <;> exact ⟨rfl, ⟨by decide, rfl⟩, ⟨by decide, rfl⟩, ⟨by decide, rfl⟩, rfl, fun q => by first | rfl | exact absurd q (by decide), fun q => by first | rfl | exact absurd q (by decide), fun q => by first | rfl | exact absurd q (by decide), ⟨by decide, rfl⟩⟩
theorem own_b4_0 {s0 s1 s2 t0 t1 t2 : Int32} {o372 : List Int32} {o376 : List Int32} {o380 : List Int32} {o384 : List Int32} {o387 : List Int32} {o390 : List Int32} {o393 : List Int32} {o396 : List Int32} {e408 : List Int32} {n424 : List Int32} {w426 : Int32} (ho372 : o372 = [(0 : Int32), (0 : Int32), (0 : Int32), (0 : Int32), (0 : Int32)]) (ho376 : o376 = (List.set o372 ((s0 + (1 : Int32))).toNatClampNeg ((List.getD o372 ((s0 + (1 : Int32))).toNatClampNeg 0) + (1 : Int32)))) (ho380 : o380 = (List.set o376 ((s1 + (1 : Int32))).toNatClampNeg ((List.getD o376 ((s1 + (1 : Int32))).toNatClampNeg 0) + (1 : Int32)))) (ho384 : o384 = (List.set o380 ((s2 + (1 : Int32))).toNatClampNeg ((List.getD o380 ((s2 + (1 : Int32))).toNatClampNeg 0) + (1 : Int32)))) (ho387 : o387 = (List.set o384 ((1 : Int32)).toNatClampNeg ((List.getD o384 ((1 : Int32)).toNatClampNeg 0) + (List.getD o384 ((0 : Int32)).toNatClampNeg 0)))) (ho390 : o390 = (List.set o387 ((2 : Int32)).toNatClampNeg ((List.getD o387 ((2 : Int32)).toNatClampNeg 0) + (List.getD o387 ((1 : Int32)).toNatClampNeg 0)))) (ho393 : o393 = (List.set o390 ((3 : Int32)).toNatClampNeg ((List.getD o390 ((3 : Int32)).toNatClampNeg 0) + (List.getD o390 ((2 : Int32)).toNatClampNeg 0)))) (ho396 : o396 = (List.set o393 ((4 : Int32)).toNatClampNeg ((List.getD o393 ((4 : Int32)).toNatClampNeg 0) + (List.getD o393 ((3 : Int32)).toNatClampNeg 0)))) (he408 : e408 = [(0 : Int32), (0 : Int32), (0 : Int32)]) (hn424 : n424 = (own_cpy o396 (4 : Int32))) (hhw426 : (List.getD n424 (s0).toNatClampNeg 0) = w426) (r0 : (s0 = 0 ∨ s0 = 1 ∨ s0 = 2 ∨ s0 = 3)) (r1 : (s1 = 0 ∨ s1 = 1 ∨ s1 = 2 ∨ s1 = 3)) (r2 : (s2 = 0 ∨ s2 = 1 ∨ s2 = 2 ∨ s2 = 3)) : ¬ w426 < 0 ∧ w426.toNatClampNeg < 3 := by
  subst hhw426
  subst hn424
  subst he408
  subst ho396
  subst ho393
  subst ho390
  subst ho387
  subst ho384
  subst ho380
  subst ho376
  subst ho372
  rcases r0 with rfl | rfl | rfl | rfl <;> rcases r1 with rfl | rfl | rfl | rfl <;> rcases r2 with rfl | rfl | rfl | rfl <;> exact ⟨by decide, by decide⟩
theorem own_b4_1 {s0 s1 s2 t0 t1 t2 : Int32} {o372 : List Int32} {o376 : List Int32} {o380 : List Int32} {o384 : List Int32} {o387 : List Int32} {o390 : List Int32} {o393 : List Int32} {o396 : List Int32} {e408 : List Int32} {n424 : List Int32} {w426 : Int32} {n429 : List Int32} {e434 : List Int32} {w437 : Int32} (ho372 : o372 = [(0 : Int32), (0 : Int32), (0 : Int32), (0 : Int32), (0 : Int32)]) (ho376 : o376 = (List.set o372 ((s0 + (1 : Int32))).toNatClampNeg ((List.getD o372 ((s0 + (1 : Int32))).toNatClampNeg 0) + (1 : Int32)))) (ho380 : o380 = (List.set o376 ((s1 + (1 : Int32))).toNatClampNeg ((List.getD o376 ((s1 + (1 : Int32))).toNatClampNeg 0) + (1 : Int32)))) (ho384 : o384 = (List.set o380 ((s2 + (1 : Int32))).toNatClampNeg ((List.getD o380 ((s2 + (1 : Int32))).toNatClampNeg 0) + (1 : Int32)))) (ho387 : o387 = (List.set o384 ((1 : Int32)).toNatClampNeg ((List.getD o384 ((1 : Int32)).toNatClampNeg 0) + (List.getD o384 ((0 : Int32)).toNatClampNeg 0)))) (ho390 : o390 = (List.set o387 ((2 : Int32)).toNatClampNeg ((List.getD o387 ((2 : Int32)).toNatClampNeg 0) + (List.getD o387 ((1 : Int32)).toNatClampNeg 0)))) (ho393 : o393 = (List.set o390 ((3 : Int32)).toNatClampNeg ((List.getD o390 ((3 : Int32)).toNatClampNeg 0) + (List.getD o390 ((2 : Int32)).toNatClampNeg 0)))) (ho396 : o396 = (List.set o393 ((4 : Int32)).toNatClampNeg ((List.getD o393 ((4 : Int32)).toNatClampNeg 0) + (List.getD o393 ((3 : Int32)).toNatClampNeg 0)))) (he408 : e408 = [(0 : Int32), (0 : Int32), (0 : Int32)]) (hn424 : n424 = (own_cpy o396 (4 : Int32))) (hhw426 : (List.getD n424 (s0).toNatClampNeg 0) = w426) (hn429 : n429 = (List.set n424 (s0).toNatClampNeg (w426 + (1 : Int32)))) (he434 : e434 = (List.set e408 (w426).toNatClampNeg t0)) (hhw437 : (List.getD n429 (s1).toNatClampNeg 0) = w437) (r0 : (s0 = 0 ∨ s0 = 1 ∨ s0 = 2 ∨ s0 = 3)) (r1 : (s1 = 0 ∨ s1 = 1 ∨ s1 = 2 ∨ s1 = 3)) (r2 : (s2 = 0 ∨ s2 = 1 ∨ s2 = 2 ∨ s2 = 3)) : ¬ w437 < 0 ∧ w437.toNatClampNeg < 3 := by
  subst hhw437
  subst he434
  subst hn429
  subst hhw426
  subst hn424
  subst he408
  subst ho396
  subst ho393
  subst ho390
  subst ho387
  subst ho384
  subst ho380
  subst ho376
  subst ho372
  rcases r0 with rfl | rfl | rfl | rfl <;> rcases r1 with rfl | rfl | rfl | rfl <;> rcases r2 with rfl | rfl | rfl | rfl <;> exact ⟨by decide, by decide⟩
theorem own_b4_2 {s0 s1 s2 t0 t1 t2 : Int32} {o372 : List Int32} {o376 : List Int32} {o380 : List Int32} {o384 : List Int32} {o387 : List Int32} {o390 : List Int32} {o393 : List Int32} {o396 : List Int32} {e408 : List Int32} {n424 : List Int32} {w426 : Int32} {n429 : List Int32} {e434 : List Int32} {w437 : Int32} {n440 : List Int32} {e445 : List Int32} {w448 : Int32} (ho372 : o372 = [(0 : Int32), (0 : Int32), (0 : Int32), (0 : Int32), (0 : Int32)]) (ho376 : o376 = (List.set o372 ((s0 + (1 : Int32))).toNatClampNeg ((List.getD o372 ((s0 + (1 : Int32))).toNatClampNeg 0) + (1 : Int32)))) (ho380 : o380 = (List.set o376 ((s1 + (1 : Int32))).toNatClampNeg ((List.getD o376 ((s1 + (1 : Int32))).toNatClampNeg 0) + (1 : Int32)))) (ho384 : o384 = (List.set o380 ((s2 + (1 : Int32))).toNatClampNeg ((List.getD o380 ((s2 + (1 : Int32))).toNatClampNeg 0) + (1 : Int32)))) (ho387 : o387 = (List.set o384 ((1 : Int32)).toNatClampNeg ((List.getD o384 ((1 : Int32)).toNatClampNeg 0) + (List.getD o384 ((0 : Int32)).toNatClampNeg 0)))) (ho390 : o390 = (List.set o387 ((2 : Int32)).toNatClampNeg ((List.getD o387 ((2 : Int32)).toNatClampNeg 0) + (List.getD o387 ((1 : Int32)).toNatClampNeg 0)))) (ho393 : o393 = (List.set o390 ((3 : Int32)).toNatClampNeg ((List.getD o390 ((3 : Int32)).toNatClampNeg 0) + (List.getD o390 ((2 : Int32)).toNatClampNeg 0)))) (ho396 : o396 = (List.set o393 ((4 : Int32)).toNatClampNeg ((List.getD o393 ((4 : Int32)).toNatClampNeg 0) + (List.getD o393 ((3 : Int32)).toNatClampNeg 0)))) (he408 : e408 = [(0 : Int32), (0 : Int32), (0 : Int32)]) (hn424 : n424 = (own_cpy o396 (4 : Int32))) (hhw426 : (List.getD n424 (s0).toNatClampNeg 0) = w426) (hn429 : n429 = (List.set n424 (s0).toNatClampNeg (w426 + (1 : Int32)))) (he434 : e434 = (List.set e408 (w426).toNatClampNeg t0)) (hhw437 : (List.getD n429 (s1).toNatClampNeg 0) = w437) (hn440 : n440 = (List.set n429 (s1).toNatClampNeg (w437 + (1 : Int32)))) (he445 : e445 = (List.set e434 (w437).toNatClampNeg t1)) (hhw448 : (List.getD n440 (s2).toNatClampNeg 0) = w448) (r0 : (s0 = 0 ∨ s0 = 1 ∨ s0 = 2 ∨ s0 = 3)) (r1 : (s1 = 0 ∨ s1 = 1 ∨ s1 = 2 ∨ s1 = 3)) (r2 : (s2 = 0 ∨ s2 = 1 ∨ s2 = 2 ∨ s2 = 3)) : ¬ w448 < 0 ∧ w448.toNatClampNeg < 3 := by
  subst hhw448
  subst he445
  subst hn440
  subst hhw437
  subst he434
  subst hn429
  subst hhw426
  subst hn424
  subst he408
  subst ho396
  subst ho393
  subst ho390
  subst ho387
  subst ho384
  subst ho380
  subst ho376
  subst ho372
  rcases r0 with rfl | rfl | rfl | rfl <;> rcases r1 with rfl | rfl | rfl | rfl <;> rcases r2 with rfl | rfl | rfl | rfl <;> exact ⟨by decide, by decide⟩
theorem own_r4 {s0 s1 s2 t0 t1 t2 : Int32} {o372 : List Int32} {o376 : List Int32} {o380 : List Int32} {o384 : List Int32} {o387 : List Int32} {o390 : List Int32} {o393 : List Int32} {o396 : List Int32} {e408 : List Int32} {n424 : List Int32} {w426 : Int32} {n429 : List Int32} {e434 : List Int32} {w437 : Int32} {n440 : List Int32} {e445 : List Int32} {w448 : Int32} {n451 : List Int32} {e456 : List Int32} (ho372 : o372 = [(0 : Int32), (0 : Int32), (0 : Int32), (0 : Int32), (0 : Int32)]) (ho376 : o376 = (List.set o372 ((s0 + (1 : Int32))).toNatClampNeg ((List.getD o372 ((s0 + (1 : Int32))).toNatClampNeg 0) + (1 : Int32)))) (ho380 : o380 = (List.set o376 ((s1 + (1 : Int32))).toNatClampNeg ((List.getD o376 ((s1 + (1 : Int32))).toNatClampNeg 0) + (1 : Int32)))) (ho384 : o384 = (List.set o380 ((s2 + (1 : Int32))).toNatClampNeg ((List.getD o380 ((s2 + (1 : Int32))).toNatClampNeg 0) + (1 : Int32)))) (ho387 : o387 = (List.set o384 ((1 : Int32)).toNatClampNeg ((List.getD o384 ((1 : Int32)).toNatClampNeg 0) + (List.getD o384 ((0 : Int32)).toNatClampNeg 0)))) (ho390 : o390 = (List.set o387 ((2 : Int32)).toNatClampNeg ((List.getD o387 ((2 : Int32)).toNatClampNeg 0) + (List.getD o387 ((1 : Int32)).toNatClampNeg 0)))) (ho393 : o393 = (List.set o390 ((3 : Int32)).toNatClampNeg ((List.getD o390 ((3 : Int32)).toNatClampNeg 0) + (List.getD o390 ((2 : Int32)).toNatClampNeg 0)))) (ho396 : o396 = (List.set o393 ((4 : Int32)).toNatClampNeg ((List.getD o393 ((4 : Int32)).toNatClampNeg 0) + (List.getD o393 ((3 : Int32)).toNatClampNeg 0)))) (he408 : e408 = [(0 : Int32), (0 : Int32), (0 : Int32)]) (hn424 : n424 = (own_cpy o396 (4 : Int32))) (hhw426 : (List.getD n424 (s0).toNatClampNeg 0) = w426) (hn429 : n429 = (List.set n424 (s0).toNatClampNeg (w426 + (1 : Int32)))) (he434 : e434 = (List.set e408 (w426).toNatClampNeg t0)) (hhw437 : (List.getD n429 (s1).toNatClampNeg 0) = w437) (hn440 : n440 = (List.set n429 (s1).toNatClampNeg (w437 + (1 : Int32)))) (he445 : e445 = (List.set e434 (w437).toNatClampNeg t1)) (hhw448 : (List.getD n440 (s2).toNatClampNeg 0) = w448) (hn451 : n451 = (List.set n440 (s2).toNatClampNeg (w448 + (1 : Int32)))) (he456 : e456 = (List.set e445 (w448).toNatClampNeg t2)) (r0 : (s0 = 0 ∨ s0 = 1 ∨ s0 = 2 ∨ s0 = 3)) (r1 : (s1 = 0 ∨ s1 = 1 ∨ s1 = 2 ∨ s1 = 3)) (r2 : (s2 = 0 ∨ s2 = 1 ∨ s2 = 2 ∨ s2 = 3)) : own_rel 4 s0 s1 s2 t0 t1 t2 o396 e456 := by
  subst he456
  subst hn451
  subst hhw448
  subst he445
  subst hn440
  subst hhw437
  subst he434
  subst hn429
  subst hhw426
  subst hn424
  subst he408
  subst ho396
  subst ho393
  subst ho390
  subst ho387
  subst ho384
  subst ho380
  subst ho376
  subst ho372
  rcases r0 with rfl | rfl | rfl | rfl <;> rcases r1 with rfl | rfl | rfl | rfl <;> rcases r2 with rfl | rfl | rfl | rfl <;> exact ⟨rfl, ⟨by decide, rfl⟩, ⟨by decide, rfl⟩, ⟨by decide, rfl⟩, rfl, fun q => by first | rfl | exact absurd q (by decide), fun q => by first | rfl | exact absurd q (by decide), fun q => by first | rfl | exact absurd q (by decide), ⟨by decide, rfl⟩⟩
theorem pn_1 : plainName "com/example/acquaint/acquaint/query/Adjacency" = true := by first | (simp [plainName, overriddenIn]; done) | decide +kernel
theorem ef_1 (m : MethodId) (x0 : Int32) (x1 : Addr) (x2 : Addr) : entryFrame m #[(.int x0), (.ref x1), (.ref x2)] 8 = mkF m 0 #[.val (.int x0), .val (.ref x1), .val (.ref x2), .unset, .unset, .unset, .unset, .unset] [] := by first | (simp [entryFrame, mkF, argsToLocals, Value.category]; done) | rfl
def Q_rmO (Z : State) (cz : Int32) (a : Addr) (t : Addr) (s0 : Int32) (s1 : Int32) (s2 : Int32) (t0 : Int32) (t1 : Int32) (t2 : Int32) (h0 : Heap) (n0 : Nat) (vQ : Option Value) (hQ : Heap) (LQ : List Loc) : Prop := ∃ o : Addr, ∃ d : Addr, ∃ r : Addr, ∃ O : List Int32, ∃ E_ : List Int32, vQ = some (.ref r) ∧ Fr n0 LQ ∧ Keep h0 hQ [] ∧ h0.size ≤ o ∧ h0.size ≤ d ∧ h0.size ≤ r ∧ Exa Z hQ r "com/example/acquaint/acquaint/query/Adjacency" ∧ Fld Z hQ r "com/example/acquaint/acquaint/query/Adjacency" "offsets" "[I" (.ref o) ∧ Fld Z hQ r "com/example/acquaint/acquaint/query/Adjacency" "targets" "[I" (.ref d) ∧ Ia Z hQ o .int O ∧ Ia Z hQ d .int E_ ∧ (own_rel cz s0 s1 s2 t0 t1 t2 O E_)
set_option maxRecDepth 65536 in
set_option maxHeartbeats 40000000 in
theorem rmO (l : Launch) (Z : State) (a0 : Array Value) (hw : ∀ d ∈ tables_1, d.before a0 Z = true) (ws : List Jvm.Cond) (cz : Int32) (a : Addr) (t : Addr) (s0 : Int32) (s1 : Int32) (s2 : Int32) (t0 : Int32) (t1 : Int32) (t2 : Int32) (h0 : Heap) (n0 : Nat) (Z0 : n0 ≤ h0.size) (P0 : Ia Z h0 a .int [s0, s1, s2]) (P1 : Ia Z h0 t .int [t0, t1, t2]) (hc : (cz = 1 ∨ cz = 2 ∨ cz = 3 ∨ cz = 4)) (hs0 : ((cz = 1 → (s0 = 0)) ∧ (cz = 2 → (s0 = 0 ∨ s0 = 1)) ∧ (cz = 3 → (s0 = 0 ∨ s0 = 1 ∨ s0 = 2)) ∧ (cz = 4 → (s0 = 0 ∨ s0 = 1 ∨ s0 = 2 ∨ s0 = 3)))) (hs1 : ((cz = 1 → (s1 = 0)) ∧ (cz = 2 → (s1 = 0 ∨ s1 = 1)) ∧ (cz = 3 → (s1 = 0 ∨ s1 = 1 ∨ s1 = 2)) ∧ (cz = 4 → (s1 = 0 ∨ s1 = 1 ∨ s1 = 2 ∨ s1 = 3)))) (hs2 : ((cz = 1 → (s2 = 0)) ∧ (cz = 2 → (s2 = 0 ∨ s2 = 1)) ∧ (cz = 3 → (s2 = 0 ∨ s2 = 1 ∨ s2 = 2)) ∧ (cz = 4 → (s2 = 0 ∨ s2 = 1 ∨ s2 = 2 ∨ s2 = 3)))) :
    MetFree l (⟨"com/example/acquaint/acquaint/query/Adjacency", "of", "(I[I[I)Lcom/example/acquaint/acquaint/query/Adjacency;"⟩ : MethodName) (head1 (Jvm.Cond.code (⟨"com/example/acquaint/acquaint/query/Adjacency", "of", "(I[I[I)Lcom/example/acquaint/acquaint/query/Adjacency;"⟩ : MethodName) prog_12_method_2_code 8 (some (.object "com/example/acquaint/acquaint/query/Adjacency")) :: ws) ({ frames := 2, cells := 4, slots := 14, locals := 54 } : Room)) (fun aQ UQ => aQ = #[(.int cz), (.ref a), (.ref t)] ∧ Z.Warmed39 UQ.vm ∧ UQ.heap = h0) (fun _ _ _ _ _ => True) (fun _ UQ oQ UR => ∃ vQ LQ, oQ = .returned vQ ∧ Q_rmO Z cz a t s0 s1 s2 t0 t1 t2 h0 n0 vQ UR.heap LQ ∧ FrameEnd UQ oQ UR LQ ({ frames := 2, cells := 4, slots := 14, locals := 54 } : Room).cells ({ frames := 2, cells := 4, slots := 14, locals := 54 } : Room).slots) := by
  refine MetFree.of_bodySF (plainFor_of_name pn_1) hisR ?_
  intro p e s m args below meth c s₁ Bd hml0 hP hK
  obtain ⟨rfl, hZ, hh⟩ := hP
  have hx := Bd.exec
  have hby := Bd.bytes
  have hlk := Bd.notSynchronized
  have hml : c.maxLocals = 8 := hml0
  have hown : s.vm.findClass "com/example/acquaint/acquaint/query/Adjacency" = some m.cls := findClass_of_methodNamed Bd.named
  have hnm := (name_of_methodNamed Bd.named Bd.method).1
  have X0 : Stand p l e ({ frames := 2, cells := 4, slots := 14, locals := 54 } : Room) s m #[(.int cz), (.ref a), (.ref t)] below meth c s₁ [] 0 0 := Stand.of_body Bd
  have e0 : s₁.heap = h0 := by rw [← hh, Bd.state]; rfl
  have N0 := Fr.nil n0
  show Go p e below _ (Done s (Q_rmO Z cz a t s0 s1 s2 t0 t1 t2 h0 n0) ({ frames := 2, cells := 4, slots := 14, locals := 54 } : Room).cells ({ frames := 2, cells := 4, slots := 14, locals := 54 } : Room).slots)
  refine Go.via (fun tQ kQ => castTop (ef_1 m cz a t) kQ) ?_
  show Go p e below (s₁.setTop (mkF m 0 #[.val (.int cz), .val (.ref a), .val (.ref t), .unset, .unset, .unset, .unset, .unset] [])) _
  rcases hc with rfl | rfl | rfl | rfl
  · have r0 := hs0.1 rfl
    have r1 := hs1.1 rfl
    have r2 := hs2.1 rfl
    show Go p e below (s₁.setTop (mkF m 0 #[.val (.int (1 : Int32)), .val (.ref a), .val (.ref t), .unset, .unset, .unset, .unset, .unset] [])) _
    refine Go.via (fun _ => XS.iloadN X0.here hx rfl (hb hby d1_0) rfl) ?_
    refine Go.via (fun _ => XS.iconst X0.here hx rfl (hb hby d1_1)) ?_
    refine Go.via (fun _ => XS.iadd X0.here hx rfl (hb hby d1_2) rfl) ?_
    show Go p e below (s₁.setTop (mkF m 3 #[.val (.int (1 : Int32)), .val (.ref a), .val (.ref t), .unset, .unset, .unset, .unset, .unset] [(.int (2 : Int32))])) _
    obtain ⟨T30, h30, k30, X30, e30, E30, A30, B30, st30⟩ := newPE X0 hx hZ (tw hw 0 rfl) e0 (g := (mkF m 3 #[.val (.int (1 : Int32)), .val (.ref a), .val (.ref t), .unset, .unset, .unset, .unset, .unset] [(.int (2 : Int32))])) rfl (hb hby d1_3) rfl (by decide) (cap := 2) (by decide) (by decide) (by decide) (by decide) (ad := "[I") (by decide)
    obtain ⟨b30, g30⟩ : ∃ z, z = h0.size := ⟨_, rfl⟩
    rw [← g30] at A30 B30 st30
    have ne31 : a ≠ b30 := Nat.ne_of_lt (Nat.lt_of_lt_of_le P0.lt (Nat.le_of_eq g30.symm))
    have ne32 : t ≠ b30 := Nat.ne_of_lt (Nat.lt_of_lt_of_le P1.lt (Nat.le_of_eq g30.symm))
    have ge33 : n0 ≤ b30 := Nat.le_trans Z0 (Nat.le_of_eq g30.symm)
    have sz34 : h0.size ≤ b30 := Nat.le_trans (Keep.refl h0 []).1 (Nat.le_of_eq g30.symm)
    refine Go.via (st30) ?_
    clear st30
    have f35 : Ia Z h30 b30 .int [(0 : Int32), (0 : Int32)] := Ia.new A30 rfl
    clear X0 e0
    show Go p e below (T30.setTop (mkF m 5 #[.val (.int (1 : Int32)), .val (.ref a), .val (.ref t), .unset, .unset, .unset, .unset, .unset] [(.ref b30)])) _
    obtain ⟨o36, ho36⟩ : ∃ z : List Int32, z = [(0 : Int32), (0 : Int32)] := ⟨_, rfl⟩
    rw [← ho36] at f35
    have lo36 : o36.length = 2 := by rw [ho36]; rfl
    refine Go.via (fun _ => XS.astoreN X30.here hx rfl (hb hby d1_5) rfl rfl (l' := #[.val (.int (1 : Int32)), .val (.ref a), .val (.ref t), .val (.ref b30), .unset, .unset, .unset, .unset]) rfl) ?_
    show Go p e below (T30.setTop (mkF m 6 #[.val (.int (1 : Int32)), .val (.ref a), .val (.ref t), .val (.ref b30), .unset, .unset, .unset, .unset] [])) _
    refine Go.via (fun _ => XS.aloadN X30.here hx rfl (hb hby d1_6) rfl rfl) ?_
    refine Go.via (fun _ => XS.astore X30.here hx rfl (hb hby d1_7) rfl rfl (l' := #[.val (.int (1 : Int32)), .val (.ref a), .val (.ref t), .val (.ref b30), .val (.ref a), .unset, .unset, .unset]) rfl) ?_
    show Go p e below (T30.setTop (mkF m 9 #[.val (.int (1 : Int32)), .val (.ref a), .val (.ref t), .val (.ref b30), .val (.ref a), .unset, .unset, .unset] [])) _
    refine Go.via (fun _ => XS.aload X30.here hx rfl (hb hby d1_9) rfl rfl) ?_
    have f37 : Ia Z h30 a .int [s0, s1, s2] := (P0.ext E30)
    refine Go.via (lenI X30 hx hZ e30 f37 (n := (3 : Int32)) rfl (g := (mkF m 11 #[.val (.int (1 : Int32)), .val (.ref a), .val (.ref t), .val (.ref b30), .val (.ref a), .unset, .unset, .unset] [(.ref a)])) rfl rfl (hb hby d1_11)) ?_
    show Go p e below (T30.setTop (mkF m 12 #[.val (.int (1 : Int32)), .val (.ref a), .val (.ref t), .val (.ref b30), .val (.ref a), .unset, .unset, .unset] [(.int (3 : Int32))])) _
    refine Go.via (fun _ => XS.istore X30.here hx rfl (hb hby d1_12) rfl (l' := #[.val (.int (1 : Int32)), .val (.ref a), .val (.ref t), .val (.ref b30), .val (.ref a), .val (.int (3 : Int32)), .unset, .unset]) rfl) ?_
    show Go p e below (T30.setTop (mkF m 14 #[.val (.int (1 : Int32)), .val (.ref a), .val (.ref t), .val (.ref b30), .val (.ref a), .val (.int (3 : Int32)), .unset, .unset] [])) _
    refine Go.via (fun _ => XS.iconst X30.here hx rfl (hb hby d1_14)) ?_
    refine Go.via (fun _ => XS.istore X30.here hx rfl (hb hby d1_15) rfl (l' := #[.val (.int (1 : Int32)), .val (.ref a), .val (.ref t), .val (.ref b30), .val (.ref a), .val (.int (3 : Int32)), .val (.int (0 : Int32)), .unset]) rfl) ?_
    show Go p e below (T30.setTop (mkF m 17 #[.val (.int (1 : Int32)), .val (.ref a), .val (.ref t), .val (.ref b30), .val (.ref a), .val (.int (3 : Int32)), .val (.int (0 : Int32)), .unset] [])) _
    refine Go.via (fun _ => XS.iload X30.here hx rfl (hb hby d1_17) rfl) ?_
    refine Go.via (fun _ => XS.iload X30.here hx rfl (hb hby d1_19) rfl) ?_
    refine Go.via (fun _ => XS.icmpNo X30.here hx rfl (hb hby d1_21) rfl (tlt ((by decide) : (0 : Int32) < (3 : Int32))).2.1) ?_
    show Go p e below (T30.setTop (mkF m 24 #[.val (.int (1 : Int32)), .val (.ref a), .val (.ref t), .val (.ref b30), .val (.ref a), .val (.int (3 : Int32)), .val (.int (0 : Int32)), .unset] [])) _
    refine Go.via (fun _ => XS.aload X30.here hx rfl (hb hby d1_24) rfl rfl) ?_
    refine Go.via (fun _ => XS.iload X30.here hx rfl (hb hby d1_26) rfl) ?_
    refine Go.via (ldI X30 hx hZ e30 f37 (v := s0) (by decide) rfl (g := (mkF m 28 #[.val (.int (1 : Int32)), .val (.ref a), .val (.ref t), .val (.ref b30), .val (.ref a), .val (.int (3 : Int32)), .val (.int (0 : Int32)), .unset] [(.int (0 : Int32)), (.ref a)])) rfl rfl (hb hby d1_28)) ?_
    show Go p e below (T30.setTop (mkF m 29 #[.val (.int (1 : Int32)), .val (.ref a), .val (.ref t), .val (.ref b30), .val (.ref a), .val (.int (3 : Int32)), .val (.int (0 : Int32)), .unset] [(.int s0)])) _
    refine Go.via (fun _ => XS.istore X30.here hx rfl (hb hby d1_29) rfl (l' := #[.val (.int (1 : Int32)), .val (.ref a), .val (.ref t), .val (.ref b30), .val (.ref a), .val (.int (3 : Int32)), .val (.int (0 : Int32)), .val (.int s0)]) rfl) ?_
    show Go p e below (T30.setTop (mkF m 31 #[.val (.int (1 : Int32)), .val (.ref a), .val (.ref t), .val (.ref b30), .val (.ref a), .val (.int (3 : Int32)), .val (.int (0 : Int32)), .val (.int s0)] [])) _
    refine Go.via (fun _ => XS.aloadN X30.here hx rfl (hb hby d1_31) rfl rfl) ?_
    refine Go.via (fun _ => XS.iload X30.here hx rfl (hb hby d1_32) rfl) ?_
    refine Go.via (fun _ => XS.iconst X30.here hx rfl (hb hby d1_34)) ?_
    refine Go.via (fun _ => XS.iadd X30.here hx rfl (hb hby d1_35) rfl) ?_
    show Go p e below (T30.setTop (mkF m 36 #[.val (.int (1 : Int32)), .val (.ref a), .val (.ref t), .val (.ref b30), .val (.ref a), .val (.int (3 : Int32)), .val (.int (0 : Int32)), .val (.int s0)] [(.int (s0 + (1 : Int32))), (.ref b30)])) _
    refine Go.via (S' := T30.setTop (mkF m 37 #[.val (.int (1 : Int32)), .val (.ref a), .val (.ref t), .val (.ref b30), .val (.ref a), .val (.int (3 : Int32)), .val (.int (0 : Int32)), .val (.int s0)] [(.int (s0 + (1 : Int32))), (.ref b30), (.int (s0 + (1 : Int32))), (.ref b30)])) (fun tQ kQ => ?_) ?_
    · jvm_step X30.here [X30.here.top, hx, (hb hby d1_36), Value.category]
      exact kQ
    show Go p e below (T30.setTop (mkF m 37 #[.val (.int (1 : Int32)), .val (.ref a), .val (.ref t), .val (.ref b30), .val (.ref a), .val (.int (3 : Int32)), .val (.int (0 : Int32)), .val (.int s0)] [(.int (s0 + (1 : Int32))), (.ref b30), (.int (s0 + (1 : Int32))), (.ref b30)])) _
    refine Go.via (ldI X30 hx hZ e30 f35 (v := (List.getD o36 ((s0 + (1 : Int32))).toNatClampNeg 0)) (by rcases r0 with rfl <;> decide) (own_get (by rcases r0 with rfl <;> decide) (by rw [lo36]; rcases r0 with rfl <;> decide)) (g := (mkF m 37 #[.val (.int (1 : Int32)), .val (.ref a), .val (.ref t), .val (.ref b30), .val (.ref a), .val (.int (3 : Int32)), .val (.int (0 : Int32)), .val (.int s0)] [(.int (s0 + (1 : Int32))), (.ref b30), (.int (s0 + (1 : Int32))), (.ref b30)])) rfl rfl (hb hby d1_37)) ?_
    show Go p e below (T30.setTop (mkF m 38 #[.val (.int (1 : Int32)), .val (.ref a), .val (.ref t), .val (.ref b30), .val (.ref a), .val (.int (3 : Int32)), .val (.int (0 : Int32)), .val (.int s0)] [(.int (List.getD o36 ((s0 + (1 : Int32))).toNatClampNeg 0)), (.int (s0 + (1 : Int32))), (.ref b30)])) _
    refine Go.via (fun _ => XS.iconst X30.here hx rfl (hb hby d1_38)) ?_
    refine Go.via (fun _ => XS.iadd X30.here hx rfl (hb hby d1_39) rfl) ?_
    show Go p e below (T30.setTop (mkF m 40 #[.val (.int (1 : Int32)), .val (.ref a), .val (.ref t), .val (.ref b30), .val (.ref a), .val (.int (3 : Int32)), .val (.int (0 : Int32)), .val (.int s0)] [(.int ((List.getD o36 ((s0 + (1 : Int32))).toNatClampNeg 0) + (1 : Int32))), (.int (s0 + (1 : Int32))), (.ref b30)])) _
    obtain ⟨T38, h38, X38, e38, W38, V38, st38⟩ := stI' X30 hx hZ e30 f35 (j := (s0 + (1 : Int32))) (by rcases r0 with rfl <;> decide) (by rw [lo36]; rcases r0 with rfl <;> decide) (g := (mkF m 40 #[.val (.int (1 : Int32)), .val (.ref a), .val (.ref t), .val (.ref b30), .val (.ref a), .val (.int (3 : Int32)), .val (.int (0 : Int32)), .val (.int s0)] [(.int ((List.getD o36 ((s0 + (1 : Int32))).toNatClampNeg 0) + (1 : Int32))), (.int (s0 + (1 : Int32))), (.ref b30)])) rfl rfl (hb hby d1_40)
    refine Go.via (st38) ?_
    clear st38
    have N38 := Fr.snoc X38 N0 ge33
    have f39 : Ia Z h38 b30 .int (List.set o36 ((s0 + (1 : Int32))).toNatClampNeg ((List.getD o36 ((s0 + (1 : Int32))).toNatClampNeg 0) + (1 : Int32))) := V38
    clear X30 e30
    show Go p e below (T38.setTop (mkF m 41 #[.val (.int (1 : Int32)), .val (.ref a), .val (.ref t), .val (.ref b30), .val (.ref a), .val (.int (3 : Int32)), .val (.int (0 : Int32)), .val (.int s0)] [])) _
    obtain ⟨o40, ho40⟩ : ∃ z : List Int32, z = (List.set o36 ((s0 + (1 : Int32))).toNatClampNeg ((List.getD o36 ((s0 + (1 : Int32))).toNatClampNeg 0) + (1 : Int32))) := ⟨_, rfl⟩
    rw [← ho40] at f39
    have lo40 : o40.length = 2 := by rw [ho40, List.length_set]; exact lo36
    refine Go.via (fun _ => XS.iinc X38.here hx rfl (hb hby d1_41) rfl (l' := #[.val (.int (1 : Int32)), .val (.ref a), .val (.ref t), .val (.ref b30), .val (.ref a), .val (.int (3 : Int32)), .val (.int (1 : Int32)), .val (.int s0)]) rfl) ?_
    show Go p e below (T38.setTop (mkF m 44 #[.val (.int (1 : Int32)), .val (.ref a), .val (.ref t), .val (.ref b30), .val (.ref a), .val (.int (3 : Int32)), .val (.int (1 : Int32)), .val (.int s0)] [])) _
    refine Go.via (fun _ => XS.goto X38.here hx rfl (pc0 := 44) (pc' := 17) rfl (hb hby d1_44) (by decide) (by decide)) ?_
    refine Go.via (fun _ => XS.iload X38.here hx rfl (hb hby d1_17) rfl) ?_
    refine Go.via (fun _ => XS.iload X38.here hx rfl (hb hby d1_19) rfl) ?_
    refine Go.via (fun _ => XS.icmpNo X38.here hx rfl (hb hby d1_21) rfl (tlt ((by decide) : (1 : Int32) < (3 : Int32))).2.1) ?_
    show Go p e below (T38.setTop (mkF m 24 #[.val (.int (1 : Int32)), .val (.ref a), .val (.ref t), .val (.ref b30), .val (.ref a), .val (.int (3 : Int32)), .val (.int (1 : Int32)), .val (.int s0)] [])) _
    refine Go.via (fun _ => XS.aload X38.here hx rfl (hb hby d1_24) rfl rfl) ?_
    refine Go.via (fun _ => XS.iload X38.here hx rfl (hb hby d1_26) rfl) ?_
    have f41 : Ia Z h38 a .int [s0, s1, s2] := (f37.other W38 ne31)
    refine Go.via (ldI X38 hx hZ e38 f41 (v := s1) (by decide) rfl (g := (mkF m 28 #[.val (.int (1 : Int32)), .val (.ref a), .val (.ref t), .val (.ref b30), .val (.ref a), .val (.int (3 : Int32)), .val (.int (1 : Int32)), .val (.int s0)] [(.int (1 : Int32)), (.ref a)])) rfl rfl (hb hby d1_28)) ?_
    show Go p e below (T38.setTop (mkF m 29 #[.val (.int (1 : Int32)), .val (.ref a), .val (.ref t), .val (.ref b30), .val (.ref a), .val (.int (3 : Int32)), .val (.int (1 : Int32)), .val (.int s0)] [(.int s1)])) _
    refine Go.via (fun _ => XS.istore X38.here hx rfl (hb hby d1_29) rfl (l' := #[.val (.int (1 : Int32)), .val (.ref a), .val (.ref t), .val (.ref b30), .val (.ref a), .val (.int (3 : Int32)), .val (.int (1 : Int32)), .val (.int s1)]) rfl) ?_
    show Go p e below (T38.setTop (mkF m 31 #[.val (.int (1 : Int32)), .val (.ref a), .val (.ref t), .val (.ref b30), .val (.ref a), .val (.int (3 : Int32)), .val (.int (1 : Int32)), .val (.int s1)] [])) _
    refine Go.via (fun _ => XS.aloadN X38.here hx rfl (hb hby d1_31) rfl rfl) ?_
    refine Go.via (fun _ => XS.iload X38.here hx rfl (hb hby d1_32) rfl) ?_
    refine Go.via (fun _ => XS.iconst X38.here hx rfl (hb hby d1_34)) ?_
    refine Go.via (fun _ => XS.iadd X38.here hx rfl (hb hby d1_35) rfl) ?_
    show Go p e below (T38.setTop (mkF m 36 #[.val (.int (1 : Int32)), .val (.ref a), .val (.ref t), .val (.ref b30), .val (.ref a), .val (.int (3 : Int32)), .val (.int (1 : Int32)), .val (.int s1)] [(.int (s1 + (1 : Int32))), (.ref b30)])) _
    refine Go.via (S' := T38.setTop (mkF m 37 #[.val (.int (1 : Int32)), .val (.ref a), .val (.ref t), .val (.ref b30), .val (.ref a), .val (.int (3 : Int32)), .val (.int (1 : Int32)), .val (.int s1)] [(.int (s1 + (1 : Int32))), (.ref b30), (.int (s1 + (1 : Int32))), (.ref b30)])) (fun tQ kQ => ?_) ?_
    · jvm_step X38.here [X38.here.top, hx, (hb hby d1_36), Value.category]
      exact kQ
    show Go p e below (T38.setTop (mkF m 37 #[.val (.int (1 : Int32)), .val (.ref a), .val (.ref t), .val (.ref b30), .val (.ref a), .val (.int (3 : Int32)), .val (.int (1 : Int32)), .val (.int s1)] [(.int (s1 + (1 : Int32))), (.ref b30), (.int (s1 + (1 : Int32))), (.ref b30)])) _
    refine Go.via (ldI X38 hx hZ e38 f39 (v := (List.getD o40 ((s1 + (1 : Int32))).toNatClampNeg 0)) (by rcases r1 with rfl <;> decide) (own_get (by rcases r1 with rfl <;> decide) (by rw [lo40]; rcases r1 with rfl <;> decide)) (g := (mkF m 37 #[.val (.int (1 : Int32)), .val (.ref a), .val (.ref t), .val (.ref b30), .val (.ref a), .val (.int (3 : Int32)), .val (.int (1 : Int32)), .val (.int s1)] [(.int (s1 + (1 : Int32))), (.ref b30), (.int (s1 + (1 : Int32))), (.ref b30)])) rfl rfl (hb hby d1_37)) ?_
    show Go p e below (T38.setTop (mkF m 38 #[.val (.int (1 : Int32)), .val (.ref a), .val (.ref t), .val (.ref b30), .val (.ref a), .val (.int (3 : Int32)), .val (.int (1 : Int32)), .val (.int s1)] [(.int (List.getD o40 ((s1 + (1 : Int32))).toNatClampNeg 0)), (.int (s1 + (1 : Int32))), (.ref b30)])) _
    refine Go.via (fun _ => XS.iconst X38.here hx rfl (hb hby d1_38)) ?_
    refine Go.via (fun _ => XS.iadd X38.here hx rfl (hb hby d1_39) rfl) ?_
    show Go p e below (T38.setTop (mkF m 40 #[.val (.int (1 : Int32)), .val (.ref a), .val (.ref t), .val (.ref b30), .val (.ref a), .val (.int (3 : Int32)), .val (.int (1 : Int32)), .val (.int s1)] [(.int ((List.getD o40 ((s1 + (1 : Int32))).toNatClampNeg 0) + (1 : Int32))), (.int (s1 + (1 : Int32))), (.ref b30)])) _
    obtain ⟨T42, h42, X42, e42, W42, V42, st42⟩ := stI' X38 hx hZ e38 f39 (j := (s1 + (1 : Int32))) (by rcases r1 with rfl <;> decide) (by rw [lo40]; rcases r1 with rfl <;> decide) (g := (mkF m 40 #[.val (.int (1 : Int32)), .val (.ref a), .val (.ref t), .val (.ref b30), .val (.ref a), .val (.int (3 : Int32)), .val (.int (1 : Int32)), .val (.int s1)] [(.int ((List.getD o40 ((s1 + (1 : Int32))).toNatClampNeg 0) + (1 : Int32))), (.int (s1 + (1 : Int32))), (.ref b30)])) rfl rfl (hb hby d1_40)
    refine Go.via (st42) ?_
    clear st42
    have N42 := Fr.snoc X42 N38 ge33
    have f43 : Ia Z h42 b30 .int (List.set o40 ((s1 + (1 : Int32))).toNatClampNeg ((List.getD o40 ((s1 + (1 : Int32))).toNatClampNeg 0) + (1 : Int32))) := V42
    clear X38 e38
    show Go p e below (T42.setTop (mkF m 41 #[.val (.int (1 : Int32)), .val (.ref a), .val (.ref t), .val (.ref b30), .val (.ref a), .val (.int (3 : Int32)), .val (.int (1 : Int32)), .val (.int s1)] [])) _
    obtain ⟨o44, ho44⟩ : ∃ z : List Int32, z = (List.set o40 ((s1 + (1 : Int32))).toNatClampNeg ((List.getD o40 ((s1 + (1 : Int32))).toNatClampNeg 0) + (1 : Int32))) := ⟨_, rfl⟩
    rw [← ho44] at f43
    have lo44 : o44.length = 2 := by rw [ho44, List.length_set]; exact lo40
    refine Go.via (fun _ => XS.iinc X42.here hx rfl (hb hby d1_41) rfl (l' := #[.val (.int (1 : Int32)), .val (.ref a), .val (.ref t), .val (.ref b30), .val (.ref a), .val (.int (3 : Int32)), .val (.int (2 : Int32)), .val (.int s1)]) rfl) ?_
    show Go p e below (T42.setTop (mkF m 44 #[.val (.int (1 : Int32)), .val (.ref a), .val (.ref t), .val (.ref b30), .val (.ref a), .val (.int (3 : Int32)), .val (.int (2 : Int32)), .val (.int s1)] [])) _
    refine Go.via (fun _ => XS.goto X42.here hx rfl (pc0 := 44) (pc' := 17) rfl (hb hby d1_44) (by decide) (by decide)) ?_
    refine Go.via (fun _ => XS.iload X42.here hx rfl (hb hby d1_17) rfl) ?_
    refine Go.via (fun _ => XS.iload X42.here hx rfl (hb hby d1_19) rfl) ?_
    refine Go.via (fun _ => XS.icmpNo X42.here hx rfl (hb hby d1_21) rfl (tlt ((by decide) : (2 : Int32) < (3 : Int32))).2.1) ?_
    show Go p e below (T42.setTop (mkF m 24 #[.val (.int (1 : Int32)), .val (.ref a), .val (.ref t), .val (.ref b30), .val (.ref a), .val (.int (3 : Int32)), .val (.int (2 : Int32)), .val (.int s1)] [])) _
    refine Go.via (fun _ => XS.aload X42.here hx rfl (hb hby d1_24) rfl rfl) ?_
    refine Go.via (fun _ => XS.iload X42.here hx rfl (hb hby d1_26) rfl) ?_
    have f45 : Ia Z h42 a .int [s0, s1, s2] := (f41.other W42 ne31)
    refine Go.via (ldI X42 hx hZ e42 f45 (v := s2) (by decide) rfl (g := (mkF m 28 #[.val (.int (1 : Int32)), .val (.ref a), .val (.ref t), .val (.ref b30), .val (.ref a), .val (.int (3 : Int32)), .val (.int (2 : Int32)), .val (.int s1)] [(.int (2 : Int32)), (.ref a)])) rfl rfl (hb hby d1_28)) ?_
    show Go p e below (T42.setTop (mkF m 29 #[.val (.int (1 : Int32)), .val (.ref a), .val (.ref t), .val (.ref b30), .val (.ref a), .val (.int (3 : Int32)), .val (.int (2 : Int32)), .val (.int s1)] [(.int s2)])) _
    refine Go.via (fun _ => XS.istore X42.here hx rfl (hb hby d1_29) rfl (l' := #[.val (.int (1 : Int32)), .val (.ref a), .val (.ref t), .val (.ref b30), .val (.ref a), .val (.int (3 : Int32)), .val (.int (2 : Int32)), .val (.int s2)]) rfl) ?_
    show Go p e below (T42.setTop (mkF m 31 #[.val (.int (1 : Int32)), .val (.ref a), .val (.ref t), .val (.ref b30), .val (.ref a), .val (.int (3 : Int32)), .val (.int (2 : Int32)), .val (.int s2)] [])) _
    refine Go.via (fun _ => XS.aloadN X42.here hx rfl (hb hby d1_31) rfl rfl) ?_
    refine Go.via (fun _ => XS.iload X42.here hx rfl (hb hby d1_32) rfl) ?_
    refine Go.via (fun _ => XS.iconst X42.here hx rfl (hb hby d1_34)) ?_
    refine Go.via (fun _ => XS.iadd X42.here hx rfl (hb hby d1_35) rfl) ?_
    show Go p e below (T42.setTop (mkF m 36 #[.val (.int (1 : Int32)), .val (.ref a), .val (.ref t), .val (.ref b30), .val (.ref a), .val (.int (3 : Int32)), .val (.int (2 : Int32)), .val (.int s2)] [(.int (s2 + (1 : Int32))), (.ref b30)])) _
    refine Go.via (S' := T42.setTop (mkF m 37 #[.val (.int (1 : Int32)), .val (.ref a), .val (.ref t), .val (.ref b30), .val (.ref a), .val (.int (3 : Int32)), .val (.int (2 : Int32)), .val (.int s2)] [(.int (s2 + (1 : Int32))), (.ref b30), (.int (s2 + (1 : Int32))), (.ref b30)])) (fun tQ kQ => ?_) ?_
    · jvm_step X42.here [X42.here.top, hx, (hb hby d1_36), Value.category]
      exact kQ
    show Go p e below (T42.setTop (mkF m 37 #[.val (.int (1 : Int32)), .val (.ref a), .val (.ref t), .val (.ref b30), .val (.ref a), .val (.int (3 : Int32)), .val (.int (2 : Int32)), .val (.int s2)] [(.int (s2 + (1 : Int32))), (.ref b30), (.int (s2 + (1 : Int32))), (.ref b30)])) _
    refine Go.via (ldI X42 hx hZ e42 f43 (v := (List.getD o44 ((s2 + (1 : Int32))).toNatClampNeg 0)) (by rcases r2 with rfl <;> decide) (own_get (by rcases r2 with rfl <;> decide) (by rw [lo44]; rcases r2 with rfl <;> decide)) (g := (mkF m 37 #[.val (.int (1 : Int32)), .val (.ref a), .val (.ref t), .val (.ref b30), .val (.ref a), .val (.int (3 : Int32)), .val (.int (2 : Int32)), .val (.int s2)] [(.int (s2 + (1 : Int32))), (.ref b30), (.int (s2 + (1 : Int32))), (.ref b30)])) rfl rfl (hb hby d1_37)) ?_
    show Go p e below (T42.setTop (mkF m 38 #[.val (.int (1 : Int32)), .val (.ref a), .val (.ref t), .val (.ref b30), .val (.ref a), .val (.int (3 : Int32)), .val (.int (2 : Int32)), .val (.int s2)] [(.int (List.getD o44 ((s2 + (1 : Int32))).toNatClampNeg 0)), (.int (s2 + (1 : Int32))), (.ref b30)])) _
    refine Go.via (fun _ => XS.iconst X42.here hx rfl (hb hby d1_38)) ?_
    refine Go.via (fun _ => XS.iadd X42.here hx rfl (hb hby d1_39) rfl) ?_
    show Go p e below (T42.setTop (mkF m 40 #[.val (.int (1 : Int32)), .val (.ref a), .val (.ref t), .val (.ref b30), .val (.ref a), .val (.int (3 : Int32)), .val (.int (2 : Int32)), .val (.int s2)] [(.int ((List.getD o44 ((s2 + (1 : Int32))).toNatClampNeg 0) + (1 : Int32))), (.int (s2 + (1 : Int32))), (.ref b30)])) _
    obtain ⟨T46, h46, X46, e46, W46, V46, st46⟩ := stI' X42 hx hZ e42 f43 (j := (s2 + (1 : Int32))) (by rcases r2 with rfl <;> decide) (by rw [lo44]; rcases r2 with rfl <;> decide) (g := (mkF m 40 #[.val (.int (1 : Int32)), .val (.ref a), .val (.ref t), .val (.ref b30), .val (.ref a), .val (.int (3 : Int32)), .val (.int (2 : Int32)), .val (.int s2)] [(.int ((List.getD o44 ((s2 + (1 : Int32))).toNatClampNeg 0) + (1 : Int32))), (.int (s2 + (1 : Int32))), (.ref b30)])) rfl rfl (hb hby d1_40)
    refine Go.via (st46) ?_
    clear st46
    have N46 := Fr.snoc X46 N42 ge33
    have f47 : Ia Z h46 b30 .int (List.set o44 ((s2 + (1 : Int32))).toNatClampNeg ((List.getD o44 ((s2 + (1 : Int32))).toNatClampNeg 0) + (1 : Int32))) := V46
    clear X42 e42
    show Go p e below (T46.setTop (mkF m 41 #[.val (.int (1 : Int32)), .val (.ref a), .val (.ref t), .val (.ref b30), .val (.ref a), .val (.int (3 : Int32)), .val (.int (2 : Int32)), .val (.int s2)] [])) _
    obtain ⟨o48, ho48⟩ : ∃ z : List Int32, z = (List.set o44 ((s2 + (1 : Int32))).toNatClampNeg ((List.getD o44 ((s2 + (1 : Int32))).toNatClampNeg 0) + (1 : Int32))) := ⟨_, rfl⟩
    rw [← ho48] at f47
    have lo48 : o48.length = 2 := by rw [ho48, List.length_set]; exact lo44
    refine Go.via (fun _ => XS.iinc X46.here hx rfl (hb hby d1_41) rfl (l' := #[.val (.int (1 : Int32)), .val (.ref a), .val (.ref t), .val (.ref b30), .val (.ref a), .val (.int (3 : Int32)), .val (.int (3 : Int32)), .val (.int s2)]) rfl) ?_
    show Go p e below (T46.setTop (mkF m 44 #[.val (.int (1 : Int32)), .val (.ref a), .val (.ref t), .val (.ref b30), .val (.ref a), .val (.int (3 : Int32)), .val (.int (3 : Int32)), .val (.int s2)] [])) _
    refine Go.via (fun _ => XS.goto X46.here hx rfl (pc0 := 44) (pc' := 17) rfl (hb hby d1_44) (by decide) (by decide)) ?_
    refine Go.via (fun _ => XS.iload X46.here hx rfl (hb hby d1_17) rfl) ?_
    refine Go.via (fun _ => XS.iload X46.here hx rfl (hb hby d1_19) rfl) ?_
    refine Go.via (fun _ => XS.icmpYes X46.here hx rfl (pc0 := 21) (pc' := 47) rfl (hb hby d1_21) rfl (flt ((by decide) : ¬ ((3 : Int32) < (3 : Int32)))).2.1 (by decide) (by decide)) ?_
    show Go p e below (T46.setTop (mkF m 47 #[.val (.int (1 : Int32)), .val (.ref a), .val (.ref t), .val (.ref b30), .val (.ref a), .val (.int (3 : Int32)), .val (.int (3 : Int32)), .val (.int s2)] [])) _
    refine Go.via (fun _ => XS.iconst X46.here hx rfl (hb hby d1_47)) ?_
    refine Go.via (fun _ => XS.istore X46.here hx rfl (hb hby d1_48) rfl (l' := #[.val (.int (1 : Int32)), .val (.ref a), .val (.ref t), .val (.ref b30), .val (.int (0 : Int32)), .val (.int (3 : Int32)), .val (.int (3 : Int32)), .val (.int s2)]) rfl) ?_
    show Go p e below (T46.setTop (mkF m 50 #[.val (.int (1 : Int32)), .val (.ref a), .val (.ref t), .val (.ref b30), .val (.int (0 : Int32)), .val (.int (3 : Int32)), .val (.int (3 : Int32)), .val (.int s2)] [])) _
    refine Go.via (fun _ => XS.iload X46.here hx rfl (hb hby d1_50) rfl) ?_
    refine Go.via (fun _ => XS.iloadN X46.here hx rfl (hb hby d1_52) rfl) ?_
    refine Go.via (fun _ => XS.icmpNo X46.here hx rfl (hb hby d1_53) rfl (tlt ((by decide) : (0 : Int32) < (1 : Int32))).2.1) ?_
    show Go p e below (T46.setTop (mkF m 56 #[.val (.int (1 : Int32)), .val (.ref a), .val (.ref t), .val (.ref b30), .val (.int (0 : Int32)), .val (.int (3 : Int32)), .val (.int (3 : Int32)), .val (.int s2)] [])) _
    refine Go.via (fun _ => XS.aloadN X46.here hx rfl (hb hby d1_56) rfl rfl) ?_
    refine Go.via (fun _ => XS.iload X46.here hx rfl (hb hby d1_57) rfl) ?_
    refine Go.via (fun _ => XS.iconst X46.here hx rfl (hb hby d1_59)) ?_
    refine Go.via (fun _ => XS.iadd X46.here hx rfl (hb hby d1_60) rfl) ?_
    show Go p e below (T46.setTop (mkF m 61 #[.val (.int (1 : Int32)), .val (.ref a), .val (.ref t), .val (.ref b30), .val (.int (0 : Int32)), .val (.int (3 : Int32)), .val (.int (3 : Int32)), .val (.int s2)] [(.int (1 : Int32)), (.ref b30)])) _
    refine Go.via (S' := T46.setTop (mkF m 62 #[.val (.int (1 : Int32)), .val (.ref a), .val (.ref t), .val (.ref b30), .val (.int (0 : Int32)), .val (.int (3 : Int32)), .val (.int (3 : Int32)), .val (.int s2)] [(.int (1 : Int32)), (.ref b30), (.int (1 : Int32)), (.ref b30)])) (fun tQ kQ => ?_) ?_
    · jvm_step X46.here [X46.here.top, hx, (hb hby d1_61), Value.category]
      exact kQ
    show Go p e below (T46.setTop (mkF m 62 #[.val (.int (1 : Int32)), .val (.ref a), .val (.ref t), .val (.ref b30), .val (.int (0 : Int32)), .val (.int (3 : Int32)), .val (.int (3 : Int32)), .val (.int s2)] [(.int (1 : Int32)), (.ref b30), (.int (1 : Int32)), (.ref b30)])) _
    refine Go.via (ldI X46 hx hZ e46 f47 (v := (List.getD o48 ((1 : Int32)).toNatClampNeg 0)) (by decide) (own_get (by decide) (by rw [lo48]; decide)) (g := (mkF m 62 #[.val (.int (1 : Int32)), .val (.ref a), .val (.ref t), .val (.ref b30), .val (.int (0 : Int32)), .val (.int (3 : Int32)), .val (.int (3 : Int32)), .val (.int s2)] [(.int (1 : Int32)), (.ref b30), (.int (1 : Int32)), (.ref b30)])) rfl rfl (hb hby d1_62)) ?_
    show Go p e below (T46.setTop (mkF m 63 #[.val (.int (1 : Int32)), .val (.ref a), .val (.ref t), .val (.ref b30), .val (.int (0 : Int32)), .val (.int (3 : Int32)), .val (.int (3 : Int32)), .val (.int s2)] [(.int (List.getD o48 ((1 : Int32)).toNatClampNeg 0)), (.int (1 : Int32)), (.ref b30)])) _
    refine Go.via (fun _ => XS.aloadN X46.here hx rfl (hb hby d1_63) rfl rfl) ?_
    refine Go.via (fun _ => XS.iload X46.here hx rfl (hb hby d1_64) rfl) ?_
    refine Go.via (ldI X46 hx hZ e46 f47 (v := (List.getD o48 ((0 : Int32)).toNatClampNeg 0)) (by decide) (own_get (by decide) (by rw [lo48]; decide)) (g := (mkF m 66 #[.val (.int (1 : Int32)), .val (.ref a), .val (.ref t), .val (.ref b30), .val (.int (0 : Int32)), .val (.int (3 : Int32)), .val (.int (3 : Int32)), .val (.int s2)] [(.int (0 : Int32)), (.ref b30), (.int (List.getD o48 ((1 : Int32)).toNatClampNeg 0)), (.int (1 : Int32)), (.ref b30)])) rfl rfl (hb hby d1_66)) ?_
    show Go p e below (T46.setTop (mkF m 67 #[.val (.int (1 : Int32)), .val (.ref a), .val (.ref t), .val (.ref b30), .val (.int (0 : Int32)), .val (.int (3 : Int32)), .val (.int (3 : Int32)), .val (.int s2)] [(.int (List.getD o48 ((0 : Int32)).toNatClampNeg 0)), (.int (List.getD o48 ((1 : Int32)).toNatClampNeg 0)), (.int (1 : Int32)), (.ref b30)])) _
    refine Go.via (fun _ => XS.iadd X46.here hx rfl (hb hby d1_67) rfl) ?_
    show Go p e below (T46.setTop (mkF m 68 #[.val (.int (1 : Int32)), .val (.ref a), .val (.ref t), .val (.ref b30), .val (.int (0 : Int32)), .val (.int (3 : Int32)), .val (.int (3 : Int32)), .val (.int s2)] [(.int ((List.getD o48 ((1 : Int32)).toNatClampNeg 0) + (List.getD o48 ((0 : Int32)).toNatClampNeg 0))), (.int (1 : Int32)), (.ref b30)])) _
    obtain ⟨T49, h49, X49, e49, W49, V49, st49⟩ := stI' X46 hx hZ e46 f47 (j := (1 : Int32)) (by decide) (by rw [lo48]; decide) (g := (mkF m 68 #[.val (.int (1 : Int32)), .val (.ref a), .val (.ref t), .val (.ref b30), .val (.int (0 : Int32)), .val (.int (3 : Int32)), .val (.int (3 : Int32)), .val (.int s2)] [(.int ((List.getD o48 ((1 : Int32)).toNatClampNeg 0) + (List.getD o48 ((0 : Int32)).toNatClampNeg 0))), (.int (1 : Int32)), (.ref b30)])) rfl rfl (hb hby d1_68)
    refine Go.via (st49) ?_
    clear st49
    have N49 := Fr.snoc X49 N46 ge33
    have f50 : Ia Z h49 b30 .int (List.set o48 ((1 : Int32)).toNatClampNeg ((List.getD o48 ((1 : Int32)).toNatClampNeg 0) + (List.getD o48 ((0 : Int32)).toNatClampNeg 0))) := V49
    clear X46 e46
    show Go p e below (T49.setTop (mkF m 69 #[.val (.int (1 : Int32)), .val (.ref a), .val (.ref t), .val (.ref b30), .val (.int (0 : Int32)), .val (.int (3 : Int32)), .val (.int (3 : Int32)), .val (.int s2)] [])) _
    obtain ⟨o51, ho51⟩ : ∃ z : List Int32, z = (List.set o48 ((1 : Int32)).toNatClampNeg ((List.getD o48 ((1 : Int32)).toNatClampNeg 0) + (List.getD o48 ((0 : Int32)).toNatClampNeg 0))) := ⟨_, rfl⟩
    rw [← ho51] at f50
    have lo51 : o51.length = 2 := by rw [ho51, List.length_set]; exact lo48
    refine Go.via (fun _ => XS.iinc X49.here hx rfl (hb hby d1_69) rfl (l' := #[.val (.int (1 : Int32)), .val (.ref a), .val (.ref t), .val (.ref b30), .val (.int (1 : Int32)), .val (.int (3 : Int32)), .val (.int (3 : Int32)), .val (.int s2)]) rfl) ?_
    show Go p e below (T49.setTop (mkF m 72 #[.val (.int (1 : Int32)), .val (.ref a), .val (.ref t), .val (.ref b30), .val (.int (1 : Int32)), .val (.int (3 : Int32)), .val (.int (3 : Int32)), .val (.int s2)] [])) _
    refine Go.via (fun _ => XS.goto X49.here hx rfl (pc0 := 72) (pc' := 50) rfl (hb hby d1_72) (by decide) (by decide)) ?_
    refine Go.via (fun _ => XS.iload X49.here hx rfl (hb hby d1_50) rfl) ?_
    refine Go.via (fun _ => XS.iloadN X49.here hx rfl (hb hby d1_52) rfl) ?_
    refine Go.via (fun _ => XS.icmpYes X49.here hx rfl (pc0 := 53) (pc' := 75) rfl (hb hby d1_53) rfl (flt ((by decide) : ¬ ((1 : Int32) < (1 : Int32)))).2.1 (by decide) (by decide)) ?_
    show Go p e below (T49.setTop (mkF m 75 #[.val (.int (1 : Int32)), .val (.ref a), .val (.ref t), .val (.ref b30), .val (.int (1 : Int32)), .val (.int (3 : Int32)), .val (.int (3 : Int32)), .val (.int s2)] [])) _
    refine Go.via (fun _ => XS.aloadN X49.here hx rfl (hb hby d1_75) rfl rfl) ?_
    have f52 : Ia Z h49 t .int [t0, t1, t2] := (((((P1.ext E30).other W38 ne32).other W42 ne32).other W46 ne32).other W49 ne32)
    refine Go.via (lenI X49 hx hZ e49 f52 (n := (3 : Int32)) rfl (g := (mkF m 76 #[.val (.int (1 : Int32)), .val (.ref a), .val (.ref t), .val (.ref b30), .val (.int (1 : Int32)), .val (.int (3 : Int32)), .val (.int (3 : Int32)), .val (.int s2)] [(.ref t)])) rfl rfl (hb hby d1_76)) ?_
    show Go p e below (T49.setTop (mkF m 77 #[.val (.int (1 : Int32)), .val (.ref a), .val (.ref t), .val (.ref b30), .val (.int (1 : Int32)), .val (.int (3 : Int32)), .val (.int (3 : Int32)), .val (.int s2)] [(.int (3 : Int32))])) _
    have k54 : Keep h0 h49 [] := ((((((Keep.refl h0 []).ext E30).wr W38 (Or.inr sz34)).wr W42 (Or.inr sz34)).wr W46 (Or.inr sz34)).wr W49 (Or.inr sz34))
    have z55 : n0 ≤ h49.size := (Nat.le_trans (Nat.le_trans (Nat.le_trans (Nat.le_trans (Nat.le_trans Z0 E30.1) (Keep.of_wr W38).1) (Keep.of_wr W42).1) (Keep.of_wr W46).1) (Keep.of_wr W49).1)
    obtain ⟨T53, h53, k53, X53, e53, E53, A53, B53, st53⟩ := newPE X49 hx hZ (tw hw 0 rfl) e49 (g := (mkF m 77 #[.val (.int (1 : Int32)), .val (.ref a), .val (.ref t), .val (.ref b30), .val (.int (1 : Int32)), .val (.int (3 : Int32)), .val (.int (3 : Int32)), .val (.int s2)] [(.int (3 : Int32))])) rfl (hb hby d1_77) rfl (by decide) (cap := 3) (by decide) (by decide) (by decide) (by decide) (ad := "[I") (by decide)
    obtain ⟨b53, g53⟩ : ∃ z, z = h49.size := ⟨_, rfl⟩
    rw [← g53] at A53 B53 st53
    have f57 : Ia Z h49 a .int [s0, s1, s2] := ((f45.other W46 ne31).other W49 ne31)
    have ne56 : a ≠ b53 := Nat.ne_of_lt (Nat.lt_of_lt_of_le f57.lt (Nat.le_of_eq g53.symm))
    have ne58 : b30 ≠ b53 := Nat.ne_of_lt (Nat.lt_of_lt_of_le f50.lt (Nat.le_of_eq g53.symm))
    have ne59 : t ≠ b53 := Nat.ne_of_lt (Nat.lt_of_lt_of_le f52.lt (Nat.le_of_eq g53.symm))
    have ge60 : n0 ≤ b53 := Nat.le_trans z55 (Nat.le_of_eq g53.symm)
    have sz61 : h0.size ≤ b53 := Nat.le_trans k54.1 (Nat.le_of_eq g53.symm)
    refine Go.via (st53) ?_
    clear st53
    have f62 : Ia Z h53 b53 .int [(0 : Int32), (0 : Int32), (0 : Int32)] := Ia.new A53 rfl
    clear X49 e49
    show Go p e below (T53.setTop (mkF m 79 #[.val (.int (1 : Int32)), .val (.ref a), .val (.ref t), .val (.ref b30), .val (.int (1 : Int32)), .val (.int (3 : Int32)), .val (.int (3 : Int32)), .val (.int s2)] [(.ref b53)])) _
    obtain ⟨e63, he63⟩ : ∃ z : List Int32, z = [(0 : Int32), (0 : Int32), (0 : Int32)] := ⟨_, rfl⟩
    rw [← he63] at f62
    have le63 : e63.length = 3 := by rw [he63]; rfl
    refine Go.via (fun _ => XS.astore X53.here hx rfl (hb hby d1_79) rfl rfl (l' := #[.val (.int (1 : Int32)), .val (.ref a), .val (.ref t), .val (.ref b30), .val (.ref b53), .val (.int (3 : Int32)), .val (.int (3 : Int32)), .val (.int s2)]) rfl) ?_
    show Go p e below (T53.setTop (mkF m 81 #[.val (.int (1 : Int32)), .val (.ref a), .val (.ref t), .val (.ref b30), .val (.ref b53), .val (.int (3 : Int32)), .val (.int (3 : Int32)), .val (.int s2)] [])) _
    refine Go.via (fun _ => XS.aloadN X53.here hx rfl (hb hby d1_81) rfl rfl) ?_
    refine Go.via (fun _ => XS.iloadN X53.here hx rfl (hb hby d1_82) rfl) ?_
    have f64 : Ia Z h53 b30 .int o51 := (f50.ext E53)
    have z66 : n0 ≤ h53.size := (Nat.le_trans z55 E53.1)
    obtain ⟨_, _, ⟨T65, L65, k65, n65⟩, -, X65, ⟨Lc65, hQ65, l65, y65, z65⟩, st65⟩ := Jvm.LawKit.callS X53 hx (y := (⟨"java/util/Arrays", "copyOf", "([II)[I"⟩ : MethodName)) hown (mvT hZ (tw hw 5 rfl)) (mvT hZ (tw hw 6 rfl)) (mvT hZ (tw hw 7 rfl)) (mvT hZ (tw hw 8 rfl)) (by decide) (backOf (W := 0) (rmC l Z a0 hw [] b30 (1 : Int32) o51 h53 n0 z66 f64 (by rw [lo51]; decide) (by first | decide | (simp only [List.length_cons, List.length_nil]; decide) | rfl) (by first | decide | (simp only [List.length_cons, List.length_nil]; decide) | rfl) (by rw [lo51]; decide)) hZ (tw hw 8 rfl) (tw hw 7 rfl) (by decide) (by decide)) (g := (mkF m 83 #[.val (.int (1 : Int32)), .val (.ref a), .val (.ref t), .val (.ref b30), .val (.ref b53), .val (.int (3 : Int32)), .val (.int (3 : Int32)), .val (.int s2)] [(.int (1 : Int32)), (.ref b30)])) rfl (by rw [hml]; rfl) (argsL := [(.ref b30), (.int (1 : Int32))]) (rest := []) (lenOf pd__28_5bII_29_5bI rfl) rfl (by show 2 * 0 + _ ≤ _; exact Nat.le_of_eq rfl) (hb hby d1_83) (fun _ _ => ⟨rfl, e53, (by decide : 2 + 1 ≤ _), (by decide : 5 + 4 ≤ _)⟩)
    dsimp only [Pt.U, Pt.locs, Pt.cells, Pt.slots] at X65 l65 y65 z65 st65 hQ65
    subst l65 y65 z65
    obtain ⟨b67, rfl, N65q, K65q, fz_b67, f68⟩ := hQ65
    have N65 := Fr.app N49 N65q
    refine Go.via (st65) ?_
    clear st65
    have f69 : Ia Z h53 a .int [s0, s1, s2] := (f57.ext E53)
    have ne70 : a ≠ b67 := Nat.ne_of_lt (Nat.lt_of_lt_of_le f69.lt fz_b67)
    have ne71 : b30 ≠ b67 := Nat.ne_of_lt (Nat.lt_of_lt_of_le f64.lt fz_b67)
    have ne72 : b53 ≠ b67 := Nat.ne_of_lt (Nat.lt_of_lt_of_le f62.lt fz_b67)
    have f73 : Ia Z h53 t .int [t0, t1, t2] := (f52.ext E53)
    have ne74 : t ≠ b67 := Nat.ne_of_lt (Nat.lt_of_lt_of_le f73.lt fz_b67)
    have ge75 : n0 ≤ b67 := Nat.le_trans z66 fz_b67
    have k77 : Keep h0 h53 [] := (k54.ext E53)
    have sz76 : h0.size ≤ b67 := Nat.le_trans k77.1 fz_b67
    have e65 : T65.heap = T65.heap := rfl
    have f78 : Ia Z T65.heap b67 .int (own_cpy o51 (1 : Int32)) := f68
    clear X53 e53
    show Go p e below (T65.setTop (mkF m 86 #[.val (.int (1 : Int32)), .val (.ref a), .val (.ref t), .val (.ref b30), .val (.ref b53), .val (.int (3 : Int32)), .val (.int (3 : Int32)), .val (.int s2)] [(.ref b67)])) _
    obtain ⟨n79, hn79⟩ : ∃ z : List Int32, z = (own_cpy o51 (1 : Int32)) := ⟨_, rfl⟩
    rw [← hn79] at f78
    have ln79 : n79.length = 1 := by rw [hn79]; simp only [own_cpy, List.length_append, List.length_take, List.length_replicate]; rw [lo51]; rfl
    refine Go.via (fun _ => XS.astore X65.here hx rfl (hb hby d1_86) rfl rfl (l' := #[.val (.int (1 : Int32)), .val (.ref a), .val (.ref t), .val (.ref b30), .val (.ref b53), .val (.ref b67), .val (.int (3 : Int32)), .val (.int s2)]) rfl) ?_
    show Go p e below (T65.setTop (mkF m 88 #[.val (.int (1 : Int32)), .val (.ref a), .val (.ref t), .val (.ref b30), .val (.ref b53), .val (.ref b67), .val (.int (3 : Int32)), .val (.int s2)] [])) _
    refine Go.via (fun _ => XS.iconst X65.here hx rfl (hb hby d1_88)) ?_
    refine Go.via (fun _ => XS.istore X65.here hx rfl (hb hby d1_89) rfl (l' := #[.val (.int (1 : Int32)), .val (.ref a), .val (.ref t), .val (.ref b30), .val (.ref b53), .val (.ref b67), .val (.int (0 : Int32)), .val (.int s2)]) rfl) ?_
    show Go p e below (T65.setTop (mkF m 91 #[.val (.int (1 : Int32)), .val (.ref a), .val (.ref t), .val (.ref b30), .val (.ref b53), .val (.ref b67), .val (.int (0 : Int32)), .val (.int s2)] [])) _
    refine Go.via (fun _ => XS.iload X65.here hx rfl (hb hby d1_91) rfl) ?_
    refine Go.via (fun _ => XS.aloadN X65.here hx rfl (hb hby d1_93) rfl rfl) ?_
    have f80 : Ia Z T65.heap a .int [s0, s1, s2] := (f69.keep K65q nin0)
    refine Go.via (lenI X65 hx hZ e65 f80 (n := (3 : Int32)) rfl (g := (mkF m 94 #[.val (.int (1 : Int32)), .val (.ref a), .val (.ref t), .val (.ref b30), .val (.ref b53), .val (.ref b67), .val (.int (0 : Int32)), .val (.int s2)] [(.ref a), (.int (0 : Int32))])) rfl rfl (hb hby d1_94)) ?_
    show Go p e below (T65.setTop (mkF m 95 #[.val (.int (1 : Int32)), .val (.ref a), .val (.ref t), .val (.ref b30), .val (.ref b53), .val (.ref b67), .val (.int (0 : Int32)), .val (.int s2)] [(.int (3 : Int32)), (.int (0 : Int32))])) _
    refine Go.via (fun _ => XS.icmpNo X65.here hx rfl (hb hby d1_95) rfl (tlt ((by decide) : (0 : Int32) < (3 : Int32))).2.1) ?_
    show Go p e below (T65.setTop (mkF m 98 #[.val (.int (1 : Int32)), .val (.ref a), .val (.ref t), .val (.ref b30), .val (.ref b53), .val (.ref b67), .val (.int (0 : Int32)), .val (.int s2)] [])) _
    refine Go.via (fun _ => XS.aload X65.here hx rfl (hb hby d1_98) rfl rfl) ?_
    refine Go.via (fun _ => XS.aload X65.here hx rfl (hb hby d1_100) rfl rfl) ?_
    refine Go.via (fun _ => XS.aloadN X65.here hx rfl (hb hby d1_102) rfl rfl) ?_
    refine Go.via (fun _ => XS.iload X65.here hx rfl (hb hby d1_103) rfl) ?_
    show Go p e below (T65.setTop (mkF m 105 #[.val (.int (1 : Int32)), .val (.ref a), .val (.ref t), .val (.ref b30), .val (.ref b53), .val (.ref b67), .val (.int (0 : Int32)), .val (.int s2)] [(.int (0 : Int32)), (.ref a), (.ref b67), (.ref b53)])) _
    refine Go.via (ldI X65 hx hZ e65 f80 (v := s0) (by decide) rfl (g := (mkF m 105 #[.val (.int (1 : Int32)), .val (.ref a), .val (.ref t), .val (.ref b30), .val (.ref b53), .val (.ref b67), .val (.int (0 : Int32)), .val (.int s2)] [(.int (0 : Int32)), (.ref a), (.ref b67), (.ref b53)])) rfl rfl (hb hby d1_105)) ?_
    show Go p e below (T65.setTop (mkF m 106 #[.val (.int (1 : Int32)), .val (.ref a), .val (.ref t), .val (.ref b30), .val (.ref b53), .val (.ref b67), .val (.int (0 : Int32)), .val (.int s2)] [(.int s0), (.ref b67), (.ref b53)])) _
    refine Go.via (S' := T65.setTop (mkF m 107 #[.val (.int (1 : Int32)), .val (.ref a), .val (.ref t), .val (.ref b30), .val (.ref b53), .val (.ref b67), .val (.int (0 : Int32)), .val (.int s2)] [(.int s0), (.ref b67), (.int s0), (.ref b67), (.ref b53)])) (fun tQ kQ => ?_) ?_
    · jvm_step X65.here [X65.here.top, hx, (hb hby d1_106), Value.category]
      exact kQ
    show Go p e below (T65.setTop (mkF m 107 #[.val (.int (1 : Int32)), .val (.ref a), .val (.ref t), .val (.ref b30), .val (.ref b53), .val (.ref b67), .val (.int (0 : Int32)), .val (.int s2)] [(.int s0), (.ref b67), (.int s0), (.ref b67), (.ref b53)])) _
    refine Go.via (ldI X65 hx hZ e65 f78 (v := (List.getD n79 (s0).toNatClampNeg 0)) (by rcases r0 with rfl <;> decide) (own_get (by rcases r0 with rfl <;> decide) (by rw [ln79]; rcases r0 with rfl <;> decide)) (g := (mkF m 107 #[.val (.int (1 : Int32)), .val (.ref a), .val (.ref t), .val (.ref b30), .val (.ref b53), .val (.ref b67), .val (.int (0 : Int32)), .val (.int s2)] [(.int s0), (.ref b67), (.int s0), (.ref b67), (.ref b53)])) rfl rfl (hb hby d1_107)) ?_
    show Go p e below (T65.setTop (mkF m 108 #[.val (.int (1 : Int32)), .val (.ref a), .val (.ref t), .val (.ref b30), .val (.ref b53), .val (.ref b67), .val (.int (0 : Int32)), .val (.int s2)] [(.int (List.getD n79 (s0).toNatClampNeg 0)), (.int s0), (.ref b67), (.ref b53)])) _
    generalize hhw81 : (List.getD n79 (s0).toNatClampNeg 0) = w81
    show Go p e below (T65.setTop (mkF m 108 #[.val (.int (1 : Int32)), .val (.ref a), .val (.ref t), .val (.ref b30), .val (.ref b53), .val (.ref b67), .val (.int (0 : Int32)), .val (.int s2)] [(.int w81), (.int s0), (.ref b67), (.ref b53)])) _
    have bw81 := (own_b1_0 (t0 := t0) (t1 := t1) (t2 := t2) ho36 ho40 ho44 ho48 ho51 he63 hn79 hhw81 r0 r1 r2)
    refine Go.via (S' := T65.setTop (mkF m 109 #[.val (.int (1 : Int32)), .val (.ref a), .val (.ref t), .val (.ref b30), .val (.ref b53), .val (.ref b67), .val (.int (0 : Int32)), .val (.int s2)] [(.int w81), (.int s0), (.ref b67), (.int w81), (.ref b53)])) (fun tQ kQ => ?_) ?_
    · jvm_step X65.here [X65.here.top, hx, (hb hby d1_108), Value.category]
      exact kQ
    show Go p e below (T65.setTop (mkF m 109 #[.val (.int (1 : Int32)), .val (.ref a), .val (.ref t), .val (.ref b30), .val (.ref b53), .val (.ref b67), .val (.int (0 : Int32)), .val (.int s2)] [(.int w81), (.int s0), (.ref b67), (.int w81), (.ref b53)])) _
    refine Go.via (fun _ => XS.iconst X65.here hx rfl (hb hby d1_109)) ?_
    refine Go.via (fun _ => XS.iadd X65.here hx rfl (hb hby d1_110) rfl) ?_
    show Go p e below (T65.setTop (mkF m 111 #[.val (.int (1 : Int32)), .val (.ref a), .val (.ref t), .val (.ref b30), .val (.ref b53), .val (.ref b67), .val (.int (0 : Int32)), .val (.int s2)] [(.int (w81 + (1 : Int32))), (.int s0), (.ref b67), (.int w81), (.ref b53)])) _
    obtain ⟨T82, h82, X82, e82, W82, V82, st82⟩ := stI' X65 hx hZ e65 f78 (j := s0) (by rcases r0 with rfl <;> decide) (by rw [ln79]; rcases r0 with rfl <;> decide) (g := (mkF m 111 #[.val (.int (1 : Int32)), .val (.ref a), .val (.ref t), .val (.ref b30), .val (.ref b53), .val (.ref b67), .val (.int (0 : Int32)), .val (.int s2)] [(.int (w81 + (1 : Int32))), (.int s0), (.ref b67), (.int w81), (.ref b53)])) rfl rfl (hb hby d1_111)
    refine Go.via (st82) ?_
    clear st82
    have N82 := Fr.snoc X82 N65 ge75
    have f83 : Ia Z h82 b67 .int (List.set n79 (s0).toNatClampNeg (w81 + (1 : Int32))) := V82
    clear X65 e65
    show Go p e below (T82.setTop (mkF m 112 #[.val (.int (1 : Int32)), .val (.ref a), .val (.ref t), .val (.ref b30), .val (.ref b53), .val (.ref b67), .val (.int (0 : Int32)), .val (.int s2)] [(.int w81), (.ref b53)])) _
    obtain ⟨n84, hn84⟩ : ∃ z : List Int32, z = (List.set n79 (s0).toNatClampNeg (w81 + (1 : Int32))) := ⟨_, rfl⟩
    rw [← hn84] at f83
    have ln84 : n84.length = 1 := by rw [hn84, List.length_set]; exact ln79
    refine Go.via (fun _ => XS.aloadN X82.here hx rfl (hb hby d1_112) rfl rfl) ?_
    refine Go.via (fun _ => XS.iload X82.here hx rfl (hb hby d1_113) rfl) ?_
    have f85 : Ia Z h82 t .int [t0, t1, t2] := ((f73.keep K65q nin0).other W82 ne74)
    refine Go.via (ldI X82 hx hZ e82 f85 (v := t0) (by decide) rfl (g := (mkF m 115 #[.val (.int (1 : Int32)), .val (.ref a), .val (.ref t), .val (.ref b30), .val (.ref b53), .val (.ref b67), .val (.int (0 : Int32)), .val (.int s2)] [(.int (0 : Int32)), (.ref t), (.int w81), (.ref b53)])) rfl rfl (hb hby d1_115)) ?_
    show Go p e below (T82.setTop (mkF m 116 #[.val (.int (1 : Int32)), .val (.ref a), .val (.ref t), .val (.ref b30), .val (.ref b53), .val (.ref b67), .val (.int (0 : Int32)), .val (.int s2)] [(.int t0), (.int w81), (.ref b53)])) _
    have f86 : Ia Z h82 b53 .int e63 := ((f62.keep K65q nin0).other W82 ne72)
    obtain ⟨T87, h87, X87, e87, W87, V87, st87⟩ := stI' X82 hx hZ e82 f86 (j := w81) bw81.1 (by rw [le63]; exact bw81.2) (g := (mkF m 116 #[.val (.int (1 : Int32)), .val (.ref a), .val (.ref t), .val (.ref b30), .val (.ref b53), .val (.ref b67), .val (.int (0 : Int32)), .val (.int s2)] [(.int t0), (.int w81), (.ref b53)])) rfl rfl (hb hby d1_116)
    refine Go.via (st87) ?_
    clear st87
    have N87 := Fr.snoc X87 N82 ge60
    have f88 : Ia Z h87 b53 .int (List.set e63 (w81).toNatClampNeg t0) := V87
    clear X82 e82
    show Go p e below (T87.setTop (mkF m 117 #[.val (.int (1 : Int32)), .val (.ref a), .val (.ref t), .val (.ref b30), .val (.ref b53), .val (.ref b67), .val (.int (0 : Int32)), .val (.int s2)] [])) _
    obtain ⟨e89, he89⟩ : ∃ z : List Int32, z = (List.set e63 (w81).toNatClampNeg t0) := ⟨_, rfl⟩
    rw [← he89] at f88
    have le89 : e89.length = 3 := by rw [he89, List.length_set]; exact le63
    refine Go.via (fun _ => XS.iinc X87.here hx rfl (hb hby d1_117) rfl (l' := #[.val (.int (1 : Int32)), .val (.ref a), .val (.ref t), .val (.ref b30), .val (.ref b53), .val (.ref b67), .val (.int (1 : Int32)), .val (.int s2)]) rfl) ?_
    show Go p e below (T87.setTop (mkF m 120 #[.val (.int (1 : Int32)), .val (.ref a), .val (.ref t), .val (.ref b30), .val (.ref b53), .val (.ref b67), .val (.int (1 : Int32)), .val (.int s2)] [])) _
    refine Go.via (fun _ => XS.goto X87.here hx rfl (pc0 := 120) (pc' := 91) rfl (hb hby d1_120) (by decide) (by decide)) ?_
    refine Go.via (fun _ => XS.iload X87.here hx rfl (hb hby d1_91) rfl) ?_
    refine Go.via (fun _ => XS.aloadN X87.here hx rfl (hb hby d1_93) rfl rfl) ?_
    have f90 : Ia Z h87 a .int [s0, s1, s2] := ((f80.other W82 ne70).other W87 ne56)
    refine Go.via (lenI X87 hx hZ e87 f90 (n := (3 : Int32)) rfl (g := (mkF m 94 #[.val (.int (1 : Int32)), .val (.ref a), .val (.ref t), .val (.ref b30), .val (.ref b53), .val (.ref b67), .val (.int (1 : Int32)), .val (.int s2)] [(.ref a), (.int (1 : Int32))])) rfl rfl (hb hby d1_94)) ?_
    show Go p e below (T87.setTop (mkF m 95 #[.val (.int (1 : Int32)), .val (.ref a), .val (.ref t), .val (.ref b30), .val (.ref b53), .val (.ref b67), .val (.int (1 : Int32)), .val (.int s2)] [(.int (3 : Int32)), (.int (1 : Int32))])) _
    refine Go.via (fun _ => XS.icmpNo X87.here hx rfl (hb hby d1_95) rfl (tlt ((by decide) : (1 : Int32) < (3 : Int32))).2.1) ?_
    show Go p e below (T87.setTop (mkF m 98 #[.val (.int (1 : Int32)), .val (.ref a), .val (.ref t), .val (.ref b30), .val (.ref b53), .val (.ref b67), .val (.int (1 : Int32)), .val (.int s2)] [])) _
    refine Go.via (fun _ => XS.aload X87.here hx rfl (hb hby d1_98) rfl rfl) ?_
    refine Go.via (fun _ => XS.aload X87.here hx rfl (hb hby d1_100) rfl rfl) ?_
    refine Go.via (fun _ => XS.aloadN X87.here hx rfl (hb hby d1_102) rfl rfl) ?_
    refine Go.via (fun _ => XS.iload X87.here hx rfl (hb hby d1_103) rfl) ?_
    show Go p e below (T87.setTop (mkF m 105 #[.val (.int (1 : Int32)), .val (.ref a), .val (.ref t), .val (.ref b30), .val (.ref b53), .val (.ref b67), .val (.int (1 : Int32)), .val (.int s2)] [(.int (1 : Int32)), (.ref a), (.ref b67), (.ref b53)])) _
    refine Go.via (ldI X87 hx hZ e87 f90 (v := s1) (by decide) rfl (g := (mkF m 105 #[.val (.int (1 : Int32)), .val (.ref a), .val (.ref t), .val (.ref b30), .val (.ref b53), .val (.ref b67), .val (.int (1 : Int32)), .val (.int s2)] [(.int (1 : Int32)), (.ref a), (.ref b67), (.ref b53)])) rfl rfl (hb hby d1_105)) ?_
    show Go p e below (T87.setTop (mkF m 106 #[.val (.int (1 : Int32)), .val (.ref a), .val (.ref t), .val (.ref b30), .val (.ref b53), .val (.ref b67), .val (.int (1 : Int32)), .val (.int s2)] [(.int s1), (.ref b67), (.ref b53)])) _
    refine Go.via (S' := T87.setTop (mkF m 107 #[.val (.int (1 : Int32)), .val (.ref a), .val (.ref t), .val (.ref b30), .val (.ref b53), .val (.ref b67), .val (.int (1 : Int32)), .val (.int s2)] [(.int s1), (.ref b67), (.int s1), (.ref b67), (.ref b53)])) (fun tQ kQ => ?_) ?_
    · jvm_step X87.here [X87.here.top, hx, (hb hby d1_106), Value.category]
      exact kQ
    show Go p e below (T87.setTop (mkF m 107 #[.val (.int (1 : Int32)), .val (.ref a), .val (.ref t), .val (.ref b30), .val (.ref b53), .val (.ref b67), .val (.int (1 : Int32)), .val (.int s2)] [(.int s1), (.ref b67), (.int s1), (.ref b67), (.ref b53)])) _
    have f91 : Ia Z h87 b67 .int n84 := (f83.other W87 (Ne.symm ne72))
    refine Go.via (ldI X87 hx hZ e87 f91 (v := (List.getD n84 (s1).toNatClampNeg 0)) (by rcases r1 with rfl <;> decide) (own_get (by rcases r1 with rfl <;> decide) (by rw [ln84]; rcases r1 with rfl <;> decide)) (g := (mkF m 107 #[.val (.int (1 : Int32)), .val (.ref a), .val (.ref t), .val (.ref b30), .val (.ref b53), .val (.ref b67), .val (.int (1 : Int32)), .val (.int s2)] [(.int s1), (.ref b67), (.int s1), (.ref b67), (.ref b53)])) rfl rfl (hb hby d1_107)) ?_
    show Go p e below (T87.setTop (mkF m 108 #[.val (.int (1 : Int32)), .val (.ref a), .val (.ref t), .val (.ref b30), .val (.ref b53), .val (.ref b67), .val (.int (1 : Int32)), .val (.int s2)] [(.int (List.getD n84 (s1).toNatClampNeg 0)), (.int s1), (.ref b67), (.ref b53)])) _
    generalize hhw92 : (List.getD n84 (s1).toNatClampNeg 0) = w92
    show Go p e below (T87.setTop (mkF m 108 #[.val (.int (1 : Int32)), .val (.ref a), .val (.ref t), .val (.ref b30), .val (.ref b53), .val (.ref b67), .val (.int (1 : Int32)), .val (.int s2)] [(.int w92), (.int s1), (.ref b67), (.ref b53)])) _
    have bw92 := (own_b1_1 (t0 := t0) (t1 := t1) (t2 := t2) ho36 ho40 ho44 ho48 ho51 he63 hn79 hhw81 hn84 he89 hhw92 r0 r1 r2)
    refine Go.via (S' := T87.setTop (mkF m 109 #[.val (.int (1 : Int32)), .val (.ref a), .val (.ref t), .val (.ref b30), .val (.ref b53), .val (.ref b67), .val (.int (1 : Int32)), .val (.int s2)] [(.int w92), (.int s1), (.ref b67), (.int w92), (.ref b53)])) (fun tQ kQ => ?_) ?_
    · jvm_step X87.here [X87.here.top, hx, (hb hby d1_108), Value.category]
      exact kQ
    show Go p e below (T87.setTop (mkF m 109 #[.val (.int (1 : Int32)), .val (.ref a), .val (.ref t), .val (.ref b30), .val (.ref b53), .val (.ref b67), .val (.int (1 : Int32)), .val (.int s2)] [(.int w92), (.int s1), (.ref b67), (.int w92), (.ref b53)])) _
    refine Go.via (fun _ => XS.iconst X87.here hx rfl (hb hby d1_109)) ?_
    refine Go.via (fun _ => XS.iadd X87.here hx rfl (hb hby d1_110) rfl) ?_
    show Go p e below (T87.setTop (mkF m 111 #[.val (.int (1 : Int32)), .val (.ref a), .val (.ref t), .val (.ref b30), .val (.ref b53), .val (.ref b67), .val (.int (1 : Int32)), .val (.int s2)] [(.int (w92 + (1 : Int32))), (.int s1), (.ref b67), (.int w92), (.ref b53)])) _
    obtain ⟨T93, h93, X93, e93, W93, V93, st93⟩ := stI' X87 hx hZ e87 f91 (j := s1) (by rcases r1 with rfl <;> decide) (by rw [ln84]; rcases r1 with rfl <;> decide) (g := (mkF m 111 #[.val (.int (1 : Int32)), .val (.ref a), .val (.ref t), .val (.ref b30), .val (.ref b53), .val (.ref b67), .val (.int (1 : Int32)), .val (.int s2)] [(.int (w92 + (1 : Int32))), (.int s1), (.ref b67), (.int w92), (.ref b53)])) rfl rfl (hb hby d1_111)
    refine Go.via (st93) ?_
    clear st93
    have N93 := Fr.snoc X93 N87 ge75
    have f94 : Ia Z h93 b67 .int (List.set n84 (s1).toNatClampNeg (w92 + (1 : Int32))) := V93
    clear X87 e87
    show Go p e below (T93.setTop (mkF m 112 #[.val (.int (1 : Int32)), .val (.ref a), .val (.ref t), .val (.ref b30), .val (.ref b53), .val (.ref b67), .val (.int (1 : Int32)), .val (.int s2)] [(.int w92), (.ref b53)])) _
    obtain ⟨n95, hn95⟩ : ∃ z : List Int32, z = (List.set n84 (s1).toNatClampNeg (w92 + (1 : Int32))) := ⟨_, rfl⟩
    rw [← hn95] at f94
    have ln95 : n95.length = 1 := by rw [hn95, List.length_set]; exact ln84
    refine Go.via (fun _ => XS.aloadN X93.here hx rfl (hb hby d1_112) rfl rfl) ?_
    refine Go.via (fun _ => XS.iload X93.here hx rfl (hb hby d1_113) rfl) ?_
    have f96 : Ia Z h93 t .int [t0, t1, t2] := ((f85.other W87 ne59).other W93 ne74)
    refine Go.via (ldI X93 hx hZ e93 f96 (v := t1) (by decide) rfl (g := (mkF m 115 #[.val (.int (1 : Int32)), .val (.ref a), .val (.ref t), .val (.ref b30), .val (.ref b53), .val (.ref b67), .val (.int (1 : Int32)), .val (.int s2)] [(.int (1 : Int32)), (.ref t), (.int w92), (.ref b53)])) rfl rfl (hb hby d1_115)) ?_
    show Go p e below (T93.setTop (mkF m 116 #[.val (.int (1 : Int32)), .val (.ref a), .val (.ref t), .val (.ref b30), .val (.ref b53), .val (.ref b67), .val (.int (1 : Int32)), .val (.int s2)] [(.int t1), (.int w92), (.ref b53)])) _
    have f97 : Ia Z h93 b53 .int e89 := (f88.other W93 ne72)
    obtain ⟨T98, h98, X98, e98, W98, V98, st98⟩ := stI' X93 hx hZ e93 f97 (j := w92) bw92.1 (by rw [le89]; exact bw92.2) (g := (mkF m 116 #[.val (.int (1 : Int32)), .val (.ref a), .val (.ref t), .val (.ref b30), .val (.ref b53), .val (.ref b67), .val (.int (1 : Int32)), .val (.int s2)] [(.int t1), (.int w92), (.ref b53)])) rfl rfl (hb hby d1_116)
    refine Go.via (st98) ?_
    clear st98
    have N98 := Fr.snoc X98 N93 ge60
    have f99 : Ia Z h98 b53 .int (List.set e89 (w92).toNatClampNeg t1) := V98
    clear X93 e93
    show Go p e below (T98.setTop (mkF m 117 #[.val (.int (1 : Int32)), .val (.ref a), .val (.ref t), .val (.ref b30), .val (.ref b53), .val (.ref b67), .val (.int (1 : Int32)), .val (.int s2)] [])) _
    obtain ⟨e100, he100⟩ : ∃ z : List Int32, z = (List.set e89 (w92).toNatClampNeg t1) := ⟨_, rfl⟩
    rw [← he100] at f99
    have le100 : e100.length = 3 := by rw [he100, List.length_set]; exact le89
    refine Go.via (fun _ => XS.iinc X98.here hx rfl (hb hby d1_117) rfl (l' := #[.val (.int (1 : Int32)), .val (.ref a), .val (.ref t), .val (.ref b30), .val (.ref b53), .val (.ref b67), .val (.int (2 : Int32)), .val (.int s2)]) rfl) ?_
    show Go p e below (T98.setTop (mkF m 120 #[.val (.int (1 : Int32)), .val (.ref a), .val (.ref t), .val (.ref b30), .val (.ref b53), .val (.ref b67), .val (.int (2 : Int32)), .val (.int s2)] [])) _
    refine Go.via (fun _ => XS.goto X98.here hx rfl (pc0 := 120) (pc' := 91) rfl (hb hby d1_120) (by decide) (by decide)) ?_
    refine Go.via (fun _ => XS.iload X98.here hx rfl (hb hby d1_91) rfl) ?_
    refine Go.via (fun _ => XS.aloadN X98.here hx rfl (hb hby d1_93) rfl rfl) ?_
    have f101 : Ia Z h98 a .int [s0, s1, s2] := ((f90.other W93 ne70).other W98 ne56)
    refine Go.via (lenI X98 hx hZ e98 f101 (n := (3 : Int32)) rfl (g := (mkF m 94 #[.val (.int (1 : Int32)), .val (.ref a), .val (.ref t), .val (.ref b30), .val (.ref b53), .val (.ref b67), .val (.int (2 : Int32)), .val (.int s2)] [(.ref a), (.int (2 : Int32))])) rfl rfl (hb hby d1_94)) ?_
    show Go p e below (T98.setTop (mkF m 95 #[.val (.int (1 : Int32)), .val (.ref a), .val (.ref t), .val (.ref b30), .val (.ref b53), .val (.ref b67), .val (.int (2 : Int32)), .val (.int s2)] [(.int (3 : Int32)), (.int (2 : Int32))])) _
    refine Go.via (fun _ => XS.icmpNo X98.here hx rfl (hb hby d1_95) rfl (tlt ((by decide) : (2 : Int32) < (3 : Int32))).2.1) ?_
    show Go p e below (T98.setTop (mkF m 98 #[.val (.int (1 : Int32)), .val (.ref a), .val (.ref t), .val (.ref b30), .val (.ref b53), .val (.ref b67), .val (.int (2 : Int32)), .val (.int s2)] [])) _
    refine Go.via (fun _ => XS.aload X98.here hx rfl (hb hby d1_98) rfl rfl) ?_
    refine Go.via (fun _ => XS.aload X98.here hx rfl (hb hby d1_100) rfl rfl) ?_
    refine Go.via (fun _ => XS.aloadN X98.here hx rfl (hb hby d1_102) rfl rfl) ?_
    refine Go.via (fun _ => XS.iload X98.here hx rfl (hb hby d1_103) rfl) ?_
    show Go p e below (T98.setTop (mkF m 105 #[.val (.int (1 : Int32)), .val (.ref a), .val (.ref t), .val (.ref b30), .val (.ref b53), .val (.ref b67), .val (.int (2 : Int32)), .val (.int s2)] [(.int (2 : Int32)), (.ref a), (.ref b67), (.ref b53)])) _
    refine Go.via (ldI X98 hx hZ e98 f101 (v := s2) (by decide) rfl (g := (mkF m 105 #[.val (.int (1 : Int32)), .val (.ref a), .val (.ref t), .val (.ref b30), .val (.ref b53), .val (.ref b67), .val (.int (2 : Int32)), .val (.int s2)] [(.int (2 : Int32)), (.ref a), (.ref b67), (.ref b53)])) rfl rfl (hb hby d1_105)) ?_
    show Go p e below (T98.setTop (mkF m 106 #[.val (.int (1 : Int32)), .val (.ref a), .val (.ref t), .val (.ref b30), .val (.ref b53), .val (.ref b67), .val (.int (2 : Int32)), .val (.int s2)] [(.int s2), (.ref b67), (.ref b53)])) _
    refine Go.via (S' := T98.setTop (mkF m 107 #[.val (.int (1 : Int32)), .val (.ref a), .val (.ref t), .val (.ref b30), .val (.ref b53), .val (.ref b67), .val (.int (2 : Int32)), .val (.int s2)] [(.int s2), (.ref b67), (.int s2), (.ref b67), (.ref b53)])) (fun tQ kQ => ?_) ?_
    · jvm_step X98.here [X98.here.top, hx, (hb hby d1_106), Value.category]
      exact kQ
    show Go p e below (T98.setTop (mkF m 107 #[.val (.int (1 : Int32)), .val (.ref a), .val (.ref t), .val (.ref b30), .val (.ref b53), .val (.ref b67), .val (.int (2 : Int32)), .val (.int s2)] [(.int s2), (.ref b67), (.int s2), (.ref b67), (.ref b53)])) _
    have f102 : Ia Z h98 b67 .int n95 := (f94.other W98 (Ne.symm ne72))
    refine Go.via (ldI X98 hx hZ e98 f102 (v := (List.getD n95 (s2).toNatClampNeg 0)) (by rcases r2 with rfl <;> decide) (own_get (by rcases r2 with rfl <;> decide) (by rw [ln95]; rcases r2 with rfl <;> decide)) (g := (mkF m 107 #[.val (.int (1 : Int32)), .val (.ref a), .val (.ref t), .val (.ref b30), .val (.ref b53), .val (.ref b67), .val (.int (2 : Int32)), .val (.int s2)] [(.int s2), (.ref b67), (.int s2), (.ref b67), (.ref b53)])) rfl rfl (hb hby d1_107)) ?_
    show Go p e below (T98.setTop (mkF m 108 #[.val (.int (1 : Int32)), .val (.ref a), .val (.ref t), .val (.ref b30), .val (.ref b53), .val (.ref b67), .val (.int (2 : Int32)), .val (.int s2)] [(.int (List.getD n95 (s2).toNatClampNeg 0)), (.int s2), (.ref b67), (.ref b53)])) _
    generalize hhw103 : (List.getD n95 (s2).toNatClampNeg 0) = w103
    show Go p e below (T98.setTop (mkF m 108 #[.val (.int (1 : Int32)), .val (.ref a), .val (.ref t), .val (.ref b30), .val (.ref b53), .val (.ref b67), .val (.int (2 : Int32)), .val (.int s2)] [(.int w103), (.int s2), (.ref b67), (.ref b53)])) _
    have bw103 := (own_b1_2 (t0 := t0) (t1 := t1) (t2 := t2) ho36 ho40 ho44 ho48 ho51 he63 hn79 hhw81 hn84 he89 hhw92 hn95 he100 hhw103 r0 r1 r2)
    refine Go.via (S' := T98.setTop (mkF m 109 #[.val (.int (1 : Int32)), .val (.ref a), .val (.ref t), .val (.ref b30), .val (.ref b53), .val (.ref b67), .val (.int (2 : Int32)), .val (.int s2)] [(.int w103), (.int s2), (.ref b67), (.int w103), (.ref b53)])) (fun tQ kQ => ?_) ?_
    · jvm_step X98.here [X98.here.top, hx, (hb hby d1_108), Value.category]
      exact kQ
    show Go p e below (T98.setTop (mkF m 109 #[.val (.int (1 : Int32)), .val (.ref a), .val (.ref t), .val (.ref b30), .val (.ref b53), .val (.ref b67), .val (.int (2 : Int32)), .val (.int s2)] [(.int w103), (.int s2), (.ref b67), (.int w103), (.ref b53)])) _
    refine Go.via (fun _ => XS.iconst X98.here hx rfl (hb hby d1_109)) ?_
    refine Go.via (fun _ => XS.iadd X98.here hx rfl (hb hby d1_110) rfl) ?_
    show Go p e below (T98.setTop (mkF m 111 #[.val (.int (1 : Int32)), .val (.ref a), .val (.ref t), .val (.ref b30), .val (.ref b53), .val (.ref b67), .val (.int (2 : Int32)), .val (.int s2)] [(.int (w103 + (1 : Int32))), (.int s2), (.ref b67), (.int w103), (.ref b53)])) _
    obtain ⟨T104, h104, X104, e104, W104, V104, st104⟩ := stI' X98 hx hZ e98 f102 (j := s2) (by rcases r2 with rfl <;> decide) (by rw [ln95]; rcases r2 with rfl <;> decide) (g := (mkF m 111 #[.val (.int (1 : Int32)), .val (.ref a), .val (.ref t), .val (.ref b30), .val (.ref b53), .val (.ref b67), .val (.int (2 : Int32)), .val (.int s2)] [(.int (w103 + (1 : Int32))), (.int s2), (.ref b67), (.int w103), (.ref b53)])) rfl rfl (hb hby d1_111)
    refine Go.via (st104) ?_
    clear st104
    have N104 := Fr.snoc X104 N98 ge75
    have f105 : Ia Z h104 b67 .int (List.set n95 (s2).toNatClampNeg (w103 + (1 : Int32))) := V104
    clear X98 e98
    show Go p e below (T104.setTop (mkF m 112 #[.val (.int (1 : Int32)), .val (.ref a), .val (.ref t), .val (.ref b30), .val (.ref b53), .val (.ref b67), .val (.int (2 : Int32)), .val (.int s2)] [(.int w103), (.ref b53)])) _
    obtain ⟨n106, hn106⟩ : ∃ z : List Int32, z = (List.set n95 (s2).toNatClampNeg (w103 + (1 : Int32))) := ⟨_, rfl⟩
    rw [← hn106] at f105
    have ln106 : n106.length = 1 := by rw [hn106, List.length_set]; exact ln95
    refine Go.via (fun _ => XS.aloadN X104.here hx rfl (hb hby d1_112) rfl rfl) ?_
    refine Go.via (fun _ => XS.iload X104.here hx rfl (hb hby d1_113) rfl) ?_
    have f107 : Ia Z h104 t .int [t0, t1, t2] := ((f96.other W98 ne59).other W104 ne74)
    refine Go.via (ldI X104 hx hZ e104 f107 (v := t2) (by decide) rfl (g := (mkF m 115 #[.val (.int (1 : Int32)), .val (.ref a), .val (.ref t), .val (.ref b30), .val (.ref b53), .val (.ref b67), .val (.int (2 : Int32)), .val (.int s2)] [(.int (2 : Int32)), (.ref t), (.int w103), (.ref b53)])) rfl rfl (hb hby d1_115)) ?_
    show Go p e below (T104.setTop (mkF m 116 #[.val (.int (1 : Int32)), .val (.ref a), .val (.ref t), .val (.ref b30), .val (.ref b53), .val (.ref b67), .val (.int (2 : Int32)), .val (.int s2)] [(.int t2), (.int w103), (.ref b53)])) _
    have f108 : Ia Z h104 b53 .int e100 := (f99.other W104 ne72)
    obtain ⟨T109, h109, X109, e109, W109, V109, st109⟩ := stI' X104 hx hZ e104 f108 (j := w103) bw103.1 (by rw [le100]; exact bw103.2) (g := (mkF m 116 #[.val (.int (1 : Int32)), .val (.ref a), .val (.ref t), .val (.ref b30), .val (.ref b53), .val (.ref b67), .val (.int (2 : Int32)), .val (.int s2)] [(.int t2), (.int w103), (.ref b53)])) rfl rfl (hb hby d1_116)
    refine Go.via (st109) ?_
    clear st109
    have N109 := Fr.snoc X109 N104 ge60
    have f110 : Ia Z h109 b53 .int (List.set e100 (w103).toNatClampNeg t2) := V109
    clear X104 e104
    show Go p e below (T109.setTop (mkF m 117 #[.val (.int (1 : Int32)), .val (.ref a), .val (.ref t), .val (.ref b30), .val (.ref b53), .val (.ref b67), .val (.int (2 : Int32)), .val (.int s2)] [])) _
    obtain ⟨e111, he111⟩ : ∃ z : List Int32, z = (List.set e100 (w103).toNatClampNeg t2) := ⟨_, rfl⟩
    rw [← he111] at f110
    have le111 : e111.length = 3 := by rw [he111, List.length_set]; exact le100
    refine Go.via (fun _ => XS.iinc X109.here hx rfl (hb hby d1_117) rfl (l' := #[.val (.int (1 : Int32)), .val (.ref a), .val (.ref t), .val (.ref b30), .val (.ref b53), .val (.ref b67), .val (.int (3 : Int32)), .val (.int s2)]) rfl) ?_
    show Go p e below (T109.setTop (mkF m 120 #[.val (.int (1 : Int32)), .val (.ref a), .val (.ref t), .val (.ref b30), .val (.ref b53), .val (.ref b67), .val (.int (3 : Int32)), .val (.int s2)] [])) _
    refine Go.via (fun _ => XS.goto X109.here hx rfl (pc0 := 120) (pc' := 91) rfl (hb hby d1_120) (by decide) (by decide)) ?_
    refine Go.via (fun _ => XS.iload X109.here hx rfl (hb hby d1_91) rfl) ?_
    refine Go.via (fun _ => XS.aloadN X109.here hx rfl (hb hby d1_93) rfl rfl) ?_
    have f112 : Ia Z h109 a .int [s0, s1, s2] := ((f101.other W104 ne70).other W109 ne56)
    refine Go.via (lenI X109 hx hZ e109 f112 (n := (3 : Int32)) rfl (g := (mkF m 94 #[.val (.int (1 : Int32)), .val (.ref a), .val (.ref t), .val (.ref b30), .val (.ref b53), .val (.ref b67), .val (.int (3 : Int32)), .val (.int s2)] [(.ref a), (.int (3 : Int32))])) rfl rfl (hb hby d1_94)) ?_
    show Go p e below (T109.setTop (mkF m 95 #[.val (.int (1 : Int32)), .val (.ref a), .val (.ref t), .val (.ref b30), .val (.ref b53), .val (.ref b67), .val (.int (3 : Int32)), .val (.int s2)] [(.int (3 : Int32)), (.int (3 : Int32))])) _
    refine Go.via (fun _ => XS.icmpYes X109.here hx rfl (pc0 := 95) (pc' := 123) rfl (hb hby d1_95) rfl (flt ((by decide) : ¬ ((3 : Int32) < (3 : Int32)))).2.1 (by decide) (by decide)) ?_
    show Go p e below (T109.setTop (mkF m 123 #[.val (.int (1 : Int32)), .val (.ref a), .val (.ref t), .val (.ref b30), .val (.ref b53), .val (.ref b67), .val (.int (3 : Int32)), .val (.int s2)] [])) _
    have k114 : Keep h0 h109 [] := (((((((k77.trans K65q all0).wr W82 (Or.inr sz76)).wr W87 (Or.inr sz61)).wr W93 (Or.inr sz76)).wr W98 (Or.inr sz61)).wr W104 (Or.inr sz76)).wr W109 (Or.inr sz61))
    have z115 : n0 ≤ h109.size := (Nat.le_trans (Nat.le_trans (Nat.le_trans (Nat.le_trans (Nat.le_trans (Nat.le_trans (Nat.le_trans z66 K65q.1) (Keep.of_wr W82).1) (Keep.of_wr W87).1) (Keep.of_wr W93).1) (Keep.of_wr W98).1) (Keep.of_wr W104).1) (Keep.of_wr W109).1)
    obtain ⟨T113, h113, X113, e113, E113, A113, D113, -, st113⟩ := newO X109 hx hZ hown (tw hw 17 rfl) (tw hw 18 rfl) (tw hw 3 rfl) e109 (g := (mkF m 123 #[.val (.int (1 : Int32)), .val (.ref a), .val (.ref t), .val (.ref b30), .val (.ref b53), .val (.ref b67), .val (.int (3 : Int32)), .val (.int s2)] [])) rfl (hb hby d1_123) (by decide) (by decide)
    obtain ⟨b113, g113⟩ : ∃ z, z = h109.size := ⟨_, rfl⟩
    rw [← g113] at A113 D113 st113
    have ne116 : a ≠ b113 := Nat.ne_of_lt (Nat.lt_of_lt_of_le f112.lt (Nat.le_of_eq g113.symm))
    have f118 : Ia Z h109 b30 .int o51 := (((((((f64.keep K65q nin0).other W82 ne71).other W87 ne58).other W93 ne71).other W98 ne58).other W104 ne71).other W109 ne58)
    have ne117 : b30 ≠ b113 := Nat.ne_of_lt (Nat.lt_of_lt_of_le f118.lt (Nat.le_of_eq g113.symm))
    have ne119 : b53 ≠ b113 := Nat.ne_of_lt (Nat.lt_of_lt_of_le f110.lt (Nat.le_of_eq g113.symm))
    have f121 : Ia Z h109 b67 .int n106 := (f105.other W109 (Ne.symm ne72))
    have ne120 : b67 ≠ b113 := Nat.ne_of_lt (Nat.lt_of_lt_of_le f121.lt (Nat.le_of_eq g113.symm))
    have f123 : Ia Z h109 t .int [t0, t1, t2] := (f107.other W109 ne59)
    have ne122 : t ≠ b113 := Nat.ne_of_lt (Nat.lt_of_lt_of_le f123.lt (Nat.le_of_eq g113.symm))
    have ge124 : n0 ≤ b113 := Nat.le_trans z115 (Nat.le_of_eq g113.symm)
    have sz125 : h0.size ≤ b113 := Nat.le_trans k114.1 (Nat.le_of_eq g113.symm)
    refine Go.via (st113) ?_
    clear st113
    have f126 : Fld Z h113 b113 "com/example/acquaint/acquaint/query/Adjacency" "offsets" "[I" .null := D113 (Or.inr (tw hw 26 rfl)) (ty := (.array .int)) (by decide)
    have f127 : Fld Z h113 b113 "com/example/acquaint/acquaint/query/Adjacency" "targets" "[I" .null := D113 (Or.inr (tw hw 28 rfl)) (ty := (.array .int)) (by decide)
    clear X109 e109
    show Go p e below (T113.setTop (mkF m 126 #[.val (.int (1 : Int32)), .val (.ref a), .val (.ref t), .val (.ref b30), .val (.ref b53), .val (.ref b67), .val (.int (3 : Int32)), .val (.int s2)] [(.ref b113)])) _
    refine Go.via (fun _ => XS.dup X113.here hx rfl (hb hby d1_126) rfl rfl) ?_
    refine Go.via (fun _ => XS.aloadN X113.here hx rfl (hb hby d1_127) rfl rfl) ?_
    refine Go.via (fun _ => XS.aload X113.here hx rfl (hb hby d1_128) rfl rfl) ?_
    have z129 : n0 ≤ h113.size := (Nat.le_trans z115 E113.1)
    obtain ⟨_, _, ⟨T128, L128, k128, n128⟩, -, X128, ⟨Lc128, hQ128, l128, y128, z128⟩, st128⟩ := X113.specialBack hx (y := (⟨"com/example/acquaint/acquaint/query/Adjacency", "<init>", "([I[I)V"⟩ : MethodName)) rfl hown (mvT hZ (tw hw 19 rfl)) (mvT hZ (tw hw 20 rfl)) (mvT hZ (tw hw 21 rfl)) (by decide) (backOf (W := 1) (rmI l Z a0 hw [] b113 b30 b53  h113 n0 z129 A113 f126 f127 ge124) hZ (tw hw 21 rfl) (tw hw 3 rfl) (by decide) (by decide)) (g := (mkF m 130 #[.val (.int (1 : Int32)), .val (.ref a), .val (.ref t), .val (.ref b30), .val (.ref b53), .val (.ref b67), .val (.int (3 : Int32)), .val (.int s2)] [(.ref b53), (.ref b30), (.ref b113), (.ref b113)])) rfl (by rw [hml]; rfl) (Steps.refl _) (a := b113) (argsL := [(.ref b30), (.ref b53)]) (rest := [(.ref b113)]) (lenOf pd__28_5bI_5bI_29V rfl) rfl (by show 2 * 0 + _ ≤ _; exact Nat.le_of_eq rfl) (hb hby d1_130) (fun _ _ => ⟨rfl, e113, (by decide : 4 + 0 ≤ _), (by decide : 11 + 0 ≤ _)⟩)
    dsimp only [Pt.U, Pt.locs, Pt.cells, Pt.slots] at X128 l128 y128 z128 st128 hQ128
    subst l128 y128 z128
    obtain ⟨rfl, N128q, K128q, f130, f131, f132⟩ := hQ128
    have N128 := Fr.app N109 N128q
    refine Go.via (fun _ kQ => st128.trans kQ) ?_
    clear st128
    have e128 : T128.heap = T128.heap := rfl
    have f133 : Exa Z T128.heap b113 "com/example/acquaint/acquaint/query/Adjacency" := f130
    have f134 : Fld Z T128.heap b113 "com/example/acquaint/acquaint/query/Adjacency" "offsets" "[I" (.ref b30) := f131
    have f135 : Fld Z T128.heap b113 "com/example/acquaint/acquaint/query/Adjacency" "targets" "[I" (.ref b53) := f132
    clear X113 e113
    show Go p e below (T128.setTop (mkF m 133 #[.val (.int (1 : Int32)), .val (.ref a), .val (.ref t), .val (.ref b30), .val (.ref b53), .val (.ref b67), .val (.int (3 : Int32)), .val (.int s2)] [(.ref b113)])) _
    have k136 : Keep h0 T128.heap [] := ((k114.ext E113).trans K128q (allS (Or.inr sz125) all0))
    have f137 : Ia Z T128.heap b30 .int o51 := ((f118.ext E113).keep K128q (ninS ne117 nin0))
    have f138 : Ia Z T128.heap b53 .int e111 := ((f110.ext E113).keep K128q (ninS ne119 nin0))
    exact Go.fin X128 hlk (v := some (.ref b113)) (fun h => by rw [Bd.returns] at h; cases h) (fun fs hr => retOut X128 hx Bd.returns rfl (Or.inr (Or.inr (Or.inr (Or.inr ⟨rfl, rfl, rfl⟩)))) (hb hby d1_133) hr) (by exact ⟨b30, b53, b113, o51, e111, rfl, N128, k136, sz34, sz61, sz125, f133, f134, f135, f137, f138, (own_r1 (t0 := t0) (t1 := t1) (t2 := t2) ho36 ho40 ho44 ho48 ho51 he63 hn79 hhw81 hn84 he89 hhw92 hn95 he100 hhw103 hn106 he111 r0 r1 r2)⟩) (by decide) (by decide)
  · have r0 := hs0.2.1 rfl
    have r1 := hs1.2.1 rfl
    have r2 := hs2.2.1 rfl
    show Go p e below (s₁.setTop (mkF m 0 #[.val (.int (2 : Int32)), .val (.ref a), .val (.ref t), .unset, .unset, .unset, .unset, .unset] [])) _
    refine Go.via (fun _ => XS.iloadN X0.here hx rfl (hb hby d1_0) rfl) ?_
    refine Go.via (fun _ => XS.iconst X0.here hx rfl (hb hby d1_1)) ?_
    refine Go.via (fun _ => XS.iadd X0.here hx rfl (hb hby d1_2) rfl) ?_
    show Go p e below (s₁.setTop (mkF m 3 #[.val (.int (2 : Int32)), .val (.ref a), .val (.ref t), .unset, .unset, .unset, .unset, .unset] [(.int (3 : Int32))])) _
    obtain ⟨T139, h139, k139, X139, e139, E139, A139, B139, st139⟩ := newPE X0 hx hZ (tw hw 0 rfl) e0 (g := (mkF m 3 #[.val (.int (2 : Int32)), .val (.ref a), .val (.ref t), .unset, .unset, .unset, .unset, .unset] [(.int (3 : Int32))])) rfl (hb hby d1_3) rfl (by decide) (cap := 3) (by decide) (by decide) (by decide) (by decide) (ad := "[I") (by decide)
    obtain ⟨b139, g139⟩ : ∃ z, z = h0.size := ⟨_, rfl⟩
    rw [← g139] at A139 B139 st139
    have ne140 : a ≠ b139 := Nat.ne_of_lt (Nat.lt_of_lt_of_le P0.lt (Nat.le_of_eq g139.symm))
    have ne141 : t ≠ b139 := Nat.ne_of_lt (Nat.lt_of_lt_of_le P1.lt (Nat.le_of_eq g139.symm))
    have ge142 : n0 ≤ b139 := Nat.le_trans Z0 (Nat.le_of_eq g139.symm)
    have sz143 : h0.size ≤ b139 := Nat.le_trans (Keep.refl h0 []).1 (Nat.le_of_eq g139.symm)
    refine Go.via (st139) ?_
    clear st139
    have f144 : Ia Z h139 b139 .int [(0 : Int32), (0 : Int32), (0 : Int32)] := Ia.new A139 rfl
    clear X0 e0
    show Go p e below (T139.setTop (mkF m 5 #[.val (.int (2 : Int32)), .val (.ref a), .val (.ref t), .unset, .unset, .unset, .unset, .unset] [(.ref b139)])) _
    obtain ⟨o145, ho145⟩ : ∃ z : List Int32, z = [(0 : Int32), (0 : Int32), (0 : Int32)] := ⟨_, rfl⟩
    rw [← ho145] at f144
    have lo145 : o145.length = 3 := by rw [ho145]; rfl
    refine Go.via (fun _ => XS.astoreN X139.here hx rfl (hb hby d1_5) rfl rfl (l' := #[.val (.int (2 : Int32)), .val (.ref a), .val (.ref t), .val (.ref b139), .unset, .unset, .unset, .unset]) rfl) ?_
    show Go p e below (T139.setTop (mkF m 6 #[.val (.int (2 : Int32)), .val (.ref a), .val (.ref t), .val (.ref b139), .unset, .unset, .unset, .unset] [])) _
    refine Go.via (fun _ => XS.aloadN X139.here hx rfl (hb hby d1_6) rfl rfl) ?_
    refine Go.via (fun _ => XS.astore X139.here hx rfl (hb hby d1_7) rfl rfl (l' := #[.val (.int (2 : Int32)), .val (.ref a), .val (.ref t), .val (.ref b139), .val (.ref a), .unset, .unset, .unset]) rfl) ?_
    show Go p e below (T139.setTop (mkF m 9 #[.val (.int (2 : Int32)), .val (.ref a), .val (.ref t), .val (.ref b139), .val (.ref a), .unset, .unset, .unset] [])) _
    refine Go.via (fun _ => XS.aload X139.here hx rfl (hb hby d1_9) rfl rfl) ?_
    have f146 : Ia Z h139 a .int [s0, s1, s2] := (P0.ext E139)
    refine Go.via (lenI X139 hx hZ e139 f146 (n := (3 : Int32)) rfl (g := (mkF m 11 #[.val (.int (2 : Int32)), .val (.ref a), .val (.ref t), .val (.ref b139), .val (.ref a), .unset, .unset, .unset] [(.ref a)])) rfl rfl (hb hby d1_11)) ?_
    show Go p e below (T139.setTop (mkF m 12 #[.val (.int (2 : Int32)), .val (.ref a), .val (.ref t), .val (.ref b139), .val (.ref a), .unset, .unset, .unset] [(.int (3 : Int32))])) _
    refine Go.via (fun _ => XS.istore X139.here hx rfl (hb hby d1_12) rfl (l' := #[.val (.int (2 : Int32)), .val (.ref a), .val (.ref t), .val (.ref b139), .val (.ref a), .val (.int (3 : Int32)), .unset, .unset]) rfl) ?_
    show Go p e below (T139.setTop (mkF m 14 #[.val (.int (2 : Int32)), .val (.ref a), .val (.ref t), .val (.ref b139), .val (.ref a), .val (.int (3 : Int32)), .unset, .unset] [])) _
    refine Go.via (fun _ => XS.iconst X139.here hx rfl (hb hby d1_14)) ?_
    refine Go.via (fun _ => XS.istore X139.here hx rfl (hb hby d1_15) rfl (l' := #[.val (.int (2 : Int32)), .val (.ref a), .val (.ref t), .val (.ref b139), .val (.ref a), .val (.int (3 : Int32)), .val (.int (0 : Int32)), .unset]) rfl) ?_
    show Go p e below (T139.setTop (mkF m 17 #[.val (.int (2 : Int32)), .val (.ref a), .val (.ref t), .val (.ref b139), .val (.ref a), .val (.int (3 : Int32)), .val (.int (0 : Int32)), .unset] [])) _
    refine Go.via (fun _ => XS.iload X139.here hx rfl (hb hby d1_17) rfl) ?_
    refine Go.via (fun _ => XS.iload X139.here hx rfl (hb hby d1_19) rfl) ?_
    refine Go.via (fun _ => XS.icmpNo X139.here hx rfl (hb hby d1_21) rfl (tlt ((by decide) : (0 : Int32) < (3 : Int32))).2.1) ?_
    show Go p e below (T139.setTop (mkF m 24 #[.val (.int (2 : Int32)), .val (.ref a), .val (.ref t), .val (.ref b139), .val (.ref a), .val (.int (3 : Int32)), .val (.int (0 : Int32)), .unset] [])) _
    refine Go.via (fun _ => XS.aload X139.here hx rfl (hb hby d1_24) rfl rfl) ?_
    refine Go.via (fun _ => XS.iload X139.here hx rfl (hb hby d1_26) rfl) ?_
    refine Go.via (ldI X139 hx hZ e139 f146 (v := s0) (by decide) rfl (g := (mkF m 28 #[.val (.int (2 : Int32)), .val (.ref a), .val (.ref t), .val (.ref b139), .val (.ref a), .val (.int (3 : Int32)), .val (.int (0 : Int32)), .unset] [(.int (0 : Int32)), (.ref a)])) rfl rfl (hb hby d1_28)) ?_
    show Go p e below (T139.setTop (mkF m 29 #[.val (.int (2 : Int32)), .val (.ref a), .val (.ref t), .val (.ref b139), .val (.ref a), .val (.int (3 : Int32)), .val (.int (0 : Int32)), .unset] [(.int s0)])) _
    refine Go.via (fun _ => XS.istore X139.here hx rfl (hb hby d1_29) rfl (l' := #[.val (.int (2 : Int32)), .val (.ref a), .val (.ref t), .val (.ref b139), .val (.ref a), .val (.int (3 : Int32)), .val (.int (0 : Int32)), .val (.int s0)]) rfl) ?_
    show Go p e below (T139.setTop (mkF m 31 #[.val (.int (2 : Int32)), .val (.ref a), .val (.ref t), .val (.ref b139), .val (.ref a), .val (.int (3 : Int32)), .val (.int (0 : Int32)), .val (.int s0)] [])) _
    refine Go.via (fun _ => XS.aloadN X139.here hx rfl (hb hby d1_31) rfl rfl) ?_
    refine Go.via (fun _ => XS.iload X139.here hx rfl (hb hby d1_32) rfl) ?_
    refine Go.via (fun _ => XS.iconst X139.here hx rfl (hb hby d1_34)) ?_
    refine Go.via (fun _ => XS.iadd X139.here hx rfl (hb hby d1_35) rfl) ?_
    show Go p e below (T139.setTop (mkF m 36 #[.val (.int (2 : Int32)), .val (.ref a), .val (.ref t), .val (.ref b139), .val (.ref a), .val (.int (3 : Int32)), .val (.int (0 : Int32)), .val (.int s0)] [(.int (s0 + (1 : Int32))), (.ref b139)])) _
    refine Go.via (S' := T139.setTop (mkF m 37 #[.val (.int (2 : Int32)), .val (.ref a), .val (.ref t), .val (.ref b139), .val (.ref a), .val (.int (3 : Int32)), .val (.int (0 : Int32)), .val (.int s0)] [(.int (s0 + (1 : Int32))), (.ref b139), (.int (s0 + (1 : Int32))), (.ref b139)])) (fun tQ kQ => ?_) ?_
    · jvm_step X139.here [X139.here.top, hx, (hb hby d1_36), Value.category]
      exact kQ
    show Go p e below (T139.setTop (mkF m 37 #[.val (.int (2 : Int32)), .val (.ref a), .val (.ref t), .val (.ref b139), .val (.ref a), .val (.int (3 : Int32)), .val (.int (0 : Int32)), .val (.int s0)] [(.int (s0 + (1 : Int32))), (.ref b139), (.int (s0 + (1 : Int32))), (.ref b139)])) _
    refine Go.via (ldI X139 hx hZ e139 f144 (v := (List.getD o145 ((s0 + (1 : Int32))).toNatClampNeg 0)) (by rcases r0 with rfl | rfl <;> decide) (own_get (by rcases r0 with rfl | rfl <;> decide) (by rw [lo145]; rcases r0 with rfl | rfl <;> decide)) (g := (mkF m 37 #[.val (.int (2 : Int32)), .val (.ref a), .val (.ref t), .val (.ref b139), .val (.ref a), .val (.int (3 : Int32)), .val (.int (0 : Int32)), .val (.int s0)] [(.int (s0 + (1 : Int32))), (.ref b139), (.int (s0 + (1 : Int32))), (.ref b139)])) rfl rfl (hb hby d1_37)) ?_
    show Go p e below (T139.setTop (mkF m 38 #[.val (.int (2 : Int32)), .val (.ref a), .val (.ref t), .val (.ref b139), .val (.ref a), .val (.int (3 : Int32)), .val (.int (0 : Int32)), .val (.int s0)] [(.int (List.getD o145 ((s0 + (1 : Int32))).toNatClampNeg 0)), (.int (s0 + (1 : Int32))), (.ref b139)])) _
    refine Go.via (fun _ => XS.iconst X139.here hx rfl (hb hby d1_38)) ?_
    refine Go.via (fun _ => XS.iadd X139.here hx rfl (hb hby d1_39) rfl) ?_
    show Go p e below (T139.setTop (mkF m 40 #[.val (.int (2 : Int32)), .val (.ref a), .val (.ref t), .val (.ref b139), .val (.ref a), .val (.int (3 : Int32)), .val (.int (0 : Int32)), .val (.int s0)] [(.int ((List.getD o145 ((s0 + (1 : Int32))).toNatClampNeg 0) + (1 : Int32))), (.int (s0 + (1 : Int32))), (.ref b139)])) _
    obtain ⟨T147, h147, X147, e147, W147, V147, st147⟩ := stI' X139 hx hZ e139 f144 (j := (s0 + (1 : Int32))) (by rcases r0 with rfl | rfl <;> decide) (by rw [lo145]; rcases r0 with rfl | rfl <;> decide) (g := (mkF m 40 #[.val (.int (2 : Int32)), .val (.ref a), .val (.ref t), .val (.ref b139), .val (.ref a), .val (.int (3 : Int32)), .val (.int (0 : Int32)), .val (.int s0)] [(.int ((List.getD o145 ((s0 + (1 : Int32))).toNatClampNeg 0) + (1 : Int32))), (.int (s0 + (1 : Int32))), (.ref b139)])) rfl rfl (hb hby d1_40)
    refine Go.via (st147) ?_
    clear st147
    have N147 := Fr.snoc X147 N0 ge142
    have f148 : Ia Z h147 b139 .int (List.set o145 ((s0 + (1 : Int32))).toNatClampNeg ((List.getD o145 ((s0 + (1 : Int32))).toNatClampNeg 0) + (1 : Int32))) := V147
    clear X139 e139
    show Go p e below (T147.setTop (mkF m 41 #[.val (.int (2 : Int32)), .val (.ref a), .val (.ref t), .val (.ref b139), .val (.ref a), .val (.int (3 : Int32)), .val (.int (0 : Int32)), .val (.int s0)] [])) _
    obtain ⟨o149, ho149⟩ : ∃ z : List Int32, z = (List.set o145 ((s0 + (1 : Int32))).toNatClampNeg ((List.getD o145 ((s0 + (1 : Int32))).toNatClampNeg 0) + (1 : Int32))) := ⟨_, rfl⟩
    rw [← ho149] at f148
    have lo149 : o149.length = 3 := by rw [ho149, List.length_set]; exact lo145
    refine Go.via (fun _ => XS.iinc X147.here hx rfl (hb hby d1_41) rfl (l' := #[.val (.int (2 : Int32)), .val (.ref a), .val (.ref t), .val (.ref b139), .val (.ref a), .val (.int (3 : Int32)), .val (.int (1 : Int32)), .val (.int s0)]) rfl) ?_
    show Go p e below (T147.setTop (mkF m 44 #[.val (.int (2 : Int32)), .val (.ref a), .val (.ref t), .val (.ref b139), .val (.ref a), .val (.int (3 : Int32)), .val (.int (1 : Int32)), .val (.int s0)] [])) _
    refine Go.via (fun _ => XS.goto X147.here hx rfl (pc0 := 44) (pc' := 17) rfl (hb hby d1_44) (by decide) (by decide)) ?_
    refine Go.via (fun _ => XS.iload X147.here hx rfl (hb hby d1_17) rfl) ?_
    refine Go.via (fun _ => XS.iload X147.here hx rfl (hb hby d1_19) rfl) ?_
    refine Go.via (fun _ => XS.icmpNo X147.here hx rfl (hb hby d1_21) rfl (tlt ((by decide) : (1 : Int32) < (3 : Int32))).2.1) ?_
    show Go p e below (T147.setTop (mkF m 24 #[.val (.int (2 : Int32)), .val (.ref a), .val (.ref t), .val (.ref b139), .val (.ref a), .val (.int (3 : Int32)), .val (.int (1 : Int32)), .val (.int s0)] [])) _
    refine Go.via (fun _ => XS.aload X147.here hx rfl (hb hby d1_24) rfl rfl) ?_
    refine Go.via (fun _ => XS.iload X147.here hx rfl (hb hby d1_26) rfl) ?_
    have f150 : Ia Z h147 a .int [s0, s1, s2] := (f146.other W147 ne140)
    refine Go.via (ldI X147 hx hZ e147 f150 (v := s1) (by decide) rfl (g := (mkF m 28 #[.val (.int (2 : Int32)), .val (.ref a), .val (.ref t), .val (.ref b139), .val (.ref a), .val (.int (3 : Int32)), .val (.int (1 : Int32)), .val (.int s0)] [(.int (1 : Int32)), (.ref a)])) rfl rfl (hb hby d1_28)) ?_
    show Go p e below (T147.setTop (mkF m 29 #[.val (.int (2 : Int32)), .val (.ref a), .val (.ref t), .val (.ref b139), .val (.ref a), .val (.int (3 : Int32)), .val (.int (1 : Int32)), .val (.int s0)] [(.int s1)])) _
    refine Go.via (fun _ => XS.istore X147.here hx rfl (hb hby d1_29) rfl (l' := #[.val (.int (2 : Int32)), .val (.ref a), .val (.ref t), .val (.ref b139), .val (.ref a), .val (.int (3 : Int32)), .val (.int (1 : Int32)), .val (.int s1)]) rfl) ?_
    show Go p e below (T147.setTop (mkF m 31 #[.val (.int (2 : Int32)), .val (.ref a), .val (.ref t), .val (.ref b139), .val (.ref a), .val (.int (3 : Int32)), .val (.int (1 : Int32)), .val (.int s1)] [])) _
    refine Go.via (fun _ => XS.aloadN X147.here hx rfl (hb hby d1_31) rfl rfl) ?_
    refine Go.via (fun _ => XS.iload X147.here hx rfl (hb hby d1_32) rfl) ?_
    refine Go.via (fun _ => XS.iconst X147.here hx rfl (hb hby d1_34)) ?_
    refine Go.via (fun _ => XS.iadd X147.here hx rfl (hb hby d1_35) rfl) ?_
    show Go p e below (T147.setTop (mkF m 36 #[.val (.int (2 : Int32)), .val (.ref a), .val (.ref t), .val (.ref b139), .val (.ref a), .val (.int (3 : Int32)), .val (.int (1 : Int32)), .val (.int s1)] [(.int (s1 + (1 : Int32))), (.ref b139)])) _
    refine Go.via (S' := T147.setTop (mkF m 37 #[.val (.int (2 : Int32)), .val (.ref a), .val (.ref t), .val (.ref b139), .val (.ref a), .val (.int (3 : Int32)), .val (.int (1 : Int32)), .val (.int s1)] [(.int (s1 + (1 : Int32))), (.ref b139), (.int (s1 + (1 : Int32))), (.ref b139)])) (fun tQ kQ => ?_) ?_
    · jvm_step X147.here [X147.here.top, hx, (hb hby d1_36), Value.category]
      exact kQ
    show Go p e below (T147.setTop (mkF m 37 #[.val (.int (2 : Int32)), .val (.ref a), .val (.ref t), .val (.ref b139), .val (.ref a), .val (.int (3 : Int32)), .val (.int (1 : Int32)), .val (.int s1)] [(.int (s1 + (1 : Int32))), (.ref b139), (.int (s1 + (1 : Int32))), (.ref b139)])) _
    refine Go.via (ldI X147 hx hZ e147 f148 (v := (List.getD o149 ((s1 + (1 : Int32))).toNatClampNeg 0)) (by rcases r1 with rfl | rfl <;> decide) (own_get (by rcases r1 with rfl | rfl <;> decide) (by rw [lo149]; rcases r1 with rfl | rfl <;> decide)) (g := (mkF m 37 #[.val (.int (2 : Int32)), .val (.ref a), .val (.ref t), .val (.ref b139), .val (.ref a), .val (.int (3 : Int32)), .val (.int (1 : Int32)), .val (.int s1)] [(.int (s1 + (1 : Int32))), (.ref b139), (.int (s1 + (1 : Int32))), (.ref b139)])) rfl rfl (hb hby d1_37)) ?_
    show Go p e below (T147.setTop (mkF m 38 #[.val (.int (2 : Int32)), .val (.ref a), .val (.ref t), .val (.ref b139), .val (.ref a), .val (.int (3 : Int32)), .val (.int (1 : Int32)), .val (.int s1)] [(.int (List.getD o149 ((s1 + (1 : Int32))).toNatClampNeg 0)), (.int (s1 + (1 : Int32))), (.ref b139)])) _
    refine Go.via (fun _ => XS.iconst X147.here hx rfl (hb hby d1_38)) ?_
    refine Go.via (fun _ => XS.iadd X147.here hx rfl (hb hby d1_39) rfl) ?_
    show Go p e below (T147.setTop (mkF m 40 #[.val (.int (2 : Int32)), .val (.ref a), .val (.ref t), .val (.ref b139), .val (.ref a), .val (.int (3 : Int32)), .val (.int (1 : Int32)), .val (.int s1)] [(.int ((List.getD o149 ((s1 + (1 : Int32))).toNatClampNeg 0) + (1 : Int32))), (.int (s1 + (1 : Int32))), (.ref b139)])) _
    obtain ⟨T151, h151, X151, e151, W151, V151, st151⟩ := stI' X147 hx hZ e147 f148 (j := (s1 + (1 : Int32))) (by rcases r1 with rfl | rfl <;> decide) (by rw [lo149]; rcases r1 with rfl | rfl <;> decide) (g := (mkF m 40 #[.val (.int (2 : Int32)), .val (.ref a), .val (.ref t), .val (.ref b139), .val (.ref a), .val (.int (3 : Int32)), .val (.int (1 : Int32)), .val (.int s1)] [(.int ((List.getD o149 ((s1 + (1 : Int32))).toNatClampNeg 0) + (1 : Int32))), (.int (s1 + (1 : Int32))), (.ref b139)])) rfl rfl (hb hby d1_40)
    refine Go.via (st151) ?_
    clear st151
    have N151 := Fr.snoc X151 N147 ge142
    have f152 : Ia Z h151 b139 .int (List.set o149 ((s1 + (1 : Int32))).toNatClampNeg ((List.getD o149 ((s1 + (1 : Int32))).toNatClampNeg 0) + (1 : Int32))) := V151
    clear X147 e147
    show Go p e below (T151.setTop (mkF m 41 #[.val (.int (2 : Int32)), .val (.ref a), .val (.ref t), .val (.ref b139), .val (.ref a), .val (.int (3 : Int32)), .val (.int (1 : Int32)), .val (.int s1)] [])) _
    obtain ⟨o153, ho153⟩ : ∃ z : List Int32, z = (List.set o149 ((s1 + (1 : Int32))).toNatClampNeg ((List.getD o149 ((s1 + (1 : Int32))).toNatClampNeg 0) + (1 : Int32))) := ⟨_, rfl⟩
    rw [← ho153] at f152
    have lo153 : o153.length = 3 := by rw [ho153, List.length_set]; exact lo149
    refine Go.via (fun _ => XS.iinc X151.here hx rfl (hb hby d1_41) rfl (l' := #[.val (.int (2 : Int32)), .val (.ref a), .val (.ref t), .val (.ref b139), .val (.ref a), .val (.int (3 : Int32)), .val (.int (2 : Int32)), .val (.int s1)]) rfl) ?_
    show Go p e below (T151.setTop (mkF m 44 #[.val (.int (2 : Int32)), .val (.ref a), .val (.ref t), .val (.ref b139), .val (.ref a), .val (.int (3 : Int32)), .val (.int (2 : Int32)), .val (.int s1)] [])) _
    refine Go.via (fun _ => XS.goto X151.here hx rfl (pc0 := 44) (pc' := 17) rfl (hb hby d1_44) (by decide) (by decide)) ?_
    refine Go.via (fun _ => XS.iload X151.here hx rfl (hb hby d1_17) rfl) ?_
    refine Go.via (fun _ => XS.iload X151.here hx rfl (hb hby d1_19) rfl) ?_
    refine Go.via (fun _ => XS.icmpNo X151.here hx rfl (hb hby d1_21) rfl (tlt ((by decide) : (2 : Int32) < (3 : Int32))).2.1) ?_
    show Go p e below (T151.setTop (mkF m 24 #[.val (.int (2 : Int32)), .val (.ref a), .val (.ref t), .val (.ref b139), .val (.ref a), .val (.int (3 : Int32)), .val (.int (2 : Int32)), .val (.int s1)] [])) _
    refine Go.via (fun _ => XS.aload X151.here hx rfl (hb hby d1_24) rfl rfl) ?_
    refine Go.via (fun _ => XS.iload X151.here hx rfl (hb hby d1_26) rfl) ?_
    have f154 : Ia Z h151 a .int [s0, s1, s2] := (f150.other W151 ne140)
    refine Go.via (ldI X151 hx hZ e151 f154 (v := s2) (by decide) rfl (g := (mkF m 28 #[.val (.int (2 : Int32)), .val (.ref a), .val (.ref t), .val (.ref b139), .val (.ref a), .val (.int (3 : Int32)), .val (.int (2 : Int32)), .val (.int s1)] [(.int (2 : Int32)), (.ref a)])) rfl rfl (hb hby d1_28)) ?_
    show Go p e below (T151.setTop (mkF m 29 #[.val (.int (2 : Int32)), .val (.ref a), .val (.ref t), .val (.ref b139), .val (.ref a), .val (.int (3 : Int32)), .val (.int (2 : Int32)), .val (.int s1)] [(.int s2)])) _
    refine Go.via (fun _ => XS.istore X151.here hx rfl (hb hby d1_29) rfl (l' := #[.val (.int (2 : Int32)), .val (.ref a), .val (.ref t), .val (.ref b139), .val (.ref a), .val (.int (3 : Int32)), .val (.int (2 : Int32)), .val (.int s2)]) rfl) ?_
    show Go p e below (T151.setTop (mkF m 31 #[.val (.int (2 : Int32)), .val (.ref a), .val (.ref t), .val (.ref b139), .val (.ref a), .val (.int (3 : Int32)), .val (.int (2 : Int32)), .val (.int s2)] [])) _
    refine Go.via (fun _ => XS.aloadN X151.here hx rfl (hb hby d1_31) rfl rfl) ?_
    refine Go.via (fun _ => XS.iload X151.here hx rfl (hb hby d1_32) rfl) ?_
    refine Go.via (fun _ => XS.iconst X151.here hx rfl (hb hby d1_34)) ?_
    refine Go.via (fun _ => XS.iadd X151.here hx rfl (hb hby d1_35) rfl) ?_
    show Go p e below (T151.setTop (mkF m 36 #[.val (.int (2 : Int32)), .val (.ref a), .val (.ref t), .val (.ref b139), .val (.ref a), .val (.int (3 : Int32)), .val (.int (2 : Int32)), .val (.int s2)] [(.int (s2 + (1 : Int32))), (.ref b139)])) _
    refine Go.via (S' := T151.setTop (mkF m 37 #[.val (.int (2 : Int32)), .val (.ref a), .val (.ref t), .val (.ref b139), .val (.ref a), .val (.int (3 : Int32)), .val (.int (2 : Int32)), .val (.int s2)] [(.int (s2 + (1 : Int32))), (.ref b139), (.int (s2 + (1 : Int32))), (.ref b139)])) (fun tQ kQ => ?_) ?_
    · jvm_step X151.here [X151.here.top, hx, (hb hby d1_36), Value.category]
      exact kQ
    show Go p e below (T151.setTop (mkF m 37 #[.val (.int (2 : Int32)), .val (.ref a), .val (.ref t), .val (.ref b139), .val (.ref a), .val (.int (3 : Int32)), .val (.int (2 : Int32)), .val (.int s2)] [(.int (s2 + (1 : Int32))), (.ref b139), (.int (s2 + (1 : Int32))), (.ref b139)])) _
    refine Go.via (ldI X151 hx hZ e151 f152 (v := (List.getD o153 ((s2 + (1 : Int32))).toNatClampNeg 0)) (by rcases r2 with rfl | rfl <;> decide) (own_get (by rcases r2 with rfl | rfl <;> decide) (by rw [lo153]; rcases r2 with rfl | rfl <;> decide)) (g := (mkF m 37 #[.val (.int (2 : Int32)), .val (.ref a), .val (.ref t), .val (.ref b139), .val (.ref a), .val (.int (3 : Int32)), .val (.int (2 : Int32)), .val (.int s2)] [(.int (s2 + (1 : Int32))), (.ref b139), (.int (s2 + (1 : Int32))), (.ref b139)])) rfl rfl (hb hby d1_37)) ?_
    show Go p e below (T151.setTop (mkF m 38 #[.val (.int (2 : Int32)), .val (.ref a), .val (.ref t), .val (.ref b139), .val (.ref a), .val (.int (3 : Int32)), .val (.int (2 : Int32)), .val (.int s2)] [(.int (List.getD o153 ((s2 + (1 : Int32))).toNatClampNeg 0)), (.int (s2 + (1 : Int32))), (.ref b139)])) _
    refine Go.via (fun _ => XS.iconst X151.here hx rfl (hb hby d1_38)) ?_
    refine Go.via (fun _ => XS.iadd X151.here hx rfl (hb hby d1_39) rfl) ?_
    show Go p e below (T151.setTop (mkF m 40 #[.val (.int (2 : Int32)), .val (.ref a), .val (.ref t), .val (.ref b139), .val (.ref a), .val (.int (3 : Int32)), .val (.int (2 : Int32)), .val (.int s2)] [(.int ((List.getD o153 ((s2 + (1 : Int32))).toNatClampNeg 0) + (1 : Int32))), (.int (s2 + (1 : Int32))), (.ref b139)])) _
    obtain ⟨T155, h155, X155, e155, W155, V155, st155⟩ := stI' X151 hx hZ e151 f152 (j := (s2 + (1 : Int32))) (by rcases r2 with rfl | rfl <;> decide) (by rw [lo153]; rcases r2 with rfl | rfl <;> decide) (g := (mkF m 40 #[.val (.int (2 : Int32)), .val (.ref a), .val (.ref t), .val (.ref b139), .val (.ref a), .val (.int (3 : Int32)), .val (.int (2 : Int32)), .val (.int s2)] [(.int ((List.getD o153 ((s2 + (1 : Int32))).toNatClampNeg 0) + (1 : Int32))), (.int (s2 + (1 : Int32))), (.ref b139)])) rfl rfl (hb hby d1_40)
    refine Go.via (st155) ?_
    clear st155
    have N155 := Fr.snoc X155 N151 ge142
    have f156 : Ia Z h155 b139 .int (List.set o153 ((s2 + (1 : Int32))).toNatClampNeg ((List.getD o153 ((s2 + (1 : Int32))).toNatClampNeg 0) + (1 : Int32))) := V155
    clear X151 e151
    show Go p e below (T155.setTop (mkF m 41 #[.val (.int (2 : Int32)), .val (.ref a), .val (.ref t), .val (.ref b139), .val (.ref a), .val (.int (3 : Int32)), .val (.int (2 : Int32)), .val (.int s2)] [])) _
    obtain ⟨o157, ho157⟩ : ∃ z : List Int32, z = (List.set o153 ((s2 + (1 : Int32))).toNatClampNeg ((List.getD o153 ((s2 + (1 : Int32))).toNatClampNeg 0) + (1 : Int32))) := ⟨_, rfl⟩
    rw [← ho157] at f156
    have lo157 : o157.length = 3 := by rw [ho157, List.length_set]; exact lo153
    refine Go.via (fun _ => XS.iinc X155.here hx rfl (hb hby d1_41) rfl (l' := #[.val (.int (2 : Int32)), .val (.ref a), .val (.ref t), .val (.ref b139), .val (.ref a), .val (.int (3 : Int32)), .val (.int (3 : Int32)), .val (.int s2)]) rfl) ?_
    show Go p e below (T155.setTop (mkF m 44 #[.val (.int (2 : Int32)), .val (.ref a), .val (.ref t), .val (.ref b139), .val (.ref a), .val (.int (3 : Int32)), .val (.int (3 : Int32)), .val (.int s2)] [])) _
    refine Go.via (fun _ => XS.goto X155.here hx rfl (pc0 := 44) (pc' := 17) rfl (hb hby d1_44) (by decide) (by decide)) ?_
    refine Go.via (fun _ => XS.iload X155.here hx rfl (hb hby d1_17) rfl) ?_
    refine Go.via (fun _ => XS.iload X155.here hx rfl (hb hby d1_19) rfl) ?_
    refine Go.via (fun _ => XS.icmpYes X155.here hx rfl (pc0 := 21) (pc' := 47) rfl (hb hby d1_21) rfl (flt ((by decide) : ¬ ((3 : Int32) < (3 : Int32)))).2.1 (by decide) (by decide)) ?_
    show Go p e below (T155.setTop (mkF m 47 #[.val (.int (2 : Int32)), .val (.ref a), .val (.ref t), .val (.ref b139), .val (.ref a), .val (.int (3 : Int32)), .val (.int (3 : Int32)), .val (.int s2)] [])) _
    refine Go.via (fun _ => XS.iconst X155.here hx rfl (hb hby d1_47)) ?_
    refine Go.via (fun _ => XS.istore X155.here hx rfl (hb hby d1_48) rfl (l' := #[.val (.int (2 : Int32)), .val (.ref a), .val (.ref t), .val (.ref b139), .val (.int (0 : Int32)), .val (.int (3 : Int32)), .val (.int (3 : Int32)), .val (.int s2)]) rfl) ?_
    show Go p e below (T155.setTop (mkF m 50 #[.val (.int (2 : Int32)), .val (.ref a), .val (.ref t), .val (.ref b139), .val (.int (0 : Int32)), .val (.int (3 : Int32)), .val (.int (3 : Int32)), .val (.int s2)] [])) _
    refine Go.via (fun _ => XS.iload X155.here hx rfl (hb hby d1_50) rfl) ?_
    refine Go.via (fun _ => XS.iloadN X155.here hx rfl (hb hby d1_52) rfl) ?_
    refine Go.via (fun _ => XS.icmpNo X155.here hx rfl (hb hby d1_53) rfl (tlt ((by decide) : (0 : Int32) < (2 : Int32))).2.1) ?_
    show Go p e below (T155.setTop (mkF m 56 #[.val (.int (2 : Int32)), .val (.ref a), .val (.ref t), .val (.ref b139), .val (.int (0 : Int32)), .val (.int (3 : Int32)), .val (.int (3 : Int32)), .val (.int s2)] [])) _
    refine Go.via (fun _ => XS.aloadN X155.here hx rfl (hb hby d1_56) rfl rfl) ?_
    refine Go.via (fun _ => XS.iload X155.here hx rfl (hb hby d1_57) rfl) ?_
    refine Go.via (fun _ => XS.iconst X155.here hx rfl (hb hby d1_59)) ?_
    refine Go.via (fun _ => XS.iadd X155.here hx rfl (hb hby d1_60) rfl) ?_
    show Go p e below (T155.setTop (mkF m 61 #[.val (.int (2 : Int32)), .val (.ref a), .val (.ref t), .val (.ref b139), .val (.int (0 : Int32)), .val (.int (3 : Int32)), .val (.int (3 : Int32)), .val (.int s2)] [(.int (1 : Int32)), (.ref b139)])) _
    refine Go.via (S' := T155.setTop (mkF m 62 #[.val (.int (2 : Int32)), .val (.ref a), .val (.ref t), .val (.ref b139), .val (.int (0 : Int32)), .val (.int (3 : Int32)), .val (.int (3 : Int32)), .val (.int s2)] [(.int (1 : Int32)), (.ref b139), (.int (1 : Int32)), (.ref b139)])) (fun tQ kQ => ?_) ?_
    · jvm_step X155.here [X155.here.top, hx, (hb hby d1_61), Value.category]
      exact kQ
    show Go p e below (T155.setTop (mkF m 62 #[.val (.int (2 : Int32)), .val (.ref a), .val (.ref t), .val (.ref b139), .val (.int (0 : Int32)), .val (.int (3 : Int32)), .val (.int (3 : Int32)), .val (.int s2)] [(.int (1 : Int32)), (.ref b139), (.int (1 : Int32)), (.ref b139)])) _
    refine Go.via (ldI X155 hx hZ e155 f156 (v := (List.getD o157 ((1 : Int32)).toNatClampNeg 0)) (by decide) (own_get (by decide) (by rw [lo157]; decide)) (g := (mkF m 62 #[.val (.int (2 : Int32)), .val (.ref a), .val (.ref t), .val (.ref b139), .val (.int (0 : Int32)), .val (.int (3 : Int32)), .val (.int (3 : Int32)), .val (.int s2)] [(.int (1 : Int32)), (.ref b139), (.int (1 : Int32)), (.ref b139)])) rfl rfl (hb hby d1_62)) ?_
    show Go p e below (T155.setTop (mkF m 63 #[.val (.int (2 : Int32)), .val (.ref a), .val (.ref t), .val (.ref b139), .val (.int (0 : Int32)), .val (.int (3 : Int32)), .val (.int (3 : Int32)), .val (.int s2)] [(.int (List.getD o157 ((1 : Int32)).toNatClampNeg 0)), (.int (1 : Int32)), (.ref b139)])) _
    refine Go.via (fun _ => XS.aloadN X155.here hx rfl (hb hby d1_63) rfl rfl) ?_
    refine Go.via (fun _ => XS.iload X155.here hx rfl (hb hby d1_64) rfl) ?_
    refine Go.via (ldI X155 hx hZ e155 f156 (v := (List.getD o157 ((0 : Int32)).toNatClampNeg 0)) (by decide) (own_get (by decide) (by rw [lo157]; decide)) (g := (mkF m 66 #[.val (.int (2 : Int32)), .val (.ref a), .val (.ref t), .val (.ref b139), .val (.int (0 : Int32)), .val (.int (3 : Int32)), .val (.int (3 : Int32)), .val (.int s2)] [(.int (0 : Int32)), (.ref b139), (.int (List.getD o157 ((1 : Int32)).toNatClampNeg 0)), (.int (1 : Int32)), (.ref b139)])) rfl rfl (hb hby d1_66)) ?_
    show Go p e below (T155.setTop (mkF m 67 #[.val (.int (2 : Int32)), .val (.ref a), .val (.ref t), .val (.ref b139), .val (.int (0 : Int32)), .val (.int (3 : Int32)), .val (.int (3 : Int32)), .val (.int s2)] [(.int (List.getD o157 ((0 : Int32)).toNatClampNeg 0)), (.int (List.getD o157 ((1 : Int32)).toNatClampNeg 0)), (.int (1 : Int32)), (.ref b139)])) _
    refine Go.via (fun _ => XS.iadd X155.here hx rfl (hb hby d1_67) rfl) ?_
    show Go p e below (T155.setTop (mkF m 68 #[.val (.int (2 : Int32)), .val (.ref a), .val (.ref t), .val (.ref b139), .val (.int (0 : Int32)), .val (.int (3 : Int32)), .val (.int (3 : Int32)), .val (.int s2)] [(.int ((List.getD o157 ((1 : Int32)).toNatClampNeg 0) + (List.getD o157 ((0 : Int32)).toNatClampNeg 0))), (.int (1 : Int32)), (.ref b139)])) _
    obtain ⟨T158, h158, X158, e158, W158, V158, st158⟩ := stI' X155 hx hZ e155 f156 (j := (1 : Int32)) (by decide) (by rw [lo157]; decide) (g := (mkF m 68 #[.val (.int (2 : Int32)), .val (.ref a), .val (.ref t), .val (.ref b139), .val (.int (0 : Int32)), .val (.int (3 : Int32)), .val (.int (3 : Int32)), .val (.int s2)] [(.int ((List.getD o157 ((1 : Int32)).toNatClampNeg 0) + (List.getD o157 ((0 : Int32)).toNatClampNeg 0))), (.int (1 : Int32)), (.ref b139)])) rfl rfl (hb hby d1_68)
    refine Go.via (st158) ?_
    clear st158
    have N158 := Fr.snoc X158 N155 ge142
    have f159 : Ia Z h158 b139 .int (List.set o157 ((1 : Int32)).toNatClampNeg ((List.getD o157 ((1 : Int32)).toNatClampNeg 0) + (List.getD o157 ((0 : Int32)).toNatClampNeg 0))) := V158
    clear X155 e155
    show Go p e below (T158.setTop (mkF m 69 #[.val (.int (2 : Int32)), .val (.ref a), .val (.ref t), .val (.ref b139), .val (.int (0 : Int32)), .val (.int (3 : Int32)), .val (.int (3 : Int32)), .val (.int s2)] [])) _
    obtain ⟨o160, ho160⟩ : ∃ z : List Int32, z = (List.set o157 ((1 : Int32)).toNatClampNeg ((List.getD o157 ((1 : Int32)).toNatClampNeg 0) + (List.getD o157 ((0 : Int32)).toNatClampNeg 0))) := ⟨_, rfl⟩
    rw [← ho160] at f159
    have lo160 : o160.length = 3 := by rw [ho160, List.length_set]; exact lo157
    refine Go.via (fun _ => XS.iinc X158.here hx rfl (hb hby d1_69) rfl (l' := #[.val (.int (2 : Int32)), .val (.ref a), .val (.ref t), .val (.ref b139), .val (.int (1 : Int32)), .val (.int (3 : Int32)), .val (.int (3 : Int32)), .val (.int s2)]) rfl) ?_
    show Go p e below (T158.setTop (mkF m 72 #[.val (.int (2 : Int32)), .val (.ref a), .val (.ref t), .val (.ref b139), .val (.int (1 : Int32)), .val (.int (3 : Int32)), .val (.int (3 : Int32)), .val (.int s2)] [])) _
    refine Go.via (fun _ => XS.goto X158.here hx rfl (pc0 := 72) (pc' := 50) rfl (hb hby d1_72) (by decide) (by decide)) ?_
    refine Go.via (fun _ => XS.iload X158.here hx rfl (hb hby d1_50) rfl) ?_
    refine Go.via (fun _ => XS.iloadN X158.here hx rfl (hb hby d1_52) rfl) ?_
    refine Go.via (fun _ => XS.icmpNo X158.here hx rfl (hb hby d1_53) rfl (tlt ((by decide) : (1 : Int32) < (2 : Int32))).2.1) ?_
    show Go p e below (T158.setTop (mkF m 56 #[.val (.int (2 : Int32)), .val (.ref a), .val (.ref t), .val (.ref b139), .val (.int (1 : Int32)), .val (.int (3 : Int32)), .val (.int (3 : Int32)), .val (.int s2)] [])) _
    refine Go.via (fun _ => XS.aloadN X158.here hx rfl (hb hby d1_56) rfl rfl) ?_
    refine Go.via (fun _ => XS.iload X158.here hx rfl (hb hby d1_57) rfl) ?_
    refine Go.via (fun _ => XS.iconst X158.here hx rfl (hb hby d1_59)) ?_
    refine Go.via (fun _ => XS.iadd X158.here hx rfl (hb hby d1_60) rfl) ?_
    show Go p e below (T158.setTop (mkF m 61 #[.val (.int (2 : Int32)), .val (.ref a), .val (.ref t), .val (.ref b139), .val (.int (1 : Int32)), .val (.int (3 : Int32)), .val (.int (3 : Int32)), .val (.int s2)] [(.int (2 : Int32)), (.ref b139)])) _
    refine Go.via (S' := T158.setTop (mkF m 62 #[.val (.int (2 : Int32)), .val (.ref a), .val (.ref t), .val (.ref b139), .val (.int (1 : Int32)), .val (.int (3 : Int32)), .val (.int (3 : Int32)), .val (.int s2)] [(.int (2 : Int32)), (.ref b139), (.int (2 : Int32)), (.ref b139)])) (fun tQ kQ => ?_) ?_
    · jvm_step X158.here [X158.here.top, hx, (hb hby d1_61), Value.category]
      exact kQ
    show Go p e below (T158.setTop (mkF m 62 #[.val (.int (2 : Int32)), .val (.ref a), .val (.ref t), .val (.ref b139), .val (.int (1 : Int32)), .val (.int (3 : Int32)), .val (.int (3 : Int32)), .val (.int s2)] [(.int (2 : Int32)), (.ref b139), (.int (2 : Int32)), (.ref b139)])) _
    refine Go.via (ldI X158 hx hZ e158 f159 (v := (List.getD o160 ((2 : Int32)).toNatClampNeg 0)) (by decide) (own_get (by decide) (by rw [lo160]; decide)) (g := (mkF m 62 #[.val (.int (2 : Int32)), .val (.ref a), .val (.ref t), .val (.ref b139), .val (.int (1 : Int32)), .val (.int (3 : Int32)), .val (.int (3 : Int32)), .val (.int s2)] [(.int (2 : Int32)), (.ref b139), (.int (2 : Int32)), (.ref b139)])) rfl rfl (hb hby d1_62)) ?_
    show Go p e below (T158.setTop (mkF m 63 #[.val (.int (2 : Int32)), .val (.ref a), .val (.ref t), .val (.ref b139), .val (.int (1 : Int32)), .val (.int (3 : Int32)), .val (.int (3 : Int32)), .val (.int s2)] [(.int (List.getD o160 ((2 : Int32)).toNatClampNeg 0)), (.int (2 : Int32)), (.ref b139)])) _
    refine Go.via (fun _ => XS.aloadN X158.here hx rfl (hb hby d1_63) rfl rfl) ?_
    refine Go.via (fun _ => XS.iload X158.here hx rfl (hb hby d1_64) rfl) ?_
    refine Go.via (ldI X158 hx hZ e158 f159 (v := (List.getD o160 ((1 : Int32)).toNatClampNeg 0)) (by decide) (own_get (by decide) (by rw [lo160]; decide)) (g := (mkF m 66 #[.val (.int (2 : Int32)), .val (.ref a), .val (.ref t), .val (.ref b139), .val (.int (1 : Int32)), .val (.int (3 : Int32)), .val (.int (3 : Int32)), .val (.int s2)] [(.int (1 : Int32)), (.ref b139), (.int (List.getD o160 ((2 : Int32)).toNatClampNeg 0)), (.int (2 : Int32)), (.ref b139)])) rfl rfl (hb hby d1_66)) ?_
    show Go p e below (T158.setTop (mkF m 67 #[.val (.int (2 : Int32)), .val (.ref a), .val (.ref t), .val (.ref b139), .val (.int (1 : Int32)), .val (.int (3 : Int32)), .val (.int (3 : Int32)), .val (.int s2)] [(.int (List.getD o160 ((1 : Int32)).toNatClampNeg 0)), (.int (List.getD o160 ((2 : Int32)).toNatClampNeg 0)), (.int (2 : Int32)), (.ref b139)])) _
    refine Go.via (fun _ => XS.iadd X158.here hx rfl (hb hby d1_67) rfl) ?_
    show Go p e below (T158.setTop (mkF m 68 #[.val (.int (2 : Int32)), .val (.ref a), .val (.ref t), .val (.ref b139), .val (.int (1 : Int32)), .val (.int (3 : Int32)), .val (.int (3 : Int32)), .val (.int s2)] [(.int ((List.getD o160 ((2 : Int32)).toNatClampNeg 0) + (List.getD o160 ((1 : Int32)).toNatClampNeg 0))), (.int (2 : Int32)), (.ref b139)])) _
    obtain ⟨T161, h161, X161, e161, W161, V161, st161⟩ := stI' X158 hx hZ e158 f159 (j := (2 : Int32)) (by decide) (by rw [lo160]; decide) (g := (mkF m 68 #[.val (.int (2 : Int32)), .val (.ref a), .val (.ref t), .val (.ref b139), .val (.int (1 : Int32)), .val (.int (3 : Int32)), .val (.int (3 : Int32)), .val (.int s2)] [(.int ((List.getD o160 ((2 : Int32)).toNatClampNeg 0) + (List.getD o160 ((1 : Int32)).toNatClampNeg 0))), (.int (2 : Int32)), (.ref b139)])) rfl rfl (hb hby d1_68)
    refine Go.via (st161) ?_
    clear st161
    have N161 := Fr.snoc X161 N158 ge142
    have f162 : Ia Z h161 b139 .int (List.set o160 ((2 : Int32)).toNatClampNeg ((List.getD o160 ((2 : Int32)).toNatClampNeg 0) + (List.getD o160 ((1 : Int32)).toNatClampNeg 0))) := V161
    clear X158 e158
    show Go p e below (T161.setTop (mkF m 69 #[.val (.int (2 : Int32)), .val (.ref a), .val (.ref t), .val (.ref b139), .val (.int (1 : Int32)), .val (.int (3 : Int32)), .val (.int (3 : Int32)), .val (.int s2)] [])) _
    obtain ⟨o163, ho163⟩ : ∃ z : List Int32, z = (List.set o160 ((2 : Int32)).toNatClampNeg ((List.getD o160 ((2 : Int32)).toNatClampNeg 0) + (List.getD o160 ((1 : Int32)).toNatClampNeg 0))) := ⟨_, rfl⟩
    rw [← ho163] at f162
    have lo163 : o163.length = 3 := by rw [ho163, List.length_set]; exact lo160
    refine Go.via (fun _ => XS.iinc X161.here hx rfl (hb hby d1_69) rfl (l' := #[.val (.int (2 : Int32)), .val (.ref a), .val (.ref t), .val (.ref b139), .val (.int (2 : Int32)), .val (.int (3 : Int32)), .val (.int (3 : Int32)), .val (.int s2)]) rfl) ?_
    show Go p e below (T161.setTop (mkF m 72 #[.val (.int (2 : Int32)), .val (.ref a), .val (.ref t), .val (.ref b139), .val (.int (2 : Int32)), .val (.int (3 : Int32)), .val (.int (3 : Int32)), .val (.int s2)] [])) _
    refine Go.via (fun _ => XS.goto X161.here hx rfl (pc0 := 72) (pc' := 50) rfl (hb hby d1_72) (by decide) (by decide)) ?_
    refine Go.via (fun _ => XS.iload X161.here hx rfl (hb hby d1_50) rfl) ?_
    refine Go.via (fun _ => XS.iloadN X161.here hx rfl (hb hby d1_52) rfl) ?_
    refine Go.via (fun _ => XS.icmpYes X161.here hx rfl (pc0 := 53) (pc' := 75) rfl (hb hby d1_53) rfl (flt ((by decide) : ¬ ((2 : Int32) < (2 : Int32)))).2.1 (by decide) (by decide)) ?_
    show Go p e below (T161.setTop (mkF m 75 #[.val (.int (2 : Int32)), .val (.ref a), .val (.ref t), .val (.ref b139), .val (.int (2 : Int32)), .val (.int (3 : Int32)), .val (.int (3 : Int32)), .val (.int s2)] [])) _
    refine Go.via (fun _ => XS.aloadN X161.here hx rfl (hb hby d1_75) rfl rfl) ?_
    have f164 : Ia Z h161 t .int [t0, t1, t2] := ((((((P1.ext E139).other W147 ne141).other W151 ne141).other W155 ne141).other W158 ne141).other W161 ne141)
    refine Go.via (lenI X161 hx hZ e161 f164 (n := (3 : Int32)) rfl (g := (mkF m 76 #[.val (.int (2 : Int32)), .val (.ref a), .val (.ref t), .val (.ref b139), .val (.int (2 : Int32)), .val (.int (3 : Int32)), .val (.int (3 : Int32)), .val (.int s2)] [(.ref t)])) rfl rfl (hb hby d1_76)) ?_
    show Go p e below (T161.setTop (mkF m 77 #[.val (.int (2 : Int32)), .val (.ref a), .val (.ref t), .val (.ref b139), .val (.int (2 : Int32)), .val (.int (3 : Int32)), .val (.int (3 : Int32)), .val (.int s2)] [(.int (3 : Int32))])) _
    have k166 : Keep h0 h161 [] := (((((((Keep.refl h0 []).ext E139).wr W147 (Or.inr sz143)).wr W151 (Or.inr sz143)).wr W155 (Or.inr sz143)).wr W158 (Or.inr sz143)).wr W161 (Or.inr sz143))
    have z167 : n0 ≤ h161.size := (Nat.le_trans (Nat.le_trans (Nat.le_trans (Nat.le_trans (Nat.le_trans (Nat.le_trans Z0 E139.1) (Keep.of_wr W147).1) (Keep.of_wr W151).1) (Keep.of_wr W155).1) (Keep.of_wr W158).1) (Keep.of_wr W161).1)
    obtain ⟨T165, h165, k165, X165, e165, E165, A165, B165, st165⟩ := newPE X161 hx hZ (tw hw 0 rfl) e161 (g := (mkF m 77 #[.val (.int (2 : Int32)), .val (.ref a), .val (.ref t), .val (.ref b139), .val (.int (2 : Int32)), .val (.int (3 : Int32)), .val (.int (3 : Int32)), .val (.int s2)] [(.int (3 : Int32))])) rfl (hb hby d1_77) rfl (by decide) (cap := 3) (by decide) (by decide) (by decide) (by decide) (ad := "[I") (by decide)
    obtain ⟨b165, g165⟩ : ∃ z, z = h161.size := ⟨_, rfl⟩
    rw [← g165] at A165 B165 st165
    have f169 : Ia Z h161 a .int [s0, s1, s2] := (((f154.other W155 ne140).other W158 ne140).other W161 ne140)
    have ne168 : a ≠ b165 := Nat.ne_of_lt (Nat.lt_of_lt_of_le f169.lt (Nat.le_of_eq g165.symm))
    have ne170 : b139 ≠ b165 := Nat.ne_of_lt (Nat.lt_of_lt_of_le f162.lt (Nat.le_of_eq g165.symm))
    have ne171 : t ≠ b165 := Nat.ne_of_lt (Nat.lt_of_lt_of_le f164.lt (Nat.le_of_eq g165.symm))
    have ge172 : n0 ≤ b165 := Nat.le_trans z167 (Nat.le_of_eq g165.symm)
    have sz173 : h0.size ≤ b165 := Nat.le_trans k166.1 (Nat.le_of_eq g165.symm)
    refine Go.via (st165) ?_
    clear st165
    have f174 : Ia Z h165 b165 .int [(0 : Int32), (0 : Int32), (0 : Int32)] := Ia.new A165 rfl
    clear X161 e161
    show Go p e below (T165.setTop (mkF m 79 #[.val (.int (2 : Int32)), .val (.ref a), .val (.ref t), .val (.ref b139), .val (.int (2 : Int32)), .val (.int (3 : Int32)), .val (.int (3 : Int32)), .val (.int s2)] [(.ref b165)])) _
    obtain ⟨e175, he175⟩ : ∃ z : List Int32, z = [(0 : Int32), (0 : Int32), (0 : Int32)] := ⟨_, rfl⟩
    rw [← he175] at f174
    have le175 : e175.length = 3 := by rw [he175]; rfl
    refine Go.via (fun _ => XS.astore X165.here hx rfl (hb hby d1_79) rfl rfl (l' := #[.val (.int (2 : Int32)), .val (.ref a), .val (.ref t), .val (.ref b139), .val (.ref b165), .val (.int (3 : Int32)), .val (.int (3 : Int32)), .val (.int s2)]) rfl) ?_
    show Go p e below (T165.setTop (mkF m 81 #[.val (.int (2 : Int32)), .val (.ref a), .val (.ref t), .val (.ref b139), .val (.ref b165), .val (.int (3 : Int32)), .val (.int (3 : Int32)), .val (.int s2)] [])) _
    refine Go.via (fun _ => XS.aloadN X165.here hx rfl (hb hby d1_81) rfl rfl) ?_
    refine Go.via (fun _ => XS.iloadN X165.here hx rfl (hb hby d1_82) rfl) ?_
    have f176 : Ia Z h165 b139 .int o163 := (f162.ext E165)
    have z178 : n0 ≤ h165.size := (Nat.le_trans z167 E165.1)
    obtain ⟨_, _, ⟨T177, L177, k177, n177⟩, -, X177, ⟨Lc177, hQ177, l177, y177, z177⟩, st177⟩ := Jvm.LawKit.callS X165 hx (y := (⟨"java/util/Arrays", "copyOf", "([II)[I"⟩ : MethodName)) hown (mvT hZ (tw hw 5 rfl)) (mvT hZ (tw hw 6 rfl)) (mvT hZ (tw hw 7 rfl)) (mvT hZ (tw hw 8 rfl)) (by decide) (backOf (W := 0) (rmC l Z a0 hw [] b139 (2 : Int32) o163 h165 n0 z178 f176 (by rw [lo163]; decide) (by first | decide | (simp only [List.length_cons, List.length_nil]; decide) | rfl) (by first | decide | (simp only [List.length_cons, List.length_nil]; decide) | rfl) (by rw [lo163]; decide)) hZ (tw hw 8 rfl) (tw hw 7 rfl) (by decide) (by decide)) (g := (mkF m 83 #[.val (.int (2 : Int32)), .val (.ref a), .val (.ref t), .val (.ref b139), .val (.ref b165), .val (.int (3 : Int32)), .val (.int (3 : Int32)), .val (.int s2)] [(.int (2 : Int32)), (.ref b139)])) rfl (by rw [hml]; rfl) (argsL := [(.ref b139), (.int (2 : Int32))]) (rest := []) (lenOf pd__28_5bII_29_5bI rfl) rfl (by show 2 * 0 + _ ≤ _; exact Nat.le_of_eq rfl) (hb hby d1_83) (fun _ _ => ⟨rfl, e165, (by decide : 2 + 1 ≤ _), (by decide : 6 + 4 ≤ _)⟩)
    dsimp only [Pt.U, Pt.locs, Pt.cells, Pt.slots] at X177 l177 y177 z177 st177 hQ177
    subst l177 y177 z177
    obtain ⟨b179, rfl, N177q, K177q, fz_b179, f180⟩ := hQ177
    have N177 := Fr.app N161 N177q
    refine Go.via (st177) ?_
    clear st177
    have f181 : Ia Z h165 a .int [s0, s1, s2] := (f169.ext E165)
    have ne182 : a ≠ b179 := Nat.ne_of_lt (Nat.lt_of_lt_of_le f181.lt fz_b179)
    have ne183 : b139 ≠ b179 := Nat.ne_of_lt (Nat.lt_of_lt_of_le f176.lt fz_b179)
    have ne184 : b165 ≠ b179 := Nat.ne_of_lt (Nat.lt_of_lt_of_le f174.lt fz_b179)
    have f185 : Ia Z h165 t .int [t0, t1, t2] := (f164.ext E165)
    have ne186 : t ≠ b179 := Nat.ne_of_lt (Nat.lt_of_lt_of_le f185.lt fz_b179)
    have ge187 : n0 ≤ b179 := Nat.le_trans z178 fz_b179
    have k189 : Keep h0 h165 [] := (k166.ext E165)
    have sz188 : h0.size ≤ b179 := Nat.le_trans k189.1 fz_b179
    have e177 : T177.heap = T177.heap := rfl
    have f190 : Ia Z T177.heap b179 .int (own_cpy o163 (2 : Int32)) := f180
    clear X165 e165
    show Go p e below (T177.setTop (mkF m 86 #[.val (.int (2 : Int32)), .val (.ref a), .val (.ref t), .val (.ref b139), .val (.ref b165), .val (.int (3 : Int32)), .val (.int (3 : Int32)), .val (.int s2)] [(.ref b179)])) _
    obtain ⟨n191, hn191⟩ : ∃ z : List Int32, z = (own_cpy o163 (2 : Int32)) := ⟨_, rfl⟩
    rw [← hn191] at f190
    have ln191 : n191.length = 2 := by rw [hn191]; simp only [own_cpy, List.length_append, List.length_take, List.length_replicate]; rw [lo163]; rfl
    refine Go.via (fun _ => XS.astore X177.here hx rfl (hb hby d1_86) rfl rfl (l' := #[.val (.int (2 : Int32)), .val (.ref a), .val (.ref t), .val (.ref b139), .val (.ref b165), .val (.ref b179), .val (.int (3 : Int32)), .val (.int s2)]) rfl) ?_
    show Go p e below (T177.setTop (mkF m 88 #[.val (.int (2 : Int32)), .val (.ref a), .val (.ref t), .val (.ref b139), .val (.ref b165), .val (.ref b179), .val (.int (3 : Int32)), .val (.int s2)] [])) _
    refine Go.via (fun _ => XS.iconst X177.here hx rfl (hb hby d1_88)) ?_
    refine Go.via (fun _ => XS.istore X177.here hx rfl (hb hby d1_89) rfl (l' := #[.val (.int (2 : Int32)), .val (.ref a), .val (.ref t), .val (.ref b139), .val (.ref b165), .val (.ref b179), .val (.int (0 : Int32)), .val (.int s2)]) rfl) ?_
    show Go p e below (T177.setTop (mkF m 91 #[.val (.int (2 : Int32)), .val (.ref a), .val (.ref t), .val (.ref b139), .val (.ref b165), .val (.ref b179), .val (.int (0 : Int32)), .val (.int s2)] [])) _
    refine Go.via (fun _ => XS.iload X177.here hx rfl (hb hby d1_91) rfl) ?_
    refine Go.via (fun _ => XS.aloadN X177.here hx rfl (hb hby d1_93) rfl rfl) ?_
    have f192 : Ia Z T177.heap a .int [s0, s1, s2] := (f181.keep K177q nin0)
    refine Go.via (lenI X177 hx hZ e177 f192 (n := (3 : Int32)) rfl (g := (mkF m 94 #[.val (.int (2 : Int32)), .val (.ref a), .val (.ref t), .val (.ref b139), .val (.ref b165), .val (.ref b179), .val (.int (0 : Int32)), .val (.int s2)] [(.ref a), (.int (0 : Int32))])) rfl rfl (hb hby d1_94)) ?_
    show Go p e below (T177.setTop (mkF m 95 #[.val (.int (2 : Int32)), .val (.ref a), .val (.ref t), .val (.ref b139), .val (.ref b165), .val (.ref b179), .val (.int (0 : Int32)), .val (.int s2)] [(.int (3 : Int32)), (.int (0 : Int32))])) _
    refine Go.via (fun _ => XS.icmpNo X177.here hx rfl (hb hby d1_95) rfl (tlt ((by decide) : (0 : Int32) < (3 : Int32))).2.1) ?_
    show Go p e below (T177.setTop (mkF m 98 #[.val (.int (2 : Int32)), .val (.ref a), .val (.ref t), .val (.ref b139), .val (.ref b165), .val (.ref b179), .val (.int (0 : Int32)), .val (.int s2)] [])) _
    refine Go.via (fun _ => XS.aload X177.here hx rfl (hb hby d1_98) rfl rfl) ?_
    refine Go.via (fun _ => XS.aload X177.here hx rfl (hb hby d1_100) rfl rfl) ?_
    refine Go.via (fun _ => XS.aloadN X177.here hx rfl (hb hby d1_102) rfl rfl) ?_
    refine Go.via (fun _ => XS.iload X177.here hx rfl (hb hby d1_103) rfl) ?_
    show Go p e below (T177.setTop (mkF m 105 #[.val (.int (2 : Int32)), .val (.ref a), .val (.ref t), .val (.ref b139), .val (.ref b165), .val (.ref b179), .val (.int (0 : Int32)), .val (.int s2)] [(.int (0 : Int32)), (.ref a), (.ref b179), (.ref b165)])) _
    refine Go.via (ldI X177 hx hZ e177 f192 (v := s0) (by decide) rfl (g := (mkF m 105 #[.val (.int (2 : Int32)), .val (.ref a), .val (.ref t), .val (.ref b139), .val (.ref b165), .val (.ref b179), .val (.int (0 : Int32)), .val (.int s2)] [(.int (0 : Int32)), (.ref a), (.ref b179), (.ref b165)])) rfl rfl (hb hby d1_105)) ?_
    show Go p e below (T177.setTop (mkF m 106 #[.val (.int (2 : Int32)), .val (.ref a), .val (.ref t), .val (.ref b139), .val (.ref b165), .val (.ref b179), .val (.int (0 : Int32)), .val (.int s2)] [(.int s0), (.ref b179), (.ref b165)])) _
    refine Go.via (S' := T177.setTop (mkF m 107 #[.val (.int (2 : Int32)), .val (.ref a), .val (.ref t), .val (.ref b139), .val (.ref b165), .val (.ref b179), .val (.int (0 : Int32)), .val (.int s2)] [(.int s0), (.ref b179), (.int s0), (.ref b179), (.ref b165)])) (fun tQ kQ => ?_) ?_
    · jvm_step X177.here [X177.here.top, hx, (hb hby d1_106), Value.category]
      exact kQ
    show Go p e below (T177.setTop (mkF m 107 #[.val (.int (2 : Int32)), .val (.ref a), .val (.ref t), .val (.ref b139), .val (.ref b165), .val (.ref b179), .val (.int (0 : Int32)), .val (.int s2)] [(.int s0), (.ref b179), (.int s0), (.ref b179), (.ref b165)])) _
    refine Go.via (ldI X177 hx hZ e177 f190 (v := (List.getD n191 (s0).toNatClampNeg 0)) (by rcases r0 with rfl | rfl <;> decide) (own_get (by rcases r0 with rfl | rfl <;> decide) (by rw [ln191]; rcases r0 with rfl | rfl <;> decide)) (g := (mkF m 107 #[.val (.int (2 : Int32)), .val (.ref a), .val (.ref t), .val (.ref b139), .val (.ref b165), .val (.ref b179), .val (.int (0 : Int32)), .val (.int s2)] [(.int s0), (.ref b179), (.int s0), (.ref b179), (.ref b165)])) rfl rfl (hb hby d1_107)) ?_
    show Go p e below (T177.setTop (mkF m 108 #[.val (.int (2 : Int32)), .val (.ref a), .val (.ref t), .val (.ref b139), .val (.ref b165), .val (.ref b179), .val (.int (0 : Int32)), .val (.int s2)] [(.int (List.getD n191 (s0).toNatClampNeg 0)), (.int s0), (.ref b179), (.ref b165)])) _
    generalize hhw193 : (List.getD n191 (s0).toNatClampNeg 0) = w193
    show Go p e below (T177.setTop (mkF m 108 #[.val (.int (2 : Int32)), .val (.ref a), .val (.ref t), .val (.ref b139), .val (.ref b165), .val (.ref b179), .val (.int (0 : Int32)), .val (.int s2)] [(.int w193), (.int s0), (.ref b179), (.ref b165)])) _
    have bw193 := (own_b2_0 (t0 := t0) (t1 := t1) (t2 := t2) ho145 ho149 ho153 ho157 ho160 ho163 he175 hn191 hhw193 r0 r1 r2)
    refine Go.via (S' := T177.setTop (mkF m 109 #[.val (.int (2 : Int32)), .val (.ref a), .val (.ref t), .val (.ref b139), .val (.ref b165), .val (.ref b179), .val (.int (0 : Int32)), .val (.int s2)] [(.int w193), (.int s0), (.ref b179), (.int w193), (.ref b165)])) (fun tQ kQ => ?_) ?_
    · jvm_step X177.here [X177.here.top, hx, (hb hby d1_108), Value.category]
      exact kQ
    show Go p e below (T177.setTop (mkF m 109 #[.val (.int (2 : Int32)), .val (.ref a), .val (.ref t), .val (.ref b139), .val (.ref b165), .val (.ref b179), .val (.int (0 : Int32)), .val (.int s2)] [(.int w193), (.int s0), (.ref b179), (.int w193), (.ref b165)])) _
    refine Go.via (fun _ => XS.iconst X177.here hx rfl (hb hby d1_109)) ?_
    refine Go.via (fun _ => XS.iadd X177.here hx rfl (hb hby d1_110) rfl) ?_
    show Go p e below (T177.setTop (mkF m 111 #[.val (.int (2 : Int32)), .val (.ref a), .val (.ref t), .val (.ref b139), .val (.ref b165), .val (.ref b179), .val (.int (0 : Int32)), .val (.int s2)] [(.int (w193 + (1 : Int32))), (.int s0), (.ref b179), (.int w193), (.ref b165)])) _
    obtain ⟨T194, h194, X194, e194, W194, V194, st194⟩ := stI' X177 hx hZ e177 f190 (j := s0) (by rcases r0 with rfl | rfl <;> decide) (by rw [ln191]; rcases r0 with rfl | rfl <;> decide) (g := (mkF m 111 #[.val (.int (2 : Int32)), .val (.ref a), .val (.ref t), .val (.ref b139), .val (.ref b165), .val (.ref b179), .val (.int (0 : Int32)), .val (.int s2)] [(.int (w193 + (1 : Int32))), (.int s0), (.ref b179), (.int w193), (.ref b165)])) rfl rfl (hb hby d1_111)
    refine Go.via (st194) ?_
    clear st194
    have N194 := Fr.snoc X194 N177 ge187
    have f195 : Ia Z h194 b179 .int (List.set n191 (s0).toNatClampNeg (w193 + (1 : Int32))) := V194
    clear X177 e177
    show Go p e below (T194.setTop (mkF m 112 #[.val (.int (2 : Int32)), .val (.ref a), .val (.ref t), .val (.ref b139), .val (.ref b165), .val (.ref b179), .val (.int (0 : Int32)), .val (.int s2)] [(.int w193), (.ref b165)])) _
    obtain ⟨n196, hn196⟩ : ∃ z : List Int32, z = (List.set n191 (s0).toNatClampNeg (w193 + (1 : Int32))) := ⟨_, rfl⟩
    rw [← hn196] at f195
    have ln196 : n196.length = 2 := by rw [hn196, List.length_set]; exact ln191
    refine Go.via (fun _ => XS.aloadN X194.here hx rfl (hb hby d1_112) rfl rfl) ?_
    refine Go.via (fun _ => XS.iload X194.here hx rfl (hb hby d1_113) rfl) ?_
    have f197 : Ia Z h194 t .int [t0, t1, t2] := ((f185.keep K177q nin0).other W194 ne186)
    refine Go.via (ldI X194 hx hZ e194 f197 (v := t0) (by decide) rfl (g := (mkF m 115 #[.val (.int (2 : Int32)), .val (.ref a), .val (.ref t), .val (.ref b139), .val (.ref b165), .val (.ref b179), .val (.int (0 : Int32)), .val (.int s2)] [(.int (0 : Int32)), (.ref t), (.int w193), (.ref b165)])) rfl rfl (hb hby d1_115)) ?_
    show Go p e below (T194.setTop (mkF m 116 #[.val (.int (2 : Int32)), .val (.ref a), .val (.ref t), .val (.ref b139), .val (.ref b165), .val (.ref b179), .val (.int (0 : Int32)), .val (.int s2)] [(.int t0), (.int w193), (.ref b165)])) _
    have f198 : Ia Z h194 b165 .int e175 := ((f174.keep K177q nin0).other W194 ne184)
    obtain ⟨T199, h199, X199, e199, W199, V199, st199⟩ := stI' X194 hx hZ e194 f198 (j := w193) bw193.1 (by rw [le175]; exact bw193.2) (g := (mkF m 116 #[.val (.int (2 : Int32)), .val (.ref a), .val (.ref t), .val (.ref b139), .val (.ref b165), .val (.ref b179), .val (.int (0 : Int32)), .val (.int s2)] [(.int t0), (.int w193), (.ref b165)])) rfl rfl (hb hby d1_116)
    refine Go.via (st199) ?_
    clear st199
    have N199 := Fr.snoc X199 N194 ge172
    have f200 : Ia Z h199 b165 .int (List.set e175 (w193).toNatClampNeg t0) := V199
    clear X194 e194
    show Go p e below (T199.setTop (mkF m 117 #[.val (.int (2 : Int32)), .val (.ref a), .val (.ref t), .val (.ref b139), .val (.ref b165), .val (.ref b179), .val (.int (0 : Int32)), .val (.int s2)] [])) _
    obtain ⟨e201, he201⟩ : ∃ z : List Int32, z = (List.set e175 (w193).toNatClampNeg t0) := ⟨_, rfl⟩
    rw [← he201] at f200
    have le201 : e201.length = 3 := by rw [he201, List.length_set]; exact le175
    refine Go.via (fun _ => XS.iinc X199.here hx rfl (hb hby d1_117) rfl (l' := #[.val (.int (2 : Int32)), .val (.ref a), .val (.ref t), .val (.ref b139), .val (.ref b165), .val (.ref b179), .val (.int (1 : Int32)), .val (.int s2)]) rfl) ?_
    show Go p e below (T199.setTop (mkF m 120 #[.val (.int (2 : Int32)), .val (.ref a), .val (.ref t), .val (.ref b139), .val (.ref b165), .val (.ref b179), .val (.int (1 : Int32)), .val (.int s2)] [])) _
    refine Go.via (fun _ => XS.goto X199.here hx rfl (pc0 := 120) (pc' := 91) rfl (hb hby d1_120) (by decide) (by decide)) ?_
    refine Go.via (fun _ => XS.iload X199.here hx rfl (hb hby d1_91) rfl) ?_
    refine Go.via (fun _ => XS.aloadN X199.here hx rfl (hb hby d1_93) rfl rfl) ?_
    have f202 : Ia Z h199 a .int [s0, s1, s2] := ((f192.other W194 ne182).other W199 ne168)
    refine Go.via (lenI X199 hx hZ e199 f202 (n := (3 : Int32)) rfl (g := (mkF m 94 #[.val (.int (2 : Int32)), .val (.ref a), .val (.ref t), .val (.ref b139), .val (.ref b165), .val (.ref b179), .val (.int (1 : Int32)), .val (.int s2)] [(.ref a), (.int (1 : Int32))])) rfl rfl (hb hby d1_94)) ?_
    show Go p e below (T199.setTop (mkF m 95 #[.val (.int (2 : Int32)), .val (.ref a), .val (.ref t), .val (.ref b139), .val (.ref b165), .val (.ref b179), .val (.int (1 : Int32)), .val (.int s2)] [(.int (3 : Int32)), (.int (1 : Int32))])) _
    refine Go.via (fun _ => XS.icmpNo X199.here hx rfl (hb hby d1_95) rfl (tlt ((by decide) : (1 : Int32) < (3 : Int32))).2.1) ?_
    show Go p e below (T199.setTop (mkF m 98 #[.val (.int (2 : Int32)), .val (.ref a), .val (.ref t), .val (.ref b139), .val (.ref b165), .val (.ref b179), .val (.int (1 : Int32)), .val (.int s2)] [])) _
    refine Go.via (fun _ => XS.aload X199.here hx rfl (hb hby d1_98) rfl rfl) ?_
    refine Go.via (fun _ => XS.aload X199.here hx rfl (hb hby d1_100) rfl rfl) ?_
    refine Go.via (fun _ => XS.aloadN X199.here hx rfl (hb hby d1_102) rfl rfl) ?_
    refine Go.via (fun _ => XS.iload X199.here hx rfl (hb hby d1_103) rfl) ?_
    show Go p e below (T199.setTop (mkF m 105 #[.val (.int (2 : Int32)), .val (.ref a), .val (.ref t), .val (.ref b139), .val (.ref b165), .val (.ref b179), .val (.int (1 : Int32)), .val (.int s2)] [(.int (1 : Int32)), (.ref a), (.ref b179), (.ref b165)])) _
    refine Go.via (ldI X199 hx hZ e199 f202 (v := s1) (by decide) rfl (g := (mkF m 105 #[.val (.int (2 : Int32)), .val (.ref a), .val (.ref t), .val (.ref b139), .val (.ref b165), .val (.ref b179), .val (.int (1 : Int32)), .val (.int s2)] [(.int (1 : Int32)), (.ref a), (.ref b179), (.ref b165)])) rfl rfl (hb hby d1_105)) ?_
    show Go p e below (T199.setTop (mkF m 106 #[.val (.int (2 : Int32)), .val (.ref a), .val (.ref t), .val (.ref b139), .val (.ref b165), .val (.ref b179), .val (.int (1 : Int32)), .val (.int s2)] [(.int s1), (.ref b179), (.ref b165)])) _
    refine Go.via (S' := T199.setTop (mkF m 107 #[.val (.int (2 : Int32)), .val (.ref a), .val (.ref t), .val (.ref b139), .val (.ref b165), .val (.ref b179), .val (.int (1 : Int32)), .val (.int s2)] [(.int s1), (.ref b179), (.int s1), (.ref b179), (.ref b165)])) (fun tQ kQ => ?_) ?_
    · jvm_step X199.here [X199.here.top, hx, (hb hby d1_106), Value.category]
      exact kQ
    show Go p e below (T199.setTop (mkF m 107 #[.val (.int (2 : Int32)), .val (.ref a), .val (.ref t), .val (.ref b139), .val (.ref b165), .val (.ref b179), .val (.int (1 : Int32)), .val (.int s2)] [(.int s1), (.ref b179), (.int s1), (.ref b179), (.ref b165)])) _
    have f203 : Ia Z h199 b179 .int n196 := (f195.other W199 (Ne.symm ne184))
    refine Go.via (ldI X199 hx hZ e199 f203 (v := (List.getD n196 (s1).toNatClampNeg 0)) (by rcases r1 with rfl | rfl <;> decide) (own_get (by rcases r1 with rfl | rfl <;> decide) (by rw [ln196]; rcases r1 with rfl | rfl <;> decide)) (g := (mkF m 107 #[.val (.int (2 : Int32)), .val (.ref a), .val (.ref t), .val (.ref b139), .val (.ref b165), .val (.ref b179), .val (.int (1 : Int32)), .val (.int s2)] [(.int s1), (.ref b179), (.int s1), (.ref b179), (.ref b165)])) rfl rfl (hb hby d1_107)) ?_
    show Go p e below (T199.setTop (mkF m 108 #[.val (.int (2 : Int32)), .val (.ref a), .val (.ref t), .val (.ref b139), .val (.ref b165), .val (.ref b179), .val (.int (1 : Int32)), .val (.int s2)] [(.int (List.getD n196 (s1).toNatClampNeg 0)), (.int s1), (.ref b179), (.ref b165)])) _
    generalize hhw204 : (List.getD n196 (s1).toNatClampNeg 0) = w204
    show Go p e below (T199.setTop (mkF m 108 #[.val (.int (2 : Int32)), .val (.ref a), .val (.ref t), .val (.ref b139), .val (.ref b165), .val (.ref b179), .val (.int (1 : Int32)), .val (.int s2)] [(.int w204), (.int s1), (.ref b179), (.ref b165)])) _
    have bw204 := (own_b2_1 (t0 := t0) (t1 := t1) (t2 := t2) ho145 ho149 ho153 ho157 ho160 ho163 he175 hn191 hhw193 hn196 he201 hhw204 r0 r1 r2)
    refine Go.via (S' := T199.setTop (mkF m 109 #[.val (.int (2 : Int32)), .val (.ref a), .val (.ref t), .val (.ref b139), .val (.ref b165), .val (.ref b179), .val (.int (1 : Int32)), .val (.int s2)] [(.int w204), (.int s1), (.ref b179), (.int w204), (.ref b165)])) (fun tQ kQ => ?_) ?_
    · jvm_step X199.here [X199.here.top, hx, (hb hby d1_108), Value.category]
      exact kQ
    show Go p e below (T199.setTop (mkF m 109 #[.val (.int (2 : Int32)), .val (.ref a), .val (.ref t), .val (.ref b139), .val (.ref b165), .val (.ref b179), .val (.int (1 : Int32)), .val (.int s2)] [(.int w204), (.int s1), (.ref b179), (.int w204), (.ref b165)])) _
    refine Go.via (fun _ => XS.iconst X199.here hx rfl (hb hby d1_109)) ?_
    refine Go.via (fun _ => XS.iadd X199.here hx rfl (hb hby d1_110) rfl) ?_
    show Go p e below (T199.setTop (mkF m 111 #[.val (.int (2 : Int32)), .val (.ref a), .val (.ref t), .val (.ref b139), .val (.ref b165), .val (.ref b179), .val (.int (1 : Int32)), .val (.int s2)] [(.int (w204 + (1 : Int32))), (.int s1), (.ref b179), (.int w204), (.ref b165)])) _
    obtain ⟨T205, h205, X205, e205, W205, V205, st205⟩ := stI' X199 hx hZ e199 f203 (j := s1) (by rcases r1 with rfl | rfl <;> decide) (by rw [ln196]; rcases r1 with rfl | rfl <;> decide) (g := (mkF m 111 #[.val (.int (2 : Int32)), .val (.ref a), .val (.ref t), .val (.ref b139), .val (.ref b165), .val (.ref b179), .val (.int (1 : Int32)), .val (.int s2)] [(.int (w204 + (1 : Int32))), (.int s1), (.ref b179), (.int w204), (.ref b165)])) rfl rfl (hb hby d1_111)
    refine Go.via (st205) ?_
    clear st205
    have N205 := Fr.snoc X205 N199 ge187
    have f206 : Ia Z h205 b179 .int (List.set n196 (s1).toNatClampNeg (w204 + (1 : Int32))) := V205
    clear X199 e199
    show Go p e below (T205.setTop (mkF m 112 #[.val (.int (2 : Int32)), .val (.ref a), .val (.ref t), .val (.ref b139), .val (.ref b165), .val (.ref b179), .val (.int (1 : Int32)), .val (.int s2)] [(.int w204), (.ref b165)])) _
    obtain ⟨n207, hn207⟩ : ∃ z : List Int32, z = (List.set n196 (s1).toNatClampNeg (w204 + (1 : Int32))) := ⟨_, rfl⟩
    rw [← hn207] at f206
    have ln207 : n207.length = 2 := by rw [hn207, List.length_set]; exact ln196
    refine Go.via (fun _ => XS.aloadN X205.here hx rfl (hb hby d1_112) rfl rfl) ?_
    refine Go.via (fun _ => XS.iload X205.here hx rfl (hb hby d1_113) rfl) ?_
    have f208 : Ia Z h205 t .int [t0, t1, t2] := ((f197.other W199 ne171).other W205 ne186)
    refine Go.via (ldI X205 hx hZ e205 f208 (v := t1) (by decide) rfl (g := (mkF m 115 #[.val (.int (2 : Int32)), .val (.ref a), .val (.ref t), .val (.ref b139), .val (.ref b165), .val (.ref b179), .val (.int (1 : Int32)), .val (.int s2)] [(.int (1 : Int32)), (.ref t), (.int w204), (.ref b165)])) rfl rfl (hb hby d1_115)) ?_
    show Go p e below (T205.setTop (mkF m 116 #[.val (.int (2 : Int32)), .val (.ref a), .val (.ref t), .val (.ref b139), .val (.ref b165), .val (.ref b179), .val (.int (1 : Int32)), .val (.int s2)] [(.int t1), (.int w204), (.ref b165)])) _
    have f209 : Ia Z h205 b165 .int e201 := (f200.other W205 ne184)
    obtain ⟨T210, h210, X210, e210, W210, V210, st210⟩ := stI' X205 hx hZ e205 f209 (j := w204) bw204.1 (by rw [le201]; exact bw204.2) (g := (mkF m 116 #[.val (.int (2 : Int32)), .val (.ref a), .val (.ref t), .val (.ref b139), .val (.ref b165), .val (.ref b179), .val (.int (1 : Int32)), .val (.int s2)] [(.int t1), (.int w204), (.ref b165)])) rfl rfl (hb hby d1_116)
    refine Go.via (st210) ?_
    clear st210
    have N210 := Fr.snoc X210 N205 ge172
    have f211 : Ia Z h210 b165 .int (List.set e201 (w204).toNatClampNeg t1) := V210
    clear X205 e205
    show Go p e below (T210.setTop (mkF m 117 #[.val (.int (2 : Int32)), .val (.ref a), .val (.ref t), .val (.ref b139), .val (.ref b165), .val (.ref b179), .val (.int (1 : Int32)), .val (.int s2)] [])) _
    obtain ⟨e212, he212⟩ : ∃ z : List Int32, z = (List.set e201 (w204).toNatClampNeg t1) := ⟨_, rfl⟩
    rw [← he212] at f211
    have le212 : e212.length = 3 := by rw [he212, List.length_set]; exact le201
    refine Go.via (fun _ => XS.iinc X210.here hx rfl (hb hby d1_117) rfl (l' := #[.val (.int (2 : Int32)), .val (.ref a), .val (.ref t), .val (.ref b139), .val (.ref b165), .val (.ref b179), .val (.int (2 : Int32)), .val (.int s2)]) rfl) ?_
    show Go p e below (T210.setTop (mkF m 120 #[.val (.int (2 : Int32)), .val (.ref a), .val (.ref t), .val (.ref b139), .val (.ref b165), .val (.ref b179), .val (.int (2 : Int32)), .val (.int s2)] [])) _
    refine Go.via (fun _ => XS.goto X210.here hx rfl (pc0 := 120) (pc' := 91) rfl (hb hby d1_120) (by decide) (by decide)) ?_
    refine Go.via (fun _ => XS.iload X210.here hx rfl (hb hby d1_91) rfl) ?_
    refine Go.via (fun _ => XS.aloadN X210.here hx rfl (hb hby d1_93) rfl rfl) ?_
    have f213 : Ia Z h210 a .int [s0, s1, s2] := ((f202.other W205 ne182).other W210 ne168)
    refine Go.via (lenI X210 hx hZ e210 f213 (n := (3 : Int32)) rfl (g := (mkF m 94 #[.val (.int (2 : Int32)), .val (.ref a), .val (.ref t), .val (.ref b139), .val (.ref b165), .val (.ref b179), .val (.int (2 : Int32)), .val (.int s2)] [(.ref a), (.int (2 : Int32))])) rfl rfl (hb hby d1_94)) ?_
    show Go p e below (T210.setTop (mkF m 95 #[.val (.int (2 : Int32)), .val (.ref a), .val (.ref t), .val (.ref b139), .val (.ref b165), .val (.ref b179), .val (.int (2 : Int32)), .val (.int s2)] [(.int (3 : Int32)), (.int (2 : Int32))])) _
    refine Go.via (fun _ => XS.icmpNo X210.here hx rfl (hb hby d1_95) rfl (tlt ((by decide) : (2 : Int32) < (3 : Int32))).2.1) ?_
    show Go p e below (T210.setTop (mkF m 98 #[.val (.int (2 : Int32)), .val (.ref a), .val (.ref t), .val (.ref b139), .val (.ref b165), .val (.ref b179), .val (.int (2 : Int32)), .val (.int s2)] [])) _
    refine Go.via (fun _ => XS.aload X210.here hx rfl (hb hby d1_98) rfl rfl) ?_
    refine Go.via (fun _ => XS.aload X210.here hx rfl (hb hby d1_100) rfl rfl) ?_
    refine Go.via (fun _ => XS.aloadN X210.here hx rfl (hb hby d1_102) rfl rfl) ?_
    refine Go.via (fun _ => XS.iload X210.here hx rfl (hb hby d1_103) rfl) ?_
    show Go p e below (T210.setTop (mkF m 105 #[.val (.int (2 : Int32)), .val (.ref a), .val (.ref t), .val (.ref b139), .val (.ref b165), .val (.ref b179), .val (.int (2 : Int32)), .val (.int s2)] [(.int (2 : Int32)), (.ref a), (.ref b179), (.ref b165)])) _
    refine Go.via (ldI X210 hx hZ e210 f213 (v := s2) (by decide) rfl (g := (mkF m 105 #[.val (.int (2 : Int32)), .val (.ref a), .val (.ref t), .val (.ref b139), .val (.ref b165), .val (.ref b179), .val (.int (2 : Int32)), .val (.int s2)] [(.int (2 : Int32)), (.ref a), (.ref b179), (.ref b165)])) rfl rfl (hb hby d1_105)) ?_
    show Go p e below (T210.setTop (mkF m 106 #[.val (.int (2 : Int32)), .val (.ref a), .val (.ref t), .val (.ref b139), .val (.ref b165), .val (.ref b179), .val (.int (2 : Int32)), .val (.int s2)] [(.int s2), (.ref b179), (.ref b165)])) _
    refine Go.via (S' := T210.setTop (mkF m 107 #[.val (.int (2 : Int32)), .val (.ref a), .val (.ref t), .val (.ref b139), .val (.ref b165), .val (.ref b179), .val (.int (2 : Int32)), .val (.int s2)] [(.int s2), (.ref b179), (.int s2), (.ref b179), (.ref b165)])) (fun tQ kQ => ?_) ?_
    · jvm_step X210.here [X210.here.top, hx, (hb hby d1_106), Value.category]
      exact kQ
    show Go p e below (T210.setTop (mkF m 107 #[.val (.int (2 : Int32)), .val (.ref a), .val (.ref t), .val (.ref b139), .val (.ref b165), .val (.ref b179), .val (.int (2 : Int32)), .val (.int s2)] [(.int s2), (.ref b179), (.int s2), (.ref b179), (.ref b165)])) _
    have f214 : Ia Z h210 b179 .int n207 := (f206.other W210 (Ne.symm ne184))
    refine Go.via (ldI X210 hx hZ e210 f214 (v := (List.getD n207 (s2).toNatClampNeg 0)) (by rcases r2 with rfl | rfl <;> decide) (own_get (by rcases r2 with rfl | rfl <;> decide) (by rw [ln207]; rcases r2 with rfl | rfl <;> decide)) (g := (mkF m 107 #[.val (.int (2 : Int32)), .val (.ref a), .val (.ref t), .val (.ref b139), .val (.ref b165), .val (.ref b179), .val (.int (2 : Int32)), .val (.int s2)] [(.int s2), (.ref b179), (.int s2), (.ref b179), (.ref b165)])) rfl rfl (hb hby d1_107)) ?_
    show Go p e below (T210.setTop (mkF m 108 #[.val (.int (2 : Int32)), .val (.ref a), .val (.ref t), .val (.ref b139), .val (.ref b165), .val (.ref b179), .val (.int (2 : Int32)), .val (.int s2)] [(.int (List.getD n207 (s2).toNatClampNeg 0)), (.int s2), (.ref b179), (.ref b165)])) _
    generalize hhw215 : (List.getD n207 (s2).toNatClampNeg 0) = w215
    show Go p e below (T210.setTop (mkF m 108 #[.val (.int (2 : Int32)), .val (.ref a), .val (.ref t), .val (.ref b139), .val (.ref b165), .val (.ref b179), .val (.int (2 : Int32)), .val (.int s2)] [(.int w215), (.int s2), (.ref b179), (.ref b165)])) _
    have bw215 := (own_b2_2 (t0 := t0) (t1 := t1) (t2 := t2) ho145 ho149 ho153 ho157 ho160 ho163 he175 hn191 hhw193 hn196 he201 hhw204 hn207 he212 hhw215 r0 r1 r2)
    refine Go.via (S' := T210.setTop (mkF m 109 #[.val (.int (2 : Int32)), .val (.ref a), .val (.ref t), .val (.ref b139), .val (.ref b165), .val (.ref b179), .val (.int (2 : Int32)), .val (.int s2)] [(.int w215), (.int s2), (.ref b179), (.int w215), (.ref b165)])) (fun tQ kQ => ?_) ?_
    · jvm_step X210.here [X210.here.top, hx, (hb hby d1_108), Value.category]
      exact kQ
    show Go p e below (T210.setTop (mkF m 109 #[.val (.int (2 : Int32)), .val (.ref a), .val (.ref t), .val (.ref b139), .val (.ref b165), .val (.ref b179), .val (.int (2 : Int32)), .val (.int s2)] [(.int w215), (.int s2), (.ref b179), (.int w215), (.ref b165)])) _
    refine Go.via (fun _ => XS.iconst X210.here hx rfl (hb hby d1_109)) ?_
    refine Go.via (fun _ => XS.iadd X210.here hx rfl (hb hby d1_110) rfl) ?_
    show Go p e below (T210.setTop (mkF m 111 #[.val (.int (2 : Int32)), .val (.ref a), .val (.ref t), .val (.ref b139), .val (.ref b165), .val (.ref b179), .val (.int (2 : Int32)), .val (.int s2)] [(.int (w215 + (1 : Int32))), (.int s2), (.ref b179), (.int w215), (.ref b165)])) _
    obtain ⟨T216, h216, X216, e216, W216, V216, st216⟩ := stI' X210 hx hZ e210 f214 (j := s2) (by rcases r2 with rfl | rfl <;> decide) (by rw [ln207]; rcases r2 with rfl | rfl <;> decide) (g := (mkF m 111 #[.val (.int (2 : Int32)), .val (.ref a), .val (.ref t), .val (.ref b139), .val (.ref b165), .val (.ref b179), .val (.int (2 : Int32)), .val (.int s2)] [(.int (w215 + (1 : Int32))), (.int s2), (.ref b179), (.int w215), (.ref b165)])) rfl rfl (hb hby d1_111)
    refine Go.via (st216) ?_
    clear st216
    have N216 := Fr.snoc X216 N210 ge187
    have f217 : Ia Z h216 b179 .int (List.set n207 (s2).toNatClampNeg (w215 + (1 : Int32))) := V216
    clear X210 e210
    show Go p e below (T216.setTop (mkF m 112 #[.val (.int (2 : Int32)), .val (.ref a), .val (.ref t), .val (.ref b139), .val (.ref b165), .val (.ref b179), .val (.int (2 : Int32)), .val (.int s2)] [(.int w215), (.ref b165)])) _
    obtain ⟨n218, hn218⟩ : ∃ z : List Int32, z = (List.set n207 (s2).toNatClampNeg (w215 + (1 : Int32))) := ⟨_, rfl⟩
    rw [← hn218] at f217
    have ln218 : n218.length = 2 := by rw [hn218, List.length_set]; exact ln207
    refine Go.via (fun _ => XS.aloadN X216.here hx rfl (hb hby d1_112) rfl rfl) ?_
    refine Go.via (fun _ => XS.iload X216.here hx rfl (hb hby d1_113) rfl) ?_
    have f219 : Ia Z h216 t .int [t0, t1, t2] := ((f208.other W210 ne171).other W216 ne186)
    refine Go.via (ldI X216 hx hZ e216 f219 (v := t2) (by decide) rfl (g := (mkF m 115 #[.val (.int (2 : Int32)), .val (.ref a), .val (.ref t), .val (.ref b139), .val (.ref b165), .val (.ref b179), .val (.int (2 : Int32)), .val (.int s2)] [(.int (2 : Int32)), (.ref t), (.int w215), (.ref b165)])) rfl rfl (hb hby d1_115)) ?_
    show Go p e below (T216.setTop (mkF m 116 #[.val (.int (2 : Int32)), .val (.ref a), .val (.ref t), .val (.ref b139), .val (.ref b165), .val (.ref b179), .val (.int (2 : Int32)), .val (.int s2)] [(.int t2), (.int w215), (.ref b165)])) _
    have f220 : Ia Z h216 b165 .int e212 := (f211.other W216 ne184)
    obtain ⟨T221, h221, X221, e221, W221, V221, st221⟩ := stI' X216 hx hZ e216 f220 (j := w215) bw215.1 (by rw [le212]; exact bw215.2) (g := (mkF m 116 #[.val (.int (2 : Int32)), .val (.ref a), .val (.ref t), .val (.ref b139), .val (.ref b165), .val (.ref b179), .val (.int (2 : Int32)), .val (.int s2)] [(.int t2), (.int w215), (.ref b165)])) rfl rfl (hb hby d1_116)
    refine Go.via (st221) ?_
    clear st221
    have N221 := Fr.snoc X221 N216 ge172
    have f222 : Ia Z h221 b165 .int (List.set e212 (w215).toNatClampNeg t2) := V221
    clear X216 e216
    show Go p e below (T221.setTop (mkF m 117 #[.val (.int (2 : Int32)), .val (.ref a), .val (.ref t), .val (.ref b139), .val (.ref b165), .val (.ref b179), .val (.int (2 : Int32)), .val (.int s2)] [])) _
    obtain ⟨e223, he223⟩ : ∃ z : List Int32, z = (List.set e212 (w215).toNatClampNeg t2) := ⟨_, rfl⟩
    rw [← he223] at f222
    have le223 : e223.length = 3 := by rw [he223, List.length_set]; exact le212
    refine Go.via (fun _ => XS.iinc X221.here hx rfl (hb hby d1_117) rfl (l' := #[.val (.int (2 : Int32)), .val (.ref a), .val (.ref t), .val (.ref b139), .val (.ref b165), .val (.ref b179), .val (.int (3 : Int32)), .val (.int s2)]) rfl) ?_
    show Go p e below (T221.setTop (mkF m 120 #[.val (.int (2 : Int32)), .val (.ref a), .val (.ref t), .val (.ref b139), .val (.ref b165), .val (.ref b179), .val (.int (3 : Int32)), .val (.int s2)] [])) _
    refine Go.via (fun _ => XS.goto X221.here hx rfl (pc0 := 120) (pc' := 91) rfl (hb hby d1_120) (by decide) (by decide)) ?_
    refine Go.via (fun _ => XS.iload X221.here hx rfl (hb hby d1_91) rfl) ?_
    refine Go.via (fun _ => XS.aloadN X221.here hx rfl (hb hby d1_93) rfl rfl) ?_
    have f224 : Ia Z h221 a .int [s0, s1, s2] := ((f213.other W216 ne182).other W221 ne168)
    refine Go.via (lenI X221 hx hZ e221 f224 (n := (3 : Int32)) rfl (g := (mkF m 94 #[.val (.int (2 : Int32)), .val (.ref a), .val (.ref t), .val (.ref b139), .val (.ref b165), .val (.ref b179), .val (.int (3 : Int32)), .val (.int s2)] [(.ref a), (.int (3 : Int32))])) rfl rfl (hb hby d1_94)) ?_
    show Go p e below (T221.setTop (mkF m 95 #[.val (.int (2 : Int32)), .val (.ref a), .val (.ref t), .val (.ref b139), .val (.ref b165), .val (.ref b179), .val (.int (3 : Int32)), .val (.int s2)] [(.int (3 : Int32)), (.int (3 : Int32))])) _
    refine Go.via (fun _ => XS.icmpYes X221.here hx rfl (pc0 := 95) (pc' := 123) rfl (hb hby d1_95) rfl (flt ((by decide) : ¬ ((3 : Int32) < (3 : Int32)))).2.1 (by decide) (by decide)) ?_
    show Go p e below (T221.setTop (mkF m 123 #[.val (.int (2 : Int32)), .val (.ref a), .val (.ref t), .val (.ref b139), .val (.ref b165), .val (.ref b179), .val (.int (3 : Int32)), .val (.int s2)] [])) _
    have k226 : Keep h0 h221 [] := (((((((k189.trans K177q all0).wr W194 (Or.inr sz188)).wr W199 (Or.inr sz173)).wr W205 (Or.inr sz188)).wr W210 (Or.inr sz173)).wr W216 (Or.inr sz188)).wr W221 (Or.inr sz173))
    have z227 : n0 ≤ h221.size := (Nat.le_trans (Nat.le_trans (Nat.le_trans (Nat.le_trans (Nat.le_trans (Nat.le_trans (Nat.le_trans z178 K177q.1) (Keep.of_wr W194).1) (Keep.of_wr W199).1) (Keep.of_wr W205).1) (Keep.of_wr W210).1) (Keep.of_wr W216).1) (Keep.of_wr W221).1)
    obtain ⟨T225, h225, X225, e225, E225, A225, D225, -, st225⟩ := newO X221 hx hZ hown (tw hw 17 rfl) (tw hw 18 rfl) (tw hw 3 rfl) e221 (g := (mkF m 123 #[.val (.int (2 : Int32)), .val (.ref a), .val (.ref t), .val (.ref b139), .val (.ref b165), .val (.ref b179), .val (.int (3 : Int32)), .val (.int s2)] [])) rfl (hb hby d1_123) (by decide) (by decide)
    obtain ⟨b225, g225⟩ : ∃ z, z = h221.size := ⟨_, rfl⟩
    rw [← g225] at A225 D225 st225
    have ne228 : a ≠ b225 := Nat.ne_of_lt (Nat.lt_of_lt_of_le f224.lt (Nat.le_of_eq g225.symm))
    have f230 : Ia Z h221 b139 .int o163 := (((((((f176.keep K177q nin0).other W194 ne183).other W199 ne170).other W205 ne183).other W210 ne170).other W216 ne183).other W221 ne170)
    have ne229 : b139 ≠ b225 := Nat.ne_of_lt (Nat.lt_of_lt_of_le f230.lt (Nat.le_of_eq g225.symm))
    have ne231 : b165 ≠ b225 := Nat.ne_of_lt (Nat.lt_of_lt_of_le f222.lt (Nat.le_of_eq g225.symm))
    have f233 : Ia Z h221 b179 .int n218 := (f217.other W221 (Ne.symm ne184))
    have ne232 : b179 ≠ b225 := Nat.ne_of_lt (Nat.lt_of_lt_of_le f233.lt (Nat.le_of_eq g225.symm))
    have f235 : Ia Z h221 t .int [t0, t1, t2] := (f219.other W221 ne171)
    have ne234 : t ≠ b225 := Nat.ne_of_lt (Nat.lt_of_lt_of_le f235.lt (Nat.le_of_eq g225.symm))
    have ge236 : n0 ≤ b225 := Nat.le_trans z227 (Nat.le_of_eq g225.symm)
    have sz237 : h0.size ≤ b225 := Nat.le_trans k226.1 (Nat.le_of_eq g225.symm)
    refine Go.via (st225) ?_
    clear st225
    have f238 : Fld Z h225 b225 "com/example/acquaint/acquaint/query/Adjacency" "offsets" "[I" .null := D225 (Or.inr (tw hw 26 rfl)) (ty := (.array .int)) (by decide)
    have f239 : Fld Z h225 b225 "com/example/acquaint/acquaint/query/Adjacency" "targets" "[I" .null := D225 (Or.inr (tw hw 28 rfl)) (ty := (.array .int)) (by decide)
    clear X221 e221
    show Go p e below (T225.setTop (mkF m 126 #[.val (.int (2 : Int32)), .val (.ref a), .val (.ref t), .val (.ref b139), .val (.ref b165), .val (.ref b179), .val (.int (3 : Int32)), .val (.int s2)] [(.ref b225)])) _
    refine Go.via (fun _ => XS.dup X225.here hx rfl (hb hby d1_126) rfl rfl) ?_
    refine Go.via (fun _ => XS.aloadN X225.here hx rfl (hb hby d1_127) rfl rfl) ?_
    refine Go.via (fun _ => XS.aload X225.here hx rfl (hb hby d1_128) rfl rfl) ?_
    have z241 : n0 ≤ h225.size := (Nat.le_trans z227 E225.1)
    obtain ⟨_, _, ⟨T240, L240, k240, n240⟩, -, X240, ⟨Lc240, hQ240, l240, y240, z240⟩, st240⟩ := X225.specialBack hx (y := (⟨"com/example/acquaint/acquaint/query/Adjacency", "<init>", "([I[I)V"⟩ : MethodName)) rfl hown (mvT hZ (tw hw 19 rfl)) (mvT hZ (tw hw 20 rfl)) (mvT hZ (tw hw 21 rfl)) (by decide) (backOf (W := 1) (rmI l Z a0 hw [] b225 b139 b165  h225 n0 z241 A225 f238 f239 ge236) hZ (tw hw 21 rfl) (tw hw 3 rfl) (by decide) (by decide)) (g := (mkF m 130 #[.val (.int (2 : Int32)), .val (.ref a), .val (.ref t), .val (.ref b139), .val (.ref b165), .val (.ref b179), .val (.int (3 : Int32)), .val (.int s2)] [(.ref b165), (.ref b139), (.ref b225), (.ref b225)])) rfl (by rw [hml]; rfl) (Steps.refl _) (a := b225) (argsL := [(.ref b139), (.ref b165)]) (rest := [(.ref b225)]) (lenOf pd__28_5bI_5bI_29V rfl) rfl (by show 2 * 0 + _ ≤ _; exact Nat.le_of_eq rfl) (hb hby d1_130) (fun _ _ => ⟨rfl, e225, (by decide : 4 + 0 ≤ _), (by decide : 12 + 0 ≤ _)⟩)
    dsimp only [Pt.U, Pt.locs, Pt.cells, Pt.slots] at X240 l240 y240 z240 st240 hQ240
    subst l240 y240 z240
    obtain ⟨rfl, N240q, K240q, f242, f243, f244⟩ := hQ240
    have N240 := Fr.app N221 N240q
    refine Go.via (fun _ kQ => st240.trans kQ) ?_
    clear st240
    have e240 : T240.heap = T240.heap := rfl
    have f245 : Exa Z T240.heap b225 "com/example/acquaint/acquaint/query/Adjacency" := f242
    have f246 : Fld Z T240.heap b225 "com/example/acquaint/acquaint/query/Adjacency" "offsets" "[I" (.ref b139) := f243
    have f247 : Fld Z T240.heap b225 "com/example/acquaint/acquaint/query/Adjacency" "targets" "[I" (.ref b165) := f244
    clear X225 e225
    show Go p e below (T240.setTop (mkF m 133 #[.val (.int (2 : Int32)), .val (.ref a), .val (.ref t), .val (.ref b139), .val (.ref b165), .val (.ref b179), .val (.int (3 : Int32)), .val (.int s2)] [(.ref b225)])) _
    have k248 : Keep h0 T240.heap [] := ((k226.ext E225).trans K240q (allS (Or.inr sz237) all0))
    have f249 : Ia Z T240.heap b139 .int o163 := ((f230.ext E225).keep K240q (ninS ne229 nin0))
    have f250 : Ia Z T240.heap b165 .int e223 := ((f222.ext E225).keep K240q (ninS ne231 nin0))
    exact Go.fin X240 hlk (v := some (.ref b225)) (fun h => by rw [Bd.returns] at h; cases h) (fun fs hr => retOut X240 hx Bd.returns rfl (Or.inr (Or.inr (Or.inr (Or.inr ⟨rfl, rfl, rfl⟩)))) (hb hby d1_133) hr) (by exact ⟨b139, b165, b225, o163, e223, rfl, N240, k248, sz143, sz173, sz237, f245, f246, f247, f249, f250, (own_r2 (t0 := t0) (t1 := t1) (t2 := t2) ho145 ho149 ho153 ho157 ho160 ho163 he175 hn191 hhw193 hn196 he201 hhw204 hn207 he212 hhw215 hn218 he223 r0 r1 r2)⟩) (by decide) (by decide)
  · have r0 := hs0.2.2.1 rfl
    have r1 := hs1.2.2.1 rfl
    have r2 := hs2.2.2.1 rfl
    show Go p e below (s₁.setTop (mkF m 0 #[.val (.int (3 : Int32)), .val (.ref a), .val (.ref t), .unset, .unset, .unset, .unset, .unset] [])) _
    refine Go.via (fun _ => XS.iloadN X0.here hx rfl (hb hby d1_0) rfl) ?_
    refine Go.via (fun _ => XS.iconst X0.here hx rfl (hb hby d1_1)) ?_
    refine Go.via (fun _ => XS.iadd X0.here hx rfl (hb hby d1_2) rfl) ?_
    show Go p e below (s₁.setTop (mkF m 3 #[.val (.int (3 : Int32)), .val (.ref a), .val (.ref t), .unset, .unset, .unset, .unset, .unset] [(.int (4 : Int32))])) _
    obtain ⟨T251, h251, k251, X251, e251, E251, A251, B251, st251⟩ := newPE X0 hx hZ (tw hw 0 rfl) e0 (g := (mkF m 3 #[.val (.int (3 : Int32)), .val (.ref a), .val (.ref t), .unset, .unset, .unset, .unset, .unset] [(.int (4 : Int32))])) rfl (hb hby d1_3) rfl (by decide) (cap := 4) (by decide) (by decide) (by decide) (by decide) (ad := "[I") (by decide)
    obtain ⟨b251, g251⟩ : ∃ z, z = h0.size := ⟨_, rfl⟩
    rw [← g251] at A251 B251 st251
    have ne252 : a ≠ b251 := Nat.ne_of_lt (Nat.lt_of_lt_of_le P0.lt (Nat.le_of_eq g251.symm))
    have ne253 : t ≠ b251 := Nat.ne_of_lt (Nat.lt_of_lt_of_le P1.lt (Nat.le_of_eq g251.symm))
    have ge254 : n0 ≤ b251 := Nat.le_trans Z0 (Nat.le_of_eq g251.symm)
    have sz255 : h0.size ≤ b251 := Nat.le_trans (Keep.refl h0 []).1 (Nat.le_of_eq g251.symm)
    refine Go.via (st251) ?_
    clear st251
    have f256 : Ia Z h251 b251 .int [(0 : Int32), (0 : Int32), (0 : Int32), (0 : Int32)] := Ia.new A251 rfl
    clear X0 e0
    show Go p e below (T251.setTop (mkF m 5 #[.val (.int (3 : Int32)), .val (.ref a), .val (.ref t), .unset, .unset, .unset, .unset, .unset] [(.ref b251)])) _
    obtain ⟨o257, ho257⟩ : ∃ z : List Int32, z = [(0 : Int32), (0 : Int32), (0 : Int32), (0 : Int32)] := ⟨_, rfl⟩
    rw [← ho257] at f256
    have lo257 : o257.length = 4 := by rw [ho257]; rfl
    refine Go.via (fun _ => XS.astoreN X251.here hx rfl (hb hby d1_5) rfl rfl (l' := #[.val (.int (3 : Int32)), .val (.ref a), .val (.ref t), .val (.ref b251), .unset, .unset, .unset, .unset]) rfl) ?_
    show Go p e below (T251.setTop (mkF m 6 #[.val (.int (3 : Int32)), .val (.ref a), .val (.ref t), .val (.ref b251), .unset, .unset, .unset, .unset] [])) _
    refine Go.via (fun _ => XS.aloadN X251.here hx rfl (hb hby d1_6) rfl rfl) ?_
    refine Go.via (fun _ => XS.astore X251.here hx rfl (hb hby d1_7) rfl rfl (l' := #[.val (.int (3 : Int32)), .val (.ref a), .val (.ref t), .val (.ref b251), .val (.ref a), .unset, .unset, .unset]) rfl) ?_
    show Go p e below (T251.setTop (mkF m 9 #[.val (.int (3 : Int32)), .val (.ref a), .val (.ref t), .val (.ref b251), .val (.ref a), .unset, .unset, .unset] [])) _
    refine Go.via (fun _ => XS.aload X251.here hx rfl (hb hby d1_9) rfl rfl) ?_
    have f258 : Ia Z h251 a .int [s0, s1, s2] := (P0.ext E251)
    refine Go.via (lenI X251 hx hZ e251 f258 (n := (3 : Int32)) rfl (g := (mkF m 11 #[.val (.int (3 : Int32)), .val (.ref a), .val (.ref t), .val (.ref b251), .val (.ref a), .unset, .unset, .unset] [(.ref a)])) rfl rfl (hb hby d1_11)) ?_
    show Go p e below (T251.setTop (mkF m 12 #[.val (.int (3 : Int32)), .val (.ref a), .val (.ref t), .val (.ref b251), .val (.ref a), .unset, .unset, .unset] [(.int (3 : Int32))])) _
    refine Go.via (fun _ => XS.istore X251.here hx rfl (hb hby d1_12) rfl (l' := #[.val (.int (3 : Int32)), .val (.ref a), .val (.ref t), .val (.ref b251), .val (.ref a), .val (.int (3 : Int32)), .unset, .unset]) rfl) ?_
    show Go p e below (T251.setTop (mkF m 14 #[.val (.int (3 : Int32)), .val (.ref a), .val (.ref t), .val (.ref b251), .val (.ref a), .val (.int (3 : Int32)), .unset, .unset] [])) _
    refine Go.via (fun _ => XS.iconst X251.here hx rfl (hb hby d1_14)) ?_
    refine Go.via (fun _ => XS.istore X251.here hx rfl (hb hby d1_15) rfl (l' := #[.val (.int (3 : Int32)), .val (.ref a), .val (.ref t), .val (.ref b251), .val (.ref a), .val (.int (3 : Int32)), .val (.int (0 : Int32)), .unset]) rfl) ?_
    show Go p e below (T251.setTop (mkF m 17 #[.val (.int (3 : Int32)), .val (.ref a), .val (.ref t), .val (.ref b251), .val (.ref a), .val (.int (3 : Int32)), .val (.int (0 : Int32)), .unset] [])) _
    refine Go.via (fun _ => XS.iload X251.here hx rfl (hb hby d1_17) rfl) ?_
    refine Go.via (fun _ => XS.iload X251.here hx rfl (hb hby d1_19) rfl) ?_
    refine Go.via (fun _ => XS.icmpNo X251.here hx rfl (hb hby d1_21) rfl (tlt ((by decide) : (0 : Int32) < (3 : Int32))).2.1) ?_
    show Go p e below (T251.setTop (mkF m 24 #[.val (.int (3 : Int32)), .val (.ref a), .val (.ref t), .val (.ref b251), .val (.ref a), .val (.int (3 : Int32)), .val (.int (0 : Int32)), .unset] [])) _
    refine Go.via (fun _ => XS.aload X251.here hx rfl (hb hby d1_24) rfl rfl) ?_
    refine Go.via (fun _ => XS.iload X251.here hx rfl (hb hby d1_26) rfl) ?_
    refine Go.via (ldI X251 hx hZ e251 f258 (v := s0) (by decide) rfl (g := (mkF m 28 #[.val (.int (3 : Int32)), .val (.ref a), .val (.ref t), .val (.ref b251), .val (.ref a), .val (.int (3 : Int32)), .val (.int (0 : Int32)), .unset] [(.int (0 : Int32)), (.ref a)])) rfl rfl (hb hby d1_28)) ?_
    show Go p e below (T251.setTop (mkF m 29 #[.val (.int (3 : Int32)), .val (.ref a), .val (.ref t), .val (.ref b251), .val (.ref a), .val (.int (3 : Int32)), .val (.int (0 : Int32)), .unset] [(.int s0)])) _
    refine Go.via (fun _ => XS.istore X251.here hx rfl (hb hby d1_29) rfl (l' := #[.val (.int (3 : Int32)), .val (.ref a), .val (.ref t), .val (.ref b251), .val (.ref a), .val (.int (3 : Int32)), .val (.int (0 : Int32)), .val (.int s0)]) rfl) ?_
    show Go p e below (T251.setTop (mkF m 31 #[.val (.int (3 : Int32)), .val (.ref a), .val (.ref t), .val (.ref b251), .val (.ref a), .val (.int (3 : Int32)), .val (.int (0 : Int32)), .val (.int s0)] [])) _
    refine Go.via (fun _ => XS.aloadN X251.here hx rfl (hb hby d1_31) rfl rfl) ?_
    refine Go.via (fun _ => XS.iload X251.here hx rfl (hb hby d1_32) rfl) ?_
    refine Go.via (fun _ => XS.iconst X251.here hx rfl (hb hby d1_34)) ?_
    refine Go.via (fun _ => XS.iadd X251.here hx rfl (hb hby d1_35) rfl) ?_
    show Go p e below (T251.setTop (mkF m 36 #[.val (.int (3 : Int32)), .val (.ref a), .val (.ref t), .val (.ref b251), .val (.ref a), .val (.int (3 : Int32)), .val (.int (0 : Int32)), .val (.int s0)] [(.int (s0 + (1 : Int32))), (.ref b251)])) _
    refine Go.via (S' := T251.setTop (mkF m 37 #[.val (.int (3 : Int32)), .val (.ref a), .val (.ref t), .val (.ref b251), .val (.ref a), .val (.int (3 : Int32)), .val (.int (0 : Int32)), .val (.int s0)] [(.int (s0 + (1 : Int32))), (.ref b251), (.int (s0 + (1 : Int32))), (.ref b251)])) (fun tQ kQ => ?_) ?_
    · jvm_step X251.here [X251.here.top, hx, (hb hby d1_36), Value.category]
      exact kQ
    show Go p e below (T251.setTop (mkF m 37 #[.val (.int (3 : Int32)), .val (.ref a), .val (.ref t), .val (.ref b251), .val (.ref a), .val (.int (3 : Int32)), .val (.int (0 : Int32)), .val (.int s0)] [(.int (s0 + (1 : Int32))), (.ref b251), (.int (s0 + (1 : Int32))), (.ref b251)])) _
    refine Go.via (ldI X251 hx hZ e251 f256 (v := (List.getD o257 ((s0 + (1 : Int32))).toNatClampNeg 0)) (by rcases r0 with rfl | rfl | rfl <;> decide) (own_get (by rcases r0 with rfl | rfl | rfl <;> decide) (by rw [lo257]; rcases r0 with rfl | rfl | rfl <;> decide)) (g := (mkF m 37 #[.val (.int (3 : Int32)), .val (.ref a), .val (.ref t), .val (.ref b251), .val (.ref a), .val (.int (3 : Int32)), .val (.int (0 : Int32)), .val (.int s0)] [(.int (s0 + (1 : Int32))), (.ref b251), (.int (s0 + (1 : Int32))), (.ref b251)])) rfl rfl (hb hby d1_37)) ?_
    show Go p e below (T251.setTop (mkF m 38 #[.val (.int (3 : Int32)), .val (.ref a), .val (.ref t), .val (.ref b251), .val (.ref a), .val (.int (3 : Int32)), .val (.int (0 : Int32)), .val (.int s0)] [(.int (List.getD o257 ((s0 + (1 : Int32))).toNatClampNeg 0)), (.int (s0 + (1 : Int32))), (.ref b251)])) _
    refine Go.via (fun _ => XS.iconst X251.here hx rfl (hb hby d1_38)) ?_
    refine Go.via (fun _ => XS.iadd X251.here hx rfl (hb hby d1_39) rfl) ?_
    show Go p e below (T251.setTop (mkF m 40 #[.val (.int (3 : Int32)), .val (.ref a), .val (.ref t), .val (.ref b251), .val (.ref a), .val (.int (3 : Int32)), .val (.int (0 : Int32)), .val (.int s0)] [(.int ((List.getD o257 ((s0 + (1 : Int32))).toNatClampNeg 0) + (1 : Int32))), (.int (s0 + (1 : Int32))), (.ref b251)])) _
    obtain ⟨T259, h259, X259, e259, W259, V259, st259⟩ := stI' X251 hx hZ e251 f256 (j := (s0 + (1 : Int32))) (by rcases r0 with rfl | rfl | rfl <;> decide) (by rw [lo257]; rcases r0 with rfl | rfl | rfl <;> decide) (g := (mkF m 40 #[.val (.int (3 : Int32)), .val (.ref a), .val (.ref t), .val (.ref b251), .val (.ref a), .val (.int (3 : Int32)), .val (.int (0 : Int32)), .val (.int s0)] [(.int ((List.getD o257 ((s0 + (1 : Int32))).toNatClampNeg 0) + (1 : Int32))), (.int (s0 + (1 : Int32))), (.ref b251)])) rfl rfl (hb hby d1_40)
    refine Go.via (st259) ?_
    clear st259
    have N259 := Fr.snoc X259 N0 ge254
    have f260 : Ia Z h259 b251 .int (List.set o257 ((s0 + (1 : Int32))).toNatClampNeg ((List.getD o257 ((s0 + (1 : Int32))).toNatClampNeg 0) + (1 : Int32))) := V259
    clear X251 e251
    show Go p e below (T259.setTop (mkF m 41 #[.val (.int (3 : Int32)), .val (.ref a), .val (.ref t), .val (.ref b251), .val (.ref a), .val (.int (3 : Int32)), .val (.int (0 : Int32)), .val (.int s0)] [])) _
    obtain ⟨o261, ho261⟩ : ∃ z : List Int32, z = (List.set o257 ((s0 + (1 : Int32))).toNatClampNeg ((List.getD o257 ((s0 + (1 : Int32))).toNatClampNeg 0) + (1 : Int32))) := ⟨_, rfl⟩
    rw [← ho261] at f260
    have lo261 : o261.length = 4 := by rw [ho261, List.length_set]; exact lo257
    refine Go.via (fun _ => XS.iinc X259.here hx rfl (hb hby d1_41) rfl (l' := #[.val (.int (3 : Int32)), .val (.ref a), .val (.ref t), .val (.ref b251), .val (.ref a), .val (.int (3 : Int32)), .val (.int (1 : Int32)), .val (.int s0)]) rfl) ?_
    show Go p e below (T259.setTop (mkF m 44 #[.val (.int (3 : Int32)), .val (.ref a), .val (.ref t), .val (.ref b251), .val (.ref a), .val (.int (3 : Int32)), .val (.int (1 : Int32)), .val (.int s0)] [])) _
    refine Go.via (fun _ => XS.goto X259.here hx rfl (pc0 := 44) (pc' := 17) rfl (hb hby d1_44) (by decide) (by decide)) ?_
    refine Go.via (fun _ => XS.iload X259.here hx rfl (hb hby d1_17) rfl) ?_
    refine Go.via (fun _ => XS.iload X259.here hx rfl (hb hby d1_19) rfl) ?_
    refine Go.via (fun _ => XS.icmpNo X259.here hx rfl (hb hby d1_21) rfl (tlt ((by decide) : (1 : Int32) < (3 : Int32))).2.1) ?_
    show Go p e below (T259.setTop (mkF m 24 #[.val (.int (3 : Int32)), .val (.ref a), .val (.ref t), .val (.ref b251), .val (.ref a), .val (.int (3 : Int32)), .val (.int (1 : Int32)), .val (.int s0)] [])) _
    refine Go.via (fun _ => XS.aload X259.here hx rfl (hb hby d1_24) rfl rfl) ?_
    refine Go.via (fun _ => XS.iload X259.here hx rfl (hb hby d1_26) rfl) ?_
    have f262 : Ia Z h259 a .int [s0, s1, s2] := (f258.other W259 ne252)
    refine Go.via (ldI X259 hx hZ e259 f262 (v := s1) (by decide) rfl (g := (mkF m 28 #[.val (.int (3 : Int32)), .val (.ref a), .val (.ref t), .val (.ref b251), .val (.ref a), .val (.int (3 : Int32)), .val (.int (1 : Int32)), .val (.int s0)] [(.int (1 : Int32)), (.ref a)])) rfl rfl (hb hby d1_28)) ?_
    show Go p e below (T259.setTop (mkF m 29 #[.val (.int (3 : Int32)), .val (.ref a), .val (.ref t), .val (.ref b251), .val (.ref a), .val (.int (3 : Int32)), .val (.int (1 : Int32)), .val (.int s0)] [(.int s1)])) _
    refine Go.via (fun _ => XS.istore X259.here hx rfl (hb hby d1_29) rfl (l' := #[.val (.int (3 : Int32)), .val (.ref a), .val (.ref t), .val (.ref b251), .val (.ref a), .val (.int (3 : Int32)), .val (.int (1 : Int32)), .val (.int s1)]) rfl) ?_
    show Go p e below (T259.setTop (mkF m 31 #[.val (.int (3 : Int32)), .val (.ref a), .val (.ref t), .val (.ref b251), .val (.ref a), .val (.int (3 : Int32)), .val (.int (1 : Int32)), .val (.int s1)] [])) _
    refine Go.via (fun _ => XS.aloadN X259.here hx rfl (hb hby d1_31) rfl rfl) ?_
    refine Go.via (fun _ => XS.iload X259.here hx rfl (hb hby d1_32) rfl) ?_
    refine Go.via (fun _ => XS.iconst X259.here hx rfl (hb hby d1_34)) ?_
    refine Go.via (fun _ => XS.iadd X259.here hx rfl (hb hby d1_35) rfl) ?_
    show Go p e below (T259.setTop (mkF m 36 #[.val (.int (3 : Int32)), .val (.ref a), .val (.ref t), .val (.ref b251), .val (.ref a), .val (.int (3 : Int32)), .val (.int (1 : Int32)), .val (.int s1)] [(.int (s1 + (1 : Int32))), (.ref b251)])) _
    refine Go.via (S' := T259.setTop (mkF m 37 #[.val (.int (3 : Int32)), .val (.ref a), .val (.ref t), .val (.ref b251), .val (.ref a), .val (.int (3 : Int32)), .val (.int (1 : Int32)), .val (.int s1)] [(.int (s1 + (1 : Int32))), (.ref b251), (.int (s1 + (1 : Int32))), (.ref b251)])) (fun tQ kQ => ?_) ?_
    · jvm_step X259.here [X259.here.top, hx, (hb hby d1_36), Value.category]
      exact kQ
    show Go p e below (T259.setTop (mkF m 37 #[.val (.int (3 : Int32)), .val (.ref a), .val (.ref t), .val (.ref b251), .val (.ref a), .val (.int (3 : Int32)), .val (.int (1 : Int32)), .val (.int s1)] [(.int (s1 + (1 : Int32))), (.ref b251), (.int (s1 + (1 : Int32))), (.ref b251)])) _
    refine Go.via (ldI X259 hx hZ e259 f260 (v := (List.getD o261 ((s1 + (1 : Int32))).toNatClampNeg 0)) (by rcases r1 with rfl | rfl | rfl <;> decide) (own_get (by rcases r1 with rfl | rfl | rfl <;> decide) (by rw [lo261]; rcases r1 with rfl | rfl | rfl <;> decide)) (g := (mkF m 37 #[.val (.int (3 : Int32)), .val (.ref a), .val (.ref t), .val (.ref b251), .val (.ref a), .val (.int (3 : Int32)), .val (.int (1 : Int32)), .val (.int s1)] [(.int (s1 + (1 : Int32))), (.ref b251), (.int (s1 + (1 : Int32))), (.ref b251)])) rfl rfl (hb hby d1_37)) ?_
    show Go p e below (T259.setTop (mkF m 38 #[.val (.int (3 : Int32)), .val (.ref a), .val (.ref t), .val (.ref b251), .val (.ref a), .val (.int (3 : Int32)), .val (.int (1 : Int32)), .val (.int s1)] [(.int (List.getD o261 ((s1 + (1 : Int32))).toNatClampNeg 0)), (.int (s1 + (1 : Int32))), (.ref b251)])) _
    refine Go.via (fun _ => XS.iconst X259.here hx rfl (hb hby d1_38)) ?_
    refine Go.via (fun _ => XS.iadd X259.here hx rfl (hb hby d1_39) rfl) ?_
    show Go p e below (T259.setTop (mkF m 40 #[.val (.int (3 : Int32)), .val (.ref a), .val (.ref t), .val (.ref b251), .val (.ref a), .val (.int (3 : Int32)), .val (.int (1 : Int32)), .val (.int s1)] [(.int ((List.getD o261 ((s1 + (1 : Int32))).toNatClampNeg 0) + (1 : Int32))), (.int (s1 + (1 : Int32))), (.ref b251)])) _
    obtain ⟨T263, h263, X263, e263, W263, V263, st263⟩ := stI' X259 hx hZ e259 f260 (j := (s1 + (1 : Int32))) (by rcases r1 with rfl | rfl | rfl <;> decide) (by rw [lo261]; rcases r1 with rfl | rfl | rfl <;> decide) (g := (mkF m 40 #[.val (.int (3 : Int32)), .val (.ref a), .val (.ref t), .val (.ref b251), .val (.ref a), .val (.int (3 : Int32)), .val (.int (1 : Int32)), .val (.int s1)] [(.int ((List.getD o261 ((s1 + (1 : Int32))).toNatClampNeg 0) + (1 : Int32))), (.int (s1 + (1 : Int32))), (.ref b251)])) rfl rfl (hb hby d1_40)
    refine Go.via (st263) ?_
    clear st263
    have N263 := Fr.snoc X263 N259 ge254
    have f264 : Ia Z h263 b251 .int (List.set o261 ((s1 + (1 : Int32))).toNatClampNeg ((List.getD o261 ((s1 + (1 : Int32))).toNatClampNeg 0) + (1 : Int32))) := V263
    clear X259 e259
    show Go p e below (T263.setTop (mkF m 41 #[.val (.int (3 : Int32)), .val (.ref a), .val (.ref t), .val (.ref b251), .val (.ref a), .val (.int (3 : Int32)), .val (.int (1 : Int32)), .val (.int s1)] [])) _
    obtain ⟨o265, ho265⟩ : ∃ z : List Int32, z = (List.set o261 ((s1 + (1 : Int32))).toNatClampNeg ((List.getD o261 ((s1 + (1 : Int32))).toNatClampNeg 0) + (1 : Int32))) := ⟨_, rfl⟩
    rw [← ho265] at f264
    have lo265 : o265.length = 4 := by rw [ho265, List.length_set]; exact lo261
    refine Go.via (fun _ => XS.iinc X263.here hx rfl (hb hby d1_41) rfl (l' := #[.val (.int (3 : Int32)), .val (.ref a), .val (.ref t), .val (.ref b251), .val (.ref a), .val (.int (3 : Int32)), .val (.int (2 : Int32)), .val (.int s1)]) rfl) ?_
    show Go p e below (T263.setTop (mkF m 44 #[.val (.int (3 : Int32)), .val (.ref a), .val (.ref t), .val (.ref b251), .val (.ref a), .val (.int (3 : Int32)), .val (.int (2 : Int32)), .val (.int s1)] [])) _
    refine Go.via (fun _ => XS.goto X263.here hx rfl (pc0 := 44) (pc' := 17) rfl (hb hby d1_44) (by decide) (by decide)) ?_
    refine Go.via (fun _ => XS.iload X263.here hx rfl (hb hby d1_17) rfl) ?_
    refine Go.via (fun _ => XS.iload X263.here hx rfl (hb hby d1_19) rfl) ?_
    refine Go.via (fun _ => XS.icmpNo X263.here hx rfl (hb hby d1_21) rfl (tlt ((by decide) : (2 : Int32) < (3 : Int32))).2.1) ?_
    show Go p e below (T263.setTop (mkF m 24 #[.val (.int (3 : Int32)), .val (.ref a), .val (.ref t), .val (.ref b251), .val (.ref a), .val (.int (3 : Int32)), .val (.int (2 : Int32)), .val (.int s1)] [])) _
    refine Go.via (fun _ => XS.aload X263.here hx rfl (hb hby d1_24) rfl rfl) ?_
    refine Go.via (fun _ => XS.iload X263.here hx rfl (hb hby d1_26) rfl) ?_
    have f266 : Ia Z h263 a .int [s0, s1, s2] := (f262.other W263 ne252)
    refine Go.via (ldI X263 hx hZ e263 f266 (v := s2) (by decide) rfl (g := (mkF m 28 #[.val (.int (3 : Int32)), .val (.ref a), .val (.ref t), .val (.ref b251), .val (.ref a), .val (.int (3 : Int32)), .val (.int (2 : Int32)), .val (.int s1)] [(.int (2 : Int32)), (.ref a)])) rfl rfl (hb hby d1_28)) ?_
    show Go p e below (T263.setTop (mkF m 29 #[.val (.int (3 : Int32)), .val (.ref a), .val (.ref t), .val (.ref b251), .val (.ref a), .val (.int (3 : Int32)), .val (.int (2 : Int32)), .val (.int s1)] [(.int s2)])) _
    refine Go.via (fun _ => XS.istore X263.here hx rfl (hb hby d1_29) rfl (l' := #[.val (.int (3 : Int32)), .val (.ref a), .val (.ref t), .val (.ref b251), .val (.ref a), .val (.int (3 : Int32)), .val (.int (2 : Int32)), .val (.int s2)]) rfl) ?_
    show Go p e below (T263.setTop (mkF m 31 #[.val (.int (3 : Int32)), .val (.ref a), .val (.ref t), .val (.ref b251), .val (.ref a), .val (.int (3 : Int32)), .val (.int (2 : Int32)), .val (.int s2)] [])) _
    refine Go.via (fun _ => XS.aloadN X263.here hx rfl (hb hby d1_31) rfl rfl) ?_
    refine Go.via (fun _ => XS.iload X263.here hx rfl (hb hby d1_32) rfl) ?_
    refine Go.via (fun _ => XS.iconst X263.here hx rfl (hb hby d1_34)) ?_
    refine Go.via (fun _ => XS.iadd X263.here hx rfl (hb hby d1_35) rfl) ?_
    show Go p e below (T263.setTop (mkF m 36 #[.val (.int (3 : Int32)), .val (.ref a), .val (.ref t), .val (.ref b251), .val (.ref a), .val (.int (3 : Int32)), .val (.int (2 : Int32)), .val (.int s2)] [(.int (s2 + (1 : Int32))), (.ref b251)])) _
    refine Go.via (S' := T263.setTop (mkF m 37 #[.val (.int (3 : Int32)), .val (.ref a), .val (.ref t), .val (.ref b251), .val (.ref a), .val (.int (3 : Int32)), .val (.int (2 : Int32)), .val (.int s2)] [(.int (s2 + (1 : Int32))), (.ref b251), (.int (s2 + (1 : Int32))), (.ref b251)])) (fun tQ kQ => ?_) ?_
    · jvm_step X263.here [X263.here.top, hx, (hb hby d1_36), Value.category]
      exact kQ
    show Go p e below (T263.setTop (mkF m 37 #[.val (.int (3 : Int32)), .val (.ref a), .val (.ref t), .val (.ref b251), .val (.ref a), .val (.int (3 : Int32)), .val (.int (2 : Int32)), .val (.int s2)] [(.int (s2 + (1 : Int32))), (.ref b251), (.int (s2 + (1 : Int32))), (.ref b251)])) _
    refine Go.via (ldI X263 hx hZ e263 f264 (v := (List.getD o265 ((s2 + (1 : Int32))).toNatClampNeg 0)) (by rcases r2 with rfl | rfl | rfl <;> decide) (own_get (by rcases r2 with rfl | rfl | rfl <;> decide) (by rw [lo265]; rcases r2 with rfl | rfl | rfl <;> decide)) (g := (mkF m 37 #[.val (.int (3 : Int32)), .val (.ref a), .val (.ref t), .val (.ref b251), .val (.ref a), .val (.int (3 : Int32)), .val (.int (2 : Int32)), .val (.int s2)] [(.int (s2 + (1 : Int32))), (.ref b251), (.int (s2 + (1 : Int32))), (.ref b251)])) rfl rfl (hb hby d1_37)) ?_
    show Go p e below (T263.setTop (mkF m 38 #[.val (.int (3 : Int32)), .val (.ref a), .val (.ref t), .val (.ref b251), .val (.ref a), .val (.int (3 : Int32)), .val (.int (2 : Int32)), .val (.int s2)] [(.int (List.getD o265 ((s2 + (1 : Int32))).toNatClampNeg 0)), (.int (s2 + (1 : Int32))), (.ref b251)])) _
    refine Go.via (fun _ => XS.iconst X263.here hx rfl (hb hby d1_38)) ?_
    refine Go.via (fun _ => XS.iadd X263.here hx rfl (hb hby d1_39) rfl) ?_
    show Go p e below (T263.setTop (mkF m 40 #[.val (.int (3 : Int32)), .val (.ref a), .val (.ref t), .val (.ref b251), .val (.ref a), .val (.int (3 : Int32)), .val (.int (2 : Int32)), .val (.int s2)] [(.int ((List.getD o265 ((s2 + (1 : Int32))).toNatClampNeg 0) + (1 : Int32))), (.int (s2 + (1 : Int32))), (.ref b251)])) _
    obtain ⟨T267, h267, X267, e267, W267, V267, st267⟩ := stI' X263 hx hZ e263 f264 (j := (s2 + (1 : Int32))) (by rcases r2 with rfl | rfl | rfl <;> decide) (by rw [lo265]; rcases r2 with rfl | rfl | rfl <;> decide) (g := (mkF m 40 #[.val (.int (3 : Int32)), .val (.ref a), .val (.ref t), .val (.ref b251), .val (.ref a), .val (.int (3 : Int32)), .val (.int (2 : Int32)), .val (.int s2)] [(.int ((List.getD o265 ((s2 + (1 : Int32))).toNatClampNeg 0) + (1 : Int32))), (.int (s2 + (1 : Int32))), (.ref b251)])) rfl rfl (hb hby d1_40)
    refine Go.via (st267) ?_
    clear st267
    have N267 := Fr.snoc X267 N263 ge254
    have f268 : Ia Z h267 b251 .int (List.set o265 ((s2 + (1 : Int32))).toNatClampNeg ((List.getD o265 ((s2 + (1 : Int32))).toNatClampNeg 0) + (1 : Int32))) := V267
    clear X263 e263
    show Go p e below (T267.setTop (mkF m 41 #[.val (.int (3 : Int32)), .val (.ref a), .val (.ref t), .val (.ref b251), .val (.ref a), .val (.int (3 : Int32)), .val (.int (2 : Int32)), .val (.int s2)] [])) _
    obtain ⟨o269, ho269⟩ : ∃ z : List Int32, z = (List.set o265 ((s2 + (1 : Int32))).toNatClampNeg ((List.getD o265 ((s2 + (1 : Int32))).toNatClampNeg 0) + (1 : Int32))) := ⟨_, rfl⟩
    rw [← ho269] at f268
    have lo269 : o269.length = 4 := by rw [ho269, List.length_set]; exact lo265
    refine Go.via (fun _ => XS.iinc X267.here hx rfl (hb hby d1_41) rfl (l' := #[.val (.int (3 : Int32)), .val (.ref a), .val (.ref t), .val (.ref b251), .val (.ref a), .val (.int (3 : Int32)), .val (.int (3 : Int32)), .val (.int s2)]) rfl) ?_
    show Go p e below (T267.setTop (mkF m 44 #[.val (.int (3 : Int32)), .val (.ref a), .val (.ref t), .val (.ref b251), .val (.ref a), .val (.int (3 : Int32)), .val (.int (3 : Int32)), .val (.int s2)] [])) _
    refine Go.via (fun _ => XS.goto X267.here hx rfl (pc0 := 44) (pc' := 17) rfl (hb hby d1_44) (by decide) (by decide)) ?_
    refine Go.via (fun _ => XS.iload X267.here hx rfl (hb hby d1_17) rfl) ?_
    refine Go.via (fun _ => XS.iload X267.here hx rfl (hb hby d1_19) rfl) ?_
    refine Go.via (fun _ => XS.icmpYes X267.here hx rfl (pc0 := 21) (pc' := 47) rfl (hb hby d1_21) rfl (flt ((by decide) : ¬ ((3 : Int32) < (3 : Int32)))).2.1 (by decide) (by decide)) ?_
    show Go p e below (T267.setTop (mkF m 47 #[.val (.int (3 : Int32)), .val (.ref a), .val (.ref t), .val (.ref b251), .val (.ref a), .val (.int (3 : Int32)), .val (.int (3 : Int32)), .val (.int s2)] [])) _
    refine Go.via (fun _ => XS.iconst X267.here hx rfl (hb hby d1_47)) ?_
    refine Go.via (fun _ => XS.istore X267.here hx rfl (hb hby d1_48) rfl (l' := #[.val (.int (3 : Int32)), .val (.ref a), .val (.ref t), .val (.ref b251), .val (.int (0 : Int32)), .val (.int (3 : Int32)), .val (.int (3 : Int32)), .val (.int s2)]) rfl) ?_
    show Go p e below (T267.setTop (mkF m 50 #[.val (.int (3 : Int32)), .val (.ref a), .val (.ref t), .val (.ref b251), .val (.int (0 : Int32)), .val (.int (3 : Int32)), .val (.int (3 : Int32)), .val (.int s2)] [])) _
    refine Go.via (fun _ => XS.iload X267.here hx rfl (hb hby d1_50) rfl) ?_
    refine Go.via (fun _ => XS.iloadN X267.here hx rfl (hb hby d1_52) rfl) ?_
    refine Go.via (fun _ => XS.icmpNo X267.here hx rfl (hb hby d1_53) rfl (tlt ((by decide) : (0 : Int32) < (3 : Int32))).2.1) ?_
    show Go p e below (T267.setTop (mkF m 56 #[.val (.int (3 : Int32)), .val (.ref a), .val (.ref t), .val (.ref b251), .val (.int (0 : Int32)), .val (.int (3 : Int32)), .val (.int (3 : Int32)), .val (.int s2)] [])) _
    refine Go.via (fun _ => XS.aloadN X267.here hx rfl (hb hby d1_56) rfl rfl) ?_
    refine Go.via (fun _ => XS.iload X267.here hx rfl (hb hby d1_57) rfl) ?_
    refine Go.via (fun _ => XS.iconst X267.here hx rfl (hb hby d1_59)) ?_
    refine Go.via (fun _ => XS.iadd X267.here hx rfl (hb hby d1_60) rfl) ?_
    show Go p e below (T267.setTop (mkF m 61 #[.val (.int (3 : Int32)), .val (.ref a), .val (.ref t), .val (.ref b251), .val (.int (0 : Int32)), .val (.int (3 : Int32)), .val (.int (3 : Int32)), .val (.int s2)] [(.int (1 : Int32)), (.ref b251)])) _
    refine Go.via (S' := T267.setTop (mkF m 62 #[.val (.int (3 : Int32)), .val (.ref a), .val (.ref t), .val (.ref b251), .val (.int (0 : Int32)), .val (.int (3 : Int32)), .val (.int (3 : Int32)), .val (.int s2)] [(.int (1 : Int32)), (.ref b251), (.int (1 : Int32)), (.ref b251)])) (fun tQ kQ => ?_) ?_
    · jvm_step X267.here [X267.here.top, hx, (hb hby d1_61), Value.category]
      exact kQ
    show Go p e below (T267.setTop (mkF m 62 #[.val (.int (3 : Int32)), .val (.ref a), .val (.ref t), .val (.ref b251), .val (.int (0 : Int32)), .val (.int (3 : Int32)), .val (.int (3 : Int32)), .val (.int s2)] [(.int (1 : Int32)), (.ref b251), (.int (1 : Int32)), (.ref b251)])) _
    refine Go.via (ldI X267 hx hZ e267 f268 (v := (List.getD o269 ((1 : Int32)).toNatClampNeg 0)) (by decide) (own_get (by decide) (by rw [lo269]; decide)) (g := (mkF m 62 #[.val (.int (3 : Int32)), .val (.ref a), .val (.ref t), .val (.ref b251), .val (.int (0 : Int32)), .val (.int (3 : Int32)), .val (.int (3 : Int32)), .val (.int s2)] [(.int (1 : Int32)), (.ref b251), (.int (1 : Int32)), (.ref b251)])) rfl rfl (hb hby d1_62)) ?_
    show Go p e below (T267.setTop (mkF m 63 #[.val (.int (3 : Int32)), .val (.ref a), .val (.ref t), .val (.ref b251), .val (.int (0 : Int32)), .val (.int (3 : Int32)), .val (.int (3 : Int32)), .val (.int s2)] [(.int (List.getD o269 ((1 : Int32)).toNatClampNeg 0)), (.int (1 : Int32)), (.ref b251)])) _
    refine Go.via (fun _ => XS.aloadN X267.here hx rfl (hb hby d1_63) rfl rfl) ?_
    refine Go.via (fun _ => XS.iload X267.here hx rfl (hb hby d1_64) rfl) ?_
    refine Go.via (ldI X267 hx hZ e267 f268 (v := (List.getD o269 ((0 : Int32)).toNatClampNeg 0)) (by decide) (own_get (by decide) (by rw [lo269]; decide)) (g := (mkF m 66 #[.val (.int (3 : Int32)), .val (.ref a), .val (.ref t), .val (.ref b251), .val (.int (0 : Int32)), .val (.int (3 : Int32)), .val (.int (3 : Int32)), .val (.int s2)] [(.int (0 : Int32)), (.ref b251), (.int (List.getD o269 ((1 : Int32)).toNatClampNeg 0)), (.int (1 : Int32)), (.ref b251)])) rfl rfl (hb hby d1_66)) ?_
    show Go p e below (T267.setTop (mkF m 67 #[.val (.int (3 : Int32)), .val (.ref a), .val (.ref t), .val (.ref b251), .val (.int (0 : Int32)), .val (.int (3 : Int32)), .val (.int (3 : Int32)), .val (.int s2)] [(.int (List.getD o269 ((0 : Int32)).toNatClampNeg 0)), (.int (List.getD o269 ((1 : Int32)).toNatClampNeg 0)), (.int (1 : Int32)), (.ref b251)])) _
    refine Go.via (fun _ => XS.iadd X267.here hx rfl (hb hby d1_67) rfl) ?_
    show Go p e below (T267.setTop (mkF m 68 #[.val (.int (3 : Int32)), .val (.ref a), .val (.ref t), .val (.ref b251), .val (.int (0 : Int32)), .val (.int (3 : Int32)), .val (.int (3 : Int32)), .val (.int s2)] [(.int ((List.getD o269 ((1 : Int32)).toNatClampNeg 0) + (List.getD o269 ((0 : Int32)).toNatClampNeg 0))), (.int (1 : Int32)), (.ref b251)])) _
    obtain ⟨T270, h270, X270, e270, W270, V270, st270⟩ := stI' X267 hx hZ e267 f268 (j := (1 : Int32)) (by decide) (by rw [lo269]; decide) (g := (mkF m 68 #[.val (.int (3 : Int32)), .val (.ref a), .val (.ref t), .val (.ref b251), .val (.int (0 : Int32)), .val (.int (3 : Int32)), .val (.int (3 : Int32)), .val (.int s2)] [(.int ((List.getD o269 ((1 : Int32)).toNatClampNeg 0) + (List.getD o269 ((0 : Int32)).toNatClampNeg 0))), (.int (1 : Int32)), (.ref b251)])) rfl rfl (hb hby d1_68)
    refine Go.via (st270) ?_
    clear st270
    have N270 := Fr.snoc X270 N267 ge254
    have f271 : Ia Z h270 b251 .int (List.set o269 ((1 : Int32)).toNatClampNeg ((List.getD o269 ((1 : Int32)).toNatClampNeg 0) + (List.getD o269 ((0 : Int32)).toNatClampNeg 0))) := V270
    clear X267 e267
    show Go p e below (T270.setTop (mkF m 69 #[.val (.int (3 : Int32)), .val (.ref a), .val (.ref t), .val (.ref b251), .val (.int (0 : Int32)), .val (.int (3 : Int32)), .val (.int (3 : Int32)), .val (.int s2)] [])) _
    obtain ⟨o272, ho272⟩ : ∃ z : List Int32, z = (List.set o269 ((1 : Int32)).toNatClampNeg ((List.getD o269 ((1 : Int32)).toNatClampNeg 0) + (List.getD o269 ((0 : Int32)).toNatClampNeg 0))) := ⟨_, rfl⟩
    rw [← ho272] at f271
    have lo272 : o272.length = 4 := by rw [ho272, List.length_set]; exact lo269
    refine Go.via (fun _ => XS.iinc X270.here hx rfl (hb hby d1_69) rfl (l' := #[.val (.int (3 : Int32)), .val (.ref a), .val (.ref t), .val (.ref b251), .val (.int (1 : Int32)), .val (.int (3 : Int32)), .val (.int (3 : Int32)), .val (.int s2)]) rfl) ?_
    show Go p e below (T270.setTop (mkF m 72 #[.val (.int (3 : Int32)), .val (.ref a), .val (.ref t), .val (.ref b251), .val (.int (1 : Int32)), .val (.int (3 : Int32)), .val (.int (3 : Int32)), .val (.int s2)] [])) _
    refine Go.via (fun _ => XS.goto X270.here hx rfl (pc0 := 72) (pc' := 50) rfl (hb hby d1_72) (by decide) (by decide)) ?_
    refine Go.via (fun _ => XS.iload X270.here hx rfl (hb hby d1_50) rfl) ?_
    refine Go.via (fun _ => XS.iloadN X270.here hx rfl (hb hby d1_52) rfl) ?_
    refine Go.via (fun _ => XS.icmpNo X270.here hx rfl (hb hby d1_53) rfl (tlt ((by decide) : (1 : Int32) < (3 : Int32))).2.1) ?_
    show Go p e below (T270.setTop (mkF m 56 #[.val (.int (3 : Int32)), .val (.ref a), .val (.ref t), .val (.ref b251), .val (.int (1 : Int32)), .val (.int (3 : Int32)), .val (.int (3 : Int32)), .val (.int s2)] [])) _
    refine Go.via (fun _ => XS.aloadN X270.here hx rfl (hb hby d1_56) rfl rfl) ?_
    refine Go.via (fun _ => XS.iload X270.here hx rfl (hb hby d1_57) rfl) ?_
    refine Go.via (fun _ => XS.iconst X270.here hx rfl (hb hby d1_59)) ?_
    refine Go.via (fun _ => XS.iadd X270.here hx rfl (hb hby d1_60) rfl) ?_
    show Go p e below (T270.setTop (mkF m 61 #[.val (.int (3 : Int32)), .val (.ref a), .val (.ref t), .val (.ref b251), .val (.int (1 : Int32)), .val (.int (3 : Int32)), .val (.int (3 : Int32)), .val (.int s2)] [(.int (2 : Int32)), (.ref b251)])) _
    refine Go.via (S' := T270.setTop (mkF m 62 #[.val (.int (3 : Int32)), .val (.ref a), .val (.ref t), .val (.ref b251), .val (.int (1 : Int32)), .val (.int (3 : Int32)), .val (.int (3 : Int32)), .val (.int s2)] [(.int (2 : Int32)), (.ref b251), (.int (2 : Int32)), (.ref b251)])) (fun tQ kQ => ?_) ?_
    · jvm_step X270.here [X270.here.top, hx, (hb hby d1_61), Value.category]
      exact kQ
    show Go p e below (T270.setTop (mkF m 62 #[.val (.int (3 : Int32)), .val (.ref a), .val (.ref t), .val (.ref b251), .val (.int (1 : Int32)), .val (.int (3 : Int32)), .val (.int (3 : Int32)), .val (.int s2)] [(.int (2 : Int32)), (.ref b251), (.int (2 : Int32)), (.ref b251)])) _
    refine Go.via (ldI X270 hx hZ e270 f271 (v := (List.getD o272 ((2 : Int32)).toNatClampNeg 0)) (by decide) (own_get (by decide) (by rw [lo272]; decide)) (g := (mkF m 62 #[.val (.int (3 : Int32)), .val (.ref a), .val (.ref t), .val (.ref b251), .val (.int (1 : Int32)), .val (.int (3 : Int32)), .val (.int (3 : Int32)), .val (.int s2)] [(.int (2 : Int32)), (.ref b251), (.int (2 : Int32)), (.ref b251)])) rfl rfl (hb hby d1_62)) ?_
    show Go p e below (T270.setTop (mkF m 63 #[.val (.int (3 : Int32)), .val (.ref a), .val (.ref t), .val (.ref b251), .val (.int (1 : Int32)), .val (.int (3 : Int32)), .val (.int (3 : Int32)), .val (.int s2)] [(.int (List.getD o272 ((2 : Int32)).toNatClampNeg 0)), (.int (2 : Int32)), (.ref b251)])) _
    refine Go.via (fun _ => XS.aloadN X270.here hx rfl (hb hby d1_63) rfl rfl) ?_
    refine Go.via (fun _ => XS.iload X270.here hx rfl (hb hby d1_64) rfl) ?_
    refine Go.via (ldI X270 hx hZ e270 f271 (v := (List.getD o272 ((1 : Int32)).toNatClampNeg 0)) (by decide) (own_get (by decide) (by rw [lo272]; decide)) (g := (mkF m 66 #[.val (.int (3 : Int32)), .val (.ref a), .val (.ref t), .val (.ref b251), .val (.int (1 : Int32)), .val (.int (3 : Int32)), .val (.int (3 : Int32)), .val (.int s2)] [(.int (1 : Int32)), (.ref b251), (.int (List.getD o272 ((2 : Int32)).toNatClampNeg 0)), (.int (2 : Int32)), (.ref b251)])) rfl rfl (hb hby d1_66)) ?_
    show Go p e below (T270.setTop (mkF m 67 #[.val (.int (3 : Int32)), .val (.ref a), .val (.ref t), .val (.ref b251), .val (.int (1 : Int32)), .val (.int (3 : Int32)), .val (.int (3 : Int32)), .val (.int s2)] [(.int (List.getD o272 ((1 : Int32)).toNatClampNeg 0)), (.int (List.getD o272 ((2 : Int32)).toNatClampNeg 0)), (.int (2 : Int32)), (.ref b251)])) _
    refine Go.via (fun _ => XS.iadd X270.here hx rfl (hb hby d1_67) rfl) ?_
    show Go p e below (T270.setTop (mkF m 68 #[.val (.int (3 : Int32)), .val (.ref a), .val (.ref t), .val (.ref b251), .val (.int (1 : Int32)), .val (.int (3 : Int32)), .val (.int (3 : Int32)), .val (.int s2)] [(.int ((List.getD o272 ((2 : Int32)).toNatClampNeg 0) + (List.getD o272 ((1 : Int32)).toNatClampNeg 0))), (.int (2 : Int32)), (.ref b251)])) _
    obtain ⟨T273, h273, X273, e273, W273, V273, st273⟩ := stI' X270 hx hZ e270 f271 (j := (2 : Int32)) (by decide) (by rw [lo272]; decide) (g := (mkF m 68 #[.val (.int (3 : Int32)), .val (.ref a), .val (.ref t), .val (.ref b251), .val (.int (1 : Int32)), .val (.int (3 : Int32)), .val (.int (3 : Int32)), .val (.int s2)] [(.int ((List.getD o272 ((2 : Int32)).toNatClampNeg 0) + (List.getD o272 ((1 : Int32)).toNatClampNeg 0))), (.int (2 : Int32)), (.ref b251)])) rfl rfl (hb hby d1_68)
    refine Go.via (st273) ?_
    clear st273
    have N273 := Fr.snoc X273 N270 ge254
    have f274 : Ia Z h273 b251 .int (List.set o272 ((2 : Int32)).toNatClampNeg ((List.getD o272 ((2 : Int32)).toNatClampNeg 0) + (List.getD o272 ((1 : Int32)).toNatClampNeg 0))) := V273
    clear X270 e270
    show Go p e below (T273.setTop (mkF m 69 #[.val (.int (3 : Int32)), .val (.ref a), .val (.ref t), .val (.ref b251), .val (.int (1 : Int32)), .val (.int (3 : Int32)), .val (.int (3 : Int32)), .val (.int s2)] [])) _
    obtain ⟨o275, ho275⟩ : ∃ z : List Int32, z = (List.set o272 ((2 : Int32)).toNatClampNeg ((List.getD o272 ((2 : Int32)).toNatClampNeg 0) + (List.getD o272 ((1 : Int32)).toNatClampNeg 0))) := ⟨_, rfl⟩
    rw [← ho275] at f274
    have lo275 : o275.length = 4 := by rw [ho275, List.length_set]; exact lo272
    refine Go.via (fun _ => XS.iinc X273.here hx rfl (hb hby d1_69) rfl (l' := #[.val (.int (3 : Int32)), .val (.ref a), .val (.ref t), .val (.ref b251), .val (.int (2 : Int32)), .val (.int (3 : Int32)), .val (.int (3 : Int32)), .val (.int s2)]) rfl) ?_
    show Go p e below (T273.setTop (mkF m 72 #[.val (.int (3 : Int32)), .val (.ref a), .val (.ref t), .val (.ref b251), .val (.int (2 : Int32)), .val (.int (3 : Int32)), .val (.int (3 : Int32)), .val (.int s2)] [])) _
    refine Go.via (fun _ => XS.goto X273.here hx rfl (pc0 := 72) (pc' := 50) rfl (hb hby d1_72) (by decide) (by decide)) ?_
    refine Go.via (fun _ => XS.iload X273.here hx rfl (hb hby d1_50) rfl) ?_
    refine Go.via (fun _ => XS.iloadN X273.here hx rfl (hb hby d1_52) rfl) ?_
    refine Go.via (fun _ => XS.icmpNo X273.here hx rfl (hb hby d1_53) rfl (tlt ((by decide) : (2 : Int32) < (3 : Int32))).2.1) ?_
    show Go p e below (T273.setTop (mkF m 56 #[.val (.int (3 : Int32)), .val (.ref a), .val (.ref t), .val (.ref b251), .val (.int (2 : Int32)), .val (.int (3 : Int32)), .val (.int (3 : Int32)), .val (.int s2)] [])) _
    refine Go.via (fun _ => XS.aloadN X273.here hx rfl (hb hby d1_56) rfl rfl) ?_
    refine Go.via (fun _ => XS.iload X273.here hx rfl (hb hby d1_57) rfl) ?_
    refine Go.via (fun _ => XS.iconst X273.here hx rfl (hb hby d1_59)) ?_
    refine Go.via (fun _ => XS.iadd X273.here hx rfl (hb hby d1_60) rfl) ?_
    show Go p e below (T273.setTop (mkF m 61 #[.val (.int (3 : Int32)), .val (.ref a), .val (.ref t), .val (.ref b251), .val (.int (2 : Int32)), .val (.int (3 : Int32)), .val (.int (3 : Int32)), .val (.int s2)] [(.int (3 : Int32)), (.ref b251)])) _
    refine Go.via (S' := T273.setTop (mkF m 62 #[.val (.int (3 : Int32)), .val (.ref a), .val (.ref t), .val (.ref b251), .val (.int (2 : Int32)), .val (.int (3 : Int32)), .val (.int (3 : Int32)), .val (.int s2)] [(.int (3 : Int32)), (.ref b251), (.int (3 : Int32)), (.ref b251)])) (fun tQ kQ => ?_) ?_
    · jvm_step X273.here [X273.here.top, hx, (hb hby d1_61), Value.category]
      exact kQ
    show Go p e below (T273.setTop (mkF m 62 #[.val (.int (3 : Int32)), .val (.ref a), .val (.ref t), .val (.ref b251), .val (.int (2 : Int32)), .val (.int (3 : Int32)), .val (.int (3 : Int32)), .val (.int s2)] [(.int (3 : Int32)), (.ref b251), (.int (3 : Int32)), (.ref b251)])) _
    refine Go.via (ldI X273 hx hZ e273 f274 (v := (List.getD o275 ((3 : Int32)).toNatClampNeg 0)) (by decide) (own_get (by decide) (by rw [lo275]; decide)) (g := (mkF m 62 #[.val (.int (3 : Int32)), .val (.ref a), .val (.ref t), .val (.ref b251), .val (.int (2 : Int32)), .val (.int (3 : Int32)), .val (.int (3 : Int32)), .val (.int s2)] [(.int (3 : Int32)), (.ref b251), (.int (3 : Int32)), (.ref b251)])) rfl rfl (hb hby d1_62)) ?_
    show Go p e below (T273.setTop (mkF m 63 #[.val (.int (3 : Int32)), .val (.ref a), .val (.ref t), .val (.ref b251), .val (.int (2 : Int32)), .val (.int (3 : Int32)), .val (.int (3 : Int32)), .val (.int s2)] [(.int (List.getD o275 ((3 : Int32)).toNatClampNeg 0)), (.int (3 : Int32)), (.ref b251)])) _
    refine Go.via (fun _ => XS.aloadN X273.here hx rfl (hb hby d1_63) rfl rfl) ?_
    refine Go.via (fun _ => XS.iload X273.here hx rfl (hb hby d1_64) rfl) ?_
    refine Go.via (ldI X273 hx hZ e273 f274 (v := (List.getD o275 ((2 : Int32)).toNatClampNeg 0)) (by decide) (own_get (by decide) (by rw [lo275]; decide)) (g := (mkF m 66 #[.val (.int (3 : Int32)), .val (.ref a), .val (.ref t), .val (.ref b251), .val (.int (2 : Int32)), .val (.int (3 : Int32)), .val (.int (3 : Int32)), .val (.int s2)] [(.int (2 : Int32)), (.ref b251), (.int (List.getD o275 ((3 : Int32)).toNatClampNeg 0)), (.int (3 : Int32)), (.ref b251)])) rfl rfl (hb hby d1_66)) ?_
    show Go p e below (T273.setTop (mkF m 67 #[.val (.int (3 : Int32)), .val (.ref a), .val (.ref t), .val (.ref b251), .val (.int (2 : Int32)), .val (.int (3 : Int32)), .val (.int (3 : Int32)), .val (.int s2)] [(.int (List.getD o275 ((2 : Int32)).toNatClampNeg 0)), (.int (List.getD o275 ((3 : Int32)).toNatClampNeg 0)), (.int (3 : Int32)), (.ref b251)])) _
    refine Go.via (fun _ => XS.iadd X273.here hx rfl (hb hby d1_67) rfl) ?_
    show Go p e below (T273.setTop (mkF m 68 #[.val (.int (3 : Int32)), .val (.ref a), .val (.ref t), .val (.ref b251), .val (.int (2 : Int32)), .val (.int (3 : Int32)), .val (.int (3 : Int32)), .val (.int s2)] [(.int ((List.getD o275 ((3 : Int32)).toNatClampNeg 0) + (List.getD o275 ((2 : Int32)).toNatClampNeg 0))), (.int (3 : Int32)), (.ref b251)])) _
    obtain ⟨T276, h276, X276, e276, W276, V276, st276⟩ := stI' X273 hx hZ e273 f274 (j := (3 : Int32)) (by decide) (by rw [lo275]; decide) (g := (mkF m 68 #[.val (.int (3 : Int32)), .val (.ref a), .val (.ref t), .val (.ref b251), .val (.int (2 : Int32)), .val (.int (3 : Int32)), .val (.int (3 : Int32)), .val (.int s2)] [(.int ((List.getD o275 ((3 : Int32)).toNatClampNeg 0) + (List.getD o275 ((2 : Int32)).toNatClampNeg 0))), (.int (3 : Int32)), (.ref b251)])) rfl rfl (hb hby d1_68)
    refine Go.via (st276) ?_
    clear st276
    have N276 := Fr.snoc X276 N273 ge254
    have f277 : Ia Z h276 b251 .int (List.set o275 ((3 : Int32)).toNatClampNeg ((List.getD o275 ((3 : Int32)).toNatClampNeg 0) + (List.getD o275 ((2 : Int32)).toNatClampNeg 0))) := V276
    clear X273 e273
    show Go p e below (T276.setTop (mkF m 69 #[.val (.int (3 : Int32)), .val (.ref a), .val (.ref t), .val (.ref b251), .val (.int (2 : Int32)), .val (.int (3 : Int32)), .val (.int (3 : Int32)), .val (.int s2)] [])) _
    obtain ⟨o278, ho278⟩ : ∃ z : List Int32, z = (List.set o275 ((3 : Int32)).toNatClampNeg ((List.getD o275 ((3 : Int32)).toNatClampNeg 0) + (List.getD o275 ((2 : Int32)).toNatClampNeg 0))) := ⟨_, rfl⟩
    rw [← ho278] at f277
    have lo278 : o278.length = 4 := by rw [ho278, List.length_set]; exact lo275
    refine Go.via (fun _ => XS.iinc X276.here hx rfl (hb hby d1_69) rfl (l' := #[.val (.int (3 : Int32)), .val (.ref a), .val (.ref t), .val (.ref b251), .val (.int (3 : Int32)), .val (.int (3 : Int32)), .val (.int (3 : Int32)), .val (.int s2)]) rfl) ?_
    show Go p e below (T276.setTop (mkF m 72 #[.val (.int (3 : Int32)), .val (.ref a), .val (.ref t), .val (.ref b251), .val (.int (3 : Int32)), .val (.int (3 : Int32)), .val (.int (3 : Int32)), .val (.int s2)] [])) _
    refine Go.via (fun _ => XS.goto X276.here hx rfl (pc0 := 72) (pc' := 50) rfl (hb hby d1_72) (by decide) (by decide)) ?_
    refine Go.via (fun _ => XS.iload X276.here hx rfl (hb hby d1_50) rfl) ?_
    refine Go.via (fun _ => XS.iloadN X276.here hx rfl (hb hby d1_52) rfl) ?_
    refine Go.via (fun _ => XS.icmpYes X276.here hx rfl (pc0 := 53) (pc' := 75) rfl (hb hby d1_53) rfl (flt ((by decide) : ¬ ((3 : Int32) < (3 : Int32)))).2.1 (by decide) (by decide)) ?_
    show Go p e below (T276.setTop (mkF m 75 #[.val (.int (3 : Int32)), .val (.ref a), .val (.ref t), .val (.ref b251), .val (.int (3 : Int32)), .val (.int (3 : Int32)), .val (.int (3 : Int32)), .val (.int s2)] [])) _
    refine Go.via (fun _ => XS.aloadN X276.here hx rfl (hb hby d1_75) rfl rfl) ?_
    have f279 : Ia Z h276 t .int [t0, t1, t2] := (((((((P1.ext E251).other W259 ne253).other W263 ne253).other W267 ne253).other W270 ne253).other W273 ne253).other W276 ne253)
    refine Go.via (lenI X276 hx hZ e276 f279 (n := (3 : Int32)) rfl (g := (mkF m 76 #[.val (.int (3 : Int32)), .val (.ref a), .val (.ref t), .val (.ref b251), .val (.int (3 : Int32)), .val (.int (3 : Int32)), .val (.int (3 : Int32)), .val (.int s2)] [(.ref t)])) rfl rfl (hb hby d1_76)) ?_
    show Go p e below (T276.setTop (mkF m 77 #[.val (.int (3 : Int32)), .val (.ref a), .val (.ref t), .val (.ref b251), .val (.int (3 : Int32)), .val (.int (3 : Int32)), .val (.int (3 : Int32)), .val (.int s2)] [(.int (3 : Int32))])) _
    have k281 : Keep h0 h276 [] := ((((((((Keep.refl h0 []).ext E251).wr W259 (Or.inr sz255)).wr W263 (Or.inr sz255)).wr W267 (Or.inr sz255)).wr W270 (Or.inr sz255)).wr W273 (Or.inr sz255)).wr W276 (Or.inr sz255))
    have z282 : n0 ≤ h276.size := (Nat.le_trans (Nat.le_trans (Nat.le_trans (Nat.le_trans (Nat.le_trans (Nat.le_trans (Nat.le_trans Z0 E251.1) (Keep.of_wr W259).1) (Keep.of_wr W263).1) (Keep.of_wr W267).1) (Keep.of_wr W270).1) (Keep.of_wr W273).1) (Keep.of_wr W276).1)
    obtain ⟨T280, h280, k280, X280, e280, E280, A280, B280, st280⟩ := newPE X276 hx hZ (tw hw 0 rfl) e276 (g := (mkF m 77 #[.val (.int (3 : Int32)), .val (.ref a), .val (.ref t), .val (.ref b251), .val (.int (3 : Int32)), .val (.int (3 : Int32)), .val (.int (3 : Int32)), .val (.int s2)] [(.int (3 : Int32))])) rfl (hb hby d1_77) rfl (by decide) (cap := 3) (by decide) (by decide) (by decide) (by decide) (ad := "[I") (by decide)
    obtain ⟨b280, g280⟩ : ∃ z, z = h276.size := ⟨_, rfl⟩
    rw [← g280] at A280 B280 st280
    have f284 : Ia Z h276 a .int [s0, s1, s2] := ((((f266.other W267 ne252).other W270 ne252).other W273 ne252).other W276 ne252)
    have ne283 : a ≠ b280 := Nat.ne_of_lt (Nat.lt_of_lt_of_le f284.lt (Nat.le_of_eq g280.symm))
    have ne285 : b251 ≠ b280 := Nat.ne_of_lt (Nat.lt_of_lt_of_le f277.lt (Nat.le_of_eq g280.symm))
    have ne286 : t ≠ b280 := Nat.ne_of_lt (Nat.lt_of_lt_of_le f279.lt (Nat.le_of_eq g280.symm))
    have ge287 : n0 ≤ b280 := Nat.le_trans z282 (Nat.le_of_eq g280.symm)
    have sz288 : h0.size ≤ b280 := Nat.le_trans k281.1 (Nat.le_of_eq g280.symm)
    refine Go.via (st280) ?_
    clear st280
    have f289 : Ia Z h280 b280 .int [(0 : Int32), (0 : Int32), (0 : Int32)] := Ia.new A280 rfl
    clear X276 e276
    show Go p e below (T280.setTop (mkF m 79 #[.val (.int (3 : Int32)), .val (.ref a), .val (.ref t), .val (.ref b251), .val (.int (3 : Int32)), .val (.int (3 : Int32)), .val (.int (3 : Int32)), .val (.int s2)] [(.ref b280)])) _
    obtain ⟨e290, he290⟩ : ∃ z : List Int32, z = [(0 : Int32), (0 : Int32), (0 : Int32)] := ⟨_, rfl⟩
    rw [← he290] at f289
    have le290 : e290.length = 3 := by rw [he290]; rfl
    refine Go.via (fun _ => XS.astore X280.here hx rfl (hb hby d1_79) rfl rfl (l' := #[.val (.int (3 : Int32)), .val (.ref a), .val (.ref t), .val (.ref b251), .val (.ref b280), .val (.int (3 : Int32)), .val (.int (3 : Int32)), .val (.int s2)]) rfl) ?_
    show Go p e below (T280.setTop (mkF m 81 #[.val (.int (3 : Int32)), .val (.ref a), .val (.ref t), .val (.ref b251), .val (.ref b280), .val (.int (3 : Int32)), .val (.int (3 : Int32)), .val (.int s2)] [])) _
    refine Go.via (fun _ => XS.aloadN X280.here hx rfl (hb hby d1_81) rfl rfl) ?_
    refine Go.via (fun _ => XS.iloadN X280.here hx rfl (hb hby d1_82) rfl) ?_
    have f291 : Ia Z h280 b251 .int o278 := (f277.ext E280)
    have z293 : n0 ≤ h280.size := (Nat.le_trans z282 E280.1)
    obtain ⟨_, _, ⟨T292, L292, k292, n292⟩, -, X292, ⟨Lc292, hQ292, l292, y292, z292⟩, st292⟩ := Jvm.LawKit.callS X280 hx (y := (⟨"java/util/Arrays", "copyOf", "([II)[I"⟩ : MethodName)) hown (mvT hZ (tw hw 5 rfl)) (mvT hZ (tw hw 6 rfl)) (mvT hZ (tw hw 7 rfl)) (mvT hZ (tw hw 8 rfl)) (by decide) (backOf (W := 0) (rmC l Z a0 hw [] b251 (3 : Int32) o278 h280 n0 z293 f291 (by rw [lo278]; decide) (by first | decide | (simp only [List.length_cons, List.length_nil]; decide) | rfl) (by first | decide | (simp only [List.length_cons, List.length_nil]; decide) | rfl) (by rw [lo278]; decide)) hZ (tw hw 8 rfl) (tw hw 7 rfl) (by decide) (by decide)) (g := (mkF m 83 #[.val (.int (3 : Int32)), .val (.ref a), .val (.ref t), .val (.ref b251), .val (.ref b280), .val (.int (3 : Int32)), .val (.int (3 : Int32)), .val (.int s2)] [(.int (3 : Int32)), (.ref b251)])) rfl (by rw [hml]; rfl) (argsL := [(.ref b251), (.int (3 : Int32))]) (rest := []) (lenOf pd__28_5bII_29_5bI rfl) rfl (by show 2 * 0 + _ ≤ _; exact Nat.le_of_eq rfl) (hb hby d1_83) (fun _ _ => ⟨rfl, e280, (by decide : 2 + 1 ≤ _), (by decide : 7 + 4 ≤ _)⟩)
    dsimp only [Pt.U, Pt.locs, Pt.cells, Pt.slots] at X292 l292 y292 z292 st292 hQ292
    subst l292 y292 z292
    obtain ⟨b294, rfl, N292q, K292q, fz_b294, f295⟩ := hQ292
    have N292 := Fr.app N276 N292q
    refine Go.via (st292) ?_
    clear st292
    have f296 : Ia Z h280 a .int [s0, s1, s2] := (f284.ext E280)
    have ne297 : a ≠ b294 := Nat.ne_of_lt (Nat.lt_of_lt_of_le f296.lt fz_b294)
    have ne298 : b251 ≠ b294 := Nat.ne_of_lt (Nat.lt_of_lt_of_le f291.lt fz_b294)
    have ne299 : b280 ≠ b294 := Nat.ne_of_lt (Nat.lt_of_lt_of_le f289.lt fz_b294)
    have f300 : Ia Z h280 t .int [t0, t1, t2] := (f279.ext E280)
    have ne301 : t ≠ b294 := Nat.ne_of_lt (Nat.lt_of_lt_of_le f300.lt fz_b294)
    have ge302 : n0 ≤ b294 := Nat.le_trans z293 fz_b294
    have k304 : Keep h0 h280 [] := (k281.ext E280)
    have sz303 : h0.size ≤ b294 := Nat.le_trans k304.1 fz_b294
    have e292 : T292.heap = T292.heap := rfl
    have f305 : Ia Z T292.heap b294 .int (own_cpy o278 (3 : Int32)) := f295
    clear X280 e280
    show Go p e below (T292.setTop (mkF m 86 #[.val (.int (3 : Int32)), .val (.ref a), .val (.ref t), .val (.ref b251), .val (.ref b280), .val (.int (3 : Int32)), .val (.int (3 : Int32)), .val (.int s2)] [(.ref b294)])) _
    obtain ⟨n306, hn306⟩ : ∃ z : List Int32, z = (own_cpy o278 (3 : Int32)) := ⟨_, rfl⟩
    rw [← hn306] at f305
    have ln306 : n306.length = 3 := by rw [hn306]; simp only [own_cpy, List.length_append, List.length_take, List.length_replicate]; rw [lo278]; rfl
    refine Go.via (fun _ => XS.astore X292.here hx rfl (hb hby d1_86) rfl rfl (l' := #[.val (.int (3 : Int32)), .val (.ref a), .val (.ref t), .val (.ref b251), .val (.ref b280), .val (.ref b294), .val (.int (3 : Int32)), .val (.int s2)]) rfl) ?_
    show Go p e below (T292.setTop (mkF m 88 #[.val (.int (3 : Int32)), .val (.ref a), .val (.ref t), .val (.ref b251), .val (.ref b280), .val (.ref b294), .val (.int (3 : Int32)), .val (.int s2)] [])) _
    refine Go.via (fun _ => XS.iconst X292.here hx rfl (hb hby d1_88)) ?_
    refine Go.via (fun _ => XS.istore X292.here hx rfl (hb hby d1_89) rfl (l' := #[.val (.int (3 : Int32)), .val (.ref a), .val (.ref t), .val (.ref b251), .val (.ref b280), .val (.ref b294), .val (.int (0 : Int32)), .val (.int s2)]) rfl) ?_
    show Go p e below (T292.setTop (mkF m 91 #[.val (.int (3 : Int32)), .val (.ref a), .val (.ref t), .val (.ref b251), .val (.ref b280), .val (.ref b294), .val (.int (0 : Int32)), .val (.int s2)] [])) _
    refine Go.via (fun _ => XS.iload X292.here hx rfl (hb hby d1_91) rfl) ?_
    refine Go.via (fun _ => XS.aloadN X292.here hx rfl (hb hby d1_93) rfl rfl) ?_
    have f307 : Ia Z T292.heap a .int [s0, s1, s2] := (f296.keep K292q nin0)
    refine Go.via (lenI X292 hx hZ e292 f307 (n := (3 : Int32)) rfl (g := (mkF m 94 #[.val (.int (3 : Int32)), .val (.ref a), .val (.ref t), .val (.ref b251), .val (.ref b280), .val (.ref b294), .val (.int (0 : Int32)), .val (.int s2)] [(.ref a), (.int (0 : Int32))])) rfl rfl (hb hby d1_94)) ?_
    show Go p e below (T292.setTop (mkF m 95 #[.val (.int (3 : Int32)), .val (.ref a), .val (.ref t), .val (.ref b251), .val (.ref b280), .val (.ref b294), .val (.int (0 : Int32)), .val (.int s2)] [(.int (3 : Int32)), (.int (0 : Int32))])) _
    refine Go.via (fun _ => XS.icmpNo X292.here hx rfl (hb hby d1_95) rfl (tlt ((by decide) : (0 : Int32) < (3 : Int32))).2.1) ?_
    show Go p e below (T292.setTop (mkF m 98 #[.val (.int (3 : Int32)), .val (.ref a), .val (.ref t), .val (.ref b251), .val (.ref b280), .val (.ref b294), .val (.int (0 : Int32)), .val (.int s2)] [])) _
    refine Go.via (fun _ => XS.aload X292.here hx rfl (hb hby d1_98) rfl rfl) ?_
    refine Go.via (fun _ => XS.aload X292.here hx rfl (hb hby d1_100) rfl rfl) ?_
    refine Go.via (fun _ => XS.aloadN X292.here hx rfl (hb hby d1_102) rfl rfl) ?_
    refine Go.via (fun _ => XS.iload X292.here hx rfl (hb hby d1_103) rfl) ?_
    show Go p e below (T292.setTop (mkF m 105 #[.val (.int (3 : Int32)), .val (.ref a), .val (.ref t), .val (.ref b251), .val (.ref b280), .val (.ref b294), .val (.int (0 : Int32)), .val (.int s2)] [(.int (0 : Int32)), (.ref a), (.ref b294), (.ref b280)])) _
    refine Go.via (ldI X292 hx hZ e292 f307 (v := s0) (by decide) rfl (g := (mkF m 105 #[.val (.int (3 : Int32)), .val (.ref a), .val (.ref t), .val (.ref b251), .val (.ref b280), .val (.ref b294), .val (.int (0 : Int32)), .val (.int s2)] [(.int (0 : Int32)), (.ref a), (.ref b294), (.ref b280)])) rfl rfl (hb hby d1_105)) ?_
    show Go p e below (T292.setTop (mkF m 106 #[.val (.int (3 : Int32)), .val (.ref a), .val (.ref t), .val (.ref b251), .val (.ref b280), .val (.ref b294), .val (.int (0 : Int32)), .val (.int s2)] [(.int s0), (.ref b294), (.ref b280)])) _
    refine Go.via (S' := T292.setTop (mkF m 107 #[.val (.int (3 : Int32)), .val (.ref a), .val (.ref t), .val (.ref b251), .val (.ref b280), .val (.ref b294), .val (.int (0 : Int32)), .val (.int s2)] [(.int s0), (.ref b294), (.int s0), (.ref b294), (.ref b280)])) (fun tQ kQ => ?_) ?_
    · jvm_step X292.here [X292.here.top, hx, (hb hby d1_106), Value.category]
      exact kQ
    show Go p e below (T292.setTop (mkF m 107 #[.val (.int (3 : Int32)), .val (.ref a), .val (.ref t), .val (.ref b251), .val (.ref b280), .val (.ref b294), .val (.int (0 : Int32)), .val (.int s2)] [(.int s0), (.ref b294), (.int s0), (.ref b294), (.ref b280)])) _
    refine Go.via (ldI X292 hx hZ e292 f305 (v := (List.getD n306 (s0).toNatClampNeg 0)) (by rcases r0 with rfl | rfl | rfl <;> decide) (own_get (by rcases r0 with rfl | rfl | rfl <;> decide) (by rw [ln306]; rcases r0 with rfl | rfl | rfl <;> decide)) (g := (mkF m 107 #[.val (.int (3 : Int32)), .val (.ref a), .val (.ref t), .val (.ref b251), .val (.ref b280), .val (.ref b294), .val (.int (0 : Int32)), .val (.int s2)] [(.int s0), (.ref b294), (.int s0), (.ref b294), (.ref b280)])) rfl rfl (hb hby d1_107)) ?_
    show Go p e below (T292.setTop (mkF m 108 #[.val (.int (3 : Int32)), .val (.ref a), .val (.ref t), .val (.ref b251), .val (.ref b280), .val (.ref b294), .val (.int (0 : Int32)), .val (.int s2)] [(.int (List.getD n306 (s0).toNatClampNeg 0)), (.int s0), (.ref b294), (.ref b280)])) _
    generalize hhw308 : (List.getD n306 (s0).toNatClampNeg 0) = w308
    show Go p e below (T292.setTop (mkF m 108 #[.val (.int (3 : Int32)), .val (.ref a), .val (.ref t), .val (.ref b251), .val (.ref b280), .val (.ref b294), .val (.int (0 : Int32)), .val (.int s2)] [(.int w308), (.int s0), (.ref b294), (.ref b280)])) _
    have bw308 := (own_b3_0 (t0 := t0) (t1 := t1) (t2 := t2) ho257 ho261 ho265 ho269 ho272 ho275 ho278 he290 hn306 hhw308 r0 r1 r2)
    refine Go.via (S' := T292.setTop (mkF m 109 #[.val (.int (3 : Int32)), .val (.ref a), .val (.ref t), .val (.ref b251), .val (.ref b280), .val (.ref b294), .val (.int (0 : Int32)), .val (.int s2)] [(.int w308), (.int s0), (.ref b294), (.int w308), (.ref b280)])) (fun tQ kQ => ?_) ?_
    · jvm_step X292.here [X292.here.top, hx, (hb hby d1_108), Value.category]
      exact kQ
    show Go p e below (T292.setTop (mkF m 109 #[.val (.int (3 : Int32)), .val (.ref a), .val (.ref t), .val (.ref b251), .val (.ref b280), .val (.ref b294), .val (.int (0 : Int32)), .val (.int s2)] [(.int w308), (.int s0), (.ref b294), (.int w308), (.ref b280)])) _
    refine Go.via (fun _ => XS.iconst X292.here hx rfl (hb hby d1_109)) ?_
    refine Go.via (fun _ => XS.iadd X292.here hx rfl (hb hby d1_110) rfl) ?_
    show Go p e below (T292.setTop (mkF m 111 #[.val (.int (3 : Int32)), .val (.ref a), .val (.ref t), .val (.ref b251), .val (.ref b280), .val (.ref b294), .val (.int (0 : Int32)), .val (.int s2)] [(.int (w308 + (1 : Int32))), (.int s0), (.ref b294), (.int w308), (.ref b280)])) _
    obtain ⟨T309, h309, X309, e309, W309, V309, st309⟩ := stI' X292 hx hZ e292 f305 (j := s0) (by rcases r0 with rfl | rfl | rfl <;> decide) (by rw [ln306]; rcases r0 with rfl | rfl | rfl <;> decide) (g := (mkF m 111 #[.val (.int (3 : Int32)), .val (.ref a), .val (.ref t), .val (.ref b251), .val (.ref b280), .val (.ref b294), .val (.int (0 : Int32)), .val (.int s2)] [(.int (w308 + (1 : Int32))), (.int s0), (.ref b294), (.int w308), (.ref b280)])) rfl rfl (hb hby d1_111)
    refine Go.via (st309) ?_
    clear st309
    have N309 := Fr.snoc X309 N292 ge302
    have f310 : Ia Z h309 b294 .int (List.set n306 (s0).toNatClampNeg (w308 + (1 : Int32))) := V309
    clear X292 e292
    show Go p e below (T309.setTop (mkF m 112 #[.val (.int (3 : Int32)), .val (.ref a), .val (.ref t), .val (.ref b251), .val (.ref b280), .val (.ref b294), .val (.int (0 : Int32)), .val (.int s2)] [(.int w308), (.ref b280)])) _
    obtain ⟨n311, hn311⟩ : ∃ z : List Int32, z = (List.set n306 (s0).toNatClampNeg (w308 + (1 : Int32))) := ⟨_, rfl⟩
    rw [← hn311] at f310
    have ln311 : n311.length = 3 := by rw [hn311, List.length_set]; exact ln306
    refine Go.via (fun _ => XS.aloadN X309.here hx rfl (hb hby d1_112) rfl rfl) ?_
    refine Go.via (fun _ => XS.iload X309.here hx rfl (hb hby d1_113) rfl) ?_
    have f312 : Ia Z h309 t .int [t0, t1, t2] := ((f300.keep K292q nin0).other W309 ne301)
    refine Go.via (ldI X309 hx hZ e309 f312 (v := t0) (by decide) rfl (g := (mkF m 115 #[.val (.int (3 : Int32)), .val (.ref a), .val (.ref t), .val (.ref b251), .val (.ref b280), .val (.ref b294), .val (.int (0 : Int32)), .val (.int s2)] [(.int (0 : Int32)), (.ref t), (.int w308), (.ref b280)])) rfl rfl (hb hby d1_115)) ?_
    show Go p e below (T309.setTop (mkF m 116 #[.val (.int (3 : Int32)), .val (.ref a), .val (.ref t), .val (.ref b251), .val (.ref b280), .val (.ref b294), .val (.int (0 : Int32)), .val (.int s2)] [(.int t0), (.int w308), (.ref b280)])) _
    have f313 : Ia Z h309 b280 .int e290 := ((f289.keep K292q nin0).other W309 ne299)
    obtain ⟨T314, h314, X314, e314, W314, V314, st314⟩ := stI' X309 hx hZ e309 f313 (j := w308) bw308.1 (by rw [le290]; exact bw308.2) (g := (mkF m 116 #[.val (.int (3 : Int32)), .val (.ref a), .val (.ref t), .val (.ref b251), .val (.ref b280), .val (.ref b294), .val (.int (0 : Int32)), .val (.int s2)] [(.int t0), (.int w308), (.ref b280)])) rfl rfl (hb hby d1_116)
    refine Go.via (st314) ?_
    clear st314
    have N314 := Fr.snoc X314 N309 ge287
    have f315 : Ia Z h314 b280 .int (List.set e290 (w308).toNatClampNeg t0) := V314
    clear X309 e309
    show Go p e below (T314.setTop (mkF m 117 #[.val (.int (3 : Int32)), .val (.ref a), .val (.ref t), .val (.ref b251), .val (.ref b280), .val (.ref b294), .val (.int (0 : Int32)), .val (.int s2)] [])) _
    obtain ⟨e316, he316⟩ : ∃ z : List Int32, z = (List.set e290 (w308).toNatClampNeg t0) := ⟨_, rfl⟩
    rw [← he316] at f315
    have le316 : e316.length = 3 := by rw [he316, List.length_set]; exact le290
    refine Go.via (fun _ => XS.iinc X314.here hx rfl (hb hby d1_117) rfl (l' := #[.val (.int (3 : Int32)), .val (.ref a), .val (.ref t), .val (.ref b251), .val (.ref b280), .val (.ref b294), .val (.int (1 : Int32)), .val (.int s2)]) rfl) ?_
    show Go p e below (T314.setTop (mkF m 120 #[.val (.int (3 : Int32)), .val (.ref a), .val (.ref t), .val (.ref b251), .val (.ref b280), .val (.ref b294), .val (.int (1 : Int32)), .val (.int s2)] [])) _
    refine Go.via (fun _ => XS.goto X314.here hx rfl (pc0 := 120) (pc' := 91) rfl (hb hby d1_120) (by decide) (by decide)) ?_
    refine Go.via (fun _ => XS.iload X314.here hx rfl (hb hby d1_91) rfl) ?_
    refine Go.via (fun _ => XS.aloadN X314.here hx rfl (hb hby d1_93) rfl rfl) ?_
    have f317 : Ia Z h314 a .int [s0, s1, s2] := ((f307.other W309 ne297).other W314 ne283)
    refine Go.via (lenI X314 hx hZ e314 f317 (n := (3 : Int32)) rfl (g := (mkF m 94 #[.val (.int (3 : Int32)), .val (.ref a), .val (.ref t), .val (.ref b251), .val (.ref b280), .val (.ref b294), .val (.int (1 : Int32)), .val (.int s2)] [(.ref a), (.int (1 : Int32))])) rfl rfl (hb hby d1_94)) ?_
    show Go p e below (T314.setTop (mkF m 95 #[.val (.int (3 : Int32)), .val (.ref a), .val (.ref t), .val (.ref b251), .val (.ref b280), .val (.ref b294), .val (.int (1 : Int32)), .val (.int s2)] [(.int (3 : Int32)), (.int (1 : Int32))])) _
    refine Go.via (fun _ => XS.icmpNo X314.here hx rfl (hb hby d1_95) rfl (tlt ((by decide) : (1 : Int32) < (3 : Int32))).2.1) ?_
    show Go p e below (T314.setTop (mkF m 98 #[.val (.int (3 : Int32)), .val (.ref a), .val (.ref t), .val (.ref b251), .val (.ref b280), .val (.ref b294), .val (.int (1 : Int32)), .val (.int s2)] [])) _
    refine Go.via (fun _ => XS.aload X314.here hx rfl (hb hby d1_98) rfl rfl) ?_
    refine Go.via (fun _ => XS.aload X314.here hx rfl (hb hby d1_100) rfl rfl) ?_
    refine Go.via (fun _ => XS.aloadN X314.here hx rfl (hb hby d1_102) rfl rfl) ?_
    refine Go.via (fun _ => XS.iload X314.here hx rfl (hb hby d1_103) rfl) ?_
    show Go p e below (T314.setTop (mkF m 105 #[.val (.int (3 : Int32)), .val (.ref a), .val (.ref t), .val (.ref b251), .val (.ref b280), .val (.ref b294), .val (.int (1 : Int32)), .val (.int s2)] [(.int (1 : Int32)), (.ref a), (.ref b294), (.ref b280)])) _
    refine Go.via (ldI X314 hx hZ e314 f317 (v := s1) (by decide) rfl (g := (mkF m 105 #[.val (.int (3 : Int32)), .val (.ref a), .val (.ref t), .val (.ref b251), .val (.ref b280), .val (.ref b294), .val (.int (1 : Int32)), .val (.int s2)] [(.int (1 : Int32)), (.ref a), (.ref b294), (.ref b280)])) rfl rfl (hb hby d1_105)) ?_
    show Go p e below (T314.setTop (mkF m 106 #[.val (.int (3 : Int32)), .val (.ref a), .val (.ref t), .val (.ref b251), .val (.ref b280), .val (.ref b294), .val (.int (1 : Int32)), .val (.int s2)] [(.int s1), (.ref b294), (.ref b280)])) _
    refine Go.via (S' := T314.setTop (mkF m 107 #[.val (.int (3 : Int32)), .val (.ref a), .val (.ref t), .val (.ref b251), .val (.ref b280), .val (.ref b294), .val (.int (1 : Int32)), .val (.int s2)] [(.int s1), (.ref b294), (.int s1), (.ref b294), (.ref b280)])) (fun tQ kQ => ?_) ?_
    · jvm_step X314.here [X314.here.top, hx, (hb hby d1_106), Value.category]
      exact kQ
    show Go p e below (T314.setTop (mkF m 107 #[.val (.int (3 : Int32)), .val (.ref a), .val (.ref t), .val (.ref b251), .val (.ref b280), .val (.ref b294), .val (.int (1 : Int32)), .val (.int s2)] [(.int s1), (.ref b294), (.int s1), (.ref b294), (.ref b280)])) _
    have f318 : Ia Z h314 b294 .int n311 := (f310.other W314 (Ne.symm ne299))
    refine Go.via (ldI X314 hx hZ e314 f318 (v := (List.getD n311 (s1).toNatClampNeg 0)) (by rcases r1 with rfl | rfl | rfl <;> decide) (own_get (by rcases r1 with rfl | rfl | rfl <;> decide) (by rw [ln311]; rcases r1 with rfl | rfl | rfl <;> decide)) (g := (mkF m 107 #[.val (.int (3 : Int32)), .val (.ref a), .val (.ref t), .val (.ref b251), .val (.ref b280), .val (.ref b294), .val (.int (1 : Int32)), .val (.int s2)] [(.int s1), (.ref b294), (.int s1), (.ref b294), (.ref b280)])) rfl rfl (hb hby d1_107)) ?_
    show Go p e below (T314.setTop (mkF m 108 #[.val (.int (3 : Int32)), .val (.ref a), .val (.ref t), .val (.ref b251), .val (.ref b280), .val (.ref b294), .val (.int (1 : Int32)), .val (.int s2)] [(.int (List.getD n311 (s1).toNatClampNeg 0)), (.int s1), (.ref b294), (.ref b280)])) _
    generalize hhw319 : (List.getD n311 (s1).toNatClampNeg 0) = w319
    show Go p e below (T314.setTop (mkF m 108 #[.val (.int (3 : Int32)), .val (.ref a), .val (.ref t), .val (.ref b251), .val (.ref b280), .val (.ref b294), .val (.int (1 : Int32)), .val (.int s2)] [(.int w319), (.int s1), (.ref b294), (.ref b280)])) _
    have bw319 := (own_b3_1 (t0 := t0) (t1 := t1) (t2 := t2) ho257 ho261 ho265 ho269 ho272 ho275 ho278 he290 hn306 hhw308 hn311 he316 hhw319 r0 r1 r2)
    refine Go.via (S' := T314.setTop (mkF m 109 #[.val (.int (3 : Int32)), .val (.ref a), .val (.ref t), .val (.ref b251), .val (.ref b280), .val (.ref b294), .val (.int (1 : Int32)), .val (.int s2)] [(.int w319), (.int s1), (.ref b294), (.int w319), (.ref b280)])) (fun tQ kQ => ?_) ?_
    · jvm_step X314.here [X314.here.top, hx, (hb hby d1_108), Value.category]
      exact kQ
    show Go p e below (T314.setTop (mkF m 109 #[.val (.int (3 : Int32)), .val (.ref a), .val (.ref t), .val (.ref b251), .val (.ref b280), .val (.ref b294), .val (.int (1 : Int32)), .val (.int s2)] [(.int w319), (.int s1), (.ref b294), (.int w319), (.ref b280)])) _
    refine Go.via (fun _ => XS.iconst X314.here hx rfl (hb hby d1_109)) ?_
    refine Go.via (fun _ => XS.iadd X314.here hx rfl (hb hby d1_110) rfl) ?_
    show Go p e below (T314.setTop (mkF m 111 #[.val (.int (3 : Int32)), .val (.ref a), .val (.ref t), .val (.ref b251), .val (.ref b280), .val (.ref b294), .val (.int (1 : Int32)), .val (.int s2)] [(.int (w319 + (1 : Int32))), (.int s1), (.ref b294), (.int w319), (.ref b280)])) _
    obtain ⟨T320, h320, X320, e320, W320, V320, st320⟩ := stI' X314 hx hZ e314 f318 (j := s1) (by rcases r1 with rfl | rfl | rfl <;> decide) (by rw [ln311]; rcases r1 with rfl | rfl | rfl <;> decide) (g := (mkF m 111 #[.val (.int (3 : Int32)), .val (.ref a), .val (.ref t), .val (.ref b251), .val (.ref b280), .val (.ref b294), .val (.int (1 : Int32)), .val (.int s2)] [(.int (w319 + (1 : Int32))), (.int s1), (.ref b294), (.int w319), (.ref b280)])) rfl rfl (hb hby d1_111)
    refine Go.via (st320) ?_
    clear st320
    have N320 := Fr.snoc X320 N314 ge302
    have f321 : Ia Z h320 b294 .int (List.set n311 (s1).toNatClampNeg (w319 + (1 : Int32))) := V320
    clear X314 e314
    show Go p e below (T320.setTop (mkF m 112 #[.val (.int (3 : Int32)), .val (.ref a), .val (.ref t), .val (.ref b251), .val (.ref b280), .val (.ref b294), .val (.int (1 : Int32)), .val (.int s2)] [(.int w319), (.ref b280)])) _
    obtain ⟨n322, hn322⟩ : ∃ z : List Int32, z = (List.set n311 (s1).toNatClampNeg (w319 + (1 : Int32))) := ⟨_, rfl⟩
    rw [← hn322] at f321
    have ln322 : n322.length = 3 := by rw [hn322, List.length_set]; exact ln311
    refine Go.via (fun _ => XS.aloadN X320.here hx rfl (hb hby d1_112) rfl rfl) ?_
    refine Go.via (fun _ => XS.iload X320.here hx rfl (hb hby d1_113) rfl) ?_
    have f323 : Ia Z h320 t .int [t0, t1, t2] := ((f312.other W314 ne286).other W320 ne301)
    refine Go.via (ldI X320 hx hZ e320 f323 (v := t1) (by decide) rfl (g := (mkF m 115 #[.val (.int (3 : Int32)), .val (.ref a), .val (.ref t), .val (.ref b251), .val (.ref b280), .val (.ref b294), .val (.int (1 : Int32)), .val (.int s2)] [(.int (1 : Int32)), (.ref t), (.int w319), (.ref b280)])) rfl rfl (hb hby d1_115)) ?_
    show Go p e below (T320.setTop (mkF m 116 #[.val (.int (3 : Int32)), .val (.ref a), .val (.ref t), .val (.ref b251), .val (.ref b280), .val (.ref b294), .val (.int (1 : Int32)), .val (.int s2)] [(.int t1), (.int w319), (.ref b280)])) _
    have f324 : Ia Z h320 b280 .int e316 := (f315.other W320 ne299)
    obtain ⟨T325, h325, X325, e325, W325, V325, st325⟩ := stI' X320 hx hZ e320 f324 (j := w319) bw319.1 (by rw [le316]; exact bw319.2) (g := (mkF m 116 #[.val (.int (3 : Int32)), .val (.ref a), .val (.ref t), .val (.ref b251), .val (.ref b280), .val (.ref b294), .val (.int (1 : Int32)), .val (.int s2)] [(.int t1), (.int w319), (.ref b280)])) rfl rfl (hb hby d1_116)
    refine Go.via (st325) ?_
    clear st325
    have N325 := Fr.snoc X325 N320 ge287
    have f326 : Ia Z h325 b280 .int (List.set e316 (w319).toNatClampNeg t1) := V325
    clear X320 e320
    show Go p e below (T325.setTop (mkF m 117 #[.val (.int (3 : Int32)), .val (.ref a), .val (.ref t), .val (.ref b251), .val (.ref b280), .val (.ref b294), .val (.int (1 : Int32)), .val (.int s2)] [])) _
    obtain ⟨e327, he327⟩ : ∃ z : List Int32, z = (List.set e316 (w319).toNatClampNeg t1) := ⟨_, rfl⟩
    rw [← he327] at f326
    have le327 : e327.length = 3 := by rw [he327, List.length_set]; exact le316
    refine Go.via (fun _ => XS.iinc X325.here hx rfl (hb hby d1_117) rfl (l' := #[.val (.int (3 : Int32)), .val (.ref a), .val (.ref t), .val (.ref b251), .val (.ref b280), .val (.ref b294), .val (.int (2 : Int32)), .val (.int s2)]) rfl) ?_
    show Go p e below (T325.setTop (mkF m 120 #[.val (.int (3 : Int32)), .val (.ref a), .val (.ref t), .val (.ref b251), .val (.ref b280), .val (.ref b294), .val (.int (2 : Int32)), .val (.int s2)] [])) _
    refine Go.via (fun _ => XS.goto X325.here hx rfl (pc0 := 120) (pc' := 91) rfl (hb hby d1_120) (by decide) (by decide)) ?_
    refine Go.via (fun _ => XS.iload X325.here hx rfl (hb hby d1_91) rfl) ?_
    refine Go.via (fun _ => XS.aloadN X325.here hx rfl (hb hby d1_93) rfl rfl) ?_
    have f328 : Ia Z h325 a .int [s0, s1, s2] := ((f317.other W320 ne297).other W325 ne283)
    refine Go.via (lenI X325 hx hZ e325 f328 (n := (3 : Int32)) rfl (g := (mkF m 94 #[.val (.int (3 : Int32)), .val (.ref a), .val (.ref t), .val (.ref b251), .val (.ref b280), .val (.ref b294), .val (.int (2 : Int32)), .val (.int s2)] [(.ref a), (.int (2 : Int32))])) rfl rfl (hb hby d1_94)) ?_
    show Go p e below (T325.setTop (mkF m 95 #[.val (.int (3 : Int32)), .val (.ref a), .val (.ref t), .val (.ref b251), .val (.ref b280), .val (.ref b294), .val (.int (2 : Int32)), .val (.int s2)] [(.int (3 : Int32)), (.int (2 : Int32))])) _
    refine Go.via (fun _ => XS.icmpNo X325.here hx rfl (hb hby d1_95) rfl (tlt ((by decide) : (2 : Int32) < (3 : Int32))).2.1) ?_
    show Go p e below (T325.setTop (mkF m 98 #[.val (.int (3 : Int32)), .val (.ref a), .val (.ref t), .val (.ref b251), .val (.ref b280), .val (.ref b294), .val (.int (2 : Int32)), .val (.int s2)] [])) _
    refine Go.via (fun _ => XS.aload X325.here hx rfl (hb hby d1_98) rfl rfl) ?_
    refine Go.via (fun _ => XS.aload X325.here hx rfl (hb hby d1_100) rfl rfl) ?_
    refine Go.via (fun _ => XS.aloadN X325.here hx rfl (hb hby d1_102) rfl rfl) ?_
    refine Go.via (fun _ => XS.iload X325.here hx rfl (hb hby d1_103) rfl) ?_
    show Go p e below (T325.setTop (mkF m 105 #[.val (.int (3 : Int32)), .val (.ref a), .val (.ref t), .val (.ref b251), .val (.ref b280), .val (.ref b294), .val (.int (2 : Int32)), .val (.int s2)] [(.int (2 : Int32)), (.ref a), (.ref b294), (.ref b280)])) _
    refine Go.via (ldI X325 hx hZ e325 f328 (v := s2) (by decide) rfl (g := (mkF m 105 #[.val (.int (3 : Int32)), .val (.ref a), .val (.ref t), .val (.ref b251), .val (.ref b280), .val (.ref b294), .val (.int (2 : Int32)), .val (.int s2)] [(.int (2 : Int32)), (.ref a), (.ref b294), (.ref b280)])) rfl rfl (hb hby d1_105)) ?_
    show Go p e below (T325.setTop (mkF m 106 #[.val (.int (3 : Int32)), .val (.ref a), .val (.ref t), .val (.ref b251), .val (.ref b280), .val (.ref b294), .val (.int (2 : Int32)), .val (.int s2)] [(.int s2), (.ref b294), (.ref b280)])) _
    refine Go.via (S' := T325.setTop (mkF m 107 #[.val (.int (3 : Int32)), .val (.ref a), .val (.ref t), .val (.ref b251), .val (.ref b280), .val (.ref b294), .val (.int (2 : Int32)), .val (.int s2)] [(.int s2), (.ref b294), (.int s2), (.ref b294), (.ref b280)])) (fun tQ kQ => ?_) ?_
    · jvm_step X325.here [X325.here.top, hx, (hb hby d1_106), Value.category]
      exact kQ
    show Go p e below (T325.setTop (mkF m 107 #[.val (.int (3 : Int32)), .val (.ref a), .val (.ref t), .val (.ref b251), .val (.ref b280), .val (.ref b294), .val (.int (2 : Int32)), .val (.int s2)] [(.int s2), (.ref b294), (.int s2), (.ref b294), (.ref b280)])) _
    have f329 : Ia Z h325 b294 .int n322 := (f321.other W325 (Ne.symm ne299))
    refine Go.via (ldI X325 hx hZ e325 f329 (v := (List.getD n322 (s2).toNatClampNeg 0)) (by rcases r2 with rfl | rfl | rfl <;> decide) (own_get (by rcases r2 with rfl | rfl | rfl <;> decide) (by rw [ln322]; rcases r2 with rfl | rfl | rfl <;> decide)) (g := (mkF m 107 #[.val (.int (3 : Int32)), .val (.ref a), .val (.ref t), .val (.ref b251), .val (.ref b280), .val (.ref b294), .val (.int (2 : Int32)), .val (.int s2)] [(.int s2), (.ref b294), (.int s2), (.ref b294), (.ref b280)])) rfl rfl (hb hby d1_107)) ?_
    show Go p e below (T325.setTop (mkF m 108 #[.val (.int (3 : Int32)), .val (.ref a), .val (.ref t), .val (.ref b251), .val (.ref b280), .val (.ref b294), .val (.int (2 : Int32)), .val (.int s2)] [(.int (List.getD n322 (s2).toNatClampNeg 0)), (.int s2), (.ref b294), (.ref b280)])) _
    generalize hhw330 : (List.getD n322 (s2).toNatClampNeg 0) = w330
    show Go p e below (T325.setTop (mkF m 108 #[.val (.int (3 : Int32)), .val (.ref a), .val (.ref t), .val (.ref b251), .val (.ref b280), .val (.ref b294), .val (.int (2 : Int32)), .val (.int s2)] [(.int w330), (.int s2), (.ref b294), (.ref b280)])) _
    have bw330 := (own_b3_2 (t0 := t0) (t1 := t1) (t2 := t2) ho257 ho261 ho265 ho269 ho272 ho275 ho278 he290 hn306 hhw308 hn311 he316 hhw319 hn322 he327 hhw330 r0 r1 r2)
    refine Go.via (S' := T325.setTop (mkF m 109 #[.val (.int (3 : Int32)), .val (.ref a), .val (.ref t), .val (.ref b251), .val (.ref b280), .val (.ref b294), .val (.int (2 : Int32)), .val (.int s2)] [(.int w330), (.int s2), (.ref b294), (.int w330), (.ref b280)])) (fun tQ kQ => ?_) ?_
    · jvm_step X325.here [X325.here.top, hx, (hb hby d1_108), Value.category]
      exact kQ
    show Go p e below (T325.setTop (mkF m 109 #[.val (.int (3 : Int32)), .val (.ref a), .val (.ref t), .val (.ref b251), .val (.ref b280), .val (.ref b294), .val (.int (2 : Int32)), .val (.int s2)] [(.int w330), (.int s2), (.ref b294), (.int w330), (.ref b280)])) _
    refine Go.via (fun _ => XS.iconst X325.here hx rfl (hb hby d1_109)) ?_
    refine Go.via (fun _ => XS.iadd X325.here hx rfl (hb hby d1_110) rfl) ?_
    show Go p e below (T325.setTop (mkF m 111 #[.val (.int (3 : Int32)), .val (.ref a), .val (.ref t), .val (.ref b251), .val (.ref b280), .val (.ref b294), .val (.int (2 : Int32)), .val (.int s2)] [(.int (w330 + (1 : Int32))), (.int s2), (.ref b294), (.int w330), (.ref b280)])) _
    obtain ⟨T331, h331, X331, e331, W331, V331, st331⟩ := stI' X325 hx hZ e325 f329 (j := s2) (by rcases r2 with rfl | rfl | rfl <;> decide) (by rw [ln322]; rcases r2 with rfl | rfl | rfl <;> decide) (g := (mkF m 111 #[.val (.int (3 : Int32)), .val (.ref a), .val (.ref t), .val (.ref b251), .val (.ref b280), .val (.ref b294), .val (.int (2 : Int32)), .val (.int s2)] [(.int (w330 + (1 : Int32))), (.int s2), (.ref b294), (.int w330), (.ref b280)])) rfl rfl (hb hby d1_111)
    refine Go.via (st331) ?_
    clear st331
    have N331 := Fr.snoc X331 N325 ge302
    have f332 : Ia Z h331 b294 .int (List.set n322 (s2).toNatClampNeg (w330 + (1 : Int32))) := V331
    clear X325 e325
    show Go p e below (T331.setTop (mkF m 112 #[.val (.int (3 : Int32)), .val (.ref a), .val (.ref t), .val (.ref b251), .val (.ref b280), .val (.ref b294), .val (.int (2 : Int32)), .val (.int s2)] [(.int w330), (.ref b280)])) _
    obtain ⟨n333, hn333⟩ : ∃ z : List Int32, z = (List.set n322 (s2).toNatClampNeg (w330 + (1 : Int32))) := ⟨_, rfl⟩
    rw [← hn333] at f332
    have ln333 : n333.length = 3 := by rw [hn333, List.length_set]; exact ln322
    refine Go.via (fun _ => XS.aloadN X331.here hx rfl (hb hby d1_112) rfl rfl) ?_
    refine Go.via (fun _ => XS.iload X331.here hx rfl (hb hby d1_113) rfl) ?_
    have f334 : Ia Z h331 t .int [t0, t1, t2] := ((f323.other W325 ne286).other W331 ne301)
    refine Go.via (ldI X331 hx hZ e331 f334 (v := t2) (by decide) rfl (g := (mkF m 115 #[.val (.int (3 : Int32)), .val (.ref a), .val (.ref t), .val (.ref b251), .val (.ref b280), .val (.ref b294), .val (.int (2 : Int32)), .val (.int s2)] [(.int (2 : Int32)), (.ref t), (.int w330), (.ref b280)])) rfl rfl (hb hby d1_115)) ?_
    show Go p e below (T331.setTop (mkF m 116 #[.val (.int (3 : Int32)), .val (.ref a), .val (.ref t), .val (.ref b251), .val (.ref b280), .val (.ref b294), .val (.int (2 : Int32)), .val (.int s2)] [(.int t2), (.int w330), (.ref b280)])) _
    have f335 : Ia Z h331 b280 .int e327 := (f326.other W331 ne299)
    obtain ⟨T336, h336, X336, e336, W336, V336, st336⟩ := stI' X331 hx hZ e331 f335 (j := w330) bw330.1 (by rw [le327]; exact bw330.2) (g := (mkF m 116 #[.val (.int (3 : Int32)), .val (.ref a), .val (.ref t), .val (.ref b251), .val (.ref b280), .val (.ref b294), .val (.int (2 : Int32)), .val (.int s2)] [(.int t2), (.int w330), (.ref b280)])) rfl rfl (hb hby d1_116)
    refine Go.via (st336) ?_
    clear st336
    have N336 := Fr.snoc X336 N331 ge287
    have f337 : Ia Z h336 b280 .int (List.set e327 (w330).toNatClampNeg t2) := V336
    clear X331 e331
    show Go p e below (T336.setTop (mkF m 117 #[.val (.int (3 : Int32)), .val (.ref a), .val (.ref t), .val (.ref b251), .val (.ref b280), .val (.ref b294), .val (.int (2 : Int32)), .val (.int s2)] [])) _
    obtain ⟨e338, he338⟩ : ∃ z : List Int32, z = (List.set e327 (w330).toNatClampNeg t2) := ⟨_, rfl⟩
    rw [← he338] at f337
    have le338 : e338.length = 3 := by rw [he338, List.length_set]; exact le327
    refine Go.via (fun _ => XS.iinc X336.here hx rfl (hb hby d1_117) rfl (l' := #[.val (.int (3 : Int32)), .val (.ref a), .val (.ref t), .val (.ref b251), .val (.ref b280), .val (.ref b294), .val (.int (3 : Int32)), .val (.int s2)]) rfl) ?_
    show Go p e below (T336.setTop (mkF m 120 #[.val (.int (3 : Int32)), .val (.ref a), .val (.ref t), .val (.ref b251), .val (.ref b280), .val (.ref b294), .val (.int (3 : Int32)), .val (.int s2)] [])) _
    refine Go.via (fun _ => XS.goto X336.here hx rfl (pc0 := 120) (pc' := 91) rfl (hb hby d1_120) (by decide) (by decide)) ?_
    refine Go.via (fun _ => XS.iload X336.here hx rfl (hb hby d1_91) rfl) ?_
    refine Go.via (fun _ => XS.aloadN X336.here hx rfl (hb hby d1_93) rfl rfl) ?_
    have f339 : Ia Z h336 a .int [s0, s1, s2] := ((f328.other W331 ne297).other W336 ne283)
    refine Go.via (lenI X336 hx hZ e336 f339 (n := (3 : Int32)) rfl (g := (mkF m 94 #[.val (.int (3 : Int32)), .val (.ref a), .val (.ref t), .val (.ref b251), .val (.ref b280), .val (.ref b294), .val (.int (3 : Int32)), .val (.int s2)] [(.ref a), (.int (3 : Int32))])) rfl rfl (hb hby d1_94)) ?_
    show Go p e below (T336.setTop (mkF m 95 #[.val (.int (3 : Int32)), .val (.ref a), .val (.ref t), .val (.ref b251), .val (.ref b280), .val (.ref b294), .val (.int (3 : Int32)), .val (.int s2)] [(.int (3 : Int32)), (.int (3 : Int32))])) _
    refine Go.via (fun _ => XS.icmpYes X336.here hx rfl (pc0 := 95) (pc' := 123) rfl (hb hby d1_95) rfl (flt ((by decide) : ¬ ((3 : Int32) < (3 : Int32)))).2.1 (by decide) (by decide)) ?_
    show Go p e below (T336.setTop (mkF m 123 #[.val (.int (3 : Int32)), .val (.ref a), .val (.ref t), .val (.ref b251), .val (.ref b280), .val (.ref b294), .val (.int (3 : Int32)), .val (.int s2)] [])) _
    have k341 : Keep h0 h336 [] := (((((((k304.trans K292q all0).wr W309 (Or.inr sz303)).wr W314 (Or.inr sz288)).wr W320 (Or.inr sz303)).wr W325 (Or.inr sz288)).wr W331 (Or.inr sz303)).wr W336 (Or.inr sz288))
    have z342 : n0 ≤ h336.size := (Nat.le_trans (Nat.le_trans (Nat.le_trans (Nat.le_trans (Nat.le_trans (Nat.le_trans (Nat.le_trans z293 K292q.1) (Keep.of_wr W309).1) (Keep.of_wr W314).1) (Keep.of_wr W320).1) (Keep.of_wr W325).1) (Keep.of_wr W331).1) (Keep.of_wr W336).1)
    obtain ⟨T340, h340, X340, e340, E340, A340, D340, -, st340⟩ := newO X336 hx hZ hown (tw hw 17 rfl) (tw hw 18 rfl) (tw hw 3 rfl) e336 (g := (mkF m 123 #[.val (.int (3 : Int32)), .val (.ref a), .val (.ref t), .val (.ref b251), .val (.ref b280), .val (.ref b294), .val (.int (3 : Int32)), .val (.int s2)] [])) rfl (hb hby d1_123) (by decide) (by decide)
    obtain ⟨b340, g340⟩ : ∃ z, z = h336.size := ⟨_, rfl⟩
    rw [← g340] at A340 D340 st340
    have ne343 : a ≠ b340 := Nat.ne_of_lt (Nat.lt_of_lt_of_le f339.lt (Nat.le_of_eq g340.symm))
    have f345 : Ia Z h336 b251 .int o278 := (((((((f291.keep K292q nin0).other W309 ne298).other W314 ne285).other W320 ne298).other W325 ne285).other W331 ne298).other W336 ne285)
    have ne344 : b251 ≠ b340 := Nat.ne_of_lt (Nat.lt_of_lt_of_le f345.lt (Nat.le_of_eq g340.symm))
    have ne346 : b280 ≠ b340 := Nat.ne_of_lt (Nat.lt_of_lt_of_le f337.lt (Nat.le_of_eq g340.symm))
    have f348 : Ia Z h336 b294 .int n333 := (f332.other W336 (Ne.symm ne299))
    have ne347 : b294 ≠ b340 := Nat.ne_of_lt (Nat.lt_of_lt_of_le f348.lt (Nat.le_of_eq g340.symm))
    have f350 : Ia Z h336 t .int [t0, t1, t2] := (f334.other W336 ne286)
    have ne349 : t ≠ b340 := Nat.ne_of_lt (Nat.lt_of_lt_of_le f350.lt (Nat.le_of_eq g340.symm))
    have ge351 : n0 ≤ b340 := Nat.le_trans z342 (Nat.le_of_eq g340.symm)
    have sz352 : h0.size ≤ b340 := Nat.le_trans k341.1 (Nat.le_of_eq g340.symm)
    refine Go.via (st340) ?_
    clear st340
    have f353 : Fld Z h340 b340 "com/example/acquaint/acquaint/query/Adjacency" "offsets" "[I" .null := D340 (Or.inr (tw hw 26 rfl)) (ty := (.array .int)) (by decide)
    have f354 : Fld Z h340 b340 "com/example/acquaint/acquaint/query/Adjacency" "targets" "[I" .null := D340 (Or.inr (tw hw 28 rfl)) (ty := (.array .int)) (by decide)
    clear X336 e336
    show Go p e below (T340.setTop (mkF m 126 #[.val (.int (3 : Int32)), .val (.ref a), .val (.ref t), .val (.ref b251), .val (.ref b280), .val (.ref b294), .val (.int (3 : Int32)), .val (.int s2)] [(.ref b340)])) _
    refine Go.via (fun _ => XS.dup X340.here hx rfl (hb hby d1_126) rfl rfl) ?_
    refine Go.via (fun _ => XS.aloadN X340.here hx rfl (hb hby d1_127) rfl rfl) ?_
    refine Go.via (fun _ => XS.aload X340.here hx rfl (hb hby d1_128) rfl rfl) ?_
    have z356 : n0 ≤ h340.size := (Nat.le_trans z342 E340.1)
    obtain ⟨_, _, ⟨T355, L355, k355, n355⟩, -, X355, ⟨Lc355, hQ355, l355, y355, z355⟩, st355⟩ := X340.specialBack hx (y := (⟨"com/example/acquaint/acquaint/query/Adjacency", "<init>", "([I[I)V"⟩ : MethodName)) rfl hown (mvT hZ (tw hw 19 rfl)) (mvT hZ (tw hw 20 rfl)) (mvT hZ (tw hw 21 rfl)) (by decide) (backOf (W := 1) (rmI l Z a0 hw [] b340 b251 b280  h340 n0 z356 A340 f353 f354 ge351) hZ (tw hw 21 rfl) (tw hw 3 rfl) (by decide) (by decide)) (g := (mkF m 130 #[.val (.int (3 : Int32)), .val (.ref a), .val (.ref t), .val (.ref b251), .val (.ref b280), .val (.ref b294), .val (.int (3 : Int32)), .val (.int s2)] [(.ref b280), (.ref b251), (.ref b340), (.ref b340)])) rfl (by rw [hml]; rfl) (Steps.refl _) (a := b340) (argsL := [(.ref b251), (.ref b280)]) (rest := [(.ref b340)]) (lenOf pd__28_5bI_5bI_29V rfl) rfl (by show 2 * 0 + _ ≤ _; exact Nat.le_of_eq rfl) (hb hby d1_130) (fun _ _ => ⟨rfl, e340, (by decide : 4 + 0 ≤ _), (by decide : 13 + 0 ≤ _)⟩)
    dsimp only [Pt.U, Pt.locs, Pt.cells, Pt.slots] at X355 l355 y355 z355 st355 hQ355
    subst l355 y355 z355
    obtain ⟨rfl, N355q, K355q, f357, f358, f359⟩ := hQ355
    have N355 := Fr.app N336 N355q
    refine Go.via (fun _ kQ => st355.trans kQ) ?_
    clear st355
    have e355 : T355.heap = T355.heap := rfl
    have f360 : Exa Z T355.heap b340 "com/example/acquaint/acquaint/query/Adjacency" := f357
    have f361 : Fld Z T355.heap b340 "com/example/acquaint/acquaint/query/Adjacency" "offsets" "[I" (.ref b251) := f358
    have f362 : Fld Z T355.heap b340 "com/example/acquaint/acquaint/query/Adjacency" "targets" "[I" (.ref b280) := f359
    clear X340 e340
    show Go p e below (T355.setTop (mkF m 133 #[.val (.int (3 : Int32)), .val (.ref a), .val (.ref t), .val (.ref b251), .val (.ref b280), .val (.ref b294), .val (.int (3 : Int32)), .val (.int s2)] [(.ref b340)])) _
    have k363 : Keep h0 T355.heap [] := ((k341.ext E340).trans K355q (allS (Or.inr sz352) all0))
    have f364 : Ia Z T355.heap b251 .int o278 := ((f345.ext E340).keep K355q (ninS ne344 nin0))
    have f365 : Ia Z T355.heap b280 .int e338 := ((f337.ext E340).keep K355q (ninS ne346 nin0))
    exact Go.fin X355 hlk (v := some (.ref b340)) (fun h => by rw [Bd.returns] at h; cases h) (fun fs hr => retOut X355 hx Bd.returns rfl (Or.inr (Or.inr (Or.inr (Or.inr ⟨rfl, rfl, rfl⟩)))) (hb hby d1_133) hr) (by exact ⟨b251, b280, b340, o278, e338, rfl, N355, k363, sz255, sz288, sz352, f360, f361, f362, f364, f365, (own_r3 (t0 := t0) (t1 := t1) (t2 := t2) ho257 ho261 ho265 ho269 ho272 ho275 ho278 he290 hn306 hhw308 hn311 he316 hhw319 hn322 he327 hhw330 hn333 he338 r0 r1 r2)⟩) (by decide) (by decide)
  · have r0 := hs0.2.2.2 rfl
    have r1 := hs1.2.2.2 rfl
    have r2 := hs2.2.2.2 rfl
    show Go p e below (s₁.setTop (mkF m 0 #[.val (.int (4 : Int32)), .val (.ref a), .val (.ref t), .unset, .unset, .unset, .unset, .unset] [])) _
    refine Go.via (fun _ => XS.iloadN X0.here hx rfl (hb hby d1_0) rfl) ?_
    refine Go.via (fun _ => XS.iconst X0.here hx rfl (hb hby d1_1)) ?_
    refine Go.via (fun _ => XS.iadd X0.here hx rfl (hb hby d1_2) rfl) ?_
    show Go p e below (s₁.setTop (mkF m 3 #[.val (.int (4 : Int32)), .val (.ref a), .val (.ref t), .unset, .unset, .unset, .unset, .unset] [(.int (5 : Int32))])) _
    obtain ⟨T366, h366, k366, X366, e366, E366, A366, B366, st366⟩ := newPE X0 hx hZ (tw hw 0 rfl) e0 (g := (mkF m 3 #[.val (.int (4 : Int32)), .val (.ref a), .val (.ref t), .unset, .unset, .unset, .unset, .unset] [(.int (5 : Int32))])) rfl (hb hby d1_3) rfl (by decide) (cap := 5) (by decide) (by decide) (by decide) (by decide) (ad := "[I") (by decide)
    obtain ⟨b366, g366⟩ : ∃ z, z = h0.size := ⟨_, rfl⟩
    rw [← g366] at A366 B366 st366
    have ne367 : a ≠ b366 := Nat.ne_of_lt (Nat.lt_of_lt_of_le P0.lt (Nat.le_of_eq g366.symm))
    have ne368 : t ≠ b366 := Nat.ne_of_lt (Nat.lt_of_lt_of_le P1.lt (Nat.le_of_eq g366.symm))
    have ge369 : n0 ≤ b366 := Nat.le_trans Z0 (Nat.le_of_eq g366.symm)
    have sz370 : h0.size ≤ b366 := Nat.le_trans (Keep.refl h0 []).1 (Nat.le_of_eq g366.symm)
    refine Go.via (st366) ?_
    clear st366
    have f371 : Ia Z h366 b366 .int [(0 : Int32), (0 : Int32), (0 : Int32), (0 : Int32), (0 : Int32)] := Ia.new A366 rfl
    clear X0 e0
    show Go p e below (T366.setTop (mkF m 5 #[.val (.int (4 : Int32)), .val (.ref a), .val (.ref t), .unset, .unset, .unset, .unset, .unset] [(.ref b366)])) _
    obtain ⟨o372, ho372⟩ : ∃ z : List Int32, z = [(0 : Int32), (0 : Int32), (0 : Int32), (0 : Int32), (0 : Int32)] := ⟨_, rfl⟩
    rw [← ho372] at f371
    have lo372 : o372.length = 5 := by rw [ho372]; rfl
    refine Go.via (fun _ => XS.astoreN X366.here hx rfl (hb hby d1_5) rfl rfl (l' := #[.val (.int (4 : Int32)), .val (.ref a), .val (.ref t), .val (.ref b366), .unset, .unset, .unset, .unset]) rfl) ?_
    show Go p e below (T366.setTop (mkF m 6 #[.val (.int (4 : Int32)), .val (.ref a), .val (.ref t), .val (.ref b366), .unset, .unset, .unset, .unset] [])) _
    refine Go.via (fun _ => XS.aloadN X366.here hx rfl (hb hby d1_6) rfl rfl) ?_
    refine Go.via (fun _ => XS.astore X366.here hx rfl (hb hby d1_7) rfl rfl (l' := #[.val (.int (4 : Int32)), .val (.ref a), .val (.ref t), .val (.ref b366), .val (.ref a), .unset, .unset, .unset]) rfl) ?_
    show Go p e below (T366.setTop (mkF m 9 #[.val (.int (4 : Int32)), .val (.ref a), .val (.ref t), .val (.ref b366), .val (.ref a), .unset, .unset, .unset] [])) _
    refine Go.via (fun _ => XS.aload X366.here hx rfl (hb hby d1_9) rfl rfl) ?_
    have f373 : Ia Z h366 a .int [s0, s1, s2] := (P0.ext E366)
    refine Go.via (lenI X366 hx hZ e366 f373 (n := (3 : Int32)) rfl (g := (mkF m 11 #[.val (.int (4 : Int32)), .val (.ref a), .val (.ref t), .val (.ref b366), .val (.ref a), .unset, .unset, .unset] [(.ref a)])) rfl rfl (hb hby d1_11)) ?_
    show Go p e below (T366.setTop (mkF m 12 #[.val (.int (4 : Int32)), .val (.ref a), .val (.ref t), .val (.ref b366), .val (.ref a), .unset, .unset, .unset] [(.int (3 : Int32))])) _
    refine Go.via (fun _ => XS.istore X366.here hx rfl (hb hby d1_12) rfl (l' := #[.val (.int (4 : Int32)), .val (.ref a), .val (.ref t), .val (.ref b366), .val (.ref a), .val (.int (3 : Int32)), .unset, .unset]) rfl) ?_
    show Go p e below (T366.setTop (mkF m 14 #[.val (.int (4 : Int32)), .val (.ref a), .val (.ref t), .val (.ref b366), .val (.ref a), .val (.int (3 : Int32)), .unset, .unset] [])) _
    refine Go.via (fun _ => XS.iconst X366.here hx rfl (hb hby d1_14)) ?_
    refine Go.via (fun _ => XS.istore X366.here hx rfl (hb hby d1_15) rfl (l' := #[.val (.int (4 : Int32)), .val (.ref a), .val (.ref t), .val (.ref b366), .val (.ref a), .val (.int (3 : Int32)), .val (.int (0 : Int32)), .unset]) rfl) ?_
    show Go p e below (T366.setTop (mkF m 17 #[.val (.int (4 : Int32)), .val (.ref a), .val (.ref t), .val (.ref b366), .val (.ref a), .val (.int (3 : Int32)), .val (.int (0 : Int32)), .unset] [])) _
    refine Go.via (fun _ => XS.iload X366.here hx rfl (hb hby d1_17) rfl) ?_
    refine Go.via (fun _ => XS.iload X366.here hx rfl (hb hby d1_19) rfl) ?_
    refine Go.via (fun _ => XS.icmpNo X366.here hx rfl (hb hby d1_21) rfl (tlt ((by decide) : (0 : Int32) < (3 : Int32))).2.1) ?_
    show Go p e below (T366.setTop (mkF m 24 #[.val (.int (4 : Int32)), .val (.ref a), .val (.ref t), .val (.ref b366), .val (.ref a), .val (.int (3 : Int32)), .val (.int (0 : Int32)), .unset] [])) _
    refine Go.via (fun _ => XS.aload X366.here hx rfl (hb hby d1_24) rfl rfl) ?_
    refine Go.via (fun _ => XS.iload X366.here hx rfl (hb hby d1_26) rfl) ?_
    refine Go.via (ldI X366 hx hZ e366 f373 (v := s0) (by decide) rfl (g := (mkF m 28 #[.val (.int (4 : Int32)), .val (.ref a), .val (.ref t), .val (.ref b366), .val (.ref a), .val (.int (3 : Int32)), .val (.int (0 : Int32)), .unset] [(.int (0 : Int32)), (.ref a)])) rfl rfl (hb hby d1_28)) ?_
    show Go p e below (T366.setTop (mkF m 29 #[.val (.int (4 : Int32)), .val (.ref a), .val (.ref t), .val (.ref b366), .val (.ref a), .val (.int (3 : Int32)), .val (.int (0 : Int32)), .unset] [(.int s0)])) _
    refine Go.via (fun _ => XS.istore X366.here hx rfl (hb hby d1_29) rfl (l' := #[.val (.int (4 : Int32)), .val (.ref a), .val (.ref t), .val (.ref b366), .val (.ref a), .val (.int (3 : Int32)), .val (.int (0 : Int32)), .val (.int s0)]) rfl) ?_
    show Go p e below (T366.setTop (mkF m 31 #[.val (.int (4 : Int32)), .val (.ref a), .val (.ref t), .val (.ref b366), .val (.ref a), .val (.int (3 : Int32)), .val (.int (0 : Int32)), .val (.int s0)] [])) _
    refine Go.via (fun _ => XS.aloadN X366.here hx rfl (hb hby d1_31) rfl rfl) ?_
    refine Go.via (fun _ => XS.iload X366.here hx rfl (hb hby d1_32) rfl) ?_
    refine Go.via (fun _ => XS.iconst X366.here hx rfl (hb hby d1_34)) ?_
    refine Go.via (fun _ => XS.iadd X366.here hx rfl (hb hby d1_35) rfl) ?_
    show Go p e below (T366.setTop (mkF m 36 #[.val (.int (4 : Int32)), .val (.ref a), .val (.ref t), .val (.ref b366), .val (.ref a), .val (.int (3 : Int32)), .val (.int (0 : Int32)), .val (.int s0)] [(.int (s0 + (1 : Int32))), (.ref b366)])) _
    refine Go.via (S' := T366.setTop (mkF m 37 #[.val (.int (4 : Int32)), .val (.ref a), .val (.ref t), .val (.ref b366), .val (.ref a), .val (.int (3 : Int32)), .val (.int (0 : Int32)), .val (.int s0)] [(.int (s0 + (1 : Int32))), (.ref b366), (.int (s0 + (1 : Int32))), (.ref b366)])) (fun tQ kQ => ?_) ?_
    · jvm_step X366.here [X366.here.top, hx, (hb hby d1_36), Value.category]
      exact kQ
    show Go p e below (T366.setTop (mkF m 37 #[.val (.int (4 : Int32)), .val (.ref a), .val (.ref t), .val (.ref b366), .val (.ref a), .val (.int (3 : Int32)), .val (.int (0 : Int32)), .val (.int s0)] [(.int (s0 + (1 : Int32))), (.ref b366), (.int (s0 + (1 : Int32))), (.ref b366)])) _
    refine Go.via (ldI X366 hx hZ e366 f371 (v := (List.getD o372 ((s0 + (1 : Int32))).toNatClampNeg 0)) (by rcases r0 with rfl | rfl | rfl | rfl <;> decide) (own_get (by rcases r0 with rfl | rfl | rfl | rfl <;> decide) (by rw [lo372]; rcases r0 with rfl | rfl | rfl | rfl <;> decide)) (g := (mkF m 37 #[.val (.int (4 : Int32)), .val (.ref a), .val (.ref t), .val (.ref b366), .val (.ref a), .val (.int (3 : Int32)), .val (.int (0 : Int32)), .val (.int s0)] [(.int (s0 + (1 : Int32))), (.ref b366), (.int (s0 + (1 : Int32))), (.ref b366)])) rfl rfl (hb hby d1_37)) ?_
    show Go p e below (T366.setTop (mkF m 38 #[.val (.int (4 : Int32)), .val (.ref a), .val (.ref t), .val (.ref b366), .val (.ref a), .val (.int (3 : Int32)), .val (.int (0 : Int32)), .val (.int s0)] [(.int (List.getD o372 ((s0 + (1 : Int32))).toNatClampNeg 0)), (.int (s0 + (1 : Int32))), (.ref b366)])) _
    refine Go.via (fun _ => XS.iconst X366.here hx rfl (hb hby d1_38)) ?_
    refine Go.via (fun _ => XS.iadd X366.here hx rfl (hb hby d1_39) rfl) ?_
    show Go p e below (T366.setTop (mkF m 40 #[.val (.int (4 : Int32)), .val (.ref a), .val (.ref t), .val (.ref b366), .val (.ref a), .val (.int (3 : Int32)), .val (.int (0 : Int32)), .val (.int s0)] [(.int ((List.getD o372 ((s0 + (1 : Int32))).toNatClampNeg 0) + (1 : Int32))), (.int (s0 + (1 : Int32))), (.ref b366)])) _
    obtain ⟨T374, h374, X374, e374, W374, V374, st374⟩ := stI' X366 hx hZ e366 f371 (j := (s0 + (1 : Int32))) (by rcases r0 with rfl | rfl | rfl | rfl <;> decide) (by rw [lo372]; rcases r0 with rfl | rfl | rfl | rfl <;> decide) (g := (mkF m 40 #[.val (.int (4 : Int32)), .val (.ref a), .val (.ref t), .val (.ref b366), .val (.ref a), .val (.int (3 : Int32)), .val (.int (0 : Int32)), .val (.int s0)] [(.int ((List.getD o372 ((s0 + (1 : Int32))).toNatClampNeg 0) + (1 : Int32))), (.int (s0 + (1 : Int32))), (.ref b366)])) rfl rfl (hb hby d1_40)
    refine Go.via (st374) ?_
    clear st374
    have N374 := Fr.snoc X374 N0 ge369
    have f375 : Ia Z h374 b366 .int (List.set o372 ((s0 + (1 : Int32))).toNatClampNeg ((List.getD o372 ((s0 + (1 : Int32))).toNatClampNeg 0) + (1 : Int32))) := V374
    clear X366 e366
    show Go p e below (T374.setTop (mkF m 41 #[.val (.int (4 : Int32)), .val (.ref a), .val (.ref t), .val (.ref b366), .val (.ref a), .val (.int (3 : Int32)), .val (.int (0 : Int32)), .val (.int s0)] [])) _
    obtain ⟨o376, ho376⟩ : ∃ z : List Int32, z = (List.set o372 ((s0 + (1 : Int32))).toNatClampNeg ((List.getD o372 ((s0 + (1 : Int32))).toNatClampNeg 0) + (1 : Int32))) := ⟨_, rfl⟩
    rw [← ho376] at f375
    have lo376 : o376.length = 5 := by rw [ho376, List.length_set]; exact lo372
    refine Go.via (fun _ => XS.iinc X374.here hx rfl (hb hby d1_41) rfl (l' := #[.val (.int (4 : Int32)), .val (.ref a), .val (.ref t), .val (.ref b366), .val (.ref a), .val (.int (3 : Int32)), .val (.int (1 : Int32)), .val (.int s0)]) rfl) ?_
    show Go p e below (T374.setTop (mkF m 44 #[.val (.int (4 : Int32)), .val (.ref a), .val (.ref t), .val (.ref b366), .val (.ref a), .val (.int (3 : Int32)), .val (.int (1 : Int32)), .val (.int s0)] [])) _
    refine Go.via (fun _ => XS.goto X374.here hx rfl (pc0 := 44) (pc' := 17) rfl (hb hby d1_44) (by decide) (by decide)) ?_
    refine Go.via (fun _ => XS.iload X374.here hx rfl (hb hby d1_17) rfl) ?_
    refine Go.via (fun _ => XS.iload X374.here hx rfl (hb hby d1_19) rfl) ?_
    refine Go.via (fun _ => XS.icmpNo X374.here hx rfl (hb hby d1_21) rfl (tlt ((by decide) : (1 : Int32) < (3 : Int32))).2.1) ?_
    show Go p e below (T374.setTop (mkF m 24 #[.val (.int (4 : Int32)), .val (.ref a), .val (.ref t), .val (.ref b366), .val (.ref a), .val (.int (3 : Int32)), .val (.int (1 : Int32)), .val (.int s0)] [])) _
    refine Go.via (fun _ => XS.aload X374.here hx rfl (hb hby d1_24) rfl rfl) ?_
    refine Go.via (fun _ => XS.iload X374.here hx rfl (hb hby d1_26) rfl) ?_
    have f377 : Ia Z h374 a .int [s0, s1, s2] := (f373.other W374 ne367)
    refine Go.via (ldI X374 hx hZ e374 f377 (v := s1) (by decide) rfl (g := (mkF m 28 #[.val (.int (4 : Int32)), .val (.ref a), .val (.ref t), .val (.ref b366), .val (.ref a), .val (.int (3 : Int32)), .val (.int (1 : Int32)), .val (.int s0)] [(.int (1 : Int32)), (.ref a)])) rfl rfl (hb hby d1_28)) ?_
    show Go p e below (T374.setTop (mkF m 29 #[.val (.int (4 : Int32)), .val (.ref a), .val (.ref t), .val (.ref b366), .val (.ref a), .val (.int (3 : Int32)), .val (.int (1 : Int32)), .val (.int s0)] [(.int s1)])) _
    refine Go.via (fun _ => XS.istore X374.here hx rfl (hb hby d1_29) rfl (l' := #[.val (.int (4 : Int32)), .val (.ref a), .val (.ref t), .val (.ref b366), .val (.ref a), .val (.int (3 : Int32)), .val (.int (1 : Int32)), .val (.int s1)]) rfl) ?_
    show Go p e below (T374.setTop (mkF m 31 #[.val (.int (4 : Int32)), .val (.ref a), .val (.ref t), .val (.ref b366), .val (.ref a), .val (.int (3 : Int32)), .val (.int (1 : Int32)), .val (.int s1)] [])) _
    refine Go.via (fun _ => XS.aloadN X374.here hx rfl (hb hby d1_31) rfl rfl) ?_
    refine Go.via (fun _ => XS.iload X374.here hx rfl (hb hby d1_32) rfl) ?_
    refine Go.via (fun _ => XS.iconst X374.here hx rfl (hb hby d1_34)) ?_
    refine Go.via (fun _ => XS.iadd X374.here hx rfl (hb hby d1_35) rfl) ?_
    show Go p e below (T374.setTop (mkF m 36 #[.val (.int (4 : Int32)), .val (.ref a), .val (.ref t), .val (.ref b366), .val (.ref a), .val (.int (3 : Int32)), .val (.int (1 : Int32)), .val (.int s1)] [(.int (s1 + (1 : Int32))), (.ref b366)])) _
    refine Go.via (S' := T374.setTop (mkF m 37 #[.val (.int (4 : Int32)), .val (.ref a), .val (.ref t), .val (.ref b366), .val (.ref a), .val (.int (3 : Int32)), .val (.int (1 : Int32)), .val (.int s1)] [(.int (s1 + (1 : Int32))), (.ref b366), (.int (s1 + (1 : Int32))), (.ref b366)])) (fun tQ kQ => ?_) ?_
    · jvm_step X374.here [X374.here.top, hx, (hb hby d1_36), Value.category]
      exact kQ
    show Go p e below (T374.setTop (mkF m 37 #[.val (.int (4 : Int32)), .val (.ref a), .val (.ref t), .val (.ref b366), .val (.ref a), .val (.int (3 : Int32)), .val (.int (1 : Int32)), .val (.int s1)] [(.int (s1 + (1 : Int32))), (.ref b366), (.int (s1 + (1 : Int32))), (.ref b366)])) _
    refine Go.via (ldI X374 hx hZ e374 f375 (v := (List.getD o376 ((s1 + (1 : Int32))).toNatClampNeg 0)) (by rcases r1 with rfl | rfl | rfl | rfl <;> decide) (own_get (by rcases r1 with rfl | rfl | rfl | rfl <;> decide) (by rw [lo376]; rcases r1 with rfl | rfl | rfl | rfl <;> decide)) (g := (mkF m 37 #[.val (.int (4 : Int32)), .val (.ref a), .val (.ref t), .val (.ref b366), .val (.ref a), .val (.int (3 : Int32)), .val (.int (1 : Int32)), .val (.int s1)] [(.int (s1 + (1 : Int32))), (.ref b366), (.int (s1 + (1 : Int32))), (.ref b366)])) rfl rfl (hb hby d1_37)) ?_
    show Go p e below (T374.setTop (mkF m 38 #[.val (.int (4 : Int32)), .val (.ref a), .val (.ref t), .val (.ref b366), .val (.ref a), .val (.int (3 : Int32)), .val (.int (1 : Int32)), .val (.int s1)] [(.int (List.getD o376 ((s1 + (1 : Int32))).toNatClampNeg 0)), (.int (s1 + (1 : Int32))), (.ref b366)])) _
    refine Go.via (fun _ => XS.iconst X374.here hx rfl (hb hby d1_38)) ?_
    refine Go.via (fun _ => XS.iadd X374.here hx rfl (hb hby d1_39) rfl) ?_
    show Go p e below (T374.setTop (mkF m 40 #[.val (.int (4 : Int32)), .val (.ref a), .val (.ref t), .val (.ref b366), .val (.ref a), .val (.int (3 : Int32)), .val (.int (1 : Int32)), .val (.int s1)] [(.int ((List.getD o376 ((s1 + (1 : Int32))).toNatClampNeg 0) + (1 : Int32))), (.int (s1 + (1 : Int32))), (.ref b366)])) _
    obtain ⟨T378, h378, X378, e378, W378, V378, st378⟩ := stI' X374 hx hZ e374 f375 (j := (s1 + (1 : Int32))) (by rcases r1 with rfl | rfl | rfl | rfl <;> decide) (by rw [lo376]; rcases r1 with rfl | rfl | rfl | rfl <;> decide) (g := (mkF m 40 #[.val (.int (4 : Int32)), .val (.ref a), .val (.ref t), .val (.ref b366), .val (.ref a), .val (.int (3 : Int32)), .val (.int (1 : Int32)), .val (.int s1)] [(.int ((List.getD o376 ((s1 + (1 : Int32))).toNatClampNeg 0) + (1 : Int32))), (.int (s1 + (1 : Int32))), (.ref b366)])) rfl rfl (hb hby d1_40)
    refine Go.via (st378) ?_
    clear st378
    have N378 := Fr.snoc X378 N374 ge369
    have f379 : Ia Z h378 b366 .int (List.set o376 ((s1 + (1 : Int32))).toNatClampNeg ((List.getD o376 ((s1 + (1 : Int32))).toNatClampNeg 0) + (1 : Int32))) := V378
    clear X374 e374
    show Go p e below (T378.setTop (mkF m 41 #[.val (.int (4 : Int32)), .val (.ref a), .val (.ref t), .val (.ref b366), .val (.ref a), .val (.int (3 : Int32)), .val (.int (1 : Int32)), .val (.int s1)] [])) _
    obtain ⟨o380, ho380⟩ : ∃ z : List Int32, z = (List.set o376 ((s1 + (1 : Int32))).toNatClampNeg ((List.getD o376 ((s1 + (1 : Int32))).toNatClampNeg 0) + (1 : Int32))) := ⟨_, rfl⟩
    rw [← ho380] at f379
    have lo380 : o380.length = 5 := by rw [ho380, List.length_set]; exact lo376
    refine Go.via (fun _ => XS.iinc X378.here hx rfl (hb hby d1_41) rfl (l' := #[.val (.int (4 : Int32)), .val (.ref a), .val (.ref t), .val (.ref b366), .val (.ref a), .val (.int (3 : Int32)), .val (.int (2 : Int32)), .val (.int s1)]) rfl) ?_
    show Go p e below (T378.setTop (mkF m 44 #[.val (.int (4 : Int32)), .val (.ref a), .val (.ref t), .val (.ref b366), .val (.ref a), .val (.int (3 : Int32)), .val (.int (2 : Int32)), .val (.int s1)] [])) _
    refine Go.via (fun _ => XS.goto X378.here hx rfl (pc0 := 44) (pc' := 17) rfl (hb hby d1_44) (by decide) (by decide)) ?_
    refine Go.via (fun _ => XS.iload X378.here hx rfl (hb hby d1_17) rfl) ?_
    refine Go.via (fun _ => XS.iload X378.here hx rfl (hb hby d1_19) rfl) ?_
    refine Go.via (fun _ => XS.icmpNo X378.here hx rfl (hb hby d1_21) rfl (tlt ((by decide) : (2 : Int32) < (3 : Int32))).2.1) ?_
    show Go p e below (T378.setTop (mkF m 24 #[.val (.int (4 : Int32)), .val (.ref a), .val (.ref t), .val (.ref b366), .val (.ref a), .val (.int (3 : Int32)), .val (.int (2 : Int32)), .val (.int s1)] [])) _
    refine Go.via (fun _ => XS.aload X378.here hx rfl (hb hby d1_24) rfl rfl) ?_
    refine Go.via (fun _ => XS.iload X378.here hx rfl (hb hby d1_26) rfl) ?_
    have f381 : Ia Z h378 a .int [s0, s1, s2] := (f377.other W378 ne367)
    refine Go.via (ldI X378 hx hZ e378 f381 (v := s2) (by decide) rfl (g := (mkF m 28 #[.val (.int (4 : Int32)), .val (.ref a), .val (.ref t), .val (.ref b366), .val (.ref a), .val (.int (3 : Int32)), .val (.int (2 : Int32)), .val (.int s1)] [(.int (2 : Int32)), (.ref a)])) rfl rfl (hb hby d1_28)) ?_
    show Go p e below (T378.setTop (mkF m 29 #[.val (.int (4 : Int32)), .val (.ref a), .val (.ref t), .val (.ref b366), .val (.ref a), .val (.int (3 : Int32)), .val (.int (2 : Int32)), .val (.int s1)] [(.int s2)])) _
    refine Go.via (fun _ => XS.istore X378.here hx rfl (hb hby d1_29) rfl (l' := #[.val (.int (4 : Int32)), .val (.ref a), .val (.ref t), .val (.ref b366), .val (.ref a), .val (.int (3 : Int32)), .val (.int (2 : Int32)), .val (.int s2)]) rfl) ?_
    show Go p e below (T378.setTop (mkF m 31 #[.val (.int (4 : Int32)), .val (.ref a), .val (.ref t), .val (.ref b366), .val (.ref a), .val (.int (3 : Int32)), .val (.int (2 : Int32)), .val (.int s2)] [])) _
    refine Go.via (fun _ => XS.aloadN X378.here hx rfl (hb hby d1_31) rfl rfl) ?_
    refine Go.via (fun _ => XS.iload X378.here hx rfl (hb hby d1_32) rfl) ?_
    refine Go.via (fun _ => XS.iconst X378.here hx rfl (hb hby d1_34)) ?_
    refine Go.via (fun _ => XS.iadd X378.here hx rfl (hb hby d1_35) rfl) ?_
    show Go p e below (T378.setTop (mkF m 36 #[.val (.int (4 : Int32)), .val (.ref a), .val (.ref t), .val (.ref b366), .val (.ref a), .val (.int (3 : Int32)), .val (.int (2 : Int32)), .val (.int s2)] [(.int (s2 + (1 : Int32))), (.ref b366)])) _
    refine Go.via (S' := T378.setTop (mkF m 37 #[.val (.int (4 : Int32)), .val (.ref a), .val (.ref t), .val (.ref b366), .val (.ref a), .val (.int (3 : Int32)), .val (.int (2 : Int32)), .val (.int s2)] [(.int (s2 + (1 : Int32))), (.ref b366), (.int (s2 + (1 : Int32))), (.ref b366)])) (fun tQ kQ => ?_) ?_
    · jvm_step X378.here [X378.here.top, hx, (hb hby d1_36), Value.category]
      exact kQ
    show Go p e below (T378.setTop (mkF m 37 #[.val (.int (4 : Int32)), .val (.ref a), .val (.ref t), .val (.ref b366), .val (.ref a), .val (.int (3 : Int32)), .val (.int (2 : Int32)), .val (.int s2)] [(.int (s2 + (1 : Int32))), (.ref b366), (.int (s2 + (1 : Int32))), (.ref b366)])) _
    refine Go.via (ldI X378 hx hZ e378 f379 (v := (List.getD o380 ((s2 + (1 : Int32))).toNatClampNeg 0)) (by rcases r2 with rfl | rfl | rfl | rfl <;> decide) (own_get (by rcases r2 with rfl | rfl | rfl | rfl <;> decide) (by rw [lo380]; rcases r2 with rfl | rfl | rfl | rfl <;> decide)) (g := (mkF m 37 #[.val (.int (4 : Int32)), .val (.ref a), .val (.ref t), .val (.ref b366), .val (.ref a), .val (.int (3 : Int32)), .val (.int (2 : Int32)), .val (.int s2)] [(.int (s2 + (1 : Int32))), (.ref b366), (.int (s2 + (1 : Int32))), (.ref b366)])) rfl rfl (hb hby d1_37)) ?_
    show Go p e below (T378.setTop (mkF m 38 #[.val (.int (4 : Int32)), .val (.ref a), .val (.ref t), .val (.ref b366), .val (.ref a), .val (.int (3 : Int32)), .val (.int (2 : Int32)), .val (.int s2)] [(.int (List.getD o380 ((s2 + (1 : Int32))).toNatClampNeg 0)), (.int (s2 + (1 : Int32))), (.ref b366)])) _
    refine Go.via (fun _ => XS.iconst X378.here hx rfl (hb hby d1_38)) ?_
    refine Go.via (fun _ => XS.iadd X378.here hx rfl (hb hby d1_39) rfl) ?_
    show Go p e below (T378.setTop (mkF m 40 #[.val (.int (4 : Int32)), .val (.ref a), .val (.ref t), .val (.ref b366), .val (.ref a), .val (.int (3 : Int32)), .val (.int (2 : Int32)), .val (.int s2)] [(.int ((List.getD o380 ((s2 + (1 : Int32))).toNatClampNeg 0) + (1 : Int32))), (.int (s2 + (1 : Int32))), (.ref b366)])) _
    obtain ⟨T382, h382, X382, e382, W382, V382, st382⟩ := stI' X378 hx hZ e378 f379 (j := (s2 + (1 : Int32))) (by rcases r2 with rfl | rfl | rfl | rfl <;> decide) (by rw [lo380]; rcases r2 with rfl | rfl | rfl | rfl <;> decide) (g := (mkF m 40 #[.val (.int (4 : Int32)), .val (.ref a), .val (.ref t), .val (.ref b366), .val (.ref a), .val (.int (3 : Int32)), .val (.int (2 : Int32)), .val (.int s2)] [(.int ((List.getD o380 ((s2 + (1 : Int32))).toNatClampNeg 0) + (1 : Int32))), (.int (s2 + (1 : Int32))), (.ref b366)])) rfl rfl (hb hby d1_40)
    refine Go.via (st382) ?_
    clear st382
    have N382 := Fr.snoc X382 N378 ge369
    have f383 : Ia Z h382 b366 .int (List.set o380 ((s2 + (1 : Int32))).toNatClampNeg ((List.getD o380 ((s2 + (1 : Int32))).toNatClampNeg 0) + (1 : Int32))) := V382
    clear X378 e378
    show Go p e below (T382.setTop (mkF m 41 #[.val (.int (4 : Int32)), .val (.ref a), .val (.ref t), .val (.ref b366), .val (.ref a), .val (.int (3 : Int32)), .val (.int (2 : Int32)), .val (.int s2)] [])) _
    obtain ⟨o384, ho384⟩ : ∃ z : List Int32, z = (List.set o380 ((s2 + (1 : Int32))).toNatClampNeg ((List.getD o380 ((s2 + (1 : Int32))).toNatClampNeg 0) + (1 : Int32))) := ⟨_, rfl⟩
    rw [← ho384] at f383
    have lo384 : o384.length = 5 := by rw [ho384, List.length_set]; exact lo380
    refine Go.via (fun _ => XS.iinc X382.here hx rfl (hb hby d1_41) rfl (l' := #[.val (.int (4 : Int32)), .val (.ref a), .val (.ref t), .val (.ref b366), .val (.ref a), .val (.int (3 : Int32)), .val (.int (3 : Int32)), .val (.int s2)]) rfl) ?_
    show Go p e below (T382.setTop (mkF m 44 #[.val (.int (4 : Int32)), .val (.ref a), .val (.ref t), .val (.ref b366), .val (.ref a), .val (.int (3 : Int32)), .val (.int (3 : Int32)), .val (.int s2)] [])) _
    refine Go.via (fun _ => XS.goto X382.here hx rfl (pc0 := 44) (pc' := 17) rfl (hb hby d1_44) (by decide) (by decide)) ?_
    refine Go.via (fun _ => XS.iload X382.here hx rfl (hb hby d1_17) rfl) ?_
    refine Go.via (fun _ => XS.iload X382.here hx rfl (hb hby d1_19) rfl) ?_
    refine Go.via (fun _ => XS.icmpYes X382.here hx rfl (pc0 := 21) (pc' := 47) rfl (hb hby d1_21) rfl (flt ((by decide) : ¬ ((3 : Int32) < (3 : Int32)))).2.1 (by decide) (by decide)) ?_
    show Go p e below (T382.setTop (mkF m 47 #[.val (.int (4 : Int32)), .val (.ref a), .val (.ref t), .val (.ref b366), .val (.ref a), .val (.int (3 : Int32)), .val (.int (3 : Int32)), .val (.int s2)] [])) _
    refine Go.via (fun _ => XS.iconst X382.here hx rfl (hb hby d1_47)) ?_
    refine Go.via (fun _ => XS.istore X382.here hx rfl (hb hby d1_48) rfl (l' := #[.val (.int (4 : Int32)), .val (.ref a), .val (.ref t), .val (.ref b366), .val (.int (0 : Int32)), .val (.int (3 : Int32)), .val (.int (3 : Int32)), .val (.int s2)]) rfl) ?_
    show Go p e below (T382.setTop (mkF m 50 #[.val (.int (4 : Int32)), .val (.ref a), .val (.ref t), .val (.ref b366), .val (.int (0 : Int32)), .val (.int (3 : Int32)), .val (.int (3 : Int32)), .val (.int s2)] [])) _
    refine Go.via (fun _ => XS.iload X382.here hx rfl (hb hby d1_50) rfl) ?_
    refine Go.via (fun _ => XS.iloadN X382.here hx rfl (hb hby d1_52) rfl) ?_
    refine Go.via (fun _ => XS.icmpNo X382.here hx rfl (hb hby d1_53) rfl (tlt ((by decide) : (0 : Int32) < (4 : Int32))).2.1) ?_
    show Go p e below (T382.setTop (mkF m 56 #[.val (.int (4 : Int32)), .val (.ref a), .val (.ref t), .val (.ref b366), .val (.int (0 : Int32)), .val (.int (3 : Int32)), .val (.int (3 : Int32)), .val (.int s2)] [])) _
    refine Go.via (fun _ => XS.aloadN X382.here hx rfl (hb hby d1_56) rfl rfl) ?_
    refine Go.via (fun _ => XS.iload X382.here hx rfl (hb hby d1_57) rfl) ?_
    refine Go.via (fun _ => XS.iconst X382.here hx rfl (hb hby d1_59)) ?_
    refine Go.via (fun _ => XS.iadd X382.here hx rfl (hb hby d1_60) rfl) ?_
    show Go p e below (T382.setTop (mkF m 61 #[.val (.int (4 : Int32)), .val (.ref a), .val (.ref t), .val (.ref b366), .val (.int (0 : Int32)), .val (.int (3 : Int32)), .val (.int (3 : Int32)), .val (.int s2)] [(.int (1 : Int32)), (.ref b366)])) _
    refine Go.via (S' := T382.setTop (mkF m 62 #[.val (.int (4 : Int32)), .val (.ref a), .val (.ref t), .val (.ref b366), .val (.int (0 : Int32)), .val (.int (3 : Int32)), .val (.int (3 : Int32)), .val (.int s2)] [(.int (1 : Int32)), (.ref b366), (.int (1 : Int32)), (.ref b366)])) (fun tQ kQ => ?_) ?_
    · jvm_step X382.here [X382.here.top, hx, (hb hby d1_61), Value.category]
      exact kQ
    show Go p e below (T382.setTop (mkF m 62 #[.val (.int (4 : Int32)), .val (.ref a), .val (.ref t), .val (.ref b366), .val (.int (0 : Int32)), .val (.int (3 : Int32)), .val (.int (3 : Int32)), .val (.int s2)] [(.int (1 : Int32)), (.ref b366), (.int (1 : Int32)), (.ref b366)])) _
    refine Go.via (ldI X382 hx hZ e382 f383 (v := (List.getD o384 ((1 : Int32)).toNatClampNeg 0)) (by decide) (own_get (by decide) (by rw [lo384]; decide)) (g := (mkF m 62 #[.val (.int (4 : Int32)), .val (.ref a), .val (.ref t), .val (.ref b366), .val (.int (0 : Int32)), .val (.int (3 : Int32)), .val (.int (3 : Int32)), .val (.int s2)] [(.int (1 : Int32)), (.ref b366), (.int (1 : Int32)), (.ref b366)])) rfl rfl (hb hby d1_62)) ?_
    show Go p e below (T382.setTop (mkF m 63 #[.val (.int (4 : Int32)), .val (.ref a), .val (.ref t), .val (.ref b366), .val (.int (0 : Int32)), .val (.int (3 : Int32)), .val (.int (3 : Int32)), .val (.int s2)] [(.int (List.getD o384 ((1 : Int32)).toNatClampNeg 0)), (.int (1 : Int32)), (.ref b366)])) _
    refine Go.via (fun _ => XS.aloadN X382.here hx rfl (hb hby d1_63) rfl rfl) ?_
    refine Go.via (fun _ => XS.iload X382.here hx rfl (hb hby d1_64) rfl) ?_
    refine Go.via (ldI X382 hx hZ e382 f383 (v := (List.getD o384 ((0 : Int32)).toNatClampNeg 0)) (by decide) (own_get (by decide) (by rw [lo384]; decide)) (g := (mkF m 66 #[.val (.int (4 : Int32)), .val (.ref a), .val (.ref t), .val (.ref b366), .val (.int (0 : Int32)), .val (.int (3 : Int32)), .val (.int (3 : Int32)), .val (.int s2)] [(.int (0 : Int32)), (.ref b366), (.int (List.getD o384 ((1 : Int32)).toNatClampNeg 0)), (.int (1 : Int32)), (.ref b366)])) rfl rfl (hb hby d1_66)) ?_
    show Go p e below (T382.setTop (mkF m 67 #[.val (.int (4 : Int32)), .val (.ref a), .val (.ref t), .val (.ref b366), .val (.int (0 : Int32)), .val (.int (3 : Int32)), .val (.int (3 : Int32)), .val (.int s2)] [(.int (List.getD o384 ((0 : Int32)).toNatClampNeg 0)), (.int (List.getD o384 ((1 : Int32)).toNatClampNeg 0)), (.int (1 : Int32)), (.ref b366)])) _
    refine Go.via (fun _ => XS.iadd X382.here hx rfl (hb hby d1_67) rfl) ?_
    show Go p e below (T382.setTop (mkF m 68 #[.val (.int (4 : Int32)), .val (.ref a), .val (.ref t), .val (.ref b366), .val (.int (0 : Int32)), .val (.int (3 : Int32)), .val (.int (3 : Int32)), .val (.int s2)] [(.int ((List.getD o384 ((1 : Int32)).toNatClampNeg 0) + (List.getD o384 ((0 : Int32)).toNatClampNeg 0))), (.int (1 : Int32)), (.ref b366)])) _
    obtain ⟨T385, h385, X385, e385, W385, V385, st385⟩ := stI' X382 hx hZ e382 f383 (j := (1 : Int32)) (by decide) (by rw [lo384]; decide) (g := (mkF m 68 #[.val (.int (4 : Int32)), .val (.ref a), .val (.ref t), .val (.ref b366), .val (.int (0 : Int32)), .val (.int (3 : Int32)), .val (.int (3 : Int32)), .val (.int s2)] [(.int ((List.getD o384 ((1 : Int32)).toNatClampNeg 0) + (List.getD o384 ((0 : Int32)).toNatClampNeg 0))), (.int (1 : Int32)), (.ref b366)])) rfl rfl (hb hby d1_68)
    refine Go.via (st385) ?_
    clear st385
    have N385 := Fr.snoc X385 N382 ge369
    have f386 : Ia Z h385 b366 .int (List.set o384 ((1 : Int32)).toNatClampNeg ((List.getD o384 ((1 : Int32)).toNatClampNeg 0) + (List.getD o384 ((0 : Int32)).toNatClampNeg 0))) := V385
    clear X382 e382
    show Go p e below (T385.setTop (mkF m 69 #[.val (.int (4 : Int32)), .val (.ref a), .val (.ref t), .val (.ref b366), .val (.int (0 : Int32)), .val (.int (3 : Int32)), .val (.int (3 : Int32)), .val (.int s2)] [])) _
    obtain ⟨o387, ho387⟩ : ∃ z : List Int32, z = (List.set o384 ((1 : Int32)).toNatClampNeg ((List.getD o384 ((1 : Int32)).toNatClampNeg 0) + (List.getD o384 ((0 : Int32)).toNatClampNeg 0))) := ⟨_, rfl⟩
    rw [← ho387] at f386
    have lo387 : o387.length = 5 := by rw [ho387, List.length_set]; exact lo384
    refine Go.via (fun _ => XS.iinc X385.here hx rfl (hb hby d1_69) rfl (l' := #[.val (.int (4 : Int32)), .val (.ref a), .val (.ref t), .val (.ref b366), .val (.int (1 : Int32)), .val (.int (3 : Int32)), .val (.int (3 : Int32)), .val (.int s2)]) rfl) ?_
    show Go p e below (T385.setTop (mkF m 72 #[.val (.int (4 : Int32)), .val (.ref a), .val (.ref t), .val (.ref b366), .val (.int (1 : Int32)), .val (.int (3 : Int32)), .val (.int (3 : Int32)), .val (.int s2)] [])) _
    refine Go.via (fun _ => XS.goto X385.here hx rfl (pc0 := 72) (pc' := 50) rfl (hb hby d1_72) (by decide) (by decide)) ?_
    refine Go.via (fun _ => XS.iload X385.here hx rfl (hb hby d1_50) rfl) ?_
    refine Go.via (fun _ => XS.iloadN X385.here hx rfl (hb hby d1_52) rfl) ?_
    refine Go.via (fun _ => XS.icmpNo X385.here hx rfl (hb hby d1_53) rfl (tlt ((by decide) : (1 : Int32) < (4 : Int32))).2.1) ?_
    show Go p e below (T385.setTop (mkF m 56 #[.val (.int (4 : Int32)), .val (.ref a), .val (.ref t), .val (.ref b366), .val (.int (1 : Int32)), .val (.int (3 : Int32)), .val (.int (3 : Int32)), .val (.int s2)] [])) _
    refine Go.via (fun _ => XS.aloadN X385.here hx rfl (hb hby d1_56) rfl rfl) ?_
    refine Go.via (fun _ => XS.iload X385.here hx rfl (hb hby d1_57) rfl) ?_
    refine Go.via (fun _ => XS.iconst X385.here hx rfl (hb hby d1_59)) ?_
    refine Go.via (fun _ => XS.iadd X385.here hx rfl (hb hby d1_60) rfl) ?_
    show Go p e below (T385.setTop (mkF m 61 #[.val (.int (4 : Int32)), .val (.ref a), .val (.ref t), .val (.ref b366), .val (.int (1 : Int32)), .val (.int (3 : Int32)), .val (.int (3 : Int32)), .val (.int s2)] [(.int (2 : Int32)), (.ref b366)])) _
    refine Go.via (S' := T385.setTop (mkF m 62 #[.val (.int (4 : Int32)), .val (.ref a), .val (.ref t), .val (.ref b366), .val (.int (1 : Int32)), .val (.int (3 : Int32)), .val (.int (3 : Int32)), .val (.int s2)] [(.int (2 : Int32)), (.ref b366), (.int (2 : Int32)), (.ref b366)])) (fun tQ kQ => ?_) ?_
    · jvm_step X385.here [X385.here.top, hx, (hb hby d1_61), Value.category]
      exact kQ
    show Go p e below (T385.setTop (mkF m 62 #[.val (.int (4 : Int32)), .val (.ref a), .val (.ref t), .val (.ref b366), .val (.int (1 : Int32)), .val (.int (3 : Int32)), .val (.int (3 : Int32)), .val (.int s2)] [(.int (2 : Int32)), (.ref b366), (.int (2 : Int32)), (.ref b366)])) _
    refine Go.via (ldI X385 hx hZ e385 f386 (v := (List.getD o387 ((2 : Int32)).toNatClampNeg 0)) (by decide) (own_get (by decide) (by rw [lo387]; decide)) (g := (mkF m 62 #[.val (.int (4 : Int32)), .val (.ref a), .val (.ref t), .val (.ref b366), .val (.int (1 : Int32)), .val (.int (3 : Int32)), .val (.int (3 : Int32)), .val (.int s2)] [(.int (2 : Int32)), (.ref b366), (.int (2 : Int32)), (.ref b366)])) rfl rfl (hb hby d1_62)) ?_
    show Go p e below (T385.setTop (mkF m 63 #[.val (.int (4 : Int32)), .val (.ref a), .val (.ref t), .val (.ref b366), .val (.int (1 : Int32)), .val (.int (3 : Int32)), .val (.int (3 : Int32)), .val (.int s2)] [(.int (List.getD o387 ((2 : Int32)).toNatClampNeg 0)), (.int (2 : Int32)), (.ref b366)])) _
    refine Go.via (fun _ => XS.aloadN X385.here hx rfl (hb hby d1_63) rfl rfl) ?_
    refine Go.via (fun _ => XS.iload X385.here hx rfl (hb hby d1_64) rfl) ?_
    refine Go.via (ldI X385 hx hZ e385 f386 (v := (List.getD o387 ((1 : Int32)).toNatClampNeg 0)) (by decide) (own_get (by decide) (by rw [lo387]; decide)) (g := (mkF m 66 #[.val (.int (4 : Int32)), .val (.ref a), .val (.ref t), .val (.ref b366), .val (.int (1 : Int32)), .val (.int (3 : Int32)), .val (.int (3 : Int32)), .val (.int s2)] [(.int (1 : Int32)), (.ref b366), (.int (List.getD o387 ((2 : Int32)).toNatClampNeg 0)), (.int (2 : Int32)), (.ref b366)])) rfl rfl (hb hby d1_66)) ?_
    show Go p e below (T385.setTop (mkF m 67 #[.val (.int (4 : Int32)), .val (.ref a), .val (.ref t), .val (.ref b366), .val (.int (1 : Int32)), .val (.int (3 : Int32)), .val (.int (3 : Int32)), .val (.int s2)] [(.int (List.getD o387 ((1 : Int32)).toNatClampNeg 0)), (.int (List.getD o387 ((2 : Int32)).toNatClampNeg 0)), (.int (2 : Int32)), (.ref b366)])) _
    refine Go.via (fun _ => XS.iadd X385.here hx rfl (hb hby d1_67) rfl) ?_
    show Go p e below (T385.setTop (mkF m 68 #[.val (.int (4 : Int32)), .val (.ref a), .val (.ref t), .val (.ref b366), .val (.int (1 : Int32)), .val (.int (3 : Int32)), .val (.int (3 : Int32)), .val (.int s2)] [(.int ((List.getD o387 ((2 : Int32)).toNatClampNeg 0) + (List.getD o387 ((1 : Int32)).toNatClampNeg 0))), (.int (2 : Int32)), (.ref b366)])) _
    obtain ⟨T388, h388, X388, e388, W388, V388, st388⟩ := stI' X385 hx hZ e385 f386 (j := (2 : Int32)) (by decide) (by rw [lo387]; decide) (g := (mkF m 68 #[.val (.int (4 : Int32)), .val (.ref a), .val (.ref t), .val (.ref b366), .val (.int (1 : Int32)), .val (.int (3 : Int32)), .val (.int (3 : Int32)), .val (.int s2)] [(.int ((List.getD o387 ((2 : Int32)).toNatClampNeg 0) + (List.getD o387 ((1 : Int32)).toNatClampNeg 0))), (.int (2 : Int32)), (.ref b366)])) rfl rfl (hb hby d1_68)
    refine Go.via (st388) ?_
    clear st388
    have N388 := Fr.snoc X388 N385 ge369
    have f389 : Ia Z h388 b366 .int (List.set o387 ((2 : Int32)).toNatClampNeg ((List.getD o387 ((2 : Int32)).toNatClampNeg 0) + (List.getD o387 ((1 : Int32)).toNatClampNeg 0))) := V388
    clear X385 e385
    show Go p e below (T388.setTop (mkF m 69 #[.val (.int (4 : Int32)), .val (.ref a), .val (.ref t), .val (.ref b366), .val (.int (1 : Int32)), .val (.int (3 : Int32)), .val (.int (3 : Int32)), .val (.int s2)] [])) _
    obtain ⟨o390, ho390⟩ : ∃ z : List Int32, z = (List.set o387 ((2 : Int32)).toNatClampNeg ((List.getD o387 ((2 : Int32)).toNatClampNeg 0) + (List.getD o387 ((1 : Int32)).toNatClampNeg 0))) := ⟨_, rfl⟩
    rw [← ho390] at f389
    have lo390 : o390.length = 5 := by rw [ho390, List.length_set]; exact lo387
    refine Go.via (fun _ => XS.iinc X388.here hx rfl (hb hby d1_69) rfl (l' := #[.val (.int (4 : Int32)), .val (.ref a), .val (.ref t), .val (.ref b366), .val (.int (2 : Int32)), .val (.int (3 : Int32)), .val (.int (3 : Int32)), .val (.int s2)]) rfl) ?_
    show Go p e below (T388.setTop (mkF m 72 #[.val (.int (4 : Int32)), .val (.ref a), .val (.ref t), .val (.ref b366), .val (.int (2 : Int32)), .val (.int (3 : Int32)), .val (.int (3 : Int32)), .val (.int s2)] [])) _
    refine Go.via (fun _ => XS.goto X388.here hx rfl (pc0 := 72) (pc' := 50) rfl (hb hby d1_72) (by decide) (by decide)) ?_
    refine Go.via (fun _ => XS.iload X388.here hx rfl (hb hby d1_50) rfl) ?_
    refine Go.via (fun _ => XS.iloadN X388.here hx rfl (hb hby d1_52) rfl) ?_
    refine Go.via (fun _ => XS.icmpNo X388.here hx rfl (hb hby d1_53) rfl (tlt ((by decide) : (2 : Int32) < (4 : Int32))).2.1) ?_
    show Go p e below (T388.setTop (mkF m 56 #[.val (.int (4 : Int32)), .val (.ref a), .val (.ref t), .val (.ref b366), .val (.int (2 : Int32)), .val (.int (3 : Int32)), .val (.int (3 : Int32)), .val (.int s2)] [])) _
    refine Go.via (fun _ => XS.aloadN X388.here hx rfl (hb hby d1_56) rfl rfl) ?_
    refine Go.via (fun _ => XS.iload X388.here hx rfl (hb hby d1_57) rfl) ?_
    refine Go.via (fun _ => XS.iconst X388.here hx rfl (hb hby d1_59)) ?_
    refine Go.via (fun _ => XS.iadd X388.here hx rfl (hb hby d1_60) rfl) ?_
    show Go p e below (T388.setTop (mkF m 61 #[.val (.int (4 : Int32)), .val (.ref a), .val (.ref t), .val (.ref b366), .val (.int (2 : Int32)), .val (.int (3 : Int32)), .val (.int (3 : Int32)), .val (.int s2)] [(.int (3 : Int32)), (.ref b366)])) _
    refine Go.via (S' := T388.setTop (mkF m 62 #[.val (.int (4 : Int32)), .val (.ref a), .val (.ref t), .val (.ref b366), .val (.int (2 : Int32)), .val (.int (3 : Int32)), .val (.int (3 : Int32)), .val (.int s2)] [(.int (3 : Int32)), (.ref b366), (.int (3 : Int32)), (.ref b366)])) (fun tQ kQ => ?_) ?_
    · jvm_step X388.here [X388.here.top, hx, (hb hby d1_61), Value.category]
      exact kQ
    show Go p e below (T388.setTop (mkF m 62 #[.val (.int (4 : Int32)), .val (.ref a), .val (.ref t), .val (.ref b366), .val (.int (2 : Int32)), .val (.int (3 : Int32)), .val (.int (3 : Int32)), .val (.int s2)] [(.int (3 : Int32)), (.ref b366), (.int (3 : Int32)), (.ref b366)])) _
    refine Go.via (ldI X388 hx hZ e388 f389 (v := (List.getD o390 ((3 : Int32)).toNatClampNeg 0)) (by decide) (own_get (by decide) (by rw [lo390]; decide)) (g := (mkF m 62 #[.val (.int (4 : Int32)), .val (.ref a), .val (.ref t), .val (.ref b366), .val (.int (2 : Int32)), .val (.int (3 : Int32)), .val (.int (3 : Int32)), .val (.int s2)] [(.int (3 : Int32)), (.ref b366), (.int (3 : Int32)), (.ref b366)])) rfl rfl (hb hby d1_62)) ?_
    show Go p e below (T388.setTop (mkF m 63 #[.val (.int (4 : Int32)), .val (.ref a), .val (.ref t), .val (.ref b366), .val (.int (2 : Int32)), .val (.int (3 : Int32)), .val (.int (3 : Int32)), .val (.int s2)] [(.int (List.getD o390 ((3 : Int32)).toNatClampNeg 0)), (.int (3 : Int32)), (.ref b366)])) _
    refine Go.via (fun _ => XS.aloadN X388.here hx rfl (hb hby d1_63) rfl rfl) ?_
    refine Go.via (fun _ => XS.iload X388.here hx rfl (hb hby d1_64) rfl) ?_
    refine Go.via (ldI X388 hx hZ e388 f389 (v := (List.getD o390 ((2 : Int32)).toNatClampNeg 0)) (by decide) (own_get (by decide) (by rw [lo390]; decide)) (g := (mkF m 66 #[.val (.int (4 : Int32)), .val (.ref a), .val (.ref t), .val (.ref b366), .val (.int (2 : Int32)), .val (.int (3 : Int32)), .val (.int (3 : Int32)), .val (.int s2)] [(.int (2 : Int32)), (.ref b366), (.int (List.getD o390 ((3 : Int32)).toNatClampNeg 0)), (.int (3 : Int32)), (.ref b366)])) rfl rfl (hb hby d1_66)) ?_
    show Go p e below (T388.setTop (mkF m 67 #[.val (.int (4 : Int32)), .val (.ref a), .val (.ref t), .val (.ref b366), .val (.int (2 : Int32)), .val (.int (3 : Int32)), .val (.int (3 : Int32)), .val (.int s2)] [(.int (List.getD o390 ((2 : Int32)).toNatClampNeg 0)), (.int (List.getD o390 ((3 : Int32)).toNatClampNeg 0)), (.int (3 : Int32)), (.ref b366)])) _
    refine Go.via (fun _ => XS.iadd X388.here hx rfl (hb hby d1_67) rfl) ?_
    show Go p e below (T388.setTop (mkF m 68 #[.val (.int (4 : Int32)), .val (.ref a), .val (.ref t), .val (.ref b366), .val (.int (2 : Int32)), .val (.int (3 : Int32)), .val (.int (3 : Int32)), .val (.int s2)] [(.int ((List.getD o390 ((3 : Int32)).toNatClampNeg 0) + (List.getD o390 ((2 : Int32)).toNatClampNeg 0))), (.int (3 : Int32)), (.ref b366)])) _
    obtain ⟨T391, h391, X391, e391, W391, V391, st391⟩ := stI' X388 hx hZ e388 f389 (j := (3 : Int32)) (by decide) (by rw [lo390]; decide) (g := (mkF m 68 #[.val (.int (4 : Int32)), .val (.ref a), .val (.ref t), .val (.ref b366), .val (.int (2 : Int32)), .val (.int (3 : Int32)), .val (.int (3 : Int32)), .val (.int s2)] [(.int ((List.getD o390 ((3 : Int32)).toNatClampNeg 0) + (List.getD o390 ((2 : Int32)).toNatClampNeg 0))), (.int (3 : Int32)), (.ref b366)])) rfl rfl (hb hby d1_68)
    refine Go.via (st391) ?_
    clear st391
    have N391 := Fr.snoc X391 N388 ge369
    have f392 : Ia Z h391 b366 .int (List.set o390 ((3 : Int32)).toNatClampNeg ((List.getD o390 ((3 : Int32)).toNatClampNeg 0) + (List.getD o390 ((2 : Int32)).toNatClampNeg 0))) := V391
    clear X388 e388
    show Go p e below (T391.setTop (mkF m 69 #[.val (.int (4 : Int32)), .val (.ref a), .val (.ref t), .val (.ref b366), .val (.int (2 : Int32)), .val (.int (3 : Int32)), .val (.int (3 : Int32)), .val (.int s2)] [])) _
    obtain ⟨o393, ho393⟩ : ∃ z : List Int32, z = (List.set o390 ((3 : Int32)).toNatClampNeg ((List.getD o390 ((3 : Int32)).toNatClampNeg 0) + (List.getD o390 ((2 : Int32)).toNatClampNeg 0))) := ⟨_, rfl⟩
    rw [← ho393] at f392
    have lo393 : o393.length = 5 := by rw [ho393, List.length_set]; exact lo390
    refine Go.via (fun _ => XS.iinc X391.here hx rfl (hb hby d1_69) rfl (l' := #[.val (.int (4 : Int32)), .val (.ref a), .val (.ref t), .val (.ref b366), .val (.int (3 : Int32)), .val (.int (3 : Int32)), .val (.int (3 : Int32)), .val (.int s2)]) rfl) ?_
    show Go p e below (T391.setTop (mkF m 72 #[.val (.int (4 : Int32)), .val (.ref a), .val (.ref t), .val (.ref b366), .val (.int (3 : Int32)), .val (.int (3 : Int32)), .val (.int (3 : Int32)), .val (.int s2)] [])) _
    refine Go.via (fun _ => XS.goto X391.here hx rfl (pc0 := 72) (pc' := 50) rfl (hb hby d1_72) (by decide) (by decide)) ?_
    refine Go.via (fun _ => XS.iload X391.here hx rfl (hb hby d1_50) rfl) ?_
    refine Go.via (fun _ => XS.iloadN X391.here hx rfl (hb hby d1_52) rfl) ?_
    refine Go.via (fun _ => XS.icmpNo X391.here hx rfl (hb hby d1_53) rfl (tlt ((by decide) : (3 : Int32) < (4 : Int32))).2.1) ?_
    show Go p e below (T391.setTop (mkF m 56 #[.val (.int (4 : Int32)), .val (.ref a), .val (.ref t), .val (.ref b366), .val (.int (3 : Int32)), .val (.int (3 : Int32)), .val (.int (3 : Int32)), .val (.int s2)] [])) _
    refine Go.via (fun _ => XS.aloadN X391.here hx rfl (hb hby d1_56) rfl rfl) ?_
    refine Go.via (fun _ => XS.iload X391.here hx rfl (hb hby d1_57) rfl) ?_
    refine Go.via (fun _ => XS.iconst X391.here hx rfl (hb hby d1_59)) ?_
    refine Go.via (fun _ => XS.iadd X391.here hx rfl (hb hby d1_60) rfl) ?_
    show Go p e below (T391.setTop (mkF m 61 #[.val (.int (4 : Int32)), .val (.ref a), .val (.ref t), .val (.ref b366), .val (.int (3 : Int32)), .val (.int (3 : Int32)), .val (.int (3 : Int32)), .val (.int s2)] [(.int (4 : Int32)), (.ref b366)])) _
    refine Go.via (S' := T391.setTop (mkF m 62 #[.val (.int (4 : Int32)), .val (.ref a), .val (.ref t), .val (.ref b366), .val (.int (3 : Int32)), .val (.int (3 : Int32)), .val (.int (3 : Int32)), .val (.int s2)] [(.int (4 : Int32)), (.ref b366), (.int (4 : Int32)), (.ref b366)])) (fun tQ kQ => ?_) ?_
    · jvm_step X391.here [X391.here.top, hx, (hb hby d1_61), Value.category]
      exact kQ
    show Go p e below (T391.setTop (mkF m 62 #[.val (.int (4 : Int32)), .val (.ref a), .val (.ref t), .val (.ref b366), .val (.int (3 : Int32)), .val (.int (3 : Int32)), .val (.int (3 : Int32)), .val (.int s2)] [(.int (4 : Int32)), (.ref b366), (.int (4 : Int32)), (.ref b366)])) _
    refine Go.via (ldI X391 hx hZ e391 f392 (v := (List.getD o393 ((4 : Int32)).toNatClampNeg 0)) (by decide) (own_get (by decide) (by rw [lo393]; decide)) (g := (mkF m 62 #[.val (.int (4 : Int32)), .val (.ref a), .val (.ref t), .val (.ref b366), .val (.int (3 : Int32)), .val (.int (3 : Int32)), .val (.int (3 : Int32)), .val (.int s2)] [(.int (4 : Int32)), (.ref b366), (.int (4 : Int32)), (.ref b366)])) rfl rfl (hb hby d1_62)) ?_
    show Go p e below (T391.setTop (mkF m 63 #[.val (.int (4 : Int32)), .val (.ref a), .val (.ref t), .val (.ref b366), .val (.int (3 : Int32)), .val (.int (3 : Int32)), .val (.int (3 : Int32)), .val (.int s2)] [(.int (List.getD o393 ((4 : Int32)).toNatClampNeg 0)), (.int (4 : Int32)), (.ref b366)])) _
    refine Go.via (fun _ => XS.aloadN X391.here hx rfl (hb hby d1_63) rfl rfl) ?_
    refine Go.via (fun _ => XS.iload X391.here hx rfl (hb hby d1_64) rfl) ?_
    refine Go.via (ldI X391 hx hZ e391 f392 (v := (List.getD o393 ((3 : Int32)).toNatClampNeg 0)) (by decide) (own_get (by decide) (by rw [lo393]; decide)) (g := (mkF m 66 #[.val (.int (4 : Int32)), .val (.ref a), .val (.ref t), .val (.ref b366), .val (.int (3 : Int32)), .val (.int (3 : Int32)), .val (.int (3 : Int32)), .val (.int s2)] [(.int (3 : Int32)), (.ref b366), (.int (List.getD o393 ((4 : Int32)).toNatClampNeg 0)), (.int (4 : Int32)), (.ref b366)])) rfl rfl (hb hby d1_66)) ?_
    show Go p e below (T391.setTop (mkF m 67 #[.val (.int (4 : Int32)), .val (.ref a), .val (.ref t), .val (.ref b366), .val (.int (3 : Int32)), .val (.int (3 : Int32)), .val (.int (3 : Int32)), .val (.int s2)] [(.int (List.getD o393 ((3 : Int32)).toNatClampNeg 0)), (.int (List.getD o393 ((4 : Int32)).toNatClampNeg 0)), (.int (4 : Int32)), (.ref b366)])) _
    refine Go.via (fun _ => XS.iadd X391.here hx rfl (hb hby d1_67) rfl) ?_
    show Go p e below (T391.setTop (mkF m 68 #[.val (.int (4 : Int32)), .val (.ref a), .val (.ref t), .val (.ref b366), .val (.int (3 : Int32)), .val (.int (3 : Int32)), .val (.int (3 : Int32)), .val (.int s2)] [(.int ((List.getD o393 ((4 : Int32)).toNatClampNeg 0) + (List.getD o393 ((3 : Int32)).toNatClampNeg 0))), (.int (4 : Int32)), (.ref b366)])) _
    obtain ⟨T394, h394, X394, e394, W394, V394, st394⟩ := stI' X391 hx hZ e391 f392 (j := (4 : Int32)) (by decide) (by rw [lo393]; decide) (g := (mkF m 68 #[.val (.int (4 : Int32)), .val (.ref a), .val (.ref t), .val (.ref b366), .val (.int (3 : Int32)), .val (.int (3 : Int32)), .val (.int (3 : Int32)), .val (.int s2)] [(.int ((List.getD o393 ((4 : Int32)).toNatClampNeg 0) + (List.getD o393 ((3 : Int32)).toNatClampNeg 0))), (.int (4 : Int32)), (.ref b366)])) rfl rfl (hb hby d1_68)
    refine Go.via (st394) ?_
    clear st394
    have N394 := Fr.snoc X394 N391 ge369
    have f395 : Ia Z h394 b366 .int (List.set o393 ((4 : Int32)).toNatClampNeg ((List.getD o393 ((4 : Int32)).toNatClampNeg 0) + (List.getD o393 ((3 : Int32)).toNatClampNeg 0))) := V394
    clear X391 e391
    show Go p e below (T394.setTop (mkF m 69 #[.val (.int (4 : Int32)), .val (.ref a), .val (.ref t), .val (.ref b366), .val (.int (3 : Int32)), .val (.int (3 : Int32)), .val (.int (3 : Int32)), .val (.int s2)] [])) _
    obtain ⟨o396, ho396⟩ : ∃ z : List Int32, z = (List.set o393 ((4 : Int32)).toNatClampNeg ((List.getD o393 ((4 : Int32)).toNatClampNeg 0) + (List.getD o393 ((3 : Int32)).toNatClampNeg 0))) := ⟨_, rfl⟩
    rw [← ho396] at f395
    have lo396 : o396.length = 5 := by rw [ho396, List.length_set]; exact lo393
    refine Go.via (fun _ => XS.iinc X394.here hx rfl (hb hby d1_69) rfl (l' := #[.val (.int (4 : Int32)), .val (.ref a), .val (.ref t), .val (.ref b366), .val (.int (4 : Int32)), .val (.int (3 : Int32)), .val (.int (3 : Int32)), .val (.int s2)]) rfl) ?_
    show Go p e below (T394.setTop (mkF m 72 #[.val (.int (4 : Int32)), .val (.ref a), .val (.ref t), .val (.ref b366), .val (.int (4 : Int32)), .val (.int (3 : Int32)), .val (.int (3 : Int32)), .val (.int s2)] [])) _
    refine Go.via (fun _ => XS.goto X394.here hx rfl (pc0 := 72) (pc' := 50) rfl (hb hby d1_72) (by decide) (by decide)) ?_
    refine Go.via (fun _ => XS.iload X394.here hx rfl (hb hby d1_50) rfl) ?_
    refine Go.via (fun _ => XS.iloadN X394.here hx rfl (hb hby d1_52) rfl) ?_
    refine Go.via (fun _ => XS.icmpYes X394.here hx rfl (pc0 := 53) (pc' := 75) rfl (hb hby d1_53) rfl (flt ((by decide) : ¬ ((4 : Int32) < (4 : Int32)))).2.1 (by decide) (by decide)) ?_
    show Go p e below (T394.setTop (mkF m 75 #[.val (.int (4 : Int32)), .val (.ref a), .val (.ref t), .val (.ref b366), .val (.int (4 : Int32)), .val (.int (3 : Int32)), .val (.int (3 : Int32)), .val (.int s2)] [])) _
    refine Go.via (fun _ => XS.aloadN X394.here hx rfl (hb hby d1_75) rfl rfl) ?_
    have f397 : Ia Z h394 t .int [t0, t1, t2] := ((((((((P1.ext E366).other W374 ne368).other W378 ne368).other W382 ne368).other W385 ne368).other W388 ne368).other W391 ne368).other W394 ne368)
    refine Go.via (lenI X394 hx hZ e394 f397 (n := (3 : Int32)) rfl (g := (mkF m 76 #[.val (.int (4 : Int32)), .val (.ref a), .val (.ref t), .val (.ref b366), .val (.int (4 : Int32)), .val (.int (3 : Int32)), .val (.int (3 : Int32)), .val (.int s2)] [(.ref t)])) rfl rfl (hb hby d1_76)) ?_
    show Go p e below (T394.setTop (mkF m 77 #[.val (.int (4 : Int32)), .val (.ref a), .val (.ref t), .val (.ref b366), .val (.int (4 : Int32)), .val (.int (3 : Int32)), .val (.int (3 : Int32)), .val (.int s2)] [(.int (3 : Int32))])) _
    have k399 : Keep h0 h394 [] := (((((((((Keep.refl h0 []).ext E366).wr W374 (Or.inr sz370)).wr W378 (Or.inr sz370)).wr W382 (Or.inr sz370)).wr W385 (Or.inr sz370)).wr W388 (Or.inr sz370)).wr W391 (Or.inr sz370)).wr W394 (Or.inr sz370))
    have z400 : n0 ≤ h394.size := (Nat.le_trans (Nat.le_trans (Nat.le_trans (Nat.le_trans (Nat.le_trans (Nat.le_trans (Nat.le_trans (Nat.le_trans Z0 E366.1) (Keep.of_wr W374).1) (Keep.of_wr W378).1) (Keep.of_wr W382).1) (Keep.of_wr W385).1) (Keep.of_wr W388).1) (Keep.of_wr W391).1) (Keep.of_wr W394).1)
    obtain ⟨T398, h398, k398, X398, e398, E398, A398, B398, st398⟩ := newPE X394 hx hZ (tw hw 0 rfl) e394 (g := (mkF m 77 #[.val (.int (4 : Int32)), .val (.ref a), .val (.ref t), .val (.ref b366), .val (.int (4 : Int32)), .val (.int (3 : Int32)), .val (.int (3 : Int32)), .val (.int s2)] [(.int (3 : Int32))])) rfl (hb hby d1_77) rfl (by decide) (cap := 3) (by decide) (by decide) (by decide) (by decide) (ad := "[I") (by decide)
    obtain ⟨b398, g398⟩ : ∃ z, z = h394.size := ⟨_, rfl⟩
    rw [← g398] at A398 B398 st398
    have f402 : Ia Z h394 a .int [s0, s1, s2] := (((((f381.other W382 ne367).other W385 ne367).other W388 ne367).other W391 ne367).other W394 ne367)
    have ne401 : a ≠ b398 := Nat.ne_of_lt (Nat.lt_of_lt_of_le f402.lt (Nat.le_of_eq g398.symm))
    have ne403 : b366 ≠ b398 := Nat.ne_of_lt (Nat.lt_of_lt_of_le f395.lt (Nat.le_of_eq g398.symm))
    have ne404 : t ≠ b398 := Nat.ne_of_lt (Nat.lt_of_lt_of_le f397.lt (Nat.le_of_eq g398.symm))
    have ge405 : n0 ≤ b398 := Nat.le_trans z400 (Nat.le_of_eq g398.symm)
    have sz406 : h0.size ≤ b398 := Nat.le_trans k399.1 (Nat.le_of_eq g398.symm)
    refine Go.via (st398) ?_
    clear st398
    have f407 : Ia Z h398 b398 .int [(0 : Int32), (0 : Int32), (0 : Int32)] := Ia.new A398 rfl
    clear X394 e394
    show Go p e below (T398.setTop (mkF m 79 #[.val (.int (4 : Int32)), .val (.ref a), .val (.ref t), .val (.ref b366), .val (.int (4 : Int32)), .val (.int (3 : Int32)), .val (.int (3 : Int32)), .val (.int s2)] [(.ref b398)])) _
    obtain ⟨e408, he408⟩ : ∃ z : List Int32, z = [(0 : Int32), (0 : Int32), (0 : Int32)] := ⟨_, rfl⟩
    rw [← he408] at f407
    have le408 : e408.length = 3 := by rw [he408]; rfl
    refine Go.via (fun _ => XS.astore X398.here hx rfl (hb hby d1_79) rfl rfl (l' := #[.val (.int (4 : Int32)), .val (.ref a), .val (.ref t), .val (.ref b366), .val (.ref b398), .val (.int (3 : Int32)), .val (.int (3 : Int32)), .val (.int s2)]) rfl) ?_
    show Go p e below (T398.setTop (mkF m 81 #[.val (.int (4 : Int32)), .val (.ref a), .val (.ref t), .val (.ref b366), .val (.ref b398), .val (.int (3 : Int32)), .val (.int (3 : Int32)), .val (.int s2)] [])) _
    refine Go.via (fun _ => XS.aloadN X398.here hx rfl (hb hby d1_81) rfl rfl) ?_
    refine Go.via (fun _ => XS.iloadN X398.here hx rfl (hb hby d1_82) rfl) ?_
    have f409 : Ia Z h398 b366 .int o396 := (f395.ext E398)
    have z411 : n0 ≤ h398.size := (Nat.le_trans z400 E398.1)
    obtain ⟨_, _, ⟨T410, L410, k410, n410⟩, -, X410, ⟨Lc410, hQ410, l410, y410, z410⟩, st410⟩ := Jvm.LawKit.callS X398 hx (y := (⟨"java/util/Arrays", "copyOf", "([II)[I"⟩ : MethodName)) hown (mvT hZ (tw hw 5 rfl)) (mvT hZ (tw hw 6 rfl)) (mvT hZ (tw hw 7 rfl)) (mvT hZ (tw hw 8 rfl)) (by decide) (backOf (W := 0) (rmC l Z a0 hw [] b366 (4 : Int32) o396 h398 n0 z411 f409 (by rw [lo396]; decide) (by first | decide | (simp only [List.length_cons, List.length_nil]; decide) | rfl) (by first | decide | (simp only [List.length_cons, List.length_nil]; decide) | rfl) (by rw [lo396]; decide)) hZ (tw hw 8 rfl) (tw hw 7 rfl) (by decide) (by decide)) (g := (mkF m 83 #[.val (.int (4 : Int32)), .val (.ref a), .val (.ref t), .val (.ref b366), .val (.ref b398), .val (.int (3 : Int32)), .val (.int (3 : Int32)), .val (.int s2)] [(.int (4 : Int32)), (.ref b366)])) rfl (by rw [hml]; rfl) (argsL := [(.ref b366), (.int (4 : Int32))]) (rest := []) (lenOf pd__28_5bII_29_5bI rfl) rfl (by show 2 * 0 + _ ≤ _; exact Nat.le_of_eq rfl) (hb hby d1_83) (fun _ _ => ⟨rfl, e398, (by decide : 2 + 1 ≤ _), (by decide : 8 + 4 ≤ _)⟩)
    dsimp only [Pt.U, Pt.locs, Pt.cells, Pt.slots] at X410 l410 y410 z410 st410 hQ410
    subst l410 y410 z410
    obtain ⟨b412, rfl, N410q, K410q, fz_b412, f413⟩ := hQ410
    have N410 := Fr.app N394 N410q
    refine Go.via (st410) ?_
    clear st410
    have f414 : Ia Z h398 a .int [s0, s1, s2] := (f402.ext E398)
    have ne415 : a ≠ b412 := Nat.ne_of_lt (Nat.lt_of_lt_of_le f414.lt fz_b412)
    have ne416 : b366 ≠ b412 := Nat.ne_of_lt (Nat.lt_of_lt_of_le f409.lt fz_b412)
    have ne417 : b398 ≠ b412 := Nat.ne_of_lt (Nat.lt_of_lt_of_le f407.lt fz_b412)
    have f418 : Ia Z h398 t .int [t0, t1, t2] := (f397.ext E398)
    have ne419 : t ≠ b412 := Nat.ne_of_lt (Nat.lt_of_lt_of_le f418.lt fz_b412)
    have ge420 : n0 ≤ b412 := Nat.le_trans z411 fz_b412
    have k422 : Keep h0 h398 [] := (k399.ext E398)
    have sz421 : h0.size ≤ b412 := Nat.le_trans k422.1 fz_b412
    have e410 : T410.heap = T410.heap := rfl
    have f423 : Ia Z T410.heap b412 .int (own_cpy o396 (4 : Int32)) := f413
    clear X398 e398
    show Go p e below (T410.setTop (mkF m 86 #[.val (.int (4 : Int32)), .val (.ref a), .val (.ref t), .val (.ref b366), .val (.ref b398), .val (.int (3 : Int32)), .val (.int (3 : Int32)), .val (.int s2)] [(.ref b412)])) _
    obtain ⟨n424, hn424⟩ : ∃ z : List Int32, z = (own_cpy o396 (4 : Int32)) := ⟨_, rfl⟩
    rw [← hn424] at f423
    have ln424 : n424.length = 4 := by rw [hn424]; simp only [own_cpy, List.length_append, List.length_take, List.length_replicate]; rw [lo396]; rfl
    refine Go.via (fun _ => XS.astore X410.here hx rfl (hb hby d1_86) rfl rfl (l' := #[.val (.int (4 : Int32)), .val (.ref a), .val (.ref t), .val (.ref b366), .val (.ref b398), .val (.ref b412), .val (.int (3 : Int32)), .val (.int s2)]) rfl) ?_
    show Go p e below (T410.setTop (mkF m 88 #[.val (.int (4 : Int32)), .val (.ref a), .val (.ref t), .val (.ref b366), .val (.ref b398), .val (.ref b412), .val (.int (3 : Int32)), .val (.int s2)] [])) _
    refine Go.via (fun _ => XS.iconst X410.here hx rfl (hb hby d1_88)) ?_
    refine Go.via (fun _ => XS.istore X410.here hx rfl (hb hby d1_89) rfl (l' := #[.val (.int (4 : Int32)), .val (.ref a), .val (.ref t), .val (.ref b366), .val (.ref b398), .val (.ref b412), .val (.int (0 : Int32)), .val (.int s2)]) rfl) ?_
    show Go p e below (T410.setTop (mkF m 91 #[.val (.int (4 : Int32)), .val (.ref a), .val (.ref t), .val (.ref b366), .val (.ref b398), .val (.ref b412), .val (.int (0 : Int32)), .val (.int s2)] [])) _
    refine Go.via (fun _ => XS.iload X410.here hx rfl (hb hby d1_91) rfl) ?_
    refine Go.via (fun _ => XS.aloadN X410.here hx rfl (hb hby d1_93) rfl rfl) ?_
    have f425 : Ia Z T410.heap a .int [s0, s1, s2] := (f414.keep K410q nin0)
    refine Go.via (lenI X410 hx hZ e410 f425 (n := (3 : Int32)) rfl (g := (mkF m 94 #[.val (.int (4 : Int32)), .val (.ref a), .val (.ref t), .val (.ref b366), .val (.ref b398), .val (.ref b412), .val (.int (0 : Int32)), .val (.int s2)] [(.ref a), (.int (0 : Int32))])) rfl rfl (hb hby d1_94)) ?_
    show Go p e below (T410.setTop (mkF m 95 #[.val (.int (4 : Int32)), .val (.ref a), .val (.ref t), .val (.ref b366), .val (.ref b398), .val (.ref b412), .val (.int (0 : Int32)), .val (.int s2)] [(.int (3 : Int32)), (.int (0 : Int32))])) _
    refine Go.via (fun _ => XS.icmpNo X410.here hx rfl (hb hby d1_95) rfl (tlt ((by decide) : (0 : Int32) < (3 : Int32))).2.1) ?_
    show Go p e below (T410.setTop (mkF m 98 #[.val (.int (4 : Int32)), .val (.ref a), .val (.ref t), .val (.ref b366), .val (.ref b398), .val (.ref b412), .val (.int (0 : Int32)), .val (.int s2)] [])) _
    refine Go.via (fun _ => XS.aload X410.here hx rfl (hb hby d1_98) rfl rfl) ?_
    refine Go.via (fun _ => XS.aload X410.here hx rfl (hb hby d1_100) rfl rfl) ?_
    refine Go.via (fun _ => XS.aloadN X410.here hx rfl (hb hby d1_102) rfl rfl) ?_
    refine Go.via (fun _ => XS.iload X410.here hx rfl (hb hby d1_103) rfl) ?_
    show Go p e below (T410.setTop (mkF m 105 #[.val (.int (4 : Int32)), .val (.ref a), .val (.ref t), .val (.ref b366), .val (.ref b398), .val (.ref b412), .val (.int (0 : Int32)), .val (.int s2)] [(.int (0 : Int32)), (.ref a), (.ref b412), (.ref b398)])) _
    refine Go.via (ldI X410 hx hZ e410 f425 (v := s0) (by decide) rfl (g := (mkF m 105 #[.val (.int (4 : Int32)), .val (.ref a), .val (.ref t), .val (.ref b366), .val (.ref b398), .val (.ref b412), .val (.int (0 : Int32)), .val (.int s2)] [(.int (0 : Int32)), (.ref a), (.ref b412), (.ref b398)])) rfl rfl (hb hby d1_105)) ?_
    show Go p e below (T410.setTop (mkF m 106 #[.val (.int (4 : Int32)), .val (.ref a), .val (.ref t), .val (.ref b366), .val (.ref b398), .val (.ref b412), .val (.int (0 : Int32)), .val (.int s2)] [(.int s0), (.ref b412), (.ref b398)])) _
    refine Go.via (S' := T410.setTop (mkF m 107 #[.val (.int (4 : Int32)), .val (.ref a), .val (.ref t), .val (.ref b366), .val (.ref b398), .val (.ref b412), .val (.int (0 : Int32)), .val (.int s2)] [(.int s0), (.ref b412), (.int s0), (.ref b412), (.ref b398)])) (fun tQ kQ => ?_) ?_
    · jvm_step X410.here [X410.here.top, hx, (hb hby d1_106), Value.category]
      exact kQ
    show Go p e below (T410.setTop (mkF m 107 #[.val (.int (4 : Int32)), .val (.ref a), .val (.ref t), .val (.ref b366), .val (.ref b398), .val (.ref b412), .val (.int (0 : Int32)), .val (.int s2)] [(.int s0), (.ref b412), (.int s0), (.ref b412), (.ref b398)])) _
    refine Go.via (ldI X410 hx hZ e410 f423 (v := (List.getD n424 (s0).toNatClampNeg 0)) (by rcases r0 with rfl | rfl | rfl | rfl <;> decide) (own_get (by rcases r0 with rfl | rfl | rfl | rfl <;> decide) (by rw [ln424]; rcases r0 with rfl | rfl | rfl | rfl <;> decide)) (g := (mkF m 107 #[.val (.int (4 : Int32)), .val (.ref a), .val (.ref t), .val (.ref b366), .val (.ref b398), .val (.ref b412), .val (.int (0 : Int32)), .val (.int s2)] [(.int s0), (.ref b412), (.int s0), (.ref b412), (.ref b398)])) rfl rfl (hb hby d1_107)) ?_
    show Go p e below (T410.setTop (mkF m 108 #[.val (.int (4 : Int32)), .val (.ref a), .val (.ref t), .val (.ref b366), .val (.ref b398), .val (.ref b412), .val (.int (0 : Int32)), .val (.int s2)] [(.int (List.getD n424 (s0).toNatClampNeg 0)), (.int s0), (.ref b412), (.ref b398)])) _
    generalize hhw426 : (List.getD n424 (s0).toNatClampNeg 0) = w426
    show Go p e below (T410.setTop (mkF m 108 #[.val (.int (4 : Int32)), .val (.ref a), .val (.ref t), .val (.ref b366), .val (.ref b398), .val (.ref b412), .val (.int (0 : Int32)), .val (.int s2)] [(.int w426), (.int s0), (.ref b412), (.ref b398)])) _
    have bw426 := (own_b4_0 (t0 := t0) (t1 := t1) (t2 := t2) ho372 ho376 ho380 ho384 ho387 ho390 ho393 ho396 he408 hn424 hhw426 r0 r1 r2)
    refine Go.via (S' := T410.setTop (mkF m 109 #[.val (.int (4 : Int32)), .val (.ref a), .val (.ref t), .val (.ref b366), .val (.ref b398), .val (.ref b412), .val (.int (0 : Int32)), .val (.int s2)] [(.int w426), (.int s0), (.ref b412), (.int w426), (.ref b398)])) (fun tQ kQ => ?_) ?_
    · jvm_step X410.here [X410.here.top, hx, (hb hby d1_108), Value.category]
      exact kQ
    show Go p e below (T410.setTop (mkF m 109 #[.val (.int (4 : Int32)), .val (.ref a), .val (.ref t), .val (.ref b366), .val (.ref b398), .val (.ref b412), .val (.int (0 : Int32)), .val (.int s2)] [(.int w426), (.int s0), (.ref b412), (.int w426), (.ref b398)])) _
    refine Go.via (fun _ => XS.iconst X410.here hx rfl (hb hby d1_109)) ?_
    refine Go.via (fun _ => XS.iadd X410.here hx rfl (hb hby d1_110) rfl) ?_
    show Go p e below (T410.setTop (mkF m 111 #[.val (.int (4 : Int32)), .val (.ref a), .val (.ref t), .val (.ref b366), .val (.ref b398), .val (.ref b412), .val (.int (0 : Int32)), .val (.int s2)] [(.int (w426 + (1 : Int32))), (.int s0), (.ref b412), (.int w426), (.ref b398)])) _
    obtain ⟨T427, h427, X427, e427, W427, V427, st427⟩ := stI' X410 hx hZ e410 f423 (j := s0) (by rcases r0 with rfl | rfl | rfl | rfl <;> decide) (by rw [ln424]; rcases r0 with rfl | rfl | rfl | rfl <;> decide) (g := (mkF m 111 #[.val (.int (4 : Int32)), .val (.ref a), .val (.ref t), .val (.ref b366), .val (.ref b398), .val (.ref b412), .val (.int (0 : Int32)), .val (.int s2)] [(.int (w426 + (1 : Int32))), (.int s0), (.ref b412), (.int w426), (.ref b398)])) rfl rfl (hb hby d1_111)
    refine Go.via (st427) ?_
    clear st427
    have N427 := Fr.snoc X427 N410 ge420
    have f428 : Ia Z h427 b412 .int (List.set n424 (s0).toNatClampNeg (w426 + (1 : Int32))) := V427
    clear X410 e410
    show Go p e below (T427.setTop (mkF m 112 #[.val (.int (4 : Int32)), .val (.ref a), .val (.ref t), .val (.ref b366), .val (.ref b398), .val (.ref b412), .val (.int (0 : Int32)), .val (.int s2)] [(.int w426), (.ref b398)])) _
    obtain ⟨n429, hn429⟩ : ∃ z : List Int32, z = (List.set n424 (s0).toNatClampNeg (w426 + (1 : Int32))) := ⟨_, rfl⟩
    rw [← hn429] at f428
    have ln429 : n429.length = 4 := by rw [hn429, List.length_set]; exact ln424
    refine Go.via (fun _ => XS.aloadN X427.here hx rfl (hb hby d1_112) rfl rfl) ?_
    refine Go.via (fun _ => XS.iload X427.here hx rfl (hb hby d1_113) rfl) ?_
    have f430 : Ia Z h427 t .int [t0, t1, t2] := ((f418.keep K410q nin0).other W427 ne419)
    refine Go.via (ldI X427 hx hZ e427 f430 (v := t0) (by decide) rfl (g := (mkF m 115 #[.val (.int (4 : Int32)), .val (.ref a), .val (.ref t), .val (.ref b366), .val (.ref b398), .val (.ref b412), .val (.int (0 : Int32)), .val (.int s2)] [(.int (0 : Int32)), (.ref t), (.int w426), (.ref b398)])) rfl rfl (hb hby d1_115)) ?_
    show Go p e below (T427.setTop (mkF m 116 #[.val (.int (4 : Int32)), .val (.ref a), .val (.ref t), .val (.ref b366), .val (.ref b398), .val (.ref b412), .val (.int (0 : Int32)), .val (.int s2)] [(.int t0), (.int w426), (.ref b398)])) _
    have f431 : Ia Z h427 b398 .int e408 := ((f407.keep K410q nin0).other W427 ne417)
    obtain ⟨T432, h432, X432, e432, W432, V432, st432⟩ := stI' X427 hx hZ e427 f431 (j := w426) bw426.1 (by rw [le408]; exact bw426.2) (g := (mkF m 116 #[.val (.int (4 : Int32)), .val (.ref a), .val (.ref t), .val (.ref b366), .val (.ref b398), .val (.ref b412), .val (.int (0 : Int32)), .val (.int s2)] [(.int t0), (.int w426), (.ref b398)])) rfl rfl (hb hby d1_116)
    refine Go.via (st432) ?_
    clear st432
    have N432 := Fr.snoc X432 N427 ge405
    have f433 : Ia Z h432 b398 .int (List.set e408 (w426).toNatClampNeg t0) := V432
    clear X427 e427
    show Go p e below (T432.setTop (mkF m 117 #[.val (.int (4 : Int32)), .val (.ref a), .val (.ref t), .val (.ref b366), .val (.ref b398), .val (.ref b412), .val (.int (0 : Int32)), .val (.int s2)] [])) _
    obtain ⟨e434, he434⟩ : ∃ z : List Int32, z = (List.set e408 (w426).toNatClampNeg t0) := ⟨_, rfl⟩
    rw [← he434] at f433
    have le434 : e434.length = 3 := by rw [he434, List.length_set]; exact le408
    refine Go.via (fun _ => XS.iinc X432.here hx rfl (hb hby d1_117) rfl (l' := #[.val (.int (4 : Int32)), .val (.ref a), .val (.ref t), .val (.ref b366), .val (.ref b398), .val (.ref b412), .val (.int (1 : Int32)), .val (.int s2)]) rfl) ?_
    show Go p e below (T432.setTop (mkF m 120 #[.val (.int (4 : Int32)), .val (.ref a), .val (.ref t), .val (.ref b366), .val (.ref b398), .val (.ref b412), .val (.int (1 : Int32)), .val (.int s2)] [])) _
    refine Go.via (fun _ => XS.goto X432.here hx rfl (pc0 := 120) (pc' := 91) rfl (hb hby d1_120) (by decide) (by decide)) ?_
    refine Go.via (fun _ => XS.iload X432.here hx rfl (hb hby d1_91) rfl) ?_
    refine Go.via (fun _ => XS.aloadN X432.here hx rfl (hb hby d1_93) rfl rfl) ?_
    have f435 : Ia Z h432 a .int [s0, s1, s2] := ((f425.other W427 ne415).other W432 ne401)
    refine Go.via (lenI X432 hx hZ e432 f435 (n := (3 : Int32)) rfl (g := (mkF m 94 #[.val (.int (4 : Int32)), .val (.ref a), .val (.ref t), .val (.ref b366), .val (.ref b398), .val (.ref b412), .val (.int (1 : Int32)), .val (.int s2)] [(.ref a), (.int (1 : Int32))])) rfl rfl (hb hby d1_94)) ?_
    show Go p e below (T432.setTop (mkF m 95 #[.val (.int (4 : Int32)), .val (.ref a), .val (.ref t), .val (.ref b366), .val (.ref b398), .val (.ref b412), .val (.int (1 : Int32)), .val (.int s2)] [(.int (3 : Int32)), (.int (1 : Int32))])) _
    refine Go.via (fun _ => XS.icmpNo X432.here hx rfl (hb hby d1_95) rfl (tlt ((by decide) : (1 : Int32) < (3 : Int32))).2.1) ?_
    show Go p e below (T432.setTop (mkF m 98 #[.val (.int (4 : Int32)), .val (.ref a), .val (.ref t), .val (.ref b366), .val (.ref b398), .val (.ref b412), .val (.int (1 : Int32)), .val (.int s2)] [])) _
    refine Go.via (fun _ => XS.aload X432.here hx rfl (hb hby d1_98) rfl rfl) ?_
    refine Go.via (fun _ => XS.aload X432.here hx rfl (hb hby d1_100) rfl rfl) ?_
    refine Go.via (fun _ => XS.aloadN X432.here hx rfl (hb hby d1_102) rfl rfl) ?_
    refine Go.via (fun _ => XS.iload X432.here hx rfl (hb hby d1_103) rfl) ?_
    show Go p e below (T432.setTop (mkF m 105 #[.val (.int (4 : Int32)), .val (.ref a), .val (.ref t), .val (.ref b366), .val (.ref b398), .val (.ref b412), .val (.int (1 : Int32)), .val (.int s2)] [(.int (1 : Int32)), (.ref a), (.ref b412), (.ref b398)])) _
    refine Go.via (ldI X432 hx hZ e432 f435 (v := s1) (by decide) rfl (g := (mkF m 105 #[.val (.int (4 : Int32)), .val (.ref a), .val (.ref t), .val (.ref b366), .val (.ref b398), .val (.ref b412), .val (.int (1 : Int32)), .val (.int s2)] [(.int (1 : Int32)), (.ref a), (.ref b412), (.ref b398)])) rfl rfl (hb hby d1_105)) ?_
    show Go p e below (T432.setTop (mkF m 106 #[.val (.int (4 : Int32)), .val (.ref a), .val (.ref t), .val (.ref b366), .val (.ref b398), .val (.ref b412), .val (.int (1 : Int32)), .val (.int s2)] [(.int s1), (.ref b412), (.ref b398)])) _
    refine Go.via (S' := T432.setTop (mkF m 107 #[.val (.int (4 : Int32)), .val (.ref a), .val (.ref t), .val (.ref b366), .val (.ref b398), .val (.ref b412), .val (.int (1 : Int32)), .val (.int s2)] [(.int s1), (.ref b412), (.int s1), (.ref b412), (.ref b398)])) (fun tQ kQ => ?_) ?_
    · jvm_step X432.here [X432.here.top, hx, (hb hby d1_106), Value.category]
      exact kQ
    show Go p e below (T432.setTop (mkF m 107 #[.val (.int (4 : Int32)), .val (.ref a), .val (.ref t), .val (.ref b366), .val (.ref b398), .val (.ref b412), .val (.int (1 : Int32)), .val (.int s2)] [(.int s1), (.ref b412), (.int s1), (.ref b412), (.ref b398)])) _
    have f436 : Ia Z h432 b412 .int n429 := (f428.other W432 (Ne.symm ne417))
    refine Go.via (ldI X432 hx hZ e432 f436 (v := (List.getD n429 (s1).toNatClampNeg 0)) (by rcases r1 with rfl | rfl | rfl | rfl <;> decide) (own_get (by rcases r1 with rfl | rfl | rfl | rfl <;> decide) (by rw [ln429]; rcases r1 with rfl | rfl | rfl | rfl <;> decide)) (g := (mkF m 107 #[.val (.int (4 : Int32)), .val (.ref a), .val (.ref t), .val (.ref b366), .val (.ref b398), .val (.ref b412), .val (.int (1 : Int32)), .val (.int s2)] [(.int s1), (.ref b412), (.int s1), (.ref b412), (.ref b398)])) rfl rfl (hb hby d1_107)) ?_
    show Go p e below (T432.setTop (mkF m 108 #[.val (.int (4 : Int32)), .val (.ref a), .val (.ref t), .val (.ref b366), .val (.ref b398), .val (.ref b412), .val (.int (1 : Int32)), .val (.int s2)] [(.int (List.getD n429 (s1).toNatClampNeg 0)), (.int s1), (.ref b412), (.ref b398)])) _
    generalize hhw437 : (List.getD n429 (s1).toNatClampNeg 0) = w437
    show Go p e below (T432.setTop (mkF m 108 #[.val (.int (4 : Int32)), .val (.ref a), .val (.ref t), .val (.ref b366), .val (.ref b398), .val (.ref b412), .val (.int (1 : Int32)), .val (.int s2)] [(.int w437), (.int s1), (.ref b412), (.ref b398)])) _
    have bw437 := (own_b4_1 (t0 := t0) (t1 := t1) (t2 := t2) ho372 ho376 ho380 ho384 ho387 ho390 ho393 ho396 he408 hn424 hhw426 hn429 he434 hhw437 r0 r1 r2)
    refine Go.via (S' := T432.setTop (mkF m 109 #[.val (.int (4 : Int32)), .val (.ref a), .val (.ref t), .val (.ref b366), .val (.ref b398), .val (.ref b412), .val (.int (1 : Int32)), .val (.int s2)] [(.int w437), (.int s1), (.ref b412), (.int w437), (.ref b398)])) (fun tQ kQ => ?_) ?_
    · jvm_step X432.here [X432.here.top, hx, (hb hby d1_108), Value.category]
      exact kQ
    show Go p e below (T432.setTop (mkF m 109 #[.val (.int (4 : Int32)), .val (.ref a), .val (.ref t), .val (.ref b366), .val (.ref b398), .val (.ref b412), .val (.int (1 : Int32)), .val (.int s2)] [(.int w437), (.int s1), (.ref b412), (.int w437), (.ref b398)])) _
    refine Go.via (fun _ => XS.iconst X432.here hx rfl (hb hby d1_109)) ?_
    refine Go.via (fun _ => XS.iadd X432.here hx rfl (hb hby d1_110) rfl) ?_
    show Go p e below (T432.setTop (mkF m 111 #[.val (.int (4 : Int32)), .val (.ref a), .val (.ref t), .val (.ref b366), .val (.ref b398), .val (.ref b412), .val (.int (1 : Int32)), .val (.int s2)] [(.int (w437 + (1 : Int32))), (.int s1), (.ref b412), (.int w437), (.ref b398)])) _
    obtain ⟨T438, h438, X438, e438, W438, V438, st438⟩ := stI' X432 hx hZ e432 f436 (j := s1) (by rcases r1 with rfl | rfl | rfl | rfl <;> decide) (by rw [ln429]; rcases r1 with rfl | rfl | rfl | rfl <;> decide) (g := (mkF m 111 #[.val (.int (4 : Int32)), .val (.ref a), .val (.ref t), .val (.ref b366), .val (.ref b398), .val (.ref b412), .val (.int (1 : Int32)), .val (.int s2)] [(.int (w437 + (1 : Int32))), (.int s1), (.ref b412), (.int w437), (.ref b398)])) rfl rfl (hb hby d1_111)
    refine Go.via (st438) ?_
    clear st438
    have N438 := Fr.snoc X438 N432 ge420
    have f439 : Ia Z h438 b412 .int (List.set n429 (s1).toNatClampNeg (w437 + (1 : Int32))) := V438
    clear X432 e432
    show Go p e below (T438.setTop (mkF m 112 #[.val (.int (4 : Int32)), .val (.ref a), .val (.ref t), .val (.ref b366), .val (.ref b398), .val (.ref b412), .val (.int (1 : Int32)), .val (.int s2)] [(.int w437), (.ref b398)])) _
    obtain ⟨n440, hn440⟩ : ∃ z : List Int32, z = (List.set n429 (s1).toNatClampNeg (w437 + (1 : Int32))) := ⟨_, rfl⟩
    rw [← hn440] at f439
    have ln440 : n440.length = 4 := by rw [hn440, List.length_set]; exact ln429
    refine Go.via (fun _ => XS.aloadN X438.here hx rfl (hb hby d1_112) rfl rfl) ?_
    refine Go.via (fun _ => XS.iload X438.here hx rfl (hb hby d1_113) rfl) ?_
    have f441 : Ia Z h438 t .int [t0, t1, t2] := ((f430.other W432 ne404).other W438 ne419)
    refine Go.via (ldI X438 hx hZ e438 f441 (v := t1) (by decide) rfl (g := (mkF m 115 #[.val (.int (4 : Int32)), .val (.ref a), .val (.ref t), .val (.ref b366), .val (.ref b398), .val (.ref b412), .val (.int (1 : Int32)), .val (.int s2)] [(.int (1 : Int32)), (.ref t), (.int w437), (.ref b398)])) rfl rfl (hb hby d1_115)) ?_
    show Go p e below (T438.setTop (mkF m 116 #[.val (.int (4 : Int32)), .val (.ref a), .val (.ref t), .val (.ref b366), .val (.ref b398), .val (.ref b412), .val (.int (1 : Int32)), .val (.int s2)] [(.int t1), (.int w437), (.ref b398)])) _
    have f442 : Ia Z h438 b398 .int e434 := (f433.other W438 ne417)
    obtain ⟨T443, h443, X443, e443, W443, V443, st443⟩ := stI' X438 hx hZ e438 f442 (j := w437) bw437.1 (by rw [le434]; exact bw437.2) (g := (mkF m 116 #[.val (.int (4 : Int32)), .val (.ref a), .val (.ref t), .val (.ref b366), .val (.ref b398), .val (.ref b412), .val (.int (1 : Int32)), .val (.int s2)] [(.int t1), (.int w437), (.ref b398)])) rfl rfl (hb hby d1_116)
    refine Go.via (st443) ?_
    clear st443
    have N443 := Fr.snoc X443 N438 ge405
    have f444 : Ia Z h443 b398 .int (List.set e434 (w437).toNatClampNeg t1) := V443
    clear X438 e438
    show Go p e below (T443.setTop (mkF m 117 #[.val (.int (4 : Int32)), .val (.ref a), .val (.ref t), .val (.ref b366), .val (.ref b398), .val (.ref b412), .val (.int (1 : Int32)), .val (.int s2)] [])) _
    obtain ⟨e445, he445⟩ : ∃ z : List Int32, z = (List.set e434 (w437).toNatClampNeg t1) := ⟨_, rfl⟩
    rw [← he445] at f444
    have le445 : e445.length = 3 := by rw [he445, List.length_set]; exact le434
    refine Go.via (fun _ => XS.iinc X443.here hx rfl (hb hby d1_117) rfl (l' := #[.val (.int (4 : Int32)), .val (.ref a), .val (.ref t), .val (.ref b366), .val (.ref b398), .val (.ref b412), .val (.int (2 : Int32)), .val (.int s2)]) rfl) ?_
    show Go p e below (T443.setTop (mkF m 120 #[.val (.int (4 : Int32)), .val (.ref a), .val (.ref t), .val (.ref b366), .val (.ref b398), .val (.ref b412), .val (.int (2 : Int32)), .val (.int s2)] [])) _
    refine Go.via (fun _ => XS.goto X443.here hx rfl (pc0 := 120) (pc' := 91) rfl (hb hby d1_120) (by decide) (by decide)) ?_
    refine Go.via (fun _ => XS.iload X443.here hx rfl (hb hby d1_91) rfl) ?_
    refine Go.via (fun _ => XS.aloadN X443.here hx rfl (hb hby d1_93) rfl rfl) ?_
    have f446 : Ia Z h443 a .int [s0, s1, s2] := ((f435.other W438 ne415).other W443 ne401)
    refine Go.via (lenI X443 hx hZ e443 f446 (n := (3 : Int32)) rfl (g := (mkF m 94 #[.val (.int (4 : Int32)), .val (.ref a), .val (.ref t), .val (.ref b366), .val (.ref b398), .val (.ref b412), .val (.int (2 : Int32)), .val (.int s2)] [(.ref a), (.int (2 : Int32))])) rfl rfl (hb hby d1_94)) ?_
    show Go p e below (T443.setTop (mkF m 95 #[.val (.int (4 : Int32)), .val (.ref a), .val (.ref t), .val (.ref b366), .val (.ref b398), .val (.ref b412), .val (.int (2 : Int32)), .val (.int s2)] [(.int (3 : Int32)), (.int (2 : Int32))])) _
    refine Go.via (fun _ => XS.icmpNo X443.here hx rfl (hb hby d1_95) rfl (tlt ((by decide) : (2 : Int32) < (3 : Int32))).2.1) ?_
    show Go p e below (T443.setTop (mkF m 98 #[.val (.int (4 : Int32)), .val (.ref a), .val (.ref t), .val (.ref b366), .val (.ref b398), .val (.ref b412), .val (.int (2 : Int32)), .val (.int s2)] [])) _
    refine Go.via (fun _ => XS.aload X443.here hx rfl (hb hby d1_98) rfl rfl) ?_
    refine Go.via (fun _ => XS.aload X443.here hx rfl (hb hby d1_100) rfl rfl) ?_
    refine Go.via (fun _ => XS.aloadN X443.here hx rfl (hb hby d1_102) rfl rfl) ?_
    refine Go.via (fun _ => XS.iload X443.here hx rfl (hb hby d1_103) rfl) ?_
    show Go p e below (T443.setTop (mkF m 105 #[.val (.int (4 : Int32)), .val (.ref a), .val (.ref t), .val (.ref b366), .val (.ref b398), .val (.ref b412), .val (.int (2 : Int32)), .val (.int s2)] [(.int (2 : Int32)), (.ref a), (.ref b412), (.ref b398)])) _
    refine Go.via (ldI X443 hx hZ e443 f446 (v := s2) (by decide) rfl (g := (mkF m 105 #[.val (.int (4 : Int32)), .val (.ref a), .val (.ref t), .val (.ref b366), .val (.ref b398), .val (.ref b412), .val (.int (2 : Int32)), .val (.int s2)] [(.int (2 : Int32)), (.ref a), (.ref b412), (.ref b398)])) rfl rfl (hb hby d1_105)) ?_
    show Go p e below (T443.setTop (mkF m 106 #[.val (.int (4 : Int32)), .val (.ref a), .val (.ref t), .val (.ref b366), .val (.ref b398), .val (.ref b412), .val (.int (2 : Int32)), .val (.int s2)] [(.int s2), (.ref b412), (.ref b398)])) _
    refine Go.via (S' := T443.setTop (mkF m 107 #[.val (.int (4 : Int32)), .val (.ref a), .val (.ref t), .val (.ref b366), .val (.ref b398), .val (.ref b412), .val (.int (2 : Int32)), .val (.int s2)] [(.int s2), (.ref b412), (.int s2), (.ref b412), (.ref b398)])) (fun tQ kQ => ?_) ?_
    · jvm_step X443.here [X443.here.top, hx, (hb hby d1_106), Value.category]
      exact kQ
    show Go p e below (T443.setTop (mkF m 107 #[.val (.int (4 : Int32)), .val (.ref a), .val (.ref t), .val (.ref b366), .val (.ref b398), .val (.ref b412), .val (.int (2 : Int32)), .val (.int s2)] [(.int s2), (.ref b412), (.int s2), (.ref b412), (.ref b398)])) _
    have f447 : Ia Z h443 b412 .int n440 := (f439.other W443 (Ne.symm ne417))
    refine Go.via (ldI X443 hx hZ e443 f447 (v := (List.getD n440 (s2).toNatClampNeg 0)) (by rcases r2 with rfl | rfl | rfl | rfl <;> decide) (own_get (by rcases r2 with rfl | rfl | rfl | rfl <;> decide) (by rw [ln440]; rcases r2 with rfl | rfl | rfl | rfl <;> decide)) (g := (mkF m 107 #[.val (.int (4 : Int32)), .val (.ref a), .val (.ref t), .val (.ref b366), .val (.ref b398), .val (.ref b412), .val (.int (2 : Int32)), .val (.int s2)] [(.int s2), (.ref b412), (.int s2), (.ref b412), (.ref b398)])) rfl rfl (hb hby d1_107)) ?_
    show Go p e below (T443.setTop (mkF m 108 #[.val (.int (4 : Int32)), .val (.ref a), .val (.ref t), .val (.ref b366), .val (.ref b398), .val (.ref b412), .val (.int (2 : Int32)), .val (.int s2)] [(.int (List.getD n440 (s2).toNatClampNeg 0)), (.int s2), (.ref b412), (.ref b398)])) _
    generalize hhw448 : (List.getD n440 (s2).toNatClampNeg 0) = w448
    show Go p e below (T443.setTop (mkF m 108 #[.val (.int (4 : Int32)), .val (.ref a), .val (.ref t), .val (.ref b366), .val (.ref b398), .val (.ref b412), .val (.int (2 : Int32)), .val (.int s2)] [(.int w448), (.int s2), (.ref b412), (.ref b398)])) _
    have bw448 := (own_b4_2 (t0 := t0) (t1 := t1) (t2 := t2) ho372 ho376 ho380 ho384 ho387 ho390 ho393 ho396 he408 hn424 hhw426 hn429 he434 hhw437 hn440 he445 hhw448 r0 r1 r2)
    refine Go.via (S' := T443.setTop (mkF m 109 #[.val (.int (4 : Int32)), .val (.ref a), .val (.ref t), .val (.ref b366), .val (.ref b398), .val (.ref b412), .val (.int (2 : Int32)), .val (.int s2)] [(.int w448), (.int s2), (.ref b412), (.int w448), (.ref b398)])) (fun tQ kQ => ?_) ?_
    · jvm_step X443.here [X443.here.top, hx, (hb hby d1_108), Value.category]
      exact kQ
    show Go p e below (T443.setTop (mkF m 109 #[.val (.int (4 : Int32)), .val (.ref a), .val (.ref t), .val (.ref b366), .val (.ref b398), .val (.ref b412), .val (.int (2 : Int32)), .val (.int s2)] [(.int w448), (.int s2), (.ref b412), (.int w448), (.ref b398)])) _
    refine Go.via (fun _ => XS.iconst X443.here hx rfl (hb hby d1_109)) ?_
    refine Go.via (fun _ => XS.iadd X443.here hx rfl (hb hby d1_110) rfl) ?_
    show Go p e below (T443.setTop (mkF m 111 #[.val (.int (4 : Int32)), .val (.ref a), .val (.ref t), .val (.ref b366), .val (.ref b398), .val (.ref b412), .val (.int (2 : Int32)), .val (.int s2)] [(.int (w448 + (1 : Int32))), (.int s2), (.ref b412), (.int w448), (.ref b398)])) _
    obtain ⟨T449, h449, X449, e449, W449, V449, st449⟩ := stI' X443 hx hZ e443 f447 (j := s2) (by rcases r2 with rfl | rfl | rfl | rfl <;> decide) (by rw [ln440]; rcases r2 with rfl | rfl | rfl | rfl <;> decide) (g := (mkF m 111 #[.val (.int (4 : Int32)), .val (.ref a), .val (.ref t), .val (.ref b366), .val (.ref b398), .val (.ref b412), .val (.int (2 : Int32)), .val (.int s2)] [(.int (w448 + (1 : Int32))), (.int s2), (.ref b412), (.int w448), (.ref b398)])) rfl rfl (hb hby d1_111)
    refine Go.via (st449) ?_
    clear st449
    have N449 := Fr.snoc X449 N443 ge420
    have f450 : Ia Z h449 b412 .int (List.set n440 (s2).toNatClampNeg (w448 + (1 : Int32))) := V449
    clear X443 e443
    show Go p e below (T449.setTop (mkF m 112 #[.val (.int (4 : Int32)), .val (.ref a), .val (.ref t), .val (.ref b366), .val (.ref b398), .val (.ref b412), .val (.int (2 : Int32)), .val (.int s2)] [(.int w448), (.ref b398)])) _
    obtain ⟨n451, hn451⟩ : ∃ z : List Int32, z = (List.set n440 (s2).toNatClampNeg (w448 + (1 : Int32))) := ⟨_, rfl⟩
    rw [← hn451] at f450
    have ln451 : n451.length = 4 := by rw [hn451, List.length_set]; exact ln440
    refine Go.via (fun _ => XS.aloadN X449.here hx rfl (hb hby d1_112) rfl rfl) ?_
    refine Go.via (fun _ => XS.iload X449.here hx rfl (hb hby d1_113) rfl) ?_
    have f452 : Ia Z h449 t .int [t0, t1, t2] := ((f441.other W443 ne404).other W449 ne419)
    refine Go.via (ldI X449 hx hZ e449 f452 (v := t2) (by decide) rfl (g := (mkF m 115 #[.val (.int (4 : Int32)), .val (.ref a), .val (.ref t), .val (.ref b366), .val (.ref b398), .val (.ref b412), .val (.int (2 : Int32)), .val (.int s2)] [(.int (2 : Int32)), (.ref t), (.int w448), (.ref b398)])) rfl rfl (hb hby d1_115)) ?_
    show Go p e below (T449.setTop (mkF m 116 #[.val (.int (4 : Int32)), .val (.ref a), .val (.ref t), .val (.ref b366), .val (.ref b398), .val (.ref b412), .val (.int (2 : Int32)), .val (.int s2)] [(.int t2), (.int w448), (.ref b398)])) _
    have f453 : Ia Z h449 b398 .int e445 := (f444.other W449 ne417)
    obtain ⟨T454, h454, X454, e454, W454, V454, st454⟩ := stI' X449 hx hZ e449 f453 (j := w448) bw448.1 (by rw [le445]; exact bw448.2) (g := (mkF m 116 #[.val (.int (4 : Int32)), .val (.ref a), .val (.ref t), .val (.ref b366), .val (.ref b398), .val (.ref b412), .val (.int (2 : Int32)), .val (.int s2)] [(.int t2), (.int w448), (.ref b398)])) rfl rfl (hb hby d1_116)
    refine Go.via (st454) ?_
    clear st454
    have N454 := Fr.snoc X454 N449 ge405
    have f455 : Ia Z h454 b398 .int (List.set e445 (w448).toNatClampNeg t2) := V454
    clear X449 e449
    show Go p e below (T454.setTop (mkF m 117 #[.val (.int (4 : Int32)), .val (.ref a), .val (.ref t), .val (.ref b366), .val (.ref b398), .val (.ref b412), .val (.int (2 : Int32)), .val (.int s2)] [])) _
    obtain ⟨e456, he456⟩ : ∃ z : List Int32, z = (List.set e445 (w448).toNatClampNeg t2) := ⟨_, rfl⟩
    rw [← he456] at f455
    have le456 : e456.length = 3 := by rw [he456, List.length_set]; exact le445
    refine Go.via (fun _ => XS.iinc X454.here hx rfl (hb hby d1_117) rfl (l' := #[.val (.int (4 : Int32)), .val (.ref a), .val (.ref t), .val (.ref b366), .val (.ref b398), .val (.ref b412), .val (.int (3 : Int32)), .val (.int s2)]) rfl) ?_
    show Go p e below (T454.setTop (mkF m 120 #[.val (.int (4 : Int32)), .val (.ref a), .val (.ref t), .val (.ref b366), .val (.ref b398), .val (.ref b412), .val (.int (3 : Int32)), .val (.int s2)] [])) _
    refine Go.via (fun _ => XS.goto X454.here hx rfl (pc0 := 120) (pc' := 91) rfl (hb hby d1_120) (by decide) (by decide)) ?_
    refine Go.via (fun _ => XS.iload X454.here hx rfl (hb hby d1_91) rfl) ?_
    refine Go.via (fun _ => XS.aloadN X454.here hx rfl (hb hby d1_93) rfl rfl) ?_
    have f457 : Ia Z h454 a .int [s0, s1, s2] := ((f446.other W449 ne415).other W454 ne401)
    refine Go.via (lenI X454 hx hZ e454 f457 (n := (3 : Int32)) rfl (g := (mkF m 94 #[.val (.int (4 : Int32)), .val (.ref a), .val (.ref t), .val (.ref b366), .val (.ref b398), .val (.ref b412), .val (.int (3 : Int32)), .val (.int s2)] [(.ref a), (.int (3 : Int32))])) rfl rfl (hb hby d1_94)) ?_
    show Go p e below (T454.setTop (mkF m 95 #[.val (.int (4 : Int32)), .val (.ref a), .val (.ref t), .val (.ref b366), .val (.ref b398), .val (.ref b412), .val (.int (3 : Int32)), .val (.int s2)] [(.int (3 : Int32)), (.int (3 : Int32))])) _
    refine Go.via (fun _ => XS.icmpYes X454.here hx rfl (pc0 := 95) (pc' := 123) rfl (hb hby d1_95) rfl (flt ((by decide) : ¬ ((3 : Int32) < (3 : Int32)))).2.1 (by decide) (by decide)) ?_
    show Go p e below (T454.setTop (mkF m 123 #[.val (.int (4 : Int32)), .val (.ref a), .val (.ref t), .val (.ref b366), .val (.ref b398), .val (.ref b412), .val (.int (3 : Int32)), .val (.int s2)] [])) _
    have k459 : Keep h0 h454 [] := (((((((k422.trans K410q all0).wr W427 (Or.inr sz421)).wr W432 (Or.inr sz406)).wr W438 (Or.inr sz421)).wr W443 (Or.inr sz406)).wr W449 (Or.inr sz421)).wr W454 (Or.inr sz406))
    have z460 : n0 ≤ h454.size := (Nat.le_trans (Nat.le_trans (Nat.le_trans (Nat.le_trans (Nat.le_trans (Nat.le_trans (Nat.le_trans z411 K410q.1) (Keep.of_wr W427).1) (Keep.of_wr W432).1) (Keep.of_wr W438).1) (Keep.of_wr W443).1) (Keep.of_wr W449).1) (Keep.of_wr W454).1)
    obtain ⟨T458, h458, X458, e458, E458, A458, D458, -, st458⟩ := newO X454 hx hZ hown (tw hw 17 rfl) (tw hw 18 rfl) (tw hw 3 rfl) e454 (g := (mkF m 123 #[.val (.int (4 : Int32)), .val (.ref a), .val (.ref t), .val (.ref b366), .val (.ref b398), .val (.ref b412), .val (.int (3 : Int32)), .val (.int s2)] [])) rfl (hb hby d1_123) (by decide) (by decide)
    obtain ⟨b458, g458⟩ : ∃ z, z = h454.size := ⟨_, rfl⟩
    rw [← g458] at A458 D458 st458
    have ne461 : a ≠ b458 := Nat.ne_of_lt (Nat.lt_of_lt_of_le f457.lt (Nat.le_of_eq g458.symm))
    have f463 : Ia Z h454 b366 .int o396 := (((((((f409.keep K410q nin0).other W427 ne416).other W432 ne403).other W438 ne416).other W443 ne403).other W449 ne416).other W454 ne403)
    have ne462 : b366 ≠ b458 := Nat.ne_of_lt (Nat.lt_of_lt_of_le f463.lt (Nat.le_of_eq g458.symm))
    have ne464 : b398 ≠ b458 := Nat.ne_of_lt (Nat.lt_of_lt_of_le f455.lt (Nat.le_of_eq g458.symm))
    have f466 : Ia Z h454 b412 .int n451 := (f450.other W454 (Ne.symm ne417))
    have ne465 : b412 ≠ b458 := Nat.ne_of_lt (Nat.lt_of_lt_of_le f466.lt (Nat.le_of_eq g458.symm))
    have f468 : Ia Z h454 t .int [t0, t1, t2] := (f452.other W454 ne404)
    have ne467 : t ≠ b458 := Nat.ne_of_lt (Nat.lt_of_lt_of_le f468.lt (Nat.le_of_eq g458.symm))
    have ge469 : n0 ≤ b458 := Nat.le_trans z460 (Nat.le_of_eq g458.symm)
    have sz470 : h0.size ≤ b458 := Nat.le_trans k459.1 (Nat.le_of_eq g458.symm)
    refine Go.via (st458) ?_
    clear st458
    have f471 : Fld Z h458 b458 "com/example/acquaint/acquaint/query/Adjacency" "offsets" "[I" .null := D458 (Or.inr (tw hw 26 rfl)) (ty := (.array .int)) (by decide)
    have f472 : Fld Z h458 b458 "com/example/acquaint/acquaint/query/Adjacency" "targets" "[I" .null := D458 (Or.inr (tw hw 28 rfl)) (ty := (.array .int)) (by decide)
    clear X454 e454
    show Go p e below (T458.setTop (mkF m 126 #[.val (.int (4 : Int32)), .val (.ref a), .val (.ref t), .val (.ref b366), .val (.ref b398), .val (.ref b412), .val (.int (3 : Int32)), .val (.int s2)] [(.ref b458)])) _
    refine Go.via (fun _ => XS.dup X458.here hx rfl (hb hby d1_126) rfl rfl) ?_
    refine Go.via (fun _ => XS.aloadN X458.here hx rfl (hb hby d1_127) rfl rfl) ?_
    refine Go.via (fun _ => XS.aload X458.here hx rfl (hb hby d1_128) rfl rfl) ?_
    have z474 : n0 ≤ h458.size := (Nat.le_trans z460 E458.1)
    obtain ⟨_, _, ⟨T473, L473, k473, n473⟩, -, X473, ⟨Lc473, hQ473, l473, y473, z473⟩, st473⟩ := X458.specialBack hx (y := (⟨"com/example/acquaint/acquaint/query/Adjacency", "<init>", "([I[I)V"⟩ : MethodName)) rfl hown (mvT hZ (tw hw 19 rfl)) (mvT hZ (tw hw 20 rfl)) (mvT hZ (tw hw 21 rfl)) (by decide) (backOf (W := 1) (rmI l Z a0 hw [] b458 b366 b398  h458 n0 z474 A458 f471 f472 ge469) hZ (tw hw 21 rfl) (tw hw 3 rfl) (by decide) (by decide)) (g := (mkF m 130 #[.val (.int (4 : Int32)), .val (.ref a), .val (.ref t), .val (.ref b366), .val (.ref b398), .val (.ref b412), .val (.int (3 : Int32)), .val (.int s2)] [(.ref b398), (.ref b366), (.ref b458), (.ref b458)])) rfl (by rw [hml]; rfl) (Steps.refl _) (a := b458) (argsL := [(.ref b366), (.ref b398)]) (rest := [(.ref b458)]) (lenOf pd__28_5bI_5bI_29V rfl) rfl (by show 2 * 0 + _ ≤ _; exact Nat.le_of_eq rfl) (hb hby d1_130) (fun _ _ => ⟨rfl, e458, (by decide : 4 + 0 ≤ _), (by decide : 14 + 0 ≤ _)⟩)
    dsimp only [Pt.U, Pt.locs, Pt.cells, Pt.slots] at X473 l473 y473 z473 st473 hQ473
    subst l473 y473 z473
    obtain ⟨rfl, N473q, K473q, f475, f476, f477⟩ := hQ473
    have N473 := Fr.app N454 N473q
    refine Go.via (fun _ kQ => st473.trans kQ) ?_
    clear st473
    have e473 : T473.heap = T473.heap := rfl
    have f478 : Exa Z T473.heap b458 "com/example/acquaint/acquaint/query/Adjacency" := f475
    have f479 : Fld Z T473.heap b458 "com/example/acquaint/acquaint/query/Adjacency" "offsets" "[I" (.ref b366) := f476
    have f480 : Fld Z T473.heap b458 "com/example/acquaint/acquaint/query/Adjacency" "targets" "[I" (.ref b398) := f477
    clear X458 e458
    show Go p e below (T473.setTop (mkF m 133 #[.val (.int (4 : Int32)), .val (.ref a), .val (.ref t), .val (.ref b366), .val (.ref b398), .val (.ref b412), .val (.int (3 : Int32)), .val (.int s2)] [(.ref b458)])) _
    have k481 : Keep h0 T473.heap [] := ((k459.ext E458).trans K473q (allS (Or.inr sz470) all0))
    have f482 : Ia Z T473.heap b366 .int o396 := ((f463.ext E458).keep K473q (ninS ne462 nin0))
    have f483 : Ia Z T473.heap b398 .int e456 := ((f455.ext E458).keep K473q (ninS ne464 nin0))
    exact Go.fin X473 hlk (v := some (.ref b458)) (fun h => by rw [Bd.returns] at h; cases h) (fun fs hr => retOut X473 hx Bd.returns rfl (Or.inr (Or.inr (Or.inr (Or.inr ⟨rfl, rfl, rfl⟩)))) (hb hby d1_133) hr) (by exact ⟨b366, b398, b458, o396, e456, rfl, N473, k481, sz370, sz406, sz470, f478, f479, f480, f482, f483, (own_r4 (t0 := t0) (t1 := t1) (t2 := t2) ho372 ho376 ho380 ho384 ho387 ho390 ho393 ho396 he408 hn424 hhw426 hn429 he434 hhw437 hn440 he445 hhw448 hn451 he456 r0 r1 r2)⟩) (by decide) (by decide)
theorem d7_0 : decode prog_12_method_7_code 0 = .ok (.aload_n 0, 1) := by decide +kernel
theorem d7_1 : decode prog_12_method_7_code 1 = .ok (.getfield 13, 3) := by decide +kernel
theorem d7_4 : decode prog_12_method_7_code 4 = .ok (.arraylength, 1) := by decide +kernel
theorem d7_5 : decode prog_12_method_7_code 5 = .ok (.ireturn, 1) := by decide +kernel
theorem pn_7 : plainName "com/example/acquaint/acquaint/query/Adjacency" = true := by first | (simp [plainName, overriddenIn]; done) | decide +kernel
theorem ef_7 (m : MethodId) (x0 : Addr) : entryFrame m #[(.ref x0)] 1 = mkF m 0 #[.val (.ref x0)] [] := by first | (simp [entryFrame, mkF, argsToLocals, Value.category]; done) | rfl
def Q_rmS (Z : State) (a : Addr) (d : Addr) (xs : List Int32) (h0 : Heap) (n0 : Nat) (vQ : Option Value) (hQ : Heap) (LQ : List Loc) : Prop := vQ = some (.int (3 : Int32)) ∧ Fr n0 LQ ∧ hQ = h0
set_option maxRecDepth 65536 in
set_option maxHeartbeats 40000000 in
theorem rmS (l : Launch) (Z : State) (a0 : Array Value) (hw : ∀ d ∈ tables_1, d.before a0 Z = true) (ws : List Jvm.Cond) (a : Addr) (d : Addr) (xs : List Int32) (h0 : Heap) (n0 : Nat) (Z0 : n0 ≤ h0.size) (P0 : Fld Z h0 a "com/example/acquaint/acquaint/query/Adjacency" "targets" "[I" (.ref d)) (P1 : Ia Z h0 d .int xs) (h3 : xs.length = 3) :
    MetFree l (⟨"com/example/acquaint/acquaint/query/Adjacency", "size", "()I"⟩ : MethodName) (head1 (Jvm.Cond.code (⟨"com/example/acquaint/acquaint/query/Adjacency", "size", "()I"⟩ : MethodName) prog_12_method_7_code 1 (some .int) :: ws) ({ frames := 0, cells := 0, slots := 0, locals := 0 } : Room)) (fun aQ UQ => aQ = #[(.ref a)] ∧ Z.Warmed39 UQ.vm ∧ UQ.heap = h0) (fun _ _ _ _ _ => True) (fun _ UQ oQ UR => ∃ vQ LQ, oQ = .returned vQ ∧ Q_rmS Z a d xs h0 n0 vQ UR.heap LQ ∧ FrameEnd UQ oQ UR LQ ({ frames := 0, cells := 0, slots := 0, locals := 0 } : Room).cells ({ frames := 0, cells := 0, slots := 0, locals := 0 } : Room).slots) := by
  refine MetFree.of_bodySF (plainFor_of_name pn_7) hisR ?_
  intro p e s m args below meth c s₁ Bd hml0 hP hK
  obtain ⟨rfl, hZ, hh⟩ := hP
  have hx := Bd.exec
  have hby := Bd.bytes
  have hlk := Bd.notSynchronized
  have hml : c.maxLocals = 1 := hml0
  have hown : s.vm.findClass "com/example/acquaint/acquaint/query/Adjacency" = some m.cls := findClass_of_methodNamed Bd.named
  have hnm := (name_of_methodNamed Bd.named Bd.method).1
  have X0 : Stand p l e ({ frames := 0, cells := 0, slots := 0, locals := 0 } : Room) s m #[(.ref a)] below meth c s₁ [] 0 0 := Stand.of_body Bd
  have e0 : s₁.heap = h0 := by rw [← hh, Bd.state]; rfl
  have N0 := Fr.nil n0
  show Go p e below _ (Done s (Q_rmS Z a d xs h0 n0) ({ frames := 0, cells := 0, slots := 0, locals := 0 } : Room).cells ({ frames := 0, cells := 0, slots := 0, locals := 0 } : Room).slots)
  refine Go.via (fun tQ kQ => castTop (ef_7 m a) kQ) ?_
  show Go p e below (s₁.setTop (mkF m 0 #[.val (.ref a)] [])) _
  refine Go.via (fun _ => XS.aloadN X0.here hx rfl (hb hby d7_0) rfl rfl) ?_
  obtain ⟨T484, X484, e484, st484⟩ := getF X0 hx hZ hown (host := "") (Or.inl (tw hw 27 rfl)) Via.refl e0 P0 (g := (mkF m 1 #[.val (.ref a)] [(.ref a)])) rfl rfl (hb hby d7_1)
  refine Go.via (st484) ?_
  clear st484
  clear X0 e0
  show Go p e below (T484.setTop (mkF m 4 #[.val (.ref a)] [(.ref d)])) _
  refine Go.via (lenI X484 hx hZ e484 P1 (n := (3 : Int32)) (by rw [h3]; rfl) (g := (mkF m 4 #[.val (.ref a)] [(.ref d)])) rfl rfl (hb hby d7_4)) ?_
  show Go p e below (T484.setTop (mkF m 5 #[.val (.ref a)] [(.int (3 : Int32))])) _
  exact Go.fin X484 hlk (v := some (.int (3 : Int32))) (fun h => by rw [Bd.returns] at h; cases h) (fun fs hr => OwnKit.retI X484 hx Bd.returns (hb hby d7_5) hr) (by rw [e484]; exact ⟨rfl, N0, rfl⟩) (by decide) (by decide)
theorem d8_0 : decode prog_12_method_6_code 0 = .ok (.aload_n 0, 1) := by decide +kernel
theorem d8_1 : decode prog_12_method_6_code 1 = .ok (.getfield 13, 3) := by decide +kernel
theorem d8_4 : decode prog_12_method_6_code 4 = .ok (.iload_n 1, 1) := by decide +kernel
theorem d8_5 : decode prog_12_method_6_code 5 = .ok (.iaload, 1) := by decide +kernel
theorem d8_6 : decode prog_12_method_6_code 6 = .ok (.ireturn, 1) := by decide +kernel
theorem pn_8 : plainName "com/example/acquaint/acquaint/query/Adjacency" = true := by first | (simp [plainName, overriddenIn]; done) | decide +kernel
theorem ef_8 (m : MethodId) (x0 : Addr) (x1 : Int32) : entryFrame m #[(.ref x0), (.int x1)] 2 = mkF m 0 #[.val (.ref x0), .val (.int x1)] [] := by first | (simp [entryFrame, mkF, argsToLocals, Value.category]; done) | rfl
def Q_rm_target (Z : State) (a : Addr) (i : Int32) (d : Addr) (xs : List Int32) (v_ : Int32) (h0 : Heap) (n0 : Nat) (vQ : Option Value) (hQ : Heap) (LQ : List Loc) : Prop := vQ = some (.int v_) ∧ Fr n0 LQ ∧ hQ = h0
set_option maxRecDepth 65536 in
set_option maxHeartbeats 40000000 in
theorem rm_target (l : Launch) (Z : State) (a0 : Array Value) (hw : ∀ d ∈ tables_1, d.before a0 Z = true) (ws : List Jvm.Cond) (a : Addr) (i : Int32) (d : Addr) (xs : List Int32) (v_ : Int32) (h0 : Heap) (n0 : Nat) (Z0 : n0 ≤ h0.size) (P0 : Fld Z h0 a "com/example/acquaint/acquaint/query/Adjacency" "targets" "[I" (.ref d)) (P1 : Ia Z h0 d .int xs) (hi0 : ¬ i < 0) (hv : xs[(i).toNatClampNeg]? = some v_) :
    MetFree l (⟨"com/example/acquaint/acquaint/query/Adjacency", "target", "(I)I"⟩ : MethodName) (head1 (Jvm.Cond.code (⟨"com/example/acquaint/acquaint/query/Adjacency", "target", "(I)I"⟩ : MethodName) prog_12_method_6_code 2 (some .int) :: ws) ({ frames := 0, cells := 0, slots := 0, locals := 0 } : Room)) (fun aQ UQ => aQ = #[(.ref a), (.int i)] ∧ Z.Warmed39 UQ.vm ∧ UQ.heap = h0) (fun _ _ _ _ _ => True) (fun _ UQ oQ UR => ∃ vQ LQ, oQ = .returned vQ ∧ Q_rm_target Z a i d xs v_ h0 n0 vQ UR.heap LQ ∧ FrameEnd UQ oQ UR LQ ({ frames := 0, cells := 0, slots := 0, locals := 0 } : Room).cells ({ frames := 0, cells := 0, slots := 0, locals := 0 } : Room).slots) := by
  refine MetFree.of_bodySF (plainFor_of_name pn_8) hisR ?_
  intro p e s m args below meth c s₁ Bd hml0 hP hK
  obtain ⟨rfl, hZ, hh⟩ := hP
  have hx := Bd.exec
  have hby := Bd.bytes
  have hlk := Bd.notSynchronized
  have hml : c.maxLocals = 2 := hml0
  have hown : s.vm.findClass "com/example/acquaint/acquaint/query/Adjacency" = some m.cls := findClass_of_methodNamed Bd.named
  have hnm := (name_of_methodNamed Bd.named Bd.method).1
  have X0 : Stand p l e ({ frames := 0, cells := 0, slots := 0, locals := 0 } : Room) s m #[(.ref a), (.int i)] below meth c s₁ [] 0 0 := Stand.of_body Bd
  have e0 : s₁.heap = h0 := by rw [← hh, Bd.state]; rfl
  have N0 := Fr.nil n0
  show Go p e below _ (Done s (Q_rm_target Z a i d xs v_ h0 n0) ({ frames := 0, cells := 0, slots := 0, locals := 0 } : Room).cells ({ frames := 0, cells := 0, slots := 0, locals := 0 } : Room).slots)
  refine Go.via (fun tQ kQ => castTop (ef_8 m a i) kQ) ?_
  show Go p e below (s₁.setTop (mkF m 0 #[.val (.ref a), .val (.int i)] [])) _
  refine Go.via (fun _ => XS.aloadN X0.here hx rfl (hb hby d8_0) rfl rfl) ?_
  obtain ⟨T485, X485, e485, st485⟩ := getF X0 hx hZ hown (host := "") (Or.inl (tw hw 27 rfl)) Via.refl e0 P0 (g := (mkF m 1 #[.val (.ref a), .val (.int i)] [(.ref a)])) rfl rfl (hb hby d8_1)
  refine Go.via (st485) ?_
  clear st485
  clear X0 e0
  show Go p e below (T485.setTop (mkF m 4 #[.val (.ref a), .val (.int i)] [(.ref d)])) _
  refine Go.via (fun _ => XS.iloadN X485.here hx rfl (hb hby d8_4) rfl) ?_
  refine Go.via (ldI X485 hx hZ e485 P1 (v := v_) hi0 hv (g := (mkF m 5 #[.val (.ref a), .val (.int i)] [(.int i), (.ref d)])) rfl rfl (hb hby d8_5)) ?_
  show Go p e below (T485.setTop (mkF m 6 #[.val (.ref a), .val (.int i)] [(.int v_)])) _
  exact Go.fin X485 hlk (v := some (.int v_)) (fun h => by rw [Bd.returns] at h; cases h) (fun fs hr => OwnKit.retI X485 hx Bd.returns (hb hby d8_6) hr) (by rw [e485]; exact ⟨rfl, N0, rfl⟩) (by decide) (by decide)
theorem d9_0 : decode prog_12_method_4_code 0 = .ok (.aload_n 0, 1) := by decide +kernel
theorem d9_1 : decode prog_12_method_4_code 1 = .ok (.getfield 7, 3) := by decide +kernel
theorem d9_4 : decode prog_12_method_4_code 4 = .ok (.iload_n 1, 1) := by decide +kernel
theorem d9_5 : decode prog_12_method_4_code 5 = .ok (.iaload, 1) := by decide +kernel
theorem d9_6 : decode prog_12_method_4_code 6 = .ok (.ireturn, 1) := by decide +kernel
theorem pn_9 : plainName "com/example/acquaint/acquaint/query/Adjacency" = true := by first | (simp [plainName, overriddenIn]; done) | decide +kernel
theorem ef_9 (m : MethodId) (x0 : Addr) (x1 : Int32) : entryFrame m #[(.ref x0), (.int x1)] 2 = mkF m 0 #[.val (.ref x0), .val (.int x1)] [] := by first | (simp [entryFrame, mkF, argsToLocals, Value.category]; done) | rfl
def Q_rm_start (Z : State) (a : Addr) (i : Int32) (d : Addr) (xs : List Int32) (v_ : Int32) (h0 : Heap) (n0 : Nat) (vQ : Option Value) (hQ : Heap) (LQ : List Loc) : Prop := vQ = some (.int v_) ∧ Fr n0 LQ ∧ hQ = h0
set_option maxRecDepth 65536 in
set_option maxHeartbeats 40000000 in
theorem rm_start (l : Launch) (Z : State) (a0 : Array Value) (hw : ∀ d ∈ tables_1, d.before a0 Z = true) (ws : List Jvm.Cond) (a : Addr) (i : Int32) (d : Addr) (xs : List Int32) (v_ : Int32) (h0 : Heap) (n0 : Nat) (Z0 : n0 ≤ h0.size) (P0 : Fld Z h0 a "com/example/acquaint/acquaint/query/Adjacency" "offsets" "[I" (.ref d)) (P1 : Ia Z h0 d .int xs) (hi0 : ¬ i < 0) (hv : xs[(i).toNatClampNeg]? = some v_) :
    MetFree l (⟨"com/example/acquaint/acquaint/query/Adjacency", "start", "(I)I"⟩ : MethodName) (head1 (Jvm.Cond.code (⟨"com/example/acquaint/acquaint/query/Adjacency", "start", "(I)I"⟩ : MethodName) prog_12_method_4_code 2 (some .int) :: ws) ({ frames := 0, cells := 0, slots := 0, locals := 0 } : Room)) (fun aQ UQ => aQ = #[(.ref a), (.int i)] ∧ Z.Warmed39 UQ.vm ∧ UQ.heap = h0) (fun _ _ _ _ _ => True) (fun _ UQ oQ UR => ∃ vQ LQ, oQ = .returned vQ ∧ Q_rm_start Z a i d xs v_ h0 n0 vQ UR.heap LQ ∧ FrameEnd UQ oQ UR LQ ({ frames := 0, cells := 0, slots := 0, locals := 0 } : Room).cells ({ frames := 0, cells := 0, slots := 0, locals := 0 } : Room).slots) := by
  refine MetFree.of_bodySF (plainFor_of_name pn_9) hisR ?_
  intro p e s m args below meth c s₁ Bd hml0 hP hK
  obtain ⟨rfl, hZ, hh⟩ := hP
  have hx := Bd.exec
  have hby := Bd.bytes
  have hlk := Bd.notSynchronized
  have hml : c.maxLocals = 2 := hml0
  have hown : s.vm.findClass "com/example/acquaint/acquaint/query/Adjacency" = some m.cls := findClass_of_methodNamed Bd.named
  have hnm := (name_of_methodNamed Bd.named Bd.method).1
  have X0 : Stand p l e ({ frames := 0, cells := 0, slots := 0, locals := 0 } : Room) s m #[(.ref a), (.int i)] below meth c s₁ [] 0 0 := Stand.of_body Bd
  have e0 : s₁.heap = h0 := by rw [← hh, Bd.state]; rfl
  have N0 := Fr.nil n0
  show Go p e below _ (Done s (Q_rm_start Z a i d xs v_ h0 n0) ({ frames := 0, cells := 0, slots := 0, locals := 0 } : Room).cells ({ frames := 0, cells := 0, slots := 0, locals := 0 } : Room).slots)
  refine Go.via (fun tQ kQ => castTop (ef_9 m a i) kQ) ?_
  show Go p e below (s₁.setTop (mkF m 0 #[.val (.ref a), .val (.int i)] [])) _
  refine Go.via (fun _ => XS.aloadN X0.here hx rfl (hb hby d9_0) rfl rfl) ?_
  obtain ⟨T486, X486, e486, st486⟩ := getF X0 hx hZ hown (host := "") (Or.inl (tw hw 25 rfl)) Via.refl e0 P0 (g := (mkF m 1 #[.val (.ref a), .val (.int i)] [(.ref a)])) rfl rfl (hb hby d9_1)
  refine Go.via (st486) ?_
  clear st486
  clear X0 e0
  show Go p e below (T486.setTop (mkF m 4 #[.val (.ref a), .val (.int i)] [(.ref d)])) _
  refine Go.via (fun _ => XS.iloadN X486.here hx rfl (hb hby d9_4) rfl) ?_
  refine Go.via (ldI X486 hx hZ e486 P1 (v := v_) hi0 hv (g := (mkF m 5 #[.val (.ref a), .val (.int i)] [(.int i), (.ref d)])) rfl rfl (hb hby d9_5)) ?_
  show Go p e below (T486.setTop (mkF m 6 #[.val (.ref a), .val (.int i)] [(.int v_)])) _
  exact Go.fin X486 hlk (v := some (.int v_)) (fun h => by rw [Bd.returns] at h; cases h) (fun fs hr => OwnKit.retI X486 hx Bd.returns (hb hby d9_6) hr) (by rw [e486]; exact ⟨rfl, N0, rfl⟩) (by decide) (by decide)
theorem d10_0 : decode prog_12_method_5_code 0 = .ok (.aload_n 0, 1) := by decide +kernel
theorem d10_1 : decode prog_12_method_5_code 1 = .ok (.getfield 7, 3) := by decide +kernel
theorem d10_4 : decode prog_12_method_5_code 4 = .ok (.iload_n 1, 1) := by decide +kernel
theorem d10_5 : decode prog_12_method_5_code 5 = .ok (.iconst 1, 1) := by decide +kernel
theorem d10_6 : decode prog_12_method_5_code 6 = .ok (.iadd, 1) := by decide +kernel
theorem d10_7 : decode prog_12_method_5_code 7 = .ok (.iaload, 1) := by decide +kernel
theorem d10_8 : decode prog_12_method_5_code 8 = .ok (.ireturn, 1) := by decide +kernel
theorem pn_10 : plainName "com/example/acquaint/acquaint/query/Adjacency" = true := by first | (simp [plainName, overriddenIn]; done) | decide +kernel
theorem ef_10 (m : MethodId) (x0 : Addr) (x1 : Int32) : entryFrame m #[(.ref x0), (.int x1)] 2 = mkF m 0 #[.val (.ref x0), .val (.int x1)] [] := by first | (simp [entryFrame, mkF, argsToLocals, Value.category]; done) | rfl
def Q_rm_end (Z : State) (a : Addr) (i : Int32) (d : Addr) (xs : List Int32) (v_ : Int32) (h0 : Heap) (n0 : Nat) (vQ : Option Value) (hQ : Heap) (LQ : List Loc) : Prop := vQ = some (.int v_) ∧ Fr n0 LQ ∧ hQ = h0
set_option maxRecDepth 65536 in
set_option maxHeartbeats 40000000 in
theorem rm_end (l : Launch) (Z : State) (a0 : Array Value) (hw : ∀ d ∈ tables_1, d.before a0 Z = true) (ws : List Jvm.Cond) (a : Addr) (i : Int32) (d : Addr) (xs : List Int32) (v_ : Int32) (h0 : Heap) (n0 : Nat) (Z0 : n0 ≤ h0.size) (P0 : Fld Z h0 a "com/example/acquaint/acquaint/query/Adjacency" "offsets" "[I" (.ref d)) (P1 : Ia Z h0 d .int xs) (hi0 : ¬ (i + (1 : Int32)) < 0) (hv : xs[((i + (1 : Int32))).toNatClampNeg]? = some v_) :
    MetFree l (⟨"com/example/acquaint/acquaint/query/Adjacency", "end", "(I)I"⟩ : MethodName) (head1 (Jvm.Cond.code (⟨"com/example/acquaint/acquaint/query/Adjacency", "end", "(I)I"⟩ : MethodName) prog_12_method_5_code 2 (some .int) :: ws) ({ frames := 0, cells := 0, slots := 0, locals := 0 } : Room)) (fun aQ UQ => aQ = #[(.ref a), (.int i)] ∧ Z.Warmed39 UQ.vm ∧ UQ.heap = h0) (fun _ _ _ _ _ => True) (fun _ UQ oQ UR => ∃ vQ LQ, oQ = .returned vQ ∧ Q_rm_end Z a i d xs v_ h0 n0 vQ UR.heap LQ ∧ FrameEnd UQ oQ UR LQ ({ frames := 0, cells := 0, slots := 0, locals := 0 } : Room).cells ({ frames := 0, cells := 0, slots := 0, locals := 0 } : Room).slots) := by
  refine MetFree.of_bodySF (plainFor_of_name pn_10) hisR ?_
  intro p e s m args below meth c s₁ Bd hml0 hP hK
  obtain ⟨rfl, hZ, hh⟩ := hP
  have hx := Bd.exec
  have hby := Bd.bytes
  have hlk := Bd.notSynchronized
  have hml : c.maxLocals = 2 := hml0
  have hown : s.vm.findClass "com/example/acquaint/acquaint/query/Adjacency" = some m.cls := findClass_of_methodNamed Bd.named
  have hnm := (name_of_methodNamed Bd.named Bd.method).1
  have X0 : Stand p l e ({ frames := 0, cells := 0, slots := 0, locals := 0 } : Room) s m #[(.ref a), (.int i)] below meth c s₁ [] 0 0 := Stand.of_body Bd
  have e0 : s₁.heap = h0 := by rw [← hh, Bd.state]; rfl
  have N0 := Fr.nil n0
  show Go p e below _ (Done s (Q_rm_end Z a i d xs v_ h0 n0) ({ frames := 0, cells := 0, slots := 0, locals := 0 } : Room).cells ({ frames := 0, cells := 0, slots := 0, locals := 0 } : Room).slots)
  refine Go.via (fun tQ kQ => castTop (ef_10 m a i) kQ) ?_
  show Go p e below (s₁.setTop (mkF m 0 #[.val (.ref a), .val (.int i)] [])) _
  refine Go.via (fun _ => XS.aloadN X0.here hx rfl (hb hby d10_0) rfl rfl) ?_
  obtain ⟨T487, X487, e487, st487⟩ := getF X0 hx hZ hown (host := "") (Or.inl (tw hw 25 rfl)) Via.refl e0 P0 (g := (mkF m 1 #[.val (.ref a), .val (.int i)] [(.ref a)])) rfl rfl (hb hby d10_1)
  refine Go.via (st487) ?_
  clear st487
  clear X0 e0
  show Go p e below (T487.setTop (mkF m 4 #[.val (.ref a), .val (.int i)] [(.ref d)])) _
  refine Go.via (fun _ => XS.iloadN X487.here hx rfl (hb hby d10_4) rfl) ?_
  refine Go.via (fun _ => XS.iconst X487.here hx rfl (hb hby d10_5)) ?_
  refine Go.via (fun _ => XS.iadd X487.here hx rfl (hb hby d10_6) rfl) ?_
  show Go p e below (T487.setTop (mkF m 7 #[.val (.ref a), .val (.int i)] [(.int (i + (1 : Int32))), (.ref d)])) _
  refine Go.via (ldI X487 hx hZ e487 P1 (v := v_) hi0 hv (g := (mkF m 7 #[.val (.ref a), .val (.int i)] [(.int (i + (1 : Int32))), (.ref d)])) rfl rfl (hb hby d10_7)) ?_
  show Go p e below (T487.setTop (mkF m 8 #[.val (.ref a), .val (.int i)] [(.int v_)])) _
  exact Go.fin X487 hlk (v := some (.int v_)) (fun h => by rw [Bd.returns] at h; cases h) (fun fs hr => OwnKit.retI X487 hx Bd.returns (hb hby d10_8) hr) (by rw [e487]; exact ⟨rfl, N0, rfl⟩) (by decide) (by decide)
theorem own_c4 (x : Int32) : ∃ c : Int32, (1 : Int32) + (((x.toUInt32 >>> ((24 : Int32) &&& 31).toUInt32).toInt32) &&& (3 : Int32)) = c ∧ (c = 1 ∨ c = 2 ∨ c = 3 ∨ c = 4) := by
  refine ⟨_, rfl, ?_⟩
  generalize (x.toUInt32 >>> ((24 : Int32) &&& 31).toUInt32).toInt32 = y
  have h1 := c_mask y 3 2 (by decide) (by decide)
  have h2 : (y &&& 3).toInt = 0 ∨ (y &&& 3).toInt = 1 ∨ (y &&& 3).toInt = 2 ∨ (y &&& 3).toInt = 3 := by omega
  rcases h2 with h | h | h | h
  · have e : y &&& 3 = 0 := Int32.toInt_inj.mp h
    rw [e]; decide
  · have e : y &&& 3 = 1 := Int32.toInt_inj.mp h
    rw [e]; decide
  · have e : y &&& 3 = 2 := Int32.toInt_inj.mp h
    rw [e]; decide
  · have e : y &&& 3 = 3 := Int32.toInt_inj.mp h
    rw [e]; decide
theorem own_s (y c : Int32) (hc : c = 1 ∨ c = 2 ∨ c = 3 ∨ c = 4) : c ≠ 0 ∧ ((c = 1 → (((y &&& (255 : Int32)) % c) = 0)) ∧ (c = 2 → (((y &&& (255 : Int32)) % c) = 0 ∨ ((y &&& (255 : Int32)) % c) = 1)) ∧ (c = 3 → (((y &&& (255 : Int32)) % c) = 0 ∨ ((y &&& (255 : Int32)) % c) = 1 ∨ ((y &&& (255 : Int32)) % c) = 2)) ∧ (c = 4 → (((y &&& (255 : Int32)) % c) = 0 ∨ ((y &&& (255 : Int32)) % c) = 1 ∨ ((y &&& (255 : Int32)) % c) = 2 ∨ ((y &&& (255 : Int32)) % c) = 3))) := by
  have h1 := c_and y 255 (by decide)
  generalize y &&& (255 : Int32) = z at h1
  have k : ∀ (d : Int32), 0 < d.toInt → 0 ≤ (z % d).toInt ∧ (z % d).toInt < d.toInt := fun d hd => let q := (c_iremV z d).1 h1.1 hd; ⟨q.1, q.2.1⟩
  have i : ∀ {u : Int32} {n : Int32}, u.toInt = n.toInt → u = n := fun q => Int32.toInt_inj.mp q
  refine ⟨by rcases hc with rfl | rfl | rfl | rfl <;> decide, fun q => ?_, fun q => ?_, fun q => ?_, fun q => ?_⟩
  · subst q; have := k 1 (by decide); have e : (1 : Int32).toInt = 1 := rfl; exact i (by show _ = (0 : Int); omega)
  · subst q; have := k 2 (by decide); have e : (2 : Int32).toInt = 2 := rfl
    have : (z % 2).toInt = 0 ∨ (z % 2).toInt = 1 := by omega
    rcases this with h | h
    · exact Or.inl (i h)
    · exact Or.inr (i h)
  · subst q; have := k 3 (by decide); have e : (3 : Int32).toInt = 3 := rfl
    have : (z % 3).toInt = 0 ∨ (z % 3).toInt = 1 ∨ (z % 3).toInt = 2 := by omega
    rcases this with h | h | h
    · exact Or.inl (i h)
    · exact Or.inr (Or.inl (i h))
    · exact Or.inr (Or.inr (i h))
  · subst q; have := k 4 (by decide); have e : (4 : Int32).toInt = 4 := rfl
    have : (z % 4).toInt = 0 ∨ (z % 4).toInt = 1 ∨ (z % 4).toInt = 2 ∨ (z % 4).toInt = 3 := by omega
    rcases this with h | h | h | h
    · exact Or.inl (i h)
    · exact Or.inr (Or.inl (i h))
    · exact Or.inr (Or.inr (Or.inl (i h)))
    · exact Or.inr (Or.inr (Or.inr (i h)))
theorem pd__28I_29I : parseMethodDescriptor "(I)I" = some ⟨[.int], some .int⟩ := by decide +kernel
theorem pd__28IIII_29I : parseMethodDescriptor "(IIII)I" = some ⟨[.int, .int, .int, .int], some .int⟩ := by decide +kernel
theorem pd__28I_5bI_5bI_29Lcom_2fexample_2facquaint_2facquaint_2fquery_2fAdjacency_3b : parseMethodDescriptor "(I[I[I)Lcom/example/acquaint/acquaint/query/Adjacency;" = some ⟨[.int, (.array .int), (.array .int)], some (.object "com/example/acquaint/acquaint/query/Adjacency")⟩ := by decide +kernel
theorem pd__28_29I : parseMethodDescriptor "()I" = some ⟨[], some .int⟩ := by decide +kernel
theorem pn_0 : plainName "com/example/acquaint/acquaint/query/AdjacencyOfPinLaw" = true := by first | (simp [plainName, overriddenIn]; done) | decide +kernel
theorem ef_0 (m : MethodId) (x0 : Int32) (x1 : Int32) (x2 : Int32) (x3 : Int32) : entryFrame m #[(.int x0), (.int x1), (.int x2), (.int x3)] maxLocals = mkF m 0 #[.val (.int x0), .val (.int x1), .val (.int x2), .val (.int x3), .unset, .unset, .unset, .unset, .unset, .unset, .unset, .unset, .unset, .unset, .unset] [] := by first | (simp [entryFrame, mkF, argsToLocals, Value.category, maxLocals]; done) | rfl
def Q_rm0 (Z : State) (p0 : Int32) (t0 : Int32) (t1 : Int32) (t2 : Int32)  (h0 : Heap) (n0 : Nat) (vQ : Option Value) (hQ : Heap) (LQ : List Loc) : Prop := vQ = some (.int (1 : Int32)) ∧ Fr n0 LQ ∧ Keep h0 hQ []
set_option maxRecDepth 65536 in
set_option maxHeartbeats 40000000 in
theorem rm0 (l : Launch) (Z : State) (a0 : Array Value) (hw : ∀ d ∈ tables_1, d.before a0 Z = true) (ws : List Jvm.Cond) (p0 : Int32) (t0 : Int32) (t1 : Int32) (t2 : Int32)  (h0 : Heap) (n0 : Nat) (Z0 : n0 ≤ h0.size) :
    MetFree l x (head1 (Jvm.Cond.code x code maxLocals ret :: ws) room_1) (fun aQ UQ => aQ = #[(.int p0), (.int t0), (.int t1), (.int t2)] ∧ Z.Warmed39 UQ.vm ∧ UQ.heap = h0) (fun _ _ _ _ _ => True) (fun _ UQ oQ UR => ∃ vQ LQ, oQ = .returned vQ ∧ Q_rm0 Z p0 t0 t1 t2  h0 n0 vQ UR.heap LQ ∧ FrameEnd UQ oQ UR LQ room_1.cells room_1.slots) := by
  refine MetFree.of_bodySF (plainFor_of_name pn_0) hisR ?_
  intro p e s m args below meth c s₁ Bd hml0 hP hK
  obtain ⟨rfl, hZ, hh⟩ := hP
  have hx := Bd.exec
  have hby := Bd.bytes
  have hlk := Bd.notSynchronized
  have hml : c.maxLocals = 15 := hml0
  have hown : s.vm.findClass "com/example/acquaint/acquaint/query/AdjacencyOfPinLaw" = some m.cls := findClass_of_methodNamed Bd.named
  have hnm := (name_of_methodNamed Bd.named Bd.method).1
  have X0 : Stand p l e room_1 s m #[(.int p0), (.int t0), (.int t1), (.int t2)] below meth c s₁ [] 0 0 := Stand.of_body Bd
  have e0 : s₁.heap = h0 := by rw [← hh, Bd.state]; rfl
  have N0 := Fr.nil n0
  show Go p e below _ (Done s (Q_rm0 Z p0 t0 t1 t2  h0 n0) room_1.cells room_1.slots)
  refine Go.via (fun tQ kQ => castTop (ef_0 m p0 t0 t1 t2) kQ) ?_
  have J4 : ∀ (T488 : State) (L488 : List Loc) (h488 : Heap) (cz : Int32) (s0 : Int32) (s1 : Int32) (s2 : Int32) (sa : Addr) (ta : Addr) (r : Addr) (q1 : Int32) (q2 : Int32) (o : Addr) (d : Addr) (O : List Int32) (E_ : List Int32), Stand p l e room_1 s m #[(.int p0), (.int t0), (.int t1), (.int t2)] below meth c T488 L488 6 20 → T488.heap = h488 → Fr n0 L488 → n0 ≤ h488.size → Keep h0 h488 [] → Ia Z h488 sa .int [s0, s1, s2] → Ia Z h488 ta .int [t0, t1, t2] → Exa Z h488 r "com/example/acquaint/acquaint/query/Adjacency" → Fld Z h488 r "com/example/acquaint/acquaint/query/Adjacency" "offsets" "[I" (.ref o) → Fld Z h488 r "com/example/acquaint/acquaint/query/Adjacency" "targets" "[I" (.ref d) → Ia Z h488 o .int O → Ia Z h488 d .int E_ → own_rel cz s0 s1 s2 t0 t1 t2 O E_ → Go p e below (T488.setTop (mkF m 389 #[.val (.int p0), .val (.int t0), .val (.int t1), .val (.int t2), .val (.int cz), .val (.int s0), .val (.int s1), .val (.int s2), .val (.ref sa), .val (.ref ta), .val (.ref r), .val (.int (own_below s0 s0 s1 s2)), .val (.int q1), .val (.int q2), .val (.int (1 : Int32))] [])) (Done s (Q_rm0 Z p0 t0 t1 t2 h0 n0) room_1.cells room_1.slots) := by
    intro T488 L488 h488 cz s0 s1 s2 sa ta r q1 q2 o d O E_ X488 e488 N488 z488 k488 fs488 ft488 fE488 fo488 fd488 fO488 fX488 hrel488
    show Go p e below (T488.setTop (mkF m 389 #[.val (.int p0), .val (.int t0), .val (.int t1), .val (.int t2), .val (.int cz), .val (.int s0), .val (.int s1), .val (.int s2), .val (.ref sa), .val (.ref ta), .val (.ref r), .val (.int (own_below s0 s0 s1 s2)), .val (.int q1), .val (.int q2), .val (.int (1 : Int32))] [])) _
    refine Go.via (fun _ => XS.iload X488.here hx rfl (hb hby at_389) rfl) ?_
    refine Go.via (fun _ => XS.ifNo X488.here hx rfl (hb hby at_391) rfl ((if0 _ _).trans (feq ((by decide) : ¬ ((1 : Int32) = (0 : Int32)))).1)) ?_
    show Go p e below (T488.setTop (mkF m 394 #[.val (.int p0), .val (.int t0), .val (.int t1), .val (.int t2), .val (.int cz), .val (.int s0), .val (.int s1), .val (.int s2), .val (.ref sa), .val (.ref ta), .val (.ref r), .val (.int (own_below s0 s0 s1 s2)), .val (.int q1), .val (.int q2), .val (.int (1 : Int32))] [])) _
    refine Go.via (fun _ => XS.aload X488.here hx rfl (hb hby at_394) rfl rfl) ?_
    refine Go.via (fun _ => XS.iload X488.here hx rfl (hb hby at_396) rfl) ?_
    refine Go.via (fun _ => XS.iconst X488.here hx rfl (hb hby at_398)) ?_
    refine Go.via (fun _ => XS.isub X488.here hx rfl (hb hby at_399) rfl) ?_
    show Go p e below (T488.setTop (mkF m 400 #[.val (.int p0), .val (.int t0), .val (.int t1), .val (.int t2), .val (.int cz), .val (.int s0), .val (.int s1), .val (.int s2), .val (.ref sa), .val (.ref ta), .val (.ref r), .val (.int (own_below s0 s0 s1 s2)), .val (.int q1), .val (.int q2), .val (.int (1 : Int32))] [(.int (cz - (1 : Int32))), (.ref r)])) _
    obtain ⟨cq489, kq489, q489a, q489b, q489c⟩ := isOf hZ e488 fE488
    obtain ⟨_, _, ⟨T489, L489, k489, n489⟩, -, X489, ⟨Lc489, hQ489, l489, y489, z489⟩, st489⟩ := X488.virtualBack hx (y := (⟨"com/example/acquaint/acquaint/query/Adjacency", "end", "(I)I"⟩ : MethodName)) (z := (⟨"com/example/acquaint/acquaint/query/Adjacency", "end", "(I)I"⟩ : MethodName)) hown (mvT hZ (tw hw 48 rfl)) (mvT hZ (tw hw 49 rfl)) (notFace_of_selects (args := #[]) (mvT hZ (tw hw 51 rfl))) (mvT hZ (tw hw 51 rfl)) (mvT hZ (tw hw 50 rfl)) (by decide) (backOf (W := 0) (rm_end l Z a0 hw [] r (cz - (1 : Int32)) o O (3 : Int32) h488 n0 z488 fo488 fO488 hrel488.2.2.2.2.2.2.2.2.1 hrel488.2.2.2.2.2.2.2.2.2) hZ (tw hw 52 rfl) (tw hw 3 rfl) (by decide) (by decide)) q489a q489c (g := (mkF m 400 #[.val (.int p0), .val (.int t0), .val (.int t1), .val (.int t2), .val (.int cz), .val (.int s0), .val (.int s1), .val (.int s2), .val (.ref sa), .val (.ref ta), .val (.ref r), .val (.int (own_below s0 s0 s1 s2)), .val (.int q1), .val (.int q2), .val (.int (1 : Int32))] [(.int (cz - (1 : Int32))), (.ref r)])) rfl (by rw [hml]; rfl) (Steps.refl _) (argsL := [(.int (cz - (1 : Int32)))]) (rest := []) (lenOf pd__28I_29I rfl) rfl (by show 2 * 0 + _ ≤ _; exact Nat.le_of_eq rfl) (hb hby at_400) (fun _ _ => ⟨rfl, e488, (by decide : 6 + 0 ≤ _), (by decide : 20 + 0 ≤ _)⟩)
    dsimp only [Pt.U, Pt.locs, Pt.cells, Pt.slots] at X489 l489 y489 z489 st489 hQ489
    subst l489 y489 z489
    obtain ⟨rfl, N489q, eh489⟩ := hQ489
    have N489 := Fr.app N488 N489q
    refine Go.via (fun _ kQ => st489.trans kQ) ?_
    clear st489
    have e489 : T489.heap = h488 := eh489
    clear X488 e488
    show Go p e below (T489.setTop (mkF m 403 #[.val (.int p0), .val (.int t0), .val (.int t1), .val (.int t2), .val (.int cz), .val (.int s0), .val (.int s1), .val (.int s2), .val (.ref sa), .val (.ref ta), .val (.ref r), .val (.int (own_below s0 s0 s1 s2)), .val (.int q1), .val (.int q2), .val (.int (1 : Int32))] [(.int (3 : Int32))])) _
    refine Go.via (fun _ => XS.iconst X489.here hx rfl (hb hby at_403)) ?_
    refine Go.via (fun _ => XS.icmpNo X489.here hx rfl (hb hby at_404) rfl (teq ((by decide) : (3 : Int32) = (3 : Int32))).2) ?_
    show Go p e below (T489.setTop (mkF m 407 #[.val (.int p0), .val (.int t0), .val (.int t1), .val (.int t2), .val (.int cz), .val (.int s0), .val (.int s1), .val (.int s2), .val (.ref sa), .val (.ref ta), .val (.ref r), .val (.int (own_below s0 s0 s1 s2)), .val (.int q1), .val (.int q2), .val (.int (1 : Int32))] [])) _
    refine Go.via (fun _ => XS.iconst X489.here hx rfl (hb hby at_407)) ?_
    refine Go.via (fun _ => XS.goto X489.here hx rfl (pc0 := 408) (pc' := 412) rfl (hb hby at_408) (by decide) (by decide)) ?_
    refine Go.via (fun _ => XS.istore X489.here hx rfl (hb hby at_412) rfl (l' := #[.val (.int p0), .val (.int t0), .val (.int t1), .val (.int t2), .val (.int cz), .val (.int s0), .val (.int s1), .val (.int s2), .val (.ref sa), .val (.ref ta), .val (.ref r), .val (.int (own_below s0 s0 s1 s2)), .val (.int q1), .val (.int q2), .val (.int (1 : Int32))]) rfl) ?_
    show Go p e below (T489.setTop (mkF m 414 #[.val (.int p0), .val (.int t0), .val (.int t1), .val (.int t2), .val (.int cz), .val (.int s0), .val (.int s1), .val (.int s2), .val (.ref sa), .val (.ref ta), .val (.ref r), .val (.int (own_below s0 s0 s1 s2)), .val (.int q1), .val (.int q2), .val (.int (1 : Int32))] [])) _
    refine Go.via (fun _ => XS.iload X489.here hx rfl (hb hby at_414) rfl) ?_
    refine Go.via (fun _ => XS.ifNo X489.here hx rfl (hb hby at_416) rfl ((if0 _ _).trans (feq ((by decide) : ¬ ((1 : Int32) = (0 : Int32)))).1)) ?_
    show Go p e below (T489.setTop (mkF m 419 #[.val (.int p0), .val (.int t0), .val (.int t1), .val (.int t2), .val (.int cz), .val (.int s0), .val (.int s1), .val (.int s2), .val (.ref sa), .val (.ref ta), .val (.ref r), .val (.int (own_below s0 s0 s1 s2)), .val (.int q1), .val (.int q2), .val (.int (1 : Int32))] [])) _
    refine Go.via (fun _ => XS.aload X489.here hx rfl (hb hby at_419) rfl rfl) ?_
    refine Go.via (fun _ => XS.iconst X489.here hx rfl (hb hby at_421)) ?_
    refine Go.via (ldI X489 hx hZ e489 fs488 (v := s0) (by decide) rfl (g := (mkF m 422 #[.val (.int p0), .val (.int t0), .val (.int t1), .val (.int t2), .val (.int cz), .val (.int s0), .val (.int s1), .val (.int s2), .val (.ref sa), .val (.ref ta), .val (.ref r), .val (.int (own_below s0 s0 s1 s2)), .val (.int q1), .val (.int q2), .val (.int (1 : Int32))] [(.int (0 : Int32)), (.ref sa)])) rfl rfl (hb hby at_422)) ?_
    show Go p e below (T489.setTop (mkF m 423 #[.val (.int p0), .val (.int t0), .val (.int t1), .val (.int t2), .val (.int cz), .val (.int s0), .val (.int s1), .val (.int s2), .val (.ref sa), .val (.ref ta), .val (.ref r), .val (.int (own_below s0 s0 s1 s2)), .val (.int q1), .val (.int q2), .val (.int (1 : Int32))] [(.int s0)])) _
    refine Go.via (fun _ => XS.iload X489.here hx rfl (hb hby at_423) rfl) ?_
    refine Go.via (fun _ => XS.icmpNo X489.here hx rfl (hb hby at_425) rfl (teq (rfl : s0 = s0)).2) ?_
    show Go p e below (T489.setTop (mkF m 428 #[.val (.int p0), .val (.int t0), .val (.int t1), .val (.int t2), .val (.int cz), .val (.int s0), .val (.int s1), .val (.int s2), .val (.ref sa), .val (.ref ta), .val (.ref r), .val (.int (own_below s0 s0 s1 s2)), .val (.int q1), .val (.int q2), .val (.int (1 : Int32))] [])) _
    refine Go.via (fun _ => XS.aload X489.here hx rfl (hb hby at_428) rfl rfl) ?_
    refine Go.via (fun _ => XS.iconst X489.here hx rfl (hb hby at_430)) ?_
    refine Go.via (ldI X489 hx hZ e489 fs488 (v := s1) (by decide) rfl (g := (mkF m 431 #[.val (.int p0), .val (.int t0), .val (.int t1), .val (.int t2), .val (.int cz), .val (.int s0), .val (.int s1), .val (.int s2), .val (.ref sa), .val (.ref ta), .val (.ref r), .val (.int (own_below s0 s0 s1 s2)), .val (.int q1), .val (.int q2), .val (.int (1 : Int32))] [(.int (1 : Int32)), (.ref sa)])) rfl rfl (hb hby at_431)) ?_
    show Go p e below (T489.setTop (mkF m 432 #[.val (.int p0), .val (.int t0), .val (.int t1), .val (.int t2), .val (.int cz), .val (.int s0), .val (.int s1), .val (.int s2), .val (.ref sa), .val (.ref ta), .val (.ref r), .val (.int (own_below s0 s0 s1 s2)), .val (.int q1), .val (.int q2), .val (.int (1 : Int32))] [(.int s1)])) _
    refine Go.via (fun _ => XS.iload X489.here hx rfl (hb hby at_432) rfl) ?_
    refine Go.via (fun _ => XS.icmpNo X489.here hx rfl (hb hby at_434) rfl (teq (rfl : s1 = s1)).2) ?_
    show Go p e below (T489.setTop (mkF m 437 #[.val (.int p0), .val (.int t0), .val (.int t1), .val (.int t2), .val (.int cz), .val (.int s0), .val (.int s1), .val (.int s2), .val (.ref sa), .val (.ref ta), .val (.ref r), .val (.int (own_below s0 s0 s1 s2)), .val (.int q1), .val (.int q2), .val (.int (1 : Int32))] [])) _
    refine Go.via (fun _ => XS.aload X489.here hx rfl (hb hby at_437) rfl rfl) ?_
    refine Go.via (fun _ => XS.iconst X489.here hx rfl (hb hby at_439)) ?_
    refine Go.via (ldI X489 hx hZ e489 fs488 (v := s2) (by decide) rfl (g := (mkF m 440 #[.val (.int p0), .val (.int t0), .val (.int t1), .val (.int t2), .val (.int cz), .val (.int s0), .val (.int s1), .val (.int s2), .val (.ref sa), .val (.ref ta), .val (.ref r), .val (.int (own_below s0 s0 s1 s2)), .val (.int q1), .val (.int q2), .val (.int (1 : Int32))] [(.int (2 : Int32)), (.ref sa)])) rfl rfl (hb hby at_440)) ?_
    show Go p e below (T489.setTop (mkF m 441 #[.val (.int p0), .val (.int t0), .val (.int t1), .val (.int t2), .val (.int cz), .val (.int s0), .val (.int s1), .val (.int s2), .val (.ref sa), .val (.ref ta), .val (.ref r), .val (.int (own_below s0 s0 s1 s2)), .val (.int q1), .val (.int q2), .val (.int (1 : Int32))] [(.int s2)])) _
    refine Go.via (fun _ => XS.iload X489.here hx rfl (hb hby at_441) rfl) ?_
    refine Go.via (fun _ => XS.icmpNo X489.here hx rfl (hb hby at_443) rfl (teq (rfl : s2 = s2)).2) ?_
    show Go p e below (T489.setTop (mkF m 446 #[.val (.int p0), .val (.int t0), .val (.int t1), .val (.int t2), .val (.int cz), .val (.int s0), .val (.int s1), .val (.int s2), .val (.ref sa), .val (.ref ta), .val (.ref r), .val (.int (own_below s0 s0 s1 s2)), .val (.int q1), .val (.int q2), .val (.int (1 : Int32))] [])) _
    refine Go.via (fun _ => XS.iconst X489.here hx rfl (hb hby at_446)) ?_
    refine Go.via (fun _ => XS.goto X489.here hx rfl (pc0 := 447) (pc' := 451) rfl (hb hby at_447) (by decide) (by decide)) ?_
    refine Go.via (fun _ => XS.istore X489.here hx rfl (hb hby at_451) rfl (l' := #[.val (.int p0), .val (.int t0), .val (.int t1), .val (.int t2), .val (.int cz), .val (.int s0), .val (.int s1), .val (.int s2), .val (.ref sa), .val (.ref ta), .val (.ref r), .val (.int (own_below s0 s0 s1 s2)), .val (.int q1), .val (.int q2), .val (.int (1 : Int32))]) rfl) ?_
    show Go p e below (T489.setTop (mkF m 453 #[.val (.int p0), .val (.int t0), .val (.int t1), .val (.int t2), .val (.int cz), .val (.int s0), .val (.int s1), .val (.int s2), .val (.ref sa), .val (.ref ta), .val (.ref r), .val (.int (own_below s0 s0 s1 s2)), .val (.int q1), .val (.int q2), .val (.int (1 : Int32))] [])) _
    refine Go.via (fun _ => XS.iload X489.here hx rfl (hb hby at_453) rfl) ?_
    refine Go.via (fun _ => XS.ifNo X489.here hx rfl (hb hby at_455) rfl ((if0 _ _).trans (feq ((by decide) : ¬ ((1 : Int32) = (0 : Int32)))).1)) ?_
    show Go p e below (T489.setTop (mkF m 458 #[.val (.int p0), .val (.int t0), .val (.int t1), .val (.int t2), .val (.int cz), .val (.int s0), .val (.int s1), .val (.int s2), .val (.ref sa), .val (.ref ta), .val (.ref r), .val (.int (own_below s0 s0 s1 s2)), .val (.int q1), .val (.int q2), .val (.int (1 : Int32))] [])) _
    refine Go.via (fun _ => XS.aload X489.here hx rfl (hb hby at_458) rfl rfl) ?_
    refine Go.via (fun _ => XS.iconst X489.here hx rfl (hb hby at_460)) ?_
    refine Go.via (ldI X489 hx hZ e489 ft488 (v := t0) (by decide) rfl (g := (mkF m 461 #[.val (.int p0), .val (.int t0), .val (.int t1), .val (.int t2), .val (.int cz), .val (.int s0), .val (.int s1), .val (.int s2), .val (.ref sa), .val (.ref ta), .val (.ref r), .val (.int (own_below s0 s0 s1 s2)), .val (.int q1), .val (.int q2), .val (.int (1 : Int32))] [(.int (0 : Int32)), (.ref ta)])) rfl rfl (hb hby at_461)) ?_
    show Go p e below (T489.setTop (mkF m 462 #[.val (.int p0), .val (.int t0), .val (.int t1), .val (.int t2), .val (.int cz), .val (.int s0), .val (.int s1), .val (.int s2), .val (.ref sa), .val (.ref ta), .val (.ref r), .val (.int (own_below s0 s0 s1 s2)), .val (.int q1), .val (.int q2), .val (.int (1 : Int32))] [(.int t0)])) _
    refine Go.via (fun _ => XS.iloadN X489.here hx rfl (hb hby at_462) rfl) ?_
    refine Go.via (fun _ => XS.icmpNo X489.here hx rfl (hb hby at_463) rfl (teq (rfl : t0 = t0)).2) ?_
    show Go p e below (T489.setTop (mkF m 466 #[.val (.int p0), .val (.int t0), .val (.int t1), .val (.int t2), .val (.int cz), .val (.int s0), .val (.int s1), .val (.int s2), .val (.ref sa), .val (.ref ta), .val (.ref r), .val (.int (own_below s0 s0 s1 s2)), .val (.int q1), .val (.int q2), .val (.int (1 : Int32))] [])) _
    refine Go.via (fun _ => XS.aload X489.here hx rfl (hb hby at_466) rfl rfl) ?_
    refine Go.via (fun _ => XS.iconst X489.here hx rfl (hb hby at_468)) ?_
    refine Go.via (ldI X489 hx hZ e489 ft488 (v := t1) (by decide) rfl (g := (mkF m 469 #[.val (.int p0), .val (.int t0), .val (.int t1), .val (.int t2), .val (.int cz), .val (.int s0), .val (.int s1), .val (.int s2), .val (.ref sa), .val (.ref ta), .val (.ref r), .val (.int (own_below s0 s0 s1 s2)), .val (.int q1), .val (.int q2), .val (.int (1 : Int32))] [(.int (1 : Int32)), (.ref ta)])) rfl rfl (hb hby at_469)) ?_
    show Go p e below (T489.setTop (mkF m 470 #[.val (.int p0), .val (.int t0), .val (.int t1), .val (.int t2), .val (.int cz), .val (.int s0), .val (.int s1), .val (.int s2), .val (.ref sa), .val (.ref ta), .val (.ref r), .val (.int (own_below s0 s0 s1 s2)), .val (.int q1), .val (.int q2), .val (.int (1 : Int32))] [(.int t1)])) _
    refine Go.via (fun _ => XS.iloadN X489.here hx rfl (hb hby at_470) rfl) ?_
    refine Go.via (fun _ => XS.icmpNo X489.here hx rfl (hb hby at_471) rfl (teq (rfl : t1 = t1)).2) ?_
    show Go p e below (T489.setTop (mkF m 474 #[.val (.int p0), .val (.int t0), .val (.int t1), .val (.int t2), .val (.int cz), .val (.int s0), .val (.int s1), .val (.int s2), .val (.ref sa), .val (.ref ta), .val (.ref r), .val (.int (own_below s0 s0 s1 s2)), .val (.int q1), .val (.int q2), .val (.int (1 : Int32))] [])) _
    refine Go.via (fun _ => XS.aload X489.here hx rfl (hb hby at_474) rfl rfl) ?_
    refine Go.via (fun _ => XS.iconst X489.here hx rfl (hb hby at_476)) ?_
    refine Go.via (ldI X489 hx hZ e489 ft488 (v := t2) (by decide) rfl (g := (mkF m 477 #[.val (.int p0), .val (.int t0), .val (.int t1), .val (.int t2), .val (.int cz), .val (.int s0), .val (.int s1), .val (.int s2), .val (.ref sa), .val (.ref ta), .val (.ref r), .val (.int (own_below s0 s0 s1 s2)), .val (.int q1), .val (.int q2), .val (.int (1 : Int32))] [(.int (2 : Int32)), (.ref ta)])) rfl rfl (hb hby at_477)) ?_
    show Go p e below (T489.setTop (mkF m 478 #[.val (.int p0), .val (.int t0), .val (.int t1), .val (.int t2), .val (.int cz), .val (.int s0), .val (.int s1), .val (.int s2), .val (.ref sa), .val (.ref ta), .val (.ref r), .val (.int (own_below s0 s0 s1 s2)), .val (.int q1), .val (.int q2), .val (.int (1 : Int32))] [(.int t2)])) _
    refine Go.via (fun _ => XS.iloadN X489.here hx rfl (hb hby at_478) rfl) ?_
    refine Go.via (fun _ => XS.icmpNo X489.here hx rfl (hb hby at_479) rfl (teq (rfl : t2 = t2)).2) ?_
    show Go p e below (T489.setTop (mkF m 482 #[.val (.int p0), .val (.int t0), .val (.int t1), .val (.int t2), .val (.int cz), .val (.int s0), .val (.int s1), .val (.int s2), .val (.ref sa), .val (.ref ta), .val (.ref r), .val (.int (own_below s0 s0 s1 s2)), .val (.int q1), .val (.int q2), .val (.int (1 : Int32))] [])) _
    refine Go.via (fun _ => XS.iconst X489.here hx rfl (hb hby at_482)) ?_
    refine Go.via (fun _ => XS.goto X489.here hx rfl (pc0 := 483) (pc' := 487) rfl (hb hby at_483) (by decide) (by decide)) ?_
    refine Go.via (fun _ => XS.istore X489.here hx rfl (hb hby at_487) rfl (l' := #[.val (.int p0), .val (.int t0), .val (.int t1), .val (.int t2), .val (.int cz), .val (.int s0), .val (.int s1), .val (.int s2), .val (.ref sa), .val (.ref ta), .val (.ref r), .val (.int (own_below s0 s0 s1 s2)), .val (.int q1), .val (.int q2), .val (.int (1 : Int32))]) rfl) ?_
    show Go p e below (T489.setTop (mkF m 489 #[.val (.int p0), .val (.int t0), .val (.int t1), .val (.int t2), .val (.int cz), .val (.int s0), .val (.int s1), .val (.int s2), .val (.ref sa), .val (.ref ta), .val (.ref r), .val (.int (own_below s0 s0 s1 s2)), .val (.int q1), .val (.int q2), .val (.int (1 : Int32))] [])) _
    refine Go.via (fun _ => XS.iload X489.here hx rfl (hb hby at_489) rfl) ?_
    exact Go.fin X489 hlk (v := some (.int (1 : Int32))) (fun h => by rw [Bd.returns] at h; cases h) (fun fs hr => retN X489 hx (t := .boolean) Bd.returns (by simp) (hb hby at_491) hr) (by rw [e489]; exact ⟨rfl, N489, k488⟩) (by decide) (by decide)
  have J3 : ∀ (T490 : State) (L490 : List Loc) (h490 : Heap) (cz : Int32) (s0 : Int32) (s1 : Int32) (s2 : Int32) (sa : Addr) (ta : Addr) (r : Addr) (q1 : Int32) (q2 : Int32) (o : Addr) (d : Addr) (O : List Int32) (E_ : List Int32), Stand p l e room_1 s m #[(.int p0), (.int t0), (.int t1), (.int t2)] below meth c T490 L490 6 20 → T490.heap = h490 → Fr n0 L490 → n0 ≤ h490.size → Keep h0 h490 [] → Ia Z h490 sa .int [s0, s1, s2] → Ia Z h490 ta .int [t0, t1, t2] → Exa Z h490 r "com/example/acquaint/acquaint/query/Adjacency" → Fld Z h490 r "com/example/acquaint/acquaint/query/Adjacency" "offsets" "[I" (.ref o) → Fld Z h490 r "com/example/acquaint/acquaint/query/Adjacency" "targets" "[I" (.ref d) → Ia Z h490 o .int O → Ia Z h490 d .int E_ → own_rel cz s0 s1 s2 t0 t1 t2 O E_ → Go p e below (T490.setTop (mkF m 352 #[.val (.int p0), .val (.int t0), .val (.int t1), .val (.int t2), .val (.int cz), .val (.int s0), .val (.int s1), .val (.int s2), .val (.ref sa), .val (.ref ta), .val (.ref r), .val (.int (own_below s0 s0 s1 s2)), .val (.int q1), .val (.int q2), .val (.int (1 : Int32))] [])) (Done s (Q_rm0 Z p0 t0 t1 t2 h0 n0) room_1.cells room_1.slots) := by
    intro T490 L490 h490 cz s0 s1 s2 sa ta r q1 q2 o d O E_ X490 e490 N490 z490 k490 fs490 ft490 fE490 fo490 fd490 fO490 fX490 hrel490
    show Go p e below (T490.setTop (mkF m 352 #[.val (.int p0), .val (.int t0), .val (.int t1), .val (.int t2), .val (.int cz), .val (.int s0), .val (.int s1), .val (.int s2), .val (.ref sa), .val (.ref ta), .val (.ref r), .val (.int (own_below s0 s0 s1 s2)), .val (.int q1), .val (.int q2), .val (.int (1 : Int32))] [])) _
    refine Go.via (fun _ => XS.iload X490.here hx rfl (hb hby at_352) rfl) ?_
    refine Go.via (fun _ => XS.iconst X490.here hx rfl (hb hby at_354)) ?_
    by_cases hc491 : (3 : Int32) < cz
    · refine Go.via (fun _ => XS.icmpNo X490.here hx rfl (hb hby at_355) rfl (tlt (hc491 : (3 : Int32) < cz)).2.2.2) ?_
      refine Go.via (fun _ => XS.iload X490.here hx rfl (hb hby at_358) rfl) ?_
      refine Go.via (fun _ => XS.ifNo X490.here hx rfl (hb hby at_360) rfl ((if0 _ _).trans (feq ((by decide) : ¬ ((1 : Int32) = (0 : Int32)))).1)) ?_
      show Go p e below (T490.setTop (mkF m 363 #[.val (.int p0), .val (.int t0), .val (.int t1), .val (.int t2), .val (.int cz), .val (.int s0), .val (.int s1), .val (.int s2), .val (.ref sa), .val (.ref ta), .val (.ref r), .val (.int (own_below s0 s0 s1 s2)), .val (.int q1), .val (.int q2), .val (.int (1 : Int32))] [])) _
      refine Go.via (fun _ => XS.aload X490.here hx rfl (hb hby at_363) rfl rfl) ?_
      refine Go.via (fun _ => XS.iconst X490.here hx rfl (hb hby at_365)) ?_
      obtain ⟨cq492, kq492, q492a, q492b, q492c⟩ := isOf hZ e490 fE490
      obtain ⟨_, _, ⟨T492, L492, k492, n492⟩, -, X492, ⟨Lc492, hQ492, l492, y492, z492⟩, st492⟩ := X490.virtualBack hx (y := (⟨"com/example/acquaint/acquaint/query/Adjacency", "start", "(I)I"⟩ : MethodName)) (z := (⟨"com/example/acquaint/acquaint/query/Adjacency", "start", "(I)I"⟩ : MethodName)) hown (mvT hZ (tw hw 43 rfl)) (mvT hZ (tw hw 44 rfl)) (notFace_of_selects (args := #[]) (mvT hZ (tw hw 46 rfl))) (mvT hZ (tw hw 46 rfl)) (mvT hZ (tw hw 45 rfl)) (by decide) (backOf (W := 0) (rm_start l Z a0 hw [] r (3 : Int32) o O (own_below (3 : Int32) s0 s1 s2) h490 n0 z490 fo490 fO490 (by decide) (hrel490.2.2.2.2.2.2.2.1 (by assumption))) hZ (tw hw 47 rfl) (tw hw 3 rfl) (by decide) (by decide)) q492a q492c (g := (mkF m 366 #[.val (.int p0), .val (.int t0), .val (.int t1), .val (.int t2), .val (.int cz), .val (.int s0), .val (.int s1), .val (.int s2), .val (.ref sa), .val (.ref ta), .val (.ref r), .val (.int (own_below s0 s0 s1 s2)), .val (.int q1), .val (.int q2), .val (.int (1 : Int32))] [(.int (3 : Int32)), (.ref r)])) rfl (by rw [hml]; rfl) (Steps.refl _) (argsL := [(.int (3 : Int32))]) (rest := []) (lenOf pd__28I_29I rfl) rfl (by show 2 * 0 + _ ≤ _; exact Nat.le_of_eq rfl) (hb hby at_366) (fun _ _ => ⟨rfl, e490, (by decide : 6 + 0 ≤ _), (by decide : 20 + 0 ≤ _)⟩)
      dsimp only [Pt.U, Pt.locs, Pt.cells, Pt.slots] at X492 l492 y492 z492 st492 hQ492
      subst l492 y492 z492
      obtain ⟨rfl, N492q, eh492⟩ := hQ492
      have N492 := Fr.app N490 N492q
      refine Go.via (fun _ kQ => st492.trans kQ) ?_
      clear st492
      have e492 : T492.heap = h490 := eh492
      clear X490 e490
      show Go p e below (T492.setTop (mkF m 369 #[.val (.int p0), .val (.int t0), .val (.int t1), .val (.int t2), .val (.int cz), .val (.int s0), .val (.int s1), .val (.int s2), .val (.ref sa), .val (.ref ta), .val (.ref r), .val (.int (own_below s0 s0 s1 s2)), .val (.int q1), .val (.int q2), .val (.int (1 : Int32))] [(.int (own_below (3 : Int32) s0 s1 s2))])) _
      refine Go.via (fun _ => XS.iconst X492.here hx rfl (hb hby at_369)) ?_
      refine Go.via (fun _ => XS.iload X492.here hx rfl (hb hby at_370) rfl) ?_
      refine Go.via (fun _ => XS.iload X492.here hx rfl (hb hby at_372) rfl) ?_
      refine Go.via (fun _ => XS.iload X492.here hx rfl (hb hby at_374) rfl) ?_
      show Go p e below (T492.setTop (mkF m 376 #[.val (.int p0), .val (.int t0), .val (.int t1), .val (.int t2), .val (.int cz), .val (.int s0), .val (.int s1), .val (.int s2), .val (.ref sa), .val (.ref ta), .val (.ref r), .val (.int (own_below s0 s0 s1 s2)), .val (.int q1), .val (.int q2), .val (.int (1 : Int32))] [(.int s2), (.int s1), (.int s0), (.int (3 : Int32)), (.int (own_below (3 : Int32) s0 s1 s2))])) _
      obtain ⟨_, _, ⟨T493, L493, k493, n493⟩, -, X493, ⟨Lc493, hQ493, l493, y493, z493⟩, st493⟩ := Jvm.LawKit.callS X492 hx (y := (⟨"com/example/acquaint/acquaint/query/AdjacencyOfPinLaw", "below", "(IIII)I"⟩ : MethodName)) hown (mvT hZ (tw hw 29 rfl)) (mvT hZ (tw hw 30 rfl)) (mvT hZ (tw hw 31 rfl)) (mvT hZ (tw hw 32 rfl)) (by decide) (backOf (W := 1) (rmW l Z a0 hw [] (3 : Int32) s0 s1 s2  h490 n0 z490) hZ (tw hw 32 rfl) (tw hw 31 rfl) (by decide) (by decide)) (g := (mkF m 376 #[.val (.int p0), .val (.int t0), .val (.int t1), .val (.int t2), .val (.int cz), .val (.int s0), .val (.int s1), .val (.int s2), .val (.ref sa), .val (.ref ta), .val (.ref r), .val (.int (own_below s0 s0 s1 s2)), .val (.int q1), .val (.int q2), .val (.int (1 : Int32))] [(.int s2), (.int s1), (.int s0), (.int (3 : Int32)), (.int (own_below (3 : Int32) s0 s1 s2))])) rfl (by rw [hml]; rfl) (argsL := [(.int (3 : Int32)), (.int s0), (.int s1), (.int s2)]) (rest := [(.int (own_below (3 : Int32) s0 s1 s2))]) (lenOf pd__28IIII_29I rfl) rfl (by show 2 * 0 + _ ≤ _; exact Nat.le_of_eq rfl) (hb hby at_376) (fun _ _ => ⟨rfl, e492, (by decide : 6 + 0 ≤ _), (by decide : 20 + 0 ≤ _)⟩)
      dsimp only [Pt.U, Pt.locs, Pt.cells, Pt.slots] at X493 l493 y493 z493 st493 hQ493
      subst l493 y493 z493
      obtain ⟨rfl, N493q, eh493⟩ := hQ493
      have N493 := Fr.app N492 N493q
      refine Go.via (st493) ?_
      clear st493
      have e493 : T493.heap = h490 := eh493
      clear X492 e492
      show Go p e below (T493.setTop (mkF m 379 #[.val (.int p0), .val (.int t0), .val (.int t1), .val (.int t2), .val (.int cz), .val (.int s0), .val (.int s1), .val (.int s2), .val (.ref sa), .val (.ref ta), .val (.ref r), .val (.int (own_below s0 s0 s1 s2)), .val (.int q1), .val (.int q2), .val (.int (1 : Int32))] [(.int (own_below (3 : Int32) s0 s1 s2)), (.int (own_below (3 : Int32) s0 s1 s2))])) _
      refine Go.via (fun _ => XS.icmpNo X493.here hx rfl (hb hby at_379) rfl (teq (rfl : (own_below (3 : Int32) s0 s1 s2) = (own_below (3 : Int32) s0 s1 s2))).2) ?_
      show Go p e below (T493.setTop (mkF m 382 #[.val (.int p0), .val (.int t0), .val (.int t1), .val (.int t2), .val (.int cz), .val (.int s0), .val (.int s1), .val (.int s2), .val (.ref sa), .val (.ref ta), .val (.ref r), .val (.int (own_below s0 s0 s1 s2)), .val (.int q1), .val (.int q2), .val (.int (1 : Int32))] [])) _
      refine Go.via (fun _ => XS.iconst X493.here hx rfl (hb hby at_382)) ?_
      refine Go.via (fun _ => XS.goto X493.here hx rfl (pc0 := 383) (pc' := 387) rfl (hb hby at_383) (by decide) (by decide)) ?_
      refine Go.via (fun _ => XS.istore X493.here hx rfl (hb hby at_387) rfl (l' := #[.val (.int p0), .val (.int t0), .val (.int t1), .val (.int t2), .val (.int cz), .val (.int s0), .val (.int s1), .val (.int s2), .val (.ref sa), .val (.ref ta), .val (.ref r), .val (.int (own_below s0 s0 s1 s2)), .val (.int q1), .val (.int q2), .val (.int (1 : Int32))]) rfl) ?_
      exact J4 T493 _ h490 cz s0 s1 s2 sa ta r q1 q2 o d O E_ X493 e493 N493 z490 k490 fs490 ft490 fE490 fo490 fd490 fO490 fX490 hrel490
    · refine Go.via (fun _ => XS.icmpYes X490.here hx rfl (pc0 := 355) (pc' := 389) rfl (hb hby at_355) rfl (flt (hc491 : ¬ ((3 : Int32) < cz))).2.2.2 (by decide) (by decide)) ?_
      exact J4 T490 _ h490 cz s0 s1 s2 sa ta r q1 q2 o d O E_ X490 e490 N490 z490 k490 fs490 ft490 fE490 fo490 fd490 fO490 fX490 hrel490
  have J2 : ∀ (T494 : State) (L494 : List Loc) (h494 : Heap) (cz : Int32) (s0 : Int32) (s1 : Int32) (s2 : Int32) (sa : Addr) (ta : Addr) (r : Addr) (q1 : Int32) (q2 : Int32) (o : Addr) (d : Addr) (O : List Int32) (E_ : List Int32), Stand p l e room_1 s m #[(.int p0), (.int t0), (.int t1), (.int t2)] below meth c T494 L494 6 20 → T494.heap = h494 → Fr n0 L494 → n0 ≤ h494.size → Keep h0 h494 [] → Ia Z h494 sa .int [s0, s1, s2] → Ia Z h494 ta .int [t0, t1, t2] → Exa Z h494 r "com/example/acquaint/acquaint/query/Adjacency" → Fld Z h494 r "com/example/acquaint/acquaint/query/Adjacency" "offsets" "[I" (.ref o) → Fld Z h494 r "com/example/acquaint/acquaint/query/Adjacency" "targets" "[I" (.ref d) → Ia Z h494 o .int O → Ia Z h494 d .int E_ → own_rel cz s0 s1 s2 t0 t1 t2 O E_ → Go p e below (T494.setTop (mkF m 315 #[.val (.int p0), .val (.int t0), .val (.int t1), .val (.int t2), .val (.int cz), .val (.int s0), .val (.int s1), .val (.int s2), .val (.ref sa), .val (.ref ta), .val (.ref r), .val (.int (own_below s0 s0 s1 s2)), .val (.int q1), .val (.int q2), .val (.int (1 : Int32))] [])) (Done s (Q_rm0 Z p0 t0 t1 t2 h0 n0) room_1.cells room_1.slots) := by
    intro T494 L494 h494 cz s0 s1 s2 sa ta r q1 q2 o d O E_ X494 e494 N494 z494 k494 fs494 ft494 fE494 fo494 fd494 fO494 fX494 hrel494
    show Go p e below (T494.setTop (mkF m 315 #[.val (.int p0), .val (.int t0), .val (.int t1), .val (.int t2), .val (.int cz), .val (.int s0), .val (.int s1), .val (.int s2), .val (.ref sa), .val (.ref ta), .val (.ref r), .val (.int (own_below s0 s0 s1 s2)), .val (.int q1), .val (.int q2), .val (.int (1 : Int32))] [])) _
    refine Go.via (fun _ => XS.iload X494.here hx rfl (hb hby at_315) rfl) ?_
    refine Go.via (fun _ => XS.iconst X494.here hx rfl (hb hby at_317)) ?_
    by_cases hc495 : (2 : Int32) < cz
    · refine Go.via (fun _ => XS.icmpNo X494.here hx rfl (hb hby at_318) rfl (tlt (hc495 : (2 : Int32) < cz)).2.2.2) ?_
      refine Go.via (fun _ => XS.iload X494.here hx rfl (hb hby at_321) rfl) ?_
      refine Go.via (fun _ => XS.ifNo X494.here hx rfl (hb hby at_323) rfl ((if0 _ _).trans (feq ((by decide) : ¬ ((1 : Int32) = (0 : Int32)))).1)) ?_
      show Go p e below (T494.setTop (mkF m 326 #[.val (.int p0), .val (.int t0), .val (.int t1), .val (.int t2), .val (.int cz), .val (.int s0), .val (.int s1), .val (.int s2), .val (.ref sa), .val (.ref ta), .val (.ref r), .val (.int (own_below s0 s0 s1 s2)), .val (.int q1), .val (.int q2), .val (.int (1 : Int32))] [])) _
      refine Go.via (fun _ => XS.aload X494.here hx rfl (hb hby at_326) rfl rfl) ?_
      refine Go.via (fun _ => XS.iconst X494.here hx rfl (hb hby at_328)) ?_
      obtain ⟨cq496, kq496, q496a, q496b, q496c⟩ := isOf hZ e494 fE494
      obtain ⟨_, _, ⟨T496, L496, k496, n496⟩, -, X496, ⟨Lc496, hQ496, l496, y496, z496⟩, st496⟩ := X494.virtualBack hx (y := (⟨"com/example/acquaint/acquaint/query/Adjacency", "start", "(I)I"⟩ : MethodName)) (z := (⟨"com/example/acquaint/acquaint/query/Adjacency", "start", "(I)I"⟩ : MethodName)) hown (mvT hZ (tw hw 43 rfl)) (mvT hZ (tw hw 44 rfl)) (notFace_of_selects (args := #[]) (mvT hZ (tw hw 46 rfl))) (mvT hZ (tw hw 46 rfl)) (mvT hZ (tw hw 45 rfl)) (by decide) (backOf (W := 0) (rm_start l Z a0 hw [] r (2 : Int32) o O (own_below (2 : Int32) s0 s1 s2) h494 n0 z494 fo494 fO494 (by decide) (hrel494.2.2.2.2.2.2.1 (by assumption))) hZ (tw hw 47 rfl) (tw hw 3 rfl) (by decide) (by decide)) q496a q496c (g := (mkF m 329 #[.val (.int p0), .val (.int t0), .val (.int t1), .val (.int t2), .val (.int cz), .val (.int s0), .val (.int s1), .val (.int s2), .val (.ref sa), .val (.ref ta), .val (.ref r), .val (.int (own_below s0 s0 s1 s2)), .val (.int q1), .val (.int q2), .val (.int (1 : Int32))] [(.int (2 : Int32)), (.ref r)])) rfl (by rw [hml]; rfl) (Steps.refl _) (argsL := [(.int (2 : Int32))]) (rest := []) (lenOf pd__28I_29I rfl) rfl (by show 2 * 0 + _ ≤ _; exact Nat.le_of_eq rfl) (hb hby at_329) (fun _ _ => ⟨rfl, e494, (by decide : 6 + 0 ≤ _), (by decide : 20 + 0 ≤ _)⟩)
      dsimp only [Pt.U, Pt.locs, Pt.cells, Pt.slots] at X496 l496 y496 z496 st496 hQ496
      subst l496 y496 z496
      obtain ⟨rfl, N496q, eh496⟩ := hQ496
      have N496 := Fr.app N494 N496q
      refine Go.via (fun _ kQ => st496.trans kQ) ?_
      clear st496
      have e496 : T496.heap = h494 := eh496
      clear X494 e494
      show Go p e below (T496.setTop (mkF m 332 #[.val (.int p0), .val (.int t0), .val (.int t1), .val (.int t2), .val (.int cz), .val (.int s0), .val (.int s1), .val (.int s2), .val (.ref sa), .val (.ref ta), .val (.ref r), .val (.int (own_below s0 s0 s1 s2)), .val (.int q1), .val (.int q2), .val (.int (1 : Int32))] [(.int (own_below (2 : Int32) s0 s1 s2))])) _
      refine Go.via (fun _ => XS.iconst X496.here hx rfl (hb hby at_332)) ?_
      refine Go.via (fun _ => XS.iload X496.here hx rfl (hb hby at_333) rfl) ?_
      refine Go.via (fun _ => XS.iload X496.here hx rfl (hb hby at_335) rfl) ?_
      refine Go.via (fun _ => XS.iload X496.here hx rfl (hb hby at_337) rfl) ?_
      show Go p e below (T496.setTop (mkF m 339 #[.val (.int p0), .val (.int t0), .val (.int t1), .val (.int t2), .val (.int cz), .val (.int s0), .val (.int s1), .val (.int s2), .val (.ref sa), .val (.ref ta), .val (.ref r), .val (.int (own_below s0 s0 s1 s2)), .val (.int q1), .val (.int q2), .val (.int (1 : Int32))] [(.int s2), (.int s1), (.int s0), (.int (2 : Int32)), (.int (own_below (2 : Int32) s0 s1 s2))])) _
      obtain ⟨_, _, ⟨T497, L497, k497, n497⟩, -, X497, ⟨Lc497, hQ497, l497, y497, z497⟩, st497⟩ := Jvm.LawKit.callS X496 hx (y := (⟨"com/example/acquaint/acquaint/query/AdjacencyOfPinLaw", "below", "(IIII)I"⟩ : MethodName)) hown (mvT hZ (tw hw 29 rfl)) (mvT hZ (tw hw 30 rfl)) (mvT hZ (tw hw 31 rfl)) (mvT hZ (tw hw 32 rfl)) (by decide) (backOf (W := 1) (rmW l Z a0 hw [] (2 : Int32) s0 s1 s2  h494 n0 z494) hZ (tw hw 32 rfl) (tw hw 31 rfl) (by decide) (by decide)) (g := (mkF m 339 #[.val (.int p0), .val (.int t0), .val (.int t1), .val (.int t2), .val (.int cz), .val (.int s0), .val (.int s1), .val (.int s2), .val (.ref sa), .val (.ref ta), .val (.ref r), .val (.int (own_below s0 s0 s1 s2)), .val (.int q1), .val (.int q2), .val (.int (1 : Int32))] [(.int s2), (.int s1), (.int s0), (.int (2 : Int32)), (.int (own_below (2 : Int32) s0 s1 s2))])) rfl (by rw [hml]; rfl) (argsL := [(.int (2 : Int32)), (.int s0), (.int s1), (.int s2)]) (rest := [(.int (own_below (2 : Int32) s0 s1 s2))]) (lenOf pd__28IIII_29I rfl) rfl (by show 2 * 0 + _ ≤ _; exact Nat.le_of_eq rfl) (hb hby at_339) (fun _ _ => ⟨rfl, e496, (by decide : 6 + 0 ≤ _), (by decide : 20 + 0 ≤ _)⟩)
      dsimp only [Pt.U, Pt.locs, Pt.cells, Pt.slots] at X497 l497 y497 z497 st497 hQ497
      subst l497 y497 z497
      obtain ⟨rfl, N497q, eh497⟩ := hQ497
      have N497 := Fr.app N496 N497q
      refine Go.via (st497) ?_
      clear st497
      have e497 : T497.heap = h494 := eh497
      clear X496 e496
      show Go p e below (T497.setTop (mkF m 342 #[.val (.int p0), .val (.int t0), .val (.int t1), .val (.int t2), .val (.int cz), .val (.int s0), .val (.int s1), .val (.int s2), .val (.ref sa), .val (.ref ta), .val (.ref r), .val (.int (own_below s0 s0 s1 s2)), .val (.int q1), .val (.int q2), .val (.int (1 : Int32))] [(.int (own_below (2 : Int32) s0 s1 s2)), (.int (own_below (2 : Int32) s0 s1 s2))])) _
      refine Go.via (fun _ => XS.icmpNo X497.here hx rfl (hb hby at_342) rfl (teq (rfl : (own_below (2 : Int32) s0 s1 s2) = (own_below (2 : Int32) s0 s1 s2))).2) ?_
      show Go p e below (T497.setTop (mkF m 345 #[.val (.int p0), .val (.int t0), .val (.int t1), .val (.int t2), .val (.int cz), .val (.int s0), .val (.int s1), .val (.int s2), .val (.ref sa), .val (.ref ta), .val (.ref r), .val (.int (own_below s0 s0 s1 s2)), .val (.int q1), .val (.int q2), .val (.int (1 : Int32))] [])) _
      refine Go.via (fun _ => XS.iconst X497.here hx rfl (hb hby at_345)) ?_
      refine Go.via (fun _ => XS.goto X497.here hx rfl (pc0 := 346) (pc' := 350) rfl (hb hby at_346) (by decide) (by decide)) ?_
      refine Go.via (fun _ => XS.istore X497.here hx rfl (hb hby at_350) rfl (l' := #[.val (.int p0), .val (.int t0), .val (.int t1), .val (.int t2), .val (.int cz), .val (.int s0), .val (.int s1), .val (.int s2), .val (.ref sa), .val (.ref ta), .val (.ref r), .val (.int (own_below s0 s0 s1 s2)), .val (.int q1), .val (.int q2), .val (.int (1 : Int32))]) rfl) ?_
      exact J3 T497 _ h494 cz s0 s1 s2 sa ta r q1 q2 o d O E_ X497 e497 N497 z494 k494 fs494 ft494 fE494 fo494 fd494 fO494 fX494 hrel494
    · refine Go.via (fun _ => XS.icmpYes X494.here hx rfl (pc0 := 318) (pc' := 352) rfl (hb hby at_318) rfl (flt (hc495 : ¬ ((2 : Int32) < cz))).2.2.2 (by decide) (by decide)) ?_
      exact J3 T494 _ h494 cz s0 s1 s2 sa ta r q1 q2 o d O E_ X494 e494 N494 z494 k494 fs494 ft494 fE494 fo494 fd494 fO494 fX494 hrel494
  show Go p e below (s₁.setTop (mkF m 0 #[.val (.int p0), .val (.int t0), .val (.int t1), .val (.int t2), .unset, .unset, .unset, .unset, .unset, .unset, .unset, .unset, .unset, .unset, .unset] [])) _
  refine Go.via (fun _ => XS.iconst X0.here hx rfl (hb hby at_0)) ?_
  refine Go.via (fun _ => XS.iloadN X0.here hx rfl (hb hby at_1) rfl) ?_
  refine Go.via (fun _ => XS.bipush X0.here hx rfl (hb hby at_2)) ?_
  refine Go.via (fun _ => XS.iushr X0.here hx rfl (hb hby at_4) rfl) ?_
  show Go p e below (s₁.setTop (mkF m 5 #[.val (.int p0), .val (.int t0), .val (.int t1), .val (.int t2), .unset, .unset, .unset, .unset, .unset, .unset, .unset, .unset, .unset, .unset, .unset] [(.int ((p0.toUInt32 >>> ((24 : Int32) &&& 31).toUInt32).toInt32)), (.int (1 : Int32))])) _
  refine Go.via (fun _ => XS.iconst X0.here hx rfl (hb hby at_5)) ?_
  refine Go.via (fun _ => XS.iand X0.here hx rfl (hb hby at_6) rfl) ?_
  show Go p e below (s₁.setTop (mkF m 7 #[.val (.int p0), .val (.int t0), .val (.int t1), .val (.int t2), .unset, .unset, .unset, .unset, .unset, .unset, .unset, .unset, .unset, .unset, .unset] [(.int (((p0.toUInt32 >>> ((24 : Int32) &&& 31).toUInt32).toInt32) &&& (3 : Int32))), (.int (1 : Int32))])) _
  refine Go.via (fun _ => XS.iadd X0.here hx rfl (hb hby at_7) rfl) ?_
  show Go p e below (s₁.setTop (mkF m 8 #[.val (.int p0), .val (.int t0), .val (.int t1), .val (.int t2), .unset, .unset, .unset, .unset, .unset, .unset, .unset, .unset, .unset, .unset, .unset] [(.int ((1 : Int32) + (((p0.toUInt32 >>> ((24 : Int32) &&& 31).toUInt32).toInt32) &&& (3 : Int32))))])) _
  obtain ⟨cz, hc0, hc⟩ := own_c4 p0
  rw [hc0]
  show Go p e below (s₁.setTop (mkF m 8 #[.val (.int p0), .val (.int t0), .val (.int t1), .val (.int t2), .unset, .unset, .unset, .unset, .unset, .unset, .unset, .unset, .unset, .unset, .unset] [(.int cz)])) _
  refine Go.via (fun _ => XS.istore X0.here hx rfl (hb hby at_8) rfl (l' := #[.val (.int p0), .val (.int t0), .val (.int t1), .val (.int t2), .val (.int cz), .unset, .unset, .unset, .unset, .unset, .unset, .unset, .unset, .unset, .unset]) rfl) ?_
  show Go p e below (s₁.setTop (mkF m 10 #[.val (.int p0), .val (.int t0), .val (.int t1), .val (.int t2), .val (.int cz), .unset, .unset, .unset, .unset, .unset, .unset, .unset, .unset, .unset, .unset] [])) _
  refine Go.via (fun _ => XS.iloadN X0.here hx rfl (hb hby at_10) rfl) ?_
  refine Go.via (fun _ => XS.sipush X0.here hx rfl (hb hby at_11)) ?_
  refine Go.via (fun _ => XS.iand X0.here hx rfl (hb hby at_14) rfl) ?_
  show Go p e below (s₁.setTop (mkF m 15 #[.val (.int p0), .val (.int t0), .val (.int t1), .val (.int t2), .val (.int cz), .unset, .unset, .unset, .unset, .unset, .unset, .unset, .unset, .unset, .unset] [(.int (p0 &&& (255 : Int32)))])) _
  refine Go.via (fun _ => XS.iload X0.here hx rfl (hb hby at_15) rfl) ?_
  refine Go.via (fun _ => iremM X0 hx rfl (hb hby at_17) rfl (own_s p0 cz hc).1) ?_
  show Go p e below (s₁.setTop (mkF m 18 #[.val (.int p0), .val (.int t0), .val (.int t1), .val (.int t2), .val (.int cz), .unset, .unset, .unset, .unset, .unset, .unset, .unset, .unset, .unset, .unset] [(.int ((p0 &&& (255 : Int32)) % cz))])) _
  have hs0 := (own_s p0 cz hc).2
  generalize hv0 : ((p0 &&& (255 : Int32)) % cz) = s0 at hs0 ⊢
  show Go p e below (s₁.setTop (mkF m 18 #[.val (.int p0), .val (.int t0), .val (.int t1), .val (.int t2), .val (.int cz), .unset, .unset, .unset, .unset, .unset, .unset, .unset, .unset, .unset, .unset] [(.int s0)])) _
  refine Go.via (fun _ => XS.istore X0.here hx rfl (hb hby at_18) rfl (l' := #[.val (.int p0), .val (.int t0), .val (.int t1), .val (.int t2), .val (.int cz), .val (.int s0), .unset, .unset, .unset, .unset, .unset, .unset, .unset, .unset, .unset]) rfl) ?_
  show Go p e below (s₁.setTop (mkF m 20 #[.val (.int p0), .val (.int t0), .val (.int t1), .val (.int t2), .val (.int cz), .val (.int s0), .unset, .unset, .unset, .unset, .unset, .unset, .unset, .unset, .unset] [])) _
  refine Go.via (fun _ => XS.iloadN X0.here hx rfl (hb hby at_20) rfl) ?_
  refine Go.via (fun _ => XS.bipush X0.here hx rfl (hb hby at_21)) ?_
  refine Go.via (fun _ => XS.iushr X0.here hx rfl (hb hby at_23) rfl) ?_
  show Go p e below (s₁.setTop (mkF m 24 #[.val (.int p0), .val (.int t0), .val (.int t1), .val (.int t2), .val (.int cz), .val (.int s0), .unset, .unset, .unset, .unset, .unset, .unset, .unset, .unset, .unset] [(.int ((p0.toUInt32 >>> ((8 : Int32) &&& 31).toUInt32).toInt32))])) _
  refine Go.via (fun _ => XS.sipush X0.here hx rfl (hb hby at_24)) ?_
  refine Go.via (fun _ => XS.iand X0.here hx rfl (hb hby at_27) rfl) ?_
  show Go p e below (s₁.setTop (mkF m 28 #[.val (.int p0), .val (.int t0), .val (.int t1), .val (.int t2), .val (.int cz), .val (.int s0), .unset, .unset, .unset, .unset, .unset, .unset, .unset, .unset, .unset] [(.int (((p0.toUInt32 >>> ((8 : Int32) &&& 31).toUInt32).toInt32) &&& (255 : Int32)))])) _
  refine Go.via (fun _ => XS.iload X0.here hx rfl (hb hby at_28) rfl) ?_
  refine Go.via (fun _ => iremM X0 hx rfl (hb hby at_30) rfl (own_s ((p0.toUInt32 >>> ((8 : Int32) &&& 31).toUInt32).toInt32) cz hc).1) ?_
  show Go p e below (s₁.setTop (mkF m 31 #[.val (.int p0), .val (.int t0), .val (.int t1), .val (.int t2), .val (.int cz), .val (.int s0), .unset, .unset, .unset, .unset, .unset, .unset, .unset, .unset, .unset] [(.int ((((p0.toUInt32 >>> ((8 : Int32) &&& 31).toUInt32).toInt32) &&& (255 : Int32)) % cz))])) _
  have hs1 := (own_s ((p0.toUInt32 >>> ((8 : Int32) &&& 31).toUInt32).toInt32) cz hc).2
  generalize hv1 : ((((p0.toUInt32 >>> ((8 : Int32) &&& 31).toUInt32).toInt32) &&& (255 : Int32)) % cz) = s1 at hs1 ⊢
  show Go p e below (s₁.setTop (mkF m 31 #[.val (.int p0), .val (.int t0), .val (.int t1), .val (.int t2), .val (.int cz), .val (.int s0), .unset, .unset, .unset, .unset, .unset, .unset, .unset, .unset, .unset] [(.int s1)])) _
  refine Go.via (fun _ => XS.istore X0.here hx rfl (hb hby at_31) rfl (l' := #[.val (.int p0), .val (.int t0), .val (.int t1), .val (.int t2), .val (.int cz), .val (.int s0), .val (.int s1), .unset, .unset, .unset, .unset, .unset, .unset, .unset, .unset]) rfl) ?_
  show Go p e below (s₁.setTop (mkF m 33 #[.val (.int p0), .val (.int t0), .val (.int t1), .val (.int t2), .val (.int cz), .val (.int s0), .val (.int s1), .unset, .unset, .unset, .unset, .unset, .unset, .unset, .unset] [])) _
  refine Go.via (fun _ => XS.iloadN X0.here hx rfl (hb hby at_33) rfl) ?_
  refine Go.via (fun _ => XS.bipush X0.here hx rfl (hb hby at_34)) ?_
  refine Go.via (fun _ => XS.iushr X0.here hx rfl (hb hby at_36) rfl) ?_
  show Go p e below (s₁.setTop (mkF m 37 #[.val (.int p0), .val (.int t0), .val (.int t1), .val (.int t2), .val (.int cz), .val (.int s0), .val (.int s1), .unset, .unset, .unset, .unset, .unset, .unset, .unset, .unset] [(.int ((p0.toUInt32 >>> ((16 : Int32) &&& 31).toUInt32).toInt32))])) _
  refine Go.via (fun _ => XS.sipush X0.here hx rfl (hb hby at_37)) ?_
  refine Go.via (fun _ => XS.iand X0.here hx rfl (hb hby at_40) rfl) ?_
  show Go p e below (s₁.setTop (mkF m 41 #[.val (.int p0), .val (.int t0), .val (.int t1), .val (.int t2), .val (.int cz), .val (.int s0), .val (.int s1), .unset, .unset, .unset, .unset, .unset, .unset, .unset, .unset] [(.int (((p0.toUInt32 >>> ((16 : Int32) &&& 31).toUInt32).toInt32) &&& (255 : Int32)))])) _
  refine Go.via (fun _ => XS.iload X0.here hx rfl (hb hby at_41) rfl) ?_
  refine Go.via (fun _ => iremM X0 hx rfl (hb hby at_43) rfl (own_s ((p0.toUInt32 >>> ((16 : Int32) &&& 31).toUInt32).toInt32) cz hc).1) ?_
  show Go p e below (s₁.setTop (mkF m 44 #[.val (.int p0), .val (.int t0), .val (.int t1), .val (.int t2), .val (.int cz), .val (.int s0), .val (.int s1), .unset, .unset, .unset, .unset, .unset, .unset, .unset, .unset] [(.int ((((p0.toUInt32 >>> ((16 : Int32) &&& 31).toUInt32).toInt32) &&& (255 : Int32)) % cz))])) _
  have hs2 := (own_s ((p0.toUInt32 >>> ((16 : Int32) &&& 31).toUInt32).toInt32) cz hc).2
  generalize hv2 : ((((p0.toUInt32 >>> ((16 : Int32) &&& 31).toUInt32).toInt32) &&& (255 : Int32)) % cz) = s2 at hs2 ⊢
  show Go p e below (s₁.setTop (mkF m 44 #[.val (.int p0), .val (.int t0), .val (.int t1), .val (.int t2), .val (.int cz), .val (.int s0), .val (.int s1), .unset, .unset, .unset, .unset, .unset, .unset, .unset, .unset] [(.int s2)])) _
  refine Go.via (fun _ => XS.istore X0.here hx rfl (hb hby at_44) rfl (l' := #[.val (.int p0), .val (.int t0), .val (.int t1), .val (.int t2), .val (.int cz), .val (.int s0), .val (.int s1), .val (.int s2), .unset, .unset, .unset, .unset, .unset, .unset, .unset]) rfl) ?_
  show Go p e below (s₁.setTop (mkF m 46 #[.val (.int p0), .val (.int t0), .val (.int t1), .val (.int t2), .val (.int cz), .val (.int s0), .val (.int s1), .val (.int s2), .unset, .unset, .unset, .unset, .unset, .unset, .unset] [])) _
  refine Go.via (fun _ => XS.iconst X0.here hx rfl (hb hby at_46)) ?_
  obtain ⟨T498, h498, k498, X498, e498, E498, A498, B498, st498⟩ := newPE X0 hx hZ (tw hw 0 rfl) e0 (g := (mkF m 47 #[.val (.int p0), .val (.int t0), .val (.int t1), .val (.int t2), .val (.int cz), .val (.int s0), .val (.int s1), .val (.int s2), .unset, .unset, .unset, .unset, .unset, .unset, .unset] [(.int (3 : Int32))])) rfl (hb hby at_47) rfl (by decide) (cap := 3) (by decide) (by decide) (by decide) (by decide) (ad := "[I") (by decide)
  obtain ⟨b498, g498⟩ : ∃ z, z = h0.size := ⟨_, rfl⟩
  rw [← g498] at A498 B498 st498
  have ge499 : n0 ≤ b498 := Nat.le_trans Z0 (Nat.le_of_eq g498.symm)
  have sz500 : h0.size ≤ b498 := Nat.le_trans (Keep.refl h0 []).1 (Nat.le_of_eq g498.symm)
  refine Go.via (st498) ?_
  clear st498
  have f501 : Ia Z h498 b498 .int [(0 : Int32), (0 : Int32), (0 : Int32)] := Ia.new A498 rfl
  clear X0 e0
  show Go p e below (T498.setTop (mkF m 49 #[.val (.int p0), .val (.int t0), .val (.int t1), .val (.int t2), .val (.int cz), .val (.int s0), .val (.int s1), .val (.int s2), .unset, .unset, .unset, .unset, .unset, .unset, .unset] [(.ref b498)])) _
  refine Go.via (fun _ => XS.dup X498.here hx rfl (hb hby at_49) rfl rfl) ?_
  refine Go.via (fun _ => XS.iconst X498.here hx rfl (hb hby at_50)) ?_
  refine Go.via (fun _ => XS.iload X498.here hx rfl (hb hby at_51) rfl) ?_
  obtain ⟨T502, h502, X502, e502, W502, V502, st502⟩ := stI' X498 hx hZ e498 f501 (j := (0 : Int32)) (by decide) (by first | decide | (simp only [List.length_cons, List.length_nil]; decide) | rfl) (g := (mkF m 53 #[.val (.int p0), .val (.int t0), .val (.int t1), .val (.int t2), .val (.int cz), .val (.int s0), .val (.int s1), .val (.int s2), .unset, .unset, .unset, .unset, .unset, .unset, .unset] [(.int s0), (.int (0 : Int32)), (.ref b498), (.ref b498)])) rfl rfl (hb hby at_53)
  refine Go.via (st502) ?_
  clear st502
  have N502 := Fr.snoc X502 N0 ge499
  have f503 : Ia Z h502 b498 .int [s0, (0 : Int32), (0 : Int32)] := V502
  clear X498 e498
  show Go p e below (T502.setTop (mkF m 54 #[.val (.int p0), .val (.int t0), .val (.int t1), .val (.int t2), .val (.int cz), .val (.int s0), .val (.int s1), .val (.int s2), .unset, .unset, .unset, .unset, .unset, .unset, .unset] [(.ref b498)])) _
  refine Go.via (fun _ => XS.dup X502.here hx rfl (hb hby at_54) rfl rfl) ?_
  refine Go.via (fun _ => XS.iconst X502.here hx rfl (hb hby at_55)) ?_
  refine Go.via (fun _ => XS.iload X502.here hx rfl (hb hby at_56) rfl) ?_
  obtain ⟨T504, h504, X504, e504, W504, V504, st504⟩ := stI' X502 hx hZ e502 f503 (j := (1 : Int32)) (by decide) (by first | decide | (simp only [List.length_cons, List.length_nil]; decide) | rfl) (g := (mkF m 58 #[.val (.int p0), .val (.int t0), .val (.int t1), .val (.int t2), .val (.int cz), .val (.int s0), .val (.int s1), .val (.int s2), .unset, .unset, .unset, .unset, .unset, .unset, .unset] [(.int s1), (.int (1 : Int32)), (.ref b498), (.ref b498)])) rfl rfl (hb hby at_58)
  refine Go.via (st504) ?_
  clear st504
  have N504 := Fr.snoc X504 N502 ge499
  have f505 : Ia Z h504 b498 .int [s0, s1, (0 : Int32)] := V504
  clear X502 e502
  show Go p e below (T504.setTop (mkF m 59 #[.val (.int p0), .val (.int t0), .val (.int t1), .val (.int t2), .val (.int cz), .val (.int s0), .val (.int s1), .val (.int s2), .unset, .unset, .unset, .unset, .unset, .unset, .unset] [(.ref b498)])) _
  refine Go.via (fun _ => XS.dup X504.here hx rfl (hb hby at_59) rfl rfl) ?_
  refine Go.via (fun _ => XS.iconst X504.here hx rfl (hb hby at_60)) ?_
  refine Go.via (fun _ => XS.iload X504.here hx rfl (hb hby at_61) rfl) ?_
  obtain ⟨T506, h506, X506, e506, W506, V506, st506⟩ := stI' X504 hx hZ e504 f505 (j := (2 : Int32)) (by decide) (by first | decide | (simp only [List.length_cons, List.length_nil]; decide) | rfl) (g := (mkF m 63 #[.val (.int p0), .val (.int t0), .val (.int t1), .val (.int t2), .val (.int cz), .val (.int s0), .val (.int s1), .val (.int s2), .unset, .unset, .unset, .unset, .unset, .unset, .unset] [(.int s2), (.int (2 : Int32)), (.ref b498), (.ref b498)])) rfl rfl (hb hby at_63)
  refine Go.via (st506) ?_
  clear st506
  have N506 := Fr.snoc X506 N504 ge499
  have f507 : Ia Z h506 b498 .int [s0, s1, s2] := V506
  clear X504 e504
  show Go p e below (T506.setTop (mkF m 64 #[.val (.int p0), .val (.int t0), .val (.int t1), .val (.int t2), .val (.int cz), .val (.int s0), .val (.int s1), .val (.int s2), .unset, .unset, .unset, .unset, .unset, .unset, .unset] [(.ref b498)])) _
  refine Go.via (fun _ => XS.astore X506.here hx rfl (hb hby at_64) rfl rfl (l' := #[.val (.int p0), .val (.int t0), .val (.int t1), .val (.int t2), .val (.int cz), .val (.int s0), .val (.int s1), .val (.int s2), .val (.ref b498), .unset, .unset, .unset, .unset, .unset, .unset]) rfl) ?_
  show Go p e below (T506.setTop (mkF m 66 #[.val (.int p0), .val (.int t0), .val (.int t1), .val (.int t2), .val (.int cz), .val (.int s0), .val (.int s1), .val (.int s2), .val (.ref b498), .unset, .unset, .unset, .unset, .unset, .unset] [])) _
  refine Go.via (fun _ => XS.iconst X506.here hx rfl (hb hby at_66)) ?_
  have k509 : Keep h0 h506 [] := (((((Keep.refl h0 []).ext E498).wr W502 (Or.inr sz500)).wr W504 (Or.inr sz500)).wr W506 (Or.inr sz500))
  have z510 : n0 ≤ h506.size := (Nat.le_trans (Nat.le_trans (Nat.le_trans (Nat.le_trans Z0 E498.1) (Keep.of_wr W502).1) (Keep.of_wr W504).1) (Keep.of_wr W506).1)
  obtain ⟨T508, h508, k508, X508, e508, E508, A508, B508, st508⟩ := newPE X506 hx hZ (tw hw 0 rfl) e506 (g := (mkF m 67 #[.val (.int p0), .val (.int t0), .val (.int t1), .val (.int t2), .val (.int cz), .val (.int s0), .val (.int s1), .val (.int s2), .val (.ref b498), .unset, .unset, .unset, .unset, .unset, .unset] [(.int (3 : Int32))])) rfl (hb hby at_67) rfl (by decide) (cap := 3) (by decide) (by decide) (by decide) (by decide) (ad := "[I") (by decide)
  obtain ⟨b508, g508⟩ : ∃ z, z = h506.size := ⟨_, rfl⟩
  rw [← g508] at A508 B508 st508
  have ne511 : b498 ≠ b508 := Nat.ne_of_lt (Nat.lt_of_lt_of_le f507.lt (Nat.le_of_eq g508.symm))
  have ge512 : n0 ≤ b508 := Nat.le_trans z510 (Nat.le_of_eq g508.symm)
  have sz513 : h0.size ≤ b508 := Nat.le_trans k509.1 (Nat.le_of_eq g508.symm)
  refine Go.via (st508) ?_
  clear st508
  have f514 : Ia Z h508 b508 .int [(0 : Int32), (0 : Int32), (0 : Int32)] := Ia.new A508 rfl
  clear X506 e506
  show Go p e below (T508.setTop (mkF m 69 #[.val (.int p0), .val (.int t0), .val (.int t1), .val (.int t2), .val (.int cz), .val (.int s0), .val (.int s1), .val (.int s2), .val (.ref b498), .unset, .unset, .unset, .unset, .unset, .unset] [(.ref b508)])) _
  refine Go.via (fun _ => XS.dup X508.here hx rfl (hb hby at_69) rfl rfl) ?_
  refine Go.via (fun _ => XS.iconst X508.here hx rfl (hb hby at_70)) ?_
  refine Go.via (fun _ => XS.iloadN X508.here hx rfl (hb hby at_71) rfl) ?_
  obtain ⟨T515, h515, X515, e515, W515, V515, st515⟩ := stI' X508 hx hZ e508 f514 (j := (0 : Int32)) (by decide) (by first | decide | (simp only [List.length_cons, List.length_nil]; decide) | rfl) (g := (mkF m 72 #[.val (.int p0), .val (.int t0), .val (.int t1), .val (.int t2), .val (.int cz), .val (.int s0), .val (.int s1), .val (.int s2), .val (.ref b498), .unset, .unset, .unset, .unset, .unset, .unset] [(.int t0), (.int (0 : Int32)), (.ref b508), (.ref b508)])) rfl rfl (hb hby at_72)
  refine Go.via (st515) ?_
  clear st515
  have N515 := Fr.snoc X515 N506 ge512
  have f516 : Ia Z h515 b508 .int [t0, (0 : Int32), (0 : Int32)] := V515
  clear X508 e508
  show Go p e below (T515.setTop (mkF m 73 #[.val (.int p0), .val (.int t0), .val (.int t1), .val (.int t2), .val (.int cz), .val (.int s0), .val (.int s1), .val (.int s2), .val (.ref b498), .unset, .unset, .unset, .unset, .unset, .unset] [(.ref b508)])) _
  refine Go.via (fun _ => XS.dup X515.here hx rfl (hb hby at_73) rfl rfl) ?_
  refine Go.via (fun _ => XS.iconst X515.here hx rfl (hb hby at_74)) ?_
  refine Go.via (fun _ => XS.iloadN X515.here hx rfl (hb hby at_75) rfl) ?_
  obtain ⟨T517, h517, X517, e517, W517, V517, st517⟩ := stI' X515 hx hZ e515 f516 (j := (1 : Int32)) (by decide) (by first | decide | (simp only [List.length_cons, List.length_nil]; decide) | rfl) (g := (mkF m 76 #[.val (.int p0), .val (.int t0), .val (.int t1), .val (.int t2), .val (.int cz), .val (.int s0), .val (.int s1), .val (.int s2), .val (.ref b498), .unset, .unset, .unset, .unset, .unset, .unset] [(.int t1), (.int (1 : Int32)), (.ref b508), (.ref b508)])) rfl rfl (hb hby at_76)
  refine Go.via (st517) ?_
  clear st517
  have N517 := Fr.snoc X517 N515 ge512
  have f518 : Ia Z h517 b508 .int [t0, t1, (0 : Int32)] := V517
  clear X515 e515
  show Go p e below (T517.setTop (mkF m 77 #[.val (.int p0), .val (.int t0), .val (.int t1), .val (.int t2), .val (.int cz), .val (.int s0), .val (.int s1), .val (.int s2), .val (.ref b498), .unset, .unset, .unset, .unset, .unset, .unset] [(.ref b508)])) _
  refine Go.via (fun _ => XS.dup X517.here hx rfl (hb hby at_77) rfl rfl) ?_
  refine Go.via (fun _ => XS.iconst X517.here hx rfl (hb hby at_78)) ?_
  refine Go.via (fun _ => XS.iloadN X517.here hx rfl (hb hby at_79) rfl) ?_
  obtain ⟨T519, h519, X519, e519, W519, V519, st519⟩ := stI' X517 hx hZ e517 f518 (j := (2 : Int32)) (by decide) (by first | decide | (simp only [List.length_cons, List.length_nil]; decide) | rfl) (g := (mkF m 80 #[.val (.int p0), .val (.int t0), .val (.int t1), .val (.int t2), .val (.int cz), .val (.int s0), .val (.int s1), .val (.int s2), .val (.ref b498), .unset, .unset, .unset, .unset, .unset, .unset] [(.int t2), (.int (2 : Int32)), (.ref b508), (.ref b508)])) rfl rfl (hb hby at_80)
  refine Go.via (st519) ?_
  clear st519
  have N519 := Fr.snoc X519 N517 ge512
  have f520 : Ia Z h519 b508 .int [t0, t1, t2] := V519
  clear X517 e517
  show Go p e below (T519.setTop (mkF m 81 #[.val (.int p0), .val (.int t0), .val (.int t1), .val (.int t2), .val (.int cz), .val (.int s0), .val (.int s1), .val (.int s2), .val (.ref b498), .unset, .unset, .unset, .unset, .unset, .unset] [(.ref b508)])) _
  refine Go.via (fun _ => XS.astore X519.here hx rfl (hb hby at_81) rfl rfl (l' := #[.val (.int p0), .val (.int t0), .val (.int t1), .val (.int t2), .val (.int cz), .val (.int s0), .val (.int s1), .val (.int s2), .val (.ref b498), .val (.ref b508), .unset, .unset, .unset, .unset, .unset]) rfl) ?_
  show Go p e below (T519.setTop (mkF m 83 #[.val (.int p0), .val (.int t0), .val (.int t1), .val (.int t2), .val (.int cz), .val (.int s0), .val (.int s1), .val (.int s2), .val (.ref b498), .val (.ref b508), .unset, .unset, .unset, .unset, .unset] [])) _
  refine Go.via (fun _ => XS.iload X519.here hx rfl (hb hby at_83) rfl) ?_
  refine Go.via (fun _ => XS.aload X519.here hx rfl (hb hby at_85) rfl rfl) ?_
  refine Go.via (fun _ => XS.aload X519.here hx rfl (hb hby at_87) rfl rfl) ?_
  have f521 : Ia Z h519 b498 .int [s0, s1, s2] := ((((f507.ext E508).other W515 ne511).other W517 ne511).other W519 ne511)
  have z523 : n0 ≤ h519.size := (Nat.le_trans (Nat.le_trans (Nat.le_trans (Nat.le_trans z510 E508.1) (Keep.of_wr W515).1) (Keep.of_wr W517).1) (Keep.of_wr W519).1)
  obtain ⟨_, _, ⟨T522, L522, k522, n522⟩, -, X522, ⟨Lc522, hQ522, l522, y522, z522⟩, st522⟩ := Jvm.LawKit.callS X519 hx (y := (⟨"com/example/acquaint/acquaint/query/Adjacency", "of", "(I[I[I)Lcom/example/acquaint/acquaint/query/Adjacency;"⟩ : MethodName)) hown (mvT hZ (tw hw 1 rfl)) (mvT hZ (tw hw 2 rfl)) (mvT hZ (tw hw 3 rfl)) (mvT hZ (tw hw 4 rfl)) (by decide) (backOf (W := 0) (rmO l Z a0 hw [] cz b498 b508 s0 s1 s2 t0 t1 t2 h519 n0 z523 f521 f520 hc hs0 hs1 hs2) hZ (tw hw 4 rfl) (tw hw 3 rfl) (by decide) (by decide)) (g := (mkF m 89 #[.val (.int p0), .val (.int t0), .val (.int t1), .val (.int t2), .val (.int cz), .val (.int s0), .val (.int s1), .val (.int s2), .val (.ref b498), .val (.ref b508), .unset, .unset, .unset, .unset, .unset] [(.ref b508), (.ref b498), (.int cz)])) rfl (by rw [hml]; rfl) (argsL := [(.int cz), (.ref b498), (.ref b508)]) (rest := []) (lenOf pd__28I_5bI_5bI_29Lcom_2fexample_2facquaint_2facquaint_2fquery_2fAdjacency_3b rfl) rfl (by show 2 * 0 + _ ≤ _; exact Nat.le_of_eq rfl) (hb hby at_89) (fun _ _ => ⟨rfl, e519, (by decide : 2 + 4 ≤ _), (by decide : 6 + 14 ≤ _)⟩)
  dsimp only [Pt.U, Pt.locs, Pt.cells, Pt.slots] at X522 l522 y522 z522 st522 hQ522
  subst l522 y522 z522
  obtain ⟨b524, b525, b526, v527, v528, rfl, N522q, K522q, fz_b524, fz_b525, fz_b526, f529, f530, f531, f532, f533, qp534⟩ := hQ522
  have N522 := Fr.app N519 N522q
  refine Go.via (st522) ?_
  clear st522
  have ne535 : b498 ≠ b524 := Nat.ne_of_lt (Nat.lt_of_lt_of_le f521.lt fz_b524)
  have ne536 : b508 ≠ b524 := Nat.ne_of_lt (Nat.lt_of_lt_of_le f520.lt fz_b524)
  have ge537 : n0 ≤ b524 := Nat.le_trans z523 fz_b524
  have k539 : Keep h0 h519 [] := ((((k509.ext E508).wr W515 (Or.inr sz513)).wr W517 (Or.inr sz513)).wr W519 (Or.inr sz513))
  have sz538 : h0.size ≤ b524 := Nat.le_trans k539.1 fz_b524
  have ne540 : b498 ≠ b525 := Nat.ne_of_lt (Nat.lt_of_lt_of_le f521.lt fz_b525)
  have ne541 : b508 ≠ b525 := Nat.ne_of_lt (Nat.lt_of_lt_of_le f520.lt fz_b525)
  have ge542 : n0 ≤ b525 := Nat.le_trans z523 fz_b525
  have sz543 : h0.size ≤ b525 := Nat.le_trans k539.1 fz_b525
  have ne544 : b498 ≠ b526 := Nat.ne_of_lt (Nat.lt_of_lt_of_le f521.lt fz_b526)
  have ne545 : b508 ≠ b526 := Nat.ne_of_lt (Nat.lt_of_lt_of_le f520.lt fz_b526)
  have ge546 : n0 ≤ b526 := Nat.le_trans z523 fz_b526
  have sz547 : h0.size ≤ b526 := Nat.le_trans k539.1 fz_b526
  have e522 : T522.heap = T522.heap := rfl
  have f548 : Exa Z T522.heap b526 "com/example/acquaint/acquaint/query/Adjacency" := f529
  have f549 : Fld Z T522.heap b526 "com/example/acquaint/acquaint/query/Adjacency" "offsets" "[I" (.ref b524) := f530
  have f550 : Fld Z T522.heap b526 "com/example/acquaint/acquaint/query/Adjacency" "targets" "[I" (.ref b525) := f531
  have f551 : Ia Z T522.heap b524 .int v527 := f532
  have f552 : Ia Z T522.heap b525 .int v528 := f533
  clear X519 e519
  show Go p e below (T522.setTop (mkF m 92 #[.val (.int p0), .val (.int t0), .val (.int t1), .val (.int t2), .val (.int cz), .val (.int s0), .val (.int s1), .val (.int s2), .val (.ref b498), .val (.ref b508), .unset, .unset, .unset, .unset, .unset] [(.ref b526)])) _
  refine Go.via (fun _ => XS.astore X522.here hx rfl (hb hby at_92) rfl rfl (l' := #[.val (.int p0), .val (.int t0), .val (.int t1), .val (.int t2), .val (.int cz), .val (.int s0), .val (.int s1), .val (.int s2), .val (.ref b498), .val (.ref b508), .val (.ref b526), .unset, .unset, .unset, .unset]) rfl) ?_
  show Go p e below (T522.setTop (mkF m 94 #[.val (.int p0), .val (.int t0), .val (.int t1), .val (.int t2), .val (.int cz), .val (.int s0), .val (.int s1), .val (.int s2), .val (.ref b498), .val (.ref b508), .val (.ref b526), .unset, .unset, .unset, .unset] [])) _
  refine Go.via (fun _ => XS.iload X522.here hx rfl (hb hby at_94) rfl) ?_
  refine Go.via (fun _ => XS.iload X522.here hx rfl (hb hby at_96) rfl) ?_
  refine Go.via (fun _ => XS.iload X522.here hx rfl (hb hby at_98) rfl) ?_
  refine Go.via (fun _ => XS.iload X522.here hx rfl (hb hby at_100) rfl) ?_
  show Go p e below (T522.setTop (mkF m 102 #[.val (.int p0), .val (.int t0), .val (.int t1), .val (.int t2), .val (.int cz), .val (.int s0), .val (.int s1), .val (.int s2), .val (.ref b498), .val (.ref b508), .val (.ref b526), .unset, .unset, .unset, .unset] [(.int s2), (.int s1), (.int s0), (.int s0)])) _
  have z554 : n0 ≤ T522.heap.size := (Nat.le_trans z523 K522q.1)
  obtain ⟨_, _, ⟨T553, L553, k553, n553⟩, -, X553, ⟨Lc553, hQ553, l553, y553, z553⟩, st553⟩ := Jvm.LawKit.callS X522 hx (y := (⟨"com/example/acquaint/acquaint/query/AdjacencyOfPinLaw", "below", "(IIII)I"⟩ : MethodName)) hown (mvT hZ (tw hw 29 rfl)) (mvT hZ (tw hw 30 rfl)) (mvT hZ (tw hw 31 rfl)) (mvT hZ (tw hw 32 rfl)) (by decide) (backOf (W := 0) (rmW l Z a0 hw [] s0 s0 s1 s2  T522.heap n0 z554) hZ (tw hw 32 rfl) (tw hw 31 rfl) (by decide) (by decide)) (g := (mkF m 102 #[.val (.int p0), .val (.int t0), .val (.int t1), .val (.int t2), .val (.int cz), .val (.int s0), .val (.int s1), .val (.int s2), .val (.ref b498), .val (.ref b508), .val (.ref b526), .unset, .unset, .unset, .unset] [(.int s2), (.int s1), (.int s0), (.int s0)])) rfl (by rw [hml]; rfl) (argsL := [(.int s0), (.int s0), (.int s1), (.int s2)]) (rest := []) (lenOf pd__28IIII_29I rfl) rfl (by show 2 * 0 + _ ≤ _; exact Nat.le_of_eq rfl) (hb hby at_102) (fun _ _ => ⟨rfl, e522, (by decide : 6 + 0 ≤ _), (by decide : 20 + 0 ≤ _)⟩)
  dsimp only [Pt.U, Pt.locs, Pt.cells, Pt.slots] at X553 l553 y553 z553 st553 hQ553
  subst l553 y553 z553
  obtain ⟨rfl, N553q, eh553⟩ := hQ553
  have N553 := Fr.app N522 N553q
  refine Go.via (st553) ?_
  clear st553
  have e553 : T553.heap = T522.heap := eh553
  clear X522 e522
  show Go p e below (T553.setTop (mkF m 105 #[.val (.int p0), .val (.int t0), .val (.int t1), .val (.int t2), .val (.int cz), .val (.int s0), .val (.int s1), .val (.int s2), .val (.ref b498), .val (.ref b508), .val (.ref b526), .unset, .unset, .unset, .unset] [(.int (own_below s0 s0 s1 s2))])) _
  refine Go.via (fun _ => XS.istore X553.here hx rfl (hb hby at_105) rfl (l' := #[.val (.int p0), .val (.int t0), .val (.int t1), .val (.int t2), .val (.int cz), .val (.int s0), .val (.int s1), .val (.int s2), .val (.ref b498), .val (.ref b508), .val (.ref b526), .val (.int (own_below s0 s0 s1 s2)), .unset, .unset, .unset]) rfl) ?_
  show Go p e below (T553.setTop (mkF m 107 #[.val (.int p0), .val (.int t0), .val (.int t1), .val (.int t2), .val (.int cz), .val (.int s0), .val (.int s1), .val (.int s2), .val (.ref b498), .val (.ref b508), .val (.ref b526), .val (.int (own_below s0 s0 s1 s2)), .unset, .unset, .unset] [])) _
  refine Go.via (fun _ => XS.iload X553.here hx rfl (hb hby at_107) rfl) ?_
  refine Go.via (fun _ => XS.iload X553.here hx rfl (hb hby at_109) rfl) ?_
  refine Go.via (fun _ => XS.iload X553.here hx rfl (hb hby at_111) rfl) ?_
  refine Go.via (fun _ => XS.iload X553.here hx rfl (hb hby at_113) rfl) ?_
  show Go p e below (T553.setTop (mkF m 115 #[.val (.int p0), .val (.int t0), .val (.int t1), .val (.int t2), .val (.int cz), .val (.int s0), .val (.int s1), .val (.int s2), .val (.ref b498), .val (.ref b508), .val (.ref b526), .val (.int (own_below s0 s0 s1 s2)), .unset, .unset, .unset] [(.int s2), (.int s1), (.int s0), (.int s1)])) _
  obtain ⟨_, _, ⟨T555, L555, k555, n555⟩, -, X555, ⟨Lc555, hQ555, l555, y555, z555⟩, st555⟩ := Jvm.LawKit.callS X553 hx (y := (⟨"com/example/acquaint/acquaint/query/AdjacencyOfPinLaw", "below", "(IIII)I"⟩ : MethodName)) hown (mvT hZ (tw hw 29 rfl)) (mvT hZ (tw hw 30 rfl)) (mvT hZ (tw hw 31 rfl)) (mvT hZ (tw hw 32 rfl)) (by decide) (backOf (W := 0) (rmW l Z a0 hw [] s1 s0 s1 s2  T522.heap n0 z554) hZ (tw hw 32 rfl) (tw hw 31 rfl) (by decide) (by decide)) (g := (mkF m 115 #[.val (.int p0), .val (.int t0), .val (.int t1), .val (.int t2), .val (.int cz), .val (.int s0), .val (.int s1), .val (.int s2), .val (.ref b498), .val (.ref b508), .val (.ref b526), .val (.int (own_below s0 s0 s1 s2)), .unset, .unset, .unset] [(.int s2), (.int s1), (.int s0), (.int s1)])) rfl (by rw [hml]; rfl) (argsL := [(.int s1), (.int s0), (.int s1), (.int s2)]) (rest := []) (lenOf pd__28IIII_29I rfl) rfl (by show 2 * 0 + _ ≤ _; exact Nat.le_of_eq rfl) (hb hby at_115) (fun _ _ => ⟨rfl, e553, (by decide : 6 + 0 ≤ _), (by decide : 20 + 0 ≤ _)⟩)
  dsimp only [Pt.U, Pt.locs, Pt.cells, Pt.slots] at X555 l555 y555 z555 st555 hQ555
  subst l555 y555 z555
  obtain ⟨rfl, N555q, eh555⟩ := hQ555
  have N555 := Fr.app N553 N555q
  refine Go.via (st555) ?_
  clear st555
  have e555 : T555.heap = T522.heap := eh555
  clear X553 e553
  show Go p e below (T555.setTop (mkF m 118 #[.val (.int p0), .val (.int t0), .val (.int t1), .val (.int t2), .val (.int cz), .val (.int s0), .val (.int s1), .val (.int s2), .val (.ref b498), .val (.ref b508), .val (.ref b526), .val (.int (own_below s0 s0 s1 s2)), .unset, .unset, .unset] [(.int (own_below s1 s0 s1 s2))])) _
  refine Go.via (fun _ => XS.iload X555.here hx rfl (hb hby at_118) rfl) ?_
  refine Go.via (fun _ => XS.iload X555.here hx rfl (hb hby at_120) rfl) ?_
  suffices hm557 : Go p e below (T555.setTop (mkF m 130 #[.val (.int p0), .val (.int t0), .val (.int t1), .val (.int t2), .val (.int cz), .val (.int s0), .val (.int s1), .val (.int s2), .val (.ref b498), .val (.ref b508), .val (.ref b526), .val (.int (own_below s0 s0 s1 s2)), .unset, .unset, .unset] [(.int (if s0 = s1 then (1 : Int32) else (0 : Int32))), (.int (own_below s1 s0 s1 s2))])) (Done s (Q_rm0 Z p0 t0 t1 t2 h0 n0) room_1.cells room_1.slots) by
    by_cases hc556 : s0 = s1
    · rw [if_pos hc556] at hm557
      refine Go.via (fun _ => XS.icmpNo X555.here hx rfl (hb hby at_122) rfl (teq (hc556 : s0 = s1)).2) ?_
      refine Go.via (fun _ => XS.iconst X555.here hx rfl (hb hby at_125)) ?_
      refine Go.via (fun _ => XS.goto X555.here hx rfl (pc0 := 126) (pc' := 130) rfl (hb hby at_126) (by decide) (by decide)) ?_
      exact hm557
    · rw [if_neg hc556] at hm557
      refine Go.via (fun _ => XS.icmpYes X555.here hx rfl (pc0 := 122) (pc' := 129) rfl (hb hby at_122) rfl (feq (hc556 : ¬ (s0 = s1))).2 (by decide) (by decide)) ?_
      refine Go.via (fun _ => XS.iconst X555.here hx rfl (hb hby at_129)) ?_
      exact hm557
  show Go p e below (T555.setTop (mkF m 130 #[.val (.int p0), .val (.int t0), .val (.int t1), .val (.int t2), .val (.int cz), .val (.int s0), .val (.int s1), .val (.int s2), .val (.ref b498), .val (.ref b508), .val (.ref b526), .val (.int (own_below s0 s0 s1 s2)), .unset, .unset, .unset] [(.int (if s0 = s1 then (1 : Int32) else (0 : Int32))), (.int (own_below s1 s0 s1 s2))])) _
  refine Go.via (fun _ => XS.iadd X555.here hx rfl (hb hby at_130) rfl) ?_
  show Go p e below (T555.setTop (mkF m 131 #[.val (.int p0), .val (.int t0), .val (.int t1), .val (.int t2), .val (.int cz), .val (.int s0), .val (.int s1), .val (.int s2), .val (.ref b498), .val (.ref b508), .val (.ref b526), .val (.int (own_below s0 s0 s1 s2)), .unset, .unset, .unset] [(.int ((own_below s1 s0 s1 s2) + (if s0 = s1 then (1 : Int32) else (0 : Int32))))])) _
  refine Go.via (fun _ => XS.istore X555.here hx rfl (hb hby at_131) rfl (l' := #[.val (.int p0), .val (.int t0), .val (.int t1), .val (.int t2), .val (.int cz), .val (.int s0), .val (.int s1), .val (.int s2), .val (.ref b498), .val (.ref b508), .val (.ref b526), .val (.int (own_below s0 s0 s1 s2)), .val (.int ((own_below s1 s0 s1 s2) + (if s0 = s1 then (1 : Int32) else (0 : Int32)))), .unset, .unset]) rfl) ?_
  show Go p e below (T555.setTop (mkF m 133 #[.val (.int p0), .val (.int t0), .val (.int t1), .val (.int t2), .val (.int cz), .val (.int s0), .val (.int s1), .val (.int s2), .val (.ref b498), .val (.ref b508), .val (.ref b526), .val (.int (own_below s0 s0 s1 s2)), .val (.int ((own_below s1 s0 s1 s2) + (if s0 = s1 then (1 : Int32) else (0 : Int32)))), .unset, .unset] [])) _
  refine Go.via (fun _ => XS.iload X555.here hx rfl (hb hby at_133) rfl) ?_
  refine Go.via (fun _ => XS.iload X555.here hx rfl (hb hby at_135) rfl) ?_
  refine Go.via (fun _ => XS.iload X555.here hx rfl (hb hby at_137) rfl) ?_
  refine Go.via (fun _ => XS.iload X555.here hx rfl (hb hby at_139) rfl) ?_
  show Go p e below (T555.setTop (mkF m 141 #[.val (.int p0), .val (.int t0), .val (.int t1), .val (.int t2), .val (.int cz), .val (.int s0), .val (.int s1), .val (.int s2), .val (.ref b498), .val (.ref b508), .val (.ref b526), .val (.int (own_below s0 s0 s1 s2)), .val (.int ((own_below s1 s0 s1 s2) + (if s0 = s1 then (1 : Int32) else (0 : Int32)))), .unset, .unset] [(.int s2), (.int s1), (.int s0), (.int s2)])) _
  obtain ⟨_, _, ⟨T558, L558, k558, n558⟩, -, X558, ⟨Lc558, hQ558, l558, y558, z558⟩, st558⟩ := Jvm.LawKit.callS X555 hx (y := (⟨"com/example/acquaint/acquaint/query/AdjacencyOfPinLaw", "below", "(IIII)I"⟩ : MethodName)) hown (mvT hZ (tw hw 29 rfl)) (mvT hZ (tw hw 30 rfl)) (mvT hZ (tw hw 31 rfl)) (mvT hZ (tw hw 32 rfl)) (by decide) (backOf (W := 0) (rmW l Z a0 hw [] s2 s0 s1 s2  T522.heap n0 z554) hZ (tw hw 32 rfl) (tw hw 31 rfl) (by decide) (by decide)) (g := (mkF m 141 #[.val (.int p0), .val (.int t0), .val (.int t1), .val (.int t2), .val (.int cz), .val (.int s0), .val (.int s1), .val (.int s2), .val (.ref b498), .val (.ref b508), .val (.ref b526), .val (.int (own_below s0 s0 s1 s2)), .val (.int ((own_below s1 s0 s1 s2) + (if s0 = s1 then (1 : Int32) else (0 : Int32)))), .unset, .unset] [(.int s2), (.int s1), (.int s0), (.int s2)])) rfl (by rw [hml]; rfl) (argsL := [(.int s2), (.int s0), (.int s1), (.int s2)]) (rest := []) (lenOf pd__28IIII_29I rfl) rfl (by show 2 * 0 + _ ≤ _; exact Nat.le_of_eq rfl) (hb hby at_141) (fun _ _ => ⟨rfl, e555, (by decide : 6 + 0 ≤ _), (by decide : 20 + 0 ≤ _)⟩)
  dsimp only [Pt.U, Pt.locs, Pt.cells, Pt.slots] at X558 l558 y558 z558 st558 hQ558
  subst l558 y558 z558
  obtain ⟨rfl, N558q, eh558⟩ := hQ558
  have N558 := Fr.app N555 N558q
  refine Go.via (st558) ?_
  clear st558
  have e558 : T558.heap = T522.heap := eh558
  clear X555 e555
  show Go p e below (T558.setTop (mkF m 144 #[.val (.int p0), .val (.int t0), .val (.int t1), .val (.int t2), .val (.int cz), .val (.int s0), .val (.int s1), .val (.int s2), .val (.ref b498), .val (.ref b508), .val (.ref b526), .val (.int (own_below s0 s0 s1 s2)), .val (.int ((own_below s1 s0 s1 s2) + (if s0 = s1 then (1 : Int32) else (0 : Int32)))), .unset, .unset] [(.int (own_below s2 s0 s1 s2))])) _
  refine Go.via (fun _ => XS.iload X558.here hx rfl (hb hby at_144) rfl) ?_
  refine Go.via (fun _ => XS.iload X558.here hx rfl (hb hby at_146) rfl) ?_
  suffices hm560 : Go p e below (T558.setTop (mkF m 156 #[.val (.int p0), .val (.int t0), .val (.int t1), .val (.int t2), .val (.int cz), .val (.int s0), .val (.int s1), .val (.int s2), .val (.ref b498), .val (.ref b508), .val (.ref b526), .val (.int (own_below s0 s0 s1 s2)), .val (.int ((own_below s1 s0 s1 s2) + (if s0 = s1 then (1 : Int32) else (0 : Int32)))), .unset, .unset] [(.int (if s0 = s2 then (1 : Int32) else (0 : Int32))), (.int (own_below s2 s0 s1 s2))])) (Done s (Q_rm0 Z p0 t0 t1 t2 h0 n0) room_1.cells room_1.slots) by
    by_cases hc559 : s0 = s2
    · rw [if_pos hc559] at hm560
      refine Go.via (fun _ => XS.icmpNo X558.here hx rfl (hb hby at_148) rfl (teq (hc559 : s0 = s2)).2) ?_
      refine Go.via (fun _ => XS.iconst X558.here hx rfl (hb hby at_151)) ?_
      refine Go.via (fun _ => XS.goto X558.here hx rfl (pc0 := 152) (pc' := 156) rfl (hb hby at_152) (by decide) (by decide)) ?_
      exact hm560
    · rw [if_neg hc559] at hm560
      refine Go.via (fun _ => XS.icmpYes X558.here hx rfl (pc0 := 148) (pc' := 155) rfl (hb hby at_148) rfl (feq (hc559 : ¬ (s0 = s2))).2 (by decide) (by decide)) ?_
      refine Go.via (fun _ => XS.iconst X558.here hx rfl (hb hby at_155)) ?_
      exact hm560
  show Go p e below (T558.setTop (mkF m 156 #[.val (.int p0), .val (.int t0), .val (.int t1), .val (.int t2), .val (.int cz), .val (.int s0), .val (.int s1), .val (.int s2), .val (.ref b498), .val (.ref b508), .val (.ref b526), .val (.int (own_below s0 s0 s1 s2)), .val (.int ((own_below s1 s0 s1 s2) + (if s0 = s1 then (1 : Int32) else (0 : Int32)))), .unset, .unset] [(.int (if s0 = s2 then (1 : Int32) else (0 : Int32))), (.int (own_below s2 s0 s1 s2))])) _
  refine Go.via (fun _ => XS.iadd X558.here hx rfl (hb hby at_156) rfl) ?_
  show Go p e below (T558.setTop (mkF m 157 #[.val (.int p0), .val (.int t0), .val (.int t1), .val (.int t2), .val (.int cz), .val (.int s0), .val (.int s1), .val (.int s2), .val (.ref b498), .val (.ref b508), .val (.ref b526), .val (.int (own_below s0 s0 s1 s2)), .val (.int ((own_below s1 s0 s1 s2) + (if s0 = s1 then (1 : Int32) else (0 : Int32)))), .unset, .unset] [(.int ((own_below s2 s0 s1 s2) + (if s0 = s2 then (1 : Int32) else (0 : Int32))))])) _
  refine Go.via (fun _ => XS.iload X558.here hx rfl (hb hby at_157) rfl) ?_
  refine Go.via (fun _ => XS.iload X558.here hx rfl (hb hby at_159) rfl) ?_
  suffices hm562 : Go p e below (T558.setTop (mkF m 169 #[.val (.int p0), .val (.int t0), .val (.int t1), .val (.int t2), .val (.int cz), .val (.int s0), .val (.int s1), .val (.int s2), .val (.ref b498), .val (.ref b508), .val (.ref b526), .val (.int (own_below s0 s0 s1 s2)), .val (.int ((own_below s1 s0 s1 s2) + (if s0 = s1 then (1 : Int32) else (0 : Int32)))), .unset, .unset] [(.int (if s1 = s2 then (1 : Int32) else (0 : Int32))), (.int ((own_below s2 s0 s1 s2) + (if s0 = s2 then (1 : Int32) else (0 : Int32))))])) (Done s (Q_rm0 Z p0 t0 t1 t2 h0 n0) room_1.cells room_1.slots) by
    by_cases hc561 : s1 = s2
    · rw [if_pos hc561] at hm562
      refine Go.via (fun _ => XS.icmpNo X558.here hx rfl (hb hby at_161) rfl (teq (hc561 : s1 = s2)).2) ?_
      refine Go.via (fun _ => XS.iconst X558.here hx rfl (hb hby at_164)) ?_
      refine Go.via (fun _ => XS.goto X558.here hx rfl (pc0 := 165) (pc' := 169) rfl (hb hby at_165) (by decide) (by decide)) ?_
      exact hm562
    · rw [if_neg hc561] at hm562
      refine Go.via (fun _ => XS.icmpYes X558.here hx rfl (pc0 := 161) (pc' := 168) rfl (hb hby at_161) rfl (feq (hc561 : ¬ (s1 = s2))).2 (by decide) (by decide)) ?_
      refine Go.via (fun _ => XS.iconst X558.here hx rfl (hb hby at_168)) ?_
      exact hm562
  show Go p e below (T558.setTop (mkF m 169 #[.val (.int p0), .val (.int t0), .val (.int t1), .val (.int t2), .val (.int cz), .val (.int s0), .val (.int s1), .val (.int s2), .val (.ref b498), .val (.ref b508), .val (.ref b526), .val (.int (own_below s0 s0 s1 s2)), .val (.int ((own_below s1 s0 s1 s2) + (if s0 = s1 then (1 : Int32) else (0 : Int32)))), .unset, .unset] [(.int (if s1 = s2 then (1 : Int32) else (0 : Int32))), (.int ((own_below s2 s0 s1 s2) + (if s0 = s2 then (1 : Int32) else (0 : Int32))))])) _
  refine Go.via (fun _ => XS.iadd X558.here hx rfl (hb hby at_169) rfl) ?_
  show Go p e below (T558.setTop (mkF m 170 #[.val (.int p0), .val (.int t0), .val (.int t1), .val (.int t2), .val (.int cz), .val (.int s0), .val (.int s1), .val (.int s2), .val (.ref b498), .val (.ref b508), .val (.ref b526), .val (.int (own_below s0 s0 s1 s2)), .val (.int ((own_below s1 s0 s1 s2) + (if s0 = s1 then (1 : Int32) else (0 : Int32)))), .unset, .unset] [(.int (((own_below s2 s0 s1 s2) + (if s0 = s2 then (1 : Int32) else (0 : Int32))) + (if s1 = s2 then (1 : Int32) else (0 : Int32))))])) _
  refine Go.via (fun _ => XS.istore X558.here hx rfl (hb hby at_170) rfl (l' := #[.val (.int p0), .val (.int t0), .val (.int t1), .val (.int t2), .val (.int cz), .val (.int s0), .val (.int s1), .val (.int s2), .val (.ref b498), .val (.ref b508), .val (.ref b526), .val (.int (own_below s0 s0 s1 s2)), .val (.int ((own_below s1 s0 s1 s2) + (if s0 = s1 then (1 : Int32) else (0 : Int32)))), .val (.int (((own_below s2 s0 s1 s2) + (if s0 = s2 then (1 : Int32) else (0 : Int32))) + (if s1 = s2 then (1 : Int32) else (0 : Int32)))), .unset]) rfl) ?_
  show Go p e below (T558.setTop (mkF m 172 #[.val (.int p0), .val (.int t0), .val (.int t1), .val (.int t2), .val (.int cz), .val (.int s0), .val (.int s1), .val (.int s2), .val (.ref b498), .val (.ref b508), .val (.ref b526), .val (.int (own_below s0 s0 s1 s2)), .val (.int ((own_below s1 s0 s1 s2) + (if s0 = s1 then (1 : Int32) else (0 : Int32)))), .val (.int (((own_below s2 s0 s1 s2) + (if s0 = s2 then (1 : Int32) else (0 : Int32))) + (if s1 = s2 then (1 : Int32) else (0 : Int32)))), .unset] [])) _
  refine Go.via (fun _ => XS.aload X558.here hx rfl (hb hby at_172) rfl rfl) ?_
  obtain ⟨cq563, kq563, q563a, q563b, q563c⟩ := isOf hZ e558 f548
  obtain ⟨_, _, ⟨T563, L563, k563, n563⟩, -, X563, ⟨Lc563, hQ563, l563, y563, z563⟩, st563⟩ := X558.virtualBack hx (y := (⟨"com/example/acquaint/acquaint/query/Adjacency", "size", "()I"⟩ : MethodName)) (z := (⟨"com/example/acquaint/acquaint/query/Adjacency", "size", "()I"⟩ : MethodName)) hown (mvT hZ (tw hw 33 rfl)) (mvT hZ (tw hw 34 rfl)) (notFace_of_selects (args := #[]) (mvT hZ (tw hw 36 rfl))) (mvT hZ (tw hw 36 rfl)) (mvT hZ (tw hw 35 rfl)) (by decide) (backOf (W := 0) (rmS l Z a0 hw [] b526 b525 v528 T522.heap n0 z554 f550 f552 qp534.1) hZ (tw hw 37 rfl) (tw hw 3 rfl) (by decide) (by decide)) q563a q563c (g := (mkF m 174 #[.val (.int p0), .val (.int t0), .val (.int t1), .val (.int t2), .val (.int cz), .val (.int s0), .val (.int s1), .val (.int s2), .val (.ref b498), .val (.ref b508), .val (.ref b526), .val (.int (own_below s0 s0 s1 s2)), .val (.int ((own_below s1 s0 s1 s2) + (if s0 = s1 then (1 : Int32) else (0 : Int32)))), .val (.int (((own_below s2 s0 s1 s2) + (if s0 = s2 then (1 : Int32) else (0 : Int32))) + (if s1 = s2 then (1 : Int32) else (0 : Int32)))), .unset] [(.ref b526)])) rfl (by rw [hml]; rfl) (Steps.refl _) (argsL := []) (rest := []) (lenOf pd__28_29I rfl) rfl (by show 2 * 0 + _ ≤ _; exact Nat.le_of_eq rfl) (hb hby at_174) (fun _ _ => ⟨rfl, e558, (by decide : 6 + 0 ≤ _), (by decide : 20 + 0 ≤ _)⟩)
  dsimp only [Pt.U, Pt.locs, Pt.cells, Pt.slots] at X563 l563 y563 z563 st563 hQ563
  subst l563 y563 z563
  obtain ⟨rfl, N563q, eh563⟩ := hQ563
  have N563 := Fr.app N558 N563q
  refine Go.via (fun _ kQ => st563.trans kQ) ?_
  clear st563
  have e563 : T563.heap = T522.heap := eh563
  clear X558 e558
  show Go p e below (T563.setTop (mkF m 177 #[.val (.int p0), .val (.int t0), .val (.int t1), .val (.int t2), .val (.int cz), .val (.int s0), .val (.int s1), .val (.int s2), .val (.ref b498), .val (.ref b508), .val (.ref b526), .val (.int (own_below s0 s0 s1 s2)), .val (.int ((own_below s1 s0 s1 s2) + (if s0 = s1 then (1 : Int32) else (0 : Int32)))), .val (.int (((own_below s2 s0 s1 s2) + (if s0 = s2 then (1 : Int32) else (0 : Int32))) + (if s1 = s2 then (1 : Int32) else (0 : Int32)))), .unset] [(.int (3 : Int32))])) _
  refine Go.via (fun _ => XS.iconst X563.here hx rfl (hb hby at_177)) ?_
  refine Go.via (fun _ => XS.icmpNo X563.here hx rfl (hb hby at_178) rfl (teq ((by decide) : (3 : Int32) = (3 : Int32))).2) ?_
  show Go p e below (T563.setTop (mkF m 181 #[.val (.int p0), .val (.int t0), .val (.int t1), .val (.int t2), .val (.int cz), .val (.int s0), .val (.int s1), .val (.int s2), .val (.ref b498), .val (.ref b508), .val (.ref b526), .val (.int (own_below s0 s0 s1 s2)), .val (.int ((own_below s1 s0 s1 s2) + (if s0 = s1 then (1 : Int32) else (0 : Int32)))), .val (.int (((own_below s2 s0 s1 s2) + (if s0 = s2 then (1 : Int32) else (0 : Int32))) + (if s1 = s2 then (1 : Int32) else (0 : Int32)))), .unset] [])) _
  refine Go.via (fun _ => XS.iconst X563.here hx rfl (hb hby at_181)) ?_
  refine Go.via (fun _ => XS.goto X563.here hx rfl (pc0 := 182) (pc' := 186) rfl (hb hby at_182) (by decide) (by decide)) ?_
  refine Go.via (fun _ => XS.istore X563.here hx rfl (hb hby at_186) rfl (l' := #[.val (.int p0), .val (.int t0), .val (.int t1), .val (.int t2), .val (.int cz), .val (.int s0), .val (.int s1), .val (.int s2), .val (.ref b498), .val (.ref b508), .val (.ref b526), .val (.int (own_below s0 s0 s1 s2)), .val (.int ((own_below s1 s0 s1 s2) + (if s0 = s1 then (1 : Int32) else (0 : Int32)))), .val (.int (((own_below s2 s0 s1 s2) + (if s0 = s2 then (1 : Int32) else (0 : Int32))) + (if s1 = s2 then (1 : Int32) else (0 : Int32)))), .val (.int (1 : Int32))]) rfl) ?_
  show Go p e below (T563.setTop (mkF m 188 #[.val (.int p0), .val (.int t0), .val (.int t1), .val (.int t2), .val (.int cz), .val (.int s0), .val (.int s1), .val (.int s2), .val (.ref b498), .val (.ref b508), .val (.ref b526), .val (.int (own_below s0 s0 s1 s2)), .val (.int ((own_below s1 s0 s1 s2) + (if s0 = s1 then (1 : Int32) else (0 : Int32)))), .val (.int (((own_below s2 s0 s1 s2) + (if s0 = s2 then (1 : Int32) else (0 : Int32))) + (if s1 = s2 then (1 : Int32) else (0 : Int32)))), .val (.int (1 : Int32))] [])) _
  refine Go.via (fun _ => XS.iload X563.here hx rfl (hb hby at_188) rfl) ?_
  refine Go.via (fun _ => XS.ifNo X563.here hx rfl (hb hby at_190) rfl ((if0 _ _).trans (feq ((by decide) : ¬ ((1 : Int32) = (0 : Int32)))).1)) ?_
  show Go p e below (T563.setTop (mkF m 193 #[.val (.int p0), .val (.int t0), .val (.int t1), .val (.int t2), .val (.int cz), .val (.int s0), .val (.int s1), .val (.int s2), .val (.ref b498), .val (.ref b508), .val (.ref b526), .val (.int (own_below s0 s0 s1 s2)), .val (.int ((own_below s1 s0 s1 s2) + (if s0 = s1 then (1 : Int32) else (0 : Int32)))), .val (.int (((own_below s2 s0 s1 s2) + (if s0 = s2 then (1 : Int32) else (0 : Int32))) + (if s1 = s2 then (1 : Int32) else (0 : Int32)))), .val (.int (1 : Int32))] [])) _
  refine Go.via (fun _ => XS.aload X563.here hx rfl (hb hby at_193) rfl rfl) ?_
  refine Go.via (fun _ => XS.iload X563.here hx rfl (hb hby at_195) rfl) ?_
  obtain ⟨cq564, kq564, q564a, q564b, q564c⟩ := isOf hZ e563 f548
  obtain ⟨_, _, ⟨T564, L564, k564, n564⟩, -, X564, ⟨Lc564, hQ564, l564, y564, z564⟩, st564⟩ := X563.virtualBack hx (y := (⟨"com/example/acquaint/acquaint/query/Adjacency", "target", "(I)I"⟩ : MethodName)) (z := (⟨"com/example/acquaint/acquaint/query/Adjacency", "target", "(I)I"⟩ : MethodName)) hown (mvT hZ (tw hw 38 rfl)) (mvT hZ (tw hw 39 rfl)) (notFace_of_selects (args := #[]) (mvT hZ (tw hw 41 rfl))) (mvT hZ (tw hw 41 rfl)) (mvT hZ (tw hw 40 rfl)) (by decide) (backOf (W := 0) (rm_target l Z a0 hw [] b526 (own_below s0 s0 s1 s2) b525 v528 t0 T522.heap n0 z554 f550 f552 (qp534.2.1).1 (qp534.2.1).2) hZ (tw hw 42 rfl) (tw hw 3 rfl) (by decide) (by decide)) q564a q564c (g := (mkF m 197 #[.val (.int p0), .val (.int t0), .val (.int t1), .val (.int t2), .val (.int cz), .val (.int s0), .val (.int s1), .val (.int s2), .val (.ref b498), .val (.ref b508), .val (.ref b526), .val (.int (own_below s0 s0 s1 s2)), .val (.int ((own_below s1 s0 s1 s2) + (if s0 = s1 then (1 : Int32) else (0 : Int32)))), .val (.int (((own_below s2 s0 s1 s2) + (if s0 = s2 then (1 : Int32) else (0 : Int32))) + (if s1 = s2 then (1 : Int32) else (0 : Int32)))), .val (.int (1 : Int32))] [(.int (own_below s0 s0 s1 s2)), (.ref b526)])) rfl (by rw [hml]; rfl) (Steps.refl _) (argsL := [(.int (own_below s0 s0 s1 s2))]) (rest := []) (lenOf pd__28I_29I rfl) rfl (by show 2 * 0 + _ ≤ _; exact Nat.le_of_eq rfl) (hb hby at_197) (fun _ _ => ⟨rfl, e563, (by decide : 6 + 0 ≤ _), (by decide : 20 + 0 ≤ _)⟩)
  dsimp only [Pt.U, Pt.locs, Pt.cells, Pt.slots] at X564 l564 y564 z564 st564 hQ564
  subst l564 y564 z564
  obtain ⟨rfl, N564q, eh564⟩ := hQ564
  have N564 := Fr.app N563 N564q
  refine Go.via (fun _ kQ => st564.trans kQ) ?_
  clear st564
  have e564 : T564.heap = T522.heap := eh564
  clear X563 e563
  show Go p e below (T564.setTop (mkF m 200 #[.val (.int p0), .val (.int t0), .val (.int t1), .val (.int t2), .val (.int cz), .val (.int s0), .val (.int s1), .val (.int s2), .val (.ref b498), .val (.ref b508), .val (.ref b526), .val (.int (own_below s0 s0 s1 s2)), .val (.int ((own_below s1 s0 s1 s2) + (if s0 = s1 then (1 : Int32) else (0 : Int32)))), .val (.int (((own_below s2 s0 s1 s2) + (if s0 = s2 then (1 : Int32) else (0 : Int32))) + (if s1 = s2 then (1 : Int32) else (0 : Int32)))), .val (.int (1 : Int32))] [(.int t0)])) _
  refine Go.via (fun _ => XS.iloadN X564.here hx rfl (hb hby at_200) rfl) ?_
  refine Go.via (fun _ => XS.icmpNo X564.here hx rfl (hb hby at_201) rfl (teq (rfl : t0 = t0)).2) ?_
  show Go p e below (T564.setTop (mkF m 204 #[.val (.int p0), .val (.int t0), .val (.int t1), .val (.int t2), .val (.int cz), .val (.int s0), .val (.int s1), .val (.int s2), .val (.ref b498), .val (.ref b508), .val (.ref b526), .val (.int (own_below s0 s0 s1 s2)), .val (.int ((own_below s1 s0 s1 s2) + (if s0 = s1 then (1 : Int32) else (0 : Int32)))), .val (.int (((own_below s2 s0 s1 s2) + (if s0 = s2 then (1 : Int32) else (0 : Int32))) + (if s1 = s2 then (1 : Int32) else (0 : Int32)))), .val (.int (1 : Int32))] [])) _
  refine Go.via (fun _ => XS.iconst X564.here hx rfl (hb hby at_204)) ?_
  refine Go.via (fun _ => XS.goto X564.here hx rfl (pc0 := 205) (pc' := 209) rfl (hb hby at_205) (by decide) (by decide)) ?_
  refine Go.via (fun _ => XS.istore X564.here hx rfl (hb hby at_209) rfl (l' := #[.val (.int p0), .val (.int t0), .val (.int t1), .val (.int t2), .val (.int cz), .val (.int s0), .val (.int s1), .val (.int s2), .val (.ref b498), .val (.ref b508), .val (.ref b526), .val (.int (own_below s0 s0 s1 s2)), .val (.int ((own_below s1 s0 s1 s2) + (if s0 = s1 then (1 : Int32) else (0 : Int32)))), .val (.int (((own_below s2 s0 s1 s2) + (if s0 = s2 then (1 : Int32) else (0 : Int32))) + (if s1 = s2 then (1 : Int32) else (0 : Int32)))), .val (.int (1 : Int32))]) rfl) ?_
  show Go p e below (T564.setTop (mkF m 211 #[.val (.int p0), .val (.int t0), .val (.int t1), .val (.int t2), .val (.int cz), .val (.int s0), .val (.int s1), .val (.int s2), .val (.ref b498), .val (.ref b508), .val (.ref b526), .val (.int (own_below s0 s0 s1 s2)), .val (.int ((own_below s1 s0 s1 s2) + (if s0 = s1 then (1 : Int32) else (0 : Int32)))), .val (.int (((own_below s2 s0 s1 s2) + (if s0 = s2 then (1 : Int32) else (0 : Int32))) + (if s1 = s2 then (1 : Int32) else (0 : Int32)))), .val (.int (1 : Int32))] [])) _
  refine Go.via (fun _ => XS.iload X564.here hx rfl (hb hby at_211) rfl) ?_
  refine Go.via (fun _ => XS.ifNo X564.here hx rfl (hb hby at_213) rfl ((if0 _ _).trans (feq ((by decide) : ¬ ((1 : Int32) = (0 : Int32)))).1)) ?_
  show Go p e below (T564.setTop (mkF m 216 #[.val (.int p0), .val (.int t0), .val (.int t1), .val (.int t2), .val (.int cz), .val (.int s0), .val (.int s1), .val (.int s2), .val (.ref b498), .val (.ref b508), .val (.ref b526), .val (.int (own_below s0 s0 s1 s2)), .val (.int ((own_below s1 s0 s1 s2) + (if s0 = s1 then (1 : Int32) else (0 : Int32)))), .val (.int (((own_below s2 s0 s1 s2) + (if s0 = s2 then (1 : Int32) else (0 : Int32))) + (if s1 = s2 then (1 : Int32) else (0 : Int32)))), .val (.int (1 : Int32))] [])) _
  refine Go.via (fun _ => XS.aload X564.here hx rfl (hb hby at_216) rfl rfl) ?_
  refine Go.via (fun _ => XS.iload X564.here hx rfl (hb hby at_218) rfl) ?_
  obtain ⟨cq565, kq565, q565a, q565b, q565c⟩ := isOf hZ e564 f548
  obtain ⟨_, _, ⟨T565, L565, k565, n565⟩, -, X565, ⟨Lc565, hQ565, l565, y565, z565⟩, st565⟩ := X564.virtualBack hx (y := (⟨"com/example/acquaint/acquaint/query/Adjacency", "target", "(I)I"⟩ : MethodName)) (z := (⟨"com/example/acquaint/acquaint/query/Adjacency", "target", "(I)I"⟩ : MethodName)) hown (mvT hZ (tw hw 38 rfl)) (mvT hZ (tw hw 39 rfl)) (notFace_of_selects (args := #[]) (mvT hZ (tw hw 41 rfl))) (mvT hZ (tw hw 41 rfl)) (mvT hZ (tw hw 40 rfl)) (by decide) (backOf (W := 0) (rm_target l Z a0 hw [] b526 ((own_below s1 s0 s1 s2) + (if s0 = s1 then (1 : Int32) else (0 : Int32))) b525 v528 t1 T522.heap n0 z554 f550 f552 (qp534.2.2.1).1 (qp534.2.2.1).2) hZ (tw hw 42 rfl) (tw hw 3 rfl) (by decide) (by decide)) q565a q565c (g := (mkF m 220 #[.val (.int p0), .val (.int t0), .val (.int t1), .val (.int t2), .val (.int cz), .val (.int s0), .val (.int s1), .val (.int s2), .val (.ref b498), .val (.ref b508), .val (.ref b526), .val (.int (own_below s0 s0 s1 s2)), .val (.int ((own_below s1 s0 s1 s2) + (if s0 = s1 then (1 : Int32) else (0 : Int32)))), .val (.int (((own_below s2 s0 s1 s2) + (if s0 = s2 then (1 : Int32) else (0 : Int32))) + (if s1 = s2 then (1 : Int32) else (0 : Int32)))), .val (.int (1 : Int32))] [(.int ((own_below s1 s0 s1 s2) + (if s0 = s1 then (1 : Int32) else (0 : Int32)))), (.ref b526)])) rfl (by rw [hml]; rfl) (Steps.refl _) (argsL := [(.int ((own_below s1 s0 s1 s2) + (if s0 = s1 then (1 : Int32) else (0 : Int32))))]) (rest := []) (lenOf pd__28I_29I rfl) rfl (by show 2 * 0 + _ ≤ _; exact Nat.le_of_eq rfl) (hb hby at_220) (fun _ _ => ⟨rfl, e564, (by decide : 6 + 0 ≤ _), (by decide : 20 + 0 ≤ _)⟩)
  dsimp only [Pt.U, Pt.locs, Pt.cells, Pt.slots] at X565 l565 y565 z565 st565 hQ565
  subst l565 y565 z565
  obtain ⟨rfl, N565q, eh565⟩ := hQ565
  have N565 := Fr.app N564 N565q
  refine Go.via (fun _ kQ => st565.trans kQ) ?_
  clear st565
  have e565 : T565.heap = T522.heap := eh565
  clear X564 e564
  show Go p e below (T565.setTop (mkF m 223 #[.val (.int p0), .val (.int t0), .val (.int t1), .val (.int t2), .val (.int cz), .val (.int s0), .val (.int s1), .val (.int s2), .val (.ref b498), .val (.ref b508), .val (.ref b526), .val (.int (own_below s0 s0 s1 s2)), .val (.int ((own_below s1 s0 s1 s2) + (if s0 = s1 then (1 : Int32) else (0 : Int32)))), .val (.int (((own_below s2 s0 s1 s2) + (if s0 = s2 then (1 : Int32) else (0 : Int32))) + (if s1 = s2 then (1 : Int32) else (0 : Int32)))), .val (.int (1 : Int32))] [(.int t1)])) _
  refine Go.via (fun _ => XS.iloadN X565.here hx rfl (hb hby at_223) rfl) ?_
  refine Go.via (fun _ => XS.icmpNo X565.here hx rfl (hb hby at_224) rfl (teq (rfl : t1 = t1)).2) ?_
  show Go p e below (T565.setTop (mkF m 227 #[.val (.int p0), .val (.int t0), .val (.int t1), .val (.int t2), .val (.int cz), .val (.int s0), .val (.int s1), .val (.int s2), .val (.ref b498), .val (.ref b508), .val (.ref b526), .val (.int (own_below s0 s0 s1 s2)), .val (.int ((own_below s1 s0 s1 s2) + (if s0 = s1 then (1 : Int32) else (0 : Int32)))), .val (.int (((own_below s2 s0 s1 s2) + (if s0 = s2 then (1 : Int32) else (0 : Int32))) + (if s1 = s2 then (1 : Int32) else (0 : Int32)))), .val (.int (1 : Int32))] [])) _
  refine Go.via (fun _ => XS.iconst X565.here hx rfl (hb hby at_227)) ?_
  refine Go.via (fun _ => XS.goto X565.here hx rfl (pc0 := 228) (pc' := 232) rfl (hb hby at_228) (by decide) (by decide)) ?_
  refine Go.via (fun _ => XS.istore X565.here hx rfl (hb hby at_232) rfl (l' := #[.val (.int p0), .val (.int t0), .val (.int t1), .val (.int t2), .val (.int cz), .val (.int s0), .val (.int s1), .val (.int s2), .val (.ref b498), .val (.ref b508), .val (.ref b526), .val (.int (own_below s0 s0 s1 s2)), .val (.int ((own_below s1 s0 s1 s2) + (if s0 = s1 then (1 : Int32) else (0 : Int32)))), .val (.int (((own_below s2 s0 s1 s2) + (if s0 = s2 then (1 : Int32) else (0 : Int32))) + (if s1 = s2 then (1 : Int32) else (0 : Int32)))), .val (.int (1 : Int32))]) rfl) ?_
  show Go p e below (T565.setTop (mkF m 234 #[.val (.int p0), .val (.int t0), .val (.int t1), .val (.int t2), .val (.int cz), .val (.int s0), .val (.int s1), .val (.int s2), .val (.ref b498), .val (.ref b508), .val (.ref b526), .val (.int (own_below s0 s0 s1 s2)), .val (.int ((own_below s1 s0 s1 s2) + (if s0 = s1 then (1 : Int32) else (0 : Int32)))), .val (.int (((own_below s2 s0 s1 s2) + (if s0 = s2 then (1 : Int32) else (0 : Int32))) + (if s1 = s2 then (1 : Int32) else (0 : Int32)))), .val (.int (1 : Int32))] [])) _
  refine Go.via (fun _ => XS.iload X565.here hx rfl (hb hby at_234) rfl) ?_
  refine Go.via (fun _ => XS.ifNo X565.here hx rfl (hb hby at_236) rfl ((if0 _ _).trans (feq ((by decide) : ¬ ((1 : Int32) = (0 : Int32)))).1)) ?_
  show Go p e below (T565.setTop (mkF m 239 #[.val (.int p0), .val (.int t0), .val (.int t1), .val (.int t2), .val (.int cz), .val (.int s0), .val (.int s1), .val (.int s2), .val (.ref b498), .val (.ref b508), .val (.ref b526), .val (.int (own_below s0 s0 s1 s2)), .val (.int ((own_below s1 s0 s1 s2) + (if s0 = s1 then (1 : Int32) else (0 : Int32)))), .val (.int (((own_below s2 s0 s1 s2) + (if s0 = s2 then (1 : Int32) else (0 : Int32))) + (if s1 = s2 then (1 : Int32) else (0 : Int32)))), .val (.int (1 : Int32))] [])) _
  refine Go.via (fun _ => XS.aload X565.here hx rfl (hb hby at_239) rfl rfl) ?_
  refine Go.via (fun _ => XS.iload X565.here hx rfl (hb hby at_241) rfl) ?_
  obtain ⟨cq566, kq566, q566a, q566b, q566c⟩ := isOf hZ e565 f548
  obtain ⟨_, _, ⟨T566, L566, k566, n566⟩, -, X566, ⟨Lc566, hQ566, l566, y566, z566⟩, st566⟩ := X565.virtualBack hx (y := (⟨"com/example/acquaint/acquaint/query/Adjacency", "target", "(I)I"⟩ : MethodName)) (z := (⟨"com/example/acquaint/acquaint/query/Adjacency", "target", "(I)I"⟩ : MethodName)) hown (mvT hZ (tw hw 38 rfl)) (mvT hZ (tw hw 39 rfl)) (notFace_of_selects (args := #[]) (mvT hZ (tw hw 41 rfl))) (mvT hZ (tw hw 41 rfl)) (mvT hZ (tw hw 40 rfl)) (by decide) (backOf (W := 0) (rm_target l Z a0 hw [] b526 (((own_below s2 s0 s1 s2) + (if s0 = s2 then (1 : Int32) else (0 : Int32))) + (if s1 = s2 then (1 : Int32) else (0 : Int32))) b525 v528 t2 T522.heap n0 z554 f550 f552 (qp534.2.2.2.1).1 (qp534.2.2.2.1).2) hZ (tw hw 42 rfl) (tw hw 3 rfl) (by decide) (by decide)) q566a q566c (g := (mkF m 243 #[.val (.int p0), .val (.int t0), .val (.int t1), .val (.int t2), .val (.int cz), .val (.int s0), .val (.int s1), .val (.int s2), .val (.ref b498), .val (.ref b508), .val (.ref b526), .val (.int (own_below s0 s0 s1 s2)), .val (.int ((own_below s1 s0 s1 s2) + (if s0 = s1 then (1 : Int32) else (0 : Int32)))), .val (.int (((own_below s2 s0 s1 s2) + (if s0 = s2 then (1 : Int32) else (0 : Int32))) + (if s1 = s2 then (1 : Int32) else (0 : Int32)))), .val (.int (1 : Int32))] [(.int (((own_below s2 s0 s1 s2) + (if s0 = s2 then (1 : Int32) else (0 : Int32))) + (if s1 = s2 then (1 : Int32) else (0 : Int32)))), (.ref b526)])) rfl (by rw [hml]; rfl) (Steps.refl _) (argsL := [(.int (((own_below s2 s0 s1 s2) + (if s0 = s2 then (1 : Int32) else (0 : Int32))) + (if s1 = s2 then (1 : Int32) else (0 : Int32))))]) (rest := []) (lenOf pd__28I_29I rfl) rfl (by show 2 * 0 + _ ≤ _; exact Nat.le_of_eq rfl) (hb hby at_243) (fun _ _ => ⟨rfl, e565, (by decide : 6 + 0 ≤ _), (by decide : 20 + 0 ≤ _)⟩)
  dsimp only [Pt.U, Pt.locs, Pt.cells, Pt.slots] at X566 l566 y566 z566 st566 hQ566
  subst l566 y566 z566
  obtain ⟨rfl, N566q, eh566⟩ := hQ566
  have N566 := Fr.app N565 N566q
  refine Go.via (fun _ kQ => st566.trans kQ) ?_
  clear st566
  have e566 : T566.heap = T522.heap := eh566
  clear X565 e565
  show Go p e below (T566.setTop (mkF m 246 #[.val (.int p0), .val (.int t0), .val (.int t1), .val (.int t2), .val (.int cz), .val (.int s0), .val (.int s1), .val (.int s2), .val (.ref b498), .val (.ref b508), .val (.ref b526), .val (.int (own_below s0 s0 s1 s2)), .val (.int ((own_below s1 s0 s1 s2) + (if s0 = s1 then (1 : Int32) else (0 : Int32)))), .val (.int (((own_below s2 s0 s1 s2) + (if s0 = s2 then (1 : Int32) else (0 : Int32))) + (if s1 = s2 then (1 : Int32) else (0 : Int32)))), .val (.int (1 : Int32))] [(.int t2)])) _
  refine Go.via (fun _ => XS.iloadN X566.here hx rfl (hb hby at_246) rfl) ?_
  refine Go.via (fun _ => XS.icmpNo X566.here hx rfl (hb hby at_247) rfl (teq (rfl : t2 = t2)).2) ?_
  show Go p e below (T566.setTop (mkF m 250 #[.val (.int p0), .val (.int t0), .val (.int t1), .val (.int t2), .val (.int cz), .val (.int s0), .val (.int s1), .val (.int s2), .val (.ref b498), .val (.ref b508), .val (.ref b526), .val (.int (own_below s0 s0 s1 s2)), .val (.int ((own_below s1 s0 s1 s2) + (if s0 = s1 then (1 : Int32) else (0 : Int32)))), .val (.int (((own_below s2 s0 s1 s2) + (if s0 = s2 then (1 : Int32) else (0 : Int32))) + (if s1 = s2 then (1 : Int32) else (0 : Int32)))), .val (.int (1 : Int32))] [])) _
  refine Go.via (fun _ => XS.iconst X566.here hx rfl (hb hby at_250)) ?_
  refine Go.via (fun _ => XS.goto X566.here hx rfl (pc0 := 251) (pc' := 255) rfl (hb hby at_251) (by decide) (by decide)) ?_
  refine Go.via (fun _ => XS.istore X566.here hx rfl (hb hby at_255) rfl (l' := #[.val (.int p0), .val (.int t0), .val (.int t1), .val (.int t2), .val (.int cz), .val (.int s0), .val (.int s1), .val (.int s2), .val (.ref b498), .val (.ref b508), .val (.ref b526), .val (.int (own_below s0 s0 s1 s2)), .val (.int ((own_below s1 s0 s1 s2) + (if s0 = s1 then (1 : Int32) else (0 : Int32)))), .val (.int (((own_below s2 s0 s1 s2) + (if s0 = s2 then (1 : Int32) else (0 : Int32))) + (if s1 = s2 then (1 : Int32) else (0 : Int32)))), .val (.int (1 : Int32))]) rfl) ?_
  show Go p e below (T566.setTop (mkF m 257 #[.val (.int p0), .val (.int t0), .val (.int t1), .val (.int t2), .val (.int cz), .val (.int s0), .val (.int s1), .val (.int s2), .val (.ref b498), .val (.ref b508), .val (.ref b526), .val (.int (own_below s0 s0 s1 s2)), .val (.int ((own_below s1 s0 s1 s2) + (if s0 = s1 then (1 : Int32) else (0 : Int32)))), .val (.int (((own_below s2 s0 s1 s2) + (if s0 = s2 then (1 : Int32) else (0 : Int32))) + (if s1 = s2 then (1 : Int32) else (0 : Int32)))), .val (.int (1 : Int32))] [])) _
  refine Go.via (fun _ => XS.iload X566.here hx rfl (hb hby at_257) rfl) ?_
  refine Go.via (fun _ => XS.ifNo X566.here hx rfl (hb hby at_259) rfl ((if0 _ _).trans (feq ((by decide) : ¬ ((1 : Int32) = (0 : Int32)))).1)) ?_
  show Go p e below (T566.setTop (mkF m 262 #[.val (.int p0), .val (.int t0), .val (.int t1), .val (.int t2), .val (.int cz), .val (.int s0), .val (.int s1), .val (.int s2), .val (.ref b498), .val (.ref b508), .val (.ref b526), .val (.int (own_below s0 s0 s1 s2)), .val (.int ((own_below s1 s0 s1 s2) + (if s0 = s1 then (1 : Int32) else (0 : Int32)))), .val (.int (((own_below s2 s0 s1 s2) + (if s0 = s2 then (1 : Int32) else (0 : Int32))) + (if s1 = s2 then (1 : Int32) else (0 : Int32)))), .val (.int (1 : Int32))] [])) _
  refine Go.via (fun _ => XS.aload X566.here hx rfl (hb hby at_262) rfl rfl) ?_
  refine Go.via (fun _ => XS.iconst X566.here hx rfl (hb hby at_264)) ?_
  obtain ⟨cq567, kq567, q567a, q567b, q567c⟩ := isOf hZ e566 f548
  obtain ⟨_, _, ⟨T567, L567, k567, n567⟩, -, X567, ⟨Lc567, hQ567, l567, y567, z567⟩, st567⟩ := X566.virtualBack hx (y := (⟨"com/example/acquaint/acquaint/query/Adjacency", "start", "(I)I"⟩ : MethodName)) (z := (⟨"com/example/acquaint/acquaint/query/Adjacency", "start", "(I)I"⟩ : MethodName)) hown (mvT hZ (tw hw 43 rfl)) (mvT hZ (tw hw 44 rfl)) (notFace_of_selects (args := #[]) (mvT hZ (tw hw 46 rfl))) (mvT hZ (tw hw 46 rfl)) (mvT hZ (tw hw 45 rfl)) (by decide) (backOf (W := 0) (rm_start l Z a0 hw [] b526 (0 : Int32) b524 v527 (0 : Int32) T522.heap n0 z554 f549 f551 (by decide) qp534.2.2.2.2.1) hZ (tw hw 47 rfl) (tw hw 3 rfl) (by decide) (by decide)) q567a q567c (g := (mkF m 265 #[.val (.int p0), .val (.int t0), .val (.int t1), .val (.int t2), .val (.int cz), .val (.int s0), .val (.int s1), .val (.int s2), .val (.ref b498), .val (.ref b508), .val (.ref b526), .val (.int (own_below s0 s0 s1 s2)), .val (.int ((own_below s1 s0 s1 s2) + (if s0 = s1 then (1 : Int32) else (0 : Int32)))), .val (.int (((own_below s2 s0 s1 s2) + (if s0 = s2 then (1 : Int32) else (0 : Int32))) + (if s1 = s2 then (1 : Int32) else (0 : Int32)))), .val (.int (1 : Int32))] [(.int (0 : Int32)), (.ref b526)])) rfl (by rw [hml]; rfl) (Steps.refl _) (argsL := [(.int (0 : Int32))]) (rest := []) (lenOf pd__28I_29I rfl) rfl (by show 2 * 0 + _ ≤ _; exact Nat.le_of_eq rfl) (hb hby at_265) (fun _ _ => ⟨rfl, e566, (by decide : 6 + 0 ≤ _), (by decide : 20 + 0 ≤ _)⟩)
  dsimp only [Pt.U, Pt.locs, Pt.cells, Pt.slots] at X567 l567 y567 z567 st567 hQ567
  subst l567 y567 z567
  obtain ⟨rfl, N567q, eh567⟩ := hQ567
  have N567 := Fr.app N566 N567q
  refine Go.via (fun _ kQ => st567.trans kQ) ?_
  clear st567
  have e567 : T567.heap = T522.heap := eh567
  clear X566 e566
  show Go p e below (T567.setTop (mkF m 268 #[.val (.int p0), .val (.int t0), .val (.int t1), .val (.int t2), .val (.int cz), .val (.int s0), .val (.int s1), .val (.int s2), .val (.ref b498), .val (.ref b508), .val (.ref b526), .val (.int (own_below s0 s0 s1 s2)), .val (.int ((own_below s1 s0 s1 s2) + (if s0 = s1 then (1 : Int32) else (0 : Int32)))), .val (.int (((own_below s2 s0 s1 s2) + (if s0 = s2 then (1 : Int32) else (0 : Int32))) + (if s1 = s2 then (1 : Int32) else (0 : Int32)))), .val (.int (1 : Int32))] [(.int (0 : Int32))])) _
  refine Go.via (fun _ => XS.ifNo X567.here hx rfl (hb hby at_268) rfl ((if0 _ _).trans (teq ((by decide) : (0 : Int32) = (0 : Int32))).2)) ?_
  show Go p e below (T567.setTop (mkF m 271 #[.val (.int p0), .val (.int t0), .val (.int t1), .val (.int t2), .val (.int cz), .val (.int s0), .val (.int s1), .val (.int s2), .val (.ref b498), .val (.ref b508), .val (.ref b526), .val (.int (own_below s0 s0 s1 s2)), .val (.int ((own_below s1 s0 s1 s2) + (if s0 = s1 then (1 : Int32) else (0 : Int32)))), .val (.int (((own_below s2 s0 s1 s2) + (if s0 = s2 then (1 : Int32) else (0 : Int32))) + (if s1 = s2 then (1 : Int32) else (0 : Int32)))), .val (.int (1 : Int32))] [])) _
  refine Go.via (fun _ => XS.iconst X567.here hx rfl (hb hby at_271)) ?_
  refine Go.via (fun _ => XS.goto X567.here hx rfl (pc0 := 272) (pc' := 276) rfl (hb hby at_272) (by decide) (by decide)) ?_
  refine Go.via (fun _ => XS.istore X567.here hx rfl (hb hby at_276) rfl (l' := #[.val (.int p0), .val (.int t0), .val (.int t1), .val (.int t2), .val (.int cz), .val (.int s0), .val (.int s1), .val (.int s2), .val (.ref b498), .val (.ref b508), .val (.ref b526), .val (.int (own_below s0 s0 s1 s2)), .val (.int ((own_below s1 s0 s1 s2) + (if s0 = s1 then (1 : Int32) else (0 : Int32)))), .val (.int (((own_below s2 s0 s1 s2) + (if s0 = s2 then (1 : Int32) else (0 : Int32))) + (if s1 = s2 then (1 : Int32) else (0 : Int32)))), .val (.int (1 : Int32))]) rfl) ?_
  show Go p e below (T567.setTop (mkF m 278 #[.val (.int p0), .val (.int t0), .val (.int t1), .val (.int t2), .val (.int cz), .val (.int s0), .val (.int s1), .val (.int s2), .val (.ref b498), .val (.ref b508), .val (.ref b526), .val (.int (own_below s0 s0 s1 s2)), .val (.int ((own_below s1 s0 s1 s2) + (if s0 = s1 then (1 : Int32) else (0 : Int32)))), .val (.int (((own_below s2 s0 s1 s2) + (if s0 = s2 then (1 : Int32) else (0 : Int32))) + (if s1 = s2 then (1 : Int32) else (0 : Int32)))), .val (.int (1 : Int32))] [])) _
  refine Go.via (fun _ => XS.iload X567.here hx rfl (hb hby at_278) rfl) ?_
  refine Go.via (fun _ => XS.iconst X567.here hx rfl (hb hby at_280)) ?_
  by_cases hc568 : (1 : Int32) < cz
  · refine Go.via (fun _ => XS.icmpNo X567.here hx rfl (hb hby at_281) rfl (tlt (hc568 : (1 : Int32) < cz)).2.2.2) ?_
    refine Go.via (fun _ => XS.iload X567.here hx rfl (hb hby at_284) rfl) ?_
    refine Go.via (fun _ => XS.ifNo X567.here hx rfl (hb hby at_286) rfl ((if0 _ _).trans (feq ((by decide) : ¬ ((1 : Int32) = (0 : Int32)))).1)) ?_
    show Go p e below (T567.setTop (mkF m 289 #[.val (.int p0), .val (.int t0), .val (.int t1), .val (.int t2), .val (.int cz), .val (.int s0), .val (.int s1), .val (.int s2), .val (.ref b498), .val (.ref b508), .val (.ref b526), .val (.int (own_below s0 s0 s1 s2)), .val (.int ((own_below s1 s0 s1 s2) + (if s0 = s1 then (1 : Int32) else (0 : Int32)))), .val (.int (((own_below s2 s0 s1 s2) + (if s0 = s2 then (1 : Int32) else (0 : Int32))) + (if s1 = s2 then (1 : Int32) else (0 : Int32)))), .val (.int (1 : Int32))] [])) _
    refine Go.via (fun _ => XS.aload X567.here hx rfl (hb hby at_289) rfl rfl) ?_
    refine Go.via (fun _ => XS.iconst X567.here hx rfl (hb hby at_291)) ?_
    obtain ⟨cq569, kq569, q569a, q569b, q569c⟩ := isOf hZ e567 f548
    obtain ⟨_, _, ⟨T569, L569, k569, n569⟩, -, X569, ⟨Lc569, hQ569, l569, y569, z569⟩, st569⟩ := X567.virtualBack hx (y := (⟨"com/example/acquaint/acquaint/query/Adjacency", "start", "(I)I"⟩ : MethodName)) (z := (⟨"com/example/acquaint/acquaint/query/Adjacency", "start", "(I)I"⟩ : MethodName)) hown (mvT hZ (tw hw 43 rfl)) (mvT hZ (tw hw 44 rfl)) (notFace_of_selects (args := #[]) (mvT hZ (tw hw 46 rfl))) (mvT hZ (tw hw 46 rfl)) (mvT hZ (tw hw 45 rfl)) (by decide) (backOf (W := 0) (rm_start l Z a0 hw [] b526 (1 : Int32) b524 v527 (own_below (1 : Int32) s0 s1 s2) T522.heap n0 z554 f549 f551 (by decide) (qp534.2.2.2.2.2.1 (by assumption))) hZ (tw hw 47 rfl) (tw hw 3 rfl) (by decide) (by decide)) q569a q569c (g := (mkF m 292 #[.val (.int p0), .val (.int t0), .val (.int t1), .val (.int t2), .val (.int cz), .val (.int s0), .val (.int s1), .val (.int s2), .val (.ref b498), .val (.ref b508), .val (.ref b526), .val (.int (own_below s0 s0 s1 s2)), .val (.int ((own_below s1 s0 s1 s2) + (if s0 = s1 then (1 : Int32) else (0 : Int32)))), .val (.int (((own_below s2 s0 s1 s2) + (if s0 = s2 then (1 : Int32) else (0 : Int32))) + (if s1 = s2 then (1 : Int32) else (0 : Int32)))), .val (.int (1 : Int32))] [(.int (1 : Int32)), (.ref b526)])) rfl (by rw [hml]; rfl) (Steps.refl _) (argsL := [(.int (1 : Int32))]) (rest := []) (lenOf pd__28I_29I rfl) rfl (by show 2 * 0 + _ ≤ _; exact Nat.le_of_eq rfl) (hb hby at_292) (fun _ _ => ⟨rfl, e567, (by decide : 6 + 0 ≤ _), (by decide : 20 + 0 ≤ _)⟩)
    dsimp only [Pt.U, Pt.locs, Pt.cells, Pt.slots] at X569 l569 y569 z569 st569 hQ569
    subst l569 y569 z569
    obtain ⟨rfl, N569q, eh569⟩ := hQ569
    have N569 := Fr.app N567 N569q
    refine Go.via (fun _ kQ => st569.trans kQ) ?_
    clear st569
    have e569 : T569.heap = T522.heap := eh569
    clear X567 e567
    show Go p e below (T569.setTop (mkF m 295 #[.val (.int p0), .val (.int t0), .val (.int t1), .val (.int t2), .val (.int cz), .val (.int s0), .val (.int s1), .val (.int s2), .val (.ref b498), .val (.ref b508), .val (.ref b526), .val (.int (own_below s0 s0 s1 s2)), .val (.int ((own_below s1 s0 s1 s2) + (if s0 = s1 then (1 : Int32) else (0 : Int32)))), .val (.int (((own_below s2 s0 s1 s2) + (if s0 = s2 then (1 : Int32) else (0 : Int32))) + (if s1 = s2 then (1 : Int32) else (0 : Int32)))), .val (.int (1 : Int32))] [(.int (own_below (1 : Int32) s0 s1 s2))])) _
    refine Go.via (fun _ => XS.iconst X569.here hx rfl (hb hby at_295)) ?_
    refine Go.via (fun _ => XS.iload X569.here hx rfl (hb hby at_296) rfl) ?_
    refine Go.via (fun _ => XS.iload X569.here hx rfl (hb hby at_298) rfl) ?_
    refine Go.via (fun _ => XS.iload X569.here hx rfl (hb hby at_300) rfl) ?_
    show Go p e below (T569.setTop (mkF m 302 #[.val (.int p0), .val (.int t0), .val (.int t1), .val (.int t2), .val (.int cz), .val (.int s0), .val (.int s1), .val (.int s2), .val (.ref b498), .val (.ref b508), .val (.ref b526), .val (.int (own_below s0 s0 s1 s2)), .val (.int ((own_below s1 s0 s1 s2) + (if s0 = s1 then (1 : Int32) else (0 : Int32)))), .val (.int (((own_below s2 s0 s1 s2) + (if s0 = s2 then (1 : Int32) else (0 : Int32))) + (if s1 = s2 then (1 : Int32) else (0 : Int32)))), .val (.int (1 : Int32))] [(.int s2), (.int s1), (.int s0), (.int (1 : Int32)), (.int (own_below (1 : Int32) s0 s1 s2))])) _
    obtain ⟨_, _, ⟨T570, L570, k570, n570⟩, -, X570, ⟨Lc570, hQ570, l570, y570, z570⟩, st570⟩ := Jvm.LawKit.callS X569 hx (y := (⟨"com/example/acquaint/acquaint/query/AdjacencyOfPinLaw", "below", "(IIII)I"⟩ : MethodName)) hown (mvT hZ (tw hw 29 rfl)) (mvT hZ (tw hw 30 rfl)) (mvT hZ (tw hw 31 rfl)) (mvT hZ (tw hw 32 rfl)) (by decide) (backOf (W := 1) (rmW l Z a0 hw [] (1 : Int32) s0 s1 s2  T522.heap n0 z554) hZ (tw hw 32 rfl) (tw hw 31 rfl) (by decide) (by decide)) (g := (mkF m 302 #[.val (.int p0), .val (.int t0), .val (.int t1), .val (.int t2), .val (.int cz), .val (.int s0), .val (.int s1), .val (.int s2), .val (.ref b498), .val (.ref b508), .val (.ref b526), .val (.int (own_below s0 s0 s1 s2)), .val (.int ((own_below s1 s0 s1 s2) + (if s0 = s1 then (1 : Int32) else (0 : Int32)))), .val (.int (((own_below s2 s0 s1 s2) + (if s0 = s2 then (1 : Int32) else (0 : Int32))) + (if s1 = s2 then (1 : Int32) else (0 : Int32)))), .val (.int (1 : Int32))] [(.int s2), (.int s1), (.int s0), (.int (1 : Int32)), (.int (own_below (1 : Int32) s0 s1 s2))])) rfl (by rw [hml]; rfl) (argsL := [(.int (1 : Int32)), (.int s0), (.int s1), (.int s2)]) (rest := [(.int (own_below (1 : Int32) s0 s1 s2))]) (lenOf pd__28IIII_29I rfl) rfl (by show 2 * 0 + _ ≤ _; exact Nat.le_of_eq rfl) (hb hby at_302) (fun _ _ => ⟨rfl, e569, (by decide : 6 + 0 ≤ _), (by decide : 20 + 0 ≤ _)⟩)
    dsimp only [Pt.U, Pt.locs, Pt.cells, Pt.slots] at X570 l570 y570 z570 st570 hQ570
    subst l570 y570 z570
    obtain ⟨rfl, N570q, eh570⟩ := hQ570
    have N570 := Fr.app N569 N570q
    refine Go.via (st570) ?_
    clear st570
    have e570 : T570.heap = T522.heap := eh570
    clear X569 e569
    show Go p e below (T570.setTop (mkF m 305 #[.val (.int p0), .val (.int t0), .val (.int t1), .val (.int t2), .val (.int cz), .val (.int s0), .val (.int s1), .val (.int s2), .val (.ref b498), .val (.ref b508), .val (.ref b526), .val (.int (own_below s0 s0 s1 s2)), .val (.int ((own_below s1 s0 s1 s2) + (if s0 = s1 then (1 : Int32) else (0 : Int32)))), .val (.int (((own_below s2 s0 s1 s2) + (if s0 = s2 then (1 : Int32) else (0 : Int32))) + (if s1 = s2 then (1 : Int32) else (0 : Int32)))), .val (.int (1 : Int32))] [(.int (own_below (1 : Int32) s0 s1 s2)), (.int (own_below (1 : Int32) s0 s1 s2))])) _
    refine Go.via (fun _ => XS.icmpNo X570.here hx rfl (hb hby at_305) rfl (teq (rfl : (own_below (1 : Int32) s0 s1 s2) = (own_below (1 : Int32) s0 s1 s2))).2) ?_
    show Go p e below (T570.setTop (mkF m 308 #[.val (.int p0), .val (.int t0), .val (.int t1), .val (.int t2), .val (.int cz), .val (.int s0), .val (.int s1), .val (.int s2), .val (.ref b498), .val (.ref b508), .val (.ref b526), .val (.int (own_below s0 s0 s1 s2)), .val (.int ((own_below s1 s0 s1 s2) + (if s0 = s1 then (1 : Int32) else (0 : Int32)))), .val (.int (((own_below s2 s0 s1 s2) + (if s0 = s2 then (1 : Int32) else (0 : Int32))) + (if s1 = s2 then (1 : Int32) else (0 : Int32)))), .val (.int (1 : Int32))] [])) _
    refine Go.via (fun _ => XS.iconst X570.here hx rfl (hb hby at_308)) ?_
    refine Go.via (fun _ => XS.goto X570.here hx rfl (pc0 := 309) (pc' := 313) rfl (hb hby at_309) (by decide) (by decide)) ?_
    refine Go.via (fun _ => XS.istore X570.here hx rfl (hb hby at_313) rfl (l' := #[.val (.int p0), .val (.int t0), .val (.int t1), .val (.int t2), .val (.int cz), .val (.int s0), .val (.int s1), .val (.int s2), .val (.ref b498), .val (.ref b508), .val (.ref b526), .val (.int (own_below s0 s0 s1 s2)), .val (.int ((own_below s1 s0 s1 s2) + (if s0 = s1 then (1 : Int32) else (0 : Int32)))), .val (.int (((own_below s2 s0 s1 s2) + (if s0 = s2 then (1 : Int32) else (0 : Int32))) + (if s1 = s2 then (1 : Int32) else (0 : Int32)))), .val (.int (1 : Int32))]) rfl) ?_
    have f571 : Ia Z T522.heap b498 .int [s0, s1, s2] := (f521.keep K522q nin0)
    have f572 : Ia Z T522.heap b508 .int [t0, t1, t2] := (f520.keep K522q nin0)
    have k573 : Keep h0 T522.heap [] := (k539.trans K522q all0)
    exact J2 T570 _ T522.heap cz s0 s1 s2 b498 b508 b526 ((own_below s1 s0 s1 s2) + (if s0 = s1 then (1 : Int32) else (0 : Int32))) (((own_below s2 s0 s1 s2) + (if s0 = s2 then (1 : Int32) else (0 : Int32))) + (if s1 = s2 then (1 : Int32) else (0 : Int32))) b524 b525 v527 v528 X570 e570 N570 z554 k573 f571 f572 f548 f549 f550 f551 f552 qp534
  · refine Go.via (fun _ => XS.icmpYes X567.here hx rfl (pc0 := 281) (pc' := 315) rfl (hb hby at_281) rfl (flt (hc568 : ¬ ((1 : Int32) < cz))).2.2.2 (by decide) (by decide)) ?_
    have f574 : Ia Z T522.heap b498 .int [s0, s1, s2] := (f521.keep K522q nin0)
    have f575 : Ia Z T522.heap b508 .int [t0, t1, t2] := (f520.keep K522q nin0)
    have k576 : Keep h0 T522.heap [] := (k539.trans K522q all0)
    exact J2 T567 _ T522.heap cz s0 s1 s2 b498 b508 b526 ((own_below s1 s0 s1 s2) + (if s0 = s1 then (1 : Int32) else (0 : Int32))) (((own_below s2 s0 s1 s2) + (if s0 = s2 then (1 : Int32) else (0 : Int32))) + (if s1 = s2 then (1 : Int32) else (0 : Int32))) b524 b525 v527 v528 X567 e567 N567 z554 k576 f574 f575 f548 f549 f550 f551 f552 qp534
set_option maxRecDepth 65536 in
set_option maxHeartbeats 40000000 in
theorem comes_1 {Post : Tables → Env → Array Value → State → Outcome → State → Prop} (hpost : ∀ tb e args s v u, (limb_1_1.after args s (.returned v) u = true ∧ limb_1_2.after args s (.returned v) u = true ∧ True) → FrameEnd s (.returned v) u (Jvm.fieldLocs frame_1_writes args s ++ Jvm.arrayLocs frame_1_arrays args s ++ Jvm.staticLocs frame_1_statics s) 24 128 → Post tb e args s (.returned v) u) :
    ArmFor flags0 classFile x code maxLocals ret World_1 tables_1 room_1 Calls_1 rest_1 Pre_1 Post := by
  intro l hfl _ _ p e ha hc hk s m args below hf hA hF happ hP
  obtain ⟨hcalls, hrest, hpre⟩ := hP
  obtain ⟨-, -, -, hnamed, -, -, -, hat⟩ := (Spec.applies_iff hf).mp happ
  obtain ⟨hg, hn⟩ := and_e (Cond.before_iff.mp (show (Jvm.Cond.and given_1 narrow_1).before args s = true from hpre))
  obtain ⟨g0, r0⟩ := and_e hg
  obtain ⟨q0, r1⟩ := and_e r0
  obtain ⟨q1, r2⟩ := and_e r1
  obtain ⟨q2, r3⟩ := and_e r2
  have q3 := r3
  obtain ⟨w0, w1, w2, w3, rfl⟩ : ∃ w0 w1 w2 w3 : Value, args = #[w0, w1, w2, w3] := by
    have hs : args.size = 4 := by simpa [Cond.value, given_1] using g0
    obtain ⟨L⟩ := args
    match L, hs with
    | [w0, w1, w2, w3], _ => exact ⟨w0, w1, w2, w3, rfl⟩
  have hw := fun d (hd : d ∈ tables_1) => atoms_spec (ws := Jvm.Cond.code x code maxLocals ret :: tables_1) hat d (List.mem_cons_of_mem _ hd)
  have hfit : Fit s := fun {y c} hc i hi => by
    obtain ⟨ha, rfl⟩ := Array.getElem?_eq_some_iff.mp hc
    have q := List.all_eq_true.mp ((Array.all_eq_true_iff_forall_mem.mp hF) _ (Array.getElem_mem ha)) i (List.mem_range.mpr hi)
    simpa [Array.getElem?_eq_getElem hi] using q
  obtain ⟨i0, ei0⟩ := is_v q0
  obtain rfl : w0 = (.int i0) := Option.some.inj ei0
  obtain ⟨i1, ei1⟩ := is_v q1
  obtain rfl : w1 = (.int i1) := Option.some.inj ei1
  obtain ⟨i2, ei2⟩ := is_v q2
  obtain rfl : w2 = (.int i2) := Option.some.inj ei2
  obtain ⟨i3, ei3⟩ := is_v q3
  obtain rfl : w3 = (.int i3) := Option.some.inj ei3
  obtain ⟨n, o, h1, h2, h3, _, L, rfl, ⟨rfl, N, -⟩, hq⟩ := rm0 l s _ hw tables_1 i0 i1 i2 i3  s.heap s.heap.size (Nat.le_refl _)  p e ha hc hk s m _ below hf ((Spec.applies_iff_loose hf).mp happ).1 ⟨rfl, State.Warmed39.refl s, rfl⟩ trivial
  refine ⟨n, _, h1, h2, h3, hpost _ _ _ _ _ _ ⟨Cond.after_iff.mpr rfl, Cond.after_iff.mpr (eq_i res_at (Term.int_eval (1)) rfl), trivial⟩ ⟨hq.1, hq.2.1, (hq.2.2.sift fun y hy => Or.inr (N y hy)).mono (by decide) (by decide)⟩⟩
theorem main_1_1 : Claimed_1_1 := comes_1 fun _ _ _ _ _ _ h hF => ⟨h.1, hF⟩
theorem main_1_2 : Claimed_1_2 := comes_1 fun _ _ _ _ _ _ h hF => ⟨h.2.1, hF⟩
end Jvm.Pilot.@@N@@
namespace Jvm.Pilot.@@N@@
open Jvm Jvm.ClassFile Sem Op Lib Jvm.Free Jvm.Stand Jvm.Pilot.@@N@@.Jvm.D
/-! MADE BY PROGRAM (witnessworld.py) out of the Statement's table words and the real class files: 12 classes; the members and pool entries that the words name. The judged class is class 1, her method 2. -/
namespace start1
open Jvm.ClassFile
def u (s : String) : CpInfo := .utf8 (stringToUtf16 s)
/-- a pool by its gaps: so many unusable entries, then the entry; so many at the end -/
def gap : Nat → List CpInfo → List CpInfo
  | 0, r => r
  | n + 1, r => .unusable :: gap n r
def poolList (es : List (Nat × CpInfo)) (last : Nat) : List CpInfo := es.foldr (fun e r => gap e.1 (e.2 :: r)) (gap last [])
def pool (es : List (Nat × CpInfo)) (last : Nat) : Array CpInfo := ⟨poolList es last⟩
def fileOf (pool : Array CpInfo) (this : Nat) (attrs : Array Attribute := #[]) (ms : Array MethodInfo := #[]) (fl : Nat := 33) (sup : Nat := 0) (ifs : Array Nat := #[]) (fds : Array FieldInfo := #[]) : ClassFile where
  minorVersion := 0
  majorVersion := 65
  constantPool := pool
  accessFlags := fl
  thisClass := this
  superClass := sup
  interfaces := ifs
  fields := fds
  methods := ms
  attributes := attrs
def plain (name : String) (sup : Option ClassId) : Class where
  name := name
  kind := .ordinary
  loader := none
  accessFlags := 33
  super := sup
  interfaces := #[]
  cf := none
  fields := #[]
  methods := #[]
  instanceTypes := #[]
  staticTypes := #[]
  resolved := #[]
  callSites := []
  init := .initialized
  statics := none
  mirror := none

def pool0 : Array CpInfo := pool [(5, u "<init>"), (0, u "()V"), (1, .class_ 10), (1, u "java/lang/Object")] 113

def k0c0 : Code := { maxStack := 0, maxLocals := 1, code := object_method_1_code, exceptionTable := #[], attributes := #[] }
def k0m0 : Method := { name := "<init>", desc := "()V", sig := { parameters := [], returnType := none }, accessFlags := 1, code := some k0c0 }
/-- java/lang/Object -/
def k0 : Class := { plain "java/lang/Object" none with
  accessFlags := 33
  interfaces := #[]
  cf := some (fileOf pool0 8 #[] #[{ accessFlags := 1, nameIndex := 5, descriptorIndex := 6, attributes := #[] }] 33 0 #[] #[])
  fields := #[]
  methods := #[k0m0]
  instanceTypes := #[]
  staticTypes := #[]
  resolved := Array.replicate 124 none
  statics := none }

def pool1 : Array CpInfo := pool [(2, .class_ 4), (1, u "java/lang/Object"), (0, u "<init>"), (0, u "()V"), (0, .methodref 8 9), (0, .class_ 10), (0, .nameAndType 11 12), (0, u "com/example/acquaint/acquaint/query/Adjacency"), (0, u "of"), (0, u "(I[I[I)Lcom/example/acquaint/acquaint/query/Adjacency;"), (0, .methodref 14 15), (0, .class_ 16), (0, .nameAndType 17 18), (0, u "com/example/acquaint/acquaint/query/AdjacencyOfPinLaw"), (0, u "below"), (0, u "(IIII)I"), (0, .methodref 8 20), (0, .nameAndType 21 22), (0, u "size"), (0, u "()I"), (0, .methodref 8 24), (0, .nameAndType 25 26), (0, u "target"), (0, u "(I)I"), (0, .methodref 8 28), (0, .nameAndType 29 26), (0, u "start"), (0, .methodref 8 31), (0, .nameAndType 32 26), (0, u "end"), (3, u "law"), (0, u "(IIII)Z")] 4

def k1m0 : Method := { name := "<init>", desc := "()V", sig := { parameters := [], returnType := none }, accessFlags := 1, code := none }
def k1c1 : Code := { maxStack := 3, maxLocals := 4, code := method_2_code, exceptionTable := #[], attributes := #[] }
def k1m1 : Method := { name := "below", desc := "(IIII)I", sig := { parameters := [.int, .int, .int, .int], returnType := some .int }, accessFlags := 10, code := some k1c1 }
def k1c2 : Code := { maxStack := 5, maxLocals := 15, code := code, exceptionTable := #[], attributes := #[] }
def k1m2 : Method := { name := "law", desc := "(IIII)Z", sig := { parameters := [.int, .int, .int, .int], returnType := some .boolean }, accessFlags := 9, code := some k1c2 }
/-- com/example/acquaint/acquaint/query/AdjacencyOfPinLaw -/
def k1 : Class := { plain "com/example/acquaint/acquaint/query/AdjacencyOfPinLaw" (some 0) with
  accessFlags := 49
  interfaces := #[]
  cf := some (fileOf pool1 14 #[] #[{ accessFlags := 1, nameIndex := 5, descriptorIndex := 6, attributes := #[] }, { accessFlags := 10, nameIndex := 17, descriptorIndex := 18, attributes := #[] }, { accessFlags := 9, nameIndex := 36, descriptorIndex := 37, attributes := #[] }] 49 2 #[] #[])
  fields := #[]
  methods := #[k1m0, k1m1, k1m2]
  instanceTypes := #[]
  staticTypes := #[]
  resolved := Array.replicate 42 none
  statics := none }

def pool2 : Array CpInfo := pool [(1, .methodref 2 3), (0, .class_ 4), (0, .nameAndType 5 6), (0, u "java/lang/Object"), (0, u "<init>"), (0, u "()V"), (0, .fieldref 8 9), (0, .class_ 10), (0, .nameAndType 11 12), (0, u "com/example/acquaint/acquaint/query/Adjacency"), (0, u "offsets"), (0, u "[I"), (0, .fieldref 8 14), (0, .nameAndType 15 12), (0, u "targets"), (0, .methodref 17 18), (0, .class_ 19), (0, .nameAndType 20 21), (0, u "java/util/Arrays"), (0, u "copyOf"), (0, u "([II)[I"), (0, .methodref 8 23), (0, .nameAndType 5 24), (0, u "([I[I)V"), (45, u "of"), (0, u "(I[I[I)Lcom/example/acquaint/acquaint/query/Adjacency;"), (2, u "start"), (0, u "(I)I"), (2, u "end"), (17, u "target"), (0, u "size"), (0, u "()I")] 34

def k2c0 : Code := { maxStack := 2, maxLocals := 3, code := prog_12_method_1_code, exceptionTable := #[], attributes := #[] }
def k2m0 : Method := { name := "<init>", desc := "([I[I)V", sig := { parameters := [(.array .int), (.array .int)], returnType := none }, accessFlags := 2, code := some k2c0 }
def k2c1 : Code := { maxStack := 6, maxLocals := 8, code := prog_12_method_2_code, exceptionTable := #[], attributes := #[] }
def k2m1 : Method := { name := "of", desc := "(I[I[I)Lcom/example/acquaint/acquaint/query/Adjacency;", sig := { parameters := [.int, (.array .int), (.array .int)], returnType := some (.object "com/example/acquaint/acquaint/query/Adjacency") }, accessFlags := 8, code := some k2c1 }
def k2c2 : Code := { maxStack := 2, maxLocals := 2, code := prog_12_method_4_code, exceptionTable := #[], attributes := #[] }
def k2m2 : Method := { name := "start", desc := "(I)I", sig := { parameters := [.int], returnType := some .int }, accessFlags := 0, code := some k2c2 }
def k2c3 : Code := { maxStack := 3, maxLocals := 2, code := prog_12_method_5_code, exceptionTable := #[], attributes := #[] }
def k2m3 : Method := { name := "end", desc := "(I)I", sig := { parameters := [.int], returnType := some .int }, accessFlags := 0, code := some k2c3 }
def k2c4 : Code := { maxStack := 2, maxLocals := 2, code := prog_12_method_6_code, exceptionTable := #[], attributes := #[] }
def k2m4 : Method := { name := "target", desc := "(I)I", sig := { parameters := [.int], returnType := some .int }, accessFlags := 0, code := some k2c4 }
def k2c5 : Code := { maxStack := 1, maxLocals := 1, code := prog_12_method_7_code, exceptionTable := #[], attributes := #[] }
def k2m5 : Method := { name := "size", desc := "()I", sig := { parameters := [], returnType := some .int }, accessFlags := 0, code := some k2c5 }
/-- com/example/acquaint/acquaint/query/Adjacency -/
def k2 : Class := { plain "com/example/acquaint/acquaint/query/Adjacency" (some 0) with
  accessFlags := 48
  interfaces := #[]
  cf := some (fileOf pool2 8 #[] #[{ accessFlags := 2, nameIndex := 5, descriptorIndex := 24, attributes := #[] }, { accessFlags := 8, nameIndex := 70, descriptorIndex := 71, attributes := #[] }, { accessFlags := 0, nameIndex := 74, descriptorIndex := 75, attributes := #[] }, { accessFlags := 0, nameIndex := 78, descriptorIndex := 75, attributes := #[] }, { accessFlags := 0, nameIndex := 96, descriptorIndex := 75, attributes := #[] }, { accessFlags := 0, nameIndex := 97, descriptorIndex := 98, attributes := #[] }] 48 2 #[] #[{ accessFlags := 18, nameIndex := 11, descriptorIndex := 12, attributes := #[] }, { accessFlags := 18, nameIndex := 15, descriptorIndex := 12, attributes := #[] }])
  fields := #[{ name := "offsets", type := (.array .int), accessFlags := 18, slot := 0, constantValue := 0 }, { name := "targets", type := (.array .int), accessFlags := 18, slot := 1, constantValue := 0 }]
  methods := #[k2m0, k2m1, k2m2, k2m3, k2m4, k2m5]
  instanceTypes := #[(.array .int), (.array .int)]
  staticTypes := #[]
  resolved := Array.replicate 133 none
  statics := none }

def pool3 : Array CpInfo := pool [(2, .class_ 4), (1, u "java/lang/Object"), (0, u "<init>"), (0, u "()V"), (7, .class_ 16), (1, u "java/util/Arrays"), (57, .class_ 76), (1, u "java/util/Arrays$NaturalOrder"), (36, .class_ 115), (1, u "java/util/Arrays$LegacyMergeSort"), (1, u "Z"), (32, .methodref 151 152), (0, .class_ 153), (0, .nameAndType 154 155), (0, u "java/lang/System"), (0, u "arraycopy"), (0, u "(Ljava/lang/Object;ILjava/lang/Object;II)V"), (146, u "copyOf"), (1, .methodref 305 306), (0, .class_ 307), (0, .nameAndType 308 309), (0, u "java/lang/Math"), (0, u "min"), (0, u "(II)I"), (65, .class_ 376), (0, u "java/util/Arrays$ArrayList"), (68, u "$assertionsDisabled"), (269, u "MIN_ARRAY_SORT_GRAN"), (0, u "I"), (2, u "INSERTIONSORT_THRESHOLD"), (151, u "([II)[I"), (103, .class_ 976), (0, u "java/util/Arrays$ArrayItr")] 52

def k3m0 : Method := { name := "<init>", desc := "()V", sig := { parameters := [], returnType := none }, accessFlags := 2, code := none }
def k3c1 : Code := { maxStack := 6, maxLocals := 3, code := jdk_65_method_123_code, exceptionTable := #[], attributes := #[] }
def k3m1 : Method := { name := "copyOf", desc := "([II)[I", sig := { parameters := [(.array .int), .int], returnType := some (.array .int) }, accessFlags := 9, code := some k3c1 }
/-- java/util/Arrays -/
def k3 : Class := { plain "java/util/Arrays" (some 0) with
  accessFlags := 49
  interfaces := #[]
  cf := some (fileOf pool3 14 #[.nestMembers #[975, 375, 113, 74]] #[{ accessFlags := 2, nameIndex := 5, descriptorIndex := 6, attributes := #[] }, { accessFlags := 9, nameIndex := 302, descriptorIndex := 871, attributes := #[] }] 49 2 #[] #[{ accessFlags := 26, nameIndex := 715, descriptorIndex := 716, attributes := #[] }, { accessFlags := 26, nameIndex := 719, descriptorIndex := 716, attributes := #[] }, { accessFlags := 4120, nameIndex := 445, descriptorIndex := 117, attributes := #[] }])
  fields := #[{ name := "MIN_ARRAY_SORT_GRAN", type := .int, accessFlags := 26, slot := 0, constantValue := 0 }, { name := "INSERTIONSORT_THRESHOLD", type := .int, accessFlags := 26, slot := 1, constantValue := 0 }, { name := "$assertionsDisabled", type := .boolean, accessFlags := 4120, slot := 2, constantValue := 0 }]
  methods := #[k3m0, k3m1]
  instanceTypes := #[]
  staticTypes := #[.int, .int, .boolean]
  resolved := Array.replicate 1029 none
  statics := none }

def pool4 : Array CpInfo := pool [(1, .class_ 2), (0, u "java/lang/Math"), (1, .class_ 6), (1, u "java/lang/Object"), (0, u "<init>"), (0, u "()V"), (89, .class_ 100), (1, u "java/lang/Math$RandomNumberGeneratorHolder"), (71, u "negativeZeroFloatBits"), (0, u "J"), (2, u "negativeZeroDoubleBits"), (24, u "min"), (43, u "$assertionsDisabled"), (0, u "Z"), (88, u "(II)I"), (2, u "twoToTheDoubleScaleDown"), (0, u "D"), (4, u "twoToTheDoubleScaleUp"), (9, u "E"), (3, u "PI"), (2, u "TAU"), (2, u "DEGREES_TO_RADIANS"), (0, u "RADIANS_TO_DEGREES")] 94

def k4m0 : Method := { name := "<init>", desc := "()V", sig := { parameters := [], returnType := none }, accessFlags := 2, code := none }
def k4c1 : Code := { maxStack := 2, maxLocals := 2, code := jdk_29_method_69_code, exceptionTable := #[], attributes := #[] }
def k4m1 : Method := { name := "min", desc := "(II)I", sig := { parameters := [.int, .int], returnType := some .int }, accessFlags := 9, code := some k4c1 }
/-- java/lang/Math -/
def k4 : Class := { plain "java/lang/Math" (some 0) with
  accessFlags := 49
  interfaces := #[]
  cf := some (fileOf pool4 1 #[.nestMembers #[98]] #[{ accessFlags := 2, nameIndex := 7, descriptorIndex := 8, attributes := #[] }, { accessFlags := 9, nameIndex := 201, descriptorIndex := 335, attributes := #[] }] 49 4 #[] #[{ accessFlags := 25, nameIndex := 354, descriptorIndex := 339, attributes := #[] }, { accessFlags := 25, nameIndex := 358, descriptorIndex := 339, attributes := #[] }, { accessFlags := 25, nameIndex := 361, descriptorIndex := 339, attributes := #[] }, { accessFlags := 26, nameIndex := 364, descriptorIndex := 339, attributes := #[] }, { accessFlags := 26, nameIndex := 365, descriptorIndex := 339, attributes := #[] }, { accessFlags := 26, nameIndex := 172, descriptorIndex := 173, attributes := #[] }, { accessFlags := 26, nameIndex := 176, descriptorIndex := 173, attributes := #[] }, { accessFlags := 8, nameIndex := 344, descriptorIndex := 339, attributes := #[] }, { accessFlags := 8, nameIndex := 338, descriptorIndex := 339, attributes := #[] }, { accessFlags := 4120, nameIndex := 245, descriptorIndex := 246, attributes := #[] }])
  fields := #[{ name := "E", type := .double, accessFlags := 25, slot := 0, constantValue := 0 }, { name := "PI", type := .double, accessFlags := 25, slot := 1, constantValue := 0 }, { name := "TAU", type := .double, accessFlags := 25, slot := 2, constantValue := 0 }, { name := "DEGREES_TO_RADIANS", type := .double, accessFlags := 26, slot := 3, constantValue := 0 }, { name := "RADIANS_TO_DEGREES", type := .double, accessFlags := 26, slot := 4, constantValue := 0 }, { name := "negativeZeroFloatBits", type := .long, accessFlags := 26, slot := 5, constantValue := 0 }, { name := "negativeZeroDoubleBits", type := .long, accessFlags := 26, slot := 6, constantValue := 0 }, { name := "twoToTheDoubleScaleUp", type := .double, accessFlags := 8, slot := 7, constantValue := 0 }, { name := "twoToTheDoubleScaleDown", type := .double, accessFlags := 8, slot := 8, constantValue := 0 }, { name := "$assertionsDisabled", type := .boolean, accessFlags := 4120, slot := 9, constantValue := 0 }]
  methods := #[k4m0, k4m1]
  instanceTypes := #[]
  staticTypes := #[.double, .double, .double, .double, .double, .long, .long, .double, .double, .boolean]
  resolved := Array.replicate 460 none
  statics := none }

def pool5 : Array CpInfo := pool [(2, .class_ 4), (1, u "java/lang/Object"), (0, u "<init>"), (0, u "()V"), (1, .class_ 10), (1, u "java/lang/System"), (0, u "allowSecurityManager"), (0, u "I"), (16, u "cons"), (0, u "Ljava/io/Console;"), (77, .class_ 110), (1, u "java/lang/System$CallersHolder"), (43, u "initialErrStream"), (0, u "Ljava/io/PrintStream;"), (19, u "security"), (0, u "Ljava/lang/SecurityManager;"), (31, .class_ 209), (0, u "java/lang/System$1"), (7, u "props"), (0, u "Ljava/util/Properties;"), (2, u "lineSeparator"), (0, u "Ljava/lang/String;"), (96, .class_ 321), (1, u "java/lang/System$LoggerFinder"), (5, .class_ 328), (0, u "java/lang/System$Logger"), (67, u "err"), (2, u "out"), (91, u "notSupportedJnuEncoding"), (15, u "in"), (17, u "initialIn"), (0, u "Ljava/io/InputStream;"), (35, u "bootLayer"), (0, u "Ljava/lang/ModuleLayer;"), (99, .class_ 664), (0, u "java/lang/System$2"), (9, u "NEVER"), (2, u "MAYBE"), (49, u "arraycopy"), (0, u "(Ljava/lang/Object;ILjava/lang/Object;II)V"), (72, .class_ 802), (0, u "java/lang/System$Logger$Level")] 31

def k5m0 : Method := { name := "<init>", desc := "()V", sig := { parameters := [], returnType := none }, accessFlags := 2, code := none }
def k5m1 : Method := { name := "arraycopy", desc := "(Ljava/lang/Object;ILjava/lang/Object;II)V", sig := { parameters := [(.object "java/lang/Object"), .int, (.object "java/lang/Object"), .int, .int], returnType := none }, accessFlags := 265, code := none }
/-- java/lang/System -/
def k5 : Class := { plain "java/lang/System" (some 0) with
  accessFlags := 49
  interfaces := #[]
  cf := some (fileOf pool5 8 #[.nestMembers #[319, 327, 801, 108, 663, 208]] #[{ accessFlags := 2, nameIndex := 5, descriptorIndex := 6, attributes := #[] }, { accessFlags := 265, nameIndex := 727, descriptorIndex := 728, attributes := #[] }] 49 2 #[] #[{ accessFlags := 25, nameIndex := 507, descriptorIndex := 526, attributes := #[] }, { accessFlags := 25, nameIndex := 399, descriptorIndex := 155, attributes := #[] }, { accessFlags := 25, nameIndex := 396, descriptorIndex := 155, attributes := #[] }, { accessFlags := 10, nameIndex := 525, descriptorIndex := 526, attributes := #[] }, { accessFlags := 26, nameIndex := 674, descriptorIndex := 12, attributes := #[] }, { accessFlags := 26, nameIndex := 677, descriptorIndex := 12, attributes := #[] }, { accessFlags := 10, nameIndex := 11, descriptorIndex := 12, attributes := #[] }, { accessFlags := 74, nameIndex := 175, descriptorIndex := 176, attributes := #[] }, { accessFlags := 10, nameIndex := 491, descriptorIndex := 222, attributes := #[] }, { accessFlags := 74, nameIndex := 29, descriptorIndex := 30, attributes := #[] }, { accessFlags := 74, nameIndex := 154, descriptorIndex := 155, attributes := #[] }, { accessFlags := 10, nameIndex := 217, descriptorIndex := 218, attributes := #[] }, { accessFlags := 10, nameIndex := 221, descriptorIndex := 222, attributes := #[] }, { accessFlags := 8, nameIndex := 562, descriptorIndex := 563, attributes := #[] }])
  fields := #[{ name := "in", type := (.object "java/io/InputStream"), accessFlags := 25, slot := 0, constantValue := 0 }, { name := "out", type := (.object "java/io/PrintStream"), accessFlags := 25, slot := 1, constantValue := 0 }, { name := "err", type := (.object "java/io/PrintStream"), accessFlags := 25, slot := 2, constantValue := 0 }, { name := "initialIn", type := (.object "java/io/InputStream"), accessFlags := 10, slot := 3, constantValue := 0 }, { name := "NEVER", type := .int, accessFlags := 26, slot := 4, constantValue := 0 }, { name := "MAYBE", type := .int, accessFlags := 26, slot := 5, constantValue := 0 }, { name := "allowSecurityManager", type := .int, accessFlags := 10, slot := 6, constantValue := 0 }, { name := "security", type := (.object "java/lang/SecurityManager"), accessFlags := 74, slot := 7, constantValue := 0 }, { name := "notSupportedJnuEncoding", type := (.object "java/lang/String"), accessFlags := 10, slot := 8, constantValue := 0 }, { name := "cons", type := (.object "java/io/Console"), accessFlags := 74, slot := 9, constantValue := 0 }, { name := "initialErrStream", type := (.object "java/io/PrintStream"), accessFlags := 74, slot := 10, constantValue := 0 }, { name := "props", type := (.object "java/util/Properties"), accessFlags := 10, slot := 11, constantValue := 0 }, { name := "lineSeparator", type := (.object "java/lang/String"), accessFlags := 10, slot := 12, constantValue := 0 }, { name := "bootLayer", type := (.object "java/lang/ModuleLayer"), accessFlags := 8, slot := 13, constantValue := 0 }]
  methods := #[k5m0, k5m1]
  instanceTypes := #[]
  staticTypes := #[(.object "java/io/InputStream"), (.object "java/io/PrintStream"), (.object "java/io/PrintStream"), (.object "java/io/InputStream"), .int, .int, .int, (.object "java/lang/SecurityManager"), (.object "java/lang/String"), (.object "java/io/Console"), (.object "java/io/PrintStream"), (.object "java/util/Properties"), (.object "java/lang/String"), (.object "java/lang/ModuleLayer")]
  resolved := Array.replicate 834 none
  statics := none }

def pool6 : Array CpInfo := pool [(1, u "java/lang/Cloneable"), (0, .class_ 1), (0, u "java/lang/Object"), (0, .class_ 3)] 3

/-- java/lang/Cloneable -/
def k6 : Class := { plain "java/lang/Cloneable" (some 0) with
  accessFlags := 1537
  interfaces := #[]
  cf := some (fileOf pool6 2 #[] #[] 1537 4 #[] #[])
  fields := #[]
  methods := #[]
  instanceTypes := #[]
  staticTypes := #[]
  resolved := Array.replicate 8 none
  statics := none }

def pool7 : Array CpInfo := pool [(1, u "java/io/Serializable"), (0, .class_ 1), (0, u "java/lang/Object"), (0, .class_ 3)] 3

/-- java/io/Serializable -/
def k7 : Class := { plain "java/io/Serializable" (some 0) with
  accessFlags := 1537
  interfaces := #[]
  cf := some (fileOf pool7 2 #[] #[] 1537 4 #[] #[])
  fields := #[]
  methods := #[]
  instanceTypes := #[]
  staticTypes := #[]
  resolved := Array.replicate 8 none
  statics := none }

/-- the primitive byte -/
def k8 : Class := { plain "byte" none with kind := .primitive 'B', accessFlags := 0x411 }
/-- [B -/
def k9 : Class := { plain "[B" (some 0) with kind := .array 8 .byte, interfaces := #[6, 7], accessFlags := 1041 }

/-- the primitive int -/
def k10 : Class := { plain "int" none with kind := .primitive 'I', accessFlags := 0x411 }
/-- [I -/
def k11 : Class := { plain "[I" (some 0) with kind := .array 10 .int, interfaces := #[6, 7], accessFlags := 1041 }

def heap : Heap := #[]
def classes : Array Class := #[k0, k1, k2, k3, k4, k5, k6, k7, k8, k9, k10, k11]
def interned : List (Array UInt16 × Addr) := []
def slotsUsed : Nat := 0
def theMethod : MethodId := ⟨1, 2⟩
def args0 : Array Value := #[.int 50397697, .int 1, .int 7, .int 8]
def aboutOver (below : List Frame) : State where
  vm := { classes := classes, interned := interned.toArray }
  heap := heap
  slotsUsed := slotsUsed
  threads := #[{ frames := .invoking theMethod args0 :: below }]
def below0 : List Frame := [.native { method := ⟨0, 0⟩, args := #[] }]
def about1 : State := aboutOver below0
def p0 : Program := .bare "" "" ""
def e0 : Env := launch0.env 0 0 0
theorem w_frames : about1.frames = Frame.invoking theMethod args0 :: below0 := rfl
set_option maxRecDepth 65536 in
theorem w_args : argsFit about1.vm theMethod args0 = true := by decide +kernel
set_option maxRecDepth 65536 in
theorem w_heap : heapFits about1 = true := by decide +kernel
set_option maxRecDepth 65536 in
theorem w_runnable : about1.curStatus? = some .runnable := by decide +kernel
set_option maxRecDepth 65536 in
theorem w_alone : about1.alone = true := by decide +kernel
set_option maxRecDepth 65536 in
theorem w_named : about1.methodNamed? x = some theMethod := by decide +kernel
set_option maxRecDepth 65536 in
theorem w_hears : about1.hears theMethod below0 = true := by decide +kernel
set_option maxRecDepth 65536 in
theorem w_ripe : about1.ripe theMethod args0 below0 = true := by decide +kernel
theorem w_running : about1.status = .running := rfl
set_option maxRecDepth 65536 in
theorem w_room : about1.hasRoom e0.platform room_1 = true :=
  launch0.hasRoom_least _ room_1 (by decide +kernel) (by decide +kernel) (by decide +kernel) (by decide +kernel) (by decide +kernel) (by decide +kernel)
theorem allAtoms_all (ts : List Jvm.Cond) (a : Array Jvm.Value) (st : Jvm.State) : (allAtoms ts).before a st = ts.all (fun c => c.before a st) := by
  induction ts with
  | nil => rfl
  | cons c t ih =>
    show (Jvm.Cond.and c (allAtoms t)).before a st = _
    rw [Jvm.Cond.before_and, ih, List.all_cons]
def words1 : List Jvm.Cond := Jvm.Cond.code x code maxLocals ret :: tables_1
/-- a 'code' word, met by the world's own term for the bytes: nothing is compared byte by byte -/
theorem code_word {y : MethodName} {bytes : ByteArray} {mx : Nat} {rt : Option FieldType} {a : Array Value} {s : State} {m : MethodId} {meth : Method} {c : Code} (h1 : s.methodNamed? y = some m) (h2 : s.vm.method? m = some meth) (h3 : meth.code = some c) (h4 : c.code = bytes)
    (h5 : (c.maxLocals == mx && c.exceptionTable.isEmpty && decide (c.maxStack ≤ mostOperands) && decide (meth.sig.returnType = rt) && !meth.locks && decide (parseMethodDescriptor y.desc = some meth.sig)) = true) : (Jvm.Cond.code y bytes mx rt).before a s = true := by
  simp only [Bool.and_eq_true, beq_iff_eq, Bool.not_eq_true', decide_eq_true_eq] at h5
  obtain ⟨⟨⟨⟨⟨g1, g2⟩, g3⟩, g4⟩, g5⟩, g6⟩ := h5
  simp [Cond.before, Cond.holds, Cond.value, h1, h2, h3, h4, g1, g2, g3, g4, g5, g6]
def isCode : Jvm.Cond → Bool
  | .code _ _ _ _ => true
  | _ => false
theorem all_split {L : List Jvm.Cond} {P : Jvm.Cond → Bool} (h1 : L.all (fun c => isCode c || P c) = true) (h2 : ∀ c ∈ L.filter isCode, P c = true) : L.all P = true := by
  refine List.all_eq_true.mpr fun c hc => ?_
  have h := List.all_eq_true.mp h1 c hc
  rcases Bool.eq_false_or_eq_true (isCode c) with hi | hi
  · exact h2 c (List.mem_filter.mpr ⟨hc, hi⟩)
  · simpa [hi] using h
set_option maxRecDepth 65536 in
theorem w_c0 : (Jvm.Cond.code x code maxLocals ret).before args0 about1 = true := code_word (m := ⟨1, 2⟩) (meth := k1m2) (c := k1c2) (by decide +kernel) rfl rfl rfl (by decide +kernel)
set_option maxRecDepth 65536 in
theorem w_c1 : (Jvm.Cond.code ({ cls := "com/example/acquaint/acquaint/query/Adjacency", name := "of", desc := "(I[I[I)Lcom/example/acquaint/acquaint/query/Adjacency;" } : Jvm.MethodName) prog_12_method_2_code (8 : Nat) (Option.some (Jvm.ClassFile.FieldType.object "com/example/acquaint/acquaint/query/Adjacency"))).before args0 about1 = true := code_word (m := ⟨2, 1⟩) (meth := k2m1) (c := k2c1) (by decide +kernel) rfl rfl rfl (by decide +kernel)
set_option maxRecDepth 65536 in
theorem w_c2 : (Jvm.Cond.code ({ cls := "java/util/Arrays", name := "copyOf", desc := "([II)[I" } : Jvm.MethodName) jdk_65_method_123_code (3 : Nat) (Option.some (Jvm.ClassFile.FieldType.array Jvm.ClassFile.FieldType.int))).before args0 about1 = true := code_word (m := ⟨3, 1⟩) (meth := k3m1) (c := k3c1) (by decide +kernel) rfl rfl rfl (by decide +kernel)
set_option maxRecDepth 65536 in
theorem w_c3 : (Jvm.Cond.code ({ cls := "java/lang/Math", name := "min", desc := "(II)I" } : Jvm.MethodName) jdk_29_method_69_code (2 : Nat) (Option.some Jvm.ClassFile.FieldType.int)).before args0 about1 = true := code_word (m := ⟨4, 1⟩) (meth := k4m1) (c := k4c1) (by decide +kernel) rfl rfl rfl (by decide +kernel)
set_option maxRecDepth 65536 in
theorem w_c4 : (Jvm.Cond.code ({ cls := "com/example/acquaint/acquaint/query/Adjacency", name := "<init>", desc := "([I[I)V" } : Jvm.MethodName) prog_12_method_1_code (3 : Nat) (Option.none : Option Jvm.ClassFile.FieldType)).before args0 about1 = true := code_word (m := ⟨2, 0⟩) (meth := k2m0) (c := k2c0) (by decide +kernel) rfl rfl rfl (by decide +kernel)
set_option maxRecDepth 65536 in
theorem w_c5 : (Jvm.Cond.code ({ cls := "java/lang/Object", name := "<init>", desc := "()V" } : Jvm.MethodName) object_method_1_code (1 : Nat) (Option.none : Option Jvm.ClassFile.FieldType)).before args0 about1 = true := code_word (m := ⟨0, 0⟩) (meth := k0m0) (c := k0c0) (by decide +kernel) rfl rfl rfl (by decide +kernel)
set_option maxRecDepth 65536 in
theorem w_c6 : (Jvm.Cond.code ({ cls := "com/example/acquaint/acquaint/query/AdjacencyOfPinLaw", name := "below", desc := "(IIII)I" } : Jvm.MethodName) method_2_code (4 : Nat) (Option.some Jvm.ClassFile.FieldType.int)).before args0 about1 = true := code_word (m := ⟨1, 1⟩) (meth := k1m1) (c := k1c1) (by decide +kernel) rfl rfl rfl (by decide +kernel)
set_option maxRecDepth 65536 in
theorem w_c7 : (Jvm.Cond.code ({ cls := "com/example/acquaint/acquaint/query/Adjacency", name := "size", desc := "()I" } : Jvm.MethodName) prog_12_method_7_code (1 : Nat) (Option.some Jvm.ClassFile.FieldType.int)).before args0 about1 = true := code_word (m := ⟨2, 5⟩) (meth := k2m5) (c := k2c5) (by decide +kernel) rfl rfl rfl (by decide +kernel)
set_option maxRecDepth 65536 in
theorem w_c8 : (Jvm.Cond.code ({ cls := "com/example/acquaint/acquaint/query/Adjacency", name := "target", desc := "(I)I" } : Jvm.MethodName) prog_12_method_6_code (2 : Nat) (Option.some Jvm.ClassFile.FieldType.int)).before args0 about1 = true := code_word (m := ⟨2, 4⟩) (meth := k2m4) (c := k2c4) (by decide +kernel) rfl rfl rfl (by decide +kernel)
set_option maxRecDepth 65536 in
theorem w_c9 : (Jvm.Cond.code ({ cls := "com/example/acquaint/acquaint/query/Adjacency", name := "start", desc := "(I)I" } : Jvm.MethodName) prog_12_method_4_code (2 : Nat) (Option.some Jvm.ClassFile.FieldType.int)).before args0 about1 = true := code_word (m := ⟨2, 2⟩) (meth := k2m2) (c := k2c2) (by decide +kernel) rfl rfl rfl (by decide +kernel)
set_option maxRecDepth 65536 in
theorem w_c10 : (Jvm.Cond.code ({ cls := "com/example/acquaint/acquaint/query/Adjacency", name := "end", desc := "(I)I" } : Jvm.MethodName) prog_12_method_5_code (2 : Nat) (Option.some Jvm.ClassFile.FieldType.int)).before args0 about1 = true := code_word (m := ⟨2, 3⟩) (meth := k2m3) (c := k2c3) (by decide +kernel) rfl rfl rfl (by decide +kernel)
def codes1 : List Jvm.Cond := [Jvm.Cond.code x code maxLocals ret, Jvm.Cond.code ({ cls := "com/example/acquaint/acquaint/query/Adjacency", name := "of", desc := "(I[I[I)Lcom/example/acquaint/acquaint/query/Adjacency;" } : Jvm.MethodName) prog_12_method_2_code (8 : Nat) (Option.some (Jvm.ClassFile.FieldType.object "com/example/acquaint/acquaint/query/Adjacency")), Jvm.Cond.code ({ cls := "java/util/Arrays", name := "copyOf", desc := "([II)[I" } : Jvm.MethodName) jdk_65_method_123_code (3 : Nat) (Option.some (Jvm.ClassFile.FieldType.array Jvm.ClassFile.FieldType.int)), Jvm.Cond.code ({ cls := "java/lang/Math", name := "min", desc := "(II)I" } : Jvm.MethodName) jdk_29_method_69_code (2 : Nat) (Option.some Jvm.ClassFile.FieldType.int), Jvm.Cond.code ({ cls := "com/example/acquaint/acquaint/query/Adjacency", name := "<init>", desc := "([I[I)V" } : Jvm.MethodName) prog_12_method_1_code (3 : Nat) (Option.none : Option Jvm.ClassFile.FieldType), Jvm.Cond.code ({ cls := "java/lang/Object", name := "<init>", desc := "()V" } : Jvm.MethodName) object_method_1_code (1 : Nat) (Option.none : Option Jvm.ClassFile.FieldType), Jvm.Cond.code ({ cls := "com/example/acquaint/acquaint/query/AdjacencyOfPinLaw", name := "below", desc := "(IIII)I" } : Jvm.MethodName) method_2_code (4 : Nat) (Option.some Jvm.ClassFile.FieldType.int), Jvm.Cond.code ({ cls := "com/example/acquaint/acquaint/query/Adjacency", name := "size", desc := "()I" } : Jvm.MethodName) prog_12_method_7_code (1 : Nat) (Option.some Jvm.ClassFile.FieldType.int), Jvm.Cond.code ({ cls := "com/example/acquaint/acquaint/query/Adjacency", name := "target", desc := "(I)I" } : Jvm.MethodName) prog_12_method_6_code (2 : Nat) (Option.some Jvm.ClassFile.FieldType.int), Jvm.Cond.code ({ cls := "com/example/acquaint/acquaint/query/Adjacency", name := "start", desc := "(I)I" } : Jvm.MethodName) prog_12_method_4_code (2 : Nat) (Option.some Jvm.ClassFile.FieldType.int), Jvm.Cond.code ({ cls := "com/example/acquaint/acquaint/query/Adjacency", name := "end", desc := "(I)I" } : Jvm.MethodName) prog_12_method_5_code (2 : Nat) (Option.some Jvm.ClassFile.FieldType.int)]
set_option maxRecDepth 65536 in
theorem codes_eq : words1.filter isCode = codes1 := rfl
theorem w_codes : ∀ c ∈ words1.filter isCode, c.before args0 about1 = true := by
  rw [codes_eq]
  intro c hc
  simp only [codes1, List.mem_cons, List.not_mem_nil, or_false] at hc
  rcases hc with rfl | rfl | rfl | rfl | rfl | rfl | rfl | rfl | rfl | rfl | rfl
  · exact w_c0
  · exact w_c1
  · exact w_c2
  · exact w_c3
  · exact w_c4
  · exact w_c5
  · exact w_c6
  · exact w_c7
  · exact w_c8
  · exact w_c9
  · exact w_c10
set_option maxRecDepth 65536 in
theorem w_t1 : (words1.take 24).all (fun c => isCode c || c.before args0 about1) = true := by decide +kernel
set_option maxRecDepth 65536 in
theorem w_t2 : ((words1.drop 24).take 24).all (fun c => isCode c || c.before args0 about1) = true := by decide +kernel
set_option maxRecDepth 65536 in
theorem w_t3 : ((words1.drop 24).drop 24).all (fun c => isCode c || c.before args0 about1) = true := by decide +kernel
theorem w_tables : (allAtoms (Jvm.Cond.code x code maxLocals ret :: tables_1)).before args0 about1 = true := by
  rw [allAtoms_all]
  show words1.all (fun c => c.before args0 about1) = true
  refine all_split ?_ w_codes
  rw [← List.take_append_drop 24 words1, List.all_append, w_t1, ← List.take_append_drop 24 (words1.drop 24), List.all_append, w_t2, w_t3]
  rfl
set_option maxRecDepth 65536 in
theorem w_case : (Jvm.Cond.and given_1 narrow_1).before args0 about1 = true := by decide +kernel
theorem w_applies : (headSpec (Jvm.Cond.code x code maxLocals ret :: tables_1) room_1).applies x e0.platform about1 = true :=
  (Spec.applies_iff w_frames).mpr ⟨w_running, w_runnable, w_alone, w_named, w_hears, w_ripe, w_room, w_tables⟩
theorem atStart : AtStart classFile x code maxLocals ret World_1 tables_1 room_1 Calls_1 rest_1 Pre_1 launch0 p0 e0 about1 theMethod args0 below0 :=
  ⟨lists_1, trivial, launch0.admits_env _ _ _, launch0.least_env, fairChoices_fair.cas, fairChoices_fair.clock, w_frames, w_args, w_heap, w_applies, trivial, trivial, w_case⟩
end start1
theorem witness_1 : WitnessClaimed_1 := ⟨start1.p0, start1.e0, start1.about1, start1.theMethod, start1.args0, start1.below0, start1.atStart⟩
end Jvm.Pilot.@@N@@
