import JvmDerived
import JvmDerived.Pilot.@@N@@Statement
import JvmDerived.Pilot.@@N@@Code
set_option linter.unusedVariables false
set_option linter.unusedSimpArgs false
namespace Jvm.OwnKit
open Sem ClassFile Op Lib Jvm.Stand Jvm.Free Jvm.LawKit Jvm.RoadKit
section Own
variable {p : Program} {l : Launch} {e : Env} {R : Room} {s : State} {m : MethodId} {args : Array Value} {below : List Frame} {meth : Method} {c : Code} {T : State} {locs : List Loc} {cells slots : Nat} {Z : State} {h h' : Heap} {a b : Addr}
theorem retI (X : Stand p l e R s m args below meth c T locs cells slots) (hx : p.tables.exec = Jvm.exec) {pc : Nat} {Ls : Array Slot} {z : Int32} {rest : List Value} (hret : meth.sig.returnType = some .int) (hd : decode c.code pc = .ok (.ireturn, 1)) {fs : List Frame}
    (hl : ∀ (f : JFrame) (acts : List Action), f.method = m → f.locked = none → f.entered = [] → (doReturn e (T.setTop f) acts (some (.int z))).1 = T.setFrames fs) : Steps p.tables e below (T.setTop (mkF m pc Ls (.int z :: rest))) (T.setFrames fs) :=
  retOut X hx hret rfl (Or.inl ⟨rfl, Or.inl rfl, z, rfl⟩) hd hl
/-- the run goes on from S to an end of which G holds -/
def Go (p : Program) (e : Env) (below : List Frame) (S : State) (G : State → Outcome → Prop) : Prop := ∃ s₂ o, Steps p.tables e below S s₂ ∧ s₂.status = .running ∧ Ended s₂ below o ∧ G s₂ o
theorem Go.via {S S' : State} {G : State → Outcome → Prop} (h : ∀ t, Steps p.tables e below S' t → Steps p.tables e below S t) (k : Go p e below S' G) : Go p e below S G := by
  obtain ⟨a, o, h1, r⟩ := k; exact ⟨a, o, h a h1, r⟩
/-- the end: what is returned, what the heap says, what was written -/
abbrev Done (s : State) (Q : Option Value → Heap → List Loc → Prop) (kc ks : Nat) : State → Outcome → Prop := fun s₂ o => ∃ v L, o = .returned v ∧ Q v s₂.heap L ∧ FrameEnd s o s₂ L kc ks
theorem Go.fin {S : State} (X : Stand p l e R s m args below meth c T locs cells slots) (hlk : meth.locks = false) {v : Option Value} (hv : meth.sig.returnType = none → v = none) {Q : Option Value → Heap → List Loc → Prop} {kc ks : Nat}
    (hstep : ∀ fs, (∀ (f : JFrame) (acts : List Action), f.method = m → f.locked = none → f.entered = [] → (doReturn e (T.setTop f) acts v).1 = T.setFrames fs) → Steps p.tables e below S (T.setFrames fs))
    (hQ : Q v T.heap locs) (hc : cells ≤ kc) (hs : slots ≤ ks) : Go p e below S (Done s Q kc ks) := by
  obtain ⟨fs, hr, hrun, hended, hW, hsame⟩ := X.leave (v := v) hv hlk
  exact ⟨_, _, hstep fs hr, hrun, hended, _, _, rfl, hQ, ⟨_, rfl⟩, hW, hsame.mono hc hs⟩
/-- an array of ints, bytes, chars, shorts or booleans, whole -/
def Ia (Z : State) (h : Heap) (a : Addr) (ty : FieldType) (xs : List Int32) : Prop := ∃ c : Cell, Arr Z h a c ty ∧ c.slots = (xs.map Value.int).toArray ∧ xs.length < 2147483648 ∧ ∀ x ∈ xs, fits ty (.int x) = true
variable {ty : FieldType} {xs : List Int32} {ws : List Addr} {sl : Nat} {v w : Value} {j x n : Int32} {k : ClassId} {rest : List Value}
theorem Ia.lt (F : Ia Z h a ty xs) : a < h.size := by obtain ⟨c, A, -⟩ := F; exact A.lt
theorem Ia.ext (F : Ia Z h a ty xs) (E : Ext h h') : Ia Z h' a ty xs := by obtain ⟨c, A, r⟩ := F; exact ⟨c, A.ext E, r⟩
theorem Ia.other (F : Ia Z h b ty xs) (W : Wr h h' a sl v) (q : b ≠ a) : Ia Z h' b ty xs := by obtain ⟨c, A, r⟩ := F; exact ⟨c, A.other W q, r⟩
theorem Ia.keep (F : Ia Z h a ty xs) (K : Keep h h' ws) (q : a ∉ ws) : Ia Z h' a ty xs := by obtain ⟨c, A, r⟩ := F; exact ⟨c, ⟨K.2.1 a c A.1 q, A.2⟩, r⟩
theorem nn_lt {n : Int32} : n.toNatClampNeg < 2147483648 := by
  have h1 := n.toInt_lt
  simp only [Int32.toNatClampNeg]; omega
theorem Ia.new (A : Arr Z h a (newA k ty n) ty) (hd : defaultValue ty = .int 0) (hf : fits ty (.int 0) = true := by rfl) : Ia Z h a ty (List.replicate n.toNatClampNeg 0) := ⟨_, A, by simp [newA, hd], by simp [nn_lt], fun x hx => by rw [(List.mem_replicate.mp hx).2]; exact hf⟩
theorem Ia.hin {cl : Cell} (e : cl.slots = (xs.map Value.int).toArray) (hj : ¬ j < 0) (hlt : j.toNatClampNeg < xs.length) : ¬ (j < 0 ∨ cl.slots.size ≤ j.toNatClampNeg) := by
  rw [e]; simp only [List.size_toArray, List.length_map]; rintro (q | q); exact hj q; omega
theorem Ia.at {cl : Cell} (e : cl.slots = (xs.map Value.int).toArray) (hv : xs[j.toNatClampNeg]? = some x) : cl.slots[j.toNatClampNeg]? = some (.int x) := by
  rw [e]; simp [hv]
theorem lt_of_at (hv : xs[j.toNatClampNeg]? = some x) : j.toNatClampNeg < xs.length := (List.getElem?_eq_some_iff.mp hv).1
theorem Ia.set {cl : Cell} (A : Arr Z h a cl ty) (e : cl.slots = (xs.map Value.int).toArray) (hl : xs.length < 2147483648) (hf : ∀ x ∈ xs, fits ty (.int x) = true) (W : Wr h h' a j.toNatClampNeg (.int x)) (hx : fits ty (.int x) = true) : Ia Z h' a ty (xs.set j.toNatClampNeg x) :=
  ⟨_, A.same W, by simp [Cell.setSlot, e, List.map_set], by simpa using hl, fun y hy => by rcases List.mem_or_eq_of_mem_set hy with q | q; exact hf y q; rw [q]; exact hx⟩
theorem ldI (X : Stand p l e R s m args below meth c T locs cells slots) (hx : p.tables.exec = Jvm.exec) (hZ : Z.Warmed39 s.vm) (eT : T.heap = h) (F : Ia Z h a .int xs) {v : Int32} (hj : ¬ j < 0) (hv : xs[j.toNatClampNeg]? = some v) {g : JFrame} (hg : g.method = m) (hs : g.stack = .int j :: .ref a :: rest) (hd : decode c.code g.pc = .ok (.iaload, 1)) :
    ∀ t, Steps p.tables e below (T.setTop { g with pc := g.pc + 1, stack := .int v :: rest }) t → Steps p.tables e below (T.setTop g) t := by
  obtain ⟨cl, A, q, -⟩ := F
  exact X.iaload hx (j := j) (v := .int v) (by rw [eT]; exact A.1) (State.isArrayOf_alike hZ.alike A.2.1) A.2.2 (Ia.hin q hj (lt_of_at hv)) (Ia.at q hv) hg hs hd
theorem ldB (X : Stand p l e R s m args below meth c T locs cells slots) (hx : p.tables.exec = Jvm.exec) (hZ : Z.Warmed39 s.vm) (eT : T.heap = h) (F : Ia Z h a .byte xs) {v : Int32} (hj : ¬ j < 0) (hv : xs[j.toNatClampNeg]? = some v) {g : JFrame} (hg : g.method = m) (hs : g.stack = .int j :: .ref a :: rest) (hd : decode c.code g.pc = .ok (.baload, 1)) :
    ∀ t, Steps p.tables e below (T.setTop { g with pc := g.pc + 1, stack := .int v :: rest }) t → Steps p.tables e below (T.setTop g) t := by
  obtain ⟨cl, A, q, -⟩ := F
  exact X.baloadBytes hx (j := j) (v := .int v) (by rw [eT]; exact A.1) (State.isArrayOf_alike hZ.alike A.2.1) A.2.2 (Ia.hin q hj (lt_of_at hv)) (Ia.at q hv) hg hs hd
theorem ldC (X : Stand p l e R s m args below meth c T locs cells slots) (hx : p.tables.exec = Jvm.exec) (hZ : Z.Warmed39 s.vm) (eT : T.heap = h) (F : Ia Z h a .char xs) {v : Int32} (hj : ¬ j < 0) (hv : xs[j.toNatClampNeg]? = some v) {g : JFrame} (hg : g.method = m) (hs : g.stack = .int j :: .ref a :: rest) (hd : decode c.code g.pc = .ok (.caload, 1)) :
    ∀ t, Steps p.tables e below (T.setTop { g with pc := g.pc + 1, stack := .int v :: rest }) t → Steps p.tables e below (T.setTop g) t := by
  obtain ⟨cl, A, q, -⟩ := F
  exact X.caload hx (j := j) (v := .int v) (by rw [eT]; exact A.1) (State.isArrayOf_alike hZ.alike A.2.1) A.2.2 (Ia.hin q hj (lt_of_at hv)) (Ia.at q hv) hg hs hd
theorem stI' (X : Stand p l e R s m args below meth c T locs cells slots) (hx : p.tables.exec = Jvm.exec) (hZ : Z.Warmed39 s.vm) (eT : T.heap = h) (F : Ia Z h a .int xs) (hj : ¬ j < 0) (hlt : j.toNatClampNeg < xs.length) {g : JFrame} (hg : g.method = m) (hs : g.stack = .int x :: .int j :: .ref a :: rest) (hd : decode c.code g.pc = .ok (.iastore, 1)) :
    ∃ T' h', Stand p l e R s m args below meth c T' (locs ++ [⟨a, j.toNatClampNeg⟩]) cells slots ∧ T'.heap = h' ∧ Wr h h' a j.toNatClampNeg (.int x) ∧ Ia Z h' a .int (xs.set j.toNatClampNeg x) ∧ ∀ t, Steps p.tables e below (T'.setTop { g with pc := g.pc + 1, stack := rest }) t → Steps p.tables e below (T.setTop g) t := by
  obtain ⟨cl, A, q, hl, hf⟩ := F
  obtain ⟨T', h', X', e', W, st⟩ := stI X hx hZ eT A (Ia.hin q hj hlt) hg hs hd
  exact ⟨T', h', X', e', W, Ia.set A q hl hf W rfl, st⟩
theorem stB' (X : Stand p l e R s m args below meth c T locs cells slots) (hx : p.tables.exec = Jvm.exec) (hZ : Z.Warmed39 s.vm) (eT : T.heap = h) (F : Ia Z h a .byte xs) (hj : ¬ j < 0) (hlt : j.toNatClampNeg < xs.length) {g : JFrame} (hg : g.method = m) (hs : g.stack = .int x :: .int j :: .ref a :: rest) (hd : decode c.code g.pc = .ok (.bastore, 1)) :
    ∃ T' h', Stand p l e R s m args below meth c T' (locs ++ [⟨a, j.toNatClampNeg⟩]) cells slots ∧ T'.heap = h' ∧ Wr h h' a j.toNatClampNeg (.int (nar .byte x)) ∧ Ia Z h' a .byte (xs.set j.toNatClampNeg (nar .byte x)) ∧ ∀ t, Steps p.tables e below (T'.setTop { g with pc := g.pc + 1, stack := rest }) t → Steps p.tables e below (T.setTop g) t := by
  obtain ⟨cl, A, q, hl, hf⟩ := F
  obtain ⟨T', h', X', e', W, st⟩ := stB X hx hZ eT A (Ia.hin q hj hlt) hg hs hd
  exact ⟨T', h', X', e', W, Ia.set A q hl hf W (fits_nar_byte x), st⟩
theorem stC' (X : Stand p l e R s m args below meth c T locs cells slots) (hx : p.tables.exec = Jvm.exec) (hZ : Z.Warmed39 s.vm) (eT : T.heap = h) (F : Ia Z h a .char xs) (hj : ¬ j < 0) (hlt : j.toNatClampNeg < xs.length) {g : JFrame} (hg : g.method = m) (hs : g.stack = .int x :: .int j :: .ref a :: rest) (hd : decode c.code g.pc = .ok (.castore, 1)) :
    ∃ T' h', Stand p l e R s m args below meth c T' (locs ++ [⟨a, j.toNatClampNeg⟩]) cells slots ∧ T'.heap = h' ∧ Wr h h' a j.toNatClampNeg (.int (nar .char x)) ∧ Ia Z h' a .char (xs.set j.toNatClampNeg (nar .char x)) ∧ ∀ t, Steps p.tables e below (T'.setTop { g with pc := g.pc + 1, stack := rest }) t → Steps p.tables e below (T.setTop g) t := by
  obtain ⟨cl, A, q, hl, hf⟩ := F
  obtain ⟨T', h', X', e', W, st⟩ := stC X hx hZ eT A (Ia.hin q hj hlt) hg hs hd
  exact ⟨T', h', X', e', W, Ia.set A q hl hf W (fits_nar_char x), st⟩
theorem lenI (X : Stand p l e R s m args below meth c T locs cells slots) (hx : p.tables.exec = Jvm.exec) (hZ : Z.Warmed39 s.vm) (eT : T.heap = h) (F : Ia Z h a ty xs) (hn : xs.length.toInt32 = n) {g : JFrame} (hg : g.method = m) (hs : g.stack = .ref a :: rest) (hd : decode c.code g.pc = .ok (.arraylength, 1)) :
    ∀ t, Steps p.tables e below (T.setTop { g with pc := g.pc + 1, stack := .int n :: rest }) t → Steps p.tables e below (T.setTop g) t := by
  obtain ⟨cl, A, q, -⟩ := F
  have q2 : cl.slots.size.toInt32 = n := by rw [q]; simpa using hn
  have := X.arraylength hx (by rw [eT]; exact A.1) (State.isArrayOf_alike hZ.alike A.2.1) hg hs hd
  rw [q2] at this
  exact this
theorem len32 (hl : xs.length < 2147483648) : xs.length.toInt32.toNatClampNeg = xs.length ∧ ¬ xs.length.toInt32 < 0 := by
  have h1 : xs.length.toInt32.toInt = (xs.length : Int) := Int32.toInt_ofNat_small hl
  refine ⟨by simp only [Int32.toNatClampNeg]; omega, ?_⟩
  rw [Int32.lt_iff_toInt_lt, h1]
  have : (0 : Int32).toInt = 0 := rfl
  omega
theorem Ia.arv (F : Ia Z h a ty xs) : ∃ k, Arv Z h a k ty xs.length.toInt32 (xs.map Value.int) (.int 0) ∧ xs.length < 2147483648 := by
  obtain ⟨c, A, q, hl, hf⟩ := F
  refine ⟨c.cls, ⟨c, A, rfl, by rw [q, (len32 hl).1]; simp, (len32 hl).2, fun i hi => ?_, fun i hi => ?_⟩, hl⟩
  · have hi2 : i < xs.length := by rw [q] at hi; simpa using hi
    rw [q]; simp [List.getD, hi2]
  · have hi2 : i < xs.length := by rw [q] at hi; simpa using hi
    have := hf xs[i] (List.getElem_mem hi2)
    simpa [List.getD, hi2] using this
theorem Ia.of_arv {z : Int32} {d : Value} (F : Arv Z h a k ty z (xs.map Value.int) d) (hl : xs.length = z.toNatClampNeg) : Ia Z h a ty xs := by
  obtain ⟨c, A, q1, S, N, H, G⟩ := F
  have hn : z.toNatClampNeg < 2147483648 := nn_lt
  refine ⟨c, A, ?_, by omega, fun x hx => ?_⟩
  · apply Array.ext
    · rw [S, ← hl]; simp
    · intro i h1 h2
      have := H i h1
      have h3 : i < xs.length := by rw [hl, ← S]; exact h1
      rw [Array.getElem?_eq_getElem h1] at this
      simpa [List.getD, h3] using this
  · obtain ⟨i, hi, rfl⟩ := List.getElem_of_mem hx
    have := G i (by rw [S, ← hl]; exact hi)
    simpa [List.getD, hi] using this
theorem cpI {ys : List Int32} {sp dp nn : Int32} (X : Stand p l e R s m args below meth c T locs cells slots) (hx : p.tables.exec = Jvm.exec) (hZ : Z.Warmed39 s.vm) {a0 : Array Value} {own : String} {index : Nat} (hown : s.vm.findClass own = some m.cls)
    (w1 : (Cond.methodLink own index Jvm.Stand.acN).before a0 Z = true) (w2 : (Cond.native Jvm.Stand.acN).before a0 Z = true) (w3 : (Cond.static Jvm.Stand.acN).before a0 Z = true) (w4 : (Cond.initialized "java/lang/System").before a0 Z = true) (eT : T.heap = h)
    (A : Ia Z h a ty xs) (B : Ia Z h b ty ys) (hty : refKind ty = false) (h1 : ¬ sp < 0) (h2 : ¬ dp < 0) (h3 : ¬ nn < 0) (h4 : sp.toNatClampNeg + nn.toNatClampNeg ≤ xs.length) (h5 : dp.toNatClampNeg + nn.toNatClampNeg ≤ ys.length)
    {n0 : Nat} (N : Fr n0 locs) (ge : n0 ≤ b)
    {g : JFrame} (hg : g.method = m) (hsize : g.locals.size = c.maxLocals) {rest : List Value} (hs : g.stack = .int nn :: .int dp :: .ref b :: .int sp :: .ref a :: rest) (hd : decode c.code g.pc = .ok (.invokestatic index, 3))
    (hf : 1 ≤ R.frames) {W : Nat} (hW : 2 * g.monitorRoom + (rest.map fun v => v.category).sum ≤ W) (hlo : W + (nativeFrameWords "java/lang/System" "arraycopy" 5 + 11) ≤ R.locals) :
    ∃ T' h' L, Stand p l e R s m args below meth c T' L cells slots ∧ T'.heap = h' ∧ Fr n0 L ∧ Keep h h' [b] ∧ Ia Z h' b ty (ys.take dp.toNatClampNeg ++ (xs.drop sp.toNatClampNeg).take nn.toNatClampNeg ++ ys.drop (dp.toNatClampNeg + nn.toNatClampNeg)) ∧
      ∀ target, Steps p.tables e below (T'.setTop { g with pc := g.pc + 3, stack := rest }) target → Steps p.tables e below (T.setTop g) target := by
  obtain ⟨k, A', la⟩ := A.arv
  obtain ⟨k', B', lb⟩ := B.arv
  obtain ⟨T', h', L, X', e', N', K', V', st⟩ := cpA X hx hZ hown w1 w2 w3 w4 eT A' B' (us := ((xs.drop sp.toNatClampNeg).take nn.toNatClampNeg).map Value.int) (Or.inl ⟨rfl, hty⟩) h1 h2 h3 (by rw [(len32 la).1]; exact h4) (by rw [(len32 lb).1]; exact h5)
    (by
      apply List.ext_getElem
      · simp; omega
      · intro i q1 q2
        have q3 : i < nn.toNatClampNeg := by simpa using q2
        have q4 : sp.toNatClampNeg + i < xs.length := by omega
        simp [List.getD, q4])
    (by simpa using h5) N ge hg hsize hs hd hf hW hlo
  refine ⟨T', h', L, X', e', N', K', Ia.of_arv (k := k') (z := ys.length.toInt32) (d := .int 0) ?_ ?_, st⟩
  · simpa [List.map_append, List.map_take, List.map_drop] using V'
  · rw [(len32 lb).1]; simp; omega
theorem cloneI (X : Stand p l e R s m args below meth c T locs cells slots) (hx : p.tables.exec = Jvm.exec) (hZ : Z.Warmed39 s.vm) {a0 : Array Value} {own ad : String} {index : Nat} (hown : s.vm.findClass own = some m.cls)
    (w1 : (Cond.methodLink own index ⟨ad, "clone", "()Ljava/lang/Object;"⟩).before a0 Z = true) (w2 : (Cond.sameMethod ad "java/lang/Object" "clone" "()Ljava/lang/Object;").before a0 Z = true) (w3 : (Cond.native ⟨"java/lang/Object", "clone", "()Ljava/lang/Object;"⟩).before a0 Z = true)
    (w4 : (Cond.instanceMethod ⟨"java/lang/Object", "clone", "()Ljava/lang/Object;"⟩).before a0 Z = true) (w5 : (Cond.selects ad ⟨ad, "clone", "()Ljava/lang/Object;"⟩ ⟨"java/lang/Object", "clone", "()Ljava/lang/Object;"⟩).before a0 Z = true) (w6 : (Cond.castable ad "java/lang/Cloneable").before a0 Z = true)
    (eT : T.heap = h) (F : Ia Z h a ty xs) (E : Exa Z h a ad) {g : JFrame} (hg : g.method = m) (hsize : g.locals.size = c.maxLocals) {rest : List Value} (hst : g.stack = .ref a :: rest) (hd : decode c.code g.pc = .ok (.invokevirtual index, 3))
    (hf : 1 ≤ R.frames) {W cap : Nat} (hW : 2 * g.monitorRoom + (rest.map fun v => v.category).sum ≤ W) (hl : W + 14 ≤ R.locals) (hcap : xs.length ≤ cap) (hc : cells + 1 ≤ R.cells) (hsl : slots + cap ≤ R.slots) :
    ∃ T' h', Stand p l e R s m args below meth c T' locs (cells + 1) (slots + cap) ∧ T'.heap = h' ∧ Ext h h' ∧ Ia Z h' h.size ty xs ∧ Exa Z h' h.size ad ∧
      ∀ target, Steps p.tables e below (T'.setTop { g with pc := g.pc + 3, stack := .ref h.size :: rest }) target → Steps p.tables e below (T.setTop g) target := by
  obtain ⟨k, A, la⟩ := F.arv
  obtain ⟨T', h', X', e', ex, A', E', st⟩ := cloneH X hx hZ hown w1 w2 w3 w4 w5 w6 eT A.arh E hg hsize hst hd hf hW hl (by rw [(len32 la).1]; exact hcap) hc hsl
  exact ⟨T', h', X', e', ex, Ia.of_arv (k := k) (z := xs.length.toInt32) (d := .int 0) A' (len32 la).1.symm, E', st⟩
theorem selP {a0 : Array Value} {y : MethodName} {kk : Nat} (hZ : Z.Warmed39 s.vm) (wi : (Cond.instantiable y.cls kk).before a0 Z = true) (wp : (Cond.privateMethod y).before a0 Z = true) (wm : (Cond.instanceMethod y).before a0 Z = true) (hy : y.cls ≠ "java/lang/invoke/MethodHandle" ∧ y.cls ≠ "java/lang/invoke/VarHandle") : (Cond.selects y.cls y y).before args s = true := by
  obtain ⟨c, k, h1, h2, -, h4, -⟩ := Cond.instantiable_spec (mvT (args := args) hZ wi)
  exact selects_self_of_private h1 h2 (by simp only [Bool.or_eq_false_iff] at h4; exact h4.1) (Cond.privateMethod_at (mvP hZ wp (args := args))) (mvT hZ wm) hy
end Own
end Jvm.OwnKit
namespace Jvm.OwnKit
open Sem ClassFile Op Lib Jvm.Stand Jvm.Free Jvm.LawKit Jvm.RoadKit
section Own2
variable {p : Program} {l : Launch} {e : Env} {R : Room} {s : State} {m : MethodId} {args : Array Value} {below : List Frame} {meth : Method} {c : Code} {T : State} {locs : List Loc} {cells slots : Nat} {Z : State} {h h' : Heap} {a b : Addr}
/-- an array of references, whole, with what may lie in it -/
def Ra (Z : State) (h : Heap) (a : Addr) (C : String) (vs : List Value) : Prop := ∃ c : Cell, Arr Z h a c (.object C) ∧ Ovr Z c.cls C ∧ c.slots = vs.toArray ∧ vs.length < 2147483648
/-- an array of which the length alone is known -/
def Rn (Z : State) (h : Heap) (a : Addr) (n : Int32) : Prop := ∃ (c : Cell) (ty : FieldType), Arr Z h a c ty ∧ c.slots.size.toInt32 = n
variable {C : String} {vs : List Value} {ws : List Addr} {sl : Nat} {v w : Value} {j n : Int32} {k : ClassId} {rest : List Value}
theorem Ra.lt (F : Ra Z h a C vs) : a < h.size := by obtain ⟨c, A, -⟩ := F; exact A.lt
theorem Ra.ext (F : Ra Z h a C vs) (E : Ext h h') : Ra Z h' a C vs := by obtain ⟨c, A, r⟩ := F; exact ⟨c, A.ext E, r⟩
theorem Ra.other (F : Ra Z h b C vs) (W : Wr h h' a sl v) (q : b ≠ a) : Ra Z h' b C vs := by obtain ⟨c, A, r⟩ := F; exact ⟨c, A.other W q, r⟩
theorem Ra.keep (F : Ra Z h a C vs) (K : Keep h h' ws) (q : a ∉ ws) : Ra Z h' a C vs := by obtain ⟨c, A, r⟩ := F; exact ⟨c, ⟨K.2.1 a c A.1 q, A.2⟩, r⟩
theorem Rn.lt (F : Rn Z h a n) : a < h.size := by obtain ⟨c, ty, A, -⟩ := F; exact A.lt
theorem Rn.ext (F : Rn Z h a n) (E : Ext h h') : Rn Z h' a n := by obtain ⟨c, ty, A, r⟩ := F; exact ⟨c, ty, A.ext E, r⟩
theorem Rn.other (F : Rn Z h b n) (W : Wr h h' a sl v) (q : b ≠ a) : Rn Z h' b n := by obtain ⟨c, ty, A, r⟩ := F; exact ⟨c, ty, A.other W q, r⟩
theorem Rn.keep (F : Rn Z h a n) (K : Keep h h' ws) (q : a ∉ ws) : Rn Z h' a n := by obtain ⟨c, ty, A, r⟩ := F; exact ⟨c, ty, ⟨K.2.1 a c A.1 q, A.2⟩, r⟩
theorem Ra.new (A : Arr Z h a (newA k (.object C) n) (.object C)) (O : Ovr Z k C) : Ra Z h a C (List.replicate n.toNatClampNeg .null) := ⟨_, A, O, by simp [newA, defaultValue], by simp [nn_lt]⟩
theorem Ra.hin {cl : Cell} (e : cl.slots = vs.toArray) (hj : ¬ j < 0) (hlt : j.toNatClampNeg < vs.length) : ¬ (j < 0 ∨ cl.slots.size ≤ j.toNatClampNeg) := by
  rw [e]; simp only [List.size_toArray]; rintro (q | q); exact hj q; omega
theorem ldR (X : Stand p l e R s m args below meth c T locs cells slots) (hx : p.tables.exec = Jvm.exec) (hZ : Z.Warmed39 s.vm) (eT : T.heap = h) (F : Ra Z h a C vs) {v : Value} (hj : ¬ j < 0) (hv : vs[j.toNatClampNeg]? = some v) {g : JFrame} (hg : g.method = m) (hs : g.stack = .int j :: .ref a :: rest) (hd : decode c.code g.pc = .ok (.aaload, 1)) :
    ∀ t, Steps p.tables e below (T.setTop { g with pc := g.pc + 1, stack := v :: rest }) t → Steps p.tables e below (T.setTop g) t := by
  obtain ⟨cl, A, -, q, -⟩ := F
  exact X.aaload hx (j := j) (v := v) (by rw [eT]; exact A.1) (State.isArrayOf_alike hZ.alike A.2.1) rfl A.2.2 (Ra.hin q hj (List.getElem?_eq_some_iff.mp hv).1) (by rw [q]; simpa using hv) hg hs hd
theorem stR' {y : Addr} (X : Stand p l e R s m args below meth c T locs cells slots) (hx : p.tables.exec = Jvm.exec) (hZ : Z.Warmed39 s.vm) (eT : T.heap = h) (F : Ra Z h a C vs) (I : Ins Z h y C true) (hj : ¬ j < 0) (hlt : j.toNatClampNeg < vs.length) {g : JFrame} (hg : g.method = m) (hs : g.stack = .ref y :: .int j :: .ref a :: rest) (hd : decode c.code g.pc = .ok (.aastore, 1)) :
    ∃ T' h', Stand p l e R s m args below meth c T' (locs ++ [⟨a, j.toNatClampNeg⟩]) cells slots ∧ T'.heap = h' ∧ Wr h h' a j.toNatClampNeg (.ref y) ∧ Ra Z h' a C (vs.set j.toNatClampNeg (.ref y)) ∧ ∀ t, Steps p.tables e below (T'.setTop { g with pc := g.pc + 1, stack := rest }) t → Steps p.tables e below (T.setTop g) t := by
  obtain ⟨cl, A, O, q, hl⟩ := F
  obtain ⟨T', h', X', e', W, st⟩ := stR X hx hZ eT A (Ra.hin q hj hlt) rfl (Sto.of A O I) hg hs hd
  exact ⟨T', h', X', e', W, ⟨_, A.same W, O, by simp [Cell.setSlot, q], by simpa using hl⟩, st⟩
theorem lenR (X : Stand p l e R s m args below meth c T locs cells slots) (hx : p.tables.exec = Jvm.exec) (hZ : Z.Warmed39 s.vm) (eT : T.heap = h) (F : Ra Z h a C vs) (hn : vs.length.toInt32 = n) {g : JFrame} (hg : g.method = m) (hs : g.stack = .ref a :: rest) (hd : decode c.code g.pc = .ok (.arraylength, 1)) :
    ∀ t, Steps p.tables e below (T.setTop { g with pc := g.pc + 1, stack := .int n :: rest }) t → Steps p.tables e below (T.setTop g) t := by
  obtain ⟨cl, A, -, q, -⟩ := F
  have q2 : cl.slots.size.toInt32 = n := by rw [q]; simpa using hn
  have := X.arraylength hx (by rw [eT]; exact A.1) (State.isArrayOf_alike hZ.alike A.2.1) hg hs hd
  rw [q2] at this
  exact this
theorem lenN (X : Stand p l e R s m args below meth c T locs cells slots) (hx : p.tables.exec = Jvm.exec) (hZ : Z.Warmed39 s.vm) (eT : T.heap = h) (F : Rn Z h a n) {g : JFrame} (hg : g.method = m) (hs : g.stack = .ref a :: rest) (hd : decode c.code g.pc = .ok (.arraylength, 1)) :
    ∀ t, Steps p.tables e below (T.setTop { g with pc := g.pc + 1, stack := .int n :: rest }) t → Steps p.tables e below (T.setTop g) t := by
  obtain ⟨cl, ty, A, q2⟩ := F
  have := X.arraylength hx (by rw [eT]; exact A.1) (State.isArrayOf_alike hZ.alike A.2.1) hg hs hd
  rw [q2] at this
  exact this
end Own2
end Jvm.OwnKit
namespace Jvm.OwnKit
open Sem ClassFile Op Lib Jvm.Stand Jvm.Free Jvm.LawKit Jvm.RoadKit Bundle
section Own3
variable {p : Program} {l : Launch} {e : Env} {R : Room} {s : State} {m : MethodId} {args : Array Value} {below : List Frame} {meth : Method} {c : Code} {T : State} {locs : List Loc} {cells slots : Nat} {Z : State} {h h' : Heap} {a b : Addr} {a0 : Array Value}
/-- the end of a body that may have interned -/
abbrev DoneW (s : State) (Q : Option Value → Heap → Vm → List Loc → Prop) (kc ks : Nat) : State → Outcome → Prop := fun s₂ o => ∃ v L, o = .returned v ∧ Q v s₂.heap s₂.vm L ∧ ReturnedEndW s o s₂ L kc ks
theorem rew_mono {s t : State} {o : Outcome} {L : List Loc} {k n k' n' : Nat} (h : ReturnedEndW s o t L k n) (hk : k ≤ k') (hn : n ≤ n') : ReturnedEndW s o t L k' n' := ⟨h.1, h.2.1, h.2.2.1, h.2.2.2.mono hk hn⟩
theorem Go.finW {S : State} {vm₁ : Vm} (X : Stand p l e R (s.setVm vm₁) m args below meth c T locs cells slots) {n : Nat} (hS : s.Since vm₁ n) (hn : n ≤ T.heap.size) (hlk : meth.locks = false) {v : Option Value} (hv : meth.sig.returnType = none → v = none) {Q : Option Value → Heap → Vm → List Loc → Prop} {kc ks : Nat}
    (hstep : ∀ fs, (∀ (f : JFrame) (acts : List Action), f.method = m → f.locked = none → f.entered = [] → (doReturn e (T.setTop f) acts v).1 = T.setFrames fs) → Steps p.tables e below S (T.setFrames fs))
    (hQ : Q v T.heap T.vm locs) (hc : cells ≤ kc) (hs : slots ≤ ks) : Go p e below S (DoneW s Q kc ks) := by
  obtain ⟨fs, hr, hrun, hended, hW⟩ := X.leaveW hS hn (v := v) hv hlk
  exact ⟨_, _, hstep fs hr, hrun, hended, _, _, rfl, hQ, rew_mono hW hc hs⟩
/-- RoadKit's backOfS with a word on the tables ahead of the call and behind it -/
theorem backOfV {y : MethodName} {bytes : ByteArray} {maxL : Nat} {ret : Option FieldType} {rm : Room} {len W : Nat} {as' : Array Value} {V : Vm → Prop} {Q : Option Value → Heap → Vm → List Loc → Prop}
    (hM : MetFree l y (head1 [Cond.code y bytes maxL ret] rm) (fun a U => a = as' ∧ Z.Warmed39 U.vm ∧ U.heap = h ∧ V U.vm) (fun _ _ _ _ _ => True) (fun _ U o U' => ∃ v L, o = .returned v ∧ Q v U'.heap U'.vm L ∧ ReturnedEndW U o U' L rm.cells rm.slots))
    (hZ : Z.Warmed39 s.vm) (wc : (Cond.code y bytes maxL ret).before a0 Z = true) (wz : (Cond.initialized y.cls).before a0 Z = true) (hf : rm.frames + 1 ≤ R.frames) (hl : W + (maxL + 11) + rm.locals ≤ R.locals) (hV : ∀ vm', s.WarmedH vm' → V vm') :
    BackS l R p e below s args y len W (fun A a => a = as' ∧ A.U.heap = h ∧ A.cells + rm.cells ≤ R.cells ∧ A.slots + rm.slots ≤ R.slots)
      (fun A _ v B => ∃ L, Q v B.U.heap B.U.vm L ∧ B.locs = A.locs ++ L ∧ B.cells = A.cells + rm.cells ∧ B.slots = A.slots + rm.slots) :=
  BackS.of_freeW (bytes := bytes) (maxL := maxL) (ret := ret) (E := fun _ _ o t L k n => k = rm.cells ∧ n = rm.slots ∧ ∃ v, o = .returned v ∧ Q v t.heap t.vm L) hM hf hl
    (fun m meth c A a Y hp => have hU : Z.Warmed39 A.U.vm := wtrans hZ Y.warmed
      ⟨by show (Cond.and _ .tt).before a A.U = true; rw [Cond.before_and, mv hU wc]; rfl, mv hU wc, mv hU wz, hp.2.2.1, hp.2.2.2⟩)
    (fun m meth c A a g mk Y hp => ⟨hp.1, wtrans hZ Y.warmed, hp.2.1, hV _ Y.warmed⟩) (fun _ _ _ _ _ _ _ _ _ => trivial)
    (fun _ _ _ _ ⟨v, L, h1, h2, h3⟩ => ⟨L, _, _, h3, rfl, rfl, v, h1, h2⟩)
    (fun m meth c A a g mk v t L k n Y hp _ _ ⟨e1, e2, v', e3, e4⟩ => by cases e3; subst e1 e2; exact ⟨L, e4, rfl, rfl, rfl⟩)
theorem IB.still {vm vm' : Vm} {Ts : List String} (I : IB Z vm Ts) (q : vm'.interned = vm.interned) : IB Z vm' Ts := by
  obtain ⟨more, h1, h2⟩ := I; exact ⟨more, q.trans h1, h2⟩
abbrev ST : String := "java/lang/String"
/-- what is known of the texts loaded so far: those of K, and "" whose object is known where it was loaded -/
def Em (Z : State) (vm : Vm) (h : Heap) (K : List String) : Prop := ∃ Ts, IB Z vm Ts ∧ (∀ t ∈ Ts, t = "" ∨ t ∈ K) ∧ ("" ∈ Ts → ∃ a b, Lit (Z.setVm vm) ST 7 a ∧ Exa Z h a ST ∧ Fld Z h a ST "coder" "B" (.int 0) ∧ Fld Z h a ST "value" "[B" (.ref b) ∧ Ia Z h b .byte [])
variable {vm vm' : Vm} {K : List String}
theorem Em.start : Em Z Z.vm h [] := ⟨[], IB.start, by simp, by simp⟩
theorem Em.ext (F : Em Z vm h K) (E : Ext h h') : Em Z vm h' K := by
  obtain ⟨Ts, h1, h2, h3⟩ := F
  refine ⟨Ts, h1, h2, fun q => ?_⟩
  obtain ⟨a, b, r1, r2, r3, r4, r5⟩ := h3 q
  exact ⟨a, b, r1, r2.ext E, r3.ext E, r4.ext E, r5.ext E⟩
theorem Em.keep {ws : List Addr} (F : Em Z vm h K) (W : Keep h h' ws) (hw : ∀ w ∈ ws, ∃ C n, Exa Z h w C ∧ C ≠ ST ∧ (Cond.instantiable C n).before a0 Z = true) : Em Z vm h' K := by
  obtain ⟨Ts, h1, h2, h3⟩ := F
  refine ⟨Ts, h1, h2, fun q => ?_⟩
  obtain ⟨a, b, r1, r2, r3, r4, r5⟩ := h3 q
  have na : a ∉ ws := fun z => by
    obtain ⟨C, n, e1, e2, -⟩ := hw a z
    exact ne_exa e1 r2 e2 rfl
  have nb : b ∉ ws := fun z => by
    obtain ⟨C, n, e1, -, e3⟩ := hw b z
    obtain ⟨c, A, -⟩ := r5
    exact ne_arr e1 e3 A rfl
  exact ⟨a, b, r1, r2.keep W, r3.keep W na, r4.keep W na, r5.keep W nb⟩
theorem Em.wr {w : Addr} {sl n : Nat} {v : Value} {C : String} (F : Em Z vm h K) (W : Wr h h' w sl v) (E : Exa Z h w C) (hC : C ≠ ST) (wi : (Cond.instantiable C n).before a0 Z = true) : Em Z vm h' K :=
  F.keep (Keep.of_wr W) (allS ⟨C, n, E, hC, wi⟩ all0)
theorem Em.still (F : Em Z vm h K) (q : vm'.interned = vm.interned) (hW : (Z.setVm vm).Warmed39 vm') : Em Z vm' h K := by
  obtain ⟨Ts, h1, h2, h3⟩ := F
  refine ⟨Ts, IB.still h1 q, h2, fun q => ?_⟩
  obtain ⟨a, b, r1, r⟩ := h3 q
  exact ⟨a, b, Lit.stays r1 hW, r⟩
theorem w39 {X : Vm} (h : (s.setVm vm).Warmed39 X) : (Z.setVm vm).Warmed39 X := h
/-- 'ldc ""' in String's own code: loaded for the first time or once more -/
theorem ldcE {vm0 : Vm} (X : Stand p l e R (s.setVm vm0) m args below meth c T locs cells slots) (hx : p.tables.exec = Jvm.exec) (hZ : Z.Warmed39 vm0) (hown : vm0.findClass ST = some m.cls) (w : (Cond.stringLink ST 7 "").before a0 Z = true) (wS : ∀ a ∈ Bundle.stringAtoms, a.before a0 Z = true)
    (eT : T.heap = h) {k0 : Nat} (hS : s.Since vm0 k0) (hk : k0 ≤ h.size) (N : Fr s.heap.size locs) (hkeep : ∀ (b : Addr) (cl : Cell), Z.heap[b]? = some cl → s.heap[b]? = some cl) (I : Em Z vm0 h K) (hK : "" ∉ K) (hh : Jvm.Lit.constHeld Z ST 7) (hcw : Jvm.Lit.compactW.before a0 Z = true)
    {g : JFrame} (hg : g.method = m) (hd : decode c.code g.pc = .ok (.ldc 7, 2)) (hc : cells + 2 ≤ R.cells) (hl : slots + 4 ≤ R.slots) :
    ∃ (a : Addr) (T' : State) (h' : Heap) (b : Addr) (k1 : Nat), Stand p l e R (s.setVm T'.vm) m args below meth c T' locs (cells + 2) (slots + 4) ∧ T'.heap = h' ∧ Ext h h' ∧ s.Since T'.vm k1 ∧ k1 ≤ h'.size ∧ Z.Warmed39 T'.vm ∧ T'.vm.findClass ST = some m.cls ∧
      Exa Z h' a ST ∧ Fld Z h' a ST "coder" "B" (.int 0) ∧ Fld Z h' a ST "value" "[B" (.ref b) ∧ Ia Z h' b .byte [] ∧ Lit (Z.setVm T'.vm) ST 7 a ∧ Em Z T'.vm h' K ∧
      ∀ target, Steps p.tables e below (T'.setTop { g with pc := g.pc + 2, stack := .ref a :: g.stack }) target → Steps p.tables e below (T.setTop g) target := by
  obtain ⟨Ts, h1, h2, h3⟩ := I
  by_cases hT : "" ∈ Ts
  · obtain ⟨a, b, r1, r2, r3, r4, r5⟩ := h3 hT
    have st := ldcAgain (Z := Z) (a0 := a0) X hx hZ hown w (L := (r1 : Lit (s.setVm vm0) ST 7 a)) hg hd
    have hW := X.warmed
    obtain ⟨X2, hS2, hZ2, ho2⟩ := rebS (Z := Z) (own := ST) hS hk (X.retabled hW.wide) (hW.since h.size) (Nat.le_refl _) hZ hown
    exact ⟨a, T, h, b, h.size, X2.more (by omega) (by omega), eT, ⟨Nat.le_refl _, fun _ _ q => q⟩, hS2, Nat.le_refl _, hZ2, ho2, r2, r3, r4, r5, Lit.stays r1 (w39 hW.wide), Em.still ⟨Ts, h1, h2, h3⟩ hW.interned_eq (w39 hW.wide), st⟩
  · obtain ⟨a, T', h', k1, b, k, X2, e2, E2, hS2, hk2, hZ2, ho2, r2, r3, r4, r5, -, -, I2, L2, st⟩ := ldcSVL (vs := []) (z := 0) X hx hZ hown w wS eT hS hk N hkeep h1 hT hh hcw ⟨fun c q => by simp at q, rfl⟩ (by decide) rfl hg hd (n := 0) (by decide) (by decide) hc hl
    have r5' : Ia Z h' b .byte [] := Ia.of_arv (xs := []) r5 rfl
    exact ⟨a, T', h', b, k1, X2, e2, E2, hS2, hk2, hZ2, ho2, r2, r3, r4, r5', L2, ⟨"" :: Ts, I2, fun t q => by rcases List.mem_cons.mp q with q | q; exact Or.inl q; exact h2 t q, fun _ => ⟨a, b, L2, r2, r3, r4, r5'⟩⟩, st⟩
end Own3
end Jvm.OwnKit
namespace Jvm.OwnKit
open Sem ClassFile Op Lib Jvm.Stand Jvm.Free Jvm.LawKit Jvm.RoadKit Bundle
section Own4
variable {p : Program} {l : Launch} {e : Env} {R : Room} {s : State} {m : MethodId} {args : Array Value} {below : List Frame} {meth : Method} {c : Code} {T : State} {locs : List Loc} {cells slots : Nat} {Z : State} {h h' : Heap} {a b : Addr} {a0 : Array Value} {vm vm' : Vm} {K : List String} {ty : FieldType} {xs : List Int32}
theorem Ia.neE {C : String} {n : Nat} (F : Ia Z h b ty xs) (E : Exa Z h a C) (wi : (Cond.instantiable C n).before a0 Z = true) : b ≠ a := by
  obtain ⟨c, A, -⟩ := F; exact Ne.symm (ne_arr E wi A)
theorem Em.keep0 (F : Em Z vm h K) (W : Keep h h' []) : Em Z vm h' K := by
  obtain ⟨Ts, h1, h2, h3⟩ := F
  refine ⟨Ts, h1, h2, fun q => ?_⟩
  obtain ⟨a, b, r1, r2, r3, r4, r5⟩ := h3 q
  exact ⟨a, b, r1, r2.keep W, r3.keep W nin0, r4.keep W nin0, r5.keep W nin0⟩
theorem Em.wrx {x : Addr} {n : Nat} (F : Em Z vm h K) (E : Exa Z h x ST) (N : Fld Z h x ST "value" "[B" .null) (wi : (Cond.instantiable ST n).before a0 Z = true) (W : Keep h h' [x]) : Em Z vm h' K := by
  obtain ⟨Ts, h1, h2, h3⟩ := F
  refine ⟨Ts, h1, h2, fun q => ?_⟩
  obtain ⟨a, b, r1, r2, r3, r4, r5⟩ := h3 q
  have na : a ≠ x := Fld.ne r4 N nofun
  have nb : b ≠ x := Ia.neE r5 E wi
  exact ⟨a, b, r1, r2.keep W, r3.keep W (ninS na nin0), r4.keep W (ninS na nin0), r5.keep W (ninS nb nin0)⟩
/-- a String constant whose text is one of K, loaded for the first time or not: what it says is not asked -/
theorem ldcT {vm0 : Vm} {own text : String} {index : Nat} (X : Stand p l e R (s.setVm vm0) m args below meth c T locs cells slots) (hx : p.tables.exec = Jvm.exec) (hZ : Z.Warmed39 vm0) (hown : vm0.findClass own = some m.cls) (w : (Cond.stringLink own index text).before a0 Z = true) (wS : ∀ a ∈ Bundle.stringAtoms, a.before a0 Z = true)
    (eT : T.heap = h) {k0 : Nat} (hS : s.Since vm0 k0) (hk : k0 ≤ h.size) (I : Em Z vm0 h K) (hK : text ∈ K) (hE : text ≠ "")
    {g : JFrame} (hg : g.method = m) (hd : decode c.code g.pc = .ok (.ldc index, 2)) {n : Nat} (hn : 4 * text.toList.length ≤ n) (hbig : n ≤ 536870912) (hc : cells + 2 ≤ R.cells) (hl : slots + (n + 4) ≤ R.slots) :
    ∃ (a : Addr) (T' : State) (h' : Heap) (k1 : Nat), Stand p l e R (s.setVm T'.vm) m args below meth c T' locs (cells + 2) (slots + (n + 4)) ∧ T'.heap = h' ∧ Ext h h' ∧ s.Since T'.vm k1 ∧ k1 ≤ h'.size ∧ Z.Warmed39 T'.vm ∧ T'.vm.findClass own = some m.cls ∧ Em Z T'.vm h' K ∧
      ∀ target, Steps p.tables e below (T'.setTop { g with pc := g.pc + 2, stack := .ref a :: g.stack }) target → Steps p.tables e below (T.setTop g) target := by
  obtain ⟨Ts, h1, h2, h3⟩ := I
  have wS' : ∀ d ∈ Bundle.stringAtoms, d.before args (s.setVm vm0) = true := fun d hd => by
    have q := wS d hd
    have e : Bundle.stringAtoms = [.initialized ST, .instantiable ST 4, .arrayClass .byte, .laysFinal ST ST "value" "[B", .laysFinal ST ST "coder" "B", .soleField ST "value", .soleField ST "coder"] := rfl
    rw [e] at hd
    simp only [List.mem_cons, List.not_mem_nil, or_false] at hd
    rcases hd with rfl | rfl | rfl | rfl | rfl | rfl | rfl
    · exact mv (s := s.setVm vm0) hZ q
    · exact mv (s := s.setVm vm0) hZ q
    · exact mvA (s := s.setVm vm0) hZ q
    · exact mv (s := s.setVm vm0) hZ q
    · exact mv (s := s.setVm vm0) hZ q
    · exact mv (s := s.setVm vm0) hZ q
    · exact mv (s := s.setVm vm0) hZ q
  obtain ⟨a, T', X', hS', -, hb, -, hint, st⟩ := X.ldcColdN hx (own := own) hown (mvS hZ w) wS' hg hd hn hbig hc hl
  subst eT
  have E := ext_of hb
  have hW : Z.Warmed39 T'.vm := State.Warmed39.trans (t := s.setVm vm0) hZ hS'.1
  have hf : T'.vm.findClass own = some m.cls := by rw [hS'.1.alike.findClass]; exact hown
  have hTi : T.vm.interned = vm0.interned := X.warmed.interned_eq
  have I2 : IB Z T'.vm (text :: Ts) := h1.step (by rw [← hTi]; exact hint.imp id fun ⟨us, q1, q2, _⟩ => ⟨us, a, q1, q2⟩)
  refine ⟨a, T', _, _, X', rfl, E, hS.trans hS' (Nat.le_trans hk E.1), Nat.le_refl _, hW, hf, ⟨text :: Ts, I2, fun t q => ?_, fun q => ?_⟩, st⟩
  · rcases List.mem_cons.mp q with q | q
    · exact Or.inr (q ▸ hK)
    · exact h2 t q
  · rcases List.mem_cons.mp q with q | q
    · exact absurd q.symm hE
    · obtain ⟨a', b', r1, r2, r3, r4, r5⟩ := h3 q
      exact ⟨a', b', Lit.stays r1 (w39 hS'.1), r2.ext E, r3.ext E, r4.ext E, r5.ext E⟩
theorem Em.begin : Em Z Z.vm h K := ⟨[], IB.start, by simp, by simp⟩
theorem nar_c (x : Int32) : nar .char (x.toUInt32.toUInt16.toUInt32.toInt32) = x.toUInt32.toUInt16.toUInt32.toInt32 := by
  have h1 := c_i2c x
  have h2 := c_i2c (x.toUInt32.toUInt16.toUInt32.toInt32)
  exact Int32.toInt_inj.mp (by show (x.toUInt32.toUInt16.toUInt32.toInt32).toUInt32.toUInt16.toUInt32.toInt32.toInt = _; omega)
theorem nar_v {x v : Int32} (h : (x.toUInt32.toUInt16.toUInt32.toInt32) = v) : nar .char v = v := h ▸ nar_c x
/-- no object of C is one of K: C's chain of superclasses does not meet K, a class of which there are objects -/
theorem ns_root {O K : String} {n : Nat} (w : (Cond.noSuperclass O).before a0 Z = true) (wk : (Cond.instantiable K n).before a0 Z = true) (hn : O ≠ K) : NS Z O K := by
  obtain ⟨c, k, h1, h2, h3, -, -⟩ := Cond.noSuperclass_spec w
  obtain ⟨t, kt, g1, -⟩ := Cond.instantiable_spec wk
  have ne := ids_ne h1 g1 hn
  refine ⟨c, t, h1, g1, fun fuel => ?_⟩
  cases fuel with
  | zero => rfl
  | succ f => simp [Vm.isSubclassAux, ne, h2, h3]
theorem ns_no {C S K : String} {n : Nat} (w : (Cond.superclass C S).before a0 Z = true) (wk : (Cond.instantiable K n).before a0 Z = true) (q : NS Z C K) (hn : C ≠ K) : ∃ c t, Z.vm.findClass C = some c ∧ Z.vm.findClass K = some t ∧ Z.vm.assignable c t = false := by
  obtain ⟨c, t, h0, g0, n3⟩ := q
  obtain ⟨p, k, kp, h1, h2, h3, h4, h5, -, h7⟩ := Cond.superclass_spec h0 w
  obtain ⟨t', kt, g1, g2, g3, g4, -⟩ := Cond.instantiable_spec wk
  cases g0.symm.trans g1
  have ne := ids_ne h0 g0 hn
  have g5 : kt.isInterface = false := by simp only [Bool.or_eq_false_iff] at g4; exact g4.1
  refine ⟨c, t, h0, g0, ?_⟩
  show Z.vm.assignableAux (255 + 1) c t = false
  simp [Vm.assignableAux, ne, h2, g2, h5, g3, g5, Vm.isSubclass, n3]
end Own4
end Jvm.OwnKit
namespace Jvm.Pilot.@@N@@
open Jvm Jvm.ClassFile Sem Op Lib Jvm.Free Jvm.Stand Jvm.LawKit Jvm.RoadKit Bundle Jvm.Pilot.@@N@@.Jvm.D Jvm.OwnKit
theorem tw {a0 : Array Value} {Z : State} (hw : ∀ d ∈ tables_1, d.before a0 Z = true) (i : Nat) {d : Jvm.Cond} (h : tables_1[i]? = some d) : d.before a0 Z = true := hw d (List.mem_of_getElem? h)
abbrev cST : String := "java/lang/String"
abbrev cLAW : String := "com/example/acquaint/acquaint/store/CodePointOrderComparePinLaw"
abbrev cCP : String := "com/example/acquaint/acquaint/store/CodePointOrder"
abbrev cPR : String := "jdk/internal/util/Preconditions"
abbrev cU6 : String := "java/lang/StringUTF16"
abbrev vi (x : Int32) : Slot := .val (.int x)
abbrev vr (x : Addr) : Slot := .val (.ref x)
theorem wStr {a0 : Array Value} {Z : State} (hw : ∀ d ∈ tables_1, d.before a0 Z = true) : ∀ a ∈ Bundle.stringAtoms, a.before a0 Z = true := by
  intro a ha
  have q : Bundle.stringAtoms = [.initialized cST, .instantiable cST 4, .arrayClass .byte, .laysFinal cST cST "value" "[B", .laysFinal cST cST "coder" "B", .soleField cST "value", .soleField cST "coder"] := rfl
  rw [q] at ha
  simp only [List.mem_cons, List.not_mem_nil, or_false] at ha
  rcases ha with rfl | rfl | rfl | rfl | rfl | rfl | rfl
  · exact tw hw 14 rfl
  · exact tw hw 13 rfl
  · exact tw hw 27 rfl
  · exact tw hw 28 rfl
  · exact tw hw 29 rfl
  · exact tw hw 30 rfl
  · exact tw hw 31 rfl
def Ch (y : Int32) : Prop := 0 ≤ y.toInt ∧ y.toInt < 65536
def drF (v : Int32) : Int32 := if (v &&& (3 : Int32)) = (0 : Int32) then ((((v.toUInt32 >>> ((2 : Int32) &&& 31).toUInt32).toInt32) &&& (65535 : Int32)).toUInt32.toUInt16.toUInt32.toInt32) else if (v &&& (3 : Int32)) = (1 : Int32) then (((55296 : Int32) + (((v.toUInt32 >>> ((2 : Int32) &&& 31).toUInt32).toInt32) &&& (1023 : Int32))).toUInt32.toUInt16.toUInt32.toInt32) else if (v &&& (3 : Int32)) = (2 : Int32) then (((56320 : Int32) + (((v.toUInt32 >>> ((2 : Int32) &&& 31).toUInt32).toInt32) &&& (1023 : Int32))).toUInt32.toUInt16.toUInt32.toInt32) else (((57344 : Int32) + (((v.toUInt32 >>> ((2 : Int32) &&& 31).toUInt32).toInt32) &&& (8191 : Int32))).toUInt32.toUInt16.toUInt32.toInt32)
theorem own_c2 (v : Int32) : Ch (v.toUInt32.toUInt16.toUInt32.toInt32) := (c_i2c v).2
theorem own_dr (v : Int32) : Ch (drF v) := by
  unfold drF
  split
  · exact own_c2 _
  · split
    · exact own_c2 _
    · split
      · exact own_c2 _
      · exact own_c2 _
theorem own_chif {P : Prop} [Decidable P] {u v k : Int32} (h : (if P then u else v) = k) (hu : Ch u) (hv : Ch v) : Ch k := by
  rw [← h]; split
  · exact hu
  · exact hv
def lbF (y : Int32) : Int32 := (nar .byte (y.toInt8.toInt32))
def loF (y : Int32) : Int32 := (nar .byte ((y >>> ((0 : Int32) &&& 31)).toInt8.toInt32))
def hiF (y : Int32) : Int32 := (nar .byte ((y >>> ((8 : Int32) &&& 31)).toInt8.toInt32))
def gcF (u v : Int32) : Int32 := ((((u &&& (255 : Int32)) <<< ((0 : Int32) &&& 31)) ||| ((v &&& (255 : Int32)) <<< ((8 : Int32) &&& 31))).toUInt32.toUInt16.toUInt32.toInt32)
theorem own_nb (v : Int32) : ((nar .byte (v.toInt8.toInt32)).toInt - v.toInt) % 256 = 0 := by
  have h1 := c_i2b v
  have h2 := c_i2b (v.toInt8.toInt32)
  have e : nar .byte (v.toInt8.toInt32) = (v.toInt8.toInt32).toInt8.toInt32 := rfl
  rw [e]; omega
theorem own_255 (v : Int32) : (v &&& (255 : Int32)).toInt = v.toInt % 256 := c_mask v 255 8 (by decide) (by decide)
theorem own_gc {y : Int32} (h : Ch y) : gcF (loF y) (hiF y) = y := by
  obtain ⟨q1, q2⟩ := h
  have s0 := c_ishr y 0 0 (by decide)
  have s8 := c_ishr y 8 8 (by decide)
  have n0 := own_nb (y >>> ((0 : Int32) &&& 31))
  have n8 := own_nb (y >>> ((8 : Int32) &&& 31))
  have a0 := own_255 (loF y)
  have a8 := own_255 (hiF y)
  have e0 : (loF y).toInt = (nar .byte ((y >>> ((0 : Int32) &&& 31)).toInt8.toInt32)).toInt := rfl
  have e8 : (hiF y).toInt = (nar .byte ((y >>> ((8 : Int32) &&& 31)).toInt8.toInt32)).toInt := rfl
  have l0 := c_ishl (loF y &&& 255) 0 0 (by decide)
  have l8 := c_ishl (hiF y &&& 255) 8 8 (by decide)
  have r0 := rng32 ((loF y &&& 255) <<< ((0 : Int32) &&& 31))
  have r8 := rng32 ((hiF y &&& 255) <<< ((8 : Int32) &&& 31))
  simp only [Nat.reducePow] at s0 s8 l0 l8
  have A : ((loF y &&& 255) <<< ((0 : Int32) &&& 31)).toInt = y.toInt % 256 := by omega
  have B : ((hiF y &&& 255) <<< ((8 : Int32) &&& 31)).toInt = y.toInt / 256 * 256 := by omega
  have o := c_or' ((loF y &&& 255) <<< ((0 : Int32) &&& 31)) ((hiF y &&& 255) <<< ((8 : Int32) &&& 31)) 8 (by decide) 256 (by decide) (by rw [B]; omega) (by rw [A]; omega) (by rw [A]; omega)
  have ro := rng32 (((loF y &&& 255) <<< ((0 : Int32) &&& 31)) ||| ((hiF y &&& 255) <<< ((8 : Int32) &&& 31)))
  have O : (((loF y &&& 255) <<< ((0 : Int32) &&& 31)) ||| ((hiF y &&& 255) <<< ((8 : Int32) &&& 31))).toInt = y.toInt := by omega
  have t := c_i2c (((loF y &&& 255) <<< ((0 : Int32) &&& 31)) ||| ((hiF y &&& 255) <<< ((8 : Int32) &&& 31)))
  rw [O] at t
  have u : (gcF (loF y) (hiF y)).toInt = y.toInt := by
    show (((((loF y &&& 255) <<< ((0 : Int32) &&& 31)) ||| ((hiF y &&& 255) <<< ((8 : Int32) &&& 31))).toUInt32.toUInt16.toUInt32.toInt32)).toInt = y.toInt
    omega
  exact Int32.toInt_inj.mp u
theorem own_nc {y : Int32} (h : Ch y) : nar .char y = y := by
  have t := c_i2c y
  have e : nar .char y = y.toUInt32.toUInt16.toUInt32.toInt32 := rfl
  obtain ⟨q1, q2⟩ := h
  rw [e]; exact Int32.toInt_inj.mp (by omega)
theorem own_lb {y : Int32} (h : Ch y) (q : ¬ ((255 : Int32) < y)) : ((lbF y) &&& (255 : Int32)) = y := by
  have a := own_255 (lbF y)
  have n := own_nb y
  have e : (lbF y).toInt = (nar .byte (y.toInt8.toInt32)).toInt := rfl
  rw [Int32.lt_iff_toInt_lt] at q
  have e2 : (255 : Int32).toInt = 255 := rfl
  obtain ⟨q1, q2⟩ := h
  exact Int32.toInt_inj.mp (by omega)
def Rep (cs : List Int32) (co : Int32) (ys : List Int32) : Prop := (cs = [] ∧ co = (0 : Int32) ∧ ys = []) ∨ (∃ y0, cs = [y0] ∧ co = (0 : Int32) ∧ ys = [lbF y0] ∧ Ch y0 ∧ ¬ ((255 : Int32) < y0)) ∨ (∃ y0, cs = [y0] ∧ co = (1 : Int32) ∧ ys = [loF y0, hiF y0] ∧ Ch y0) ∨ (∃ y0 y1, cs = [y0, y1] ∧ co = (0 : Int32) ∧ ys = [lbF y0, lbF y1] ∧ Ch y0 ∧ Ch y1 ∧ ¬ ((255 : Int32) < y0) ∧ ¬ ((255 : Int32) < y1)) ∨ ∃ y0 y1, cs = [y0, y1] ∧ co = (1 : Int32) ∧ ys = [loF y0, hiF y0, loF y1, hiF y1] ∧ Ch y0 ∧ Ch y1
theorem own_rep1 {y0 co : Int32} {ys : List Int32} (h : Rep [y0] co ys) : (co = (0 : Int32) ∧ ys = [lbF y0] ∧ Ch y0 ∧ ¬ ((255 : Int32) < y0)) ∨ (co = (1 : Int32) ∧ ys = [loF y0, hiF y0] ∧ Ch y0) := by
  rcases h with ⟨h, -⟩ | ⟨z, h, r⟩ | ⟨z, h, r⟩ | ⟨z, w, h, r⟩ | ⟨z, w, h, r⟩
  · cases h
  · cases h; exact Or.inl r
  · cases h; exact Or.inr r
  · cases h
  · cases h
theorem own_rep2 {y0 y1 co : Int32} {ys : List Int32} (h : Rep [y0, y1] co ys) : (co = (0 : Int32) ∧ ys = [lbF y0, lbF y1] ∧ Ch y0 ∧ Ch y1 ∧ ¬ ((255 : Int32) < y0) ∧ ¬ ((255 : Int32) < y1)) ∨ (co = (1 : Int32) ∧ ys = [loF y0, hiF y0, loF y1, hiF y1] ∧ Ch y0 ∧ Ch y1) := by
  rcases h with ⟨h, -⟩ | ⟨z, h, r⟩ | ⟨z, h, r⟩ | ⟨z, w, h, r⟩ | ⟨z, w, h, r⟩
  · cases h
  · cases h
  · cases h
  · cases h; exact Or.inl r
  · cases h; exact Or.inr r
theorem own_shp {cs ys : List Int32} {co : Int32} (h : Rep cs co ys) : cs = [] ∨ (∃ y0, cs = [y0] ∧ Ch y0) ∨ ∃ y0 y1, cs = [y0, y1] ∧ Ch y0 ∧ Ch y1 := by
  rcases h with ⟨h, -⟩ | ⟨z, h, -, -, r, -⟩ | ⟨z, h, -, -, r⟩ | ⟨z, w, h, -, -, r, t, -⟩ | ⟨z, w, h, -, -, r, t⟩
  · exact Or.inl h
  · exact Or.inr (Or.inl ⟨z, h, r⟩)
  · exact Or.inr (Or.inl ⟨z, h, r⟩)
  · exact Or.inr (Or.inr ⟨z, w, h, r, t⟩)
  · exact Or.inr (Or.inr ⟨z, w, h, r, t⟩)
def lnF (cs : List Int32) : Int32 := cs.length.toInt32
def ihF (y : Int32) : Int32 := if y < (55296 : Int32) then 0 else if y < (56320 : Int32) then 1 else 0
def ilF (y : Int32) : Int32 := if y < (56320 : Int32) then 0 else if y < (57344 : Int32) then 1 else 0
def ihL (y : Int32) : Int32 := if y < (55296 : Int32) then 0 else if (56319 : Int32) < y then 0 else 1
def ilL (y : Int32) : Int32 := if y < (56320 : Int32) then 0 else if (57343 : Int32) < y then 0 else 1
def ccF (v : Int32) : Int32 := if v < (65536 : Int32) then 1 else 2
def tcF (y z : Int32) : Int32 := (((y <<< ((10 : Int32) &&& 31)) + z) + (-56613888 : Int32))
def tpF (y z : Int32) : Int32 := ((((y - (55296 : Int32)) <<< ((10 : Int32) &&& 31)) + (z - (56320 : Int32))) + (65536 : Int32))
def cp2 (y z : Int32) : Int32 := if (ihF y) = (0 : Int32) then y else if (ilF z) = (0 : Int32) then y else tcF y z
def icF (u v : Int32) : Int32 := if u < v then -1 else if u = v then 0 else 1
def sgnF (v : Int32) : Int32 := if v < (0 : Int32) then -1 else if (0 : Int32) < v then 1 else 0
theorem own_ih0 {y : Int32} (q : ¬ ((255 : Int32) < y)) : ihF y = 0 := by
  rw [Int32.lt_iff_toInt_lt] at q
  have e2 : (255 : Int32).toInt = 255 := rfl
  have e3 : (55296 : Int32).toInt = 55296 := rfl
  exact if_pos (by rw [Int32.lt_iff_toInt_lt]; omega)
theorem own_cpl {y z : Int32} (q : ¬ ((255 : Int32) < y)) : cp2 y z = y := if_pos (own_ih0 q)
theorem own_ihE (y : Int32) : ihL y = ihF y := by
  have e1 : (56319 : Int32).toInt = 56319 := rfl
  have e2 : (56320 : Int32).toInt = 56320 := rfl
  unfold ihL ihF
  by_cases h : y < (55296 : Int32)
  · rw [if_pos h, if_pos h]
  · rw [if_neg h, if_neg h]
    by_cases q : y < (56320 : Int32)
    · rw [if_pos q, if_neg (by rw [Int32.lt_iff_toInt_lt] at q ⊢; omega)]
    · rw [if_neg q, if_pos (by rw [Int32.lt_iff_toInt_lt] at q ⊢; omega)]
theorem own_ilE (y : Int32) : ilL y = ilF y := by
  have e1 : (57343 : Int32).toInt = 57343 := rfl
  have e2 : (57344 : Int32).toInt = 57344 := rfl
  unfold ilL ilF
  by_cases h : y < (56320 : Int32)
  · rw [if_pos h, if_pos h]
  · rw [if_neg h, if_neg h]
    by_cases q : y < (57344 : Int32)
    · rw [if_pos q, if_neg (by rw [Int32.lt_iff_toInt_lt] at q ⊢; omega)]
    · rw [if_neg q, if_pos (by rw [Int32.lt_iff_toInt_lt] at q ⊢; omega)]
theorem own_tp0 {y z a b cc dd s1 s2 : Int32} (ea : a.toInt = 55296) (eb : b.toInt = 56320) (ec : cc.toInt = 65536) (ed : dd.toInt = -56613888) (h1 : (s1.toInt - y.toInt * 1024) % 4294967296 = 0) (h2 : (s2.toInt - (y - a).toInt * 1024) % 4294967296 = 0) : (s2 + (z - b)) + cc = (s1 + z) + dd := by
  have d1 := c_isub y a
  have d2 := c_isub z b
  have p1 := c_iadd s1 z
  have p2 := c_iadd (s1 + z) dd
  have p3 := c_iadd s2 (z - b)
  have p4 := c_iadd (s2 + (z - b)) cc
  have r1 := rng32 ((s2 + (z - b)) + cc)
  have r2 := rng32 ((s1 + z) + dd)
  exact Int32.toInt_inj.mp (by omega)
theorem own_tp (y z : Int32) : tpF y z = tcF y z := own_tp0 (by decide) (by decide) (by decide) (by decide) (c_ishl y 10 10 (by decide)) (c_ishl (y - (55296 : Int32)) 10 10 (by decide))
theorem own_cc1 {y : Int32} (h : Ch y) : ccF y = 1 := by
  have e : (65536 : Int32).toInt = 65536 := rfl
  obtain ⟨q1, q2⟩ := h
  exact if_pos (by rw [Int32.lt_iff_toInt_lt]; omega)
theorem own_tcr {y z : Int32} (h1 : ¬ (ihF y) = (0 : Int32)) (h2 : ¬ (ilF z) = (0 : Int32)) : 65536 ≤ (tcF y z).toInt := by
  have y1 : 55296 ≤ y.toInt ∧ y.toInt < 56320 := by
    unfold ihF at h1
    by_cases a : y < (55296 : Int32)
    · rw [if_pos a] at h1; exact absurd rfl h1
    · rw [if_neg a] at h1
      by_cases b : y < (56320 : Int32)
      · rw [Int32.lt_iff_toInt_lt] at a b
        have e1 : (55296 : Int32).toInt = 55296 := rfl
        have e2 : (56320 : Int32).toInt = 56320 := rfl
        omega
      · rw [if_neg b] at h1; exact absurd rfl h1
  have z1 : 56320 ≤ z.toInt ∧ z.toInt < 57344 := by
    unfold ilF at h2
    by_cases a : z < (56320 : Int32)
    · rw [if_pos a] at h2; exact absurd rfl h2
    · rw [if_neg a] at h2
      by_cases b : z < (57344 : Int32)
      · rw [Int32.lt_iff_toInt_lt] at a b
        have e1 : (57344 : Int32).toInt = 57344 := rfl
        have e2 : (56320 : Int32).toInt = 56320 := rfl
        omega
      · rw [if_neg b] at h2; exact absurd rfl h2
  have s1 := c_ishl y 10 10 (by decide)
  have p1 := c_iadd (y <<< ((10 : Int32) &&& 31)) z
  have p2 := c_iadd ((y <<< ((10 : Int32) &&& 31)) + z) (-56613888)
  have r2 := rng32 (tcF y z)
  have e4 : (-56613888 : Int32).toInt = -56613888 := rfl
  have f2 : (tcF y z).toInt = (((y <<< ((10 : Int32) &&& 31)) + z) + (-56613888 : Int32)).toInt := rfl
  simp only [Nat.reducePow] at s1
  omega
theorem own_cct {y z : Int32} (h1 : ¬ (ihF y) = (0 : Int32)) (h2 : ¬ (ilF z) = (0 : Int32)) : ccF (tcF y z) = 2 := by
  have q := own_tcr h1 h2
  have e : (65536 : Int32).toInt = 65536 := rfl
  exact if_neg (by rw [Int32.lt_iff_toInt_lt]; omega)
theorem own_cp2 (y z : Int32) : (cp2 y z = y ∧ ((ihF y) = (0 : Int32) ∨ (ilF z) = (0 : Int32))) ∨ (cp2 y z = tcF y z ∧ ¬ (ihF y) = (0 : Int32) ∧ ¬ (ilF z) = (0 : Int32)) := by
  unfold cp2
  by_cases h : (ihF y) = (0 : Int32)
  · exact Or.inl ⟨if_pos h, Or.inl h⟩
  · rw [if_neg h]
    by_cases q : (ilF z) = (0 : Int32)
    · exact Or.inl ⟨if_pos q, Or.inr q⟩
    · exact Or.inr ⟨if_neg q, h, q⟩
def cpL : List Int32 → List Int32
  | [y, z] => if (ihF y) = (0 : Int32) then [y, z] else if (ilF z) = (0 : Int32) then [y, z] else [tcF y z]
  | xs => xs
theorem own_cpn {y z : Int32} (h : (ihF y) = (0 : Int32) ∨ (ilF z) = (0 : Int32)) : cpL [y, z] = [y, z] := by
  show (if (ihF y) = (0 : Int32) then [y, z] else if (ilF z) = (0 : Int32) then [y, z] else [tcF y z]) = _
  by_cases q : (ihF y) = (0 : Int32)
  · exact if_pos q
  · rw [if_neg q]; exact if_pos (h.resolve_left q)
theorem own_cpp {y z : Int32} (h1 : ¬ (ihF y) = (0 : Int32)) (h2 : ¬ (ilF z) = (0 : Int32)) : cpL [y, z] = [tcF y z] := by
  show (if (ihF y) = (0 : Int32) then [y, z] else if (ilF z) = (0 : Int32) then [y, z] else [tcF y z]) = _
  rw [if_neg h1, if_neg h2]
def cmP : List Int32 → List Int32 → Int32
  | [], [] => 0
  | [], _ :: _ => -1
  | _ :: _, [] => 1
  | y :: xs, z :: ys => if y = z then cmP xs ys else icF y z
def cmF (xs ys : List Int32) : Int32 := cmP (cpL xs) (cpL ys)
theorem own_cmq {y z : Int32} {xs ys : List Int32} (h : y = z) : cmP (y :: xs) (z :: ys) = cmP xs ys := if_pos h
theorem own_cmn {y z : Int32} {xs ys : List Int32} (h : ¬ y = z) : cmP (y :: xs) (z :: ys) = icF y z := if_neg h
theorem d1_0 : decode method_2_code 0 = .ok (.iload_n 0, 1) := by decide +kernel
theorem d1_1 : decode method_2_code 1 = .ok (.iconst 3, 1) := by decide +kernel
theorem d1_2 : decode method_2_code 2 = .ok (.iand, 1) := by decide +kernel
theorem d1_3 : decode method_2_code 3 = .ok (.istore_n 1, 1) := by decide +kernel
theorem d1_4 : decode method_2_code 4 = .ok (.iload_n 0, 1) := by decide +kernel
theorem d1_5 : decode method_2_code 5 = .ok (.iconst 2, 1) := by decide +kernel
theorem d1_6 : decode method_2_code 6 = .ok (.iushr, 1) := by decide +kernel
theorem d1_7 : decode method_2_code 7 = .ok (.istore_n 2, 1) := by decide +kernel
theorem d1_8 : decode method_2_code 8 = .ok (.iload_n 1, 1) := by decide +kernel
theorem d1_9 : decode method_2_code 9 = .ok (.ifCond .ne 9, 3) := by decide +kernel
theorem d1_12 : decode method_2_code 12 = .ok (.iload_n 2, 1) := by decide +kernel
theorem d1_13 : decode method_2_code 13 = .ok (.ldc 7, 2) := by decide +kernel
theorem d1_15 : decode method_2_code 15 = .ok (.iand, 1) := by decide +kernel
theorem d1_16 : decode method_2_code 16 = .ok (.i2c, 1) := by decide +kernel
theorem d1_17 : decode method_2_code 17 = .ok (.ireturn, 1) := by decide +kernel
theorem d1_18 : decode method_2_code 18 = .ok (.iload_n 1, 1) := by decide +kernel
theorem d1_19 : decode method_2_code 19 = .ok (.iconst 1, 1) := by decide +kernel
theorem d1_20 : decode method_2_code 20 = .ok (.if_icmp .ne 13, 3) := by decide +kernel
theorem d1_23 : decode method_2_code 23 = .ok (.ldc 8, 2) := by decide +kernel
theorem d1_25 : decode method_2_code 25 = .ok (.iload_n 2, 1) := by decide +kernel
theorem d1_26 : decode method_2_code 26 = .ok (.sipush 1023, 3) := by decide +kernel
theorem d1_29 : decode method_2_code 29 = .ok (.iand, 1) := by decide +kernel
theorem d1_30 : decode method_2_code 30 = .ok (.iadd, 1) := by decide +kernel
theorem d1_31 : decode method_2_code 31 = .ok (.i2c, 1) := by decide +kernel
theorem d1_32 : decode method_2_code 32 = .ok (.ireturn, 1) := by decide +kernel
theorem d1_33 : decode method_2_code 33 = .ok (.iload_n 1, 1) := by decide +kernel
theorem d1_34 : decode method_2_code 34 = .ok (.iconst 2, 1) := by decide +kernel
theorem d1_35 : decode method_2_code 35 = .ok (.if_icmp .ne 13, 3) := by decide +kernel
theorem d1_38 : decode method_2_code 38 = .ok (.ldc 9, 2) := by decide +kernel
theorem d1_40 : decode method_2_code 40 = .ok (.iload_n 2, 1) := by decide +kernel
theorem d1_41 : decode method_2_code 41 = .ok (.sipush 1023, 3) := by decide +kernel
theorem d1_44 : decode method_2_code 44 = .ok (.iand, 1) := by decide +kernel
theorem d1_45 : decode method_2_code 45 = .ok (.iadd, 1) := by decide +kernel
theorem d1_46 : decode method_2_code 46 = .ok (.i2c, 1) := by decide +kernel
theorem d1_47 : decode method_2_code 47 = .ok (.ireturn, 1) := by decide +kernel
theorem d1_48 : decode method_2_code 48 = .ok (.ldc 10, 2) := by decide +kernel
theorem d1_50 : decode method_2_code 50 = .ok (.iload_n 2, 1) := by decide +kernel
theorem d1_51 : decode method_2_code 51 = .ok (.sipush 8191, 3) := by decide +kernel
theorem d1_54 : decode method_2_code 54 = .ok (.iand, 1) := by decide +kernel
theorem d1_55 : decode method_2_code 55 = .ok (.iadd, 1) := by decide +kernel
theorem d1_56 : decode method_2_code 56 = .ok (.i2c, 1) := by decide +kernel
theorem d1_57 : decode method_2_code 57 = .ok (.ireturn, 1) := by decide +kernel
theorem pn_1 : plainName cLAW = true := by first | (simp [plainName, overriddenIn]; done) | decide +kernel
theorem ef_1 (m : MethodId) (x0 : Int32) : entryFrame m #[(.int x0)] 3 = mkF m 0 #[.val (.int x0), .unset, .unset] [] := by first | (simp [entryFrame, mkF, argsToLocals, Value.category]; done) | rfl
def Q_rmDr (Z : State) (v : Int32)  (h0 : Heap) (n0 : Nat) (vQ : Option Value) (hQ : Heap) (LQ : List Loc) : Prop := vQ = some (.int (drF v)) ∧ LQ = [] ∧ hQ = h0
set_option maxRecDepth 65536 in
set_option maxHeartbeats 40000000 in
theorem rmDr (l : Launch) (Z : State) (a0 : Array Value) (hw : ∀ d ∈ tables_1, d.before a0 Z = true) (ws : List Jvm.Cond) (v : Int32)  (h0 : Heap) (n0 : Nat) (Z0 : n0 ≤ h0.size) :
    MetFree l (⟨cLAW, "draw", "(I)C"⟩ : MethodName) (head1 (Jvm.Cond.code (⟨cLAW, "draw", "(I)C"⟩ : MethodName) method_2_code 3 (some .char) :: ws) ({ frames := 0, cells := 0, slots := 0, locals := 0 } : Room)) (fun aQ UQ => aQ = #[(.int v)] ∧ Z.Warmed39 UQ.vm ∧ UQ.heap = h0) (fun _ _ _ _ _ => True) (fun _ UQ oQ UR => ∃ vQ LQ, oQ = .returned vQ ∧ Q_rmDr Z v  h0 n0 vQ UR.heap LQ ∧ FrameEnd UQ oQ UR LQ ({ frames := 0, cells := 0, slots := 0, locals := 0 } : Room).cells ({ frames := 0, cells := 0, slots := 0, locals := 0 } : Room).slots) := by
  refine MetFree.of_bodySF (plainFor_of_name pn_1) hisR ?_
  intro p e s m args below meth c s₁ Bd hml0 hP hK
  obtain ⟨rfl, hZ, hh⟩ := hP
  have hx := Bd.exec
  have hby := Bd.bytes
  have hlk := Bd.notSynchronized
  have hml : c.maxLocals = 3 := hml0
  have hown : s.vm.findClass cLAW = some m.cls := findClass_of_methodNamed Bd.named
  have hnm := (name_of_methodNamed Bd.named Bd.method).1
  have X0 : Stand p l e ({ frames := 0, cells := 0, slots := 0, locals := 0 } : Room) s m #[(.int v)] below meth c s₁ [] 0 0 := Stand.of_body Bd
  have e0 : s₁.heap = h0 := by rw [← hh, Bd.state]; rfl
  have N0 := Fr.nil n0
  show Go p e below _ (Done s (Q_rmDr Z v  h0 n0) ({ frames := 0, cells := 0, slots := 0, locals := 0 } : Room).cells ({ frames := 0, cells := 0, slots := 0, locals := 0 } : Room).slots)
  refine Go.via (fun tQ kQ => castTop (ef_1 m v) kQ) ?_
  show Go p e below (s₁.setTop (mkF m 0 #[vi v, .unset, .unset] [])) _
  refine Go.via (fun _ => XS.iloadN X0.here hx rfl (hb hby d1_0) rfl) ?_
  refine Go.via (fun _ => XS.iconst X0.here hx rfl (hb hby d1_1)) ?_
  refine Go.via (fun _ => XS.iand X0.here hx rfl (hb hby d1_2) rfl) ?_
  refine Go.via (fun _ => XS.istoreN X0.here hx rfl (hb hby d1_3) rfl (l' := #[vi v, vi (v &&& (3 : Int32)), .unset]) rfl) ?_
  refine Go.via (fun _ => XS.iloadN X0.here hx rfl (hb hby d1_4) rfl) ?_
  refine Go.via (fun _ => XS.iconst X0.here hx rfl (hb hby d1_5)) ?_
  refine Go.via (fun _ => XS.iushr X0.here hx rfl (hb hby d1_6) rfl) ?_
  show Go p e below (s₁.setTop (mkF m 7 #[vi v, vi (v &&& (3 : Int32)), .unset] [(.int ((v.toUInt32 >>> ((2 : Int32) &&& 31).toUInt32).toInt32))])) _
  refine Go.via (fun _ => XS.istoreN X0.here hx rfl (hb hby d1_7) rfl (l' := #[vi v, vi (v &&& (3 : Int32)), vi ((v.toUInt32 >>> ((2 : Int32) &&& 31).toUInt32).toInt32)]) rfl) ?_
  refine Go.via (fun _ => XS.iloadN X0.here hx rfl (hb hby d1_8) rfl) ?_
  by_cases hc1 : (v &&& (3 : Int32)) = (0 : Int32)
  · refine Go.via (fun _ => XS.ifNo X0.here hx rfl (hb hby d1_9) rfl ((if0 _ _).trans (teq (hc1 : (v &&& (3 : Int32)) = (0 : Int32))).2)) ?_
    refine Go.via (fun _ => XS.iloadN X0.here hx rfl (hb hby d1_12) rfl) ?_
    refine Go.via (X0.ldcInt hx hown (mvT hZ (tw hw 8 rfl)) (g := (mkF m 13 #[vi v, vi (v &&& (3 : Int32)), vi ((v.toUInt32 >>> ((2 : Int32) &&& 31).toUInt32).toInt32)] [(.int ((v.toUInt32 >>> ((2 : Int32) &&& 31).toUInt32).toInt32))])) rfl (hb hby d1_13)) ?_
    show Go p e below (s₁.setTop (mkF m 15 #[vi v, vi (v &&& (3 : Int32)), vi ((v.toUInt32 >>> ((2 : Int32) &&& 31).toUInt32).toInt32)] [(.int (65535 : Int32)), (.int ((v.toUInt32 >>> ((2 : Int32) &&& 31).toUInt32).toInt32))])) _
    refine Go.via (fun _ => XS.iand X0.here hx rfl (hb hby d1_15) rfl) ?_
    refine Go.via (fun _ => XS.i2c X0.here hx rfl (hb hby d1_16) rfl) ?_
    exact Go.fin X0 hlk (v := some (.int (nar .char ((((v.toUInt32 >>> ((2 : Int32) &&& 31).toUInt32).toInt32) &&& (65535 : Int32)).toUInt32.toUInt16.toUInt32.toInt32)))) (fun h => by rw [Bd.returns] at h; cases h) (fun fs hr => retN X0 hx (t := .char) Bd.returns (by simp) (hb hby d1_17) hr) (by rw [e0]; exact ⟨(congrArg (fun qq => some (Value.int qq)) ((nar_c _).trans (Eq.symm ((if_pos hc1).trans rfl)))), rfl, rfl⟩) (by decide) (by decide)
  · refine Go.via (fun _ => XS.ifYes X0.here hx rfl (pc0 := 9) (pc' := 18) rfl (hb hby d1_9) rfl ((if0 _ _).trans (feq (hc1 : ¬ ((v &&& (3 : Int32)) = (0 : Int32)))).2) (by decide) (by decide)) ?_
    refine Go.via (fun _ => XS.iloadN X0.here hx rfl (hb hby d1_18) rfl) ?_
    refine Go.via (fun _ => XS.iconst X0.here hx rfl (hb hby d1_19)) ?_
    by_cases hc2 : (v &&& (3 : Int32)) = (1 : Int32)
    · refine Go.via (fun _ => XS.icmpNo X0.here hx rfl (hb hby d1_20) rfl (teq (hc2 : (v &&& (3 : Int32)) = (1 : Int32))).2) ?_
      refine Go.via (X0.ldcInt hx hown (mvT hZ (tw hw 7 rfl)) (g := (mkF m 23 #[vi v, vi (v &&& (3 : Int32)), vi ((v.toUInt32 >>> ((2 : Int32) &&& 31).toUInt32).toInt32)] [])) rfl (hb hby d1_23)) ?_
      show Go p e below (s₁.setTop (mkF m 25 #[vi v, vi (v &&& (3 : Int32)), vi ((v.toUInt32 >>> ((2 : Int32) &&& 31).toUInt32).toInt32)] [(.int (55296 : Int32))])) _
      refine Go.via (fun _ => XS.iloadN X0.here hx rfl (hb hby d1_25) rfl) ?_
      refine Go.via (fun _ => XS.sipush X0.here hx rfl (hb hby d1_26)) ?_
      refine Go.via (fun _ => XS.iand X0.here hx rfl (hb hby d1_29) rfl) ?_
      refine Go.via (fun _ => XS.iadd X0.here hx rfl (hb hby d1_30) rfl) ?_
      refine Go.via (fun _ => XS.i2c X0.here hx rfl (hb hby d1_31) rfl) ?_
      exact Go.fin X0 hlk (v := some (.int (nar .char (((55296 : Int32) + (((v.toUInt32 >>> ((2 : Int32) &&& 31).toUInt32).toInt32) &&& (1023 : Int32))).toUInt32.toUInt16.toUInt32.toInt32)))) (fun h => by rw [Bd.returns] at h; cases h) (fun fs hr => retN X0 hx (t := .char) Bd.returns (by simp) (hb hby d1_32) hr) (by rw [e0]; exact ⟨(congrArg (fun qq => some (Value.int qq)) ((nar_c _).trans (Eq.symm ((if_neg hc1).trans ((if_pos hc2).trans rfl))))), rfl, rfl⟩) (by decide) (by decide)
    · refine Go.via (fun _ => XS.icmpYes X0.here hx rfl (pc0 := 20) (pc' := 33) rfl (hb hby d1_20) rfl (feq (hc2 : ¬ ((v &&& (3 : Int32)) = (1 : Int32)))).2 (by decide) (by decide)) ?_
      refine Go.via (fun _ => XS.iloadN X0.here hx rfl (hb hby d1_33) rfl) ?_
      refine Go.via (fun _ => XS.iconst X0.here hx rfl (hb hby d1_34)) ?_
      by_cases hc3 : (v &&& (3 : Int32)) = (2 : Int32)
      · refine Go.via (fun _ => XS.icmpNo X0.here hx rfl (hb hby d1_35) rfl (teq (hc3 : (v &&& (3 : Int32)) = (2 : Int32))).2) ?_
        refine Go.via (X0.ldcInt hx hown (mvT hZ (tw hw 6 rfl)) (g := (mkF m 38 #[vi v, vi (v &&& (3 : Int32)), vi ((v.toUInt32 >>> ((2 : Int32) &&& 31).toUInt32).toInt32)] [])) rfl (hb hby d1_38)) ?_
        show Go p e below (s₁.setTop (mkF m 40 #[vi v, vi (v &&& (3 : Int32)), vi ((v.toUInt32 >>> ((2 : Int32) &&& 31).toUInt32).toInt32)] [(.int (56320 : Int32))])) _
        refine Go.via (fun _ => XS.iloadN X0.here hx rfl (hb hby d1_40) rfl) ?_
        refine Go.via (fun _ => XS.sipush X0.here hx rfl (hb hby d1_41)) ?_
        refine Go.via (fun _ => XS.iand X0.here hx rfl (hb hby d1_44) rfl) ?_
        refine Go.via (fun _ => XS.iadd X0.here hx rfl (hb hby d1_45) rfl) ?_
        refine Go.via (fun _ => XS.i2c X0.here hx rfl (hb hby d1_46) rfl) ?_
        exact Go.fin X0 hlk (v := some (.int (nar .char (((56320 : Int32) + (((v.toUInt32 >>> ((2 : Int32) &&& 31).toUInt32).toInt32) &&& (1023 : Int32))).toUInt32.toUInt16.toUInt32.toInt32)))) (fun h => by rw [Bd.returns] at h; cases h) (fun fs hr => retN X0 hx (t := .char) Bd.returns (by simp) (hb hby d1_47) hr) (by rw [e0]; exact ⟨(congrArg (fun qq => some (Value.int qq)) ((nar_c _).trans (Eq.symm ((if_neg hc1).trans ((if_neg hc2).trans ((if_pos hc3).trans rfl)))))), rfl, rfl⟩) (by decide) (by decide)
      · refine Go.via (fun _ => XS.icmpYes X0.here hx rfl (pc0 := 35) (pc' := 48) rfl (hb hby d1_35) rfl (feq (hc3 : ¬ ((v &&& (3 : Int32)) = (2 : Int32)))).2 (by decide) (by decide)) ?_
        refine Go.via (X0.ldcInt hx hown (mvT hZ (tw hw 5 rfl)) (g := (mkF m 48 #[vi v, vi (v &&& (3 : Int32)), vi ((v.toUInt32 >>> ((2 : Int32) &&& 31).toUInt32).toInt32)] [])) rfl (hb hby d1_48)) ?_
        show Go p e below (s₁.setTop (mkF m 50 #[vi v, vi (v &&& (3 : Int32)), vi ((v.toUInt32 >>> ((2 : Int32) &&& 31).toUInt32).toInt32)] [(.int (57344 : Int32))])) _
        refine Go.via (fun _ => XS.iloadN X0.here hx rfl (hb hby d1_50) rfl) ?_
        refine Go.via (fun _ => XS.sipush X0.here hx rfl (hb hby d1_51)) ?_
        refine Go.via (fun _ => XS.iand X0.here hx rfl (hb hby d1_54) rfl) ?_
        refine Go.via (fun _ => XS.iadd X0.here hx rfl (hb hby d1_55) rfl) ?_
        refine Go.via (fun _ => XS.i2c X0.here hx rfl (hb hby d1_56) rfl) ?_
        exact Go.fin X0 hlk (v := some (.int (nar .char (((57344 : Int32) + (((v.toUInt32 >>> ((2 : Int32) &&& 31).toUInt32).toInt32) &&& (8191 : Int32))).toUInt32.toUInt16.toUInt32.toInt32)))) (fun h => by rw [Bd.returns] at h; cases h) (fun fs hr => retN X0 hx (t := .char) Bd.returns (by simp) (hb hby d1_57) hr) (by rw [e0]; exact ⟨(congrArg (fun qq => some (Value.int qq)) ((nar_c _).trans (Eq.symm ((if_neg hc1).trans ((if_neg hc2).trans ((if_neg hc3).trans rfl)))))), rfl, rfl⟩) (by decide) (by decide)
theorem d27_0 : decode jdk_89_method_14_code 0 = .ok (.iload_n 0, 1) := by decide +kernel
theorem d27_1 : decode jdk_89_method_14_code 1 = .ok (.ldc 75, 2) := by decide +kernel
theorem d27_3 : decode jdk_89_method_14_code 3 = .ok (.if_icmp .lt 13, 3) := by decide +kernel
theorem d27_16 : decode jdk_89_method_14_code 16 = .ok (.iconst 0, 1) := by decide +kernel
theorem d27_17 : decode jdk_89_method_14_code 17 = .ok (.ireturn, 1) := by decide +kernel
theorem d27_6 : decode jdk_89_method_14_code 6 = .ok (.iload_n 0, 1) := by decide +kernel
theorem d27_7 : decode jdk_89_method_14_code 7 = .ok (.ldc 76, 2) := by decide +kernel
theorem d27_9 : decode jdk_89_method_14_code 9 = .ok (.if_icmp .ge 7, 3) := by decide +kernel
theorem d27_12 : decode jdk_89_method_14_code 12 = .ok (.iconst 1, 1) := by decide +kernel
theorem d27_13 : decode jdk_89_method_14_code 13 = .ok (.goto 4, 3) := by decide +kernel
theorem pn_27 : plainName "java/lang/Character" = true := by first | (simp [plainName, overriddenIn]; done) | decide +kernel
theorem ef_27 (m : MethodId) (x0 : Int32) : entryFrame m #[(.int x0)] 1 = mkF m 0 #[.val (.int x0)] [] := by first | (simp [entryFrame, mkF, argsToLocals, Value.category]; done) | rfl
def Q_rmHs (Z : State) (v : Int32)  (h0 : Heap) (n0 : Nat) (vQ : Option Value) (hQ : Heap) (LQ : List Loc) : Prop := vQ = some (.int (ihF v)) ∧ LQ = [] ∧ hQ = h0
set_option maxRecDepth 65536 in
set_option maxHeartbeats 40000000 in
theorem rmHs (l : Launch) (Z : State) (a0 : Array Value) (hw : ∀ d ∈ tables_1, d.before a0 Z = true) (ws : List Jvm.Cond) (v : Int32)  (h0 : Heap) (n0 : Nat) (Z0 : n0 ≤ h0.size) :
    MetFree l (⟨"java/lang/Character", "isHighSurrogate", "(C)Z"⟩ : MethodName) (head1 (Jvm.Cond.code (⟨"java/lang/Character", "isHighSurrogate", "(C)Z"⟩ : MethodName) jdk_89_method_14_code 1 (some .boolean) :: ws) ({ frames := 0, cells := 0, slots := 0, locals := 0 } : Room)) (fun aQ UQ => aQ = #[(.int v)] ∧ Z.Warmed39 UQ.vm ∧ UQ.heap = h0) (fun _ _ _ _ _ => True) (fun _ UQ oQ UR => ∃ vQ LQ, oQ = .returned vQ ∧ Q_rmHs Z v  h0 n0 vQ UR.heap LQ ∧ FrameEnd UQ oQ UR LQ ({ frames := 0, cells := 0, slots := 0, locals := 0 } : Room).cells ({ frames := 0, cells := 0, slots := 0, locals := 0 } : Room).slots) := by
  refine MetFree.of_bodySF (plainFor_of_name pn_27) hisR ?_
  intro p e s m args below meth c s₁ Bd hml0 hP hK
  obtain ⟨rfl, hZ, hh⟩ := hP
  have hx := Bd.exec
  have hby := Bd.bytes
  have hlk := Bd.notSynchronized
  have hml : c.maxLocals = 1 := hml0
  have hown : s.vm.findClass "java/lang/Character" = some m.cls := findClass_of_methodNamed Bd.named
  have hnm := (name_of_methodNamed Bd.named Bd.method).1
  have X0 : Stand p l e ({ frames := 0, cells := 0, slots := 0, locals := 0 } : Room) s m #[(.int v)] below meth c s₁ [] 0 0 := Stand.of_body Bd
  have e0 : s₁.heap = h0 := by rw [← hh, Bd.state]; rfl
  have N0 := Fr.nil n0
  show Go p e below _ (Done s (Q_rmHs Z v  h0 n0) ({ frames := 0, cells := 0, slots := 0, locals := 0 } : Room).cells ({ frames := 0, cells := 0, slots := 0, locals := 0 } : Room).slots)
  refine Go.via (fun tQ kQ => castTop (ef_27 m v) kQ) ?_
  show Go p e below (s₁.setTop (mkF m 0 #[vi v] [])) _
  refine Go.via (fun _ => XS.iloadN X0.here hx rfl (hb hby d27_0) rfl) ?_
  refine Go.via (X0.ldcInt hx hown (mvT hZ (tw hw 125 rfl)) (g := (mkF m 1 #[vi v] [(.int v)])) rfl (hb hby d27_1)) ?_
  show Go p e below (s₁.setTop (mkF m 3 #[vi v] [(.int (55296 : Int32)), (.int v)])) _
  by_cases hc4 : v < (55296 : Int32)
  · refine Go.via (fun _ => XS.icmpYes X0.here hx rfl (pc0 := 3) (pc' := 16) rfl (hb hby d27_3) rfl (tlt (hc4 : v < (55296 : Int32))).1 (by decide) (by decide)) ?_
    show Go p e below (s₁.setTop (mkF m 16 #[vi v] [])) _
    refine Go.via (fun _ => XS.iconst X0.here hx rfl (hb hby d27_16)) ?_
    exact Go.fin X0 hlk (v := some (.int (0 : Int32))) (fun h => by rw [Bd.returns] at h; cases h) (fun fs hr => retN X0 hx (t := .boolean) Bd.returns (by simp) (hb hby d27_17) hr) (by rw [e0]; exact ⟨(congrArg (fun qq => some (Value.int qq)) (Eq.symm ((if_pos hc4).trans rfl))), rfl, rfl⟩) (by decide) (by decide)
  · refine Go.via (fun _ => XS.icmpNo X0.here hx rfl (hb hby d27_3) rfl (flt (hc4 : ¬ (v < (55296 : Int32)))).1) ?_
    show Go p e below (s₁.setTop (mkF m 6 #[vi v] [])) _
    refine Go.via (fun _ => XS.iloadN X0.here hx rfl (hb hby d27_6) rfl) ?_
    refine Go.via (X0.ldcInt hx hown (mvT hZ (tw hw 130 rfl)) (g := (mkF m 7 #[vi v] [(.int v)])) rfl (hb hby d27_7)) ?_
    show Go p e below (s₁.setTop (mkF m 9 #[vi v] [(.int (56320 : Int32)), (.int v)])) _
    by_cases hc5 : v < (56320 : Int32)
    · refine Go.via (fun _ => XS.icmpNo X0.here hx rfl (hb hby d27_9) rfl (tlt (hc5 : v < (56320 : Int32))).2.1) ?_
      show Go p e below (s₁.setTop (mkF m 12 #[vi v] [])) _
      refine Go.via (fun _ => XS.iconst X0.here hx rfl (hb hby d27_12)) ?_
      refine Go.via (fun _ => XS.goto X0.here hx rfl (pc0 := 13) (pc' := 17) rfl (hb hby d27_13) (by decide) (by decide)) ?_
      exact Go.fin X0 hlk (v := some (.int (1 : Int32))) (fun h => by rw [Bd.returns] at h; cases h) (fun fs hr => retN X0 hx (t := .boolean) Bd.returns (by simp) (hb hby d27_17) hr) (by rw [e0]; exact ⟨(congrArg (fun qq => some (Value.int qq)) (Eq.symm ((if_neg hc4).trans ((if_pos hc5).trans rfl)))), rfl, rfl⟩) (by decide) (by decide)
    · refine Go.via (fun _ => XS.icmpYes X0.here hx rfl (pc0 := 9) (pc' := 16) rfl (hb hby d27_9) rfl (flt (hc5 : ¬ (v < (56320 : Int32)))).2.1 (by decide) (by decide)) ?_
      show Go p e below (s₁.setTop (mkF m 16 #[vi v] [])) _
      refine Go.via (fun _ => XS.iconst X0.here hx rfl (hb hby d27_16)) ?_
      exact Go.fin X0 hlk (v := some (.int (0 : Int32))) (fun h => by rw [Bd.returns] at h; cases h) (fun fs hr => retN X0 hx (t := .boolean) Bd.returns (by simp) (hb hby d27_17) hr) (by rw [e0]; exact ⟨(congrArg (fun qq => some (Value.int qq)) (Eq.symm ((if_neg hc4).trans ((if_neg hc5).trans rfl)))), rfl, rfl⟩) (by decide) (by decide)
theorem d30_0 : decode jdk_89_method_15_code 0 = .ok (.iload_n 0, 1) := by decide +kernel
theorem d30_1 : decode jdk_89_method_15_code 1 = .ok (.ldc 76, 2) := by decide +kernel
theorem d30_3 : decode jdk_89_method_15_code 3 = .ok (.if_icmp .lt 13, 3) := by decide +kernel
theorem d30_16 : decode jdk_89_method_15_code 16 = .ok (.iconst 0, 1) := by decide +kernel
theorem d30_17 : decode jdk_89_method_15_code 17 = .ok (.ireturn, 1) := by decide +kernel
theorem d30_6 : decode jdk_89_method_15_code 6 = .ok (.iload_n 0, 1) := by decide +kernel
theorem d30_7 : decode jdk_89_method_15_code 7 = .ok (.ldc 77, 2) := by decide +kernel
theorem d30_9 : decode jdk_89_method_15_code 9 = .ok (.if_icmp .ge 7, 3) := by decide +kernel
theorem d30_12 : decode jdk_89_method_15_code 12 = .ok (.iconst 1, 1) := by decide +kernel
theorem d30_13 : decode jdk_89_method_15_code 13 = .ok (.goto 4, 3) := by decide +kernel
theorem pn_30 : plainName "java/lang/Character" = true := by first | (simp [plainName, overriddenIn]; done) | decide +kernel
theorem ef_30 (m : MethodId) (x0 : Int32) : entryFrame m #[(.int x0)] 1 = mkF m 0 #[.val (.int x0)] [] := by first | (simp [entryFrame, mkF, argsToLocals, Value.category]; done) | rfl
def Q_rmLs (Z : State) (v : Int32)  (h0 : Heap) (n0 : Nat) (vQ : Option Value) (hQ : Heap) (LQ : List Loc) : Prop := vQ = some (.int (ilF v)) ∧ LQ = [] ∧ hQ = h0
set_option maxRecDepth 65536 in
set_option maxHeartbeats 40000000 in
theorem rmLs (l : Launch) (Z : State) (a0 : Array Value) (hw : ∀ d ∈ tables_1, d.before a0 Z = true) (ws : List Jvm.Cond) (v : Int32)  (h0 : Heap) (n0 : Nat) (Z0 : n0 ≤ h0.size) :
    MetFree l (⟨"java/lang/Character", "isLowSurrogate", "(C)Z"⟩ : MethodName) (head1 (Jvm.Cond.code (⟨"java/lang/Character", "isLowSurrogate", "(C)Z"⟩ : MethodName) jdk_89_method_15_code 1 (some .boolean) :: ws) ({ frames := 0, cells := 0, slots := 0, locals := 0 } : Room)) (fun aQ UQ => aQ = #[(.int v)] ∧ Z.Warmed39 UQ.vm ∧ UQ.heap = h0) (fun _ _ _ _ _ => True) (fun _ UQ oQ UR => ∃ vQ LQ, oQ = .returned vQ ∧ Q_rmLs Z v  h0 n0 vQ UR.heap LQ ∧ FrameEnd UQ oQ UR LQ ({ frames := 0, cells := 0, slots := 0, locals := 0 } : Room).cells ({ frames := 0, cells := 0, slots := 0, locals := 0 } : Room).slots) := by
  refine MetFree.of_bodySF (plainFor_of_name pn_30) hisR ?_
  intro p e s m args below meth c s₁ Bd hml0 hP hK
  obtain ⟨rfl, hZ, hh⟩ := hP
  have hx := Bd.exec
  have hby := Bd.bytes
  have hlk := Bd.notSynchronized
  have hml : c.maxLocals = 1 := hml0
  have hown : s.vm.findClass "java/lang/Character" = some m.cls := findClass_of_methodNamed Bd.named
  have hnm := (name_of_methodNamed Bd.named Bd.method).1
  have X0 : Stand p l e ({ frames := 0, cells := 0, slots := 0, locals := 0 } : Room) s m #[(.int v)] below meth c s₁ [] 0 0 := Stand.of_body Bd
  have e0 : s₁.heap = h0 := by rw [← hh, Bd.state]; rfl
  have N0 := Fr.nil n0
  show Go p e below _ (Done s (Q_rmLs Z v  h0 n0) ({ frames := 0, cells := 0, slots := 0, locals := 0 } : Room).cells ({ frames := 0, cells := 0, slots := 0, locals := 0 } : Room).slots)
  refine Go.via (fun tQ kQ => castTop (ef_30 m v) kQ) ?_
  show Go p e below (s₁.setTop (mkF m 0 #[vi v] [])) _
  refine Go.via (fun _ => XS.iloadN X0.here hx rfl (hb hby d30_0) rfl) ?_
  refine Go.via (X0.ldcInt hx hown (mvT hZ (tw hw 130 rfl)) (g := (mkF m 1 #[vi v] [(.int v)])) rfl (hb hby d30_1)) ?_
  show Go p e below (s₁.setTop (mkF m 3 #[vi v] [(.int (56320 : Int32)), (.int v)])) _
  by_cases hc6 : v < (56320 : Int32)
  · refine Go.via (fun _ => XS.icmpYes X0.here hx rfl (pc0 := 3) (pc' := 16) rfl (hb hby d30_3) rfl (tlt (hc6 : v < (56320 : Int32))).1 (by decide) (by decide)) ?_
    show Go p e below (s₁.setTop (mkF m 16 #[vi v] [])) _
    refine Go.via (fun _ => XS.iconst X0.here hx rfl (hb hby d30_16)) ?_
    exact Go.fin X0 hlk (v := some (.int (0 : Int32))) (fun h => by rw [Bd.returns] at h; cases h) (fun fs hr => retN X0 hx (t := .boolean) Bd.returns (by simp) (hb hby d30_17) hr) (by rw [e0]; exact ⟨(congrArg (fun qq => some (Value.int qq)) (Eq.symm ((if_pos hc6).trans rfl))), rfl, rfl⟩) (by decide) (by decide)
  · refine Go.via (fun _ => XS.icmpNo X0.here hx rfl (hb hby d30_3) rfl (flt (hc6 : ¬ (v < (56320 : Int32)))).1) ?_
    show Go p e below (s₁.setTop (mkF m 6 #[vi v] [])) _
    refine Go.via (fun _ => XS.iloadN X0.here hx rfl (hb hby d30_6) rfl) ?_
    refine Go.via (X0.ldcInt hx hown (mvT hZ (tw hw 139 rfl)) (g := (mkF m 7 #[vi v] [(.int v)])) rfl (hb hby d30_7)) ?_
    show Go p e below (s₁.setTop (mkF m 9 #[vi v] [(.int (57344 : Int32)), (.int v)])) _
    by_cases hc7 : v < (57344 : Int32)
    · refine Go.via (fun _ => XS.icmpNo X0.here hx rfl (hb hby d30_9) rfl (tlt (hc7 : v < (57344 : Int32))).2.1) ?_
      show Go p e below (s₁.setTop (mkF m 12 #[vi v] [])) _
      refine Go.via (fun _ => XS.iconst X0.here hx rfl (hb hby d30_12)) ?_
      refine Go.via (fun _ => XS.goto X0.here hx rfl (pc0 := 13) (pc' := 17) rfl (hb hby d30_13) (by decide) (by decide)) ?_
      exact Go.fin X0 hlk (v := some (.int (1 : Int32))) (fun h => by rw [Bd.returns] at h; cases h) (fun fs hr => retN X0 hx (t := .boolean) Bd.returns (by simp) (hb hby d30_17) hr) (by rw [e0]; exact ⟨(congrArg (fun qq => some (Value.int qq)) (Eq.symm ((if_neg hc6).trans ((if_pos hc7).trans rfl)))), rfl, rfl⟩) (by decide) (by decide)
    · refine Go.via (fun _ => XS.icmpYes X0.here hx rfl (pc0 := 9) (pc' := 16) rfl (hb hby d30_9) rfl (flt (hc7 : ¬ (v < (57344 : Int32)))).2.1 (by decide) (by decide)) ?_
      show Go p e below (s₁.setTop (mkF m 16 #[vi v] [])) _
      refine Go.via (fun _ => XS.iconst X0.here hx rfl (hb hby d30_16)) ?_
      exact Go.fin X0 hlk (v := some (.int (0 : Int32))) (fun h => by rw [Bd.returns] at h; cases h) (fun fs hr => retN X0 hx (t := .boolean) Bd.returns (by simp) (hb hby d30_17) hr) (by rw [e0]; exact ⟨(congrArg (fun qq => some (Value.int qq)) (Eq.symm ((if_neg hc6).trans ((if_neg hc7).trans rfl)))), rfl, rfl⟩) (by decide) (by decide)
theorem d20_0 : decode method_3_code 0 = .ok (.iload_n 0, 1) := by decide +kernel
theorem d20_1 : decode method_3_code 1 = .ok (.ldc 8, 2) := by decide +kernel
theorem d20_3 : decode method_3_code 3 = .ok (.if_icmp .lt 13, 3) := by decide +kernel
theorem d20_16 : decode method_3_code 16 = .ok (.iconst 0, 1) := by decide +kernel
theorem d20_17 : decode method_3_code 17 = .ok (.ireturn, 1) := by decide +kernel
theorem d20_6 : decode method_3_code 6 = .ok (.iload_n 0, 1) := by decide +kernel
theorem d20_7 : decode method_3_code 7 = .ok (.ldc 11, 2) := by decide +kernel
theorem d20_9 : decode method_3_code 9 = .ok (.if_icmp .gt 7, 3) := by decide +kernel
theorem d20_12 : decode method_3_code 12 = .ok (.iconst 1, 1) := by decide +kernel
theorem d20_13 : decode method_3_code 13 = .ok (.goto 4, 3) := by decide +kernel
theorem pn_20 : plainName cLAW = true := by first | (simp [plainName, overriddenIn]; done) | decide +kernel
theorem ef_20 (m : MethodId) (x0 : Int32) : entryFrame m #[(.int x0)] 1 = mkF m 0 #[.val (.int x0)] [] := by first | (simp [entryFrame, mkF, argsToLocals, Value.category]; done) | rfl
def Q_rmHl (Z : State) (v : Int32)  (h0 : Heap) (n0 : Nat) (vQ : Option Value) (hQ : Heap) (LQ : List Loc) : Prop := vQ = some (.int (ihL v)) ∧ LQ = [] ∧ hQ = h0
set_option maxRecDepth 65536 in
set_option maxHeartbeats 40000000 in
theorem rmHl (l : Launch) (Z : State) (a0 : Array Value) (hw : ∀ d ∈ tables_1, d.before a0 Z = true) (ws : List Jvm.Cond) (v : Int32)  (h0 : Heap) (n0 : Nat) (Z0 : n0 ≤ h0.size) :
    MetFree l (⟨cLAW, "isHigh", "(C)Z"⟩ : MethodName) (head1 (Jvm.Cond.code (⟨cLAW, "isHigh", "(C)Z"⟩ : MethodName) method_3_code 1 (some .boolean) :: ws) ({ frames := 0, cells := 0, slots := 0, locals := 0 } : Room)) (fun aQ UQ => aQ = #[(.int v)] ∧ Z.Warmed39 UQ.vm ∧ UQ.heap = h0) (fun _ _ _ _ _ => True) (fun _ UQ oQ UR => ∃ vQ LQ, oQ = .returned vQ ∧ Q_rmHl Z v  h0 n0 vQ UR.heap LQ ∧ FrameEnd UQ oQ UR LQ ({ frames := 0, cells := 0, slots := 0, locals := 0 } : Room).cells ({ frames := 0, cells := 0, slots := 0, locals := 0 } : Room).slots) := by
  refine MetFree.of_bodySF (plainFor_of_name pn_20) hisR ?_
  intro p e s m args below meth c s₁ Bd hml0 hP hK
  obtain ⟨rfl, hZ, hh⟩ := hP
  have hx := Bd.exec
  have hby := Bd.bytes
  have hlk := Bd.notSynchronized
  have hml : c.maxLocals = 1 := hml0
  have hown : s.vm.findClass cLAW = some m.cls := findClass_of_methodNamed Bd.named
  have hnm := (name_of_methodNamed Bd.named Bd.method).1
  have X0 : Stand p l e ({ frames := 0, cells := 0, slots := 0, locals := 0 } : Room) s m #[(.int v)] below meth c s₁ [] 0 0 := Stand.of_body Bd
  have e0 : s₁.heap = h0 := by rw [← hh, Bd.state]; rfl
  have N0 := Fr.nil n0
  show Go p e below _ (Done s (Q_rmHl Z v  h0 n0) ({ frames := 0, cells := 0, slots := 0, locals := 0 } : Room).cells ({ frames := 0, cells := 0, slots := 0, locals := 0 } : Room).slots)
  refine Go.via (fun tQ kQ => castTop (ef_20 m v) kQ) ?_
  show Go p e below (s₁.setTop (mkF m 0 #[vi v] [])) _
  refine Go.via (fun _ => XS.iloadN X0.here hx rfl (hb hby d20_0) rfl) ?_
  refine Go.via (X0.ldcInt hx hown (mvT hZ (tw hw 7 rfl)) (g := (mkF m 1 #[vi v] [(.int v)])) rfl (hb hby d20_1)) ?_
  show Go p e below (s₁.setTop (mkF m 3 #[vi v] [(.int (55296 : Int32)), (.int v)])) _
  by_cases hc8 : v < (55296 : Int32)
  · refine Go.via (fun _ => XS.icmpYes X0.here hx rfl (pc0 := 3) (pc' := 16) rfl (hb hby d20_3) rfl (tlt (hc8 : v < (55296 : Int32))).1 (by decide) (by decide)) ?_
    show Go p e below (s₁.setTop (mkF m 16 #[vi v] [])) _
    refine Go.via (fun _ => XS.iconst X0.here hx rfl (hb hby d20_16)) ?_
    exact Go.fin X0 hlk (v := some (.int (0 : Int32))) (fun h => by rw [Bd.returns] at h; cases h) (fun fs hr => retN X0 hx (t := .boolean) Bd.returns (by simp) (hb hby d20_17) hr) (by rw [e0]; exact ⟨(congrArg (fun qq => some (Value.int qq)) (Eq.symm ((if_pos hc8).trans rfl))), rfl, rfl⟩) (by decide) (by decide)
  · refine Go.via (fun _ => XS.icmpNo X0.here hx rfl (hb hby d20_3) rfl (flt (hc8 : ¬ (v < (55296 : Int32)))).1) ?_
    show Go p e below (s₁.setTop (mkF m 6 #[vi v] [])) _
    refine Go.via (fun _ => XS.iloadN X0.here hx rfl (hb hby d20_6) rfl) ?_
    refine Go.via (X0.ldcInt hx hown (mvT hZ (tw hw 96 rfl)) (g := (mkF m 7 #[vi v] [(.int v)])) rfl (hb hby d20_7)) ?_
    show Go p e below (s₁.setTop (mkF m 9 #[vi v] [(.int (56319 : Int32)), (.int v)])) _
    by_cases hc9 : (56319 : Int32) < v
    · refine Go.via (fun _ => XS.icmpYes X0.here hx rfl (pc0 := 9) (pc' := 16) rfl (hb hby d20_9) rfl (tlt (hc9 : (56319 : Int32) < v)).2.2.1 (by decide) (by decide)) ?_
      show Go p e below (s₁.setTop (mkF m 16 #[vi v] [])) _
      refine Go.via (fun _ => XS.iconst X0.here hx rfl (hb hby d20_16)) ?_
      exact Go.fin X0 hlk (v := some (.int (0 : Int32))) (fun h => by rw [Bd.returns] at h; cases h) (fun fs hr => retN X0 hx (t := .boolean) Bd.returns (by simp) (hb hby d20_17) hr) (by rw [e0]; exact ⟨(congrArg (fun qq => some (Value.int qq)) (Eq.symm ((if_neg hc8).trans ((if_pos hc9).trans rfl)))), rfl, rfl⟩) (by decide) (by decide)
    · refine Go.via (fun _ => XS.icmpNo X0.here hx rfl (hb hby d20_9) rfl (flt (hc9 : ¬ ((56319 : Int32) < v))).2.2.1) ?_
      show Go p e below (s₁.setTop (mkF m 12 #[vi v] [])) _
      refine Go.via (fun _ => XS.iconst X0.here hx rfl (hb hby d20_12)) ?_
      refine Go.via (fun _ => XS.goto X0.here hx rfl (pc0 := 13) (pc' := 17) rfl (hb hby d20_13) (by decide) (by decide)) ?_
      exact Go.fin X0 hlk (v := some (.int (1 : Int32))) (fun h => by rw [Bd.returns] at h; cases h) (fun fs hr => retN X0 hx (t := .boolean) Bd.returns (by simp) (hb hby d20_17) hr) (by rw [e0]; exact ⟨(congrArg (fun qq => some (Value.int qq)) (Eq.symm ((if_neg hc8).trans ((if_neg hc9).trans rfl)))), rfl, rfl⟩) (by decide) (by decide)
theorem d29_0 : decode method_4_code 0 = .ok (.iload_n 0, 1) := by decide +kernel
theorem d29_1 : decode method_4_code 1 = .ok (.ldc 9, 2) := by decide +kernel
theorem d29_3 : decode method_4_code 3 = .ok (.if_icmp .lt 13, 3) := by decide +kernel
theorem d29_16 : decode method_4_code 16 = .ok (.iconst 0, 1) := by decide +kernel
theorem d29_17 : decode method_4_code 17 = .ok (.ireturn, 1) := by decide +kernel
theorem d29_6 : decode method_4_code 6 = .ok (.iload_n 0, 1) := by decide +kernel
theorem d29_7 : decode method_4_code 7 = .ok (.ldc 12, 2) := by decide +kernel
theorem d29_9 : decode method_4_code 9 = .ok (.if_icmp .gt 7, 3) := by decide +kernel
theorem d29_12 : decode method_4_code 12 = .ok (.iconst 1, 1) := by decide +kernel
theorem d29_13 : decode method_4_code 13 = .ok (.goto 4, 3) := by decide +kernel
theorem pn_29 : plainName cLAW = true := by first | (simp [plainName, overriddenIn]; done) | decide +kernel
theorem ef_29 (m : MethodId) (x0 : Int32) : entryFrame m #[(.int x0)] 1 = mkF m 0 #[.val (.int x0)] [] := by first | (simp [entryFrame, mkF, argsToLocals, Value.category]; done) | rfl
def Q_rmLl (Z : State) (v : Int32)  (h0 : Heap) (n0 : Nat) (vQ : Option Value) (hQ : Heap) (LQ : List Loc) : Prop := vQ = some (.int (ilL v)) ∧ LQ = [] ∧ hQ = h0
set_option maxRecDepth 65536 in
set_option maxHeartbeats 40000000 in
theorem rmLl (l : Launch) (Z : State) (a0 : Array Value) (hw : ∀ d ∈ tables_1, d.before a0 Z = true) (ws : List Jvm.Cond) (v : Int32)  (h0 : Heap) (n0 : Nat) (Z0 : n0 ≤ h0.size) :
    MetFree l (⟨cLAW, "isLow", "(C)Z"⟩ : MethodName) (head1 (Jvm.Cond.code (⟨cLAW, "isLow", "(C)Z"⟩ : MethodName) method_4_code 1 (some .boolean) :: ws) ({ frames := 0, cells := 0, slots := 0, locals := 0 } : Room)) (fun aQ UQ => aQ = #[(.int v)] ∧ Z.Warmed39 UQ.vm ∧ UQ.heap = h0) (fun _ _ _ _ _ => True) (fun _ UQ oQ UR => ∃ vQ LQ, oQ = .returned vQ ∧ Q_rmLl Z v  h0 n0 vQ UR.heap LQ ∧ FrameEnd UQ oQ UR LQ ({ frames := 0, cells := 0, slots := 0, locals := 0 } : Room).cells ({ frames := 0, cells := 0, slots := 0, locals := 0 } : Room).slots) := by
  refine MetFree.of_bodySF (plainFor_of_name pn_29) hisR ?_
  intro p e s m args below meth c s₁ Bd hml0 hP hK
  obtain ⟨rfl, hZ, hh⟩ := hP
  have hx := Bd.exec
  have hby := Bd.bytes
  have hlk := Bd.notSynchronized
  have hml : c.maxLocals = 1 := hml0
  have hown : s.vm.findClass cLAW = some m.cls := findClass_of_methodNamed Bd.named
  have hnm := (name_of_methodNamed Bd.named Bd.method).1
  have X0 : Stand p l e ({ frames := 0, cells := 0, slots := 0, locals := 0 } : Room) s m #[(.int v)] below meth c s₁ [] 0 0 := Stand.of_body Bd
  have e0 : s₁.heap = h0 := by rw [← hh, Bd.state]; rfl
  have N0 := Fr.nil n0
  show Go p e below _ (Done s (Q_rmLl Z v  h0 n0) ({ frames := 0, cells := 0, slots := 0, locals := 0 } : Room).cells ({ frames := 0, cells := 0, slots := 0, locals := 0 } : Room).slots)
  refine Go.via (fun tQ kQ => castTop (ef_29 m v) kQ) ?_
  show Go p e below (s₁.setTop (mkF m 0 #[vi v] [])) _
  refine Go.via (fun _ => XS.iloadN X0.here hx rfl (hb hby d29_0) rfl) ?_
  refine Go.via (X0.ldcInt hx hown (mvT hZ (tw hw 6 rfl)) (g := (mkF m 1 #[vi v] [(.int v)])) rfl (hb hby d29_1)) ?_
  show Go p e below (s₁.setTop (mkF m 3 #[vi v] [(.int (56320 : Int32)), (.int v)])) _
  by_cases hc10 : v < (56320 : Int32)
  · refine Go.via (fun _ => XS.icmpYes X0.here hx rfl (pc0 := 3) (pc' := 16) rfl (hb hby d29_3) rfl (tlt (hc10 : v < (56320 : Int32))).1 (by decide) (by decide)) ?_
    show Go p e below (s₁.setTop (mkF m 16 #[vi v] [])) _
    refine Go.via (fun _ => XS.iconst X0.here hx rfl (hb hby d29_16)) ?_
    exact Go.fin X0 hlk (v := some (.int (0 : Int32))) (fun h => by rw [Bd.returns] at h; cases h) (fun fs hr => retN X0 hx (t := .boolean) Bd.returns (by simp) (hb hby d29_17) hr) (by rw [e0]; exact ⟨(congrArg (fun qq => some (Value.int qq)) (Eq.symm ((if_pos hc10).trans rfl))), rfl, rfl⟩) (by decide) (by decide)
  · refine Go.via (fun _ => XS.icmpNo X0.here hx rfl (hb hby d29_3) rfl (flt (hc10 : ¬ (v < (56320 : Int32)))).1) ?_
    show Go p e below (s₁.setTop (mkF m 6 #[vi v] [])) _
    refine Go.via (fun _ => XS.iloadN X0.here hx rfl (hb hby d29_6) rfl) ?_
    refine Go.via (X0.ldcInt hx hown (mvT hZ (tw hw 134 rfl)) (g := (mkF m 7 #[vi v] [(.int v)])) rfl (hb hby d29_7)) ?_
    show Go p e below (s₁.setTop (mkF m 9 #[vi v] [(.int (57343 : Int32)), (.int v)])) _
    by_cases hc11 : (57343 : Int32) < v
    · refine Go.via (fun _ => XS.icmpYes X0.here hx rfl (pc0 := 9) (pc' := 16) rfl (hb hby d29_9) rfl (tlt (hc11 : (57343 : Int32) < v)).2.2.1 (by decide) (by decide)) ?_
      show Go p e below (s₁.setTop (mkF m 16 #[vi v] [])) _
      refine Go.via (fun _ => XS.iconst X0.here hx rfl (hb hby d29_16)) ?_
      exact Go.fin X0 hlk (v := some (.int (0 : Int32))) (fun h => by rw [Bd.returns] at h; cases h) (fun fs hr => retN X0 hx (t := .boolean) Bd.returns (by simp) (hb hby d29_17) hr) (by rw [e0]; exact ⟨(congrArg (fun qq => some (Value.int qq)) (Eq.symm ((if_neg hc10).trans ((if_pos hc11).trans rfl)))), rfl, rfl⟩) (by decide) (by decide)
    · refine Go.via (fun _ => XS.icmpNo X0.here hx rfl (hb hby d29_9) rfl (flt (hc11 : ¬ ((57343 : Int32) < v))).2.2.1) ?_
      show Go p e below (s₁.setTop (mkF m 12 #[vi v] [])) _
      refine Go.via (fun _ => XS.iconst X0.here hx rfl (hb hby d29_12)) ?_
      refine Go.via (fun _ => XS.goto X0.here hx rfl (pc0 := 13) (pc' := 17) rfl (hb hby d29_13) (by decide) (by decide)) ?_
      exact Go.fin X0 hlk (v := some (.int (1 : Int32))) (fun h => by rw [Bd.returns] at h; cases h) (fun fs hr => retN X0 hx (t := .boolean) Bd.returns (by simp) (hb hby d29_17) hr) (by rw [e0]; exact ⟨(congrArg (fun qq => some (Value.int qq)) (Eq.symm ((if_neg hc10).trans ((if_neg hc11).trans rfl)))), rfl, rfl⟩) (by decide) (by decide)
theorem d28_0 : decode jdk_89_method_18_code 0 = .ok (.iload_n 0, 1) := by decide +kernel
theorem d28_1 : decode jdk_89_method_18_code 1 = .ok (.ldc 73, 2) := by decide +kernel
theorem d28_3 : decode jdk_89_method_18_code 3 = .ok (.if_icmp .lt 7, 3) := by decide +kernel
theorem d28_10 : decode jdk_89_method_18_code 10 = .ok (.iconst 1, 1) := by decide +kernel
theorem d28_11 : decode jdk_89_method_18_code 11 = .ok (.ireturn, 1) := by decide +kernel
theorem d28_6 : decode jdk_89_method_18_code 6 = .ok (.iconst 2, 1) := by decide +kernel
theorem d28_7 : decode jdk_89_method_18_code 7 = .ok (.goto 4, 3) := by decide +kernel
theorem pn_28 : plainName "java/lang/Character" = true := by first | (simp [plainName, overriddenIn]; done) | decide +kernel
theorem ef_28 (m : MethodId) (x0 : Int32) : entryFrame m #[(.int x0)] 1 = mkF m 0 #[.val (.int x0)] [] := by first | (simp [entryFrame, mkF, argsToLocals, Value.category]; done) | rfl
def Q_rmCc (Z : State) (v : Int32)  (h0 : Heap) (n0 : Nat) (vQ : Option Value) (hQ : Heap) (LQ : List Loc) : Prop := vQ = some (.int (ccF v)) ∧ LQ = [] ∧ hQ = h0
set_option maxRecDepth 65536 in
set_option maxHeartbeats 40000000 in
theorem rmCc (l : Launch) (Z : State) (a0 : Array Value) (hw : ∀ d ∈ tables_1, d.before a0 Z = true) (ws : List Jvm.Cond) (v : Int32)  (h0 : Heap) (n0 : Nat) (Z0 : n0 ≤ h0.size) :
    MetFree l (⟨"java/lang/Character", "charCount", "(I)I"⟩ : MethodName) (head1 (Jvm.Cond.code (⟨"java/lang/Character", "charCount", "(I)I"⟩ : MethodName) jdk_89_method_18_code 1 (some .int) :: ws) ({ frames := 0, cells := 0, slots := 0, locals := 0 } : Room)) (fun aQ UQ => aQ = #[(.int v)] ∧ Z.Warmed39 UQ.vm ∧ UQ.heap = h0) (fun _ _ _ _ _ => True) (fun _ UQ oQ UR => ∃ vQ LQ, oQ = .returned vQ ∧ Q_rmCc Z v  h0 n0 vQ UR.heap LQ ∧ FrameEnd UQ oQ UR LQ ({ frames := 0, cells := 0, slots := 0, locals := 0 } : Room).cells ({ frames := 0, cells := 0, slots := 0, locals := 0 } : Room).slots) := by
  refine MetFree.of_bodySF (plainFor_of_name pn_28) hisR ?_
  intro p e s m args below meth c s₁ Bd hml0 hP hK
  obtain ⟨rfl, hZ, hh⟩ := hP
  have hx := Bd.exec
  have hby := Bd.bytes
  have hlk := Bd.notSynchronized
  have hml : c.maxLocals = 1 := hml0
  have hown : s.vm.findClass "java/lang/Character" = some m.cls := findClass_of_methodNamed Bd.named
  have hnm := (name_of_methodNamed Bd.named Bd.method).1
  have X0 : Stand p l e ({ frames := 0, cells := 0, slots := 0, locals := 0 } : Room) s m #[(.int v)] below meth c s₁ [] 0 0 := Stand.of_body Bd
  have e0 : s₁.heap = h0 := by rw [← hh, Bd.state]; rfl
  have N0 := Fr.nil n0
  show Go p e below _ (Done s (Q_rmCc Z v  h0 n0) ({ frames := 0, cells := 0, slots := 0, locals := 0 } : Room).cells ({ frames := 0, cells := 0, slots := 0, locals := 0 } : Room).slots)
  refine Go.via (fun tQ kQ => castTop (ef_28 m v) kQ) ?_
  show Go p e below (s₁.setTop (mkF m 0 #[vi v] [])) _
  refine Go.via (fun _ => XS.iloadN X0.here hx rfl (hb hby d28_0) rfl) ?_
  refine Go.via (X0.ldcInt hx hown (mvT hZ (tw hw 129 rfl)) (g := (mkF m 1 #[vi v] [(.int v)])) rfl (hb hby d28_1)) ?_
  show Go p e below (s₁.setTop (mkF m 3 #[vi v] [(.int (65536 : Int32)), (.int v)])) _
  by_cases hc12 : v < (65536 : Int32)
  · refine Go.via (fun _ => XS.icmpYes X0.here hx rfl (pc0 := 3) (pc' := 10) rfl (hb hby d28_3) rfl (tlt (hc12 : v < (65536 : Int32))).1 (by decide) (by decide)) ?_
    show Go p e below (s₁.setTop (mkF m 10 #[vi v] [])) _
    refine Go.via (fun _ => XS.iconst X0.here hx rfl (hb hby d28_10)) ?_
    exact Go.fin X0 hlk (v := some (.int (1 : Int32))) (fun h => by rw [Bd.returns] at h; cases h) (fun fs hr => OwnKit.retI X0 hx Bd.returns (hb hby d28_11) hr) (by rw [e0]; exact ⟨(congrArg (fun qq => some (Value.int qq)) (Eq.symm ((if_pos hc12).trans rfl))), rfl, rfl⟩) (by decide) (by decide)
  · refine Go.via (fun _ => XS.icmpNo X0.here hx rfl (hb hby d28_3) rfl (flt (hc12 : ¬ (v < (65536 : Int32)))).1) ?_
    show Go p e below (s₁.setTop (mkF m 6 #[vi v] [])) _
    refine Go.via (fun _ => XS.iconst X0.here hx rfl (hb hby d28_6)) ?_
    refine Go.via (fun _ => XS.goto X0.here hx rfl (pc0 := 7) (pc' := 11) rfl (hb hby d28_7) (by decide) (by decide)) ?_
    exact Go.fin X0 hlk (v := some (.int (2 : Int32))) (fun h => by rw [Bd.returns] at h; cases h) (fun fs hr => OwnKit.retI X0 hx Bd.returns (hb hby d28_11) hr) (by rw [e0]; exact ⟨(congrArg (fun qq => some (Value.int qq)) (Eq.symm ((if_neg hc12).trans rfl))), rfl, rfl⟩) (by decide) (by decide)
theorem d31_0 : decode jdk_89_method_19_code 0 = .ok (.iload_n 0, 1) := by decide +kernel
theorem d31_1 : decode jdk_89_method_19_code 1 = .ok (.bipush 10, 2) := by decide +kernel
theorem d31_3 : decode jdk_89_method_19_code 3 = .ok (.ishl, 1) := by decide +kernel
theorem d31_4 : decode jdk_89_method_19_code 4 = .ok (.iload_n 1, 1) := by decide +kernel
theorem d31_5 : decode jdk_89_method_19_code 5 = .ok (.iadd, 1) := by decide +kernel
theorem d31_6 : decode jdk_89_method_19_code 6 = .ok (.ldc 85, 2) := by decide +kernel
theorem d31_8 : decode jdk_89_method_19_code 8 = .ok (.iadd, 1) := by decide +kernel
theorem d31_9 : decode jdk_89_method_19_code 9 = .ok (.ireturn, 1) := by decide +kernel
theorem pn_31 : plainName "java/lang/Character" = true := by first | (simp [plainName, overriddenIn]; done) | decide +kernel
theorem ef_31 (m : MethodId) (x0 : Int32) (x1 : Int32) : entryFrame m #[(.int x0), (.int x1)] 2 = mkF m 0 #[.val (.int x0), .val (.int x1)] [] := by first | (simp [entryFrame, mkF, argsToLocals, Value.category]; done) | rfl
def Q_rmTc (Z : State) (y : Int32) (z : Int32)  (h0 : Heap) (n0 : Nat) (vQ : Option Value) (hQ : Heap) (LQ : List Loc) : Prop := vQ = some (.int (tcF y z)) ∧ LQ = [] ∧ hQ = h0
set_option maxRecDepth 65536 in
set_option maxHeartbeats 40000000 in
theorem rmTc (l : Launch) (Z : State) (a0 : Array Value) (hw : ∀ d ∈ tables_1, d.before a0 Z = true) (ws : List Jvm.Cond) (y : Int32) (z : Int32)  (h0 : Heap) (n0 : Nat) (Z0 : n0 ≤ h0.size) :
    MetFree l (⟨"java/lang/Character", "toCodePoint", "(CC)I"⟩ : MethodName) (head1 (Jvm.Cond.code (⟨"java/lang/Character", "toCodePoint", "(CC)I"⟩ : MethodName) jdk_89_method_19_code 2 (some .int) :: ws) ({ frames := 0, cells := 0, slots := 0, locals := 0 } : Room)) (fun aQ UQ => aQ = #[(.int y), (.int z)] ∧ Z.Warmed39 UQ.vm ∧ UQ.heap = h0) (fun _ _ _ _ _ => True) (fun _ UQ oQ UR => ∃ vQ LQ, oQ = .returned vQ ∧ Q_rmTc Z y z  h0 n0 vQ UR.heap LQ ∧ FrameEnd UQ oQ UR LQ ({ frames := 0, cells := 0, slots := 0, locals := 0 } : Room).cells ({ frames := 0, cells := 0, slots := 0, locals := 0 } : Room).slots) := by
  refine MetFree.of_bodySF (plainFor_of_name pn_31) hisR ?_
  intro p e s m args below meth c s₁ Bd hml0 hP hK
  obtain ⟨rfl, hZ, hh⟩ := hP
  have hx := Bd.exec
  have hby := Bd.bytes
  have hlk := Bd.notSynchronized
  have hml : c.maxLocals = 2 := hml0
  have hown : s.vm.findClass "java/lang/Character" = some m.cls := findClass_of_methodNamed Bd.named
  have hnm := (name_of_methodNamed Bd.named Bd.method).1
  have X0 : Stand p l e ({ frames := 0, cells := 0, slots := 0, locals := 0 } : Room) s m #[(.int y), (.int z)] below meth c s₁ [] 0 0 := Stand.of_body Bd
  have e0 : s₁.heap = h0 := by rw [← hh, Bd.state]; rfl
  have N0 := Fr.nil n0
  show Go p e below _ (Done s (Q_rmTc Z y z  h0 n0) ({ frames := 0, cells := 0, slots := 0, locals := 0 } : Room).cells ({ frames := 0, cells := 0, slots := 0, locals := 0 } : Room).slots)
  refine Go.via (fun tQ kQ => castTop (ef_31 m y z) kQ) ?_
  show Go p e below (s₁.setTop (mkF m 0 #[vi y, vi z] [])) _
  refine Go.via (fun _ => XS.iloadN X0.here hx rfl (hb hby d31_0) rfl) ?_
  refine Go.via (fun _ => XS.bipush X0.here hx rfl (hb hby d31_1)) ?_
  refine Go.via (fun _ => XS.ishl X0.here hx rfl (hb hby d31_3) rfl) ?_
  refine Go.via (fun _ => XS.iloadN X0.here hx rfl (hb hby d31_4) rfl) ?_
  refine Go.via (fun _ => XS.iadd X0.here hx rfl (hb hby d31_5) rfl) ?_
  refine Go.via (X0.ldcInt hx hown (mvT hZ (tw hw 143 rfl)) (g := (mkF m 6 #[vi y, vi z] [(.int ((y <<< ((10 : Int32) &&& 31)) + z))])) rfl (hb hby d31_6)) ?_
  show Go p e below (s₁.setTop (mkF m 8 #[vi y, vi z] [(.int (-56613888 : Int32)), (.int ((y <<< ((10 : Int32) &&& 31)) + z))])) _
  refine Go.via (fun _ => XS.iadd X0.here hx rfl (hb hby d31_8) rfl) ?_
  exact Go.fin X0 hlk (v := some (.int (((y <<< ((10 : Int32) &&& 31)) + z) + (-56613888 : Int32)))) (fun h => by rw [Bd.returns] at h; cases h) (fun fs hr => OwnKit.retI X0 hx Bd.returns (hb hby d31_9) hr) (by rw [e0]; exact ⟨rfl, rfl, rfl⟩) (by decide) (by decide)
theorem d10_0 : decode jdk_33_method_40_code 0 = .ok (.iload_n 0, 1) := by decide +kernel
theorem d10_1 : decode jdk_33_method_40_code 1 = .ok (.iload_n 1, 1) := by decide +kernel
theorem d10_2 : decode jdk_33_method_40_code 2 = .ok (.if_icmp .ge 7, 3) := by decide +kernel
theorem d10_5 : decode jdk_33_method_40_code 5 = .ok (.iconst (-1), 1) := by decide +kernel
theorem d10_6 : decode jdk_33_method_40_code 6 = .ok (.goto 13, 3) := by decide +kernel
theorem d10_19 : decode jdk_33_method_40_code 19 = .ok (.ireturn, 1) := by decide +kernel
theorem d10_9 : decode jdk_33_method_40_code 9 = .ok (.iload_n 0, 1) := by decide +kernel
theorem d10_10 : decode jdk_33_method_40_code 10 = .ok (.iload_n 1, 1) := by decide +kernel
theorem d10_11 : decode jdk_33_method_40_code 11 = .ok (.if_icmp .ne 7, 3) := by decide +kernel
theorem d10_14 : decode jdk_33_method_40_code 14 = .ok (.iconst 0, 1) := by decide +kernel
theorem d10_15 : decode jdk_33_method_40_code 15 = .ok (.goto 4, 3) := by decide +kernel
theorem d10_18 : decode jdk_33_method_40_code 18 = .ok (.iconst 1, 1) := by decide +kernel
theorem pn_10 : plainName "java/lang/Integer" = true := by first | (simp [plainName, overriddenIn]; done) | decide +kernel
theorem ef_10 (m : MethodId) (x0 : Int32) (x1 : Int32) : entryFrame m #[(.int x0), (.int x1)] 2 = mkF m 0 #[.val (.int x0), .val (.int x1)] [] := by first | (simp [entryFrame, mkF, argsToLocals, Value.category]; done) | rfl
def Q_rmIc (Z : State) (u : Int32) (v : Int32)  (h0 : Heap) (n0 : Nat) (vQ : Option Value) (hQ : Heap) (LQ : List Loc) : Prop := vQ = some (.int (icF u v)) ∧ LQ = [] ∧ hQ = h0
set_option maxRecDepth 65536 in
set_option maxHeartbeats 40000000 in
theorem rmIc (l : Launch) (Z : State) (a0 : Array Value) (hw : ∀ d ∈ tables_1, d.before a0 Z = true) (ws : List Jvm.Cond) (u : Int32) (v : Int32)  (h0 : Heap) (n0 : Nat) (Z0 : n0 ≤ h0.size) :
    MetFree l (⟨"java/lang/Integer", "compare", "(II)I"⟩ : MethodName) (head1 (Jvm.Cond.code (⟨"java/lang/Integer", "compare", "(II)I"⟩ : MethodName) jdk_33_method_40_code 2 (some .int) :: ws) ({ frames := 0, cells := 0, slots := 0, locals := 0 } : Room)) (fun aQ UQ => aQ = #[(.int u), (.int v)] ∧ Z.Warmed39 UQ.vm ∧ UQ.heap = h0) (fun _ _ _ _ _ => True) (fun _ UQ oQ UR => ∃ vQ LQ, oQ = .returned vQ ∧ Q_rmIc Z u v  h0 n0 vQ UR.heap LQ ∧ FrameEnd UQ oQ UR LQ ({ frames := 0, cells := 0, slots := 0, locals := 0 } : Room).cells ({ frames := 0, cells := 0, slots := 0, locals := 0 } : Room).slots) := by
  refine MetFree.of_bodySF (plainFor_of_name pn_10) hisR ?_
  intro p e s m args below meth c s₁ Bd hml0 hP hK
  obtain ⟨rfl, hZ, hh⟩ := hP
  have hx := Bd.exec
  have hby := Bd.bytes
  have hlk := Bd.notSynchronized
  have hml : c.maxLocals = 2 := hml0
  have hown : s.vm.findClass "java/lang/Integer" = some m.cls := findClass_of_methodNamed Bd.named
  have hnm := (name_of_methodNamed Bd.named Bd.method).1
  have X0 : Stand p l e ({ frames := 0, cells := 0, slots := 0, locals := 0 } : Room) s m #[(.int u), (.int v)] below meth c s₁ [] 0 0 := Stand.of_body Bd
  have e0 : s₁.heap = h0 := by rw [← hh, Bd.state]; rfl
  have N0 := Fr.nil n0
  show Go p e below _ (Done s (Q_rmIc Z u v  h0 n0) ({ frames := 0, cells := 0, slots := 0, locals := 0 } : Room).cells ({ frames := 0, cells := 0, slots := 0, locals := 0 } : Room).slots)
  refine Go.via (fun tQ kQ => castTop (ef_10 m u v) kQ) ?_
  show Go p e below (s₁.setTop (mkF m 0 #[vi u, vi v] [])) _
  refine Go.via (fun _ => XS.iloadN X0.here hx rfl (hb hby d10_0) rfl) ?_
  refine Go.via (fun _ => XS.iloadN X0.here hx rfl (hb hby d10_1) rfl) ?_
  by_cases hc13 : u < v
  · refine Go.via (fun _ => XS.icmpNo X0.here hx rfl (hb hby d10_2) rfl (tlt (hc13 : u < v)).2.1) ?_
    refine Go.via (fun _ => XS.iconst X0.here hx rfl (hb hby d10_5)) ?_
    refine Go.via (fun _ => XS.goto X0.here hx rfl (pc0 := 6) (pc' := 19) rfl (hb hby d10_6) (by decide) (by decide)) ?_
    exact Go.fin X0 hlk (v := some (.int (-1 : Int32))) (fun h => by rw [Bd.returns] at h; cases h) (fun fs hr => OwnKit.retI X0 hx Bd.returns (hb hby d10_19) hr) (by rw [e0]; exact ⟨(congrArg (fun qq => some (Value.int qq)) (Eq.symm ((if_pos hc13).trans rfl))), rfl, rfl⟩) (by decide) (by decide)
  · refine Go.via (fun _ => XS.icmpYes X0.here hx rfl (pc0 := 2) (pc' := 9) rfl (hb hby d10_2) rfl (flt (hc13 : ¬ (u < v))).2.1 (by decide) (by decide)) ?_
    refine Go.via (fun _ => XS.iloadN X0.here hx rfl (hb hby d10_9) rfl) ?_
    refine Go.via (fun _ => XS.iloadN X0.here hx rfl (hb hby d10_10) rfl) ?_
    by_cases hc14 : u = v
    · refine Go.via (fun _ => XS.icmpNo X0.here hx rfl (hb hby d10_11) rfl (teq (hc14 : u = v)).2) ?_
      refine Go.via (fun _ => XS.iconst X0.here hx rfl (hb hby d10_14)) ?_
      refine Go.via (fun _ => XS.goto X0.here hx rfl (pc0 := 15) (pc' := 19) rfl (hb hby d10_15) (by decide) (by decide)) ?_
      exact Go.fin X0 hlk (v := some (.int (0 : Int32))) (fun h => by rw [Bd.returns] at h; cases h) (fun fs hr => OwnKit.retI X0 hx Bd.returns (hb hby d10_19) hr) (by rw [e0]; exact ⟨(congrArg (fun qq => some (Value.int qq)) (Eq.symm ((if_neg hc13).trans ((if_pos hc14).trans rfl)))), rfl, rfl⟩) (by decide) (by decide)
    · refine Go.via (fun _ => XS.icmpYes X0.here hx rfl (pc0 := 11) (pc' := 18) rfl (hb hby d10_11) rfl (feq (hc14 : ¬ (u = v))).2 (by decide) (by decide)) ?_
      refine Go.via (fun _ => XS.iconst X0.here hx rfl (hb hby d10_18)) ?_
      exact Go.fin X0 hlk (v := some (.int (1 : Int32))) (fun h => by rw [Bd.returns] at h; cases h) (fun fs hr => OwnKit.retI X0 hx Bd.returns (hb hby d10_19) hr) (by rw [e0]; exact ⟨(congrArg (fun qq => some (Value.int qq)) (Eq.symm ((if_neg hc13).trans ((if_neg hc14).trans rfl)))), rfl, rfl⟩) (by decide) (by decide)
theorem d11_0 : decode method_7_code 0 = .ok (.iload_n 0, 1) := by decide +kernel
theorem d11_1 : decode method_7_code 1 = .ok (.ifCond .ge 7, 3) := by decide +kernel
theorem d11_4 : decode method_7_code 4 = .ok (.iconst (-1), 1) := by decide +kernel
theorem d11_5 : decode method_7_code 5 = .ok (.goto 12, 3) := by decide +kernel
theorem d11_17 : decode method_7_code 17 = .ok (.ireturn, 1) := by decide +kernel
theorem d11_8 : decode method_7_code 8 = .ok (.iload_n 0, 1) := by decide +kernel
theorem d11_9 : decode method_7_code 9 = .ok (.ifCond .le 7, 3) := by decide +kernel
theorem d11_12 : decode method_7_code 12 = .ok (.iconst 1, 1) := by decide +kernel
theorem d11_13 : decode method_7_code 13 = .ok (.goto 4, 3) := by decide +kernel
theorem d11_16 : decode method_7_code 16 = .ok (.iconst 0, 1) := by decide +kernel
theorem pn_11 : plainName cLAW = true := by first | (simp [plainName, overriddenIn]; done) | decide +kernel
theorem ef_11 (m : MethodId) (x0 : Int32) : entryFrame m #[(.int x0)] 1 = mkF m 0 #[.val (.int x0)] [] := by first | (simp [entryFrame, mkF, argsToLocals, Value.category]; done) | rfl
def Q_rmSn (Z : State) (v : Int32)  (h0 : Heap) (n0 : Nat) (vQ : Option Value) (hQ : Heap) (LQ : List Loc) : Prop := vQ = some (.int (sgnF v)) ∧ LQ = [] ∧ hQ = h0
set_option maxRecDepth 65536 in
set_option maxHeartbeats 40000000 in
theorem rmSn (l : Launch) (Z : State) (a0 : Array Value) (hw : ∀ d ∈ tables_1, d.before a0 Z = true) (ws : List Jvm.Cond) (v : Int32)  (h0 : Heap) (n0 : Nat) (Z0 : n0 ≤ h0.size) :
    MetFree l (⟨cLAW, "sign", "(I)I"⟩ : MethodName) (head1 (Jvm.Cond.code (⟨cLAW, "sign", "(I)I"⟩ : MethodName) method_7_code 1 (some .int) :: ws) ({ frames := 0, cells := 0, slots := 0, locals := 0 } : Room)) (fun aQ UQ => aQ = #[(.int v)] ∧ Z.Warmed39 UQ.vm ∧ UQ.heap = h0) (fun _ _ _ _ _ => True) (fun _ UQ oQ UR => ∃ vQ LQ, oQ = .returned vQ ∧ Q_rmSn Z v  h0 n0 vQ UR.heap LQ ∧ FrameEnd UQ oQ UR LQ ({ frames := 0, cells := 0, slots := 0, locals := 0 } : Room).cells ({ frames := 0, cells := 0, slots := 0, locals := 0 } : Room).slots) := by
  refine MetFree.of_bodySF (plainFor_of_name pn_11) hisR ?_
  intro p e s m args below meth c s₁ Bd hml0 hP hK
  obtain ⟨rfl, hZ, hh⟩ := hP
  have hx := Bd.exec
  have hby := Bd.bytes
  have hlk := Bd.notSynchronized
  have hml : c.maxLocals = 1 := hml0
  have hown : s.vm.findClass cLAW = some m.cls := findClass_of_methodNamed Bd.named
  have hnm := (name_of_methodNamed Bd.named Bd.method).1
  have X0 : Stand p l e ({ frames := 0, cells := 0, slots := 0, locals := 0 } : Room) s m #[(.int v)] below meth c s₁ [] 0 0 := Stand.of_body Bd
  have e0 : s₁.heap = h0 := by rw [← hh, Bd.state]; rfl
  have N0 := Fr.nil n0
  show Go p e below _ (Done s (Q_rmSn Z v  h0 n0) ({ frames := 0, cells := 0, slots := 0, locals := 0 } : Room).cells ({ frames := 0, cells := 0, slots := 0, locals := 0 } : Room).slots)
  refine Go.via (fun tQ kQ => castTop (ef_11 m v) kQ) ?_
  show Go p e below (s₁.setTop (mkF m 0 #[vi v] [])) _
  refine Go.via (fun _ => XS.iloadN X0.here hx rfl (hb hby d11_0) rfl) ?_
  by_cases hc15 : v < (0 : Int32)
  · refine Go.via (fun _ => XS.ifNo X0.here hx rfl (hb hby d11_1) rfl ((if0 _ _).trans (tlt (hc15 : v < (0 : Int32))).2.1)) ?_
    refine Go.via (fun _ => XS.iconst X0.here hx rfl (hb hby d11_4)) ?_
    refine Go.via (fun _ => XS.goto X0.here hx rfl (pc0 := 5) (pc' := 17) rfl (hb hby d11_5) (by decide) (by decide)) ?_
    exact Go.fin X0 hlk (v := some (.int (-1 : Int32))) (fun h => by rw [Bd.returns] at h; cases h) (fun fs hr => OwnKit.retI X0 hx Bd.returns (hb hby d11_17) hr) (by rw [e0]; exact ⟨(congrArg (fun qq => some (Value.int qq)) (Eq.symm ((if_pos hc15).trans rfl))), rfl, rfl⟩) (by decide) (by decide)
  · refine Go.via (fun _ => XS.ifYes X0.here hx rfl (pc0 := 1) (pc' := 8) rfl (hb hby d11_1) rfl ((if0 _ _).trans (flt (hc15 : ¬ (v < (0 : Int32)))).2.1) (by decide) (by decide)) ?_
    refine Go.via (fun _ => XS.iloadN X0.here hx rfl (hb hby d11_8) rfl) ?_
    by_cases hc16 : (0 : Int32) < v
    · refine Go.via (fun _ => XS.ifNo X0.here hx rfl (hb hby d11_9) rfl ((if0 _ _).trans (tlt (hc16 : (0 : Int32) < v)).2.2.2)) ?_
      refine Go.via (fun _ => XS.iconst X0.here hx rfl (hb hby d11_12)) ?_
      refine Go.via (fun _ => XS.goto X0.here hx rfl (pc0 := 13) (pc' := 17) rfl (hb hby d11_13) (by decide) (by decide)) ?_
      exact Go.fin X0 hlk (v := some (.int (1 : Int32))) (fun h => by rw [Bd.returns] at h; cases h) (fun fs hr => OwnKit.retI X0 hx Bd.returns (hb hby d11_17) hr) (by rw [e0]; exact ⟨(congrArg (fun qq => some (Value.int qq)) (Eq.symm ((if_neg hc15).trans ((if_pos hc16).trans rfl)))), rfl, rfl⟩) (by decide) (by decide)
    · refine Go.via (fun _ => XS.ifYes X0.here hx rfl (pc0 := 9) (pc' := 16) rfl (hb hby d11_9) rfl ((if0 _ _).trans (flt (hc16 : ¬ ((0 : Int32) < v))).2.2.2) (by decide) (by decide)) ?_
      refine Go.via (fun _ => XS.iconst X0.here hx rfl (hb hby d11_16)) ?_
      exact Go.fin X0 hlk (v := some (.int (0 : Int32))) (fun h => by rw [Bd.returns] at h; cases h) (fun fs hr => OwnKit.retI X0 hx Bd.returns (hb hby d11_17) hr) (by rw [e0]; exact ⟨(congrArg (fun qq => some (Value.int qq)) (Eq.symm ((if_neg hc15).trans ((if_neg hc16).trans rfl)))), rfl, rfl⟩) (by decide) (by decide)
theorem d9_0 : decode jdk_42_method_152_code 0 = .ok (.getstatic 38, 3) := by decide +kernel
theorem d9_3 : decode jdk_42_method_152_code 3 = .ok (.ifCond .eq 10, 3) := by decide +kernel
theorem d9_6 : decode jdk_42_method_152_code 6 = .ok (.aload_n 0, 1) := by decide +kernel
theorem d9_7 : decode jdk_42_method_152_code 7 = .ok (.getfield 15, 3) := by decide +kernel
theorem d9_10 : decode jdk_42_method_152_code 10 = .ok (.goto 4, 3) := by decide +kernel
theorem d9_14 : decode jdk_42_method_152_code 14 = .ok (.ireturn, 1) := by decide +kernel
theorem pn_9 : plainName cST = true := by first | (simp [plainName, overriddenIn]; done) | decide +kernel
theorem ef_9 (m : MethodId) (x0 : Addr) : entryFrame m #[(.ref x0)] 1 = mkF m 0 #[.val (.ref x0)] [] := by first | (simp [entryFrame, mkF, argsToLocals, Value.category]; done) | rfl
def Q_rmCo0 (Z : State) (a : Addr) (cs : Int32) (h0 : Heap) (n0 : Nat) (vQ : Option Value) (hQ : Heap) (LQ : List Loc) : Prop := vQ = some (.int (0 : Int32)) ∧ LQ = [] ∧ hQ = h0
set_option maxRecDepth 65536 in
set_option maxHeartbeats 40000000 in
theorem rmCo0 (l : Launch) (Z : State) (a0 : Array Value) (hw : ∀ d ∈ tables_1, d.before a0 Z = true) (ws : List Jvm.Cond) (a : Addr) (cs : Int32) (h0 : Heap) (n0 : Nat) (Z0 : n0 ≤ h0.size) (P0 : Fld Z h0 a cST "coder" "B" (.int (0 : Int32))) (P1 : Old Z n0 h0) (zCS : Sta Z Z.heap cST "COMPACT_STRINGS" "Z" (.int cs)) (hcs : ¬ (cs = (0 : Int32))) :
    MetFree l (⟨cST, "coder", "()B"⟩ : MethodName) (head1 (Jvm.Cond.code (⟨cST, "coder", "()B"⟩ : MethodName) jdk_42_method_152_code 1 (some .byte) :: ws) ({ frames := 0, cells := 0, slots := 0, locals := 0 } : Room)) (fun aQ UQ => aQ = #[(.ref a)] ∧ Z.Warmed39 UQ.vm ∧ UQ.heap = h0) (fun _ _ _ _ _ => True) (fun _ UQ oQ UR => ∃ vQ LQ, oQ = .returned vQ ∧ Q_rmCo0 Z a cs h0 n0 vQ UR.heap LQ ∧ FrameEnd UQ oQ UR LQ ({ frames := 0, cells := 0, slots := 0, locals := 0 } : Room).cells ({ frames := 0, cells := 0, slots := 0, locals := 0 } : Room).slots) := by
  refine MetFree.of_bodySF (plainFor_of_name pn_9) hisR ?_
  intro p e s m args below meth c s₁ Bd hml0 hP hK
  obtain ⟨rfl, hZ, hh⟩ := hP
  have hx := Bd.exec
  have hby := Bd.bytes
  have hlk := Bd.notSynchronized
  have hml : c.maxLocals = 1 := hml0
  have hown : s.vm.findClass cST = some m.cls := findClass_of_methodNamed Bd.named
  have hnm := (name_of_methodNamed Bd.named Bd.method).1
  have X0 : Stand p l e ({ frames := 0, cells := 0, slots := 0, locals := 0 } : Room) s m #[(.ref a)] below meth c s₁ [] 0 0 := Stand.of_body Bd
  have e0 : s₁.heap = h0 := by rw [← hh, Bd.state]; rfl
  have N0 := Fr.nil n0
  show Go p e below _ (Done s (Q_rmCo0 Z a cs h0 n0) ({ frames := 0, cells := 0, slots := 0, locals := 0 } : Room).cells ({ frames := 0, cells := 0, slots := 0, locals := 0 } : Room).slots)
  refine Go.via (fun tQ kQ => castTop (ef_9 m a) kQ) ?_
  show Go p e below (s₁.setTop (mkF m 0 #[vr a] [])) _
  have f17 : Sta Z h0 cST "COMPACT_STRINGS" "Z" (.int cs) := zCS.ext P1.2
  obtain ⟨T18, X18, e18, st18⟩ := getS2 X0 hx hZ hown (host := "") (Or.inl (tw hw 56 rfl)) Via.refl e0 f17 (g := (mkF m 0 #[vr a] [])) rfl (hb hby d9_0)
  refine Go.via (st18) ?_
  clear st18
  clear X0 e0
  show Go p e below (T18.setTop (mkF m 3 #[vr a] [(.int cs)])) _
  refine Go.via (fun _ => XS.ifNo X18.here hx rfl (hb hby d9_3) rfl ((if0 _ _).trans (feq (hcs : ¬ (cs = (0 : Int32)))).1)) ?_
  refine Go.via (fun _ => XS.aloadN X18.here hx rfl (hb hby d9_6) rfl rfl) ?_
  obtain ⟨T19, X19, e19, st19⟩ := getF X18 hx hZ hown (host := "") (Or.inl (tw hw 33 rfl)) Via.refl e18 P0 (g := (mkF m 7 #[vr a] [(.ref a)])) rfl rfl (hb hby d9_7)
  refine Go.via (st19) ?_
  clear st19
  clear X18 e18
  show Go p e below (T19.setTop (mkF m 10 #[vr a] [(.int (0 : Int32))])) _
  refine Go.via (fun _ => XS.goto X19.here hx rfl (pc0 := 10) (pc' := 14) rfl (hb hby d9_10) (by decide) (by decide)) ?_
  exact Go.fin X19 hlk (v := some (.int (0 : Int32))) (fun h => by rw [Bd.returns] at h; cases h) (fun fs hr => retN X19 hx (t := .byte) Bd.returns (by simp) (hb hby d9_14) hr) (by rw [e19]; exact ⟨rfl, rfl, rfl⟩) (by decide) (by decide)
def Q_rmCo1 (Z : State) (a : Addr) (cs : Int32) (h0 : Heap) (n0 : Nat) (vQ : Option Value) (hQ : Heap) (LQ : List Loc) : Prop := vQ = some (.int (1 : Int32)) ∧ LQ = [] ∧ hQ = h0
set_option maxRecDepth 65536 in
set_option maxHeartbeats 40000000 in
theorem rmCo1 (l : Launch) (Z : State) (a0 : Array Value) (hw : ∀ d ∈ tables_1, d.before a0 Z = true) (ws : List Jvm.Cond) (a : Addr) (cs : Int32) (h0 : Heap) (n0 : Nat) (Z0 : n0 ≤ h0.size) (P0 : Fld Z h0 a cST "coder" "B" (.int (1 : Int32))) (P1 : Old Z n0 h0) (zCS : Sta Z Z.heap cST "COMPACT_STRINGS" "Z" (.int cs)) (hcs : ¬ (cs = (0 : Int32))) :
    MetFree l (⟨cST, "coder", "()B"⟩ : MethodName) (head1 (Jvm.Cond.code (⟨cST, "coder", "()B"⟩ : MethodName) jdk_42_method_152_code 1 (some .byte) :: ws) ({ frames := 0, cells := 0, slots := 0, locals := 0 } : Room)) (fun aQ UQ => aQ = #[(.ref a)] ∧ Z.Warmed39 UQ.vm ∧ UQ.heap = h0) (fun _ _ _ _ _ => True) (fun _ UQ oQ UR => ∃ vQ LQ, oQ = .returned vQ ∧ Q_rmCo1 Z a cs h0 n0 vQ UR.heap LQ ∧ FrameEnd UQ oQ UR LQ ({ frames := 0, cells := 0, slots := 0, locals := 0 } : Room).cells ({ frames := 0, cells := 0, slots := 0, locals := 0 } : Room).slots) := by
  refine MetFree.of_bodySF (plainFor_of_name pn_9) hisR ?_
  intro p e s m args below meth c s₁ Bd hml0 hP hK
  obtain ⟨rfl, hZ, hh⟩ := hP
  have hx := Bd.exec
  have hby := Bd.bytes
  have hlk := Bd.notSynchronized
  have hml : c.maxLocals = 1 := hml0
  have hown : s.vm.findClass cST = some m.cls := findClass_of_methodNamed Bd.named
  have hnm := (name_of_methodNamed Bd.named Bd.method).1
  have X0 : Stand p l e ({ frames := 0, cells := 0, slots := 0, locals := 0 } : Room) s m #[(.ref a)] below meth c s₁ [] 0 0 := Stand.of_body Bd
  have e0 : s₁.heap = h0 := by rw [← hh, Bd.state]; rfl
  have N0 := Fr.nil n0
  show Go p e below _ (Done s (Q_rmCo1 Z a cs h0 n0) ({ frames := 0, cells := 0, slots := 0, locals := 0 } : Room).cells ({ frames := 0, cells := 0, slots := 0, locals := 0 } : Room).slots)
  refine Go.via (fun tQ kQ => castTop (ef_9 m a) kQ) ?_
  show Go p e below (s₁.setTop (mkF m 0 #[vr a] [])) _
  have f20 : Sta Z h0 cST "COMPACT_STRINGS" "Z" (.int cs) := zCS.ext P1.2
  obtain ⟨T21, X21, e21, st21⟩ := getS2 X0 hx hZ hown (host := "") (Or.inl (tw hw 56 rfl)) Via.refl e0 f20 (g := (mkF m 0 #[vr a] [])) rfl (hb hby d9_0)
  refine Go.via (st21) ?_
  clear st21
  clear X0 e0
  show Go p e below (T21.setTop (mkF m 3 #[vr a] [(.int cs)])) _
  refine Go.via (fun _ => XS.ifNo X21.here hx rfl (hb hby d9_3) rfl ((if0 _ _).trans (feq (hcs : ¬ (cs = (0 : Int32)))).1)) ?_
  refine Go.via (fun _ => XS.aloadN X21.here hx rfl (hb hby d9_6) rfl rfl) ?_
  obtain ⟨T22, X22, e22, st22⟩ := getF X21 hx hZ hown (host := "") (Or.inl (tw hw 33 rfl)) Via.refl e21 P0 (g := (mkF m 7 #[vr a] [(.ref a)])) rfl rfl (hb hby d9_7)
  refine Go.via (st22) ?_
  clear st22
  clear X21 e21
  show Go p e below (T22.setTop (mkF m 10 #[vr a] [(.int (1 : Int32))])) _
  refine Go.via (fun _ => XS.goto X22.here hx rfl (pc0 := 10) (pc' := 14) rfl (hb hby d9_10) (by decide) (by decide)) ?_
  exact Go.fin X22 hlk (v := some (.int (1 : Int32))) (fun h => by rw [Bd.returns] at h; cases h) (fun fs hr => retN X22 hx (t := .byte) Bd.returns (by simp) (hb hby d9_14) hr) (by rw [e22]; exact ⟨rfl, rfl, rfl⟩) (by decide) (by decide)
theorem d22_0 : decode jdk_42_method_154_code 0 = .ok (.getstatic 38, 3) := by decide +kernel
theorem d22_3 : decode jdk_42_method_154_code 3 = .ok (.ifCond .eq 14, 3) := by decide +kernel
theorem d22_6 : decode jdk_42_method_154_code 6 = .ok (.aload_n 0, 1) := by decide +kernel
theorem d22_7 : decode jdk_42_method_154_code 7 = .ok (.getfield 15, 3) := by decide +kernel
theorem d22_10 : decode jdk_42_method_154_code 10 = .ok (.ifCond .ne 7, 3) := by decide +kernel
theorem d22_13 : decode jdk_42_method_154_code 13 = .ok (.iconst 1, 1) := by decide +kernel
theorem d22_14 : decode jdk_42_method_154_code 14 = .ok (.goto 4, 3) := by decide +kernel
theorem d22_18 : decode jdk_42_method_154_code 18 = .ok (.ireturn, 1) := by decide +kernel
theorem pn_22 : plainName cST = true := by first | (simp [plainName, overriddenIn]; done) | decide +kernel
theorem ef_22 (m : MethodId) (x0 : Addr) : entryFrame m #[(.ref x0)] 1 = mkF m 0 #[.val (.ref x0)] [] := by first | (simp [entryFrame, mkF, argsToLocals, Value.category]; done) | rfl
def Q_rmIL0 (Z : State) (a : Addr) (cs : Int32) (h0 : Heap) (n0 : Nat) (vQ : Option Value) (hQ : Heap) (LQ : List Loc) : Prop := vQ = some (.int (1 : Int32)) ∧ LQ = [] ∧ hQ = h0
set_option maxRecDepth 65536 in
set_option maxHeartbeats 40000000 in
theorem rmIL0 (l : Launch) (Z : State) (a0 : Array Value) (hw : ∀ d ∈ tables_1, d.before a0 Z = true) (ws : List Jvm.Cond) (a : Addr) (cs : Int32) (h0 : Heap) (n0 : Nat) (Z0 : n0 ≤ h0.size) (P0 : Fld Z h0 a cST "coder" "B" (.int (0 : Int32))) (P1 : Old Z n0 h0) (zCS : Sta Z Z.heap cST "COMPACT_STRINGS" "Z" (.int cs)) (hcs : ¬ (cs = (0 : Int32))) :
    MetFree l (⟨cST, "isLatin1", "()Z"⟩ : MethodName) (head1 (Jvm.Cond.code (⟨cST, "isLatin1", "()Z"⟩ : MethodName) jdk_42_method_154_code 1 (some .boolean) :: ws) ({ frames := 0, cells := 0, slots := 0, locals := 0 } : Room)) (fun aQ UQ => aQ = #[(.ref a)] ∧ Z.Warmed39 UQ.vm ∧ UQ.heap = h0) (fun _ _ _ _ _ => True) (fun _ UQ oQ UR => ∃ vQ LQ, oQ = .returned vQ ∧ Q_rmIL0 Z a cs h0 n0 vQ UR.heap LQ ∧ FrameEnd UQ oQ UR LQ ({ frames := 0, cells := 0, slots := 0, locals := 0 } : Room).cells ({ frames := 0, cells := 0, slots := 0, locals := 0 } : Room).slots) := by
  refine MetFree.of_bodySF (plainFor_of_name pn_22) hisR ?_
  intro p e s m args below meth c s₁ Bd hml0 hP hK
  obtain ⟨rfl, hZ, hh⟩ := hP
  have hx := Bd.exec
  have hby := Bd.bytes
  have hlk := Bd.notSynchronized
  have hml : c.maxLocals = 1 := hml0
  have hown : s.vm.findClass cST = some m.cls := findClass_of_methodNamed Bd.named
  have hnm := (name_of_methodNamed Bd.named Bd.method).1
  have X0 : Stand p l e ({ frames := 0, cells := 0, slots := 0, locals := 0 } : Room) s m #[(.ref a)] below meth c s₁ [] 0 0 := Stand.of_body Bd
  have e0 : s₁.heap = h0 := by rw [← hh, Bd.state]; rfl
  have N0 := Fr.nil n0
  show Go p e below _ (Done s (Q_rmIL0 Z a cs h0 n0) ({ frames := 0, cells := 0, slots := 0, locals := 0 } : Room).cells ({ frames := 0, cells := 0, slots := 0, locals := 0 } : Room).slots)
  refine Go.via (fun tQ kQ => castTop (ef_22 m a) kQ) ?_
  show Go p e below (s₁.setTop (mkF m 0 #[vr a] [])) _
  have f23 : Sta Z h0 cST "COMPACT_STRINGS" "Z" (.int cs) := zCS.ext P1.2
  obtain ⟨T24, X24, e24, st24⟩ := getS2 X0 hx hZ hown (host := "") (Or.inl (tw hw 56 rfl)) Via.refl e0 f23 (g := (mkF m 0 #[vr a] [])) rfl (hb hby d22_0)
  refine Go.via (st24) ?_
  clear st24
  clear X0 e0
  show Go p e below (T24.setTop (mkF m 3 #[vr a] [(.int cs)])) _
  refine Go.via (fun _ => XS.ifNo X24.here hx rfl (hb hby d22_3) rfl ((if0 _ _).trans (feq (hcs : ¬ (cs = (0 : Int32)))).1)) ?_
  refine Go.via (fun _ => XS.aloadN X24.here hx rfl (hb hby d22_6) rfl rfl) ?_
  obtain ⟨T25, X25, e25, st25⟩ := getF X24 hx hZ hown (host := "") (Or.inl (tw hw 33 rfl)) Via.refl e24 P0 (g := (mkF m 7 #[vr a] [(.ref a)])) rfl rfl (hb hby d22_7)
  refine Go.via (st25) ?_
  clear st25
  clear X24 e24
  show Go p e below (T25.setTop (mkF m 10 #[vr a] [(.int (0 : Int32))])) _
  refine Go.via (fun _ => XS.ifNo X25.here hx rfl (hb hby d22_10) rfl ((if0 _ _).trans (teq ((by decide) : (0 : Int32) = (0 : Int32))).2)) ?_
  refine Go.via (fun _ => XS.iconst X25.here hx rfl (hb hby d22_13)) ?_
  refine Go.via (fun _ => XS.goto X25.here hx rfl (pc0 := 14) (pc' := 18) rfl (hb hby d22_14) (by decide) (by decide)) ?_
  exact Go.fin X25 hlk (v := some (.int (1 : Int32))) (fun h => by rw [Bd.returns] at h; cases h) (fun fs hr => retN X25 hx (t := .boolean) Bd.returns (by simp) (hb hby d22_18) hr) (by rw [e25]; exact ⟨rfl, rfl, rfl⟩) (by decide) (by decide)
theorem d22_17 : decode jdk_42_method_154_code 17 = .ok (.iconst 0, 1) := by decide +kernel
def Q_rmIL1 (Z : State) (a : Addr) (cs : Int32) (h0 : Heap) (n0 : Nat) (vQ : Option Value) (hQ : Heap) (LQ : List Loc) : Prop := vQ = some (.int (0 : Int32)) ∧ LQ = [] ∧ hQ = h0
set_option maxRecDepth 65536 in
set_option maxHeartbeats 40000000 in
theorem rmIL1 (l : Launch) (Z : State) (a0 : Array Value) (hw : ∀ d ∈ tables_1, d.before a0 Z = true) (ws : List Jvm.Cond) (a : Addr) (cs : Int32) (h0 : Heap) (n0 : Nat) (Z0 : n0 ≤ h0.size) (P0 : Fld Z h0 a cST "coder" "B" (.int (1 : Int32))) (P1 : Old Z n0 h0) (zCS : Sta Z Z.heap cST "COMPACT_STRINGS" "Z" (.int cs)) (hcs : ¬ (cs = (0 : Int32))) :
    MetFree l (⟨cST, "isLatin1", "()Z"⟩ : MethodName) (head1 (Jvm.Cond.code (⟨cST, "isLatin1", "()Z"⟩ : MethodName) jdk_42_method_154_code 1 (some .boolean) :: ws) ({ frames := 0, cells := 0, slots := 0, locals := 0 } : Room)) (fun aQ UQ => aQ = #[(.ref a)] ∧ Z.Warmed39 UQ.vm ∧ UQ.heap = h0) (fun _ _ _ _ _ => True) (fun _ UQ oQ UR => ∃ vQ LQ, oQ = .returned vQ ∧ Q_rmIL1 Z a cs h0 n0 vQ UR.heap LQ ∧ FrameEnd UQ oQ UR LQ ({ frames := 0, cells := 0, slots := 0, locals := 0 } : Room).cells ({ frames := 0, cells := 0, slots := 0, locals := 0 } : Room).slots) := by
  refine MetFree.of_bodySF (plainFor_of_name pn_22) hisR ?_
  intro p e s m args below meth c s₁ Bd hml0 hP hK
  obtain ⟨rfl, hZ, hh⟩ := hP
  have hx := Bd.exec
  have hby := Bd.bytes
  have hlk := Bd.notSynchronized
  have hml : c.maxLocals = 1 := hml0
  have hown : s.vm.findClass cST = some m.cls := findClass_of_methodNamed Bd.named
  have hnm := (name_of_methodNamed Bd.named Bd.method).1
  have X0 : Stand p l e ({ frames := 0, cells := 0, slots := 0, locals := 0 } : Room) s m #[(.ref a)] below meth c s₁ [] 0 0 := Stand.of_body Bd
  have e0 : s₁.heap = h0 := by rw [← hh, Bd.state]; rfl
  have N0 := Fr.nil n0
  show Go p e below _ (Done s (Q_rmIL1 Z a cs h0 n0) ({ frames := 0, cells := 0, slots := 0, locals := 0 } : Room).cells ({ frames := 0, cells := 0, slots := 0, locals := 0 } : Room).slots)
  refine Go.via (fun tQ kQ => castTop (ef_22 m a) kQ) ?_
  show Go p e below (s₁.setTop (mkF m 0 #[vr a] [])) _
  have f26 : Sta Z h0 cST "COMPACT_STRINGS" "Z" (.int cs) := zCS.ext P1.2
  obtain ⟨T27, X27, e27, st27⟩ := getS2 X0 hx hZ hown (host := "") (Or.inl (tw hw 56 rfl)) Via.refl e0 f26 (g := (mkF m 0 #[vr a] [])) rfl (hb hby d22_0)
  refine Go.via (st27) ?_
  clear st27
  clear X0 e0
  show Go p e below (T27.setTop (mkF m 3 #[vr a] [(.int cs)])) _
  refine Go.via (fun _ => XS.ifNo X27.here hx rfl (hb hby d22_3) rfl ((if0 _ _).trans (feq (hcs : ¬ (cs = (0 : Int32)))).1)) ?_
  refine Go.via (fun _ => XS.aloadN X27.here hx rfl (hb hby d22_6) rfl rfl) ?_
  obtain ⟨T28, X28, e28, st28⟩ := getF X27 hx hZ hown (host := "") (Or.inl (tw hw 33 rfl)) Via.refl e27 P0 (g := (mkF m 7 #[vr a] [(.ref a)])) rfl rfl (hb hby d22_7)
  refine Go.via (st28) ?_
  clear st28
  clear X27 e27
  show Go p e below (T28.setTop (mkF m 10 #[vr a] [(.int (1 : Int32))])) _
  refine Go.via (fun _ => XS.ifYes X28.here hx rfl (pc0 := 10) (pc' := 17) rfl (hb hby d22_10) rfl ((if0 _ _).trans (feq ((by decide) : ¬ ((1 : Int32) = (0 : Int32)))).2) (by decide) (by decide)) ?_
  refine Go.via (fun _ => XS.iconst X28.here hx rfl (hb hby d22_17)) ?_
  exact Go.fin X28 hlk (v := some (.int (0 : Int32))) (fun h => by rw [Bd.returns] at h; cases h) (fun fs hr => retN X28 hx (t := .boolean) Bd.returns (by simp) (hb hby d22_18) hr) (by rw [e28]; exact ⟨rfl, rfl, rfl⟩) (by decide) (by decide)
theorem d8_0 : decode jdk_42_method_54_code 0 = .ok (.aload_n 0, 1) := by decide +kernel
theorem d8_1 : decode jdk_42_method_54_code 1 = .ok (.getfield 9, 3) := by decide +kernel
theorem d8_4 : decode jdk_42_method_54_code 4 = .ok (.arraylength, 1) := by decide +kernel
theorem d8_5 : decode jdk_42_method_54_code 5 = .ok (.aload_n 0, 1) := by decide +kernel
theorem d8_6 : decode jdk_42_method_54_code 6 = .ok (.invokevirtual 335, 3) := by decide +kernel
theorem pd__28_29B : parseMethodDescriptor "()B" = some ⟨[], some .byte⟩ := by decide +kernel
theorem d8_9 : decode jdk_42_method_54_code 9 = .ok (.ishr, 1) := by decide +kernel
theorem d8_10 : decode jdk_42_method_54_code 10 = .ok (.ireturn, 1) := by decide +kernel
theorem pn_8 : plainName cST = true := by first | (simp [plainName, overriddenIn]; done) | decide +kernel
theorem ef_8 (m : MethodId) (x0 : Addr) : entryFrame m #[(.ref x0)] 1 = mkF m 0 #[.val (.ref x0)] [] := by first | (simp [entryFrame, mkF, argsToLocals, Value.category]; done) | rfl
def Q_rmLn (Z : State) (a : Addr) (cs : Int32) (b_ : Addr) (co : Int32) (ys : List Int32) (cs_ : List Int32) (h0 : Heap) (n0 : Nat) (vQ : Option Value) (hQ : Heap) (LQ : List Loc) : Prop := vQ = some (.int (lnF cs_)) ∧ LQ = [] ∧ hQ = h0
set_option maxRecDepth 65536 in
set_option maxHeartbeats 40000000 in
theorem rmLn (l : Launch) (Z : State) (a0 : Array Value) (hw : ∀ d ∈ tables_1, d.before a0 Z = true) (ws : List Jvm.Cond) (a : Addr) (cs : Int32) (b_ : Addr) (co : Int32) (ys : List Int32) (cs_ : List Int32) (h0 : Heap) (n0 : Nat) (Z0 : n0 ≤ h0.size) (P0 : Exa Z h0 a cST) (P1 : Fld Z h0 a cST "coder" "B" (.int co)) (P2 : Fld Z h0 a cST "value" "[B" (.ref b_)) (P3 : Ia Z h0 b_ .byte ys) (P4 : Old Z n0 h0) (zCS : Sta Z Z.heap cST "COMPACT_STRINGS" "Z" (.int cs)) (hcs : ¬ (cs = (0 : Int32))) (hR : Rep cs_ co ys) :
    MetFree l (⟨cST, "length", "()I"⟩ : MethodName) (head1 (Jvm.Cond.code (⟨cST, "length", "()I"⟩ : MethodName) jdk_42_method_54_code 1 (some .int) :: ws) ({ frames := 1, cells := 0, slots := 0, locals := 13 } : Room)) (fun aQ UQ => aQ = #[(.ref a)] ∧ Z.Warmed39 UQ.vm ∧ UQ.heap = h0) (fun _ _ _ _ _ => True) (fun _ UQ oQ UR => ∃ vQ LQ, oQ = .returned vQ ∧ Q_rmLn Z a cs b_ co ys cs_ h0 n0 vQ UR.heap LQ ∧ FrameEnd UQ oQ UR LQ ({ frames := 1, cells := 0, slots := 0, locals := 13 } : Room).cells ({ frames := 1, cells := 0, slots := 0, locals := 13 } : Room).slots) := by
  refine MetFree.of_bodySF (plainFor_of_name pn_8) hisR ?_
  intro p e s m args below meth c s₁ Bd hml0 hP hK
  obtain ⟨rfl, hZ, hh⟩ := hP
  have hx := Bd.exec
  have hby := Bd.bytes
  have hlk := Bd.notSynchronized
  have hml : c.maxLocals = 1 := hml0
  have hown : s.vm.findClass cST = some m.cls := findClass_of_methodNamed Bd.named
  have hnm := (name_of_methodNamed Bd.named Bd.method).1
  have X0 : Stand p l e ({ frames := 1, cells := 0, slots := 0, locals := 13 } : Room) s m #[(.ref a)] below meth c s₁ [] 0 0 := Stand.of_body Bd
  have e0 : s₁.heap = h0 := by rw [← hh, Bd.state]; rfl
  have N0 := Fr.nil n0
  show Go p e below _ (Done s (Q_rmLn Z a cs b_ co ys cs_ h0 n0) ({ frames := 1, cells := 0, slots := 0, locals := 13 } : Room).cells ({ frames := 1, cells := 0, slots := 0, locals := 13 } : Room).slots)
  refine Go.via (fun tQ kQ => castTop (ef_8 m a) kQ) ?_
  show Go p e below (s₁.setTop (mkF m 0 #[vr a] [])) _
  rcases hR with ⟨rfl, rfl, rfl⟩ | ⟨y0, rfl, rfl, rfl, -⟩ | ⟨y0, rfl, rfl, rfl, -⟩ | ⟨y0, y1, rfl, rfl, rfl, -⟩ | ⟨y0, y1, rfl, rfl, rfl, -⟩
  · show Go p e below (s₁.setTop (mkF m 0 #[vr a] [])) _
    refine Go.via (fun _ => XS.aloadN X0.here hx rfl (hb hby d8_0) rfl rfl) ?_
    obtain ⟨T29, X29, e29, st29⟩ := getF X0 hx hZ hown (host := "") (Or.inl (tw hw 32 rfl)) Via.refl e0 P2 (g := (mkF m 1 #[vr a] [(.ref a)])) rfl rfl (hb hby d8_1)
    refine Go.via (st29) ?_
    clear st29
    clear X0 e0
    show Go p e below (T29.setTop (mkF m 4 #[vr a] [(.ref b_)])) _
    refine Go.via (lenI X29 hx hZ e29 P3 (n := (0 : Int32)) rfl (g := (mkF m 4 #[vr a] [(.ref b_)])) rfl rfl (hb hby d8_4)) ?_
    show Go p e below (T29.setTop (mkF m 5 #[vr a] [(.int (0 : Int32))])) _
    refine Go.via (fun _ => XS.aloadN X29.here hx rfl (hb hby d8_5) rfl rfl) ?_
    obtain ⟨cq30, kq30, q30a, q30b, q30c⟩ := isOf hZ e29 P0
    obtain ⟨r30, _, ⟨T30, L30, k30, n30⟩, -, X30, ⟨Lc30, hQ30, l30, y30, z30⟩, st30⟩ := X29.virtualBack hx (y := (⟨cST, "coder", "()B"⟩ : MethodName)) (z := (⟨cST, "coder", "()B"⟩ : MethodName)) hown (mvT hZ (tw hw 51 rfl)) (mvT hZ (tw hw 52 rfl)) (notFace_of_selects (args := #[]) (mvT hZ (tw hw 54 rfl))) (mvT hZ (tw hw 54 rfl)) (mvT hZ (tw hw 53 rfl)) (by decide) (backOf (W := 1) (rmCo0 l Z a0 hw [] a cs h0 n0 Z0 P1 P4 zCS hcs) hZ (tw hw 55 rfl) (tw hw 14 rfl) (by decide) (by decide)) q30a q30c (g := (mkF m 6 #[vr a] [(.ref a), (.int (0 : Int32))])) rfl (by rw [hml]; rfl) (Steps.refl _) (argsL := []) (rest := [(.int (0 : Int32))]) (lenOf pd__28_29B rfl) rfl (by show 2 * 0 + _ ≤ _; exact Nat.le_of_eq rfl) (hb hby d8_6) (fun _ _ => ⟨rfl, e29, (by decide : 0 + 0 ≤ _), (by decide : 0 + 0 ≤ _)⟩)
    dsimp only [Pt.U, Pt.locs, Pt.cells, Pt.slots] at X30 l30 y30 z30 st30 hQ30
    rw [l30, y30, z30] at X30
    obtain ⟨hr30, N30q, eh30⟩ := hQ30
    rw [hr30] at st30
    rw [N30q, List.append_nil] at X30
    refine Go.via (fun _ kQ => st30.trans kQ) ?_
    clear st30
    have e30 : T30.heap = h0 := eh30
    clear X29 e29
    show Go p e below (T30.setTop (mkF m 9 #[vr a] [(.int (0 : Int32)), (.int (0 : Int32))])) _
    refine Go.via (fun _ => XS.ishr X30.here hx rfl (hb hby d8_9) rfl) ?_
    exact Go.fin X30 hlk (v := some (.int (0 : Int32))) (fun h => by rw [Bd.returns] at h; cases h) (fun fs hr => OwnKit.retI X30 hx Bd.returns (hb hby d8_10) hr) (by rw [e30]; exact ⟨rfl, rfl, rfl⟩) (by decide) (by decide)
  · show Go p e below (s₁.setTop (mkF m 0 #[vr a] [])) _
    refine Go.via (fun _ => XS.aloadN X0.here hx rfl (hb hby d8_0) rfl rfl) ?_
    obtain ⟨T31, X31, e31, st31⟩ := getF X0 hx hZ hown (host := "") (Or.inl (tw hw 32 rfl)) Via.refl e0 P2 (g := (mkF m 1 #[vr a] [(.ref a)])) rfl rfl (hb hby d8_1)
    refine Go.via (st31) ?_
    clear st31
    clear X0 e0
    show Go p e below (T31.setTop (mkF m 4 #[vr a] [(.ref b_)])) _
    refine Go.via (lenI X31 hx hZ e31 P3 (n := (1 : Int32)) rfl (g := (mkF m 4 #[vr a] [(.ref b_)])) rfl rfl (hb hby d8_4)) ?_
    show Go p e below (T31.setTop (mkF m 5 #[vr a] [(.int (1 : Int32))])) _
    refine Go.via (fun _ => XS.aloadN X31.here hx rfl (hb hby d8_5) rfl rfl) ?_
    obtain ⟨cq32, kq32, q32a, q32b, q32c⟩ := isOf hZ e31 P0
    obtain ⟨r32, _, ⟨T32, L32, k32, n32⟩, -, X32, ⟨Lc32, hQ32, l32, y32, z32⟩, st32⟩ := X31.virtualBack hx (y := (⟨cST, "coder", "()B"⟩ : MethodName)) (z := (⟨cST, "coder", "()B"⟩ : MethodName)) hown (mvT hZ (tw hw 51 rfl)) (mvT hZ (tw hw 52 rfl)) (notFace_of_selects (args := #[]) (mvT hZ (tw hw 54 rfl))) (mvT hZ (tw hw 54 rfl)) (mvT hZ (tw hw 53 rfl)) (by decide) (backOf (W := 1) (rmCo0 l Z a0 hw [] a cs h0 n0 Z0 P1 P4 zCS hcs) hZ (tw hw 55 rfl) (tw hw 14 rfl) (by decide) (by decide)) q32a q32c (g := (mkF m 6 #[vr a] [(.ref a), (.int (1 : Int32))])) rfl (by rw [hml]; rfl) (Steps.refl _) (argsL := []) (rest := [(.int (1 : Int32))]) (lenOf pd__28_29B rfl) rfl (by show 2 * 0 + _ ≤ _; exact Nat.le_of_eq rfl) (hb hby d8_6) (fun _ _ => ⟨rfl, e31, (by decide : 0 + 0 ≤ _), (by decide : 0 + 0 ≤ _)⟩)
    dsimp only [Pt.U, Pt.locs, Pt.cells, Pt.slots] at X32 l32 y32 z32 st32 hQ32
    rw [l32, y32, z32] at X32
    obtain ⟨hr32, N32q, eh32⟩ := hQ32
    rw [hr32] at st32
    rw [N32q, List.append_nil] at X32
    refine Go.via (fun _ kQ => st32.trans kQ) ?_
    clear st32
    have e32 : T32.heap = h0 := eh32
    clear X31 e31
    show Go p e below (T32.setTop (mkF m 9 #[vr a] [(.int (0 : Int32)), (.int (1 : Int32))])) _
    refine Go.via (fun _ => XS.ishr X32.here hx rfl (hb hby d8_9) rfl) ?_
    exact Go.fin X32 hlk (v := some (.int (1 : Int32))) (fun h => by rw [Bd.returns] at h; cases h) (fun fs hr => OwnKit.retI X32 hx Bd.returns (hb hby d8_10) hr) (by rw [e32]; exact ⟨rfl, rfl, rfl⟩) (by decide) (by decide)
  · show Go p e below (s₁.setTop (mkF m 0 #[vr a] [])) _
    refine Go.via (fun _ => XS.aloadN X0.here hx rfl (hb hby d8_0) rfl rfl) ?_
    obtain ⟨T33, X33, e33, st33⟩ := getF X0 hx hZ hown (host := "") (Or.inl (tw hw 32 rfl)) Via.refl e0 P2 (g := (mkF m 1 #[vr a] [(.ref a)])) rfl rfl (hb hby d8_1)
    refine Go.via (st33) ?_
    clear st33
    clear X0 e0
    show Go p e below (T33.setTop (mkF m 4 #[vr a] [(.ref b_)])) _
    refine Go.via (lenI X33 hx hZ e33 P3 (n := (2 : Int32)) rfl (g := (mkF m 4 #[vr a] [(.ref b_)])) rfl rfl (hb hby d8_4)) ?_
    show Go p e below (T33.setTop (mkF m 5 #[vr a] [(.int (2 : Int32))])) _
    refine Go.via (fun _ => XS.aloadN X33.here hx rfl (hb hby d8_5) rfl rfl) ?_
    obtain ⟨cq34, kq34, q34a, q34b, q34c⟩ := isOf hZ e33 P0
    obtain ⟨r34, _, ⟨T34, L34, k34, n34⟩, -, X34, ⟨Lc34, hQ34, l34, y34, z34⟩, st34⟩ := X33.virtualBack hx (y := (⟨cST, "coder", "()B"⟩ : MethodName)) (z := (⟨cST, "coder", "()B"⟩ : MethodName)) hown (mvT hZ (tw hw 51 rfl)) (mvT hZ (tw hw 52 rfl)) (notFace_of_selects (args := #[]) (mvT hZ (tw hw 54 rfl))) (mvT hZ (tw hw 54 rfl)) (mvT hZ (tw hw 53 rfl)) (by decide) (backOf (W := 1) (rmCo1 l Z a0 hw [] a cs h0 n0 Z0 P1 P4 zCS hcs) hZ (tw hw 55 rfl) (tw hw 14 rfl) (by decide) (by decide)) q34a q34c (g := (mkF m 6 #[vr a] [(.ref a), (.int (2 : Int32))])) rfl (by rw [hml]; rfl) (Steps.refl _) (argsL := []) (rest := [(.int (2 : Int32))]) (lenOf pd__28_29B rfl) rfl (by show 2 * 0 + _ ≤ _; exact Nat.le_of_eq rfl) (hb hby d8_6) (fun _ _ => ⟨rfl, e33, (by decide : 0 + 0 ≤ _), (by decide : 0 + 0 ≤ _)⟩)
    dsimp only [Pt.U, Pt.locs, Pt.cells, Pt.slots] at X34 l34 y34 z34 st34 hQ34
    rw [l34, y34, z34] at X34
    obtain ⟨hr34, N34q, eh34⟩ := hQ34
    rw [hr34] at st34
    rw [N34q, List.append_nil] at X34
    refine Go.via (fun _ kQ => st34.trans kQ) ?_
    clear st34
    have e34 : T34.heap = h0 := eh34
    clear X33 e33
    show Go p e below (T34.setTop (mkF m 9 #[vr a] [(.int (1 : Int32)), (.int (2 : Int32))])) _
    refine Go.via (fun _ => XS.ishr X34.here hx rfl (hb hby d8_9) rfl) ?_
    exact Go.fin X34 hlk (v := some (.int (1 : Int32))) (fun h => by rw [Bd.returns] at h; cases h) (fun fs hr => OwnKit.retI X34 hx Bd.returns (hb hby d8_10) hr) (by rw [e34]; exact ⟨rfl, rfl, rfl⟩) (by decide) (by decide)
  · show Go p e below (s₁.setTop (mkF m 0 #[vr a] [])) _
    refine Go.via (fun _ => XS.aloadN X0.here hx rfl (hb hby d8_0) rfl rfl) ?_
    obtain ⟨T35, X35, e35, st35⟩ := getF X0 hx hZ hown (host := "") (Or.inl (tw hw 32 rfl)) Via.refl e0 P2 (g := (mkF m 1 #[vr a] [(.ref a)])) rfl rfl (hb hby d8_1)
    refine Go.via (st35) ?_
    clear st35
    clear X0 e0
    show Go p e below (T35.setTop (mkF m 4 #[vr a] [(.ref b_)])) _
    refine Go.via (lenI X35 hx hZ e35 P3 (n := (2 : Int32)) rfl (g := (mkF m 4 #[vr a] [(.ref b_)])) rfl rfl (hb hby d8_4)) ?_
    show Go p e below (T35.setTop (mkF m 5 #[vr a] [(.int (2 : Int32))])) _
    refine Go.via (fun _ => XS.aloadN X35.here hx rfl (hb hby d8_5) rfl rfl) ?_
    obtain ⟨cq36, kq36, q36a, q36b, q36c⟩ := isOf hZ e35 P0
    obtain ⟨r36, _, ⟨T36, L36, k36, n36⟩, -, X36, ⟨Lc36, hQ36, l36, y36, z36⟩, st36⟩ := X35.virtualBack hx (y := (⟨cST, "coder", "()B"⟩ : MethodName)) (z := (⟨cST, "coder", "()B"⟩ : MethodName)) hown (mvT hZ (tw hw 51 rfl)) (mvT hZ (tw hw 52 rfl)) (notFace_of_selects (args := #[]) (mvT hZ (tw hw 54 rfl))) (mvT hZ (tw hw 54 rfl)) (mvT hZ (tw hw 53 rfl)) (by decide) (backOf (W := 1) (rmCo0 l Z a0 hw [] a cs h0 n0 Z0 P1 P4 zCS hcs) hZ (tw hw 55 rfl) (tw hw 14 rfl) (by decide) (by decide)) q36a q36c (g := (mkF m 6 #[vr a] [(.ref a), (.int (2 : Int32))])) rfl (by rw [hml]; rfl) (Steps.refl _) (argsL := []) (rest := [(.int (2 : Int32))]) (lenOf pd__28_29B rfl) rfl (by show 2 * 0 + _ ≤ _; exact Nat.le_of_eq rfl) (hb hby d8_6) (fun _ _ => ⟨rfl, e35, (by decide : 0 + 0 ≤ _), (by decide : 0 + 0 ≤ _)⟩)
    dsimp only [Pt.U, Pt.locs, Pt.cells, Pt.slots] at X36 l36 y36 z36 st36 hQ36
    rw [l36, y36, z36] at X36
    obtain ⟨hr36, N36q, eh36⟩ := hQ36
    rw [hr36] at st36
    rw [N36q, List.append_nil] at X36
    refine Go.via (fun _ kQ => st36.trans kQ) ?_
    clear st36
    have e36 : T36.heap = h0 := eh36
    clear X35 e35
    show Go p e below (T36.setTop (mkF m 9 #[vr a] [(.int (0 : Int32)), (.int (2 : Int32))])) _
    refine Go.via (fun _ => XS.ishr X36.here hx rfl (hb hby d8_9) rfl) ?_
    exact Go.fin X36 hlk (v := some (.int (2 : Int32))) (fun h => by rw [Bd.returns] at h; cases h) (fun fs hr => OwnKit.retI X36 hx Bd.returns (hb hby d8_10) hr) (by rw [e36]; exact ⟨rfl, rfl, rfl⟩) (by decide) (by decide)
  · show Go p e below (s₁.setTop (mkF m 0 #[vr a] [])) _
    refine Go.via (fun _ => XS.aloadN X0.here hx rfl (hb hby d8_0) rfl rfl) ?_
    obtain ⟨T37, X37, e37, st37⟩ := getF X0 hx hZ hown (host := "") (Or.inl (tw hw 32 rfl)) Via.refl e0 P2 (g := (mkF m 1 #[vr a] [(.ref a)])) rfl rfl (hb hby d8_1)
    refine Go.via (st37) ?_
    clear st37
    clear X0 e0
    show Go p e below (T37.setTop (mkF m 4 #[vr a] [(.ref b_)])) _
    refine Go.via (lenI X37 hx hZ e37 P3 (n := (4 : Int32)) rfl (g := (mkF m 4 #[vr a] [(.ref b_)])) rfl rfl (hb hby d8_4)) ?_
    show Go p e below (T37.setTop (mkF m 5 #[vr a] [(.int (4 : Int32))])) _
    refine Go.via (fun _ => XS.aloadN X37.here hx rfl (hb hby d8_5) rfl rfl) ?_
    obtain ⟨cq38, kq38, q38a, q38b, q38c⟩ := isOf hZ e37 P0
    obtain ⟨r38, _, ⟨T38, L38, k38, n38⟩, -, X38, ⟨Lc38, hQ38, l38, y38, z38⟩, st38⟩ := X37.virtualBack hx (y := (⟨cST, "coder", "()B"⟩ : MethodName)) (z := (⟨cST, "coder", "()B"⟩ : MethodName)) hown (mvT hZ (tw hw 51 rfl)) (mvT hZ (tw hw 52 rfl)) (notFace_of_selects (args := #[]) (mvT hZ (tw hw 54 rfl))) (mvT hZ (tw hw 54 rfl)) (mvT hZ (tw hw 53 rfl)) (by decide) (backOf (W := 1) (rmCo1 l Z a0 hw [] a cs h0 n0 Z0 P1 P4 zCS hcs) hZ (tw hw 55 rfl) (tw hw 14 rfl) (by decide) (by decide)) q38a q38c (g := (mkF m 6 #[vr a] [(.ref a), (.int (4 : Int32))])) rfl (by rw [hml]; rfl) (Steps.refl _) (argsL := []) (rest := [(.int (4 : Int32))]) (lenOf pd__28_29B rfl) rfl (by show 2 * 0 + _ ≤ _; exact Nat.le_of_eq rfl) (hb hby d8_6) (fun _ _ => ⟨rfl, e37, (by decide : 0 + 0 ≤ _), (by decide : 0 + 0 ≤ _)⟩)
    dsimp only [Pt.U, Pt.locs, Pt.cells, Pt.slots] at X38 l38 y38 z38 st38 hQ38
    rw [l38, y38, z38] at X38
    obtain ⟨hr38, N38q, eh38⟩ := hQ38
    rw [hr38] at st38
    rw [N38q, List.append_nil] at X38
    refine Go.via (fun _ kQ => st38.trans kQ) ?_
    clear st38
    have e38 : T38.heap = h0 := eh38
    clear X37 e37
    show Go p e below (T38.setTop (mkF m 9 #[vr a] [(.int (1 : Int32)), (.int (4 : Int32))])) _
    refine Go.via (fun _ => XS.ishr X38.here hx rfl (hb hby d8_9) rfl) ?_
    exact Go.fin X38 hlk (v := some (.int (2 : Int32))) (fun h => by rw [Bd.returns] at h; cases h) (fun fs hr => OwnKit.retI X38 hx Bd.returns (hb hby d8_10) hr) (by rw [e38]; exact ⟨rfl, rfl, rfl⟩) (by decide) (by decide)
theorem d24_0 : decode jdk_41_method_11_code 0 = .ok (.iload_n 0, 1) := by decide +kernel
theorem d24_1 : decode jdk_41_method_11_code 1 = .ok (.ifCond .lt 8, 3) := by decide +kernel
theorem d24_4 : decode jdk_41_method_11_code 4 = .ok (.iload_n 0, 1) := by decide +kernel
theorem d24_5 : decode jdk_41_method_11_code 5 = .ok (.iload_n 1, 1) := by decide +kernel
theorem d24_6 : decode jdk_41_method_11_code 6 = .ok (.if_icmp .lt 10, 3) := by decide +kernel
theorem d24_16 : decode jdk_41_method_11_code 16 = .ok (.iload_n 0, 1) := by decide +kernel
theorem d24_17 : decode jdk_41_method_11_code 17 = .ok (.ireturn, 1) := by decide +kernel
theorem pn_24 : plainName cPR = true := by first | (simp [plainName, overriddenIn]; done) | decide +kernel
theorem ef_24n2 (m : MethodId) (x0 : Int32) (x1 : Int32) : entryFrame m #[(.int x0), (.int x1), .null] 3 = mkF m 0 #[.val (.int x0), .val (.int x1), .val .null] [] := by first | (simp [entryFrame, mkF, argsToLocals, Value.category]; done) | rfl
def Q_rmPcN (Z : State) (i : Int32) (n : Int32)  (h0 : Heap) (n0 : Nat) (vQ : Option Value) (hQ : Heap) (LQ : List Loc) : Prop := vQ = some (.int i) ∧ LQ = [] ∧ hQ = h0
set_option maxRecDepth 65536 in
set_option maxHeartbeats 40000000 in
theorem rmPcN (l : Launch) (Z : State) (a0 : Array Value) (hw : ∀ d ∈ tables_1, d.before a0 Z = true) (ws : List Jvm.Cond) (i : Int32) (n : Int32)  (h0 : Heap) (n0 : Nat) (Z0 : n0 ≤ h0.size) (hi0 : ¬ i < (0 : Int32)) (hlt : i < n) :
    MetFree l (⟨cPR, "checkIndex", "(IILjava/util/function/BiFunction;)I"⟩ : MethodName) (head1 (Jvm.Cond.code (⟨cPR, "checkIndex", "(IILjava/util/function/BiFunction;)I"⟩ : MethodName) jdk_41_method_11_code 3 (some .int) :: ws) ({ frames := 0, cells := 0, slots := 0, locals := 0 } : Room)) (fun aQ UQ => aQ = #[(.int i), (.int n), .null] ∧ Z.Warmed39 UQ.vm ∧ UQ.heap = h0) (fun _ _ _ _ _ => True) (fun _ UQ oQ UR => ∃ vQ LQ, oQ = .returned vQ ∧ Q_rmPcN Z i n  h0 n0 vQ UR.heap LQ ∧ FrameEnd UQ oQ UR LQ ({ frames := 0, cells := 0, slots := 0, locals := 0 } : Room).cells ({ frames := 0, cells := 0, slots := 0, locals := 0 } : Room).slots) := by
  refine MetFree.of_bodySF (plainFor_of_name pn_24) hisR ?_
  intro p e s m args below meth c s₁ Bd hml0 hP hK
  obtain ⟨rfl, hZ, hh⟩ := hP
  have hx := Bd.exec
  have hby := Bd.bytes
  have hlk := Bd.notSynchronized
  have hml : c.maxLocals = 3 := hml0
  have hown : s.vm.findClass cPR = some m.cls := findClass_of_methodNamed Bd.named
  have hnm := (name_of_methodNamed Bd.named Bd.method).1
  have X0 : Stand p l e ({ frames := 0, cells := 0, slots := 0, locals := 0 } : Room) s m #[(.int i), (.int n), .null] below meth c s₁ [] 0 0 := Stand.of_body Bd
  have e0 : s₁.heap = h0 := by rw [← hh, Bd.state]; rfl
  have N0 := Fr.nil n0
  show Go p e below _ (Done s (Q_rmPcN Z i n  h0 n0) ({ frames := 0, cells := 0, slots := 0, locals := 0 } : Room).cells ({ frames := 0, cells := 0, slots := 0, locals := 0 } : Room).slots)
  refine Go.via (fun tQ kQ => castTop (ef_24n2 m i n) kQ) ?_
  show Go p e below (s₁.setTop (mkF m 0 #[vi i, vi n, .val .null] [])) _
  refine Go.via (fun _ => XS.iloadN X0.here hx rfl (hb hby d24_0) rfl) ?_
  refine Go.via (fun _ => XS.ifNo X0.here hx rfl (hb hby d24_1) rfl ((if0 _ _).trans (flt (hi0 : ¬ (i < (0 : Int32)))).1)) ?_
  refine Go.via (fun _ => XS.iloadN X0.here hx rfl (hb hby d24_4) rfl) ?_
  refine Go.via (fun _ => XS.iloadN X0.here hx rfl (hb hby d24_5) rfl) ?_
  refine Go.via (fun _ => XS.icmpYes X0.here hx rfl (pc0 := 6) (pc' := 16) rfl (hb hby d24_6) rfl (tlt (hlt : i < n)).1 (by decide) (by decide)) ?_
  refine Go.via (fun _ => XS.iloadN X0.here hx rfl (hb hby d24_16) rfl) ?_
  exact Go.fin X0 hlk (v := some (.int i)) (fun h => by rw [Bd.returns] at h; cases h) (fun fs hr => OwnKit.retI X0 hx Bd.returns (hb hby d24_17) hr) (by rw [e0]; exact ⟨rfl, rfl, rfl⟩) (by decide) (by decide)
theorem ef_24 (m : MethodId) (x0 : Int32) (x1 : Int32) (x2 : Addr) : entryFrame m #[(.int x0), (.int x1), (.ref x2)] 3 = mkF m 0 #[.val (.int x0), .val (.int x1), .val (.ref x2)] [] := by first | (simp [entryFrame, mkF, argsToLocals, Value.category]; done) | rfl
def Q_rmPcR (Z : State) (i : Int32) (n : Int32) (fa : Addr)  (h0 : Heap) (n0 : Nat) (vQ : Option Value) (hQ : Heap) (LQ : List Loc) : Prop := vQ = some (.int i) ∧ LQ = [] ∧ hQ = h0
set_option maxRecDepth 65536 in
set_option maxHeartbeats 40000000 in
theorem rmPcR (l : Launch) (Z : State) (a0 : Array Value) (hw : ∀ d ∈ tables_1, d.before a0 Z = true) (ws : List Jvm.Cond) (i : Int32) (n : Int32) (fa : Addr)  (h0 : Heap) (n0 : Nat) (Z0 : n0 ≤ h0.size) (hi0 : ¬ i < (0 : Int32)) (hlt : i < n) :
    MetFree l (⟨cPR, "checkIndex", "(IILjava/util/function/BiFunction;)I"⟩ : MethodName) (head1 (Jvm.Cond.code (⟨cPR, "checkIndex", "(IILjava/util/function/BiFunction;)I"⟩ : MethodName) jdk_41_method_11_code 3 (some .int) :: ws) ({ frames := 0, cells := 0, slots := 0, locals := 0 } : Room)) (fun aQ UQ => aQ = #[(.int i), (.int n), (.ref fa)] ∧ Z.Warmed39 UQ.vm ∧ UQ.heap = h0) (fun _ _ _ _ _ => True) (fun _ UQ oQ UR => ∃ vQ LQ, oQ = .returned vQ ∧ Q_rmPcR Z i n fa  h0 n0 vQ UR.heap LQ ∧ FrameEnd UQ oQ UR LQ ({ frames := 0, cells := 0, slots := 0, locals := 0 } : Room).cells ({ frames := 0, cells := 0, slots := 0, locals := 0 } : Room).slots) := by
  refine MetFree.of_bodySF (plainFor_of_name pn_24) hisR ?_
  intro p e s m args below meth c s₁ Bd hml0 hP hK
  obtain ⟨rfl, hZ, hh⟩ := hP
  have hx := Bd.exec
  have hby := Bd.bytes
  have hlk := Bd.notSynchronized
  have hml : c.maxLocals = 3 := hml0
  have hown : s.vm.findClass cPR = some m.cls := findClass_of_methodNamed Bd.named
  have hnm := (name_of_methodNamed Bd.named Bd.method).1
  have X0 : Stand p l e ({ frames := 0, cells := 0, slots := 0, locals := 0 } : Room) s m #[(.int i), (.int n), (.ref fa)] below meth c s₁ [] 0 0 := Stand.of_body Bd
  have e0 : s₁.heap = h0 := by rw [← hh, Bd.state]; rfl
  have N0 := Fr.nil n0
  show Go p e below _ (Done s (Q_rmPcR Z i n fa  h0 n0) ({ frames := 0, cells := 0, slots := 0, locals := 0 } : Room).cells ({ frames := 0, cells := 0, slots := 0, locals := 0 } : Room).slots)
  refine Go.via (fun tQ kQ => castTop (ef_24 m i n fa) kQ) ?_
  show Go p e below (s₁.setTop (mkF m 0 #[vi i, vi n, vr fa] [])) _
  refine Go.via (fun _ => XS.iloadN X0.here hx rfl (hb hby d24_0) rfl) ?_
  refine Go.via (fun _ => XS.ifNo X0.here hx rfl (hb hby d24_1) rfl ((if0 _ _).trans (flt (hi0 : ¬ (i < (0 : Int32)))).1)) ?_
  refine Go.via (fun _ => XS.iloadN X0.here hx rfl (hb hby d24_4) rfl) ?_
  refine Go.via (fun _ => XS.iloadN X0.here hx rfl (hb hby d24_5) rfl) ?_
  refine Go.via (fun _ => XS.icmpYes X0.here hx rfl (pc0 := 6) (pc' := 16) rfl (hb hby d24_6) rfl (tlt (hlt : i < n)).1 (by decide) (by decide)) ?_
  refine Go.via (fun _ => XS.iloadN X0.here hx rfl (hb hby d24_16) rfl) ?_
  exact Go.fin X0 hlk (v := some (.int i)) (fun h => by rw [Bd.returns] at h; cases h) (fun fs hr => OwnKit.retI X0 hx Bd.returns (hb hby d24_17) hr) (by rw [e0]; exact ⟨rfl, rfl, rfl⟩) (by decide) (by decide)
theorem d23_0 : decode jdk_42_method_155_code 0 = .ok (.iload_n 0, 1) := by decide +kernel
theorem d23_1 : decode jdk_42_method_155_code 1 = .ok (.iload_n 1, 1) := by decide +kernel
theorem d23_2 : decode jdk_42_method_155_code 2 = .ok (.getstatic 1053, 3) := by decide +kernel
theorem d23_5 : decode jdk_42_method_155_code 5 = .ok (.invokestatic 1059, 3) := by decide +kernel
theorem pd__28IILjava_2futil_2ffunction_2fBiFunction_3b_29I : parseMethodDescriptor "(IILjava/util/function/BiFunction;)I" = some ⟨[.int, .int, (.object "java/util/function/BiFunction")], some .int⟩ := by decide +kernel
theorem d23_8 : decode jdk_42_method_155_code 8 = .ok (.pop, 1) := by decide +kernel
theorem d23_9 : decode jdk_42_method_155_code 9 = .ok (.return_, 1) := by decide +kernel
theorem pn_23 : plainName cST = true := by first | (simp [plainName, overriddenIn]; done) | decide +kernel
theorem ef_23 (m : MethodId) (x0 : Int32) (x1 : Int32) : entryFrame m #[(.int x0), (.int x1)] 2 = mkF m 0 #[.val (.int x0), .val (.int x1)] [] := by first | (simp [entryFrame, mkF, argsToLocals, Value.category]; done) | rfl
def Q_rmCx (Z : State) (i : Int32) (n : Int32) (fv : Value) (h0 : Heap) (n0 : Nat) (vQ : Option Value) (hQ : Heap) (LQ : List Loc) : Prop := vQ = none ∧ LQ = [] ∧ hQ = h0
set_option maxRecDepth 65536 in
set_option maxHeartbeats 40000000 in
theorem rmCx (l : Launch) (Z : State) (a0 : Array Value) (hw : ∀ d ∈ tables_1, d.before a0 Z = true) (ws : List Jvm.Cond) (i : Int32) (n : Int32) (fv : Value) (h0 : Heap) (n0 : Nat) (Z0 : n0 ≤ h0.size) (P0 : Old Z n0 h0) (zF : Sta Z Z.heap cPR "SIOOBE_FORMATTER" "Ljava/util/function/BiFunction;" fv) (hi0 : ¬ i < (0 : Int32)) (hlt : i < n) (hfv : fv = .null ∨ ∃ fa : Addr, fv = .ref fa) :
    MetFree l (⟨cST, "checkIndex", "(II)V"⟩ : MethodName) (head1 (Jvm.Cond.code (⟨cST, "checkIndex", "(II)V"⟩ : MethodName) jdk_42_method_155_code 2 none :: ws) ({ frames := 1, cells := 0, slots := 0, locals := 14 } : Room)) (fun aQ UQ => aQ = #[(.int i), (.int n)] ∧ Z.Warmed39 UQ.vm ∧ UQ.heap = h0) (fun _ _ _ _ _ => True) (fun _ UQ oQ UR => ∃ vQ LQ, oQ = .returned vQ ∧ Q_rmCx Z i n fv h0 n0 vQ UR.heap LQ ∧ FrameEnd UQ oQ UR LQ ({ frames := 1, cells := 0, slots := 0, locals := 14 } : Room).cells ({ frames := 1, cells := 0, slots := 0, locals := 14 } : Room).slots) := by
  refine MetFree.of_bodySF (plainFor_of_name pn_23) hisR ?_
  intro p e s m args below meth c s₁ Bd hml0 hP hK
  obtain ⟨rfl, hZ, hh⟩ := hP
  have hx := Bd.exec
  have hby := Bd.bytes
  have hlk := Bd.notSynchronized
  have hml : c.maxLocals = 2 := hml0
  have hown : s.vm.findClass cST = some m.cls := findClass_of_methodNamed Bd.named
  have hnm := (name_of_methodNamed Bd.named Bd.method).1
  have X0 : Stand p l e ({ frames := 1, cells := 0, slots := 0, locals := 14 } : Room) s m #[(.int i), (.int n)] below meth c s₁ [] 0 0 := Stand.of_body Bd
  have e0 : s₁.heap = h0 := by rw [← hh, Bd.state]; rfl
  have N0 := Fr.nil n0
  show Go p e below _ (Done s (Q_rmCx Z i n fv h0 n0) ({ frames := 1, cells := 0, slots := 0, locals := 14 } : Room).cells ({ frames := 1, cells := 0, slots := 0, locals := 14 } : Room).slots)
  refine Go.via (fun tQ kQ => castTop (ef_23 m i n) kQ) ?_
  show Go p e below (s₁.setTop (mkF m 0 #[vi i, vi n] [])) _
  rcases hfv with rfl | ⟨fa, rfl⟩
  · show Go p e below (s₁.setTop (mkF m 0 #[vi i, vi n] [])) _
    refine Go.via (fun _ => XS.iloadN X0.here hx rfl (hb hby d23_0) rfl) ?_
    refine Go.via (fun _ => XS.iloadN X0.here hx rfl (hb hby d23_1) rfl) ?_
    have f39 : Sta Z h0 cPR "SIOOBE_FORMATTER" "Ljava/util/function/BiFunction;" .null := zF.ext P0.2
    obtain ⟨T40, X40, e40, st40⟩ := getS2 X0 hx hZ hown (host := "") (Or.inl (tw hw 110 rfl)) Via.refl e0 f39 (g := (mkF m 2 #[vi i, vi n] [(.int n), (.int i)])) rfl (hb hby d23_2)
    refine Go.via (st40) ?_
    clear st40
    clear X0 e0
    show Go p e below (T40.setTop (mkF m 5 #[vi i, vi n] [.null, (.int n), (.int i)])) _
    obtain ⟨r41, _, ⟨T41, L41, k41, n41⟩, -, X41, ⟨Lc41, hQ41, l41, y41, z41⟩, st41⟩ := Jvm.LawKit.callS X40 hx (y := (⟨cPR, "checkIndex", "(IILjava/util/function/BiFunction;)I"⟩ : MethodName)) hown (mvT hZ (tw hw 112 rfl)) (mvT hZ (tw hw 113 rfl)) (mvT hZ (tw hw 111 rfl)) (mvT hZ (tw hw 114 rfl)) (by decide) (backOf (W := 0) (rmPcN l Z a0 hw [] i n  h0 n0 Z0 hi0 hlt) hZ (tw hw 114 rfl) (tw hw 111 rfl) (by decide) (by decide)) (g := (mkF m 5 #[vi i, vi n] [.null, (.int n), (.int i)])) rfl (by rw [hml]; rfl) (argsL := [(.int i), (.int n), .null]) (rest := []) (lenOf pd__28IILjava_2futil_2ffunction_2fBiFunction_3b_29I rfl) rfl (by show 2 * 0 + _ ≤ _; exact Nat.le_of_eq rfl) (hb hby d23_5) (fun _ _ => ⟨rfl, e40, (by decide : 0 + 0 ≤ _), (by decide : 0 + 0 ≤ _)⟩)
    dsimp only [Pt.U, Pt.locs, Pt.cells, Pt.slots] at X41 l41 y41 z41 st41 hQ41
    rw [l41, y41, z41] at X41
    obtain ⟨hr41, N41q, eh41⟩ := hQ41
    rw [hr41] at st41
    rw [N41q, List.append_nil] at X41
    refine Go.via (st41) ?_
    clear st41
    have e41 : T41.heap = h0 := eh41
    clear X40 e40
    show Go p e below (T41.setTop (mkF m 8 #[vi i, vi n] [(.int i)])) _
    refine Go.via (fun _ => XS.pop X41.here hx rfl (hb hby d23_8) rfl rfl) ?_
    show Go p e below (T41.setTop (mkF m 9 #[vi i, vi n] [])) _
    exact Go.fin X41 hlk (v := none) (fun _ => rfl) (fun fs hr => X41.returnOut hx Bd.returns (hb hby d23_9) hr) (by rw [e41]; exact ⟨rfl, rfl, rfl⟩) (by decide) (by decide)
  · show Go p e below (s₁.setTop (mkF m 0 #[vi i, vi n] [])) _
    refine Go.via (fun _ => XS.iloadN X0.here hx rfl (hb hby d23_0) rfl) ?_
    refine Go.via (fun _ => XS.iloadN X0.here hx rfl (hb hby d23_1) rfl) ?_
    have f42 : Sta Z h0 cPR "SIOOBE_FORMATTER" "Ljava/util/function/BiFunction;" (.ref fa) := zF.ext P0.2
    obtain ⟨T43, X43, e43, st43⟩ := getS2 X0 hx hZ hown (host := "") (Or.inl (tw hw 110 rfl)) Via.refl e0 f42 (g := (mkF m 2 #[vi i, vi n] [(.int n), (.int i)])) rfl (hb hby d23_2)
    refine Go.via (st43) ?_
    clear st43
    clear X0 e0
    show Go p e below (T43.setTop (mkF m 5 #[vi i, vi n] [(.ref fa), (.int n), (.int i)])) _
    obtain ⟨r44, _, ⟨T44, L44, k44, n44⟩, -, X44, ⟨Lc44, hQ44, l44, y44, z44⟩, st44⟩ := Jvm.LawKit.callS X43 hx (y := (⟨cPR, "checkIndex", "(IILjava/util/function/BiFunction;)I"⟩ : MethodName)) hown (mvT hZ (tw hw 112 rfl)) (mvT hZ (tw hw 113 rfl)) (mvT hZ (tw hw 111 rfl)) (mvT hZ (tw hw 114 rfl)) (by decide) (backOf (W := 0) (rmPcR l Z a0 hw [] i n fa  h0 n0 Z0 hi0 hlt) hZ (tw hw 114 rfl) (tw hw 111 rfl) (by decide) (by decide)) (g := (mkF m 5 #[vi i, vi n] [(.ref fa), (.int n), (.int i)])) rfl (by rw [hml]; rfl) (argsL := [(.int i), (.int n), (.ref fa)]) (rest := []) (lenOf pd__28IILjava_2futil_2ffunction_2fBiFunction_3b_29I rfl) rfl (by show 2 * 0 + _ ≤ _; exact Nat.le_of_eq rfl) (hb hby d23_5) (fun _ _ => ⟨rfl, e43, (by decide : 0 + 0 ≤ _), (by decide : 0 + 0 ≤ _)⟩)
    dsimp only [Pt.U, Pt.locs, Pt.cells, Pt.slots] at X44 l44 y44 z44 st44 hQ44
    rw [l44, y44, z44] at X44
    obtain ⟨hr44, N44q, eh44⟩ := hQ44
    rw [hr44] at st44
    rw [N44q, List.append_nil] at X44
    refine Go.via (st44) ?_
    clear st44
    have e44 : T44.heap = h0 := eh44
    clear X43 e43
    show Go p e below (T44.setTop (mkF m 8 #[vi i, vi n] [(.int i)])) _
    refine Go.via (fun _ => XS.pop X44.here hx rfl (hb hby d23_8) rfl rfl) ?_
    show Go p e below (T44.setTop (mkF m 9 #[vi i, vi n] [])) _
    exact Go.fin X44 hlk (v := none) (fun _ => rfl) (fun fs hr => X44.returnOut hx Bd.returns (hb hby d23_9) hr) (by rw [e44]; exact ⟨rfl, rfl, rfl⟩) (by decide) (by decide)
theorem d17_0 : decode jdk_52_method_4_code 0 = .ok (.getstatic 44, 3) := by decide +kernel
theorem d17_3 : decode jdk_52_method_4_code 3 = .ok (.ifCond .ne 25, 3) := by decide +kernel
theorem d17_28 : decode jdk_52_method_4_code 28 = .ok (.iload_n 1, 1) := by decide +kernel
theorem d17_29 : decode jdk_52_method_4_code 29 = .ok (.iconst 1, 1) := by decide +kernel
theorem d17_30 : decode jdk_52_method_4_code 30 = .ok (.ishl, 1) := by decide +kernel
theorem d17_31 : decode jdk_52_method_4_code 31 = .ok (.istore_n 1, 1) := by decide +kernel
theorem d17_32 : decode jdk_52_method_4_code 32 = .ok (.aload_n 0, 1) := by decide +kernel
theorem d17_33 : decode jdk_52_method_4_code 33 = .ok (.iload_n 1, 1) := by decide +kernel
theorem d17_34 : decode jdk_52_method_4_code 34 = .ok (.iinc 1 1, 3) := by decide +kernel
theorem d17_37 : decode jdk_52_method_4_code 37 = .ok (.iload_n 2, 1) := by decide +kernel
theorem d17_38 : decode jdk_52_method_4_code 38 = .ok (.getstatic 59, 3) := by decide +kernel
theorem d17_41 : decode jdk_52_method_4_code 41 = .ok (.ishr, 1) := by decide +kernel
theorem d17_42 : decode jdk_52_method_4_code 42 = .ok (.i2b, 1) := by decide +kernel
theorem d17_43 : decode jdk_52_method_4_code 43 = .ok (.bastore, 1) := by decide +kernel
theorem d17_44 : decode jdk_52_method_4_code 44 = .ok (.aload_n 0, 1) := by decide +kernel
theorem d17_45 : decode jdk_52_method_4_code 45 = .ok (.iload_n 1, 1) := by decide +kernel
theorem d17_46 : decode jdk_52_method_4_code 46 = .ok (.iload_n 2, 1) := by decide +kernel
theorem d17_47 : decode jdk_52_method_4_code 47 = .ok (.getstatic 63, 3) := by decide +kernel
theorem d17_50 : decode jdk_52_method_4_code 50 = .ok (.ishr, 1) := by decide +kernel
theorem d17_51 : decode jdk_52_method_4_code 51 = .ok (.i2b, 1) := by decide +kernel
theorem d17_52 : decode jdk_52_method_4_code 52 = .ok (.bastore, 1) := by decide +kernel
theorem d17_53 : decode jdk_52_method_4_code 53 = .ok (.return_, 1) := by decide +kernel
theorem pn_17 : plainName cU6 = true := by first | (simp [plainName, overriddenIn]; done) | decide +kernel
theorem ef_17 (m : MethodId) (x0 : Addr) (x1 : Int32) (x2 : Int32) : entryFrame m #[(.ref x0), (.int x1), (.int x2)] 3 = mkF m 0 #[.val (.ref x0), .val (.int x1), .val (.int x2)] [] := by first | (simp [entryFrame, mkF, argsToLocals, Value.category]; done) | rfl
def Q_rmPu10 (Z : State) (b_ : Addr) (i : Int32) (v : Int32) (w0_ : Int32) (w1_ : Int32) (h0 : Heap) (n0 : Nat) (vQ : Option Value) (hQ : Heap) (LQ : List Loc) : Prop := vQ = none ∧ Fr n0 LQ ∧ Keep h0 hQ [b_] ∧ Ia Z hQ b_ .byte [(loF v), (hiF v)]
set_option maxRecDepth 65536 in
set_option maxHeartbeats 40000000 in
theorem rmPu10 (l : Launch) (Z : State) (a0 : Array Value) (hw : ∀ d ∈ tables_1, d.before a0 Z = true) (ws : List Jvm.Cond) (b_ : Addr) (i : Int32) (v : Int32) (w0_ : Int32) (w1_ : Int32) (h0 : Heap) (n0 : Nat) (Z0 : n0 ≤ h0.size) (P0 : Ia Z h0 b_ .byte [w0_, w1_]) (P1 : Old Z n0 h0) (zAD : Sta Z Z.heap cU6 "$assertionsDisabled" "Z" (.int (1 : Int32))) (zHI : Sta Z Z.heap cU6 "HI_BYTE_SHIFT" "I" (.int (0 : Int32))) (zLO : Sta Z Z.heap cU6 "LO_BYTE_SHIFT" "I" (.int (8 : Int32))) (g_b_ : n0 ≤ b_) (hi : i = 0) :
    MetFree l (⟨cU6, "putChar", "([BII)V"⟩ : MethodName) (head1 (Jvm.Cond.code (⟨cU6, "putChar", "([BII)V"⟩ : MethodName) jdk_52_method_4_code 3 none :: ws) ({ frames := 0, cells := 0, slots := 0, locals := 0 } : Room)) (fun aQ UQ => aQ = #[(.ref b_), (.int i), (.int v)] ∧ Z.Warmed39 UQ.vm ∧ UQ.heap = h0) (fun _ _ _ _ _ => True) (fun _ UQ oQ UR => ∃ vQ LQ, oQ = .returned vQ ∧ Q_rmPu10 Z b_ i v w0_ w1_ h0 n0 vQ UR.heap LQ ∧ FrameEnd UQ oQ UR LQ ({ frames := 0, cells := 0, slots := 0, locals := 0 } : Room).cells ({ frames := 0, cells := 0, slots := 0, locals := 0 } : Room).slots) := by
  refine MetFree.of_bodySF (plainFor_of_name pn_17) hisR ?_
  intro p e s m args below meth c s₁ Bd hml0 hP hK
  obtain ⟨rfl, hZ, hh⟩ := hP
  have hx := Bd.exec
  have hby := Bd.bytes
  have hlk := Bd.notSynchronized
  have hml : c.maxLocals = 3 := hml0
  have hown : s.vm.findClass cU6 = some m.cls := findClass_of_methodNamed Bd.named
  have hnm := (name_of_methodNamed Bd.named Bd.method).1
  have X0 : Stand p l e ({ frames := 0, cells := 0, slots := 0, locals := 0 } : Room) s m #[(.ref b_), (.int i), (.int v)] below meth c s₁ [] 0 0 := Stand.of_body Bd
  have e0 : s₁.heap = h0 := by rw [← hh, Bd.state]; rfl
  have N0 := Fr.nil n0
  show Go p e below _ (Done s (Q_rmPu10 Z b_ i v w0_ w1_ h0 n0) ({ frames := 0, cells := 0, slots := 0, locals := 0 } : Room).cells ({ frames := 0, cells := 0, slots := 0, locals := 0 } : Room).slots)
  refine Go.via (fun tQ kQ => castTop (ef_17 m b_ i v) kQ) ?_
  show Go p e below (s₁.setTop (mkF m 0 #[vr b_, vi i, vi v] [])) _
  · subst hi
    show Go p e below (s₁.setTop (mkF m 0 #[vr b_, vi (0 : Int32), vi v] [])) _
    have f45 : Sta Z h0 cU6 "$assertionsDisabled" "Z" (.int (1 : Int32)) := zAD.ext P1.2
    obtain ⟨T46, X46, e46, st46⟩ := getS2 X0 hx hZ hown (host := "") (Or.inl (tw hw 84 rfl)) Via.refl e0 f45 (g := (mkF m 0 #[vr b_, vi (0 : Int32), vi v] [])) rfl (hb hby d17_0)
    refine Go.via (st46) ?_
    clear st46
    clear X0 e0
    show Go p e below (T46.setTop (mkF m 3 #[vr b_, vi (0 : Int32), vi v] [(.int (1 : Int32))])) _
    refine Go.via (fun _ => XS.ifYes X46.here hx rfl (pc0 := 3) (pc' := 28) rfl (hb hby d17_3) rfl ((if0 _ _).trans (feq ((by decide) : ¬ ((1 : Int32) = (0 : Int32)))).2) (by decide) (by decide)) ?_
    refine Go.via (fun _ => XS.iloadN X46.here hx rfl (hb hby d17_28) rfl) ?_
    refine Go.via (fun _ => XS.iconst X46.here hx rfl (hb hby d17_29)) ?_
    refine Go.via (fun _ => XS.ishl X46.here hx rfl (hb hby d17_30) rfl) ?_
    refine Go.via (fun _ => XS.istoreN X46.here hx rfl (hb hby d17_31) rfl (l' := #[vr b_, vi (0 : Int32), vi v]) rfl) ?_
    refine Go.via (fun _ => XS.aloadN X46.here hx rfl (hb hby d17_32) rfl rfl) ?_
    refine Go.via (fun _ => XS.iloadN X46.here hx rfl (hb hby d17_33) rfl) ?_
    show Go p e below (T46.setTop (mkF m 34 #[vr b_, vi (0 : Int32), vi v] [(.int (0 : Int32)), (.ref b_)])) _
    refine Go.via (fun _ => XS.iinc X46.here hx rfl (hb hby d17_34) rfl (l' := #[vr b_, vi (1 : Int32), vi v]) rfl) ?_
    refine Go.via (fun _ => XS.iloadN X46.here hx rfl (hb hby d17_37) rfl) ?_
    have f47 : Sta Z h0 cU6 "HI_BYTE_SHIFT" "I" (.int (0 : Int32)) := zHI.ext P1.2
    obtain ⟨T48, X48, e48, st48⟩ := getS2 X46 hx hZ hown (host := "") (Or.inl (tw hw 85 rfl)) Via.refl e46 f47 (g := (mkF m 38 #[vr b_, vi (1 : Int32), vi v] [(.int v), (.int (0 : Int32)), (.ref b_)])) rfl (hb hby d17_38)
    refine Go.via (st48) ?_
    clear st48
    clear X46 e46
    show Go p e below (T48.setTop (mkF m 41 #[vr b_, vi (1 : Int32), vi v] [(.int (0 : Int32)), (.int v), (.int (0 : Int32)), (.ref b_)])) _
    refine Go.via (fun _ => XS.ishr X48.here hx rfl (hb hby d17_41) rfl) ?_
    refine Go.via (fun _ => XS.i2b X48.here hx rfl (hb hby d17_42) rfl) ?_
    obtain ⟨T49, h49, X49, e49, W49, V49, st49⟩ := stB' X48 hx hZ e48 P0 (j := (0 : Int32)) (by decide) (by first | decide | (simp only [List.length_cons, List.length_nil]; decide) | rfl) (g := (mkF m 43 #[vr b_, vi (1 : Int32), vi v] [(.int ((v >>> ((0 : Int32) &&& 31)).toInt8.toInt32)), (.int (0 : Int32)), (.ref b_)])) rfl rfl (hb hby d17_43)
    refine Go.via (st49) ?_
    clear st49
    have N49 := Fr.snoc X49 N0 g_b_
    have f50 : Ia Z h49 b_ .byte [(nar .byte ((v >>> ((0 : Int32) &&& 31)).toInt8.toInt32)), w1_] := V49
    clear X48 e48
    show Go p e below (T49.setTop (mkF m 44 #[vr b_, vi (1 : Int32), vi v] [])) _
    refine Go.via (fun _ => XS.aloadN X49.here hx rfl (hb hby d17_44) rfl rfl) ?_
    refine Go.via (fun _ => XS.iloadN X49.here hx rfl (hb hby d17_45) rfl) ?_
    refine Go.via (fun _ => XS.iloadN X49.here hx rfl (hb hby d17_46) rfl) ?_
    have o51 : Old Z n0 h49 := (P1.wr W49 g_b_)
    have f52 : Sta Z h49 cU6 "LO_BYTE_SHIFT" "I" (.int (8 : Int32)) := zLO.ext o51.2
    obtain ⟨T53, X53, e53, st53⟩ := getS2 X49 hx hZ hown (host := "") (Or.inl (tw hw 86 rfl)) Via.refl e49 f52 (g := (mkF m 47 #[vr b_, vi (1 : Int32), vi v] [(.int v), (.int (1 : Int32)), (.ref b_)])) rfl (hb hby d17_47)
    refine Go.via (st53) ?_
    clear st53
    clear X49 e49
    show Go p e below (T53.setTop (mkF m 50 #[vr b_, vi (1 : Int32), vi v] [(.int (8 : Int32)), (.int v), (.int (1 : Int32)), (.ref b_)])) _
    refine Go.via (fun _ => XS.ishr X53.here hx rfl (hb hby d17_50) rfl) ?_
    refine Go.via (fun _ => XS.i2b X53.here hx rfl (hb hby d17_51) rfl) ?_
    obtain ⟨T54, h54, X54, e54, W54, V54, st54⟩ := stB' X53 hx hZ e53 f50 (j := (1 : Int32)) (by decide) (by first | decide | (simp only [List.length_cons, List.length_nil]; decide) | rfl) (g := (mkF m 52 #[vr b_, vi (1 : Int32), vi v] [(.int ((v >>> ((8 : Int32) &&& 31)).toInt8.toInt32)), (.int (1 : Int32)), (.ref b_)])) rfl rfl (hb hby d17_52)
    refine Go.via (st54) ?_
    clear st54
    have N54 := Fr.snoc X54 N49 g_b_
    have f55 : Ia Z h54 b_ .byte [(nar .byte ((v >>> ((0 : Int32) &&& 31)).toInt8.toInt32)), (nar .byte ((v >>> ((8 : Int32) &&& 31)).toInt8.toInt32))] := V54
    clear X53 e53
    show Go p e below (T54.setTop (mkF m 53 #[vr b_, vi (1 : Int32), vi v] [])) _
    have k56 : Keep h0 h54 [b_] := (((Keep.refl h0 [b_]).wr W49 (Or.inl (List.mem_of_getElem? (i := 0) rfl))).wr W54 (Or.inl (List.mem_of_getElem? (i := 0) rfl)))
    exact Go.fin X54 hlk (v := none) (fun _ => rfl) (fun fs hr => X54.returnOut hx Bd.returns (hb hby d17_53) hr) (by rw [e54]; exact ⟨rfl, N54, k56, f55⟩) (by decide) (by decide)
theorem d18_0 : decode jdk_52_method_5_code 0 = .ok (.getstatic 44, 3) := by decide +kernel
theorem d18_3 : decode jdk_52_method_5_code 3 = .ok (.ifCond .ne 25, 3) := by decide +kernel
theorem d18_28 : decode jdk_52_method_5_code 28 = .ok (.iload_n 1, 1) := by decide +kernel
theorem d18_29 : decode jdk_52_method_5_code 29 = .ok (.iconst 1, 1) := by decide +kernel
theorem d18_30 : decode jdk_52_method_5_code 30 = .ok (.ishl, 1) := by decide +kernel
theorem d18_31 : decode jdk_52_method_5_code 31 = .ok (.istore_n 1, 1) := by decide +kernel
theorem d18_32 : decode jdk_52_method_5_code 32 = .ok (.aload_n 0, 1) := by decide +kernel
theorem d18_33 : decode jdk_52_method_5_code 33 = .ok (.iload_n 1, 1) := by decide +kernel
theorem d18_34 : decode jdk_52_method_5_code 34 = .ok (.iinc 1 1, 3) := by decide +kernel
theorem d18_37 : decode jdk_52_method_5_code 37 = .ok (.baload, 1) := by decide +kernel
theorem d18_38 : decode jdk_52_method_5_code 38 = .ok (.sipush 255, 3) := by decide +kernel
theorem d18_41 : decode jdk_52_method_5_code 41 = .ok (.iand, 1) := by decide +kernel
theorem d18_42 : decode jdk_52_method_5_code 42 = .ok (.getstatic 59, 3) := by decide +kernel
theorem d18_45 : decode jdk_52_method_5_code 45 = .ok (.ishl, 1) := by decide +kernel
theorem d18_46 : decode jdk_52_method_5_code 46 = .ok (.aload_n 0, 1) := by decide +kernel
theorem d18_47 : decode jdk_52_method_5_code 47 = .ok (.iload_n 1, 1) := by decide +kernel
theorem d18_48 : decode jdk_52_method_5_code 48 = .ok (.baload, 1) := by decide +kernel
theorem d18_49 : decode jdk_52_method_5_code 49 = .ok (.sipush 255, 3) := by decide +kernel
theorem d18_52 : decode jdk_52_method_5_code 52 = .ok (.iand, 1) := by decide +kernel
theorem d18_53 : decode jdk_52_method_5_code 53 = .ok (.getstatic 63, 3) := by decide +kernel
theorem d18_56 : decode jdk_52_method_5_code 56 = .ok (.ishl, 1) := by decide +kernel
theorem d18_57 : decode jdk_52_method_5_code 57 = .ok (.ior, 1) := by decide +kernel
theorem d18_58 : decode jdk_52_method_5_code 58 = .ok (.i2c, 1) := by decide +kernel
theorem d18_59 : decode jdk_52_method_5_code 59 = .ok (.ireturn, 1) := by decide +kernel
theorem pn_18 : plainName cU6 = true := by first | (simp [plainName, overriddenIn]; done) | decide +kernel
theorem ef_18 (m : MethodId) (x0 : Addr) (x1 : Int32) : entryFrame m #[(.ref x0), (.int x1)] 2 = mkF m 0 #[.val (.ref x0), .val (.int x1)] [] := by first | (simp [entryFrame, mkF, argsToLocals, Value.category]; done) | rfl
def Q_rmGe10 (Z : State) (b_ : Addr) (i : Int32) (w0_ : Int32) (w1_ : Int32) (v : Int32) (h0 : Heap) (n0 : Nat) (vQ : Option Value) (hQ : Heap) (LQ : List Loc) : Prop := vQ = some (.int v) ∧ LQ = [] ∧ hQ = h0
set_option maxRecDepth 65536 in
set_option maxHeartbeats 40000000 in
theorem rmGe10 (l : Launch) (Z : State) (a0 : Array Value) (hw : ∀ d ∈ tables_1, d.before a0 Z = true) (ws : List Jvm.Cond) (b_ : Addr) (i : Int32) (w0_ : Int32) (w1_ : Int32) (v : Int32) (h0 : Heap) (n0 : Nat) (Z0 : n0 ≤ h0.size) (P0 : Ia Z h0 b_ .byte [w0_, w1_]) (P1 : Old Z n0 h0) (zAD : Sta Z Z.heap cU6 "$assertionsDisabled" "Z" (.int (1 : Int32))) (zHI : Sta Z Z.heap cU6 "HI_BYTE_SHIFT" "I" (.int (0 : Int32))) (zLO : Sta Z Z.heap cU6 "LO_BYTE_SHIFT" "I" (.int (8 : Int32))) (hi : i = 0) (hg : (gcF w0_ w1_) = v) :
    MetFree l (⟨cU6, "getChar", "([BI)C"⟩ : MethodName) (head1 (Jvm.Cond.code (⟨cU6, "getChar", "([BI)C"⟩ : MethodName) jdk_52_method_5_code 2 (some .char) :: ws) ({ frames := 0, cells := 0, slots := 0, locals := 0 } : Room)) (fun aQ UQ => aQ = #[(.ref b_), (.int i)] ∧ Z.Warmed39 UQ.vm ∧ UQ.heap = h0) (fun _ _ _ _ _ => True) (fun _ UQ oQ UR => ∃ vQ LQ, oQ = .returned vQ ∧ Q_rmGe10 Z b_ i w0_ w1_ v h0 n0 vQ UR.heap LQ ∧ FrameEnd UQ oQ UR LQ ({ frames := 0, cells := 0, slots := 0, locals := 0 } : Room).cells ({ frames := 0, cells := 0, slots := 0, locals := 0 } : Room).slots) := by
  refine MetFree.of_bodySF (plainFor_of_name pn_18) hisR ?_
  intro p e s m args below meth c s₁ Bd hml0 hP hK
  obtain ⟨rfl, hZ, hh⟩ := hP
  have hx := Bd.exec
  have hby := Bd.bytes
  have hlk := Bd.notSynchronized
  have hml : c.maxLocals = 2 := hml0
  have hown : s.vm.findClass cU6 = some m.cls := findClass_of_methodNamed Bd.named
  have hnm := (name_of_methodNamed Bd.named Bd.method).1
  have X0 : Stand p l e ({ frames := 0, cells := 0, slots := 0, locals := 0 } : Room) s m #[(.ref b_), (.int i)] below meth c s₁ [] 0 0 := Stand.of_body Bd
  have e0 : s₁.heap = h0 := by rw [← hh, Bd.state]; rfl
  have N0 := Fr.nil n0
  show Go p e below _ (Done s (Q_rmGe10 Z b_ i w0_ w1_ v h0 n0) ({ frames := 0, cells := 0, slots := 0, locals := 0 } : Room).cells ({ frames := 0, cells := 0, slots := 0, locals := 0 } : Room).slots)
  refine Go.via (fun tQ kQ => castTop (ef_18 m b_ i) kQ) ?_
  show Go p e below (s₁.setTop (mkF m 0 #[vr b_, vi i] [])) _
  · subst hi
    show Go p e below (s₁.setTop (mkF m 0 #[vr b_, vi (0 : Int32)] [])) _
    have f57 : Sta Z h0 cU6 "$assertionsDisabled" "Z" (.int (1 : Int32)) := zAD.ext P1.2
    obtain ⟨T58, X58, e58, st58⟩ := getS2 X0 hx hZ hown (host := "") (Or.inl (tw hw 84 rfl)) Via.refl e0 f57 (g := (mkF m 0 #[vr b_, vi (0 : Int32)] [])) rfl (hb hby d18_0)
    refine Go.via (st58) ?_
    clear st58
    clear X0 e0
    show Go p e below (T58.setTop (mkF m 3 #[vr b_, vi (0 : Int32)] [(.int (1 : Int32))])) _
    refine Go.via (fun _ => XS.ifYes X58.here hx rfl (pc0 := 3) (pc' := 28) rfl (hb hby d18_3) rfl ((if0 _ _).trans (feq ((by decide) : ¬ ((1 : Int32) = (0 : Int32)))).2) (by decide) (by decide)) ?_
    refine Go.via (fun _ => XS.iloadN X58.here hx rfl (hb hby d18_28) rfl) ?_
    refine Go.via (fun _ => XS.iconst X58.here hx rfl (hb hby d18_29)) ?_
    refine Go.via (fun _ => XS.ishl X58.here hx rfl (hb hby d18_30) rfl) ?_
    refine Go.via (fun _ => XS.istoreN X58.here hx rfl (hb hby d18_31) rfl (l' := #[vr b_, vi (0 : Int32)]) rfl) ?_
    refine Go.via (fun _ => XS.aloadN X58.here hx rfl (hb hby d18_32) rfl rfl) ?_
    refine Go.via (fun _ => XS.iloadN X58.here hx rfl (hb hby d18_33) rfl) ?_
    show Go p e below (T58.setTop (mkF m 34 #[vr b_, vi (0 : Int32)] [(.int (0 : Int32)), (.ref b_)])) _
    refine Go.via (fun _ => XS.iinc X58.here hx rfl (hb hby d18_34) rfl (l' := #[vr b_, vi (1 : Int32)]) rfl) ?_
    refine Go.via (ldB X58 hx hZ e58 P0 (v := w0_) (by decide) rfl (g := (mkF m 37 #[vr b_, vi (1 : Int32)] [(.int (0 : Int32)), (.ref b_)])) rfl rfl (hb hby d18_37)) ?_
    show Go p e below (T58.setTop (mkF m 38 #[vr b_, vi (1 : Int32)] [(.int w0_)])) _
    refine Go.via (fun _ => XS.sipush X58.here hx rfl (hb hby d18_38)) ?_
    refine Go.via (fun _ => XS.iand X58.here hx rfl (hb hby d18_41) rfl) ?_
    have f59 : Sta Z h0 cU6 "HI_BYTE_SHIFT" "I" (.int (0 : Int32)) := zHI.ext P1.2
    obtain ⟨T60, X60, e60, st60⟩ := getS2 X58 hx hZ hown (host := "") (Or.inl (tw hw 85 rfl)) Via.refl e58 f59 (g := (mkF m 42 #[vr b_, vi (1 : Int32)] [(.int (w0_ &&& (255 : Int32)))])) rfl (hb hby d18_42)
    refine Go.via (st60) ?_
    clear st60
    clear X58 e58
    show Go p e below (T60.setTop (mkF m 45 #[vr b_, vi (1 : Int32)] [(.int (0 : Int32)), (.int (w0_ &&& (255 : Int32)))])) _
    refine Go.via (fun _ => XS.ishl X60.here hx rfl (hb hby d18_45) rfl) ?_
    refine Go.via (fun _ => XS.aloadN X60.here hx rfl (hb hby d18_46) rfl rfl) ?_
    refine Go.via (fun _ => XS.iloadN X60.here hx rfl (hb hby d18_47) rfl) ?_
    refine Go.via (ldB X60 hx hZ e60 P0 (v := w1_) (by decide) rfl (g := (mkF m 48 #[vr b_, vi (1 : Int32)] [(.int (1 : Int32)), (.ref b_), (.int ((w0_ &&& (255 : Int32)) <<< ((0 : Int32) &&& 31)))])) rfl rfl (hb hby d18_48)) ?_
    show Go p e below (T60.setTop (mkF m 49 #[vr b_, vi (1 : Int32)] [(.int w1_), (.int ((w0_ &&& (255 : Int32)) <<< ((0 : Int32) &&& 31)))])) _
    refine Go.via (fun _ => XS.sipush X60.here hx rfl (hb hby d18_49)) ?_
    refine Go.via (fun _ => XS.iand X60.here hx rfl (hb hby d18_52) rfl) ?_
    have f61 : Sta Z h0 cU6 "LO_BYTE_SHIFT" "I" (.int (8 : Int32)) := zLO.ext P1.2
    obtain ⟨T62, X62, e62, st62⟩ := getS2 X60 hx hZ hown (host := "") (Or.inl (tw hw 86 rfl)) Via.refl e60 f61 (g := (mkF m 53 #[vr b_, vi (1 : Int32)] [(.int (w1_ &&& (255 : Int32))), (.int ((w0_ &&& (255 : Int32)) <<< ((0 : Int32) &&& 31)))])) rfl (hb hby d18_53)
    refine Go.via (st62) ?_
    clear st62
    clear X60 e60
    show Go p e below (T62.setTop (mkF m 56 #[vr b_, vi (1 : Int32)] [(.int (8 : Int32)), (.int (w1_ &&& (255 : Int32))), (.int ((w0_ &&& (255 : Int32)) <<< ((0 : Int32) &&& 31)))])) _
    refine Go.via (fun _ => XS.ishl X62.here hx rfl (hb hby d18_56) rfl) ?_
    refine Go.via (fun _ => XS.ior X62.here hx rfl (hb hby d18_57) rfl) ?_
    refine Go.via (fun _ => XS.i2c X62.here hx rfl (hb hby d18_58) rfl) ?_
    exact Go.fin X62 hlk (v := some (.int (nar .char ((((w0_ &&& (255 : Int32)) <<< ((0 : Int32) &&& 31)) ||| ((w1_ &&& (255 : Int32)) <<< ((8 : Int32) &&& 31))).toUInt32.toUInt16.toUInt32.toInt32)))) (fun h => by rw [Bd.returns] at h; cases h) (fun fs hr => retN X62 hx (t := .char) Bd.returns (by simp) (hb hby d18_59) hr) (by rw [e62]; exact ⟨(congrArg (fun qq => some (Value.int qq)) ((nar_c _).trans hg)), rfl, rfl⟩) (by decide) (by decide)
def Q_rmPu20 (Z : State) (b_ : Addr) (i : Int32) (v : Int32) (w0_ : Int32) (w1_ : Int32) (w2_ : Int32) (w3_ : Int32) (h0 : Heap) (n0 : Nat) (vQ : Option Value) (hQ : Heap) (LQ : List Loc) : Prop := vQ = none ∧ Fr n0 LQ ∧ Keep h0 hQ [b_] ∧ Ia Z hQ b_ .byte [(loF v), (hiF v), w2_, w3_]
set_option maxRecDepth 65536 in
set_option maxHeartbeats 40000000 in
theorem rmPu20 (l : Launch) (Z : State) (a0 : Array Value) (hw : ∀ d ∈ tables_1, d.before a0 Z = true) (ws : List Jvm.Cond) (b_ : Addr) (i : Int32) (v : Int32) (w0_ : Int32) (w1_ : Int32) (w2_ : Int32) (w3_ : Int32) (h0 : Heap) (n0 : Nat) (Z0 : n0 ≤ h0.size) (P0 : Ia Z h0 b_ .byte [w0_, w1_, w2_, w3_]) (P1 : Old Z n0 h0) (zAD : Sta Z Z.heap cU6 "$assertionsDisabled" "Z" (.int (1 : Int32))) (zHI : Sta Z Z.heap cU6 "HI_BYTE_SHIFT" "I" (.int (0 : Int32))) (zLO : Sta Z Z.heap cU6 "LO_BYTE_SHIFT" "I" (.int (8 : Int32))) (g_b_ : n0 ≤ b_) (hi : i = 0) :
    MetFree l (⟨cU6, "putChar", "([BII)V"⟩ : MethodName) (head1 (Jvm.Cond.code (⟨cU6, "putChar", "([BII)V"⟩ : MethodName) jdk_52_method_4_code 3 none :: ws) ({ frames := 0, cells := 0, slots := 0, locals := 0 } : Room)) (fun aQ UQ => aQ = #[(.ref b_), (.int i), (.int v)] ∧ Z.Warmed39 UQ.vm ∧ UQ.heap = h0) (fun _ _ _ _ _ => True) (fun _ UQ oQ UR => ∃ vQ LQ, oQ = .returned vQ ∧ Q_rmPu20 Z b_ i v w0_ w1_ w2_ w3_ h0 n0 vQ UR.heap LQ ∧ FrameEnd UQ oQ UR LQ ({ frames := 0, cells := 0, slots := 0, locals := 0 } : Room).cells ({ frames := 0, cells := 0, slots := 0, locals := 0 } : Room).slots) := by
  refine MetFree.of_bodySF (plainFor_of_name pn_17) hisR ?_
  intro p e s m args below meth c s₁ Bd hml0 hP hK
  obtain ⟨rfl, hZ, hh⟩ := hP
  have hx := Bd.exec
  have hby := Bd.bytes
  have hlk := Bd.notSynchronized
  have hml : c.maxLocals = 3 := hml0
  have hown : s.vm.findClass cU6 = some m.cls := findClass_of_methodNamed Bd.named
  have hnm := (name_of_methodNamed Bd.named Bd.method).1
  have X0 : Stand p l e ({ frames := 0, cells := 0, slots := 0, locals := 0 } : Room) s m #[(.ref b_), (.int i), (.int v)] below meth c s₁ [] 0 0 := Stand.of_body Bd
  have e0 : s₁.heap = h0 := by rw [← hh, Bd.state]; rfl
  have N0 := Fr.nil n0
  show Go p e below _ (Done s (Q_rmPu20 Z b_ i v w0_ w1_ w2_ w3_ h0 n0) ({ frames := 0, cells := 0, slots := 0, locals := 0 } : Room).cells ({ frames := 0, cells := 0, slots := 0, locals := 0 } : Room).slots)
  refine Go.via (fun tQ kQ => castTop (ef_17 m b_ i v) kQ) ?_
  show Go p e below (s₁.setTop (mkF m 0 #[vr b_, vi i, vi v] [])) _
  · subst hi
    show Go p e below (s₁.setTop (mkF m 0 #[vr b_, vi (0 : Int32), vi v] [])) _
    have f63 : Sta Z h0 cU6 "$assertionsDisabled" "Z" (.int (1 : Int32)) := zAD.ext P1.2
    obtain ⟨T64, X64, e64, st64⟩ := getS2 X0 hx hZ hown (host := "") (Or.inl (tw hw 84 rfl)) Via.refl e0 f63 (g := (mkF m 0 #[vr b_, vi (0 : Int32), vi v] [])) rfl (hb hby d17_0)
    refine Go.via (st64) ?_
    clear st64
    clear X0 e0
    show Go p e below (T64.setTop (mkF m 3 #[vr b_, vi (0 : Int32), vi v] [(.int (1 : Int32))])) _
    refine Go.via (fun _ => XS.ifYes X64.here hx rfl (pc0 := 3) (pc' := 28) rfl (hb hby d17_3) rfl ((if0 _ _).trans (feq ((by decide) : ¬ ((1 : Int32) = (0 : Int32)))).2) (by decide) (by decide)) ?_
    refine Go.via (fun _ => XS.iloadN X64.here hx rfl (hb hby d17_28) rfl) ?_
    refine Go.via (fun _ => XS.iconst X64.here hx rfl (hb hby d17_29)) ?_
    refine Go.via (fun _ => XS.ishl X64.here hx rfl (hb hby d17_30) rfl) ?_
    refine Go.via (fun _ => XS.istoreN X64.here hx rfl (hb hby d17_31) rfl (l' := #[vr b_, vi (0 : Int32), vi v]) rfl) ?_
    refine Go.via (fun _ => XS.aloadN X64.here hx rfl (hb hby d17_32) rfl rfl) ?_
    refine Go.via (fun _ => XS.iloadN X64.here hx rfl (hb hby d17_33) rfl) ?_
    show Go p e below (T64.setTop (mkF m 34 #[vr b_, vi (0 : Int32), vi v] [(.int (0 : Int32)), (.ref b_)])) _
    refine Go.via (fun _ => XS.iinc X64.here hx rfl (hb hby d17_34) rfl (l' := #[vr b_, vi (1 : Int32), vi v]) rfl) ?_
    refine Go.via (fun _ => XS.iloadN X64.here hx rfl (hb hby d17_37) rfl) ?_
    have f65 : Sta Z h0 cU6 "HI_BYTE_SHIFT" "I" (.int (0 : Int32)) := zHI.ext P1.2
    obtain ⟨T66, X66, e66, st66⟩ := getS2 X64 hx hZ hown (host := "") (Or.inl (tw hw 85 rfl)) Via.refl e64 f65 (g := (mkF m 38 #[vr b_, vi (1 : Int32), vi v] [(.int v), (.int (0 : Int32)), (.ref b_)])) rfl (hb hby d17_38)
    refine Go.via (st66) ?_
    clear st66
    clear X64 e64
    show Go p e below (T66.setTop (mkF m 41 #[vr b_, vi (1 : Int32), vi v] [(.int (0 : Int32)), (.int v), (.int (0 : Int32)), (.ref b_)])) _
    refine Go.via (fun _ => XS.ishr X66.here hx rfl (hb hby d17_41) rfl) ?_
    refine Go.via (fun _ => XS.i2b X66.here hx rfl (hb hby d17_42) rfl) ?_
    obtain ⟨T67, h67, X67, e67, W67, V67, st67⟩ := stB' X66 hx hZ e66 P0 (j := (0 : Int32)) (by decide) (by first | decide | (simp only [List.length_cons, List.length_nil]; decide) | rfl) (g := (mkF m 43 #[vr b_, vi (1 : Int32), vi v] [(.int ((v >>> ((0 : Int32) &&& 31)).toInt8.toInt32)), (.int (0 : Int32)), (.ref b_)])) rfl rfl (hb hby d17_43)
    refine Go.via (st67) ?_
    clear st67
    have N67 := Fr.snoc X67 N0 g_b_
    have f68 : Ia Z h67 b_ .byte [(nar .byte ((v >>> ((0 : Int32) &&& 31)).toInt8.toInt32)), w1_, w2_, w3_] := V67
    clear X66 e66
    show Go p e below (T67.setTop (mkF m 44 #[vr b_, vi (1 : Int32), vi v] [])) _
    refine Go.via (fun _ => XS.aloadN X67.here hx rfl (hb hby d17_44) rfl rfl) ?_
    refine Go.via (fun _ => XS.iloadN X67.here hx rfl (hb hby d17_45) rfl) ?_
    refine Go.via (fun _ => XS.iloadN X67.here hx rfl (hb hby d17_46) rfl) ?_
    have o69 : Old Z n0 h67 := (P1.wr W67 g_b_)
    have f70 : Sta Z h67 cU6 "LO_BYTE_SHIFT" "I" (.int (8 : Int32)) := zLO.ext o69.2
    obtain ⟨T71, X71, e71, st71⟩ := getS2 X67 hx hZ hown (host := "") (Or.inl (tw hw 86 rfl)) Via.refl e67 f70 (g := (mkF m 47 #[vr b_, vi (1 : Int32), vi v] [(.int v), (.int (1 : Int32)), (.ref b_)])) rfl (hb hby d17_47)
    refine Go.via (st71) ?_
    clear st71
    clear X67 e67
    show Go p e below (T71.setTop (mkF m 50 #[vr b_, vi (1 : Int32), vi v] [(.int (8 : Int32)), (.int v), (.int (1 : Int32)), (.ref b_)])) _
    refine Go.via (fun _ => XS.ishr X71.here hx rfl (hb hby d17_50) rfl) ?_
    refine Go.via (fun _ => XS.i2b X71.here hx rfl (hb hby d17_51) rfl) ?_
    obtain ⟨T72, h72, X72, e72, W72, V72, st72⟩ := stB' X71 hx hZ e71 f68 (j := (1 : Int32)) (by decide) (by first | decide | (simp only [List.length_cons, List.length_nil]; decide) | rfl) (g := (mkF m 52 #[vr b_, vi (1 : Int32), vi v] [(.int ((v >>> ((8 : Int32) &&& 31)).toInt8.toInt32)), (.int (1 : Int32)), (.ref b_)])) rfl rfl (hb hby d17_52)
    refine Go.via (st72) ?_
    clear st72
    have N72 := Fr.snoc X72 N67 g_b_
    have f73 : Ia Z h72 b_ .byte [(nar .byte ((v >>> ((0 : Int32) &&& 31)).toInt8.toInt32)), (nar .byte ((v >>> ((8 : Int32) &&& 31)).toInt8.toInt32)), w2_, w3_] := V72
    clear X71 e71
    show Go p e below (T72.setTop (mkF m 53 #[vr b_, vi (1 : Int32), vi v] [])) _
    have k74 : Keep h0 h72 [b_] := (((Keep.refl h0 [b_]).wr W67 (Or.inl (List.mem_of_getElem? (i := 0) rfl))).wr W72 (Or.inl (List.mem_of_getElem? (i := 0) rfl)))
    exact Go.fin X72 hlk (v := none) (fun _ => rfl) (fun fs hr => X72.returnOut hx Bd.returns (hb hby d17_53) hr) (by rw [e72]; exact ⟨rfl, N72, k74, f73⟩) (by decide) (by decide)
def Q_rmGe20 (Z : State) (b_ : Addr) (i : Int32) (w0_ : Int32) (w1_ : Int32) (w2_ : Int32) (w3_ : Int32) (v : Int32) (h0 : Heap) (n0 : Nat) (vQ : Option Value) (hQ : Heap) (LQ : List Loc) : Prop := vQ = some (.int v) ∧ LQ = [] ∧ hQ = h0
set_option maxRecDepth 65536 in
set_option maxHeartbeats 40000000 in
theorem rmGe20 (l : Launch) (Z : State) (a0 : Array Value) (hw : ∀ d ∈ tables_1, d.before a0 Z = true) (ws : List Jvm.Cond) (b_ : Addr) (i : Int32) (w0_ : Int32) (w1_ : Int32) (w2_ : Int32) (w3_ : Int32) (v : Int32) (h0 : Heap) (n0 : Nat) (Z0 : n0 ≤ h0.size) (P0 : Ia Z h0 b_ .byte [w0_, w1_, w2_, w3_]) (P1 : Old Z n0 h0) (zAD : Sta Z Z.heap cU6 "$assertionsDisabled" "Z" (.int (1 : Int32))) (zHI : Sta Z Z.heap cU6 "HI_BYTE_SHIFT" "I" (.int (0 : Int32))) (zLO : Sta Z Z.heap cU6 "LO_BYTE_SHIFT" "I" (.int (8 : Int32))) (hi : i = 0) (hg : (gcF w0_ w1_) = v) :
    MetFree l (⟨cU6, "getChar", "([BI)C"⟩ : MethodName) (head1 (Jvm.Cond.code (⟨cU6, "getChar", "([BI)C"⟩ : MethodName) jdk_52_method_5_code 2 (some .char) :: ws) ({ frames := 0, cells := 0, slots := 0, locals := 0 } : Room)) (fun aQ UQ => aQ = #[(.ref b_), (.int i)] ∧ Z.Warmed39 UQ.vm ∧ UQ.heap = h0) (fun _ _ _ _ _ => True) (fun _ UQ oQ UR => ∃ vQ LQ, oQ = .returned vQ ∧ Q_rmGe20 Z b_ i w0_ w1_ w2_ w3_ v h0 n0 vQ UR.heap LQ ∧ FrameEnd UQ oQ UR LQ ({ frames := 0, cells := 0, slots := 0, locals := 0 } : Room).cells ({ frames := 0, cells := 0, slots := 0, locals := 0 } : Room).slots) := by
  refine MetFree.of_bodySF (plainFor_of_name pn_18) hisR ?_
  intro p e s m args below meth c s₁ Bd hml0 hP hK
  obtain ⟨rfl, hZ, hh⟩ := hP
  have hx := Bd.exec
  have hby := Bd.bytes
  have hlk := Bd.notSynchronized
  have hml : c.maxLocals = 2 := hml0
  have hown : s.vm.findClass cU6 = some m.cls := findClass_of_methodNamed Bd.named
  have hnm := (name_of_methodNamed Bd.named Bd.method).1
  have X0 : Stand p l e ({ frames := 0, cells := 0, slots := 0, locals := 0 } : Room) s m #[(.ref b_), (.int i)] below meth c s₁ [] 0 0 := Stand.of_body Bd
  have e0 : s₁.heap = h0 := by rw [← hh, Bd.state]; rfl
  have N0 := Fr.nil n0
  show Go p e below _ (Done s (Q_rmGe20 Z b_ i w0_ w1_ w2_ w3_ v h0 n0) ({ frames := 0, cells := 0, slots := 0, locals := 0 } : Room).cells ({ frames := 0, cells := 0, slots := 0, locals := 0 } : Room).slots)
  refine Go.via (fun tQ kQ => castTop (ef_18 m b_ i) kQ) ?_
  show Go p e below (s₁.setTop (mkF m 0 #[vr b_, vi i] [])) _
  · subst hi
    show Go p e below (s₁.setTop (mkF m 0 #[vr b_, vi (0 : Int32)] [])) _
    have f75 : Sta Z h0 cU6 "$assertionsDisabled" "Z" (.int (1 : Int32)) := zAD.ext P1.2
    obtain ⟨T76, X76, e76, st76⟩ := getS2 X0 hx hZ hown (host := "") (Or.inl (tw hw 84 rfl)) Via.refl e0 f75 (g := (mkF m 0 #[vr b_, vi (0 : Int32)] [])) rfl (hb hby d18_0)
    refine Go.via (st76) ?_
    clear st76
    clear X0 e0
    show Go p e below (T76.setTop (mkF m 3 #[vr b_, vi (0 : Int32)] [(.int (1 : Int32))])) _
    refine Go.via (fun _ => XS.ifYes X76.here hx rfl (pc0 := 3) (pc' := 28) rfl (hb hby d18_3) rfl ((if0 _ _).trans (feq ((by decide) : ¬ ((1 : Int32) = (0 : Int32)))).2) (by decide) (by decide)) ?_
    refine Go.via (fun _ => XS.iloadN X76.here hx rfl (hb hby d18_28) rfl) ?_
    refine Go.via (fun _ => XS.iconst X76.here hx rfl (hb hby d18_29)) ?_
    refine Go.via (fun _ => XS.ishl X76.here hx rfl (hb hby d18_30) rfl) ?_
    refine Go.via (fun _ => XS.istoreN X76.here hx rfl (hb hby d18_31) rfl (l' := #[vr b_, vi (0 : Int32)]) rfl) ?_
    refine Go.via (fun _ => XS.aloadN X76.here hx rfl (hb hby d18_32) rfl rfl) ?_
    refine Go.via (fun _ => XS.iloadN X76.here hx rfl (hb hby d18_33) rfl) ?_
    show Go p e below (T76.setTop (mkF m 34 #[vr b_, vi (0 : Int32)] [(.int (0 : Int32)), (.ref b_)])) _
    refine Go.via (fun _ => XS.iinc X76.here hx rfl (hb hby d18_34) rfl (l' := #[vr b_, vi (1 : Int32)]) rfl) ?_
    refine Go.via (ldB X76 hx hZ e76 P0 (v := w0_) (by decide) rfl (g := (mkF m 37 #[vr b_, vi (1 : Int32)] [(.int (0 : Int32)), (.ref b_)])) rfl rfl (hb hby d18_37)) ?_
    show Go p e below (T76.setTop (mkF m 38 #[vr b_, vi (1 : Int32)] [(.int w0_)])) _
    refine Go.via (fun _ => XS.sipush X76.here hx rfl (hb hby d18_38)) ?_
    refine Go.via (fun _ => XS.iand X76.here hx rfl (hb hby d18_41) rfl) ?_
    have f77 : Sta Z h0 cU6 "HI_BYTE_SHIFT" "I" (.int (0 : Int32)) := zHI.ext P1.2
    obtain ⟨T78, X78, e78, st78⟩ := getS2 X76 hx hZ hown (host := "") (Or.inl (tw hw 85 rfl)) Via.refl e76 f77 (g := (mkF m 42 #[vr b_, vi (1 : Int32)] [(.int (w0_ &&& (255 : Int32)))])) rfl (hb hby d18_42)
    refine Go.via (st78) ?_
    clear st78
    clear X76 e76
    show Go p e below (T78.setTop (mkF m 45 #[vr b_, vi (1 : Int32)] [(.int (0 : Int32)), (.int (w0_ &&& (255 : Int32)))])) _
    refine Go.via (fun _ => XS.ishl X78.here hx rfl (hb hby d18_45) rfl) ?_
    refine Go.via (fun _ => XS.aloadN X78.here hx rfl (hb hby d18_46) rfl rfl) ?_
    refine Go.via (fun _ => XS.iloadN X78.here hx rfl (hb hby d18_47) rfl) ?_
    refine Go.via (ldB X78 hx hZ e78 P0 (v := w1_) (by decide) rfl (g := (mkF m 48 #[vr b_, vi (1 : Int32)] [(.int (1 : Int32)), (.ref b_), (.int ((w0_ &&& (255 : Int32)) <<< ((0 : Int32) &&& 31)))])) rfl rfl (hb hby d18_48)) ?_
    show Go p e below (T78.setTop (mkF m 49 #[vr b_, vi (1 : Int32)] [(.int w1_), (.int ((w0_ &&& (255 : Int32)) <<< ((0 : Int32) &&& 31)))])) _
    refine Go.via (fun _ => XS.sipush X78.here hx rfl (hb hby d18_49)) ?_
    refine Go.via (fun _ => XS.iand X78.here hx rfl (hb hby d18_52) rfl) ?_
    have f79 : Sta Z h0 cU6 "LO_BYTE_SHIFT" "I" (.int (8 : Int32)) := zLO.ext P1.2
    obtain ⟨T80, X80, e80, st80⟩ := getS2 X78 hx hZ hown (host := "") (Or.inl (tw hw 86 rfl)) Via.refl e78 f79 (g := (mkF m 53 #[vr b_, vi (1 : Int32)] [(.int (w1_ &&& (255 : Int32))), (.int ((w0_ &&& (255 : Int32)) <<< ((0 : Int32) &&& 31)))])) rfl (hb hby d18_53)
    refine Go.via (st80) ?_
    clear st80
    clear X78 e78
    show Go p e below (T80.setTop (mkF m 56 #[vr b_, vi (1 : Int32)] [(.int (8 : Int32)), (.int (w1_ &&& (255 : Int32))), (.int ((w0_ &&& (255 : Int32)) <<< ((0 : Int32) &&& 31)))])) _
    refine Go.via (fun _ => XS.ishl X80.here hx rfl (hb hby d18_56) rfl) ?_
    refine Go.via (fun _ => XS.ior X80.here hx rfl (hb hby d18_57) rfl) ?_
    refine Go.via (fun _ => XS.i2c X80.here hx rfl (hb hby d18_58) rfl) ?_
    exact Go.fin X80 hlk (v := some (.int (nar .char ((((w0_ &&& (255 : Int32)) <<< ((0 : Int32) &&& 31)) ||| ((w1_ &&& (255 : Int32)) <<< ((8 : Int32) &&& 31))).toUInt32.toUInt16.toUInt32.toInt32)))) (fun h => by rw [Bd.returns] at h; cases h) (fun fs hr => retN X80 hx (t := .char) Bd.returns (by simp) (hb hby d18_59) hr) (by rw [e80]; exact ⟨(congrArg (fun qq => some (Value.int qq)) ((nar_c _).trans hg)), rfl, rfl⟩) (by decide) (by decide)
def Q_rmPu21 (Z : State) (b_ : Addr) (i : Int32) (v : Int32) (w0_ : Int32) (w1_ : Int32) (w2_ : Int32) (w3_ : Int32) (h0 : Heap) (n0 : Nat) (vQ : Option Value) (hQ : Heap) (LQ : List Loc) : Prop := vQ = none ∧ Fr n0 LQ ∧ Keep h0 hQ [b_] ∧ Ia Z hQ b_ .byte [w0_, w1_, (loF v), (hiF v)]
set_option maxRecDepth 65536 in
set_option maxHeartbeats 40000000 in
theorem rmPu21 (l : Launch) (Z : State) (a0 : Array Value) (hw : ∀ d ∈ tables_1, d.before a0 Z = true) (ws : List Jvm.Cond) (b_ : Addr) (i : Int32) (v : Int32) (w0_ : Int32) (w1_ : Int32) (w2_ : Int32) (w3_ : Int32) (h0 : Heap) (n0 : Nat) (Z0 : n0 ≤ h0.size) (P0 : Ia Z h0 b_ .byte [w0_, w1_, w2_, w3_]) (P1 : Old Z n0 h0) (zAD : Sta Z Z.heap cU6 "$assertionsDisabled" "Z" (.int (1 : Int32))) (zHI : Sta Z Z.heap cU6 "HI_BYTE_SHIFT" "I" (.int (0 : Int32))) (zLO : Sta Z Z.heap cU6 "LO_BYTE_SHIFT" "I" (.int (8 : Int32))) (g_b_ : n0 ≤ b_) (hi : i = 1) :
    MetFree l (⟨cU6, "putChar", "([BII)V"⟩ : MethodName) (head1 (Jvm.Cond.code (⟨cU6, "putChar", "([BII)V"⟩ : MethodName) jdk_52_method_4_code 3 none :: ws) ({ frames := 0, cells := 0, slots := 0, locals := 0 } : Room)) (fun aQ UQ => aQ = #[(.ref b_), (.int i), (.int v)] ∧ Z.Warmed39 UQ.vm ∧ UQ.heap = h0) (fun _ _ _ _ _ => True) (fun _ UQ oQ UR => ∃ vQ LQ, oQ = .returned vQ ∧ Q_rmPu21 Z b_ i v w0_ w1_ w2_ w3_ h0 n0 vQ UR.heap LQ ∧ FrameEnd UQ oQ UR LQ ({ frames := 0, cells := 0, slots := 0, locals := 0 } : Room).cells ({ frames := 0, cells := 0, slots := 0, locals := 0 } : Room).slots) := by
  refine MetFree.of_bodySF (plainFor_of_name pn_17) hisR ?_
  intro p e s m args below meth c s₁ Bd hml0 hP hK
  obtain ⟨rfl, hZ, hh⟩ := hP
  have hx := Bd.exec
  have hby := Bd.bytes
  have hlk := Bd.notSynchronized
  have hml : c.maxLocals = 3 := hml0
  have hown : s.vm.findClass cU6 = some m.cls := findClass_of_methodNamed Bd.named
  have hnm := (name_of_methodNamed Bd.named Bd.method).1
  have X0 : Stand p l e ({ frames := 0, cells := 0, slots := 0, locals := 0 } : Room) s m #[(.ref b_), (.int i), (.int v)] below meth c s₁ [] 0 0 := Stand.of_body Bd
  have e0 : s₁.heap = h0 := by rw [← hh, Bd.state]; rfl
  have N0 := Fr.nil n0
  show Go p e below _ (Done s (Q_rmPu21 Z b_ i v w0_ w1_ w2_ w3_ h0 n0) ({ frames := 0, cells := 0, slots := 0, locals := 0 } : Room).cells ({ frames := 0, cells := 0, slots := 0, locals := 0 } : Room).slots)
  refine Go.via (fun tQ kQ => castTop (ef_17 m b_ i v) kQ) ?_
  show Go p e below (s₁.setTop (mkF m 0 #[vr b_, vi i, vi v] [])) _
  · subst hi
    show Go p e below (s₁.setTop (mkF m 0 #[vr b_, vi (1 : Int32), vi v] [])) _
    have f81 : Sta Z h0 cU6 "$assertionsDisabled" "Z" (.int (1 : Int32)) := zAD.ext P1.2
    obtain ⟨T82, X82, e82, st82⟩ := getS2 X0 hx hZ hown (host := "") (Or.inl (tw hw 84 rfl)) Via.refl e0 f81 (g := (mkF m 0 #[vr b_, vi (1 : Int32), vi v] [])) rfl (hb hby d17_0)
    refine Go.via (st82) ?_
    clear st82
    clear X0 e0
    show Go p e below (T82.setTop (mkF m 3 #[vr b_, vi (1 : Int32), vi v] [(.int (1 : Int32))])) _
    refine Go.via (fun _ => XS.ifYes X82.here hx rfl (pc0 := 3) (pc' := 28) rfl (hb hby d17_3) rfl ((if0 _ _).trans (feq ((by decide) : ¬ ((1 : Int32) = (0 : Int32)))).2) (by decide) (by decide)) ?_
    refine Go.via (fun _ => XS.iloadN X82.here hx rfl (hb hby d17_28) rfl) ?_
    refine Go.via (fun _ => XS.iconst X82.here hx rfl (hb hby d17_29)) ?_
    refine Go.via (fun _ => XS.ishl X82.here hx rfl (hb hby d17_30) rfl) ?_
    refine Go.via (fun _ => XS.istoreN X82.here hx rfl (hb hby d17_31) rfl (l' := #[vr b_, vi (2 : Int32), vi v]) rfl) ?_
    refine Go.via (fun _ => XS.aloadN X82.here hx rfl (hb hby d17_32) rfl rfl) ?_
    refine Go.via (fun _ => XS.iloadN X82.here hx rfl (hb hby d17_33) rfl) ?_
    show Go p e below (T82.setTop (mkF m 34 #[vr b_, vi (2 : Int32), vi v] [(.int (2 : Int32)), (.ref b_)])) _
    refine Go.via (fun _ => XS.iinc X82.here hx rfl (hb hby d17_34) rfl (l' := #[vr b_, vi (3 : Int32), vi v]) rfl) ?_
    refine Go.via (fun _ => XS.iloadN X82.here hx rfl (hb hby d17_37) rfl) ?_
    have f83 : Sta Z h0 cU6 "HI_BYTE_SHIFT" "I" (.int (0 : Int32)) := zHI.ext P1.2
    obtain ⟨T84, X84, e84, st84⟩ := getS2 X82 hx hZ hown (host := "") (Or.inl (tw hw 85 rfl)) Via.refl e82 f83 (g := (mkF m 38 #[vr b_, vi (3 : Int32), vi v] [(.int v), (.int (2 : Int32)), (.ref b_)])) rfl (hb hby d17_38)
    refine Go.via (st84) ?_
    clear st84
    clear X82 e82
    show Go p e below (T84.setTop (mkF m 41 #[vr b_, vi (3 : Int32), vi v] [(.int (0 : Int32)), (.int v), (.int (2 : Int32)), (.ref b_)])) _
    refine Go.via (fun _ => XS.ishr X84.here hx rfl (hb hby d17_41) rfl) ?_
    refine Go.via (fun _ => XS.i2b X84.here hx rfl (hb hby d17_42) rfl) ?_
    obtain ⟨T85, h85, X85, e85, W85, V85, st85⟩ := stB' X84 hx hZ e84 P0 (j := (2 : Int32)) (by decide) (by first | decide | (simp only [List.length_cons, List.length_nil]; decide) | rfl) (g := (mkF m 43 #[vr b_, vi (3 : Int32), vi v] [(.int ((v >>> ((0 : Int32) &&& 31)).toInt8.toInt32)), (.int (2 : Int32)), (.ref b_)])) rfl rfl (hb hby d17_43)
    refine Go.via (st85) ?_
    clear st85
    have N85 := Fr.snoc X85 N0 g_b_
    have f86 : Ia Z h85 b_ .byte [w0_, w1_, (nar .byte ((v >>> ((0 : Int32) &&& 31)).toInt8.toInt32)), w3_] := V85
    clear X84 e84
    show Go p e below (T85.setTop (mkF m 44 #[vr b_, vi (3 : Int32), vi v] [])) _
    refine Go.via (fun _ => XS.aloadN X85.here hx rfl (hb hby d17_44) rfl rfl) ?_
    refine Go.via (fun _ => XS.iloadN X85.here hx rfl (hb hby d17_45) rfl) ?_
    refine Go.via (fun _ => XS.iloadN X85.here hx rfl (hb hby d17_46) rfl) ?_
    have o87 : Old Z n0 h85 := (P1.wr W85 g_b_)
    have f88 : Sta Z h85 cU6 "LO_BYTE_SHIFT" "I" (.int (8 : Int32)) := zLO.ext o87.2
    obtain ⟨T89, X89, e89, st89⟩ := getS2 X85 hx hZ hown (host := "") (Or.inl (tw hw 86 rfl)) Via.refl e85 f88 (g := (mkF m 47 #[vr b_, vi (3 : Int32), vi v] [(.int v), (.int (3 : Int32)), (.ref b_)])) rfl (hb hby d17_47)
    refine Go.via (st89) ?_
    clear st89
    clear X85 e85
    show Go p e below (T89.setTop (mkF m 50 #[vr b_, vi (3 : Int32), vi v] [(.int (8 : Int32)), (.int v), (.int (3 : Int32)), (.ref b_)])) _
    refine Go.via (fun _ => XS.ishr X89.here hx rfl (hb hby d17_50) rfl) ?_
    refine Go.via (fun _ => XS.i2b X89.here hx rfl (hb hby d17_51) rfl) ?_
    obtain ⟨T90, h90, X90, e90, W90, V90, st90⟩ := stB' X89 hx hZ e89 f86 (j := (3 : Int32)) (by decide) (by first | decide | (simp only [List.length_cons, List.length_nil]; decide) | rfl) (g := (mkF m 52 #[vr b_, vi (3 : Int32), vi v] [(.int ((v >>> ((8 : Int32) &&& 31)).toInt8.toInt32)), (.int (3 : Int32)), (.ref b_)])) rfl rfl (hb hby d17_52)
    refine Go.via (st90) ?_
    clear st90
    have N90 := Fr.snoc X90 N85 g_b_
    have f91 : Ia Z h90 b_ .byte [w0_, w1_, (nar .byte ((v >>> ((0 : Int32) &&& 31)).toInt8.toInt32)), (nar .byte ((v >>> ((8 : Int32) &&& 31)).toInt8.toInt32))] := V90
    clear X89 e89
    show Go p e below (T90.setTop (mkF m 53 #[vr b_, vi (3 : Int32), vi v] [])) _
    have k92 : Keep h0 h90 [b_] := (((Keep.refl h0 [b_]).wr W85 (Or.inl (List.mem_of_getElem? (i := 0) rfl))).wr W90 (Or.inl (List.mem_of_getElem? (i := 0) rfl)))
    exact Go.fin X90 hlk (v := none) (fun _ => rfl) (fun fs hr => X90.returnOut hx Bd.returns (hb hby d17_53) hr) (by rw [e90]; exact ⟨rfl, N90, k92, f91⟩) (by decide) (by decide)
def Q_rmGe21 (Z : State) (b_ : Addr) (i : Int32) (w0_ : Int32) (w1_ : Int32) (w2_ : Int32) (w3_ : Int32) (v : Int32) (h0 : Heap) (n0 : Nat) (vQ : Option Value) (hQ : Heap) (LQ : List Loc) : Prop := vQ = some (.int v) ∧ LQ = [] ∧ hQ = h0
set_option maxRecDepth 65536 in
set_option maxHeartbeats 40000000 in
theorem rmGe21 (l : Launch) (Z : State) (a0 : Array Value) (hw : ∀ d ∈ tables_1, d.before a0 Z = true) (ws : List Jvm.Cond) (b_ : Addr) (i : Int32) (w0_ : Int32) (w1_ : Int32) (w2_ : Int32) (w3_ : Int32) (v : Int32) (h0 : Heap) (n0 : Nat) (Z0 : n0 ≤ h0.size) (P0 : Ia Z h0 b_ .byte [w0_, w1_, w2_, w3_]) (P1 : Old Z n0 h0) (zAD : Sta Z Z.heap cU6 "$assertionsDisabled" "Z" (.int (1 : Int32))) (zHI : Sta Z Z.heap cU6 "HI_BYTE_SHIFT" "I" (.int (0 : Int32))) (zLO : Sta Z Z.heap cU6 "LO_BYTE_SHIFT" "I" (.int (8 : Int32))) (hi : i = 1) (hg : (gcF w2_ w3_) = v) :
    MetFree l (⟨cU6, "getChar", "([BI)C"⟩ : MethodName) (head1 (Jvm.Cond.code (⟨cU6, "getChar", "([BI)C"⟩ : MethodName) jdk_52_method_5_code 2 (some .char) :: ws) ({ frames := 0, cells := 0, slots := 0, locals := 0 } : Room)) (fun aQ UQ => aQ = #[(.ref b_), (.int i)] ∧ Z.Warmed39 UQ.vm ∧ UQ.heap = h0) (fun _ _ _ _ _ => True) (fun _ UQ oQ UR => ∃ vQ LQ, oQ = .returned vQ ∧ Q_rmGe21 Z b_ i w0_ w1_ w2_ w3_ v h0 n0 vQ UR.heap LQ ∧ FrameEnd UQ oQ UR LQ ({ frames := 0, cells := 0, slots := 0, locals := 0 } : Room).cells ({ frames := 0, cells := 0, slots := 0, locals := 0 } : Room).slots) := by
  refine MetFree.of_bodySF (plainFor_of_name pn_18) hisR ?_
  intro p e s m args below meth c s₁ Bd hml0 hP hK
  obtain ⟨rfl, hZ, hh⟩ := hP
  have hx := Bd.exec
  have hby := Bd.bytes
  have hlk := Bd.notSynchronized
  have hml : c.maxLocals = 2 := hml0
  have hown : s.vm.findClass cU6 = some m.cls := findClass_of_methodNamed Bd.named
  have hnm := (name_of_methodNamed Bd.named Bd.method).1
  have X0 : Stand p l e ({ frames := 0, cells := 0, slots := 0, locals := 0 } : Room) s m #[(.ref b_), (.int i)] below meth c s₁ [] 0 0 := Stand.of_body Bd
  have e0 : s₁.heap = h0 := by rw [← hh, Bd.state]; rfl
  have N0 := Fr.nil n0
  show Go p e below _ (Done s (Q_rmGe21 Z b_ i w0_ w1_ w2_ w3_ v h0 n0) ({ frames := 0, cells := 0, slots := 0, locals := 0 } : Room).cells ({ frames := 0, cells := 0, slots := 0, locals := 0 } : Room).slots)
  refine Go.via (fun tQ kQ => castTop (ef_18 m b_ i) kQ) ?_
  show Go p e below (s₁.setTop (mkF m 0 #[vr b_, vi i] [])) _
  · subst hi
    show Go p e below (s₁.setTop (mkF m 0 #[vr b_, vi (1 : Int32)] [])) _
    have f93 : Sta Z h0 cU6 "$assertionsDisabled" "Z" (.int (1 : Int32)) := zAD.ext P1.2
    obtain ⟨T94, X94, e94, st94⟩ := getS2 X0 hx hZ hown (host := "") (Or.inl (tw hw 84 rfl)) Via.refl e0 f93 (g := (mkF m 0 #[vr b_, vi (1 : Int32)] [])) rfl (hb hby d18_0)
    refine Go.via (st94) ?_
    clear st94
    clear X0 e0
    show Go p e below (T94.setTop (mkF m 3 #[vr b_, vi (1 : Int32)] [(.int (1 : Int32))])) _
    refine Go.via (fun _ => XS.ifYes X94.here hx rfl (pc0 := 3) (pc' := 28) rfl (hb hby d18_3) rfl ((if0 _ _).trans (feq ((by decide) : ¬ ((1 : Int32) = (0 : Int32)))).2) (by decide) (by decide)) ?_
    refine Go.via (fun _ => XS.iloadN X94.here hx rfl (hb hby d18_28) rfl) ?_
    refine Go.via (fun _ => XS.iconst X94.here hx rfl (hb hby d18_29)) ?_
    refine Go.via (fun _ => XS.ishl X94.here hx rfl (hb hby d18_30) rfl) ?_
    refine Go.via (fun _ => XS.istoreN X94.here hx rfl (hb hby d18_31) rfl (l' := #[vr b_, vi (2 : Int32)]) rfl) ?_
    refine Go.via (fun _ => XS.aloadN X94.here hx rfl (hb hby d18_32) rfl rfl) ?_
    refine Go.via (fun _ => XS.iloadN X94.here hx rfl (hb hby d18_33) rfl) ?_
    show Go p e below (T94.setTop (mkF m 34 #[vr b_, vi (2 : Int32)] [(.int (2 : Int32)), (.ref b_)])) _
    refine Go.via (fun _ => XS.iinc X94.here hx rfl (hb hby d18_34) rfl (l' := #[vr b_, vi (3 : Int32)]) rfl) ?_
    refine Go.via (ldB X94 hx hZ e94 P0 (v := w2_) (by decide) rfl (g := (mkF m 37 #[vr b_, vi (3 : Int32)] [(.int (2 : Int32)), (.ref b_)])) rfl rfl (hb hby d18_37)) ?_
    show Go p e below (T94.setTop (mkF m 38 #[vr b_, vi (3 : Int32)] [(.int w2_)])) _
    refine Go.via (fun _ => XS.sipush X94.here hx rfl (hb hby d18_38)) ?_
    refine Go.via (fun _ => XS.iand X94.here hx rfl (hb hby d18_41) rfl) ?_
    have f95 : Sta Z h0 cU6 "HI_BYTE_SHIFT" "I" (.int (0 : Int32)) := zHI.ext P1.2
    obtain ⟨T96, X96, e96, st96⟩ := getS2 X94 hx hZ hown (host := "") (Or.inl (tw hw 85 rfl)) Via.refl e94 f95 (g := (mkF m 42 #[vr b_, vi (3 : Int32)] [(.int (w2_ &&& (255 : Int32)))])) rfl (hb hby d18_42)
    refine Go.via (st96) ?_
    clear st96
    clear X94 e94
    show Go p e below (T96.setTop (mkF m 45 #[vr b_, vi (3 : Int32)] [(.int (0 : Int32)), (.int (w2_ &&& (255 : Int32)))])) _
    refine Go.via (fun _ => XS.ishl X96.here hx rfl (hb hby d18_45) rfl) ?_
    refine Go.via (fun _ => XS.aloadN X96.here hx rfl (hb hby d18_46) rfl rfl) ?_
    refine Go.via (fun _ => XS.iloadN X96.here hx rfl (hb hby d18_47) rfl) ?_
    refine Go.via (ldB X96 hx hZ e96 P0 (v := w3_) (by decide) rfl (g := (mkF m 48 #[vr b_, vi (3 : Int32)] [(.int (3 : Int32)), (.ref b_), (.int ((w2_ &&& (255 : Int32)) <<< ((0 : Int32) &&& 31)))])) rfl rfl (hb hby d18_48)) ?_
    show Go p e below (T96.setTop (mkF m 49 #[vr b_, vi (3 : Int32)] [(.int w3_), (.int ((w2_ &&& (255 : Int32)) <<< ((0 : Int32) &&& 31)))])) _
    refine Go.via (fun _ => XS.sipush X96.here hx rfl (hb hby d18_49)) ?_
    refine Go.via (fun _ => XS.iand X96.here hx rfl (hb hby d18_52) rfl) ?_
    have f97 : Sta Z h0 cU6 "LO_BYTE_SHIFT" "I" (.int (8 : Int32)) := zLO.ext P1.2
    obtain ⟨T98, X98, e98, st98⟩ := getS2 X96 hx hZ hown (host := "") (Or.inl (tw hw 86 rfl)) Via.refl e96 f97 (g := (mkF m 53 #[vr b_, vi (3 : Int32)] [(.int (w3_ &&& (255 : Int32))), (.int ((w2_ &&& (255 : Int32)) <<< ((0 : Int32) &&& 31)))])) rfl (hb hby d18_53)
    refine Go.via (st98) ?_
    clear st98
    clear X96 e96
    show Go p e below (T98.setTop (mkF m 56 #[vr b_, vi (3 : Int32)] [(.int (8 : Int32)), (.int (w3_ &&& (255 : Int32))), (.int ((w2_ &&& (255 : Int32)) <<< ((0 : Int32) &&& 31)))])) _
    refine Go.via (fun _ => XS.ishl X98.here hx rfl (hb hby d18_56) rfl) ?_
    refine Go.via (fun _ => XS.ior X98.here hx rfl (hb hby d18_57) rfl) ?_
    refine Go.via (fun _ => XS.i2c X98.here hx rfl (hb hby d18_58) rfl) ?_
    exact Go.fin X98 hlk (v := some (.int (nar .char ((((w2_ &&& (255 : Int32)) <<< ((0 : Int32) &&& 31)) ||| ((w3_ &&& (255 : Int32)) <<< ((8 : Int32) &&& 31))).toUInt32.toUInt16.toUInt32.toInt32)))) (fun h => by rw [Bd.returns] at h; cases h) (fun fs hr => retN X98 hx (t := .char) Bd.returns (by simp) (hb hby d18_59) hr) (by rw [e98]; exact ⟨(congrArg (fun qq => some (Value.int qq)) ((nar_c _).trans hg)), rfl, rfl⟩) (by decide) (by decide)
theorem d16_0 : decode jdk_52_method_3_code 0 = .ok (.iload_n 0, 1) := by decide +kernel
theorem d16_1 : decode jdk_52_method_3_code 1 = .ok (.ifCond .ge 11, 3) := by decide +kernel
theorem d16_12 : decode jdk_52_method_3_code 12 = .ok (.iload_n 0, 1) := by decide +kernel
theorem d16_13 : decode jdk_52_method_3_code 13 = .ok (.ldc 20, 2) := by decide +kernel
theorem d16_15 : decode jdk_52_method_3_code 15 = .ok (.if_icmp .lt 40, 3) := by decide +kernel
theorem d16_55 : decode jdk_52_method_3_code 55 = .ok (.iload_n 0, 1) := by decide +kernel
theorem d16_56 : decode jdk_52_method_3_code 56 = .ok (.iconst 1, 1) := by decide +kernel
theorem d16_57 : decode jdk_52_method_3_code 57 = .ok (.ishl, 1) := by decide +kernel
theorem d16_58 : decode jdk_52_method_3_code 58 = .ok (.ireturn, 1) := by decide +kernel
theorem pn_16 : plainName cU6 = true := by first | (simp [plainName, overriddenIn]; done) | decide +kernel
theorem ef_16 (m : MethodId) (x0 : Int32) : entryFrame m #[(.int x0)] 1 = mkF m 0 #[.val (.int x0)] [] := by first | (simp [entryFrame, mkF, argsToLocals, Value.category]; done) | rfl
def Q_rmNl1 (Z : State) (n : Int32)  (h0 : Heap) (n0 : Nat) (vQ : Option Value) (hQ : Heap) (LQ : List Loc) : Prop := vQ = some (.int (2 : Int32)) ∧ LQ = [] ∧ hQ = h0
set_option maxRecDepth 65536 in
set_option maxHeartbeats 40000000 in
theorem rmNl1 (l : Launch) (Z : State) (a0 : Array Value) (hw : ∀ d ∈ tables_1, d.before a0 Z = true) (ws : List Jvm.Cond) (n : Int32)  (h0 : Heap) (n0 : Nat) (Z0 : n0 ≤ h0.size) (hn : n = 1) :
    MetFree l (⟨cU6, "newBytesLength", "(I)I"⟩ : MethodName) (head1 (Jvm.Cond.code (⟨cU6, "newBytesLength", "(I)I"⟩ : MethodName) jdk_52_method_3_code 1 (some .int) :: ws) ({ frames := 0, cells := 0, slots := 0, locals := 0 } : Room)) (fun aQ UQ => aQ = #[(.int n)] ∧ Z.Warmed39 UQ.vm ∧ UQ.heap = h0) (fun _ _ _ _ _ => True) (fun _ UQ oQ UR => ∃ vQ LQ, oQ = .returned vQ ∧ Q_rmNl1 Z n  h0 n0 vQ UR.heap LQ ∧ FrameEnd UQ oQ UR LQ ({ frames := 0, cells := 0, slots := 0, locals := 0 } : Room).cells ({ frames := 0, cells := 0, slots := 0, locals := 0 } : Room).slots) := by
  refine MetFree.of_bodySF (plainFor_of_name pn_16) hisR ?_
  intro p e s m args below meth c s₁ Bd hml0 hP hK
  obtain ⟨rfl, hZ, hh⟩ := hP
  have hx := Bd.exec
  have hby := Bd.bytes
  have hlk := Bd.notSynchronized
  have hml : c.maxLocals = 1 := hml0
  have hown : s.vm.findClass cU6 = some m.cls := findClass_of_methodNamed Bd.named
  have hnm := (name_of_methodNamed Bd.named Bd.method).1
  have X0 : Stand p l e ({ frames := 0, cells := 0, slots := 0, locals := 0 } : Room) s m #[(.int n)] below meth c s₁ [] 0 0 := Stand.of_body Bd
  have e0 : s₁.heap = h0 := by rw [← hh, Bd.state]; rfl
  have N0 := Fr.nil n0
  show Go p e below _ (Done s (Q_rmNl1 Z n  h0 n0) ({ frames := 0, cells := 0, slots := 0, locals := 0 } : Room).cells ({ frames := 0, cells := 0, slots := 0, locals := 0 } : Room).slots)
  refine Go.via (fun tQ kQ => castTop (ef_16 m n) kQ) ?_
  show Go p e below (s₁.setTop (mkF m 0 #[vi n] [])) _
  · subst hn
    show Go p e below (s₁.setTop (mkF m 0 #[vi (1 : Int32)] [])) _
    refine Go.via (fun _ => XS.iloadN X0.here hx rfl (hb hby d16_0) rfl) ?_
    refine Go.via (fun _ => XS.ifYes X0.here hx rfl (pc0 := 1) (pc' := 12) rfl (hb hby d16_1) rfl ((if0 _ _).trans (flt ((by decide) : ¬ ((1 : Int32) < (0 : Int32)))).2.1) (by decide) (by decide)) ?_
    refine Go.via (fun _ => XS.iloadN X0.here hx rfl (hb hby d16_12) rfl) ?_
    refine Go.via (X0.ldcInt hx hown (mvT hZ (tw hw 80 rfl)) (g := (mkF m 13 #[vi (1 : Int32)] [(.int (1 : Int32))])) rfl (hb hby d16_13)) ?_
    show Go p e below (s₁.setTop (mkF m 15 #[vi (1 : Int32)] [(.int (1073741823 : Int32)), (.int (1 : Int32))])) _
    refine Go.via (fun _ => XS.icmpYes X0.here hx rfl (pc0 := 15) (pc' := 55) rfl (hb hby d16_15) rfl (tlt ((by decide) : (1 : Int32) < (1073741823 : Int32))).1 (by decide) (by decide)) ?_
    refine Go.via (fun _ => XS.iloadN X0.here hx rfl (hb hby d16_55) rfl) ?_
    refine Go.via (fun _ => XS.iconst X0.here hx rfl (hb hby d16_56)) ?_
    refine Go.via (fun _ => XS.ishl X0.here hx rfl (hb hby d16_57) rfl) ?_
    exact Go.fin X0 hlk (v := some (.int (2 : Int32))) (fun h => by rw [Bd.returns] at h; cases h) (fun fs hr => OwnKit.retI X0 hx Bd.returns (hb hby d16_58) hr) (by rw [e0]; exact ⟨rfl, rfl, rfl⟩) (by decide) (by decide)
theorem d15_0 : decode jdk_52_method_2_code 0 = .ok (.iload_n 0, 1) := by decide +kernel
theorem d15_1 : decode jdk_52_method_2_code 1 = .ok (.invokestatic 11, 3) := by decide +kernel
theorem pd__28I_29I : parseMethodDescriptor "(I)I" = some ⟨[.int], some .int⟩ := by decide +kernel
theorem d15_4 : decode jdk_52_method_2_code 4 = .ok (.newarray .byte, 2) := by decide +kernel
theorem d15_6 : decode jdk_52_method_2_code 6 = .ok (.areturn, 1) := by decide +kernel
theorem pn_15 : plainName cU6 = true := by first | (simp [plainName, overriddenIn]; done) | decide +kernel
theorem ef_15 (m : MethodId) (x0 : Int32) : entryFrame m #[(.int x0)] 1 = mkF m 0 #[.val (.int x0)] [] := by first | (simp [entryFrame, mkF, argsToLocals, Value.category]; done) | rfl
def Q_rmNb1 (Z : State) (n : Int32)  (h0 : Heap) (n0 : Nat) (vQ : Option Value) (hQ : Heap) (LQ : List Loc) : Prop := ∃ r : Addr, vQ = some (.ref r) ∧ Fr n0 LQ ∧ Keep h0 hQ [] ∧ h0.size ≤ r ∧ Ia Z hQ r .byte [(0 : Int32), (0 : Int32)]
set_option maxRecDepth 65536 in
set_option maxHeartbeats 40000000 in
theorem rmNb1 (l : Launch) (Z : State) (a0 : Array Value) (hw : ∀ d ∈ tables_1, d.before a0 Z = true) (ws : List Jvm.Cond) (n : Int32)  (h0 : Heap) (n0 : Nat) (Z0 : n0 ≤ h0.size) (hn : n = 1) :
    MetFree l (⟨cU6, "newBytesFor", "(I)[B"⟩ : MethodName) (head1 (Jvm.Cond.code (⟨cU6, "newBytesFor", "(I)[B"⟩ : MethodName) jdk_52_method_2_code 1 (some (.array .byte)) :: ws) ({ frames := 1, cells := 1, slots := 2, locals := 12 } : Room)) (fun aQ UQ => aQ = #[(.int n)] ∧ Z.Warmed39 UQ.vm ∧ UQ.heap = h0) (fun _ _ _ _ _ => True) (fun _ UQ oQ UR => ∃ vQ LQ, oQ = .returned vQ ∧ Q_rmNb1 Z n  h0 n0 vQ UR.heap LQ ∧ FrameEnd UQ oQ UR LQ ({ frames := 1, cells := 1, slots := 2, locals := 12 } : Room).cells ({ frames := 1, cells := 1, slots := 2, locals := 12 } : Room).slots) := by
  refine MetFree.of_bodySF (plainFor_of_name pn_15) hisR ?_
  intro p e s m args below meth c s₁ Bd hml0 hP hK
  obtain ⟨rfl, hZ, hh⟩ := hP
  have hx := Bd.exec
  have hby := Bd.bytes
  have hlk := Bd.notSynchronized
  have hml : c.maxLocals = 1 := hml0
  have hown : s.vm.findClass cU6 = some m.cls := findClass_of_methodNamed Bd.named
  have hnm := (name_of_methodNamed Bd.named Bd.method).1
  have X0 : Stand p l e ({ frames := 1, cells := 1, slots := 2, locals := 12 } : Room) s m #[(.int n)] below meth c s₁ [] 0 0 := Stand.of_body Bd
  have e0 : s₁.heap = h0 := by rw [← hh, Bd.state]; rfl
  have N0 := Fr.nil n0
  show Go p e below _ (Done s (Q_rmNb1 Z n  h0 n0) ({ frames := 1, cells := 1, slots := 2, locals := 12 } : Room).cells ({ frames := 1, cells := 1, slots := 2, locals := 12 } : Room).slots)
  refine Go.via (fun tQ kQ => castTop (ef_15 m n) kQ) ?_
  show Go p e below (s₁.setTop (mkF m 0 #[vi n] [])) _
  · subst hn
    show Go p e below (s₁.setTop (mkF m 0 #[vi (1 : Int32)] [])) _
    refine Go.via (fun _ => XS.iloadN X0.here hx rfl (hb hby d15_0) rfl) ?_
    obtain ⟨r99, _, ⟨T99, L99, k99, n99⟩, -, X99, ⟨Lc99, hQ99, l99, y99, z99⟩, st99⟩ := Jvm.LawKit.callS X0 hx (y := (⟨cU6, "newBytesLength", "(I)I"⟩ : MethodName)) hown (mvT hZ (tw hw 77 rfl)) (mvT hZ (tw hw 78 rfl)) (mvT hZ (tw hw 66 rfl)) (mvT hZ (tw hw 79 rfl)) (by decide) (backOf (W := 0) (rmNl1 l Z a0 hw [] (1 : Int32)  h0 n0 Z0 rfl) hZ (tw hw 79 rfl) (tw hw 66 rfl) (by decide) (by decide)) (g := (mkF m 1 #[vi (1 : Int32)] [(.int (1 : Int32))])) rfl (by rw [hml]; rfl) (argsL := [(.int (1 : Int32))]) (rest := []) (lenOf pd__28I_29I rfl) rfl (by show 2 * 0 + _ ≤ _; exact Nat.le_of_eq rfl) (hb hby d15_1) (fun _ _ => ⟨rfl, e0, (by decide : 0 + 0 ≤ _), (by decide : 0 + 0 ≤ _)⟩)
    dsimp only [Pt.U, Pt.locs, Pt.cells, Pt.slots] at X99 l99 y99 z99 st99 hQ99
    rw [l99, y99, z99] at X99
    obtain ⟨hr99, N99q, eh99⟩ := hQ99
    rw [hr99] at st99
    rw [N99q, List.append_nil] at X99
    refine Go.via (st99) ?_
    clear st99
    have e99 : T99.heap = h0 := eh99
    clear X0 e0
    show Go p e below (T99.setTop (mkF m 4 #[vi (1 : Int32)] [(.int (2 : Int32))])) _
    obtain ⟨T100, h100, k100, X100, e100, E100, A100, B100, st100⟩ := newPE X99 hx hZ (tw hw 27 rfl) e99 (g := (mkF m 4 #[vi (1 : Int32)] [(.int (2 : Int32))])) rfl (hb hby d15_4) rfl (by decide) (cap := 2) (by decide) (by decide) (by decide) (by decide) (ad := "[B") (by decide)
    obtain ⟨b100, g100⟩ : ∃ z, z = h0.size := ⟨_, rfl⟩
    rw [← g100] at A100 B100 st100
    have ge101 : n0 ≤ b100 := Nat.le_trans Z0 (Nat.le_of_eq g100.symm)
    have sz102 : h0.size ≤ b100 := Nat.le_trans (Keep.refl h0 []).1 (Nat.le_of_eq g100.symm)
    refine Go.via (st100) ?_
    clear st100
    have f103 : Ia Z h100 b100 .byte [(0 : Int32), (0 : Int32)] := Ia.new A100 rfl
    clear X99 e99
    show Go p e below (T100.setTop (mkF m 6 #[vi (1 : Int32)] [(.ref b100)])) _
    have k104 : Keep h0 h100 [] := ((Keep.refl h0 []).ext E100)
    exact Go.fin X100 hlk (v := some (.ref b100)) (fun h => by rw [Bd.returns] at h; cases h) (fun fs hr => retOut X100 hx Bd.returns rfl (Or.inr (Or.inr (Or.inr (Or.inr ⟨rfl, rfl, rfl⟩)))) (hb hby d15_6) hr) (by rw [e100]; exact ⟨b100, rfl, N0, k104, sz102, f103⟩) (by decide) (by decide)
theorem d14_0 : decode jdk_52_method_14_code 0 = .ok (.iload_n 2, 1) := by decide +kernel
theorem d14_1 : decode jdk_52_method_14_code 1 = .ok (.invokestatic 107, 3) := by decide +kernel
theorem pd__28I_29_5bB : parseMethodDescriptor "(I)[B" = some ⟨[.int], some (.array .byte)⟩ := by decide +kernel
theorem d14_4 : decode jdk_52_method_14_code 4 = .ok (.astore_n 3, 1) := by decide +kernel
theorem d14_5 : decode jdk_52_method_14_code 5 = .ok (.iconst 0, 1) := by decide +kernel
theorem d14_6 : decode jdk_52_method_14_code 6 = .ok (.istore 4, 2) := by decide +kernel
theorem d14_8 : decode jdk_52_method_14_code 8 = .ok (.iload 4, 2) := by decide +kernel
theorem d14_10 : decode jdk_52_method_14_code 10 = .ok (.iload_n 2, 1) := by decide +kernel
theorem d14_11 : decode jdk_52_method_14_code 11 = .ok (.if_icmp .ge 21, 3) := by decide +kernel
theorem d14_14 : decode jdk_52_method_14_code 14 = .ok (.aload_n 3, 1) := by decide +kernel
theorem d14_15 : decode jdk_52_method_14_code 15 = .ok (.iload 4, 2) := by decide +kernel
theorem d14_17 : decode jdk_52_method_14_code 17 = .ok (.aload_n 0, 1) := by decide +kernel
theorem d14_18 : decode jdk_52_method_14_code 18 = .ok (.iload_n 1, 1) := by decide +kernel
theorem d14_19 : decode jdk_52_method_14_code 19 = .ok (.caload, 1) := by decide +kernel
theorem d14_20 : decode jdk_52_method_14_code 20 = .ok (.invokestatic 111, 3) := by decide +kernel
theorem pd__28_5bBII_29V : parseMethodDescriptor "([BII)V" = some ⟨[(.array .byte), .int, .int], none⟩ := by decide +kernel
theorem d14_23 : decode jdk_52_method_14_code 23 = .ok (.iinc 1 1, 3) := by decide +kernel
theorem d14_26 : decode jdk_52_method_14_code 26 = .ok (.iinc 4 1, 3) := by decide +kernel
theorem d14_29 : decode jdk_52_method_14_code 29 = .ok (.goto (-21), 3) := by decide +kernel
theorem d14_32 : decode jdk_52_method_14_code 32 = .ok (.aload_n 3, 1) := by decide +kernel
theorem d14_33 : decode jdk_52_method_14_code 33 = .ok (.areturn, 1) := by decide +kernel
theorem pn_14 : plainName cU6 = true := by first | (simp [plainName, overriddenIn]; done) | decide +kernel
theorem ef_14 (m : MethodId) (x0 : Addr) (x1 : Int32) (x2 : Int32) : entryFrame m #[(.ref x0), (.int x1), (.int x2)] 5 = mkF m 0 #[.val (.ref x0), .val (.int x1), .val (.int x2), .unset, .unset] [] := by first | (simp [entryFrame, mkF, argsToLocals, Value.category]; done) | rfl
def Q_rmTb1 (Z : State) (ca : Addr) (i : Int32) (n : Int32) (y0 : Int32) (h0 : Heap) (n0 : Nat) (vQ : Option Value) (hQ : Heap) (LQ : List Loc) : Prop := ∃ r : Addr, vQ = some (.ref r) ∧ Fr n0 LQ ∧ Keep h0 hQ [] ∧ h0.size ≤ r ∧ Ia Z hQ r .byte [(loF y0), (hiF y0)]
set_option maxRecDepth 65536 in
set_option maxHeartbeats 40000000 in
theorem rmTb1 (l : Launch) (Z : State) (a0 : Array Value) (hw : ∀ d ∈ tables_1, d.before a0 Z = true) (ws : List Jvm.Cond) (ca : Addr) (i : Int32) (n : Int32) (y0 : Int32) (h0 : Heap) (n0 : Nat) (Z0 : n0 ≤ h0.size) (P0 : Ia Z h0 ca .char [y0]) (P1 : Old Z n0 h0) (zAD : Sta Z Z.heap cU6 "$assertionsDisabled" "Z" (.int (1 : Int32))) (zHI : Sta Z Z.heap cU6 "HI_BYTE_SHIFT" "I" (.int (0 : Int32))) (zLO : Sta Z Z.heap cU6 "LO_BYTE_SHIFT" "I" (.int (8 : Int32))) (hi : i = 0) (hn : n = 1) :
    MetFree l (⟨cU6, "toBytes", "([CII)[B"⟩ : MethodName) (head1 (Jvm.Cond.code (⟨cU6, "toBytes", "([CII)[B"⟩ : MethodName) jdk_52_method_14_code 5 (some (.array .byte)) :: ws) ({ frames := 2, cells := 1, slots := 2, locals := 24 } : Room)) (fun aQ UQ => aQ = #[(.ref ca), (.int i), (.int n)] ∧ Z.Warmed39 UQ.vm ∧ UQ.heap = h0) (fun _ _ _ _ _ => True) (fun _ UQ oQ UR => ∃ vQ LQ, oQ = .returned vQ ∧ Q_rmTb1 Z ca i n y0 h0 n0 vQ UR.heap LQ ∧ FrameEnd UQ oQ UR LQ ({ frames := 2, cells := 1, slots := 2, locals := 24 } : Room).cells ({ frames := 2, cells := 1, slots := 2, locals := 24 } : Room).slots) := by
  refine MetFree.of_bodySF (plainFor_of_name pn_14) hisR ?_
  intro p e s m args below meth c s₁ Bd hml0 hP hK
  obtain ⟨rfl, hZ, hh⟩ := hP
  have hx := Bd.exec
  have hby := Bd.bytes
  have hlk := Bd.notSynchronized
  have hml : c.maxLocals = 5 := hml0
  have hown : s.vm.findClass cU6 = some m.cls := findClass_of_methodNamed Bd.named
  have hnm := (name_of_methodNamed Bd.named Bd.method).1
  have X0 : Stand p l e ({ frames := 2, cells := 1, slots := 2, locals := 24 } : Room) s m #[(.ref ca), (.int i), (.int n)] below meth c s₁ [] 0 0 := Stand.of_body Bd
  have e0 : s₁.heap = h0 := by rw [← hh, Bd.state]; rfl
  have N0 := Fr.nil n0
  show Go p e below _ (Done s (Q_rmTb1 Z ca i n y0 h0 n0) ({ frames := 2, cells := 1, slots := 2, locals := 24 } : Room).cells ({ frames := 2, cells := 1, slots := 2, locals := 24 } : Room).slots)
  refine Go.via (fun tQ kQ => castTop (ef_14 m ca i n) kQ) ?_
  show Go p e below (s₁.setTop (mkF m 0 #[vr ca, vi i, vi n, .unset, .unset] [])) _
  · subst hi hn
    show Go p e below (s₁.setTop (mkF m 0 #[vr ca, vi (0 : Int32), vi (1 : Int32), .unset, .unset] [])) _
    refine Go.via (fun _ => XS.iloadN X0.here hx rfl (hb hby d14_0) rfl) ?_
    obtain ⟨r105, _, ⟨T105, L105, k105, n105⟩, -, X105, ⟨Lc105, hQ105, l105, y105, z105⟩, st105⟩ := Jvm.LawKit.callS X0 hx (y := (⟨cU6, "newBytesFor", "(I)[B"⟩ : MethodName)) hown (mvT hZ (tw hw 74 rfl)) (mvT hZ (tw hw 75 rfl)) (mvT hZ (tw hw 66 rfl)) (mvT hZ (tw hw 76 rfl)) (by decide) (backOf (W := 0) (rmNb1 l Z a0 hw [] (1 : Int32)  h0 n0 Z0 rfl) hZ (tw hw 76 rfl) (tw hw 66 rfl) (by decide) (by decide)) (g := (mkF m 1 #[vr ca, vi (0 : Int32), vi (1 : Int32), .unset, .unset] [(.int (1 : Int32))])) rfl (by rw [hml]; rfl) (argsL := [(.int (1 : Int32))]) (rest := []) (lenOf pd__28I_29_5bB rfl) rfl (by show 2 * 0 + _ ≤ _; exact Nat.le_of_eq rfl) (hb hby d14_1) (fun _ _ => ⟨rfl, e0, (by decide : 0 + 1 ≤ _), (by decide : 0 + 2 ≤ _)⟩)
    dsimp only [Pt.U, Pt.locs, Pt.cells, Pt.slots] at X105 l105 y105 z105 st105 hQ105
    rw [l105, y105, z105] at X105
    obtain ⟨b106, hr105, N105q, K105q, fz_b106, f107⟩ := hQ105
    rw [hr105] at st105
    have N105 := Fr.app N0 N105q
    refine Go.via (st105) ?_
    clear st105
    have ne108 : ca ≠ b106 := Nat.ne_of_lt (Nat.lt_of_lt_of_le P0.lt fz_b106)
    have ge109 : n0 ≤ b106 := Nat.le_trans Z0 fz_b106
    have sz110 : h0.size ≤ b106 := Nat.le_trans (Keep.refl h0 []).1 fz_b106
    have e105 : T105.heap = T105.heap := rfl
    have f111 : Ia Z T105.heap b106 .byte [(0 : Int32), (0 : Int32)] := f107
    clear X0 e0
    show Go p e below (T105.setTop (mkF m 4 #[vr ca, vi (0 : Int32), vi (1 : Int32), .unset, .unset] [(.ref b106)])) _
    refine Go.via (fun _ => XS.astoreN X105.here hx rfl (hb hby d14_4) rfl rfl (l' := #[vr ca, vi (0 : Int32), vi (1 : Int32), vr b106, .unset]) rfl) ?_
    refine Go.via (fun _ => XS.iconst X105.here hx rfl (hb hby d14_5)) ?_
    refine Go.via (fun _ => XS.istore X105.here hx rfl (hb hby d14_6) rfl (l' := #[vr ca, vi (0 : Int32), vi (1 : Int32), vr b106, vi (0 : Int32)]) rfl) ?_
    refine Go.via (fun _ => XS.iload X105.here hx rfl (hb hby d14_8) rfl) ?_
    refine Go.via (fun _ => XS.iloadN X105.here hx rfl (hb hby d14_10) rfl) ?_
    refine Go.via (fun _ => XS.icmpNo X105.here hx rfl (hb hby d14_11) rfl (tlt ((by decide) : (0 : Int32) < (1 : Int32))).2.1) ?_
    refine Go.via (fun _ => XS.aloadN X105.here hx rfl (hb hby d14_14) rfl rfl) ?_
    show Go p e below (T105.setTop (mkF m 15 #[vr ca, vi (0 : Int32), vi (1 : Int32), vr b106, vi (0 : Int32)] [(.ref b106)])) _
    refine Go.via (fun _ => XS.iload X105.here hx rfl (hb hby d14_15) rfl) ?_
    refine Go.via (fun _ => XS.aloadN X105.here hx rfl (hb hby d14_17) rfl rfl) ?_
    refine Go.via (fun _ => XS.iloadN X105.here hx rfl (hb hby d14_18) rfl) ?_
    have f112 : Ia Z T105.heap ca .char [y0] := (P0.keep K105q nin0)
    refine Go.via (ldC X105 hx hZ e105 f112 (v := y0) (by decide) rfl (g := (mkF m 19 #[vr ca, vi (0 : Int32), vi (1 : Int32), vr b106, vi (0 : Int32)] [(.int (0 : Int32)), (.ref ca), (.int (0 : Int32)), (.ref b106)])) rfl rfl (hb hby d14_19)) ?_
    show Go p e below (T105.setTop (mkF m 20 #[vr ca, vi (0 : Int32), vi (1 : Int32), vr b106, vi (0 : Int32)] [(.int y0), (.int (0 : Int32)), (.ref b106)])) _
    have o113 : Old Z n0 T105.heap := (P1.keep K105q all0)
    have z115 : n0 ≤ T105.heap.size := (Nat.le_trans Z0 K105q.1)
    obtain ⟨r114, _, ⟨T114, L114, k114, n114⟩, -, X114, ⟨Lc114, hQ114, l114, y114, z114⟩, st114⟩ := Jvm.LawKit.callS X105 hx (y := (⟨cU6, "putChar", "([BII)V"⟩ : MethodName)) hown (mvT hZ (tw hw 81 rfl)) (mvT hZ (tw hw 82 rfl)) (mvT hZ (tw hw 66 rfl)) (mvT hZ (tw hw 83 rfl)) (by decide) (backOf (W := 0) (rmPu10 l Z a0 hw [] b106 (0 : Int32) y0 (0 : Int32) (0 : Int32) T105.heap n0 z115 f111 o113 zAD zHI zLO ge109 rfl) hZ (tw hw 83 rfl) (tw hw 66 rfl) (by decide) (by decide)) (g := (mkF m 20 #[vr ca, vi (0 : Int32), vi (1 : Int32), vr b106, vi (0 : Int32)] [(.int y0), (.int (0 : Int32)), (.ref b106)])) rfl (by rw [hml]; rfl) (argsL := [(.ref b106), (.int (0 : Int32)), (.int y0)]) (rest := []) (lenOf pd__28_5bBII_29V rfl) rfl (by show 2 * 0 + _ ≤ _; exact Nat.le_of_eq rfl) (hb hby d14_20) (fun _ _ => ⟨rfl, e105, (by decide : 1 + 0 ≤ _), (by decide : 2 + 0 ≤ _)⟩)
    dsimp only [Pt.U, Pt.locs, Pt.cells, Pt.slots] at X114 l114 y114 z114 st114 hQ114
    rw [l114, y114, z114] at X114
    obtain ⟨hr114, N114q, K114q, f116⟩ := hQ114
    rw [hr114] at st114
    have N114 := Fr.app N105 N114q
    refine Go.via (st114) ?_
    clear st114
    have e114 : T114.heap = T114.heap := rfl
    have f117 : Ia Z T114.heap b106 .byte [(loF y0), (hiF y0)] := f116
    clear X105 e105
    show Go p e below (T114.setTop (mkF m 23 #[vr ca, vi (0 : Int32), vi (1 : Int32), vr b106, vi (0 : Int32)] [])) _
    refine Go.via (fun _ => XS.iinc X114.here hx rfl (hb hby d14_23) rfl (l' := #[vr ca, vi (1 : Int32), vi (1 : Int32), vr b106, vi (0 : Int32)]) rfl) ?_
    refine Go.via (fun _ => XS.iinc X114.here hx rfl (hb hby d14_26) rfl (l' := #[vr ca, vi (1 : Int32), vi (1 : Int32), vr b106, vi (1 : Int32)]) rfl) ?_
    refine Go.via (fun _ => XS.goto X114.here hx rfl (pc0 := 29) (pc' := 8) rfl (hb hby d14_29) (by decide) (by decide)) ?_
    refine Go.via (fun _ => XS.iload X114.here hx rfl (hb hby d14_8) rfl) ?_
    refine Go.via (fun _ => XS.iloadN X114.here hx rfl (hb hby d14_10) rfl) ?_
    refine Go.via (fun _ => XS.icmpYes X114.here hx rfl (pc0 := 11) (pc' := 32) rfl (hb hby d14_11) rfl (flt ((by decide) : ¬ ((1 : Int32) < (1 : Int32)))).2.1 (by decide) (by decide)) ?_
    refine Go.via (fun _ => XS.aloadN X114.here hx rfl (hb hby d14_32) rfl rfl) ?_
    show Go p e below (T114.setTop (mkF m 33 #[vr ca, vi (1 : Int32), vi (1 : Int32), vr b106, vi (1 : Int32)] [(.ref b106)])) _
    have k118 : Keep h0 T114.heap [] := (((Keep.refl h0 []).trans K105q all0).trans K114q (allS (Or.inr sz110) all0))
    exact Go.fin X114 hlk (v := some (.ref b106)) (fun h => by rw [Bd.returns] at h; cases h) (fun fs hr => retOut X114 hx Bd.returns rfl (Or.inr (Or.inr (Or.inr (Or.inr ⟨rfl, rfl, rfl⟩)))) (hb hby d14_33) hr) (by exact ⟨b106, rfl, N114, k118, sz110, f117⟩) (by decide) (by decide)
theorem d19_0 : decode jdk_52_method_15_code 0 = .ok (.iload_n 1, 1) := by decide +kernel
theorem d19_1 : decode jdk_52_method_15_code 1 = .ok (.aload_n 0, 1) := by decide +kernel
theorem d19_2 : decode jdk_52_method_15_code 2 = .ok (.arraylength, 1) := by decide +kernel
theorem d19_3 : decode jdk_52_method_15_code 3 = .ok (.isub, 1) := by decide +kernel
theorem d19_4 : decode jdk_52_method_15_code 4 = .ok (.bipush 31, 2) := by decide +kernel
theorem d19_6 : decode jdk_52_method_15_code 6 = .ok (.iushr, 1) := by decide +kernel
theorem d19_7 : decode jdk_52_method_15_code 7 = .ok (.i2b, 1) := by decide +kernel
theorem d19_8 : decode jdk_52_method_15_code 8 = .ok (.ireturn, 1) := by decide +kernel
theorem pn_19 : plainName cU6 = true := by first | (simp [plainName, overriddenIn]; done) | decide +kernel
theorem ef_19 (m : MethodId) (x0 : Addr) (x1 : Int32) : entryFrame m #[(.ref x0), (.int x1)] 2 = mkF m 0 #[.val (.ref x0), .val (.int x1)] [] := by first | (simp [entryFrame, mkF, argsToLocals, Value.category]; done) | rfl
def Q_rmCl10 (Z : State) (ba : Addr) (n : Int32) (y0 : Int32) (h0 : Heap) (n0 : Nat) (vQ : Option Value) (hQ : Heap) (LQ : List Loc) : Prop := vQ = some (.int (0 : Int32)) ∧ Fr n0 LQ ∧ hQ = h0
set_option maxRecDepth 65536 in
set_option maxHeartbeats 40000000 in
theorem rmCl10 (l : Launch) (Z : State) (a0 : Array Value) (hw : ∀ d ∈ tables_1, d.before a0 Z = true) (ws : List Jvm.Cond) (ba : Addr) (n : Int32) (y0 : Int32) (h0 : Heap) (n0 : Nat) (Z0 : n0 ≤ h0.size) (P0 : Ia Z h0 ba .byte [y0]) (hn : n = 1) :
    MetFree l (⟨cU6, "coderFromArrayLen", "([BI)B"⟩ : MethodName) (head1 (Jvm.Cond.code (⟨cU6, "coderFromArrayLen", "([BI)B"⟩ : MethodName) jdk_52_method_15_code 2 (some .byte) :: ws) ({ frames := 0, cells := 0, slots := 0, locals := 0 } : Room)) (fun aQ UQ => aQ = #[(.ref ba), (.int n)] ∧ Z.Warmed39 UQ.vm ∧ UQ.heap = h0) (fun _ _ _ _ _ => True) (fun _ UQ oQ UR => ∃ vQ LQ, oQ = .returned vQ ∧ Q_rmCl10 Z ba n y0 h0 n0 vQ UR.heap LQ ∧ FrameEnd UQ oQ UR LQ ({ frames := 0, cells := 0, slots := 0, locals := 0 } : Room).cells ({ frames := 0, cells := 0, slots := 0, locals := 0 } : Room).slots) := by
  refine MetFree.of_bodySF (plainFor_of_name pn_19) hisR ?_
  intro p e s m args below meth c s₁ Bd hml0 hP hK
  obtain ⟨rfl, hZ, hh⟩ := hP
  have hx := Bd.exec
  have hby := Bd.bytes
  have hlk := Bd.notSynchronized
  have hml : c.maxLocals = 2 := hml0
  have hown : s.vm.findClass cU6 = some m.cls := findClass_of_methodNamed Bd.named
  have hnm := (name_of_methodNamed Bd.named Bd.method).1
  have X0 : Stand p l e ({ frames := 0, cells := 0, slots := 0, locals := 0 } : Room) s m #[(.ref ba), (.int n)] below meth c s₁ [] 0 0 := Stand.of_body Bd
  have e0 : s₁.heap = h0 := by rw [← hh, Bd.state]; rfl
  have N0 := Fr.nil n0
  show Go p e below _ (Done s (Q_rmCl10 Z ba n y0 h0 n0) ({ frames := 0, cells := 0, slots := 0, locals := 0 } : Room).cells ({ frames := 0, cells := 0, slots := 0, locals := 0 } : Room).slots)
  refine Go.via (fun tQ kQ => castTop (ef_19 m ba n) kQ) ?_
  show Go p e below (s₁.setTop (mkF m 0 #[vr ba, vi n] [])) _
  · subst hn
    show Go p e below (s₁.setTop (mkF m 0 #[vr ba, vi (1 : Int32)] [])) _
    refine Go.via (fun _ => XS.iloadN X0.here hx rfl (hb hby d19_0) rfl) ?_
    refine Go.via (fun _ => XS.aloadN X0.here hx rfl (hb hby d19_1) rfl rfl) ?_
    refine Go.via (lenI X0 hx hZ e0 P0 (n := (1 : Int32)) rfl (g := (mkF m 2 #[vr ba, vi (1 : Int32)] [(.ref ba), (.int (1 : Int32))])) rfl rfl (hb hby d19_2)) ?_
    show Go p e below (s₁.setTop (mkF m 3 #[vr ba, vi (1 : Int32)] [(.int (1 : Int32)), (.int (1 : Int32))])) _
    refine Go.via (fun _ => XS.isub X0.here hx rfl (hb hby d19_3) rfl) ?_
    refine Go.via (fun _ => XS.bipush X0.here hx rfl (hb hby d19_4)) ?_
    refine Go.via (fun _ => XS.iushr X0.here hx rfl (hb hby d19_6) rfl) ?_
    refine Go.via (fun _ => XS.i2b X0.here hx rfl (hb hby d19_7) rfl) ?_
    exact Go.fin X0 hlk (v := some (.int (nar .byte ((0 : Int32).toInt8.toInt32)))) (fun h => by rw [Bd.returns] at h; cases h) (fun fs hr => retN X0 hx (t := .byte) Bd.returns (by simp) (hb hby d19_8) hr) (by rw [e0]; exact ⟨rfl, N0, rfl⟩) (by decide) (by decide)
def Q_rmCl11 (Z : State) (ba : Addr) (n : Int32) (w0_ : Int32) (w1_ : Int32) (h0 : Heap) (n0 : Nat) (vQ : Option Value) (hQ : Heap) (LQ : List Loc) : Prop := vQ = some (.int (1 : Int32)) ∧ Fr n0 LQ ∧ hQ = h0
set_option maxRecDepth 65536 in
set_option maxHeartbeats 40000000 in
theorem rmCl11 (l : Launch) (Z : State) (a0 : Array Value) (hw : ∀ d ∈ tables_1, d.before a0 Z = true) (ws : List Jvm.Cond) (ba : Addr) (n : Int32) (w0_ : Int32) (w1_ : Int32) (h0 : Heap) (n0 : Nat) (Z0 : n0 ≤ h0.size) (P0 : Ia Z h0 ba .byte [w0_, w1_]) (hn : n = 1) :
    MetFree l (⟨cU6, "coderFromArrayLen", "([BI)B"⟩ : MethodName) (head1 (Jvm.Cond.code (⟨cU6, "coderFromArrayLen", "([BI)B"⟩ : MethodName) jdk_52_method_15_code 2 (some .byte) :: ws) ({ frames := 0, cells := 0, slots := 0, locals := 0 } : Room)) (fun aQ UQ => aQ = #[(.ref ba), (.int n)] ∧ Z.Warmed39 UQ.vm ∧ UQ.heap = h0) (fun _ _ _ _ _ => True) (fun _ UQ oQ UR => ∃ vQ LQ, oQ = .returned vQ ∧ Q_rmCl11 Z ba n w0_ w1_ h0 n0 vQ UR.heap LQ ∧ FrameEnd UQ oQ UR LQ ({ frames := 0, cells := 0, slots := 0, locals := 0 } : Room).cells ({ frames := 0, cells := 0, slots := 0, locals := 0 } : Room).slots) := by
  refine MetFree.of_bodySF (plainFor_of_name pn_19) hisR ?_
  intro p e s m args below meth c s₁ Bd hml0 hP hK
  obtain ⟨rfl, hZ, hh⟩ := hP
  have hx := Bd.exec
  have hby := Bd.bytes
  have hlk := Bd.notSynchronized
  have hml : c.maxLocals = 2 := hml0
  have hown : s.vm.findClass cU6 = some m.cls := findClass_of_methodNamed Bd.named
  have hnm := (name_of_methodNamed Bd.named Bd.method).1
  have X0 : Stand p l e ({ frames := 0, cells := 0, slots := 0, locals := 0 } : Room) s m #[(.ref ba), (.int n)] below meth c s₁ [] 0 0 := Stand.of_body Bd
  have e0 : s₁.heap = h0 := by rw [← hh, Bd.state]; rfl
  have N0 := Fr.nil n0
  show Go p e below _ (Done s (Q_rmCl11 Z ba n w0_ w1_ h0 n0) ({ frames := 0, cells := 0, slots := 0, locals := 0 } : Room).cells ({ frames := 0, cells := 0, slots := 0, locals := 0 } : Room).slots)
  refine Go.via (fun tQ kQ => castTop (ef_19 m ba n) kQ) ?_
  show Go p e below (s₁.setTop (mkF m 0 #[vr ba, vi n] [])) _
  · subst hn
    show Go p e below (s₁.setTop (mkF m 0 #[vr ba, vi (1 : Int32)] [])) _
    refine Go.via (fun _ => XS.iloadN X0.here hx rfl (hb hby d19_0) rfl) ?_
    refine Go.via (fun _ => XS.aloadN X0.here hx rfl (hb hby d19_1) rfl rfl) ?_
    refine Go.via (lenI X0 hx hZ e0 P0 (n := (2 : Int32)) rfl (g := (mkF m 2 #[vr ba, vi (1 : Int32)] [(.ref ba), (.int (1 : Int32))])) rfl rfl (hb hby d19_2)) ?_
    show Go p e below (s₁.setTop (mkF m 3 #[vr ba, vi (1 : Int32)] [(.int (2 : Int32)), (.int (1 : Int32))])) _
    refine Go.via (fun _ => XS.isub X0.here hx rfl (hb hby d19_3) rfl) ?_
    refine Go.via (fun _ => XS.bipush X0.here hx rfl (hb hby d19_4)) ?_
    refine Go.via (fun _ => XS.iushr X0.here hx rfl (hb hby d19_6) rfl) ?_
    refine Go.via (fun _ => XS.i2b X0.here hx rfl (hb hby d19_7) rfl) ?_
    exact Go.fin X0 hlk (v := some (.int (nar .byte ((1 : Int32).toInt8.toInt32)))) (fun h => by rw [Bd.returns] at h; cases h) (fun fs hr => retN X0 hx (t := .byte) Bd.returns (by simp) (hb hby d19_8) hr) (by rw [e0]; exact ⟨rfl, N0, rfl⟩) (by decide) (by decide)
theorem d13_0 : decode jdk_52_method_21_code 0 = .ok (.iconst 0, 1) := by decide +kernel
theorem d13_1 : decode jdk_52_method_21_code 1 = .ok (.istore 5, 2) := by decide +kernel
theorem d13_3 : decode jdk_52_method_21_code 3 = .ok (.iload 5, 2) := by decide +kernel
theorem d13_5 : decode jdk_52_method_21_code 5 = .ok (.iload 4, 2) := by decide +kernel
theorem d13_7 : decode jdk_52_method_21_code 7 = .ok (.if_icmp .ge 37, 3) := by decide +kernel
theorem d13_10 : decode jdk_52_method_21_code 10 = .ok (.aload_n 0, 1) := by decide +kernel
theorem d13_11 : decode jdk_52_method_21_code 11 = .ok (.iload_n 1, 1) := by decide +kernel
theorem d13_12 : decode jdk_52_method_21_code 12 = .ok (.caload, 1) := by decide +kernel
theorem d13_13 : decode jdk_52_method_21_code 13 = .ok (.istore 6, 2) := by decide +kernel
theorem d13_15 : decode jdk_52_method_21_code 15 = .ok (.iload 6, 2) := by decide +kernel
theorem d13_17 : decode jdk_52_method_21_code 17 = .ok (.sipush 255, 3) := by decide +kernel
theorem d13_20 : decode jdk_52_method_21_code 20 = .ok (.if_icmp .le 6, 3) := by decide +kernel
theorem d13_23 : decode jdk_52_method_21_code 23 = .ok (.iload 5, 2) := by decide +kernel
theorem d13_25 : decode jdk_52_method_21_code 25 = .ok (.ireturn, 1) := by decide +kernel
theorem pn_13 : plainName cU6 = true := by first | (simp [plainName, overriddenIn]; done) | decide +kernel
theorem ef_13 (m : MethodId) (x0 : Addr) (x1 : Int32) (x2 : Addr) (x3 : Int32) (x4 : Int32) : entryFrame m #[(.ref x0), (.int x1), (.ref x2), (.int x3), (.int x4)] 7 = mkF m 0 #[.val (.ref x0), .val (.int x1), .val (.ref x2), .val (.int x3), .val (.int x4), .unset, .unset] [] := by first | (simp [entryFrame, mkF, argsToLocals, Value.category]; done) | rfl
def Q_rmC5_10 (Z : State) (ca : Addr) (i : Int32) (ba : Addr) (j : Int32) (n : Int32) (y0 : Int32) (h0 : Heap) (n0 : Nat) (vQ : Option Value) (hQ : Heap) (LQ : List Loc) : Prop := vQ = some (.int (0 : Int32)) ∧ Fr n0 LQ ∧ Keep h0 hQ [ba] ∧ Ia Z hQ ba .byte [(0 : Int32)]
set_option maxRecDepth 65536 in
set_option maxHeartbeats 40000000 in
theorem rmC5_10 (l : Launch) (Z : State) (a0 : Array Value) (hw : ∀ d ∈ tables_1, d.before a0 Z = true) (ws : List Jvm.Cond) (ca : Addr) (i : Int32) (ba : Addr) (j : Int32) (n : Int32) (y0 : Int32) (h0 : Heap) (n0 : Nat) (Z0 : n0 ≤ h0.size) (P0 : Ia Z h0 ca .char [y0]) (P1 : Ia Z h0 ba .byte [(0 : Int32)]) (g_ba : n0 ≤ ba) (hcb : ca ≠ ba) (hi : i = 0) (hj : j = 0) (hn : n = 1) (hy0 : (255 : Int32) < y0) :
    MetFree l (⟨cU6, "compress", "([CI[BII)I"⟩ : MethodName) (head1 (Jvm.Cond.code (⟨cU6, "compress", "([CI[BII)I"⟩ : MethodName) jdk_52_method_21_code 7 (some .int) :: ws) ({ frames := 0, cells := 0, slots := 0, locals := 0 } : Room)) (fun aQ UQ => aQ = #[(.ref ca), (.int i), (.ref ba), (.int j), (.int n)] ∧ Z.Warmed39 UQ.vm ∧ UQ.heap = h0) (fun _ _ _ _ _ => True) (fun _ UQ oQ UR => ∃ vQ LQ, oQ = .returned vQ ∧ Q_rmC5_10 Z ca i ba j n y0 h0 n0 vQ UR.heap LQ ∧ FrameEnd UQ oQ UR LQ ({ frames := 0, cells := 0, slots := 0, locals := 0 } : Room).cells ({ frames := 0, cells := 0, slots := 0, locals := 0 } : Room).slots) := by
  refine MetFree.of_bodySF (plainFor_of_name pn_13) hisR ?_
  intro p e s m args below meth c s₁ Bd hml0 hP hK
  obtain ⟨rfl, hZ, hh⟩ := hP
  have hx := Bd.exec
  have hby := Bd.bytes
  have hlk := Bd.notSynchronized
  have hml : c.maxLocals = 7 := hml0
  have hown : s.vm.findClass cU6 = some m.cls := findClass_of_methodNamed Bd.named
  have hnm := (name_of_methodNamed Bd.named Bd.method).1
  have X0 : Stand p l e ({ frames := 0, cells := 0, slots := 0, locals := 0 } : Room) s m #[(.ref ca), (.int i), (.ref ba), (.int j), (.int n)] below meth c s₁ [] 0 0 := Stand.of_body Bd
  have e0 : s₁.heap = h0 := by rw [← hh, Bd.state]; rfl
  have N0 := Fr.nil n0
  show Go p e below _ (Done s (Q_rmC5_10 Z ca i ba j n y0 h0 n0) ({ frames := 0, cells := 0, slots := 0, locals := 0 } : Room).cells ({ frames := 0, cells := 0, slots := 0, locals := 0 } : Room).slots)
  refine Go.via (fun tQ kQ => castTop (ef_13 m ca i ba j n) kQ) ?_
  show Go p e below (s₁.setTop (mkF m 0 #[vr ca, vi i, vr ba, vi j, vi n, .unset, .unset] [])) _
  · subst hi hj hn
    show Go p e below (s₁.setTop (mkF m 0 #[vr ca, vi (0 : Int32), vr ba, vi (0 : Int32), vi (1 : Int32), .unset, .unset] [])) _
    refine Go.via (fun _ => XS.iconst X0.here hx rfl (hb hby d13_0)) ?_
    refine Go.via (fun _ => XS.istore X0.here hx rfl (hb hby d13_1) rfl (l' := #[vr ca, vi (0 : Int32), vr ba, vi (0 : Int32), vi (1 : Int32), vi (0 : Int32), .unset]) rfl) ?_
    refine Go.via (fun _ => XS.iload X0.here hx rfl (hb hby d13_3) rfl) ?_
    refine Go.via (fun _ => XS.iload X0.here hx rfl (hb hby d13_5) rfl) ?_
    refine Go.via (fun _ => XS.icmpNo X0.here hx rfl (hb hby d13_7) rfl (tlt ((by decide) : (0 : Int32) < (1 : Int32))).2.1) ?_
    refine Go.via (fun _ => XS.aloadN X0.here hx rfl (hb hby d13_10) rfl rfl) ?_
    refine Go.via (fun _ => XS.iloadN X0.here hx rfl (hb hby d13_11) rfl) ?_
    show Go p e below (s₁.setTop (mkF m 12 #[vr ca, vi (0 : Int32), vr ba, vi (0 : Int32), vi (1 : Int32), vi (0 : Int32), .unset] [(.int (0 : Int32)), (.ref ca)])) _
    refine Go.via (ldC X0 hx hZ e0 P0 (v := y0) (by decide) rfl (g := (mkF m 12 #[vr ca, vi (0 : Int32), vr ba, vi (0 : Int32), vi (1 : Int32), vi (0 : Int32), .unset] [(.int (0 : Int32)), (.ref ca)])) rfl rfl (hb hby d13_12)) ?_
    show Go p e below (s₁.setTop (mkF m 13 #[vr ca, vi (0 : Int32), vr ba, vi (0 : Int32), vi (1 : Int32), vi (0 : Int32), .unset] [(.int y0)])) _
    refine Go.via (fun _ => XS.istore X0.here hx rfl (hb hby d13_13) rfl (l' := #[vr ca, vi (0 : Int32), vr ba, vi (0 : Int32), vi (1 : Int32), vi (0 : Int32), vi y0]) rfl) ?_
    refine Go.via (fun _ => XS.iload X0.here hx rfl (hb hby d13_15) rfl) ?_
    refine Go.via (fun _ => XS.sipush X0.here hx rfl (hb hby d13_17)) ?_
    refine Go.via (fun _ => XS.icmpNo X0.here hx rfl (hb hby d13_20) rfl (tlt (hy0 : (255 : Int32) < y0)).2.2.2) ?_
    refine Go.via (fun _ => XS.iload X0.here hx rfl (hb hby d13_23) rfl) ?_
    exact Go.fin X0 hlk (v := some (.int (0 : Int32))) (fun h => by rw [Bd.returns] at h; cases h) (fun fs hr => OwnKit.retI X0 hx Bd.returns (hb hby d13_25) hr) (by rw [e0]; exact ⟨rfl, N0, (Keep.refl h0 [ba]), P1⟩) (by decide) (by decide)
theorem d12_0 : decode jdk_52_method_16_code 0 = .ok (.iload_n 2, 1) := by decide +kernel
theorem d12_1 : decode jdk_52_method_16_code 1 = .ok (.newarray .byte, 2) := by decide +kernel
theorem d12_3 : decode jdk_52_method_16_code 3 = .ok (.astore_n 3, 1) := by decide +kernel
theorem d12_4 : decode jdk_52_method_16_code 4 = .ok (.aload_n 0, 1) := by decide +kernel
theorem d12_5 : decode jdk_52_method_16_code 5 = .ok (.iload_n 1, 1) := by decide +kernel
theorem d12_6 : decode jdk_52_method_16_code 6 = .ok (.aload_n 3, 1) := by decide +kernel
theorem d12_7 : decode jdk_52_method_16_code 7 = .ok (.iconst 0, 1) := by decide +kernel
theorem d12_8 : decode jdk_52_method_16_code 8 = .ok (.iload_n 2, 1) := by decide +kernel
theorem d12_9 : decode jdk_52_method_16_code 9 = .ok (.invokestatic 115, 3) := by decide +kernel
theorem pd__28_5bCI_5bBII_29I : parseMethodDescriptor "([CI[BII)I" = some ⟨[(.array .char), .int, (.array .byte), .int, .int], some .int⟩ := by decide +kernel
theorem d12_12 : decode jdk_52_method_16_code 12 = .ok (.istore 4, 2) := by decide +kernel
theorem d12_14 : decode jdk_52_method_16_code 14 = .ok (.iload 4, 2) := by decide +kernel
theorem d12_16 : decode jdk_52_method_16_code 16 = .ok (.iload_n 2, 1) := by decide +kernel
theorem d12_17 : decode jdk_52_method_16_code 17 = .ok (.if_icmp .eq 40, 3) := by decide +kernel
theorem d12_20 : decode jdk_52_method_16_code 20 = .ok (.aload_n 0, 1) := by decide +kernel
theorem d12_21 : decode jdk_52_method_16_code 21 = .ok (.iload_n 1, 1) := by decide +kernel
theorem d12_22 : decode jdk_52_method_16_code 22 = .ok (.iload_n 2, 1) := by decide +kernel
theorem d12_23 : decode jdk_52_method_16_code 23 = .ok (.invokestatic 119, 3) := by decide +kernel
theorem pd__28_5bCII_29_5bB : parseMethodDescriptor "([CII)[B" = some ⟨[(.array .char), .int, .int], some (.array .byte)⟩ := by decide +kernel
theorem d12_26 : decode jdk_52_method_16_code 26 = .ok (.astore 5, 2) := by decide +kernel
theorem d12_28 : decode jdk_52_method_16_code 28 = .ok (.aload 5, 2) := by decide +kernel
theorem d12_30 : decode jdk_52_method_16_code 30 = .ok (.iload 4, 2) := by decide +kernel
theorem d12_32 : decode jdk_52_method_16_code 32 = .ok (.invokestatic 71, 3) := by decide +kernel
theorem pd__28_5bBI_29C : parseMethodDescriptor "([BI)C" = some ⟨[(.array .byte), .int], some .char⟩ := by decide +kernel
theorem d12_35 : decode jdk_52_method_16_code 35 = .ok (.sipush 255, 3) := by decide +kernel
theorem d12_38 : decode jdk_52_method_16_code 38 = .ok (.if_icmp .gt 16, 3) := by decide +kernel
theorem d12_54 : decode jdk_52_method_16_code 54 = .ok (.aload 5, 2) := by decide +kernel
theorem d12_56 : decode jdk_52_method_16_code 56 = .ok (.areturn, 1) := by decide +kernel
theorem pn_12 : plainName cU6 = true := by first | (simp [plainName, overriddenIn]; done) | decide +kernel
theorem ef_12 (m : MethodId) (x0 : Addr) (x1 : Int32) (x2 : Int32) : entryFrame m #[(.ref x0), (.int x1), (.int x2)] 6 = mkF m 0 #[.val (.ref x0), .val (.int x1), .val (.int x2), .unset, .unset, .unset] [] := by first | (simp [entryFrame, mkF, argsToLocals, Value.category]; done) | rfl
def Q_rmC3_10 (Z : State) (ca : Addr) (i : Int32) (n : Int32) (y0 : Int32) (h0 : Heap) (n0 : Nat) (vQ : Option Value) (hQ : Heap) (LQ : List Loc) : Prop := ∃ r : Addr, vQ = some (.ref r) ∧ Fr n0 LQ ∧ Keep h0 hQ [] ∧ h0.size ≤ r ∧ Ia Z hQ r .byte [(loF y0), (hiF y0)]
set_option maxRecDepth 65536 in
set_option maxHeartbeats 40000000 in
theorem rmC3_10 (l : Launch) (Z : State) (a0 : Array Value) (hw : ∀ d ∈ tables_1, d.before a0 Z = true) (ws : List Jvm.Cond) (ca : Addr) (i : Int32) (n : Int32) (y0 : Int32) (h0 : Heap) (n0 : Nat) (Z0 : n0 ≤ h0.size) (P0 : Ia Z h0 ca .char [y0]) (P1 : Old Z n0 h0) (zAD : Sta Z Z.heap cU6 "$assertionsDisabled" "Z" (.int (1 : Int32))) (zHI : Sta Z Z.heap cU6 "HI_BYTE_SHIFT" "I" (.int (0 : Int32))) (zLO : Sta Z Z.heap cU6 "LO_BYTE_SHIFT" "I" (.int (8 : Int32))) (hi : i = 0) (hn : n = 1) (hy0 : (255 : Int32) < y0) (hc0 : Ch y0) :
    MetFree l (⟨cU6, "compress", "([CII)[B"⟩ : MethodName) (head1 (Jvm.Cond.code (⟨cU6, "compress", "([CII)[B"⟩ : MethodName) jdk_52_method_16_code 6 (some (.array .byte)) :: ws) ({ frames := 3, cells := 2, slots := 3, locals := 40 } : Room)) (fun aQ UQ => aQ = #[(.ref ca), (.int i), (.int n)] ∧ Z.Warmed39 UQ.vm ∧ UQ.heap = h0) (fun _ _ _ _ _ => True) (fun _ UQ oQ UR => ∃ vQ LQ, oQ = .returned vQ ∧ Q_rmC3_10 Z ca i n y0 h0 n0 vQ UR.heap LQ ∧ FrameEnd UQ oQ UR LQ ({ frames := 3, cells := 2, slots := 3, locals := 40 } : Room).cells ({ frames := 3, cells := 2, slots := 3, locals := 40 } : Room).slots) := by
  refine MetFree.of_bodySF (plainFor_of_name pn_12) hisR ?_
  intro p e s m args below meth c s₁ Bd hml0 hP hK
  obtain ⟨rfl, hZ, hh⟩ := hP
  have hx := Bd.exec
  have hby := Bd.bytes
  have hlk := Bd.notSynchronized
  have hml : c.maxLocals = 6 := hml0
  have hown : s.vm.findClass cU6 = some m.cls := findClass_of_methodNamed Bd.named
  have hnm := (name_of_methodNamed Bd.named Bd.method).1
  have X0 : Stand p l e ({ frames := 3, cells := 2, slots := 3, locals := 40 } : Room) s m #[(.ref ca), (.int i), (.int n)] below meth c s₁ [] 0 0 := Stand.of_body Bd
  have e0 : s₁.heap = h0 := by rw [← hh, Bd.state]; rfl
  have N0 := Fr.nil n0
  show Go p e below _ (Done s (Q_rmC3_10 Z ca i n y0 h0 n0) ({ frames := 3, cells := 2, slots := 3, locals := 40 } : Room).cells ({ frames := 3, cells := 2, slots := 3, locals := 40 } : Room).slots)
  refine Go.via (fun tQ kQ => castTop (ef_12 m ca i n) kQ) ?_
  show Go p e below (s₁.setTop (mkF m 0 #[vr ca, vi i, vi n, .unset, .unset, .unset] [])) _
  · subst hi hn
    show Go p e below (s₁.setTop (mkF m 0 #[vr ca, vi (0 : Int32), vi (1 : Int32), .unset, .unset, .unset] [])) _
    refine Go.via (fun _ => XS.iloadN X0.here hx rfl (hb hby d12_0) rfl) ?_
    obtain ⟨T119, h119, k119, X119, e119, E119, A119, B119, st119⟩ := newPE X0 hx hZ (tw hw 27 rfl) e0 (g := (mkF m 1 #[vr ca, vi (0 : Int32), vi (1 : Int32), .unset, .unset, .unset] [(.int (1 : Int32))])) rfl (hb hby d12_1) rfl (by decide) (cap := 1) (by decide) (by decide) (by decide) (by decide) (ad := "[B") (by decide)
    obtain ⟨b119, g119⟩ : ∃ z, z = h0.size := ⟨_, rfl⟩
    rw [← g119] at A119 B119 st119
    have ne120 : ca ≠ b119 := Nat.ne_of_lt (Nat.lt_of_lt_of_le P0.lt (Nat.le_of_eq g119.symm))
    have ge121 : n0 ≤ b119 := Nat.le_trans Z0 (Nat.le_of_eq g119.symm)
    have sz122 : h0.size ≤ b119 := Nat.le_trans (Keep.refl h0 []).1 (Nat.le_of_eq g119.symm)
    refine Go.via (st119) ?_
    clear st119
    have f123 : Ia Z h119 b119 .byte [(0 : Int32)] := Ia.new A119 rfl
    clear X0 e0
    show Go p e below (T119.setTop (mkF m 3 #[vr ca, vi (0 : Int32), vi (1 : Int32), .unset, .unset, .unset] [(.ref b119)])) _
    refine Go.via (fun _ => XS.astoreN X119.here hx rfl (hb hby d12_3) rfl rfl (l' := #[vr ca, vi (0 : Int32), vi (1 : Int32), vr b119, .unset, .unset]) rfl) ?_
    refine Go.via (fun _ => XS.aloadN X119.here hx rfl (hb hby d12_4) rfl rfl) ?_
    refine Go.via (fun _ => XS.iloadN X119.here hx rfl (hb hby d12_5) rfl) ?_
    refine Go.via (fun _ => XS.aloadN X119.here hx rfl (hb hby d12_6) rfl rfl) ?_
    refine Go.via (fun _ => XS.iconst X119.here hx rfl (hb hby d12_7)) ?_
    refine Go.via (fun _ => XS.iloadN X119.here hx rfl (hb hby d12_8) rfl) ?_
    have f124 : Ia Z h119 ca .char [y0] := (P0.ext E119)
    have z126 : n0 ≤ h119.size := (Nat.le_trans Z0 E119.1)
    obtain ⟨r125, _, ⟨T125, L125, k125, n125⟩, -, X125, ⟨Lc125, hQ125, l125, y125, z125⟩, st125⟩ := Jvm.LawKit.callS X119 hx (y := (⟨cU6, "compress", "([CI[BII)I"⟩ : MethodName)) hown (mvT hZ (tw hw 68 rfl)) (mvT hZ (tw hw 69 rfl)) (mvT hZ (tw hw 66 rfl)) (mvT hZ (tw hw 70 rfl)) (by decide) (backOf (W := 0) (rmC5_10 l Z a0 hw [] ca (0 : Int32) b119 (0 : Int32) (1 : Int32) y0 h119 n0 z126 f124 f123 ge121 ne120 rfl rfl rfl hy0) hZ (tw hw 70 rfl) (tw hw 66 rfl) (by decide) (by decide)) (g := (mkF m 9 #[vr ca, vi (0 : Int32), vi (1 : Int32), vr b119, .unset, .unset] [(.int (1 : Int32)), (.int (0 : Int32)), (.ref b119), (.int (0 : Int32)), (.ref ca)])) rfl (by rw [hml]; rfl) (argsL := [(.ref ca), (.int (0 : Int32)), (.ref b119), (.int (0 : Int32)), (.int (1 : Int32))]) (rest := []) (lenOf pd__28_5bCI_5bBII_29I rfl) rfl (by show 2 * 0 + _ ≤ _; exact Nat.le_of_eq rfl) (hb hby d12_9) (fun _ _ => ⟨rfl, e119, (by decide : 1 + 0 ≤ _), (by decide : 1 + 0 ≤ _)⟩)
    dsimp only [Pt.U, Pt.locs, Pt.cells, Pt.slots] at X125 l125 y125 z125 st125 hQ125
    rw [l125, y125, z125] at X125
    obtain ⟨hr125, N125q, K125q, f127⟩ := hQ125
    rw [hr125] at st125
    have N125 := Fr.app N0 N125q
    refine Go.via (st125) ?_
    clear st125
    have e125 : T125.heap = T125.heap := rfl
    have f128 : Ia Z T125.heap b119 .byte [(0 : Int32)] := f127
    clear X119 e119
    show Go p e below (T125.setTop (mkF m 12 #[vr ca, vi (0 : Int32), vi (1 : Int32), vr b119, .unset, .unset] [(.int (0 : Int32))])) _
    refine Go.via (fun _ => XS.istore X125.here hx rfl (hb hby d12_12) rfl (l' := #[vr ca, vi (0 : Int32), vi (1 : Int32), vr b119, vi (0 : Int32), .unset]) rfl) ?_
    refine Go.via (fun _ => XS.iload X125.here hx rfl (hb hby d12_14) rfl) ?_
    refine Go.via (fun _ => XS.iloadN X125.here hx rfl (hb hby d12_16) rfl) ?_
    refine Go.via (fun _ => XS.icmpNo X125.here hx rfl (hb hby d12_17) rfl (feq ((by decide) : ¬ ((0 : Int32) = (1 : Int32)))).1) ?_
    refine Go.via (fun _ => XS.aloadN X125.here hx rfl (hb hby d12_20) rfl rfl) ?_
    refine Go.via (fun _ => XS.iloadN X125.here hx rfl (hb hby d12_21) rfl) ?_
    refine Go.via (fun _ => XS.iloadN X125.here hx rfl (hb hby d12_22) rfl) ?_
    show Go p e below (T125.setTop (mkF m 23 #[vr ca, vi (0 : Int32), vi (1 : Int32), vr b119, vi (0 : Int32), .unset] [(.int (1 : Int32)), (.int (0 : Int32)), (.ref ca)])) _
    have f129 : Ia Z T125.heap ca .char [y0] := (f124.keep K125q (ninS ne120 nin0))
    have o130 : Old Z n0 T125.heap := ((P1.ext E119).keep K125q (allS ge121 all0))
    have z132 : n0 ≤ T125.heap.size := (Nat.le_trans z126 K125q.1)
    obtain ⟨r131, _, ⟨T131, L131, k131, n131⟩, -, X131, ⟨Lc131, hQ131, l131, y131, z131⟩, st131⟩ := Jvm.LawKit.callS X125 hx (y := (⟨cU6, "toBytes", "([CII)[B"⟩ : MethodName)) hown (mvT hZ (tw hw 71 rfl)) (mvT hZ (tw hw 72 rfl)) (mvT hZ (tw hw 66 rfl)) (mvT hZ (tw hw 73 rfl)) (by decide) (backOf (W := 0) (rmTb1 l Z a0 hw [] ca (0 : Int32) (1 : Int32) y0 T125.heap n0 z132 f129 o130 zAD zHI zLO rfl rfl) hZ (tw hw 73 rfl) (tw hw 66 rfl) (by decide) (by decide)) (g := (mkF m 23 #[vr ca, vi (0 : Int32), vi (1 : Int32), vr b119, vi (0 : Int32), .unset] [(.int (1 : Int32)), (.int (0 : Int32)), (.ref ca)])) rfl (by rw [hml]; rfl) (argsL := [(.ref ca), (.int (0 : Int32)), (.int (1 : Int32))]) (rest := []) (lenOf pd__28_5bCII_29_5bB rfl) rfl (by show 2 * 0 + _ ≤ _; exact Nat.le_of_eq rfl) (hb hby d12_23) (fun _ _ => ⟨rfl, e125, (by decide : 1 + 1 ≤ _), (by decide : 1 + 2 ≤ _)⟩)
    dsimp only [Pt.U, Pt.locs, Pt.cells, Pt.slots] at X131 l131 y131 z131 st131 hQ131
    rw [l131, y131, z131] at X131
    obtain ⟨b133, hr131, N131q, K131q, fz_b133, f134⟩ := hQ131
    rw [hr131] at st131
    have N131 := Fr.app N125 N131q
    refine Go.via (st131) ?_
    clear st131
    have ne135 : b119 ≠ b133 := Nat.ne_of_lt (Nat.lt_of_lt_of_le f128.lt fz_b133)
    have ne136 : ca ≠ b133 := Nat.ne_of_lt (Nat.lt_of_lt_of_le f129.lt fz_b133)
    have ge137 : n0 ≤ b133 := Nat.le_trans z132 fz_b133
    have k139 : Keep h0 T125.heap [] := (((Keep.refl h0 []).ext E119).trans K125q (allS (Or.inr sz122) all0))
    have sz138 : h0.size ≤ b133 := Nat.le_trans k139.1 fz_b133
    have e131 : T131.heap = T131.heap := rfl
    have f140 : Ia Z T131.heap b133 .byte [(loF y0), (hiF y0)] := f134
    clear X125 e125
    show Go p e below (T131.setTop (mkF m 26 #[vr ca, vi (0 : Int32), vi (1 : Int32), vr b119, vi (0 : Int32), .unset] [(.ref b133)])) _
    refine Go.via (fun _ => XS.astore X131.here hx rfl (hb hby d12_26) rfl rfl (l' := #[vr ca, vi (0 : Int32), vi (1 : Int32), vr b119, vi (0 : Int32), vr b133]) rfl) ?_
    refine Go.via (fun _ => XS.aload X131.here hx rfl (hb hby d12_28) rfl rfl) ?_
    refine Go.via (fun _ => XS.iload X131.here hx rfl (hb hby d12_30) rfl) ?_
    have o141 : Old Z n0 T131.heap := (o130.keep K131q all0)
    have z143 : n0 ≤ T131.heap.size := (Nat.le_trans z132 K131q.1)
    obtain ⟨r142, _, ⟨T142, L142, k142, n142⟩, -, X142, ⟨Lc142, hQ142, l142, y142, z142⟩, st142⟩ := Jvm.LawKit.callS X131 hx (y := (⟨cU6, "getChar", "([BI)C"⟩ : MethodName)) hown (mvT hZ (tw hw 87 rfl)) (mvT hZ (tw hw 88 rfl)) (mvT hZ (tw hw 66 rfl)) (mvT hZ (tw hw 89 rfl)) (by decide) (backOf (W := 0) (rmGe10 l Z a0 hw [] b133 (0 : Int32) (loF y0) (hiF y0) y0 T131.heap n0 z143 f140 o141 zAD zHI zLO rfl (own_gc hc0)) hZ (tw hw 89 rfl) (tw hw 66 rfl) (by decide) (by decide)) (g := (mkF m 32 #[vr ca, vi (0 : Int32), vi (1 : Int32), vr b119, vi (0 : Int32), vr b133] [(.int (0 : Int32)), (.ref b133)])) rfl (by rw [hml]; rfl) (argsL := [(.ref b133), (.int (0 : Int32))]) (rest := []) (lenOf pd__28_5bBI_29C rfl) rfl (by show 2 * 0 + _ ≤ _; exact Nat.le_of_eq rfl) (hb hby d12_32) (fun _ _ => ⟨rfl, e131, (by decide : 2 + 0 ≤ _), (by decide : 3 + 0 ≤ _)⟩)
    dsimp only [Pt.U, Pt.locs, Pt.cells, Pt.slots] at X142 l142 y142 z142 st142 hQ142
    rw [l142, y142, z142] at X142
    obtain ⟨hr142, N142q, eh142⟩ := hQ142
    rw [hr142] at st142
    rw [N142q, List.append_nil] at X142
    refine Go.via (st142) ?_
    clear st142
    have e142 : T142.heap = T131.heap := eh142
    clear X131 e131
    show Go p e below (T142.setTop (mkF m 35 #[vr ca, vi (0 : Int32), vi (1 : Int32), vr b119, vi (0 : Int32), vr b133] [(.int y0)])) _
    refine Go.via (fun _ => XS.sipush X142.here hx rfl (hb hby d12_35)) ?_
    refine Go.via (fun _ => XS.icmpYes X142.here hx rfl (pc0 := 38) (pc' := 54) rfl (hb hby d12_38) rfl (tlt (hy0 : (255 : Int32) < y0)).2.2.1 (by decide) (by decide)) ?_
    refine Go.via (fun _ => XS.aload X142.here hx rfl (hb hby d12_54) rfl rfl) ?_
    have k144 : Keep h0 T131.heap [] := (k139.trans K131q all0)
    exact Go.fin X142 hlk (v := some (.ref b133)) (fun h => by rw [Bd.returns] at h; cases h) (fun fs hr => retOut X142 hx Bd.returns rfl (Or.inr (Or.inr (Or.inr (Or.inr ⟨rfl, rfl, rfl⟩)))) (hb hby d12_56) hr) (by rw [e142]; exact ⟨b133, rfl, N131, k144, sz138, f140⟩) (by decide) (by decide)
theorem d13_26 : decode jdk_52_method_21_code 26 = .ok (.aload_n 2, 1) := by decide +kernel
theorem d13_27 : decode jdk_52_method_21_code 27 = .ok (.iload_n 3, 1) := by decide +kernel
theorem d13_28 : decode jdk_52_method_21_code 28 = .ok (.iload 6, 2) := by decide +kernel
theorem d13_30 : decode jdk_52_method_21_code 30 = .ok (.i2b, 1) := by decide +kernel
theorem d13_31 : decode jdk_52_method_21_code 31 = .ok (.bastore, 1) := by decide +kernel
theorem d13_32 : decode jdk_52_method_21_code 32 = .ok (.iinc 1 1, 3) := by decide +kernel
theorem d13_35 : decode jdk_52_method_21_code 35 = .ok (.iinc 3 1, 3) := by decide +kernel
theorem d13_38 : decode jdk_52_method_21_code 38 = .ok (.iinc 5 1, 3) := by decide +kernel
theorem d13_41 : decode jdk_52_method_21_code 41 = .ok (.goto (-38), 3) := by decide +kernel
theorem d13_44 : decode jdk_52_method_21_code 44 = .ok (.iload 4, 2) := by decide +kernel
theorem d13_46 : decode jdk_52_method_21_code 46 = .ok (.ireturn, 1) := by decide +kernel
def Q_rmC5_11 (Z : State) (ca : Addr) (i : Int32) (ba : Addr) (j : Int32) (n : Int32) (y0 : Int32) (h0 : Heap) (n0 : Nat) (vQ : Option Value) (hQ : Heap) (LQ : List Loc) : Prop := vQ = some (.int (1 : Int32)) ∧ Fr n0 LQ ∧ Keep h0 hQ [ba] ∧ Ia Z hQ ba .byte [(nar .byte (y0.toInt8.toInt32))]
set_option maxRecDepth 65536 in
set_option maxHeartbeats 40000000 in
theorem rmC5_11 (l : Launch) (Z : State) (a0 : Array Value) (hw : ∀ d ∈ tables_1, d.before a0 Z = true) (ws : List Jvm.Cond) (ca : Addr) (i : Int32) (ba : Addr) (j : Int32) (n : Int32) (y0 : Int32) (h0 : Heap) (n0 : Nat) (Z0 : n0 ≤ h0.size) (P0 : Ia Z h0 ca .char [y0]) (P1 : Ia Z h0 ba .byte [(0 : Int32)]) (g_ba : n0 ≤ ba) (hcb : ca ≠ ba) (hi : i = 0) (hj : j = 0) (hn : n = 1) (hy0 : ¬ ((255 : Int32) < y0)) :
    MetFree l (⟨cU6, "compress", "([CI[BII)I"⟩ : MethodName) (head1 (Jvm.Cond.code (⟨cU6, "compress", "([CI[BII)I"⟩ : MethodName) jdk_52_method_21_code 7 (some .int) :: ws) ({ frames := 0, cells := 0, slots := 0, locals := 0 } : Room)) (fun aQ UQ => aQ = #[(.ref ca), (.int i), (.ref ba), (.int j), (.int n)] ∧ Z.Warmed39 UQ.vm ∧ UQ.heap = h0) (fun _ _ _ _ _ => True) (fun _ UQ oQ UR => ∃ vQ LQ, oQ = .returned vQ ∧ Q_rmC5_11 Z ca i ba j n y0 h0 n0 vQ UR.heap LQ ∧ FrameEnd UQ oQ UR LQ ({ frames := 0, cells := 0, slots := 0, locals := 0 } : Room).cells ({ frames := 0, cells := 0, slots := 0, locals := 0 } : Room).slots) := by
  refine MetFree.of_bodySF (plainFor_of_name pn_13) hisR ?_
  intro p e s m args below meth c s₁ Bd hml0 hP hK
  obtain ⟨rfl, hZ, hh⟩ := hP
  have hx := Bd.exec
  have hby := Bd.bytes
  have hlk := Bd.notSynchronized
  have hml : c.maxLocals = 7 := hml0
  have hown : s.vm.findClass cU6 = some m.cls := findClass_of_methodNamed Bd.named
  have hnm := (name_of_methodNamed Bd.named Bd.method).1
  have X0 : Stand p l e ({ frames := 0, cells := 0, slots := 0, locals := 0 } : Room) s m #[(.ref ca), (.int i), (.ref ba), (.int j), (.int n)] below meth c s₁ [] 0 0 := Stand.of_body Bd
  have e0 : s₁.heap = h0 := by rw [← hh, Bd.state]; rfl
  have N0 := Fr.nil n0
  show Go p e below _ (Done s (Q_rmC5_11 Z ca i ba j n y0 h0 n0) ({ frames := 0, cells := 0, slots := 0, locals := 0 } : Room).cells ({ frames := 0, cells := 0, slots := 0, locals := 0 } : Room).slots)
  refine Go.via (fun tQ kQ => castTop (ef_13 m ca i ba j n) kQ) ?_
  show Go p e below (s₁.setTop (mkF m 0 #[vr ca, vi i, vr ba, vi j, vi n, .unset, .unset] [])) _
  · subst hi hj hn
    show Go p e below (s₁.setTop (mkF m 0 #[vr ca, vi (0 : Int32), vr ba, vi (0 : Int32), vi (1 : Int32), .unset, .unset] [])) _
    refine Go.via (fun _ => XS.iconst X0.here hx rfl (hb hby d13_0)) ?_
    refine Go.via (fun _ => XS.istore X0.here hx rfl (hb hby d13_1) rfl (l' := #[vr ca, vi (0 : Int32), vr ba, vi (0 : Int32), vi (1 : Int32), vi (0 : Int32), .unset]) rfl) ?_
    refine Go.via (fun _ => XS.iload X0.here hx rfl (hb hby d13_3) rfl) ?_
    refine Go.via (fun _ => XS.iload X0.here hx rfl (hb hby d13_5) rfl) ?_
    refine Go.via (fun _ => XS.icmpNo X0.here hx rfl (hb hby d13_7) rfl (tlt ((by decide) : (0 : Int32) < (1 : Int32))).2.1) ?_
    refine Go.via (fun _ => XS.aloadN X0.here hx rfl (hb hby d13_10) rfl rfl) ?_
    refine Go.via (fun _ => XS.iloadN X0.here hx rfl (hb hby d13_11) rfl) ?_
    show Go p e below (s₁.setTop (mkF m 12 #[vr ca, vi (0 : Int32), vr ba, vi (0 : Int32), vi (1 : Int32), vi (0 : Int32), .unset] [(.int (0 : Int32)), (.ref ca)])) _
    refine Go.via (ldC X0 hx hZ e0 P0 (v := y0) (by decide) rfl (g := (mkF m 12 #[vr ca, vi (0 : Int32), vr ba, vi (0 : Int32), vi (1 : Int32), vi (0 : Int32), .unset] [(.int (0 : Int32)), (.ref ca)])) rfl rfl (hb hby d13_12)) ?_
    show Go p e below (s₁.setTop (mkF m 13 #[vr ca, vi (0 : Int32), vr ba, vi (0 : Int32), vi (1 : Int32), vi (0 : Int32), .unset] [(.int y0)])) _
    refine Go.via (fun _ => XS.istore X0.here hx rfl (hb hby d13_13) rfl (l' := #[vr ca, vi (0 : Int32), vr ba, vi (0 : Int32), vi (1 : Int32), vi (0 : Int32), vi y0]) rfl) ?_
    refine Go.via (fun _ => XS.iload X0.here hx rfl (hb hby d13_15) rfl) ?_
    refine Go.via (fun _ => XS.sipush X0.here hx rfl (hb hby d13_17)) ?_
    refine Go.via (fun _ => XS.icmpYes X0.here hx rfl (pc0 := 20) (pc' := 26) rfl (hb hby d13_20) rfl (flt (hy0 : ¬ ((255 : Int32) < y0))).2.2.2 (by decide) (by decide)) ?_
    refine Go.via (fun _ => XS.aloadN X0.here hx rfl (hb hby d13_26) rfl rfl) ?_
    refine Go.via (fun _ => XS.iloadN X0.here hx rfl (hb hby d13_27) rfl) ?_
    refine Go.via (fun _ => XS.iload X0.here hx rfl (hb hby d13_28) rfl) ?_
    show Go p e below (s₁.setTop (mkF m 30 #[vr ca, vi (0 : Int32), vr ba, vi (0 : Int32), vi (1 : Int32), vi (0 : Int32), vi y0] [(.int y0), (.int (0 : Int32)), (.ref ba)])) _
    refine Go.via (fun _ => XS.i2b X0.here hx rfl (hb hby d13_30) rfl) ?_
    obtain ⟨T145, h145, X145, e145, W145, V145, st145⟩ := stB' X0 hx hZ e0 P1 (j := (0 : Int32)) (by decide) (by first | decide | (simp only [List.length_cons, List.length_nil]; decide) | rfl) (g := (mkF m 31 #[vr ca, vi (0 : Int32), vr ba, vi (0 : Int32), vi (1 : Int32), vi (0 : Int32), vi y0] [(.int (y0.toInt8.toInt32)), (.int (0 : Int32)), (.ref ba)])) rfl rfl (hb hby d13_31)
    refine Go.via (st145) ?_
    clear st145
    have N145 := Fr.snoc X145 N0 g_ba
    have f146 : Ia Z h145 ba .byte [(nar .byte (y0.toInt8.toInt32))] := V145
    clear X0 e0
    show Go p e below (T145.setTop (mkF m 32 #[vr ca, vi (0 : Int32), vr ba, vi (0 : Int32), vi (1 : Int32), vi (0 : Int32), vi y0] [])) _
    refine Go.via (fun _ => XS.iinc X145.here hx rfl (hb hby d13_32) rfl (l' := #[vr ca, vi (1 : Int32), vr ba, vi (0 : Int32), vi (1 : Int32), vi (0 : Int32), vi y0]) rfl) ?_
    refine Go.via (fun _ => XS.iinc X145.here hx rfl (hb hby d13_35) rfl (l' := #[vr ca, vi (1 : Int32), vr ba, vi (1 : Int32), vi (1 : Int32), vi (0 : Int32), vi y0]) rfl) ?_
    refine Go.via (fun _ => XS.iinc X145.here hx rfl (hb hby d13_38) rfl (l' := #[vr ca, vi (1 : Int32), vr ba, vi (1 : Int32), vi (1 : Int32), vi (1 : Int32), vi y0]) rfl) ?_
    refine Go.via (fun _ => XS.goto X145.here hx rfl (pc0 := 41) (pc' := 3) rfl (hb hby d13_41) (by decide) (by decide)) ?_
    refine Go.via (fun _ => XS.iload X145.here hx rfl (hb hby d13_3) rfl) ?_
    refine Go.via (fun _ => XS.iload X145.here hx rfl (hb hby d13_5) rfl) ?_
    refine Go.via (fun _ => XS.icmpYes X145.here hx rfl (pc0 := 7) (pc' := 44) rfl (hb hby d13_7) rfl (flt ((by decide) : ¬ ((1 : Int32) < (1 : Int32)))).2.1 (by decide) (by decide)) ?_
    show Go p e below (T145.setTop (mkF m 44 #[vr ca, vi (1 : Int32), vr ba, vi (1 : Int32), vi (1 : Int32), vi (1 : Int32), vi y0] [])) _
    refine Go.via (fun _ => XS.iload X145.here hx rfl (hb hby d13_44) rfl) ?_
    have k147 : Keep h0 h145 [ba] := ((Keep.refl h0 [ba]).wr W145 (Or.inl (List.mem_of_getElem? (i := 0) rfl)))
    exact Go.fin X145 hlk (v := some (.int (1 : Int32))) (fun h => by rw [Bd.returns] at h; cases h) (fun fs hr => OwnKit.retI X145 hx Bd.returns (hb hby d13_46) hr) (by rw [e145]; exact ⟨rfl, N145, k147, f146⟩) (by decide) (by decide)
theorem d12_57 : decode jdk_52_method_16_code 57 = .ok (.aload_n 3, 1) := by decide +kernel
theorem d12_58 : decode jdk_52_method_16_code 58 = .ok (.areturn, 1) := by decide +kernel
def Q_rmC3_11 (Z : State) (ca : Addr) (i : Int32) (n : Int32) (y0 : Int32) (h0 : Heap) (n0 : Nat) (vQ : Option Value) (hQ : Heap) (LQ : List Loc) : Prop := ∃ r : Addr, vQ = some (.ref r) ∧ Fr n0 LQ ∧ Keep h0 hQ [] ∧ h0.size ≤ r ∧ Ia Z hQ r .byte [(nar .byte (y0.toInt8.toInt32))]
set_option maxRecDepth 65536 in
set_option maxHeartbeats 40000000 in
theorem rmC3_11 (l : Launch) (Z : State) (a0 : Array Value) (hw : ∀ d ∈ tables_1, d.before a0 Z = true) (ws : List Jvm.Cond) (ca : Addr) (i : Int32) (n : Int32) (y0 : Int32) (h0 : Heap) (n0 : Nat) (Z0 : n0 ≤ h0.size) (P0 : Ia Z h0 ca .char [y0]) (P1 : Old Z n0 h0) (zAD : Sta Z Z.heap cU6 "$assertionsDisabled" "Z" (.int (1 : Int32))) (zHI : Sta Z Z.heap cU6 "HI_BYTE_SHIFT" "I" (.int (0 : Int32))) (zLO : Sta Z Z.heap cU6 "LO_BYTE_SHIFT" "I" (.int (8 : Int32))) (hi : i = 0) (hn : n = 1) (hy0 : ¬ ((255 : Int32) < y0)) :
    MetFree l (⟨cU6, "compress", "([CII)[B"⟩ : MethodName) (head1 (Jvm.Cond.code (⟨cU6, "compress", "([CII)[B"⟩ : MethodName) jdk_52_method_16_code 6 (some (.array .byte)) :: ws) ({ frames := 1, cells := 1, slots := 1, locals := 18 } : Room)) (fun aQ UQ => aQ = #[(.ref ca), (.int i), (.int n)] ∧ Z.Warmed39 UQ.vm ∧ UQ.heap = h0) (fun _ _ _ _ _ => True) (fun _ UQ oQ UR => ∃ vQ LQ, oQ = .returned vQ ∧ Q_rmC3_11 Z ca i n y0 h0 n0 vQ UR.heap LQ ∧ FrameEnd UQ oQ UR LQ ({ frames := 1, cells := 1, slots := 1, locals := 18 } : Room).cells ({ frames := 1, cells := 1, slots := 1, locals := 18 } : Room).slots) := by
  refine MetFree.of_bodySF (plainFor_of_name pn_12) hisR ?_
  intro p e s m args below meth c s₁ Bd hml0 hP hK
  obtain ⟨rfl, hZ, hh⟩ := hP
  have hx := Bd.exec
  have hby := Bd.bytes
  have hlk := Bd.notSynchronized
  have hml : c.maxLocals = 6 := hml0
  have hown : s.vm.findClass cU6 = some m.cls := findClass_of_methodNamed Bd.named
  have hnm := (name_of_methodNamed Bd.named Bd.method).1
  have X0 : Stand p l e ({ frames := 1, cells := 1, slots := 1, locals := 18 } : Room) s m #[(.ref ca), (.int i), (.int n)] below meth c s₁ [] 0 0 := Stand.of_body Bd
  have e0 : s₁.heap = h0 := by rw [← hh, Bd.state]; rfl
  have N0 := Fr.nil n0
  show Go p e below _ (Done s (Q_rmC3_11 Z ca i n y0 h0 n0) ({ frames := 1, cells := 1, slots := 1, locals := 18 } : Room).cells ({ frames := 1, cells := 1, slots := 1, locals := 18 } : Room).slots)
  refine Go.via (fun tQ kQ => castTop (ef_12 m ca i n) kQ) ?_
  show Go p e below (s₁.setTop (mkF m 0 #[vr ca, vi i, vi n, .unset, .unset, .unset] [])) _
  · subst hi hn
    show Go p e below (s₁.setTop (mkF m 0 #[vr ca, vi (0 : Int32), vi (1 : Int32), .unset, .unset, .unset] [])) _
    refine Go.via (fun _ => XS.iloadN X0.here hx rfl (hb hby d12_0) rfl) ?_
    obtain ⟨T148, h148, k148, X148, e148, E148, A148, B148, st148⟩ := newPE X0 hx hZ (tw hw 27 rfl) e0 (g := (mkF m 1 #[vr ca, vi (0 : Int32), vi (1 : Int32), .unset, .unset, .unset] [(.int (1 : Int32))])) rfl (hb hby d12_1) rfl (by decide) (cap := 1) (by decide) (by decide) (by decide) (by decide) (ad := "[B") (by decide)
    obtain ⟨b148, g148⟩ : ∃ z, z = h0.size := ⟨_, rfl⟩
    rw [← g148] at A148 B148 st148
    have ne149 : ca ≠ b148 := Nat.ne_of_lt (Nat.lt_of_lt_of_le P0.lt (Nat.le_of_eq g148.symm))
    have ge150 : n0 ≤ b148 := Nat.le_trans Z0 (Nat.le_of_eq g148.symm)
    have sz151 : h0.size ≤ b148 := Nat.le_trans (Keep.refl h0 []).1 (Nat.le_of_eq g148.symm)
    refine Go.via (st148) ?_
    clear st148
    have f152 : Ia Z h148 b148 .byte [(0 : Int32)] := Ia.new A148 rfl
    clear X0 e0
    show Go p e below (T148.setTop (mkF m 3 #[vr ca, vi (0 : Int32), vi (1 : Int32), .unset, .unset, .unset] [(.ref b148)])) _
    refine Go.via (fun _ => XS.astoreN X148.here hx rfl (hb hby d12_3) rfl rfl (l' := #[vr ca, vi (0 : Int32), vi (1 : Int32), vr b148, .unset, .unset]) rfl) ?_
    refine Go.via (fun _ => XS.aloadN X148.here hx rfl (hb hby d12_4) rfl rfl) ?_
    refine Go.via (fun _ => XS.iloadN X148.here hx rfl (hb hby d12_5) rfl) ?_
    refine Go.via (fun _ => XS.aloadN X148.here hx rfl (hb hby d12_6) rfl rfl) ?_
    refine Go.via (fun _ => XS.iconst X148.here hx rfl (hb hby d12_7)) ?_
    refine Go.via (fun _ => XS.iloadN X148.here hx rfl (hb hby d12_8) rfl) ?_
    have f153 : Ia Z h148 ca .char [y0] := (P0.ext E148)
    have z155 : n0 ≤ h148.size := (Nat.le_trans Z0 E148.1)
    obtain ⟨r154, _, ⟨T154, L154, k154, n154⟩, -, X154, ⟨Lc154, hQ154, l154, y154, z154⟩, st154⟩ := Jvm.LawKit.callS X148 hx (y := (⟨cU6, "compress", "([CI[BII)I"⟩ : MethodName)) hown (mvT hZ (tw hw 68 rfl)) (mvT hZ (tw hw 69 rfl)) (mvT hZ (tw hw 66 rfl)) (mvT hZ (tw hw 70 rfl)) (by decide) (backOf (W := 0) (rmC5_11 l Z a0 hw [] ca (0 : Int32) b148 (0 : Int32) (1 : Int32) y0 h148 n0 z155 f153 f152 ge150 ne149 rfl rfl rfl hy0) hZ (tw hw 70 rfl) (tw hw 66 rfl) (by decide) (by decide)) (g := (mkF m 9 #[vr ca, vi (0 : Int32), vi (1 : Int32), vr b148, .unset, .unset] [(.int (1 : Int32)), (.int (0 : Int32)), (.ref b148), (.int (0 : Int32)), (.ref ca)])) rfl (by rw [hml]; rfl) (argsL := [(.ref ca), (.int (0 : Int32)), (.ref b148), (.int (0 : Int32)), (.int (1 : Int32))]) (rest := []) (lenOf pd__28_5bCI_5bBII_29I rfl) rfl (by show 2 * 0 + _ ≤ _; exact Nat.le_of_eq rfl) (hb hby d12_9) (fun _ _ => ⟨rfl, e148, (by decide : 1 + 0 ≤ _), (by decide : 1 + 0 ≤ _)⟩)
    dsimp only [Pt.U, Pt.locs, Pt.cells, Pt.slots] at X154 l154 y154 z154 st154 hQ154
    rw [l154, y154, z154] at X154
    obtain ⟨hr154, N154q, K154q, f156⟩ := hQ154
    rw [hr154] at st154
    have N154 := Fr.app N0 N154q
    refine Go.via (st154) ?_
    clear st154
    have e154 : T154.heap = T154.heap := rfl
    have f157 : Ia Z T154.heap b148 .byte [(nar .byte (y0.toInt8.toInt32))] := f156
    clear X148 e148
    show Go p e below (T154.setTop (mkF m 12 #[vr ca, vi (0 : Int32), vi (1 : Int32), vr b148, .unset, .unset] [(.int (1 : Int32))])) _
    refine Go.via (fun _ => XS.istore X154.here hx rfl (hb hby d12_12) rfl (l' := #[vr ca, vi (0 : Int32), vi (1 : Int32), vr b148, vi (1 : Int32), .unset]) rfl) ?_
    refine Go.via (fun _ => XS.iload X154.here hx rfl (hb hby d12_14) rfl) ?_
    refine Go.via (fun _ => XS.iloadN X154.here hx rfl (hb hby d12_16) rfl) ?_
    refine Go.via (fun _ => XS.icmpYes X154.here hx rfl (pc0 := 17) (pc' := 57) rfl (hb hby d12_17) rfl (teq ((by decide) : (1 : Int32) = (1 : Int32))).1 (by decide) (by decide)) ?_
    refine Go.via (fun _ => XS.aloadN X154.here hx rfl (hb hby d12_57) rfl rfl) ?_
    have k158 : Keep h0 T154.heap [] := (((Keep.refl h0 []).ext E148).trans K154q (allS (Or.inr sz151) all0))
    exact Go.fin X154 hlk (v := some (.ref b148)) (fun h => by rw [Bd.returns] at h; cases h) (fun fs hr => retOut X154 hx Bd.returns rfl (Or.inr (Or.inr (Or.inr (Or.inr ⟨rfl, rfl, rfl⟩)))) (hb hby d12_58) hr) (by exact ⟨b148, rfl, N154, k158, sz151, f157⟩) (by decide) (by decide)
theorem d4_0 : decode jdk_42_method_149_code 0 = .ok (.aload_n 0, 1) := by decide +kernel
theorem d4_1 : decode jdk_42_method_149_code 1 = .ok (.invokespecial 1, 3) := by decide +kernel
theorem d4_4 : decode jdk_42_method_149_code 4 = .ok (.iload_n 3, 1) := by decide +kernel
theorem d4_5 : decode jdk_42_method_149_code 5 = .ok (.ifCond .ne 22, 3) := by decide +kernel
theorem d4_27 : decode jdk_42_method_149_code 27 = .ok (.getstatic 38, 3) := by decide +kernel
theorem d4_30 : decode jdk_42_method_149_code 30 = .ok (.ifCond .eq 28, 3) := by decide +kernel
theorem d4_33 : decode jdk_42_method_149_code 33 = .ok (.aload_n 1, 1) := by decide +kernel
theorem d4_34 : decode jdk_42_method_149_code 34 = .ok (.iload_n 2, 1) := by decide +kernel
theorem d4_35 : decode jdk_42_method_149_code 35 = .ok (.iload_n 3, 1) := by decide +kernel
theorem d4_36 : decode jdk_42_method_149_code 36 = .ok (.invokestatic 177, 3) := by decide +kernel
theorem d4_39 : decode jdk_42_method_149_code 39 = .ok (.astore 5, 2) := by decide +kernel
theorem d4_41 : decode jdk_42_method_149_code 41 = .ok (.aload_n 0, 1) := by decide +kernel
theorem d4_42 : decode jdk_42_method_149_code 42 = .ok (.aload 5, 2) := by decide +kernel
theorem d4_44 : decode jdk_42_method_149_code 44 = .ok (.iload_n 3, 1) := by decide +kernel
theorem d4_45 : decode jdk_42_method_149_code 45 = .ok (.invokestatic 47, 3) := by decide +kernel
theorem pd__28_5bBI_29B : parseMethodDescriptor "([BI)B" = some ⟨[(.array .byte), .int], some .byte⟩ := by decide +kernel
theorem d4_48 : decode jdk_42_method_149_code 48 = .ok (.putfield 15, 3) := by decide +kernel
theorem d4_51 : decode jdk_42_method_149_code 51 = .ok (.aload_n 0, 1) := by decide +kernel
theorem d4_52 : decode jdk_42_method_149_code 52 = .ok (.aload 5, 2) := by decide +kernel
theorem d4_54 : decode jdk_42_method_149_code 54 = .ok (.putfield 9, 3) := by decide +kernel
theorem d4_57 : decode jdk_42_method_149_code 57 = .ok (.return_, 1) := by decide +kernel
theorem pn_4 : plainName cST = true := by first | (simp [plainName, overriddenIn]; done) | decide +kernel
theorem ef_4n4 (m : MethodId) (x0 : Addr) (x1 : Addr) (x2 : Int32) (x3 : Int32) : entryFrame m #[(.ref x0), (.ref x1), (.int x2), (.int x3), .null] 6 = mkF m 0 #[.val (.ref x0), .val (.ref x1), .val (.int x2), .val (.int x3), .val .null, .unset] [] := by first | (simp [entryFrame, mkF, argsToLocals, Value.category]; done) | rfl
def Q_rmI5_1 (Z : State) (a : Addr) (ca : Addr) (i : Int32) (n : Int32) (y0 : Int32) (cs : Int32) (h0 : Heap) (n0 : Nat) (vQ : Option Value) (hQ : Heap) (LQ : List Loc) : Prop := ∃ b_ : Addr, ∃ co : Int32, ∃ ys : List Int32, vQ = none ∧ Fr n0 LQ ∧ Keep h0 hQ [a] ∧ Exa Z hQ a cST ∧ Fld Z hQ a cST "coder" "B" (.int co) ∧ Fld Z hQ a cST "value" "[B" (.ref b_) ∧ Ia Z hQ b_ .byte ys ∧ (Rep [y0] co ys)
set_option maxRecDepth 65536 in
set_option maxHeartbeats 40000000 in
theorem rmI5_1 (l : Launch) (Z : State) (a0 : Array Value) (hw : ∀ d ∈ tables_1, d.before a0 Z = true) (ws : List Jvm.Cond) (a : Addr) (ca : Addr) (i : Int32) (n : Int32) (y0 : Int32) (cs : Int32) (h0 : Heap) (n0 : Nat) (Z0 : n0 ≤ h0.size) (P0 : Fld Z h0 a cST "coder" "B" (.int (0 : Int32))) (P1 : Fld Z h0 a cST "value" "[B" .null) (P2 : Exa Z h0 a cST) (P3 : Ia Z h0 ca .char [y0]) (P4 : Old Z n0 h0) (zCS : Sta Z Z.heap cST "COMPACT_STRINGS" "Z" (.int cs)) (zAD : Sta Z Z.heap cU6 "$assertionsDisabled" "Z" (.int (1 : Int32))) (zHI : Sta Z Z.heap cU6 "HI_BYTE_SHIFT" "I" (.int (0 : Int32))) (zLO : Sta Z Z.heap cU6 "LO_BYTE_SHIFT" "I" (.int (8 : Int32))) (g_a : n0 ≤ a) (hac : a ≠ ca) (hi : i = 0) (hn : n = 1) (hcs : ¬ (cs = (0 : Int32))) (hc0 : Ch y0) :
    MetFree l (⟨cST, "<init>", "([CIILjava/lang/Void;)V"⟩ : MethodName) (head1 (Jvm.Cond.code (⟨cST, "<init>", "([CIILjava/lang/Void;)V"⟩ : MethodName) jdk_42_method_149_code 6 none :: ws) ({ frames := 4, cells := 2, slots := 3, locals := 57 } : Room)) (fun aQ UQ => aQ = #[(.ref a), (.ref ca), (.int i), (.int n), .null] ∧ Z.Warmed39 UQ.vm ∧ UQ.heap = h0) (fun _ _ _ _ _ => True) (fun _ UQ oQ UR => ∃ vQ LQ, oQ = .returned vQ ∧ Q_rmI5_1 Z a ca i n y0 cs h0 n0 vQ UR.heap LQ ∧ FrameEnd UQ oQ UR LQ ({ frames := 4, cells := 2, slots := 3, locals := 57 } : Room).cells ({ frames := 4, cells := 2, slots := 3, locals := 57 } : Room).slots) := by
  refine MetFree.of_bodySF (plainFor_of_name pn_4) hisR ?_
  intro p e s m args below meth c s₁ Bd hml0 hP hK
  obtain ⟨rfl, hZ, hh⟩ := hP
  have hx := Bd.exec
  have hby := Bd.bytes
  have hlk := Bd.notSynchronized
  have hml : c.maxLocals = 6 := hml0
  have hown : s.vm.findClass cST = some m.cls := findClass_of_methodNamed Bd.named
  have hnm := (name_of_methodNamed Bd.named Bd.method).1
  have X0 : Stand p l e ({ frames := 4, cells := 2, slots := 3, locals := 57 } : Room) s m #[(.ref a), (.ref ca), (.int i), (.int n), .null] below meth c s₁ [] 0 0 := Stand.of_body Bd
  have e0 : s₁.heap = h0 := by rw [← hh, Bd.state]; rfl
  have N0 := Fr.nil n0
  show Go p e below _ (Done s (Q_rmI5_1 Z a ca i n y0 cs h0 n0) ({ frames := 4, cells := 2, slots := 3, locals := 57 } : Room).cells ({ frames := 4, cells := 2, slots := 3, locals := 57 } : Room).slots)
  refine Go.via (fun tQ kQ => castTop (ef_4n4 m a ca i n) kQ) ?_
  show Go p e below (s₁.setTop (mkF m 0 #[vr a, vr ca, vi i, vi n, .val .null, .unset] [])) _
  · subst hi hn
    show Go p e below (s₁.setTop (mkF m 0 #[vr a, vr ca, vi (0 : Int32), vi (1 : Int32), .val .null, .unset] [])) _
    refine Go.via (fun _ => XS.aloadN X0.here hx rfl (hb hby d4_0) rfl rfl) ?_
    obtain ⟨T159, X159, e159, st159⟩ := initO X0 hx hZ hown (tw hw 23 rfl) (tw hw 24 rfl) (tw hw 25 rfl) e0 (g := (mkF m 1 #[vr a, vr ca, vi (0 : Int32), vi (1 : Int32), .val .null, .unset] [(.ref a)])) rfl (by rw [hml]; rfl) rfl (hb hby d4_1) (by decide) (W := 0) (by show 2 * 0 + _ ≤ _; exact Nat.le_of_eq rfl) (by decide)
    refine Go.via (st159) ?_
    clear st159
    clear X0 e0
    show Go p e below (T159.setTop (mkF m 4 #[vr a, vr ca, vi (0 : Int32), vi (1 : Int32), .val .null, .unset] [])) _
    by_cases hy0 : (255 : Int32) < y0
    · show Go p e below (T159.setTop (mkF m 4 #[vr a, vr ca, vi (0 : Int32), vi (1 : Int32), .val .null, .unset] [])) _
      refine Go.via (fun _ => XS.iloadN X159.here hx rfl (hb hby d4_4) rfl) ?_
      refine Go.via (fun _ => XS.ifYes X159.here hx rfl (pc0 := 5) (pc' := 27) rfl (hb hby d4_5) rfl ((if0 _ _).trans (feq ((by decide) : ¬ ((1 : Int32) = (0 : Int32)))).2) (by decide) (by decide)) ?_
      have f160 : Sta Z h0 cST "COMPACT_STRINGS" "Z" (.int cs) := zCS.ext P4.2
      obtain ⟨T161, X161, e161, st161⟩ := getS2 X159 hx hZ hown (host := "") (Or.inl (tw hw 56 rfl)) Via.refl e159 f160 (g := (mkF m 27 #[vr a, vr ca, vi (0 : Int32), vi (1 : Int32), .val .null, .unset] [])) rfl (hb hby d4_27)
      refine Go.via (st161) ?_
      clear st161
      clear X159 e159
      show Go p e below (T161.setTop (mkF m 30 #[vr a, vr ca, vi (0 : Int32), vi (1 : Int32), .val .null, .unset] [(.int cs)])) _
      refine Go.via (fun _ => XS.ifNo X161.here hx rfl (hb hby d4_30) rfl ((if0 _ _).trans (feq (hcs : ¬ (cs = (0 : Int32)))).1)) ?_
      refine Go.via (fun _ => XS.aloadN X161.here hx rfl (hb hby d4_33) rfl rfl) ?_
      refine Go.via (fun _ => XS.iloadN X161.here hx rfl (hb hby d4_34) rfl) ?_
      refine Go.via (fun _ => XS.iloadN X161.here hx rfl (hb hby d4_35) rfl) ?_
      obtain ⟨r162, _, ⟨T162, L162, k162, n162⟩, -, X162, ⟨Lc162, hQ162, l162, y162, z162⟩, st162⟩ := Jvm.LawKit.callS X161 hx (y := (⟨cU6, "compress", "([CII)[B"⟩ : MethodName)) hown (mvT hZ (tw hw 64 rfl)) (mvT hZ (tw hw 65 rfl)) (mvT hZ (tw hw 66 rfl)) (mvT hZ (tw hw 67 rfl)) (by decide) (backOf (W := 0) (rmC3_10 l Z a0 hw [] ca (0 : Int32) (1 : Int32) y0 h0 n0 Z0 P3 P4 zAD zHI zLO rfl rfl hy0 hc0) hZ (tw hw 67 rfl) (tw hw 66 rfl) (by decide) (by decide)) (g := (mkF m 36 #[vr a, vr ca, vi (0 : Int32), vi (1 : Int32), .val .null, .unset] [(.int (1 : Int32)), (.int (0 : Int32)), (.ref ca)])) rfl (by rw [hml]; rfl) (argsL := [(.ref ca), (.int (0 : Int32)), (.int (1 : Int32))]) (rest := []) (lenOf pd__28_5bCII_29_5bB rfl) rfl (by show 2 * 0 + _ ≤ _; exact Nat.le_of_eq rfl) (hb hby d4_36) (fun _ _ => ⟨rfl, e161, (by decide : 0 + 2 ≤ _), (by decide : 0 + 3 ≤ _)⟩)
      dsimp only [Pt.U, Pt.locs, Pt.cells, Pt.slots] at X162 l162 y162 z162 st162 hQ162
      rw [l162, y162, z162] at X162
      obtain ⟨b163, hr162, N162q, K162q, fz_b163, f164⟩ := hQ162
      rw [hr162] at st162
      have N162 := Fr.app N0 N162q
      refine Go.via (st162) ?_
      clear st162
      have ne165 : a ≠ b163 := Nat.ne_of_lt (Nat.lt_of_lt_of_le P0.lt fz_b163)
      have ne166 : ca ≠ b163 := Nat.ne_of_lt (Nat.lt_of_lt_of_le P3.lt fz_b163)
      have ge167 : n0 ≤ b163 := Nat.le_trans Z0 fz_b163
      have sz168 : h0.size ≤ b163 := Nat.le_trans (Keep.refl h0 [a]).1 fz_b163
      have e162 : T162.heap = T162.heap := rfl
      have f169 : Ia Z T162.heap b163 .byte [(loF y0), (hiF y0)] := f164
      clear X161 e161
      show Go p e below (T162.setTop (mkF m 39 #[vr a, vr ca, vi (0 : Int32), vi (1 : Int32), .val .null, .unset] [(.ref b163)])) _
      refine Go.via (fun _ => XS.astore X162.here hx rfl (hb hby d4_39) rfl rfl (l' := #[vr a, vr ca, vi (0 : Int32), vi (1 : Int32), .val .null, vr b163]) rfl) ?_
      refine Go.via (fun _ => XS.aloadN X162.here hx rfl (hb hby d4_41) rfl rfl) ?_
      refine Go.via (fun _ => XS.aload X162.here hx rfl (hb hby d4_42) rfl rfl) ?_
      refine Go.via (fun _ => XS.iloadN X162.here hx rfl (hb hby d4_44) rfl) ?_
      have z171 : n0 ≤ T162.heap.size := (Nat.le_trans Z0 K162q.1)
      obtain ⟨r170, _, ⟨T170, L170, k170, n170⟩, -, X170, ⟨Lc170, hQ170, l170, y170, z170⟩, st170⟩ := Jvm.LawKit.callS X162 hx (y := (⟨cU6, "coderFromArrayLen", "([BI)B"⟩ : MethodName)) hown (mvT hZ (tw hw 90 rfl)) (mvT hZ (tw hw 91 rfl)) (mvT hZ (tw hw 66 rfl)) (mvT hZ (tw hw 92 rfl)) (by decide) (backOf (W := 1) (rmCl11 l Z a0 hw [] b163 (1 : Int32) (loF y0) (hiF y0) T162.heap n0 z171 f169 rfl) hZ (tw hw 92 rfl) (tw hw 66 rfl) (by decide) (by decide)) (g := (mkF m 45 #[vr a, vr ca, vi (0 : Int32), vi (1 : Int32), .val .null, vr b163] [(.int (1 : Int32)), (.ref b163), (.ref a)])) rfl (by rw [hml]; rfl) (argsL := [(.ref b163), (.int (1 : Int32))]) (rest := [(.ref a)]) (lenOf pd__28_5bBI_29B rfl) rfl (by show 2 * 0 + _ ≤ _; exact Nat.le_of_eq rfl) (hb hby d4_45) (fun _ _ => ⟨rfl, e162, (by decide : 2 + 0 ≤ _), (by decide : 3 + 0 ≤ _)⟩)
      dsimp only [Pt.U, Pt.locs, Pt.cells, Pt.slots] at X170 l170 y170 z170 st170 hQ170
      rw [l170, y170, z170] at X170
      obtain ⟨hr170, N170q, eh170⟩ := hQ170
      rw [hr170] at st170
      have N170 := Fr.app N162 N170q
      refine Go.via (st170) ?_
      clear st170
      have e170 : T170.heap = T162.heap := eh170
      clear X162 e162
      show Go p e below (T170.setTop (mkF m 48 #[vr a, vr ca, vi (0 : Int32), vi (1 : Int32), .val .null, vr b163] [(.int (1 : Int32)), (.ref a)])) _
      have f172 : Fld Z T162.heap a cST "coder" "B" (.int (0 : Int32)) := (P0.keep K162q nin0)
      have f173 : Exa Z T162.heap a cST := (P2.keep K162q)
      obtain ⟨T174, h174, X174, e174, W174, st174⟩ := putF X170 hx hZ hown (host := "") (Or.inl (tw hw 33 rfl)) Via.refl e170 f172 f173 (Or.inr ⟨(tw hw 29 rfl), rfl, hnm⟩) (tw hw 13 rfl) (ty := .byte) (by decide) rfl rfl (g := (mkF m 48 #[vr a, vr ca, vi (0 : Int32), vi (1 : Int32), .val .null, vr b163] [(.int (1 : Int32)), (.ref a)])) rfl rfl (hb hby d4_48)
      refine Go.via (st174) ?_
      clear st174
      have N174 := Fr.snoc X174 N170 g_a
      have f175 : Fld Z h174 a cST "coder" "B" (.int (1 : Int32)) := f172.same W174
      clear X170 e170
      show Go p e below (T174.setTop (mkF m 51 #[vr a, vr ca, vi (0 : Int32), vi (1 : Int32), .val .null, vr b163] [])) _
      refine Go.via (fun _ => XS.aloadN X174.here hx rfl (hb hby d4_51) rfl rfl) ?_
      refine Go.via (fun _ => XS.aload X174.here hx rfl (hb hby d4_52) rfl rfl) ?_
      have f176 : Fld Z h174 a cST "value" "[B" .null := ((P1.keep K162q nin0).other W174 (Or.inr (slot_ne (Or.inr (tw hw 28 rfl)) (Or.inr (tw hw 29 rfl)) (by decide) (t := (.array .byte)) (t' := .byte) (by decide) (by decide))))
      have f177 : Exa Z h174 a cST := (f173.wr W174)
      obtain ⟨T178, h178, X178, e178, W178, st178⟩ := putF X174 hx hZ hown (host := "") (Or.inl (tw hw 32 rfl)) Via.refl e174 f176 f177 (Or.inr ⟨(tw hw 28 rfl), rfl, hnm⟩) (tw hw 13 rfl) (ty := (.array .byte)) (by decide) rfl rfl (g := (mkF m 54 #[vr a, vr ca, vi (0 : Int32), vi (1 : Int32), .val .null, vr b163] [(.ref b163), (.ref a)])) rfl rfl (hb hby d4_54)
      refine Go.via (st178) ?_
      clear st178
      have N178 := Fr.snoc X178 N174 g_a
      have f179 : Fld Z h178 a cST "value" "[B" (.ref b163) := f176.same W178
      clear X174 e174
      show Go p e below (T178.setTop (mkF m 57 #[vr a, vr ca, vi (0 : Int32), vi (1 : Int32), .val .null, vr b163] [])) _
      have k180 : Keep h0 h178 [a] := ((((Keep.refl h0 [a]).trans K162q all0).wr W174 (Or.inl (List.mem_of_getElem? (i := 0) rfl))).wr W178 (Or.inl (List.mem_of_getElem? (i := 0) rfl)))
      have f181 : Exa Z h178 a cST := (f177.wr W178)
      have f182 : Fld Z h178 a cST "coder" "B" (.int (1 : Int32)) := (f175.other W178 (Or.inr (slot_ne (Or.inr (tw hw 29 rfl)) (Or.inr (tw hw 28 rfl)) (by decide) (t := .byte) (t' := (.array .byte)) (by decide) (by decide))))
      have f183 : Ia Z h178 b163 .byte [(loF y0), (hiF y0)] := ((f169.other W174 (Ne.symm ne165)).other W178 (Ne.symm ne165))
      exact Go.fin X178 hlk (v := none) (fun _ => rfl) (fun fs hr => X178.returnOut hx Bd.returns (hb hby d4_57) hr) (by rw [e178]; exact ⟨b163, (1 : Int32), [(loF y0), (hiF y0)], rfl, N178, k180, f181, f182, f179, f183, Or.inr (Or.inr (Or.inl ⟨_, rfl, rfl, rfl, hc0⟩))⟩) (by decide) (by decide)
    · show Go p e below (T159.setTop (mkF m 4 #[vr a, vr ca, vi (0 : Int32), vi (1 : Int32), .val .null, .unset] [])) _
      refine Go.via (fun _ => XS.iloadN X159.here hx rfl (hb hby d4_4) rfl) ?_
      refine Go.via (fun _ => XS.ifYes X159.here hx rfl (pc0 := 5) (pc' := 27) rfl (hb hby d4_5) rfl ((if0 _ _).trans (feq ((by decide) : ¬ ((1 : Int32) = (0 : Int32)))).2) (by decide) (by decide)) ?_
      have f184 : Sta Z h0 cST "COMPACT_STRINGS" "Z" (.int cs) := zCS.ext P4.2
      obtain ⟨T185, X185, e185, st185⟩ := getS2 X159 hx hZ hown (host := "") (Or.inl (tw hw 56 rfl)) Via.refl e159 f184 (g := (mkF m 27 #[vr a, vr ca, vi (0 : Int32), vi (1 : Int32), .val .null, .unset] [])) rfl (hb hby d4_27)
      refine Go.via (st185) ?_
      clear st185
      clear X159 e159
      show Go p e below (T185.setTop (mkF m 30 #[vr a, vr ca, vi (0 : Int32), vi (1 : Int32), .val .null, .unset] [(.int cs)])) _
      refine Go.via (fun _ => XS.ifNo X185.here hx rfl (hb hby d4_30) rfl ((if0 _ _).trans (feq (hcs : ¬ (cs = (0 : Int32)))).1)) ?_
      refine Go.via (fun _ => XS.aloadN X185.here hx rfl (hb hby d4_33) rfl rfl) ?_
      refine Go.via (fun _ => XS.iloadN X185.here hx rfl (hb hby d4_34) rfl) ?_
      refine Go.via (fun _ => XS.iloadN X185.here hx rfl (hb hby d4_35) rfl) ?_
      obtain ⟨r186, _, ⟨T186, L186, k186, n186⟩, -, X186, ⟨Lc186, hQ186, l186, y186, z186⟩, st186⟩ := Jvm.LawKit.callS X185 hx (y := (⟨cU6, "compress", "([CII)[B"⟩ : MethodName)) hown (mvT hZ (tw hw 64 rfl)) (mvT hZ (tw hw 65 rfl)) (mvT hZ (tw hw 66 rfl)) (mvT hZ (tw hw 67 rfl)) (by decide) (backOf (W := 0) (rmC3_11 l Z a0 hw [] ca (0 : Int32) (1 : Int32) y0 h0 n0 Z0 P3 P4 zAD zHI zLO rfl rfl hy0) hZ (tw hw 67 rfl) (tw hw 66 rfl) (by decide) (by decide)) (g := (mkF m 36 #[vr a, vr ca, vi (0 : Int32), vi (1 : Int32), .val .null, .unset] [(.int (1 : Int32)), (.int (0 : Int32)), (.ref ca)])) rfl (by rw [hml]; rfl) (argsL := [(.ref ca), (.int (0 : Int32)), (.int (1 : Int32))]) (rest := []) (lenOf pd__28_5bCII_29_5bB rfl) rfl (by show 2 * 0 + _ ≤ _; exact Nat.le_of_eq rfl) (hb hby d4_36) (fun _ _ => ⟨rfl, e185, (by decide : 0 + 1 ≤ _), (by decide : 0 + 1 ≤ _)⟩)
      dsimp only [Pt.U, Pt.locs, Pt.cells, Pt.slots] at X186 l186 y186 z186 st186 hQ186
      rw [l186, y186, z186] at X186
      obtain ⟨b187, hr186, N186q, K186q, fz_b187, f188⟩ := hQ186
      rw [hr186] at st186
      have N186 := Fr.app N0 N186q
      refine Go.via (st186) ?_
      clear st186
      have ne189 : a ≠ b187 := Nat.ne_of_lt (Nat.lt_of_lt_of_le P0.lt fz_b187)
      have ne190 : ca ≠ b187 := Nat.ne_of_lt (Nat.lt_of_lt_of_le P3.lt fz_b187)
      have ge191 : n0 ≤ b187 := Nat.le_trans Z0 fz_b187
      have sz192 : h0.size ≤ b187 := Nat.le_trans (Keep.refl h0 [a]).1 fz_b187
      have e186 : T186.heap = T186.heap := rfl
      have f193 : Ia Z T186.heap b187 .byte [(nar .byte (y0.toInt8.toInt32))] := f188
      clear X185 e185
      show Go p e below (T186.setTop (mkF m 39 #[vr a, vr ca, vi (0 : Int32), vi (1 : Int32), .val .null, .unset] [(.ref b187)])) _
      refine Go.via (fun _ => XS.astore X186.here hx rfl (hb hby d4_39) rfl rfl (l' := #[vr a, vr ca, vi (0 : Int32), vi (1 : Int32), .val .null, vr b187]) rfl) ?_
      refine Go.via (fun _ => XS.aloadN X186.here hx rfl (hb hby d4_41) rfl rfl) ?_
      refine Go.via (fun _ => XS.aload X186.here hx rfl (hb hby d4_42) rfl rfl) ?_
      refine Go.via (fun _ => XS.iloadN X186.here hx rfl (hb hby d4_44) rfl) ?_
      have z195 : n0 ≤ T186.heap.size := (Nat.le_trans Z0 K186q.1)
      obtain ⟨r194, _, ⟨T194, L194, k194, n194⟩, -, X194, ⟨Lc194, hQ194, l194, y194, z194⟩, st194⟩ := Jvm.LawKit.callS X186 hx (y := (⟨cU6, "coderFromArrayLen", "([BI)B"⟩ : MethodName)) hown (mvT hZ (tw hw 90 rfl)) (mvT hZ (tw hw 91 rfl)) (mvT hZ (tw hw 66 rfl)) (mvT hZ (tw hw 92 rfl)) (by decide) (backOf (W := 1) (rmCl10 l Z a0 hw [] b187 (1 : Int32) (nar .byte (y0.toInt8.toInt32)) T186.heap n0 z195 f193 rfl) hZ (tw hw 92 rfl) (tw hw 66 rfl) (by decide) (by decide)) (g := (mkF m 45 #[vr a, vr ca, vi (0 : Int32), vi (1 : Int32), .val .null, vr b187] [(.int (1 : Int32)), (.ref b187), (.ref a)])) rfl (by rw [hml]; rfl) (argsL := [(.ref b187), (.int (1 : Int32))]) (rest := [(.ref a)]) (lenOf pd__28_5bBI_29B rfl) rfl (by show 2 * 0 + _ ≤ _; exact Nat.le_of_eq rfl) (hb hby d4_45) (fun _ _ => ⟨rfl, e186, (by decide : 1 + 0 ≤ _), (by decide : 1 + 0 ≤ _)⟩)
      dsimp only [Pt.U, Pt.locs, Pt.cells, Pt.slots] at X194 l194 y194 z194 st194 hQ194
      rw [l194, y194, z194] at X194
      obtain ⟨hr194, N194q, eh194⟩ := hQ194
      rw [hr194] at st194
      have N194 := Fr.app N186 N194q
      refine Go.via (st194) ?_
      clear st194
      have e194 : T194.heap = T186.heap := eh194
      clear X186 e186
      show Go p e below (T194.setTop (mkF m 48 #[vr a, vr ca, vi (0 : Int32), vi (1 : Int32), .val .null, vr b187] [(.int (0 : Int32)), (.ref a)])) _
      have f196 : Fld Z T186.heap a cST "coder" "B" (.int (0 : Int32)) := (P0.keep K186q nin0)
      have f197 : Exa Z T186.heap a cST := (P2.keep K186q)
      obtain ⟨T198, h198, X198, e198, W198, st198⟩ := putF X194 hx hZ hown (host := "") (Or.inl (tw hw 33 rfl)) Via.refl e194 f196 f197 (Or.inr ⟨(tw hw 29 rfl), rfl, hnm⟩) (tw hw 13 rfl) (ty := .byte) (by decide) rfl rfl (g := (mkF m 48 #[vr a, vr ca, vi (0 : Int32), vi (1 : Int32), .val .null, vr b187] [(.int (0 : Int32)), (.ref a)])) rfl rfl (hb hby d4_48)
      refine Go.via (st198) ?_
      clear st198
      have N198 := Fr.snoc X198 N194 g_a
      have f199 : Fld Z h198 a cST "coder" "B" (.int (0 : Int32)) := f196.same W198
      clear X194 e194
      show Go p e below (T198.setTop (mkF m 51 #[vr a, vr ca, vi (0 : Int32), vi (1 : Int32), .val .null, vr b187] [])) _
      refine Go.via (fun _ => XS.aloadN X198.here hx rfl (hb hby d4_51) rfl rfl) ?_
      refine Go.via (fun _ => XS.aload X198.here hx rfl (hb hby d4_52) rfl rfl) ?_
      have f200 : Fld Z h198 a cST "value" "[B" .null := ((P1.keep K186q nin0).other W198 (Or.inr (slot_ne (Or.inr (tw hw 28 rfl)) (Or.inr (tw hw 29 rfl)) (by decide) (t := (.array .byte)) (t' := .byte) (by decide) (by decide))))
      have f201 : Exa Z h198 a cST := (f197.wr W198)
      obtain ⟨T202, h202, X202, e202, W202, st202⟩ := putF X198 hx hZ hown (host := "") (Or.inl (tw hw 32 rfl)) Via.refl e198 f200 f201 (Or.inr ⟨(tw hw 28 rfl), rfl, hnm⟩) (tw hw 13 rfl) (ty := (.array .byte)) (by decide) rfl rfl (g := (mkF m 54 #[vr a, vr ca, vi (0 : Int32), vi (1 : Int32), .val .null, vr b187] [(.ref b187), (.ref a)])) rfl rfl (hb hby d4_54)
      refine Go.via (st202) ?_
      clear st202
      have N202 := Fr.snoc X202 N198 g_a
      have f203 : Fld Z h202 a cST "value" "[B" (.ref b187) := f200.same W202
      clear X198 e198
      show Go p e below (T202.setTop (mkF m 57 #[vr a, vr ca, vi (0 : Int32), vi (1 : Int32), .val .null, vr b187] [])) _
      have k204 : Keep h0 h202 [a] := ((((Keep.refl h0 [a]).trans K186q all0).wr W198 (Or.inl (List.mem_of_getElem? (i := 0) rfl))).wr W202 (Or.inl (List.mem_of_getElem? (i := 0) rfl)))
      have f205 : Exa Z h202 a cST := (f201.wr W202)
      have f206 : Fld Z h202 a cST "coder" "B" (.int (0 : Int32)) := (f199.other W202 (Or.inr (slot_ne (Or.inr (tw hw 29 rfl)) (Or.inr (tw hw 28 rfl)) (by decide) (t := .byte) (t' := (.array .byte)) (by decide) (by decide))))
      have f207 : Ia Z h202 b187 .byte [(nar .byte (y0.toInt8.toInt32))] := ((f193.other W198 (Ne.symm ne189)).other W202 (Ne.symm ne189))
      exact Go.fin X202 hlk (v := none) (fun _ => rfl) (fun fs hr => X202.returnOut hx Bd.returns (hb hby d4_57) hr) (by rw [e202]; exact ⟨b187, (0 : Int32), [(nar .byte (y0.toInt8.toInt32))], rfl, N202, k204, f205, f206, f203, f207, Or.inr (Or.inl ⟨_, rfl, rfl, rfl, hc0, hy0⟩)⟩) (by decide) (by decide)
theorem d3_0 : decode jdk_42_method_3_code 0 = .ok (.aload_n 0, 1) := by decide +kernel
theorem d3_1 : decode jdk_42_method_3_code 1 = .ok (.aload_n 1, 1) := by decide +kernel
theorem d3_2 : decode jdk_42_method_3_code 2 = .ok (.iconst 0, 1) := by decide +kernel
theorem d3_3 : decode jdk_42_method_3_code 3 = .ok (.aload_n 1, 1) := by decide +kernel
theorem d3_4 : decode jdk_42_method_3_code 4 = .ok (.arraylength, 1) := by decide +kernel
theorem d3_5 : decode jdk_42_method_3_code 5 = .ok (.aconst_null, 1) := by decide +kernel
theorem d3_6 : decode jdk_42_method_3_code 6 = .ok (.invokespecial 27, 3) := by decide +kernel
theorem pd__28_5bCIILjava_2flang_2fVoid_3b_29V : parseMethodDescriptor "([CIILjava/lang/Void;)V" = some ⟨[(.array .char), .int, .int, (.object "java/lang/Void")], none⟩ := by decide +kernel
theorem d3_9 : decode jdk_42_method_3_code 9 = .ok (.return_, 1) := by decide +kernel
theorem pn_3 : plainName cST = true := by first | (simp [plainName, overriddenIn]; done) | decide +kernel
theorem ef_3 (m : MethodId) (x0 : Addr) (x1 : Addr) : entryFrame m #[(.ref x0), (.ref x1)] 2 = mkF m 0 #[.val (.ref x0), .val (.ref x1)] [] := by first | (simp [entryFrame, mkF, argsToLocals, Value.category]; done) | rfl
def Q_rmI1_1 (Z : State) (a : Addr) (ca : Addr) (y0 : Int32) (cs : Int32) (h0 : Heap) (n0 : Nat) (vQ : Option Value) (hQ : Heap) (LQ : List Loc) : Prop := ∃ b_ : Addr, ∃ co : Int32, ∃ ys : List Int32, vQ = none ∧ Fr n0 LQ ∧ Keep h0 hQ [a] ∧ Exa Z hQ a cST ∧ Fld Z hQ a cST "coder" "B" (.int co) ∧ Fld Z hQ a cST "value" "[B" (.ref b_) ∧ Ia Z hQ b_ .byte ys ∧ (Rep [y0] co ys)
set_option maxRecDepth 65536 in
set_option maxHeartbeats 40000000 in
theorem rmI1_1 (l : Launch) (Z : State) (a0 : Array Value) (hw : ∀ d ∈ tables_1, d.before a0 Z = true) (ws : List Jvm.Cond) (a : Addr) (ca : Addr) (y0 : Int32) (cs : Int32) (h0 : Heap) (n0 : Nat) (Z0 : n0 ≤ h0.size) (P0 : Fld Z h0 a cST "coder" "B" (.int (0 : Int32))) (P1 : Fld Z h0 a cST "value" "[B" .null) (P2 : Exa Z h0 a cST) (P3 : Ia Z h0 ca .char [y0]) (P4 : Old Z n0 h0) (zCS : Sta Z Z.heap cST "COMPACT_STRINGS" "Z" (.int cs)) (zAD : Sta Z Z.heap cU6 "$assertionsDisabled" "Z" (.int (1 : Int32))) (zHI : Sta Z Z.heap cU6 "HI_BYTE_SHIFT" "I" (.int (0 : Int32))) (zLO : Sta Z Z.heap cU6 "LO_BYTE_SHIFT" "I" (.int (8 : Int32))) (g_a : n0 ≤ a) (hac : a ≠ ca) (hcs : ¬ (cs = (0 : Int32))) (hc0 : Ch y0) :
    MetFree l (⟨cST, "<init>", "([C)V"⟩ : MethodName) (head1 (Jvm.Cond.code (⟨cST, "<init>", "([C)V"⟩ : MethodName) jdk_42_method_3_code 2 none :: ws) ({ frames := 5, cells := 2, slots := 3, locals := 74 } : Room)) (fun aQ UQ => aQ = #[(.ref a), (.ref ca)] ∧ Z.Warmed39 UQ.vm ∧ UQ.heap = h0) (fun _ _ _ _ _ => True) (fun _ UQ oQ UR => ∃ vQ LQ, oQ = .returned vQ ∧ Q_rmI1_1 Z a ca y0 cs h0 n0 vQ UR.heap LQ ∧ FrameEnd UQ oQ UR LQ ({ frames := 5, cells := 2, slots := 3, locals := 74 } : Room).cells ({ frames := 5, cells := 2, slots := 3, locals := 74 } : Room).slots) := by
  refine MetFree.of_bodySF (plainFor_of_name pn_3) hisR ?_
  intro p e s m args below meth c s₁ Bd hml0 hP hK
  obtain ⟨rfl, hZ, hh⟩ := hP
  have hx := Bd.exec
  have hby := Bd.bytes
  have hlk := Bd.notSynchronized
  have hml : c.maxLocals = 2 := hml0
  have hown : s.vm.findClass cST = some m.cls := findClass_of_methodNamed Bd.named
  have hnm := (name_of_methodNamed Bd.named Bd.method).1
  have X0 : Stand p l e ({ frames := 5, cells := 2, slots := 3, locals := 74 } : Room) s m #[(.ref a), (.ref ca)] below meth c s₁ [] 0 0 := Stand.of_body Bd
  have e0 : s₁.heap = h0 := by rw [← hh, Bd.state]; rfl
  have N0 := Fr.nil n0
  show Go p e below _ (Done s (Q_rmI1_1 Z a ca y0 cs h0 n0) ({ frames := 5, cells := 2, slots := 3, locals := 74 } : Room).cells ({ frames := 5, cells := 2, slots := 3, locals := 74 } : Room).slots)
  refine Go.via (fun tQ kQ => castTop (ef_3 m a ca) kQ) ?_
  show Go p e below (s₁.setTop (mkF m 0 #[vr a, vr ca] [])) _
  refine Go.via (fun _ => XS.aloadN X0.here hx rfl (hb hby d3_0) rfl rfl) ?_
  refine Go.via (fun _ => XS.aloadN X0.here hx rfl (hb hby d3_1) rfl rfl) ?_
  refine Go.via (fun _ => XS.iconst X0.here hx rfl (hb hby d3_2)) ?_
  refine Go.via (fun _ => XS.aloadN X0.here hx rfl (hb hby d3_3) rfl rfl) ?_
  refine Go.via (lenI X0 hx hZ e0 P3 (n := (1 : Int32)) rfl (g := (mkF m 4 #[vr a, vr ca] [(.ref ca), (.int (0 : Int32)), (.ref ca), (.ref a)])) rfl rfl (hb hby d3_4)) ?_
  show Go p e below (s₁.setTop (mkF m 5 #[vr a, vr ca] [(.int (1 : Int32)), (.int (0 : Int32)), (.ref ca), (.ref a)])) _
  refine Go.via (fun _ => XS.aconstNull X0.here hx rfl (hb hby d3_5)) ?_
  show Go p e below (s₁.setTop (mkF m 6 #[vr a, vr ca] [.null, (.int (1 : Int32)), (.int (0 : Int32)), (.ref ca), (.ref a)])) _
  obtain ⟨r208, _, ⟨T208, L208, k208, n208⟩, -, X208, ⟨Lc208, hQ208, l208, y208, z208⟩, st208⟩ := X0.specialBack hx (y := (⟨cST, "<init>", "([CIILjava/lang/Void;)V"⟩ : MethodName)) rfl hown (mvT hZ (tw hw 19 rfl)) (mvT hZ (tw hw 20 rfl)) (mvT hZ (tw hw 22 rfl)) (by decide) (backOf (W := 0) (rmI5_1 l Z a0 hw [] a ca (0 : Int32) (1 : Int32) y0 cs h0 n0 Z0 P0 P1 P2 P3 P4 zCS zAD zHI zLO g_a hac rfl rfl hcs hc0) hZ (tw hw 22 rfl) (tw hw 14 rfl) (by decide) (by decide)) (g := (mkF m 6 #[vr a, vr ca] [.null, (.int (1 : Int32)), (.int (0 : Int32)), (.ref ca), (.ref a)])) rfl (by rw [hml]; rfl) (Steps.refl _) (a := a) (argsL := [(.ref ca), (.int (0 : Int32)), (.int (1 : Int32)), .null]) (rest := []) (lenOf pd__28_5bCIILjava_2flang_2fVoid_3b_29V rfl) rfl (by show 2 * 0 + _ ≤ _; exact Nat.le_of_eq rfl) (hb hby d3_6) (fun _ _ => ⟨rfl, e0, (by decide : 0 + 2 ≤ _), (by decide : 0 + 3 ≤ _)⟩)
  dsimp only [Pt.U, Pt.locs, Pt.cells, Pt.slots] at X208 l208 y208 z208 st208 hQ208
  rw [l208, y208, z208] at X208
  obtain ⟨v209, v210, v211, hr208, N208q, K208q, f212, f213, f214, f215, qp216⟩ := hQ208
  rw [hr208] at st208
  have N208 := Fr.app N0 N208q
  refine Go.via (fun _ kQ => st208.trans kQ) ?_
  clear st208
  have e208 : T208.heap = T208.heap := rfl
  have f217 : Exa Z T208.heap a cST := f212
  have f218 : Fld Z T208.heap a cST "coder" "B" (.int v210) := f213
  have f219 : Fld Z T208.heap a cST "value" "[B" (.ref v209) := f214
  have f220 : Ia Z T208.heap v209 .byte v211 := f215
  have ne221 : v209 ≠ a := Ia.neE (a0 := a0) f220 f217 (tw hw 13 rfl)
  clear X0 e0
  show Go p e below (T208.setTop (mkF m 9 #[vr a, vr ca] [])) _
  have k222 : Keep h0 T208.heap [a] := ((Keep.refl h0 [a]).trans K208q (allS (Or.inl (List.mem_of_getElem? (i := 0) rfl)) all0))
  exact Go.fin X208 hlk (v := none) (fun _ => rfl) (fun fs hr => X208.returnOut hx Bd.returns (hb hby d3_9) hr) (by exact ⟨v209, v210, v211, rfl, N208, k222, f217, f218, f219, f220, qp216⟩) (by decide) (by decide)
def Q_rmNl2 (Z : State) (n : Int32)  (h0 : Heap) (n0 : Nat) (vQ : Option Value) (hQ : Heap) (LQ : List Loc) : Prop := vQ = some (.int (4 : Int32)) ∧ LQ = [] ∧ hQ = h0
set_option maxRecDepth 65536 in
set_option maxHeartbeats 40000000 in
theorem rmNl2 (l : Launch) (Z : State) (a0 : Array Value) (hw : ∀ d ∈ tables_1, d.before a0 Z = true) (ws : List Jvm.Cond) (n : Int32)  (h0 : Heap) (n0 : Nat) (Z0 : n0 ≤ h0.size) (hn : n = 2) :
    MetFree l (⟨cU6, "newBytesLength", "(I)I"⟩ : MethodName) (head1 (Jvm.Cond.code (⟨cU6, "newBytesLength", "(I)I"⟩ : MethodName) jdk_52_method_3_code 1 (some .int) :: ws) ({ frames := 0, cells := 0, slots := 0, locals := 0 } : Room)) (fun aQ UQ => aQ = #[(.int n)] ∧ Z.Warmed39 UQ.vm ∧ UQ.heap = h0) (fun _ _ _ _ _ => True) (fun _ UQ oQ UR => ∃ vQ LQ, oQ = .returned vQ ∧ Q_rmNl2 Z n  h0 n0 vQ UR.heap LQ ∧ FrameEnd UQ oQ UR LQ ({ frames := 0, cells := 0, slots := 0, locals := 0 } : Room).cells ({ frames := 0, cells := 0, slots := 0, locals := 0 } : Room).slots) := by
  refine MetFree.of_bodySF (plainFor_of_name pn_16) hisR ?_
  intro p e s m args below meth c s₁ Bd hml0 hP hK
  obtain ⟨rfl, hZ, hh⟩ := hP
  have hx := Bd.exec
  have hby := Bd.bytes
  have hlk := Bd.notSynchronized
  have hml : c.maxLocals = 1 := hml0
  have hown : s.vm.findClass cU6 = some m.cls := findClass_of_methodNamed Bd.named
  have hnm := (name_of_methodNamed Bd.named Bd.method).1
  have X0 : Stand p l e ({ frames := 0, cells := 0, slots := 0, locals := 0 } : Room) s m #[(.int n)] below meth c s₁ [] 0 0 := Stand.of_body Bd
  have e0 : s₁.heap = h0 := by rw [← hh, Bd.state]; rfl
  have N0 := Fr.nil n0
  show Go p e below _ (Done s (Q_rmNl2 Z n  h0 n0) ({ frames := 0, cells := 0, slots := 0, locals := 0 } : Room).cells ({ frames := 0, cells := 0, slots := 0, locals := 0 } : Room).slots)
  refine Go.via (fun tQ kQ => castTop (ef_16 m n) kQ) ?_
  show Go p e below (s₁.setTop (mkF m 0 #[vi n] [])) _
  · subst hn
    show Go p e below (s₁.setTop (mkF m 0 #[vi (2 : Int32)] [])) _
    refine Go.via (fun _ => XS.iloadN X0.here hx rfl (hb hby d16_0) rfl) ?_
    refine Go.via (fun _ => XS.ifYes X0.here hx rfl (pc0 := 1) (pc' := 12) rfl (hb hby d16_1) rfl ((if0 _ _).trans (flt ((by decide) : ¬ ((2 : Int32) < (0 : Int32)))).2.1) (by decide) (by decide)) ?_
    refine Go.via (fun _ => XS.iloadN X0.here hx rfl (hb hby d16_12) rfl) ?_
    refine Go.via (X0.ldcInt hx hown (mvT hZ (tw hw 80 rfl)) (g := (mkF m 13 #[vi (2 : Int32)] [(.int (2 : Int32))])) rfl (hb hby d16_13)) ?_
    show Go p e below (s₁.setTop (mkF m 15 #[vi (2 : Int32)] [(.int (1073741823 : Int32)), (.int (2 : Int32))])) _
    refine Go.via (fun _ => XS.icmpYes X0.here hx rfl (pc0 := 15) (pc' := 55) rfl (hb hby d16_15) rfl (tlt ((by decide) : (2 : Int32) < (1073741823 : Int32))).1 (by decide) (by decide)) ?_
    refine Go.via (fun _ => XS.iloadN X0.here hx rfl (hb hby d16_55) rfl) ?_
    refine Go.via (fun _ => XS.iconst X0.here hx rfl (hb hby d16_56)) ?_
    refine Go.via (fun _ => XS.ishl X0.here hx rfl (hb hby d16_57) rfl) ?_
    exact Go.fin X0 hlk (v := some (.int (4 : Int32))) (fun h => by rw [Bd.returns] at h; cases h) (fun fs hr => OwnKit.retI X0 hx Bd.returns (hb hby d16_58) hr) (by rw [e0]; exact ⟨rfl, rfl, rfl⟩) (by decide) (by decide)
def Q_rmNb2 (Z : State) (n : Int32)  (h0 : Heap) (n0 : Nat) (vQ : Option Value) (hQ : Heap) (LQ : List Loc) : Prop := ∃ r : Addr, vQ = some (.ref r) ∧ Fr n0 LQ ∧ Keep h0 hQ [] ∧ h0.size ≤ r ∧ Ia Z hQ r .byte [(0 : Int32), (0 : Int32), (0 : Int32), (0 : Int32)]
set_option maxRecDepth 65536 in
set_option maxHeartbeats 40000000 in
theorem rmNb2 (l : Launch) (Z : State) (a0 : Array Value) (hw : ∀ d ∈ tables_1, d.before a0 Z = true) (ws : List Jvm.Cond) (n : Int32)  (h0 : Heap) (n0 : Nat) (Z0 : n0 ≤ h0.size) (hn : n = 2) :
    MetFree l (⟨cU6, "newBytesFor", "(I)[B"⟩ : MethodName) (head1 (Jvm.Cond.code (⟨cU6, "newBytesFor", "(I)[B"⟩ : MethodName) jdk_52_method_2_code 1 (some (.array .byte)) :: ws) ({ frames := 1, cells := 1, slots := 4, locals := 12 } : Room)) (fun aQ UQ => aQ = #[(.int n)] ∧ Z.Warmed39 UQ.vm ∧ UQ.heap = h0) (fun _ _ _ _ _ => True) (fun _ UQ oQ UR => ∃ vQ LQ, oQ = .returned vQ ∧ Q_rmNb2 Z n  h0 n0 vQ UR.heap LQ ∧ FrameEnd UQ oQ UR LQ ({ frames := 1, cells := 1, slots := 4, locals := 12 } : Room).cells ({ frames := 1, cells := 1, slots := 4, locals := 12 } : Room).slots) := by
  refine MetFree.of_bodySF (plainFor_of_name pn_15) hisR ?_
  intro p e s m args below meth c s₁ Bd hml0 hP hK
  obtain ⟨rfl, hZ, hh⟩ := hP
  have hx := Bd.exec
  have hby := Bd.bytes
  have hlk := Bd.notSynchronized
  have hml : c.maxLocals = 1 := hml0
  have hown : s.vm.findClass cU6 = some m.cls := findClass_of_methodNamed Bd.named
  have hnm := (name_of_methodNamed Bd.named Bd.method).1
  have X0 : Stand p l e ({ frames := 1, cells := 1, slots := 4, locals := 12 } : Room) s m #[(.int n)] below meth c s₁ [] 0 0 := Stand.of_body Bd
  have e0 : s₁.heap = h0 := by rw [← hh, Bd.state]; rfl
  have N0 := Fr.nil n0
  show Go p e below _ (Done s (Q_rmNb2 Z n  h0 n0) ({ frames := 1, cells := 1, slots := 4, locals := 12 } : Room).cells ({ frames := 1, cells := 1, slots := 4, locals := 12 } : Room).slots)
  refine Go.via (fun tQ kQ => castTop (ef_15 m n) kQ) ?_
  show Go p e below (s₁.setTop (mkF m 0 #[vi n] [])) _
  · subst hn
    show Go p e below (s₁.setTop (mkF m 0 #[vi (2 : Int32)] [])) _
    refine Go.via (fun _ => XS.iloadN X0.here hx rfl (hb hby d15_0) rfl) ?_
    obtain ⟨r223, _, ⟨T223, L223, k223, n223⟩, -, X223, ⟨Lc223, hQ223, l223, y223, z223⟩, st223⟩ := Jvm.LawKit.callS X0 hx (y := (⟨cU6, "newBytesLength", "(I)I"⟩ : MethodName)) hown (mvT hZ (tw hw 77 rfl)) (mvT hZ (tw hw 78 rfl)) (mvT hZ (tw hw 66 rfl)) (mvT hZ (tw hw 79 rfl)) (by decide) (backOf (W := 0) (rmNl2 l Z a0 hw [] (2 : Int32)  h0 n0 Z0 rfl) hZ (tw hw 79 rfl) (tw hw 66 rfl) (by decide) (by decide)) (g := (mkF m 1 #[vi (2 : Int32)] [(.int (2 : Int32))])) rfl (by rw [hml]; rfl) (argsL := [(.int (2 : Int32))]) (rest := []) (lenOf pd__28I_29I rfl) rfl (by show 2 * 0 + _ ≤ _; exact Nat.le_of_eq rfl) (hb hby d15_1) (fun _ _ => ⟨rfl, e0, (by decide : 0 + 0 ≤ _), (by decide : 0 + 0 ≤ _)⟩)
    dsimp only [Pt.U, Pt.locs, Pt.cells, Pt.slots] at X223 l223 y223 z223 st223 hQ223
    rw [l223, y223, z223] at X223
    obtain ⟨hr223, N223q, eh223⟩ := hQ223
    rw [hr223] at st223
    rw [N223q, List.append_nil] at X223
    refine Go.via (st223) ?_
    clear st223
    have e223 : T223.heap = h0 := eh223
    clear X0 e0
    show Go p e below (T223.setTop (mkF m 4 #[vi (2 : Int32)] [(.int (4 : Int32))])) _
    obtain ⟨T224, h224, k224, X224, e224, E224, A224, B224, st224⟩ := newPE X223 hx hZ (tw hw 27 rfl) e223 (g := (mkF m 4 #[vi (2 : Int32)] [(.int (4 : Int32))])) rfl (hb hby d15_4) rfl (by decide) (cap := 4) (by decide) (by decide) (by decide) (by decide) (ad := "[B") (by decide)
    obtain ⟨b224, g224⟩ : ∃ z, z = h0.size := ⟨_, rfl⟩
    rw [← g224] at A224 B224 st224
    have ge225 : n0 ≤ b224 := Nat.le_trans Z0 (Nat.le_of_eq g224.symm)
    have sz226 : h0.size ≤ b224 := Nat.le_trans (Keep.refl h0 []).1 (Nat.le_of_eq g224.symm)
    refine Go.via (st224) ?_
    clear st224
    have f227 : Ia Z h224 b224 .byte [(0 : Int32), (0 : Int32), (0 : Int32), (0 : Int32)] := Ia.new A224 rfl
    clear X223 e223
    show Go p e below (T224.setTop (mkF m 6 #[vi (2 : Int32)] [(.ref b224)])) _
    have k228 : Keep h0 h224 [] := ((Keep.refl h0 []).ext E224)
    exact Go.fin X224 hlk (v := some (.ref b224)) (fun h => by rw [Bd.returns] at h; cases h) (fun fs hr => retOut X224 hx Bd.returns rfl (Or.inr (Or.inr (Or.inr (Or.inr ⟨rfl, rfl, rfl⟩)))) (hb hby d15_6) hr) (by rw [e224]; exact ⟨b224, rfl, N0, k228, sz226, f227⟩) (by decide) (by decide)
def Q_rmTb2 (Z : State) (ca : Addr) (i : Int32) (n : Int32) (y0 : Int32) (y1 : Int32) (h0 : Heap) (n0 : Nat) (vQ : Option Value) (hQ : Heap) (LQ : List Loc) : Prop := ∃ r : Addr, vQ = some (.ref r) ∧ Fr n0 LQ ∧ Keep h0 hQ [] ∧ h0.size ≤ r ∧ Ia Z hQ r .byte [(loF y0), (hiF y0), (loF y1), (hiF y1)]
set_option maxRecDepth 65536 in
set_option maxHeartbeats 40000000 in
theorem rmTb2 (l : Launch) (Z : State) (a0 : Array Value) (hw : ∀ d ∈ tables_1, d.before a0 Z = true) (ws : List Jvm.Cond) (ca : Addr) (i : Int32) (n : Int32) (y0 : Int32) (y1 : Int32) (h0 : Heap) (n0 : Nat) (Z0 : n0 ≤ h0.size) (P0 : Ia Z h0 ca .char [y0, y1]) (P1 : Old Z n0 h0) (zAD : Sta Z Z.heap cU6 "$assertionsDisabled" "Z" (.int (1 : Int32))) (zHI : Sta Z Z.heap cU6 "HI_BYTE_SHIFT" "I" (.int (0 : Int32))) (zLO : Sta Z Z.heap cU6 "LO_BYTE_SHIFT" "I" (.int (8 : Int32))) (hi : i = 0) (hn : n = 2) :
    MetFree l (⟨cU6, "toBytes", "([CII)[B"⟩ : MethodName) (head1 (Jvm.Cond.code (⟨cU6, "toBytes", "([CII)[B"⟩ : MethodName) jdk_52_method_14_code 5 (some (.array .byte)) :: ws) ({ frames := 2, cells := 1, slots := 4, locals := 24 } : Room)) (fun aQ UQ => aQ = #[(.ref ca), (.int i), (.int n)] ∧ Z.Warmed39 UQ.vm ∧ UQ.heap = h0) (fun _ _ _ _ _ => True) (fun _ UQ oQ UR => ∃ vQ LQ, oQ = .returned vQ ∧ Q_rmTb2 Z ca i n y0 y1 h0 n0 vQ UR.heap LQ ∧ FrameEnd UQ oQ UR LQ ({ frames := 2, cells := 1, slots := 4, locals := 24 } : Room).cells ({ frames := 2, cells := 1, slots := 4, locals := 24 } : Room).slots) := by
  refine MetFree.of_bodySF (plainFor_of_name pn_14) hisR ?_
  intro p e s m args below meth c s₁ Bd hml0 hP hK
  obtain ⟨rfl, hZ, hh⟩ := hP
  have hx := Bd.exec
  have hby := Bd.bytes
  have hlk := Bd.notSynchronized
  have hml : c.maxLocals = 5 := hml0
  have hown : s.vm.findClass cU6 = some m.cls := findClass_of_methodNamed Bd.named
  have hnm := (name_of_methodNamed Bd.named Bd.method).1
  have X0 : Stand p l e ({ frames := 2, cells := 1, slots := 4, locals := 24 } : Room) s m #[(.ref ca), (.int i), (.int n)] below meth c s₁ [] 0 0 := Stand.of_body Bd
  have e0 : s₁.heap = h0 := by rw [← hh, Bd.state]; rfl
  have N0 := Fr.nil n0
  show Go p e below _ (Done s (Q_rmTb2 Z ca i n y0 y1 h0 n0) ({ frames := 2, cells := 1, slots := 4, locals := 24 } : Room).cells ({ frames := 2, cells := 1, slots := 4, locals := 24 } : Room).slots)
  refine Go.via (fun tQ kQ => castTop (ef_14 m ca i n) kQ) ?_
  show Go p e below (s₁.setTop (mkF m 0 #[vr ca, vi i, vi n, .unset, .unset] [])) _
  · subst hi hn
    show Go p e below (s₁.setTop (mkF m 0 #[vr ca, vi (0 : Int32), vi (2 : Int32), .unset, .unset] [])) _
    refine Go.via (fun _ => XS.iloadN X0.here hx rfl (hb hby d14_0) rfl) ?_
    obtain ⟨r229, _, ⟨T229, L229, k229, n229⟩, -, X229, ⟨Lc229, hQ229, l229, y229, z229⟩, st229⟩ := Jvm.LawKit.callS X0 hx (y := (⟨cU6, "newBytesFor", "(I)[B"⟩ : MethodName)) hown (mvT hZ (tw hw 74 rfl)) (mvT hZ (tw hw 75 rfl)) (mvT hZ (tw hw 66 rfl)) (mvT hZ (tw hw 76 rfl)) (by decide) (backOf (W := 0) (rmNb2 l Z a0 hw [] (2 : Int32)  h0 n0 Z0 rfl) hZ (tw hw 76 rfl) (tw hw 66 rfl) (by decide) (by decide)) (g := (mkF m 1 #[vr ca, vi (0 : Int32), vi (2 : Int32), .unset, .unset] [(.int (2 : Int32))])) rfl (by rw [hml]; rfl) (argsL := [(.int (2 : Int32))]) (rest := []) (lenOf pd__28I_29_5bB rfl) rfl (by show 2 * 0 + _ ≤ _; exact Nat.le_of_eq rfl) (hb hby d14_1) (fun _ _ => ⟨rfl, e0, (by decide : 0 + 1 ≤ _), (by decide : 0 + 4 ≤ _)⟩)
    dsimp only [Pt.U, Pt.locs, Pt.cells, Pt.slots] at X229 l229 y229 z229 st229 hQ229
    rw [l229, y229, z229] at X229
    obtain ⟨b230, hr229, N229q, K229q, fz_b230, f231⟩ := hQ229
    rw [hr229] at st229
    have N229 := Fr.app N0 N229q
    refine Go.via (st229) ?_
    clear st229
    have ne232 : ca ≠ b230 := Nat.ne_of_lt (Nat.lt_of_lt_of_le P0.lt fz_b230)
    have ge233 : n0 ≤ b230 := Nat.le_trans Z0 fz_b230
    have sz234 : h0.size ≤ b230 := Nat.le_trans (Keep.refl h0 []).1 fz_b230
    have e229 : T229.heap = T229.heap := rfl
    have f235 : Ia Z T229.heap b230 .byte [(0 : Int32), (0 : Int32), (0 : Int32), (0 : Int32)] := f231
    clear X0 e0
    show Go p e below (T229.setTop (mkF m 4 #[vr ca, vi (0 : Int32), vi (2 : Int32), .unset, .unset] [(.ref b230)])) _
    refine Go.via (fun _ => XS.astoreN X229.here hx rfl (hb hby d14_4) rfl rfl (l' := #[vr ca, vi (0 : Int32), vi (2 : Int32), vr b230, .unset]) rfl) ?_
    refine Go.via (fun _ => XS.iconst X229.here hx rfl (hb hby d14_5)) ?_
    refine Go.via (fun _ => XS.istore X229.here hx rfl (hb hby d14_6) rfl (l' := #[vr ca, vi (0 : Int32), vi (2 : Int32), vr b230, vi (0 : Int32)]) rfl) ?_
    refine Go.via (fun _ => XS.iload X229.here hx rfl (hb hby d14_8) rfl) ?_
    refine Go.via (fun _ => XS.iloadN X229.here hx rfl (hb hby d14_10) rfl) ?_
    refine Go.via (fun _ => XS.icmpNo X229.here hx rfl (hb hby d14_11) rfl (tlt ((by decide) : (0 : Int32) < (2 : Int32))).2.1) ?_
    refine Go.via (fun _ => XS.aloadN X229.here hx rfl (hb hby d14_14) rfl rfl) ?_
    show Go p e below (T229.setTop (mkF m 15 #[vr ca, vi (0 : Int32), vi (2 : Int32), vr b230, vi (0 : Int32)] [(.ref b230)])) _
    refine Go.via (fun _ => XS.iload X229.here hx rfl (hb hby d14_15) rfl) ?_
    refine Go.via (fun _ => XS.aloadN X229.here hx rfl (hb hby d14_17) rfl rfl) ?_
    refine Go.via (fun _ => XS.iloadN X229.here hx rfl (hb hby d14_18) rfl) ?_
    have f236 : Ia Z T229.heap ca .char [y0, y1] := (P0.keep K229q nin0)
    refine Go.via (ldC X229 hx hZ e229 f236 (v := y0) (by decide) rfl (g := (mkF m 19 #[vr ca, vi (0 : Int32), vi (2 : Int32), vr b230, vi (0 : Int32)] [(.int (0 : Int32)), (.ref ca), (.int (0 : Int32)), (.ref b230)])) rfl rfl (hb hby d14_19)) ?_
    show Go p e below (T229.setTop (mkF m 20 #[vr ca, vi (0 : Int32), vi (2 : Int32), vr b230, vi (0 : Int32)] [(.int y0), (.int (0 : Int32)), (.ref b230)])) _
    have o237 : Old Z n0 T229.heap := (P1.keep K229q all0)
    have z239 : n0 ≤ T229.heap.size := (Nat.le_trans Z0 K229q.1)
    obtain ⟨r238, _, ⟨T238, L238, k238, n238⟩, -, X238, ⟨Lc238, hQ238, l238, y238, z238⟩, st238⟩ := Jvm.LawKit.callS X229 hx (y := (⟨cU6, "putChar", "([BII)V"⟩ : MethodName)) hown (mvT hZ (tw hw 81 rfl)) (mvT hZ (tw hw 82 rfl)) (mvT hZ (tw hw 66 rfl)) (mvT hZ (tw hw 83 rfl)) (by decide) (backOf (W := 0) (rmPu20 l Z a0 hw [] b230 (0 : Int32) y0 (0 : Int32) (0 : Int32) (0 : Int32) (0 : Int32) T229.heap n0 z239 f235 o237 zAD zHI zLO ge233 rfl) hZ (tw hw 83 rfl) (tw hw 66 rfl) (by decide) (by decide)) (g := (mkF m 20 #[vr ca, vi (0 : Int32), vi (2 : Int32), vr b230, vi (0 : Int32)] [(.int y0), (.int (0 : Int32)), (.ref b230)])) rfl (by rw [hml]; rfl) (argsL := [(.ref b230), (.int (0 : Int32)), (.int y0)]) (rest := []) (lenOf pd__28_5bBII_29V rfl) rfl (by show 2 * 0 + _ ≤ _; exact Nat.le_of_eq rfl) (hb hby d14_20) (fun _ _ => ⟨rfl, e229, (by decide : 1 + 0 ≤ _), (by decide : 4 + 0 ≤ _)⟩)
    dsimp only [Pt.U, Pt.locs, Pt.cells, Pt.slots] at X238 l238 y238 z238 st238 hQ238
    rw [l238, y238, z238] at X238
    obtain ⟨hr238, N238q, K238q, f240⟩ := hQ238
    rw [hr238] at st238
    have N238 := Fr.app N229 N238q
    refine Go.via (st238) ?_
    clear st238
    have e238 : T238.heap = T238.heap := rfl
    have f241 : Ia Z T238.heap b230 .byte [(loF y0), (hiF y0), (0 : Int32), (0 : Int32)] := f240
    clear X229 e229
    show Go p e below (T238.setTop (mkF m 23 #[vr ca, vi (0 : Int32), vi (2 : Int32), vr b230, vi (0 : Int32)] [])) _
    refine Go.via (fun _ => XS.iinc X238.here hx rfl (hb hby d14_23) rfl (l' := #[vr ca, vi (1 : Int32), vi (2 : Int32), vr b230, vi (0 : Int32)]) rfl) ?_
    refine Go.via (fun _ => XS.iinc X238.here hx rfl (hb hby d14_26) rfl (l' := #[vr ca, vi (1 : Int32), vi (2 : Int32), vr b230, vi (1 : Int32)]) rfl) ?_
    refine Go.via (fun _ => XS.goto X238.here hx rfl (pc0 := 29) (pc' := 8) rfl (hb hby d14_29) (by decide) (by decide)) ?_
    refine Go.via (fun _ => XS.iload X238.here hx rfl (hb hby d14_8) rfl) ?_
    refine Go.via (fun _ => XS.iloadN X238.here hx rfl (hb hby d14_10) rfl) ?_
    refine Go.via (fun _ => XS.icmpNo X238.here hx rfl (hb hby d14_11) rfl (tlt ((by decide) : (1 : Int32) < (2 : Int32))).2.1) ?_
    refine Go.via (fun _ => XS.aloadN X238.here hx rfl (hb hby d14_14) rfl rfl) ?_
    show Go p e below (T238.setTop (mkF m 15 #[vr ca, vi (1 : Int32), vi (2 : Int32), vr b230, vi (1 : Int32)] [(.ref b230)])) _
    refine Go.via (fun _ => XS.iload X238.here hx rfl (hb hby d14_15) rfl) ?_
    refine Go.via (fun _ => XS.aloadN X238.here hx rfl (hb hby d14_17) rfl rfl) ?_
    refine Go.via (fun _ => XS.iloadN X238.here hx rfl (hb hby d14_18) rfl) ?_
    have f242 : Ia Z T238.heap ca .char [y0, y1] := (f236.keep K238q (ninS ne232 nin0))
    refine Go.via (ldC X238 hx hZ e238 f242 (v := y1) (by decide) rfl (g := (mkF m 19 #[vr ca, vi (1 : Int32), vi (2 : Int32), vr b230, vi (1 : Int32)] [(.int (1 : Int32)), (.ref ca), (.int (1 : Int32)), (.ref b230)])) rfl rfl (hb hby d14_19)) ?_
    show Go p e below (T238.setTop (mkF m 20 #[vr ca, vi (1 : Int32), vi (2 : Int32), vr b230, vi (1 : Int32)] [(.int y1), (.int (1 : Int32)), (.ref b230)])) _
    have o243 : Old Z n0 T238.heap := (o237.keep K238q (allS ge233 all0))
    have z245 : n0 ≤ T238.heap.size := (Nat.le_trans z239 K238q.1)
    obtain ⟨r244, _, ⟨T244, L244, k244, n244⟩, -, X244, ⟨Lc244, hQ244, l244, y244, z244⟩, st244⟩ := Jvm.LawKit.callS X238 hx (y := (⟨cU6, "putChar", "([BII)V"⟩ : MethodName)) hown (mvT hZ (tw hw 81 rfl)) (mvT hZ (tw hw 82 rfl)) (mvT hZ (tw hw 66 rfl)) (mvT hZ (tw hw 83 rfl)) (by decide) (backOf (W := 0) (rmPu21 l Z a0 hw [] b230 (1 : Int32) y1 (loF y0) (hiF y0) (0 : Int32) (0 : Int32) T238.heap n0 z245 f241 o243 zAD zHI zLO ge233 rfl) hZ (tw hw 83 rfl) (tw hw 66 rfl) (by decide) (by decide)) (g := (mkF m 20 #[vr ca, vi (1 : Int32), vi (2 : Int32), vr b230, vi (1 : Int32)] [(.int y1), (.int (1 : Int32)), (.ref b230)])) rfl (by rw [hml]; rfl) (argsL := [(.ref b230), (.int (1 : Int32)), (.int y1)]) (rest := []) (lenOf pd__28_5bBII_29V rfl) rfl (by show 2 * 0 + _ ≤ _; exact Nat.le_of_eq rfl) (hb hby d14_20) (fun _ _ => ⟨rfl, e238, (by decide : 1 + 0 ≤ _), (by decide : 4 + 0 ≤ _)⟩)
    dsimp only [Pt.U, Pt.locs, Pt.cells, Pt.slots] at X244 l244 y244 z244 st244 hQ244
    rw [l244, y244, z244] at X244
    obtain ⟨hr244, N244q, K244q, f246⟩ := hQ244
    rw [hr244] at st244
    have N244 := Fr.app N238 N244q
    refine Go.via (st244) ?_
    clear st244
    have e244 : T244.heap = T244.heap := rfl
    have f247 : Ia Z T244.heap b230 .byte [(loF y0), (hiF y0), (loF y1), (hiF y1)] := f246
    clear X238 e238
    show Go p e below (T244.setTop (mkF m 23 #[vr ca, vi (1 : Int32), vi (2 : Int32), vr b230, vi (1 : Int32)] [])) _
    refine Go.via (fun _ => XS.iinc X244.here hx rfl (hb hby d14_23) rfl (l' := #[vr ca, vi (2 : Int32), vi (2 : Int32), vr b230, vi (1 : Int32)]) rfl) ?_
    refine Go.via (fun _ => XS.iinc X244.here hx rfl (hb hby d14_26) rfl (l' := #[vr ca, vi (2 : Int32), vi (2 : Int32), vr b230, vi (2 : Int32)]) rfl) ?_
    refine Go.via (fun _ => XS.goto X244.here hx rfl (pc0 := 29) (pc' := 8) rfl (hb hby d14_29) (by decide) (by decide)) ?_
    refine Go.via (fun _ => XS.iload X244.here hx rfl (hb hby d14_8) rfl) ?_
    refine Go.via (fun _ => XS.iloadN X244.here hx rfl (hb hby d14_10) rfl) ?_
    refine Go.via (fun _ => XS.icmpYes X244.here hx rfl (pc0 := 11) (pc' := 32) rfl (hb hby d14_11) rfl (flt ((by decide) : ¬ ((2 : Int32) < (2 : Int32)))).2.1 (by decide) (by decide)) ?_
    refine Go.via (fun _ => XS.aloadN X244.here hx rfl (hb hby d14_32) rfl rfl) ?_
    show Go p e below (T244.setTop (mkF m 33 #[vr ca, vi (2 : Int32), vi (2 : Int32), vr b230, vi (2 : Int32)] [(.ref b230)])) _
    have k248 : Keep h0 T244.heap [] := ((((Keep.refl h0 []).trans K229q all0).trans K238q (allS (Or.inr sz234) all0)).trans K244q (allS (Or.inr sz234) all0))
    exact Go.fin X244 hlk (v := some (.ref b230)) (fun h => by rw [Bd.returns] at h; cases h) (fun fs hr => retOut X244 hx Bd.returns rfl (Or.inr (Or.inr (Or.inr (Or.inr ⟨rfl, rfl, rfl⟩)))) (hb hby d14_33) hr) (by exact ⟨b230, rfl, N244, k248, sz234, f247⟩) (by decide) (by decide)
def Q_rmCl20 (Z : State) (ba : Addr) (n : Int32) (y0 : Int32) (y1 : Int32) (h0 : Heap) (n0 : Nat) (vQ : Option Value) (hQ : Heap) (LQ : List Loc) : Prop := vQ = some (.int (0 : Int32)) ∧ Fr n0 LQ ∧ hQ = h0
set_option maxRecDepth 65536 in
set_option maxHeartbeats 40000000 in
theorem rmCl20 (l : Launch) (Z : State) (a0 : Array Value) (hw : ∀ d ∈ tables_1, d.before a0 Z = true) (ws : List Jvm.Cond) (ba : Addr) (n : Int32) (y0 : Int32) (y1 : Int32) (h0 : Heap) (n0 : Nat) (Z0 : n0 ≤ h0.size) (P0 : Ia Z h0 ba .byte [y0, y1]) (hn : n = 2) :
    MetFree l (⟨cU6, "coderFromArrayLen", "([BI)B"⟩ : MethodName) (head1 (Jvm.Cond.code (⟨cU6, "coderFromArrayLen", "([BI)B"⟩ : MethodName) jdk_52_method_15_code 2 (some .byte) :: ws) ({ frames := 0, cells := 0, slots := 0, locals := 0 } : Room)) (fun aQ UQ => aQ = #[(.ref ba), (.int n)] ∧ Z.Warmed39 UQ.vm ∧ UQ.heap = h0) (fun _ _ _ _ _ => True) (fun _ UQ oQ UR => ∃ vQ LQ, oQ = .returned vQ ∧ Q_rmCl20 Z ba n y0 y1 h0 n0 vQ UR.heap LQ ∧ FrameEnd UQ oQ UR LQ ({ frames := 0, cells := 0, slots := 0, locals := 0 } : Room).cells ({ frames := 0, cells := 0, slots := 0, locals := 0 } : Room).slots) := by
  refine MetFree.of_bodySF (plainFor_of_name pn_19) hisR ?_
  intro p e s m args below meth c s₁ Bd hml0 hP hK
  obtain ⟨rfl, hZ, hh⟩ := hP
  have hx := Bd.exec
  have hby := Bd.bytes
  have hlk := Bd.notSynchronized
  have hml : c.maxLocals = 2 := hml0
  have hown : s.vm.findClass cU6 = some m.cls := findClass_of_methodNamed Bd.named
  have hnm := (name_of_methodNamed Bd.named Bd.method).1
  have X0 : Stand p l e ({ frames := 0, cells := 0, slots := 0, locals := 0 } : Room) s m #[(.ref ba), (.int n)] below meth c s₁ [] 0 0 := Stand.of_body Bd
  have e0 : s₁.heap = h0 := by rw [← hh, Bd.state]; rfl
  have N0 := Fr.nil n0
  show Go p e below _ (Done s (Q_rmCl20 Z ba n y0 y1 h0 n0) ({ frames := 0, cells := 0, slots := 0, locals := 0 } : Room).cells ({ frames := 0, cells := 0, slots := 0, locals := 0 } : Room).slots)
  refine Go.via (fun tQ kQ => castTop (ef_19 m ba n) kQ) ?_
  show Go p e below (s₁.setTop (mkF m 0 #[vr ba, vi n] [])) _
  · subst hn
    show Go p e below (s₁.setTop (mkF m 0 #[vr ba, vi (2 : Int32)] [])) _
    refine Go.via (fun _ => XS.iloadN X0.here hx rfl (hb hby d19_0) rfl) ?_
    refine Go.via (fun _ => XS.aloadN X0.here hx rfl (hb hby d19_1) rfl rfl) ?_
    refine Go.via (lenI X0 hx hZ e0 P0 (n := (2 : Int32)) rfl (g := (mkF m 2 #[vr ba, vi (2 : Int32)] [(.ref ba), (.int (2 : Int32))])) rfl rfl (hb hby d19_2)) ?_
    show Go p e below (s₁.setTop (mkF m 3 #[vr ba, vi (2 : Int32)] [(.int (2 : Int32)), (.int (2 : Int32))])) _
    refine Go.via (fun _ => XS.isub X0.here hx rfl (hb hby d19_3) rfl) ?_
    refine Go.via (fun _ => XS.bipush X0.here hx rfl (hb hby d19_4)) ?_
    refine Go.via (fun _ => XS.iushr X0.here hx rfl (hb hby d19_6) rfl) ?_
    refine Go.via (fun _ => XS.i2b X0.here hx rfl (hb hby d19_7) rfl) ?_
    exact Go.fin X0 hlk (v := some (.int (nar .byte ((0 : Int32).toInt8.toInt32)))) (fun h => by rw [Bd.returns] at h; cases h) (fun fs hr => retN X0 hx (t := .byte) Bd.returns (by simp) (hb hby d19_8) hr) (by rw [e0]; exact ⟨rfl, N0, rfl⟩) (by decide) (by decide)
def Q_rmCl21 (Z : State) (ba : Addr) (n : Int32) (w0_ : Int32) (w1_ : Int32) (w2_ : Int32) (w3_ : Int32) (h0 : Heap) (n0 : Nat) (vQ : Option Value) (hQ : Heap) (LQ : List Loc) : Prop := vQ = some (.int (1 : Int32)) ∧ Fr n0 LQ ∧ hQ = h0
set_option maxRecDepth 65536 in
set_option maxHeartbeats 40000000 in
theorem rmCl21 (l : Launch) (Z : State) (a0 : Array Value) (hw : ∀ d ∈ tables_1, d.before a0 Z = true) (ws : List Jvm.Cond) (ba : Addr) (n : Int32) (w0_ : Int32) (w1_ : Int32) (w2_ : Int32) (w3_ : Int32) (h0 : Heap) (n0 : Nat) (Z0 : n0 ≤ h0.size) (P0 : Ia Z h0 ba .byte [w0_, w1_, w2_, w3_]) (hn : n = 2) :
    MetFree l (⟨cU6, "coderFromArrayLen", "([BI)B"⟩ : MethodName) (head1 (Jvm.Cond.code (⟨cU6, "coderFromArrayLen", "([BI)B"⟩ : MethodName) jdk_52_method_15_code 2 (some .byte) :: ws) ({ frames := 0, cells := 0, slots := 0, locals := 0 } : Room)) (fun aQ UQ => aQ = #[(.ref ba), (.int n)] ∧ Z.Warmed39 UQ.vm ∧ UQ.heap = h0) (fun _ _ _ _ _ => True) (fun _ UQ oQ UR => ∃ vQ LQ, oQ = .returned vQ ∧ Q_rmCl21 Z ba n w0_ w1_ w2_ w3_ h0 n0 vQ UR.heap LQ ∧ FrameEnd UQ oQ UR LQ ({ frames := 0, cells := 0, slots := 0, locals := 0 } : Room).cells ({ frames := 0, cells := 0, slots := 0, locals := 0 } : Room).slots) := by
  refine MetFree.of_bodySF (plainFor_of_name pn_19) hisR ?_
  intro p e s m args below meth c s₁ Bd hml0 hP hK
  obtain ⟨rfl, hZ, hh⟩ := hP
  have hx := Bd.exec
  have hby := Bd.bytes
  have hlk := Bd.notSynchronized
  have hml : c.maxLocals = 2 := hml0
  have hown : s.vm.findClass cU6 = some m.cls := findClass_of_methodNamed Bd.named
  have hnm := (name_of_methodNamed Bd.named Bd.method).1
  have X0 : Stand p l e ({ frames := 0, cells := 0, slots := 0, locals := 0 } : Room) s m #[(.ref ba), (.int n)] below meth c s₁ [] 0 0 := Stand.of_body Bd
  have e0 : s₁.heap = h0 := by rw [← hh, Bd.state]; rfl
  have N0 := Fr.nil n0
  show Go p e below _ (Done s (Q_rmCl21 Z ba n w0_ w1_ w2_ w3_ h0 n0) ({ frames := 0, cells := 0, slots := 0, locals := 0 } : Room).cells ({ frames := 0, cells := 0, slots := 0, locals := 0 } : Room).slots)
  refine Go.via (fun tQ kQ => castTop (ef_19 m ba n) kQ) ?_
  show Go p e below (s₁.setTop (mkF m 0 #[vr ba, vi n] [])) _
  · subst hn
    show Go p e below (s₁.setTop (mkF m 0 #[vr ba, vi (2 : Int32)] [])) _
    refine Go.via (fun _ => XS.iloadN X0.here hx rfl (hb hby d19_0) rfl) ?_
    refine Go.via (fun _ => XS.aloadN X0.here hx rfl (hb hby d19_1) rfl rfl) ?_
    refine Go.via (lenI X0 hx hZ e0 P0 (n := (4 : Int32)) rfl (g := (mkF m 2 #[vr ba, vi (2 : Int32)] [(.ref ba), (.int (2 : Int32))])) rfl rfl (hb hby d19_2)) ?_
    show Go p e below (s₁.setTop (mkF m 3 #[vr ba, vi (2 : Int32)] [(.int (4 : Int32)), (.int (2 : Int32))])) _
    refine Go.via (fun _ => XS.isub X0.here hx rfl (hb hby d19_3) rfl) ?_
    refine Go.via (fun _ => XS.bipush X0.here hx rfl (hb hby d19_4)) ?_
    refine Go.via (fun _ => XS.iushr X0.here hx rfl (hb hby d19_6) rfl) ?_
    refine Go.via (fun _ => XS.i2b X0.here hx rfl (hb hby d19_7) rfl) ?_
    exact Go.fin X0 hlk (v := some (.int (nar .byte ((1 : Int32).toInt8.toInt32)))) (fun h => by rw [Bd.returns] at h; cases h) (fun fs hr => retN X0 hx (t := .byte) Bd.returns (by simp) (hb hby d19_8) hr) (by rw [e0]; exact ⟨rfl, N0, rfl⟩) (by decide) (by decide)
def Q_rmC5_20 (Z : State) (ca : Addr) (i : Int32) (ba : Addr) (j : Int32) (n : Int32) (y0 : Int32) (y1 : Int32) (h0 : Heap) (n0 : Nat) (vQ : Option Value) (hQ : Heap) (LQ : List Loc) : Prop := vQ = some (.int (0 : Int32)) ∧ Fr n0 LQ ∧ Keep h0 hQ [ba] ∧ Ia Z hQ ba .byte [(0 : Int32), (0 : Int32)]
set_option maxRecDepth 65536 in
set_option maxHeartbeats 40000000 in
theorem rmC5_20 (l : Launch) (Z : State) (a0 : Array Value) (hw : ∀ d ∈ tables_1, d.before a0 Z = true) (ws : List Jvm.Cond) (ca : Addr) (i : Int32) (ba : Addr) (j : Int32) (n : Int32) (y0 : Int32) (y1 : Int32) (h0 : Heap) (n0 : Nat) (Z0 : n0 ≤ h0.size) (P0 : Ia Z h0 ca .char [y0, y1]) (P1 : Ia Z h0 ba .byte [(0 : Int32), (0 : Int32)]) (g_ba : n0 ≤ ba) (hcb : ca ≠ ba) (hi : i = 0) (hj : j = 0) (hn : n = 2) (hy0 : (255 : Int32) < y0) :
    MetFree l (⟨cU6, "compress", "([CI[BII)I"⟩ : MethodName) (head1 (Jvm.Cond.code (⟨cU6, "compress", "([CI[BII)I"⟩ : MethodName) jdk_52_method_21_code 7 (some .int) :: ws) ({ frames := 0, cells := 0, slots := 0, locals := 0 } : Room)) (fun aQ UQ => aQ = #[(.ref ca), (.int i), (.ref ba), (.int j), (.int n)] ∧ Z.Warmed39 UQ.vm ∧ UQ.heap = h0) (fun _ _ _ _ _ => True) (fun _ UQ oQ UR => ∃ vQ LQ, oQ = .returned vQ ∧ Q_rmC5_20 Z ca i ba j n y0 y1 h0 n0 vQ UR.heap LQ ∧ FrameEnd UQ oQ UR LQ ({ frames := 0, cells := 0, slots := 0, locals := 0 } : Room).cells ({ frames := 0, cells := 0, slots := 0, locals := 0 } : Room).slots) := by
  refine MetFree.of_bodySF (plainFor_of_name pn_13) hisR ?_
  intro p e s m args below meth c s₁ Bd hml0 hP hK
  obtain ⟨rfl, hZ, hh⟩ := hP
  have hx := Bd.exec
  have hby := Bd.bytes
  have hlk := Bd.notSynchronized
  have hml : c.maxLocals = 7 := hml0
  have hown : s.vm.findClass cU6 = some m.cls := findClass_of_methodNamed Bd.named
  have hnm := (name_of_methodNamed Bd.named Bd.method).1
  have X0 : Stand p l e ({ frames := 0, cells := 0, slots := 0, locals := 0 } : Room) s m #[(.ref ca), (.int i), (.ref ba), (.int j), (.int n)] below meth c s₁ [] 0 0 := Stand.of_body Bd
  have e0 : s₁.heap = h0 := by rw [← hh, Bd.state]; rfl
  have N0 := Fr.nil n0
  show Go p e below _ (Done s (Q_rmC5_20 Z ca i ba j n y0 y1 h0 n0) ({ frames := 0, cells := 0, slots := 0, locals := 0 } : Room).cells ({ frames := 0, cells := 0, slots := 0, locals := 0 } : Room).slots)
  refine Go.via (fun tQ kQ => castTop (ef_13 m ca i ba j n) kQ) ?_
  show Go p e below (s₁.setTop (mkF m 0 #[vr ca, vi i, vr ba, vi j, vi n, .unset, .unset] [])) _
  · subst hi hj hn
    show Go p e below (s₁.setTop (mkF m 0 #[vr ca, vi (0 : Int32), vr ba, vi (0 : Int32), vi (2 : Int32), .unset, .unset] [])) _
    refine Go.via (fun _ => XS.iconst X0.here hx rfl (hb hby d13_0)) ?_
    refine Go.via (fun _ => XS.istore X0.here hx rfl (hb hby d13_1) rfl (l' := #[vr ca, vi (0 : Int32), vr ba, vi (0 : Int32), vi (2 : Int32), vi (0 : Int32), .unset]) rfl) ?_
    refine Go.via (fun _ => XS.iload X0.here hx rfl (hb hby d13_3) rfl) ?_
    refine Go.via (fun _ => XS.iload X0.here hx rfl (hb hby d13_5) rfl) ?_
    refine Go.via (fun _ => XS.icmpNo X0.here hx rfl (hb hby d13_7) rfl (tlt ((by decide) : (0 : Int32) < (2 : Int32))).2.1) ?_
    refine Go.via (fun _ => XS.aloadN X0.here hx rfl (hb hby d13_10) rfl rfl) ?_
    refine Go.via (fun _ => XS.iloadN X0.here hx rfl (hb hby d13_11) rfl) ?_
    show Go p e below (s₁.setTop (mkF m 12 #[vr ca, vi (0 : Int32), vr ba, vi (0 : Int32), vi (2 : Int32), vi (0 : Int32), .unset] [(.int (0 : Int32)), (.ref ca)])) _
    refine Go.via (ldC X0 hx hZ e0 P0 (v := y0) (by decide) rfl (g := (mkF m 12 #[vr ca, vi (0 : Int32), vr ba, vi (0 : Int32), vi (2 : Int32), vi (0 : Int32), .unset] [(.int (0 : Int32)), (.ref ca)])) rfl rfl (hb hby d13_12)) ?_
    show Go p e below (s₁.setTop (mkF m 13 #[vr ca, vi (0 : Int32), vr ba, vi (0 : Int32), vi (2 : Int32), vi (0 : Int32), .unset] [(.int y0)])) _
    refine Go.via (fun _ => XS.istore X0.here hx rfl (hb hby d13_13) rfl (l' := #[vr ca, vi (0 : Int32), vr ba, vi (0 : Int32), vi (2 : Int32), vi (0 : Int32), vi y0]) rfl) ?_
    refine Go.via (fun _ => XS.iload X0.here hx rfl (hb hby d13_15) rfl) ?_
    refine Go.via (fun _ => XS.sipush X0.here hx rfl (hb hby d13_17)) ?_
    refine Go.via (fun _ => XS.icmpNo X0.here hx rfl (hb hby d13_20) rfl (tlt (hy0 : (255 : Int32) < y0)).2.2.2) ?_
    refine Go.via (fun _ => XS.iload X0.here hx rfl (hb hby d13_23) rfl) ?_
    exact Go.fin X0 hlk (v := some (.int (0 : Int32))) (fun h => by rw [Bd.returns] at h; cases h) (fun fs hr => OwnKit.retI X0 hx Bd.returns (hb hby d13_25) hr) (by rw [e0]; exact ⟨rfl, N0, (Keep.refl h0 [ba]), P1⟩) (by decide) (by decide)
def Q_rmC3_20 (Z : State) (ca : Addr) (i : Int32) (n : Int32) (y0 : Int32) (y1 : Int32) (h0 : Heap) (n0 : Nat) (vQ : Option Value) (hQ : Heap) (LQ : List Loc) : Prop := ∃ r : Addr, vQ = some (.ref r) ∧ Fr n0 LQ ∧ Keep h0 hQ [] ∧ h0.size ≤ r ∧ Ia Z hQ r .byte [(loF y0), (hiF y0), (loF y1), (hiF y1)]
set_option maxRecDepth 65536 in
set_option maxHeartbeats 40000000 in
theorem rmC3_20 (l : Launch) (Z : State) (a0 : Array Value) (hw : ∀ d ∈ tables_1, d.before a0 Z = true) (ws : List Jvm.Cond) (ca : Addr) (i : Int32) (n : Int32) (y0 : Int32) (y1 : Int32) (h0 : Heap) (n0 : Nat) (Z0 : n0 ≤ h0.size) (P0 : Ia Z h0 ca .char [y0, y1]) (P1 : Old Z n0 h0) (zAD : Sta Z Z.heap cU6 "$assertionsDisabled" "Z" (.int (1 : Int32))) (zHI : Sta Z Z.heap cU6 "HI_BYTE_SHIFT" "I" (.int (0 : Int32))) (zLO : Sta Z Z.heap cU6 "LO_BYTE_SHIFT" "I" (.int (8 : Int32))) (hi : i = 0) (hn : n = 2) (hy0 : (255 : Int32) < y0) (hc0 : Ch y0) :
    MetFree l (⟨cU6, "compress", "([CII)[B"⟩ : MethodName) (head1 (Jvm.Cond.code (⟨cU6, "compress", "([CII)[B"⟩ : MethodName) jdk_52_method_16_code 6 (some (.array .byte)) :: ws) ({ frames := 3, cells := 2, slots := 6, locals := 40 } : Room)) (fun aQ UQ => aQ = #[(.ref ca), (.int i), (.int n)] ∧ Z.Warmed39 UQ.vm ∧ UQ.heap = h0) (fun _ _ _ _ _ => True) (fun _ UQ oQ UR => ∃ vQ LQ, oQ = .returned vQ ∧ Q_rmC3_20 Z ca i n y0 y1 h0 n0 vQ UR.heap LQ ∧ FrameEnd UQ oQ UR LQ ({ frames := 3, cells := 2, slots := 6, locals := 40 } : Room).cells ({ frames := 3, cells := 2, slots := 6, locals := 40 } : Room).slots) := by
  refine MetFree.of_bodySF (plainFor_of_name pn_12) hisR ?_
  intro p e s m args below meth c s₁ Bd hml0 hP hK
  obtain ⟨rfl, hZ, hh⟩ := hP
  have hx := Bd.exec
  have hby := Bd.bytes
  have hlk := Bd.notSynchronized
  have hml : c.maxLocals = 6 := hml0
  have hown : s.vm.findClass cU6 = some m.cls := findClass_of_methodNamed Bd.named
  have hnm := (name_of_methodNamed Bd.named Bd.method).1
  have X0 : Stand p l e ({ frames := 3, cells := 2, slots := 6, locals := 40 } : Room) s m #[(.ref ca), (.int i), (.int n)] below meth c s₁ [] 0 0 := Stand.of_body Bd
  have e0 : s₁.heap = h0 := by rw [← hh, Bd.state]; rfl
  have N0 := Fr.nil n0
  show Go p e below _ (Done s (Q_rmC3_20 Z ca i n y0 y1 h0 n0) ({ frames := 3, cells := 2, slots := 6, locals := 40 } : Room).cells ({ frames := 3, cells := 2, slots := 6, locals := 40 } : Room).slots)
  refine Go.via (fun tQ kQ => castTop (ef_12 m ca i n) kQ) ?_
  show Go p e below (s₁.setTop (mkF m 0 #[vr ca, vi i, vi n, .unset, .unset, .unset] [])) _
  · subst hi hn
    show Go p e below (s₁.setTop (mkF m 0 #[vr ca, vi (0 : Int32), vi (2 : Int32), .unset, .unset, .unset] [])) _
    refine Go.via (fun _ => XS.iloadN X0.here hx rfl (hb hby d12_0) rfl) ?_
    obtain ⟨T249, h249, k249, X249, e249, E249, A249, B249, st249⟩ := newPE X0 hx hZ (tw hw 27 rfl) e0 (g := (mkF m 1 #[vr ca, vi (0 : Int32), vi (2 : Int32), .unset, .unset, .unset] [(.int (2 : Int32))])) rfl (hb hby d12_1) rfl (by decide) (cap := 2) (by decide) (by decide) (by decide) (by decide) (ad := "[B") (by decide)
    obtain ⟨b249, g249⟩ : ∃ z, z = h0.size := ⟨_, rfl⟩
    rw [← g249] at A249 B249 st249
    have ne250 : ca ≠ b249 := Nat.ne_of_lt (Nat.lt_of_lt_of_le P0.lt (Nat.le_of_eq g249.symm))
    have ge251 : n0 ≤ b249 := Nat.le_trans Z0 (Nat.le_of_eq g249.symm)
    have sz252 : h0.size ≤ b249 := Nat.le_trans (Keep.refl h0 []).1 (Nat.le_of_eq g249.symm)
    refine Go.via (st249) ?_
    clear st249
    have f253 : Ia Z h249 b249 .byte [(0 : Int32), (0 : Int32)] := Ia.new A249 rfl
    clear X0 e0
    show Go p e below (T249.setTop (mkF m 3 #[vr ca, vi (0 : Int32), vi (2 : Int32), .unset, .unset, .unset] [(.ref b249)])) _
    refine Go.via (fun _ => XS.astoreN X249.here hx rfl (hb hby d12_3) rfl rfl (l' := #[vr ca, vi (0 : Int32), vi (2 : Int32), vr b249, .unset, .unset]) rfl) ?_
    refine Go.via (fun _ => XS.aloadN X249.here hx rfl (hb hby d12_4) rfl rfl) ?_
    refine Go.via (fun _ => XS.iloadN X249.here hx rfl (hb hby d12_5) rfl) ?_
    refine Go.via (fun _ => XS.aloadN X249.here hx rfl (hb hby d12_6) rfl rfl) ?_
    refine Go.via (fun _ => XS.iconst X249.here hx rfl (hb hby d12_7)) ?_
    refine Go.via (fun _ => XS.iloadN X249.here hx rfl (hb hby d12_8) rfl) ?_
    have f254 : Ia Z h249 ca .char [y0, y1] := (P0.ext E249)
    have z256 : n0 ≤ h249.size := (Nat.le_trans Z0 E249.1)
    obtain ⟨r255, _, ⟨T255, L255, k255, n255⟩, -, X255, ⟨Lc255, hQ255, l255, y255, z255⟩, st255⟩ := Jvm.LawKit.callS X249 hx (y := (⟨cU6, "compress", "([CI[BII)I"⟩ : MethodName)) hown (mvT hZ (tw hw 68 rfl)) (mvT hZ (tw hw 69 rfl)) (mvT hZ (tw hw 66 rfl)) (mvT hZ (tw hw 70 rfl)) (by decide) (backOf (W := 0) (rmC5_20 l Z a0 hw [] ca (0 : Int32) b249 (0 : Int32) (2 : Int32) y0 y1 h249 n0 z256 f254 f253 ge251 ne250 rfl rfl rfl hy0) hZ (tw hw 70 rfl) (tw hw 66 rfl) (by decide) (by decide)) (g := (mkF m 9 #[vr ca, vi (0 : Int32), vi (2 : Int32), vr b249, .unset, .unset] [(.int (2 : Int32)), (.int (0 : Int32)), (.ref b249), (.int (0 : Int32)), (.ref ca)])) rfl (by rw [hml]; rfl) (argsL := [(.ref ca), (.int (0 : Int32)), (.ref b249), (.int (0 : Int32)), (.int (2 : Int32))]) (rest := []) (lenOf pd__28_5bCI_5bBII_29I rfl) rfl (by show 2 * 0 + _ ≤ _; exact Nat.le_of_eq rfl) (hb hby d12_9) (fun _ _ => ⟨rfl, e249, (by decide : 1 + 0 ≤ _), (by decide : 2 + 0 ≤ _)⟩)
    dsimp only [Pt.U, Pt.locs, Pt.cells, Pt.slots] at X255 l255 y255 z255 st255 hQ255
    rw [l255, y255, z255] at X255
    obtain ⟨hr255, N255q, K255q, f257⟩ := hQ255
    rw [hr255] at st255
    have N255 := Fr.app N0 N255q
    refine Go.via (st255) ?_
    clear st255
    have e255 : T255.heap = T255.heap := rfl
    have f258 : Ia Z T255.heap b249 .byte [(0 : Int32), (0 : Int32)] := f257
    clear X249 e249
    show Go p e below (T255.setTop (mkF m 12 #[vr ca, vi (0 : Int32), vi (2 : Int32), vr b249, .unset, .unset] [(.int (0 : Int32))])) _
    refine Go.via (fun _ => XS.istore X255.here hx rfl (hb hby d12_12) rfl (l' := #[vr ca, vi (0 : Int32), vi (2 : Int32), vr b249, vi (0 : Int32), .unset]) rfl) ?_
    refine Go.via (fun _ => XS.iload X255.here hx rfl (hb hby d12_14) rfl) ?_
    refine Go.via (fun _ => XS.iloadN X255.here hx rfl (hb hby d12_16) rfl) ?_
    refine Go.via (fun _ => XS.icmpNo X255.here hx rfl (hb hby d12_17) rfl (feq ((by decide) : ¬ ((0 : Int32) = (2 : Int32)))).1) ?_
    refine Go.via (fun _ => XS.aloadN X255.here hx rfl (hb hby d12_20) rfl rfl) ?_
    refine Go.via (fun _ => XS.iloadN X255.here hx rfl (hb hby d12_21) rfl) ?_
    refine Go.via (fun _ => XS.iloadN X255.here hx rfl (hb hby d12_22) rfl) ?_
    show Go p e below (T255.setTop (mkF m 23 #[vr ca, vi (0 : Int32), vi (2 : Int32), vr b249, vi (0 : Int32), .unset] [(.int (2 : Int32)), (.int (0 : Int32)), (.ref ca)])) _
    have f259 : Ia Z T255.heap ca .char [y0, y1] := (f254.keep K255q (ninS ne250 nin0))
    have o260 : Old Z n0 T255.heap := ((P1.ext E249).keep K255q (allS ge251 all0))
    have z262 : n0 ≤ T255.heap.size := (Nat.le_trans z256 K255q.1)
    obtain ⟨r261, _, ⟨T261, L261, k261, n261⟩, -, X261, ⟨Lc261, hQ261, l261, y261, z261⟩, st261⟩ := Jvm.LawKit.callS X255 hx (y := (⟨cU6, "toBytes", "([CII)[B"⟩ : MethodName)) hown (mvT hZ (tw hw 71 rfl)) (mvT hZ (tw hw 72 rfl)) (mvT hZ (tw hw 66 rfl)) (mvT hZ (tw hw 73 rfl)) (by decide) (backOf (W := 0) (rmTb2 l Z a0 hw [] ca (0 : Int32) (2 : Int32) y0 y1 T255.heap n0 z262 f259 o260 zAD zHI zLO rfl rfl) hZ (tw hw 73 rfl) (tw hw 66 rfl) (by decide) (by decide)) (g := (mkF m 23 #[vr ca, vi (0 : Int32), vi (2 : Int32), vr b249, vi (0 : Int32), .unset] [(.int (2 : Int32)), (.int (0 : Int32)), (.ref ca)])) rfl (by rw [hml]; rfl) (argsL := [(.ref ca), (.int (0 : Int32)), (.int (2 : Int32))]) (rest := []) (lenOf pd__28_5bCII_29_5bB rfl) rfl (by show 2 * 0 + _ ≤ _; exact Nat.le_of_eq rfl) (hb hby d12_23) (fun _ _ => ⟨rfl, e255, (by decide : 1 + 1 ≤ _), (by decide : 2 + 4 ≤ _)⟩)
    dsimp only [Pt.U, Pt.locs, Pt.cells, Pt.slots] at X261 l261 y261 z261 st261 hQ261
    rw [l261, y261, z261] at X261
    obtain ⟨b263, hr261, N261q, K261q, fz_b263, f264⟩ := hQ261
    rw [hr261] at st261
    have N261 := Fr.app N255 N261q
    refine Go.via (st261) ?_
    clear st261
    have ne265 : b249 ≠ b263 := Nat.ne_of_lt (Nat.lt_of_lt_of_le f258.lt fz_b263)
    have ne266 : ca ≠ b263 := Nat.ne_of_lt (Nat.lt_of_lt_of_le f259.lt fz_b263)
    have ge267 : n0 ≤ b263 := Nat.le_trans z262 fz_b263
    have k269 : Keep h0 T255.heap [] := (((Keep.refl h0 []).ext E249).trans K255q (allS (Or.inr sz252) all0))
    have sz268 : h0.size ≤ b263 := Nat.le_trans k269.1 fz_b263
    have e261 : T261.heap = T261.heap := rfl
    have f270 : Ia Z T261.heap b263 .byte [(loF y0), (hiF y0), (loF y1), (hiF y1)] := f264
    clear X255 e255
    show Go p e below (T261.setTop (mkF m 26 #[vr ca, vi (0 : Int32), vi (2 : Int32), vr b249, vi (0 : Int32), .unset] [(.ref b263)])) _
    refine Go.via (fun _ => XS.astore X261.here hx rfl (hb hby d12_26) rfl rfl (l' := #[vr ca, vi (0 : Int32), vi (2 : Int32), vr b249, vi (0 : Int32), vr b263]) rfl) ?_
    refine Go.via (fun _ => XS.aload X261.here hx rfl (hb hby d12_28) rfl rfl) ?_
    refine Go.via (fun _ => XS.iload X261.here hx rfl (hb hby d12_30) rfl) ?_
    have o271 : Old Z n0 T261.heap := (o260.keep K261q all0)
    have z273 : n0 ≤ T261.heap.size := (Nat.le_trans z262 K261q.1)
    obtain ⟨r272, _, ⟨T272, L272, k272, n272⟩, -, X272, ⟨Lc272, hQ272, l272, y272, z272⟩, st272⟩ := Jvm.LawKit.callS X261 hx (y := (⟨cU6, "getChar", "([BI)C"⟩ : MethodName)) hown (mvT hZ (tw hw 87 rfl)) (mvT hZ (tw hw 88 rfl)) (mvT hZ (tw hw 66 rfl)) (mvT hZ (tw hw 89 rfl)) (by decide) (backOf (W := 0) (rmGe20 l Z a0 hw [] b263 (0 : Int32) (loF y0) (hiF y0) (loF y1) (hiF y1) y0 T261.heap n0 z273 f270 o271 zAD zHI zLO rfl (own_gc hc0)) hZ (tw hw 89 rfl) (tw hw 66 rfl) (by decide) (by decide)) (g := (mkF m 32 #[vr ca, vi (0 : Int32), vi (2 : Int32), vr b249, vi (0 : Int32), vr b263] [(.int (0 : Int32)), (.ref b263)])) rfl (by rw [hml]; rfl) (argsL := [(.ref b263), (.int (0 : Int32))]) (rest := []) (lenOf pd__28_5bBI_29C rfl) rfl (by show 2 * 0 + _ ≤ _; exact Nat.le_of_eq rfl) (hb hby d12_32) (fun _ _ => ⟨rfl, e261, (by decide : 2 + 0 ≤ _), (by decide : 6 + 0 ≤ _)⟩)
    dsimp only [Pt.U, Pt.locs, Pt.cells, Pt.slots] at X272 l272 y272 z272 st272 hQ272
    rw [l272, y272, z272] at X272
    obtain ⟨hr272, N272q, eh272⟩ := hQ272
    rw [hr272] at st272
    rw [N272q, List.append_nil] at X272
    refine Go.via (st272) ?_
    clear st272
    have e272 : T272.heap = T261.heap := eh272
    clear X261 e261
    show Go p e below (T272.setTop (mkF m 35 #[vr ca, vi (0 : Int32), vi (2 : Int32), vr b249, vi (0 : Int32), vr b263] [(.int y0)])) _
    refine Go.via (fun _ => XS.sipush X272.here hx rfl (hb hby d12_35)) ?_
    refine Go.via (fun _ => XS.icmpYes X272.here hx rfl (pc0 := 38) (pc' := 54) rfl (hb hby d12_38) rfl (tlt (hy0 : (255 : Int32) < y0)).2.2.1 (by decide) (by decide)) ?_
    refine Go.via (fun _ => XS.aload X272.here hx rfl (hb hby d12_54) rfl rfl) ?_
    have k274 : Keep h0 T261.heap [] := (k269.trans K261q all0)
    exact Go.fin X272 hlk (v := some (.ref b263)) (fun h => by rw [Bd.returns] at h; cases h) (fun fs hr => retOut X272 hx Bd.returns rfl (Or.inr (Or.inr (Or.inr (Or.inr ⟨rfl, rfl, rfl⟩)))) (hb hby d12_56) hr) (by rw [e272]; exact ⟨b263, rfl, N261, k274, sz268, f270⟩) (by decide) (by decide)
def Q_rmC5_21 (Z : State) (ca : Addr) (i : Int32) (ba : Addr) (j : Int32) (n : Int32) (y0 : Int32) (y1 : Int32) (h0 : Heap) (n0 : Nat) (vQ : Option Value) (hQ : Heap) (LQ : List Loc) : Prop := vQ = some (.int (1 : Int32)) ∧ Fr n0 LQ ∧ Keep h0 hQ [ba] ∧ Ia Z hQ ba .byte [(nar .byte (y0.toInt8.toInt32)), (0 : Int32)]
set_option maxRecDepth 65536 in
set_option maxHeartbeats 40000000 in
theorem rmC5_21 (l : Launch) (Z : State) (a0 : Array Value) (hw : ∀ d ∈ tables_1, d.before a0 Z = true) (ws : List Jvm.Cond) (ca : Addr) (i : Int32) (ba : Addr) (j : Int32) (n : Int32) (y0 : Int32) (y1 : Int32) (h0 : Heap) (n0 : Nat) (Z0 : n0 ≤ h0.size) (P0 : Ia Z h0 ca .char [y0, y1]) (P1 : Ia Z h0 ba .byte [(0 : Int32), (0 : Int32)]) (g_ba : n0 ≤ ba) (hcb : ca ≠ ba) (hi : i = 0) (hj : j = 0) (hn : n = 2) (hy0 : ¬ ((255 : Int32) < y0)) (hy1 : (255 : Int32) < y1) :
    MetFree l (⟨cU6, "compress", "([CI[BII)I"⟩ : MethodName) (head1 (Jvm.Cond.code (⟨cU6, "compress", "([CI[BII)I"⟩ : MethodName) jdk_52_method_21_code 7 (some .int) :: ws) ({ frames := 0, cells := 0, slots := 0, locals := 0 } : Room)) (fun aQ UQ => aQ = #[(.ref ca), (.int i), (.ref ba), (.int j), (.int n)] ∧ Z.Warmed39 UQ.vm ∧ UQ.heap = h0) (fun _ _ _ _ _ => True) (fun _ UQ oQ UR => ∃ vQ LQ, oQ = .returned vQ ∧ Q_rmC5_21 Z ca i ba j n y0 y1 h0 n0 vQ UR.heap LQ ∧ FrameEnd UQ oQ UR LQ ({ frames := 0, cells := 0, slots := 0, locals := 0 } : Room).cells ({ frames := 0, cells := 0, slots := 0, locals := 0 } : Room).slots) := by
  refine MetFree.of_bodySF (plainFor_of_name pn_13) hisR ?_
  intro p e s m args below meth c s₁ Bd hml0 hP hK
  obtain ⟨rfl, hZ, hh⟩ := hP
  have hx := Bd.exec
  have hby := Bd.bytes
  have hlk := Bd.notSynchronized
  have hml : c.maxLocals = 7 := hml0
  have hown : s.vm.findClass cU6 = some m.cls := findClass_of_methodNamed Bd.named
  have hnm := (name_of_methodNamed Bd.named Bd.method).1
  have X0 : Stand p l e ({ frames := 0, cells := 0, slots := 0, locals := 0 } : Room) s m #[(.ref ca), (.int i), (.ref ba), (.int j), (.int n)] below meth c s₁ [] 0 0 := Stand.of_body Bd
  have e0 : s₁.heap = h0 := by rw [← hh, Bd.state]; rfl
  have N0 := Fr.nil n0
  show Go p e below _ (Done s (Q_rmC5_21 Z ca i ba j n y0 y1 h0 n0) ({ frames := 0, cells := 0, slots := 0, locals := 0 } : Room).cells ({ frames := 0, cells := 0, slots := 0, locals := 0 } : Room).slots)
  refine Go.via (fun tQ kQ => castTop (ef_13 m ca i ba j n) kQ) ?_
  show Go p e below (s₁.setTop (mkF m 0 #[vr ca, vi i, vr ba, vi j, vi n, .unset, .unset] [])) _
  · subst hi hj hn
    show Go p e below (s₁.setTop (mkF m 0 #[vr ca, vi (0 : Int32), vr ba, vi (0 : Int32), vi (2 : Int32), .unset, .unset] [])) _
    refine Go.via (fun _ => XS.iconst X0.here hx rfl (hb hby d13_0)) ?_
    refine Go.via (fun _ => XS.istore X0.here hx rfl (hb hby d13_1) rfl (l' := #[vr ca, vi (0 : Int32), vr ba, vi (0 : Int32), vi (2 : Int32), vi (0 : Int32), .unset]) rfl) ?_
    refine Go.via (fun _ => XS.iload X0.here hx rfl (hb hby d13_3) rfl) ?_
    refine Go.via (fun _ => XS.iload X0.here hx rfl (hb hby d13_5) rfl) ?_
    refine Go.via (fun _ => XS.icmpNo X0.here hx rfl (hb hby d13_7) rfl (tlt ((by decide) : (0 : Int32) < (2 : Int32))).2.1) ?_
    refine Go.via (fun _ => XS.aloadN X0.here hx rfl (hb hby d13_10) rfl rfl) ?_
    refine Go.via (fun _ => XS.iloadN X0.here hx rfl (hb hby d13_11) rfl) ?_
    show Go p e below (s₁.setTop (mkF m 12 #[vr ca, vi (0 : Int32), vr ba, vi (0 : Int32), vi (2 : Int32), vi (0 : Int32), .unset] [(.int (0 : Int32)), (.ref ca)])) _
    refine Go.via (ldC X0 hx hZ e0 P0 (v := y0) (by decide) rfl (g := (mkF m 12 #[vr ca, vi (0 : Int32), vr ba, vi (0 : Int32), vi (2 : Int32), vi (0 : Int32), .unset] [(.int (0 : Int32)), (.ref ca)])) rfl rfl (hb hby d13_12)) ?_
    show Go p e below (s₁.setTop (mkF m 13 #[vr ca, vi (0 : Int32), vr ba, vi (0 : Int32), vi (2 : Int32), vi (0 : Int32), .unset] [(.int y0)])) _
    refine Go.via (fun _ => XS.istore X0.here hx rfl (hb hby d13_13) rfl (l' := #[vr ca, vi (0 : Int32), vr ba, vi (0 : Int32), vi (2 : Int32), vi (0 : Int32), vi y0]) rfl) ?_
    refine Go.via (fun _ => XS.iload X0.here hx rfl (hb hby d13_15) rfl) ?_
    refine Go.via (fun _ => XS.sipush X0.here hx rfl (hb hby d13_17)) ?_
    refine Go.via (fun _ => XS.icmpYes X0.here hx rfl (pc0 := 20) (pc' := 26) rfl (hb hby d13_20) rfl (flt (hy0 : ¬ ((255 : Int32) < y0))).2.2.2 (by decide) (by decide)) ?_
    refine Go.via (fun _ => XS.aloadN X0.here hx rfl (hb hby d13_26) rfl rfl) ?_
    refine Go.via (fun _ => XS.iloadN X0.here hx rfl (hb hby d13_27) rfl) ?_
    refine Go.via (fun _ => XS.iload X0.here hx rfl (hb hby d13_28) rfl) ?_
    show Go p e below (s₁.setTop (mkF m 30 #[vr ca, vi (0 : Int32), vr ba, vi (0 : Int32), vi (2 : Int32), vi (0 : Int32), vi y0] [(.int y0), (.int (0 : Int32)), (.ref ba)])) _
    refine Go.via (fun _ => XS.i2b X0.here hx rfl (hb hby d13_30) rfl) ?_
    obtain ⟨T275, h275, X275, e275, W275, V275, st275⟩ := stB' X0 hx hZ e0 P1 (j := (0 : Int32)) (by decide) (by first | decide | (simp only [List.length_cons, List.length_nil]; decide) | rfl) (g := (mkF m 31 #[vr ca, vi (0 : Int32), vr ba, vi (0 : Int32), vi (2 : Int32), vi (0 : Int32), vi y0] [(.int (y0.toInt8.toInt32)), (.int (0 : Int32)), (.ref ba)])) rfl rfl (hb hby d13_31)
    refine Go.via (st275) ?_
    clear st275
    have N275 := Fr.snoc X275 N0 g_ba
    have f276 : Ia Z h275 ba .byte [(nar .byte (y0.toInt8.toInt32)), (0 : Int32)] := V275
    clear X0 e0
    show Go p e below (T275.setTop (mkF m 32 #[vr ca, vi (0 : Int32), vr ba, vi (0 : Int32), vi (2 : Int32), vi (0 : Int32), vi y0] [])) _
    refine Go.via (fun _ => XS.iinc X275.here hx rfl (hb hby d13_32) rfl (l' := #[vr ca, vi (1 : Int32), vr ba, vi (0 : Int32), vi (2 : Int32), vi (0 : Int32), vi y0]) rfl) ?_
    refine Go.via (fun _ => XS.iinc X275.here hx rfl (hb hby d13_35) rfl (l' := #[vr ca, vi (1 : Int32), vr ba, vi (1 : Int32), vi (2 : Int32), vi (0 : Int32), vi y0]) rfl) ?_
    refine Go.via (fun _ => XS.iinc X275.here hx rfl (hb hby d13_38) rfl (l' := #[vr ca, vi (1 : Int32), vr ba, vi (1 : Int32), vi (2 : Int32), vi (1 : Int32), vi y0]) rfl) ?_
    refine Go.via (fun _ => XS.goto X275.here hx rfl (pc0 := 41) (pc' := 3) rfl (hb hby d13_41) (by decide) (by decide)) ?_
    refine Go.via (fun _ => XS.iload X275.here hx rfl (hb hby d13_3) rfl) ?_
    refine Go.via (fun _ => XS.iload X275.here hx rfl (hb hby d13_5) rfl) ?_
    refine Go.via (fun _ => XS.icmpNo X275.here hx rfl (hb hby d13_7) rfl (tlt ((by decide) : (1 : Int32) < (2 : Int32))).2.1) ?_
    show Go p e below (T275.setTop (mkF m 10 #[vr ca, vi (1 : Int32), vr ba, vi (1 : Int32), vi (2 : Int32), vi (1 : Int32), vi y0] [])) _
    refine Go.via (fun _ => XS.aloadN X275.here hx rfl (hb hby d13_10) rfl rfl) ?_
    refine Go.via (fun _ => XS.iloadN X275.here hx rfl (hb hby d13_11) rfl) ?_
    have f277 : Ia Z h275 ca .char [y0, y1] := (P0.other W275 hcb)
    refine Go.via (ldC X275 hx hZ e275 f277 (v := y1) (by decide) rfl (g := (mkF m 12 #[vr ca, vi (1 : Int32), vr ba, vi (1 : Int32), vi (2 : Int32), vi (1 : Int32), vi y0] [(.int (1 : Int32)), (.ref ca)])) rfl rfl (hb hby d13_12)) ?_
    show Go p e below (T275.setTop (mkF m 13 #[vr ca, vi (1 : Int32), vr ba, vi (1 : Int32), vi (2 : Int32), vi (1 : Int32), vi y0] [(.int y1)])) _
    refine Go.via (fun _ => XS.istore X275.here hx rfl (hb hby d13_13) rfl (l' := #[vr ca, vi (1 : Int32), vr ba, vi (1 : Int32), vi (2 : Int32), vi (1 : Int32), vi y1]) rfl) ?_
    refine Go.via (fun _ => XS.iload X275.here hx rfl (hb hby d13_15) rfl) ?_
    refine Go.via (fun _ => XS.sipush X275.here hx rfl (hb hby d13_17)) ?_
    refine Go.via (fun _ => XS.icmpNo X275.here hx rfl (hb hby d13_20) rfl (tlt (hy1 : (255 : Int32) < y1)).2.2.2) ?_
    refine Go.via (fun _ => XS.iload X275.here hx rfl (hb hby d13_23) rfl) ?_
    have k278 : Keep h0 h275 [ba] := ((Keep.refl h0 [ba]).wr W275 (Or.inl (List.mem_of_getElem? (i := 0) rfl)))
    exact Go.fin X275 hlk (v := some (.int (1 : Int32))) (fun h => by rw [Bd.returns] at h; cases h) (fun fs hr => OwnKit.retI X275 hx Bd.returns (hb hby d13_25) hr) (by rw [e275]; exact ⟨rfl, N275, k278, f276⟩) (by decide) (by decide)
def Q_rmC3_21 (Z : State) (ca : Addr) (i : Int32) (n : Int32) (y0 : Int32) (y1 : Int32) (h0 : Heap) (n0 : Nat) (vQ : Option Value) (hQ : Heap) (LQ : List Loc) : Prop := ∃ r : Addr, vQ = some (.ref r) ∧ Fr n0 LQ ∧ Keep h0 hQ [] ∧ h0.size ≤ r ∧ Ia Z hQ r .byte [(loF y0), (hiF y0), (loF y1), (hiF y1)]
set_option maxRecDepth 65536 in
set_option maxHeartbeats 40000000 in
theorem rmC3_21 (l : Launch) (Z : State) (a0 : Array Value) (hw : ∀ d ∈ tables_1, d.before a0 Z = true) (ws : List Jvm.Cond) (ca : Addr) (i : Int32) (n : Int32) (y0 : Int32) (y1 : Int32) (h0 : Heap) (n0 : Nat) (Z0 : n0 ≤ h0.size) (P0 : Ia Z h0 ca .char [y0, y1]) (P1 : Old Z n0 h0) (zAD : Sta Z Z.heap cU6 "$assertionsDisabled" "Z" (.int (1 : Int32))) (zHI : Sta Z Z.heap cU6 "HI_BYTE_SHIFT" "I" (.int (0 : Int32))) (zLO : Sta Z Z.heap cU6 "LO_BYTE_SHIFT" "I" (.int (8 : Int32))) (hi : i = 0) (hn : n = 2) (hy0 : ¬ ((255 : Int32) < y0)) (hy1 : (255 : Int32) < y1) (hc1 : Ch y1) :
    MetFree l (⟨cU6, "compress", "([CII)[B"⟩ : MethodName) (head1 (Jvm.Cond.code (⟨cU6, "compress", "([CII)[B"⟩ : MethodName) jdk_52_method_16_code 6 (some (.array .byte)) :: ws) ({ frames := 3, cells := 2, slots := 6, locals := 40 } : Room)) (fun aQ UQ => aQ = #[(.ref ca), (.int i), (.int n)] ∧ Z.Warmed39 UQ.vm ∧ UQ.heap = h0) (fun _ _ _ _ _ => True) (fun _ UQ oQ UR => ∃ vQ LQ, oQ = .returned vQ ∧ Q_rmC3_21 Z ca i n y0 y1 h0 n0 vQ UR.heap LQ ∧ FrameEnd UQ oQ UR LQ ({ frames := 3, cells := 2, slots := 6, locals := 40 } : Room).cells ({ frames := 3, cells := 2, slots := 6, locals := 40 } : Room).slots) := by
  refine MetFree.of_bodySF (plainFor_of_name pn_12) hisR ?_
  intro p e s m args below meth c s₁ Bd hml0 hP hK
  obtain ⟨rfl, hZ, hh⟩ := hP
  have hx := Bd.exec
  have hby := Bd.bytes
  have hlk := Bd.notSynchronized
  have hml : c.maxLocals = 6 := hml0
  have hown : s.vm.findClass cU6 = some m.cls := findClass_of_methodNamed Bd.named
  have hnm := (name_of_methodNamed Bd.named Bd.method).1
  have X0 : Stand p l e ({ frames := 3, cells := 2, slots := 6, locals := 40 } : Room) s m #[(.ref ca), (.int i), (.int n)] below meth c s₁ [] 0 0 := Stand.of_body Bd
  have e0 : s₁.heap = h0 := by rw [← hh, Bd.state]; rfl
  have N0 := Fr.nil n0
  show Go p e below _ (Done s (Q_rmC3_21 Z ca i n y0 y1 h0 n0) ({ frames := 3, cells := 2, slots := 6, locals := 40 } : Room).cells ({ frames := 3, cells := 2, slots := 6, locals := 40 } : Room).slots)
  refine Go.via (fun tQ kQ => castTop (ef_12 m ca i n) kQ) ?_
  show Go p e below (s₁.setTop (mkF m 0 #[vr ca, vi i, vi n, .unset, .unset, .unset] [])) _
  · subst hi hn
    show Go p e below (s₁.setTop (mkF m 0 #[vr ca, vi (0 : Int32), vi (2 : Int32), .unset, .unset, .unset] [])) _
    refine Go.via (fun _ => XS.iloadN X0.here hx rfl (hb hby d12_0) rfl) ?_
    obtain ⟨T279, h279, k279, X279, e279, E279, A279, B279, st279⟩ := newPE X0 hx hZ (tw hw 27 rfl) e0 (g := (mkF m 1 #[vr ca, vi (0 : Int32), vi (2 : Int32), .unset, .unset, .unset] [(.int (2 : Int32))])) rfl (hb hby d12_1) rfl (by decide) (cap := 2) (by decide) (by decide) (by decide) (by decide) (ad := "[B") (by decide)
    obtain ⟨b279, g279⟩ : ∃ z, z = h0.size := ⟨_, rfl⟩
    rw [← g279] at A279 B279 st279
    have ne280 : ca ≠ b279 := Nat.ne_of_lt (Nat.lt_of_lt_of_le P0.lt (Nat.le_of_eq g279.symm))
    have ge281 : n0 ≤ b279 := Nat.le_trans Z0 (Nat.le_of_eq g279.symm)
    have sz282 : h0.size ≤ b279 := Nat.le_trans (Keep.refl h0 []).1 (Nat.le_of_eq g279.symm)
    refine Go.via (st279) ?_
    clear st279
    have f283 : Ia Z h279 b279 .byte [(0 : Int32), (0 : Int32)] := Ia.new A279 rfl
    clear X0 e0
    show Go p e below (T279.setTop (mkF m 3 #[vr ca, vi (0 : Int32), vi (2 : Int32), .unset, .unset, .unset] [(.ref b279)])) _
    refine Go.via (fun _ => XS.astoreN X279.here hx rfl (hb hby d12_3) rfl rfl (l' := #[vr ca, vi (0 : Int32), vi (2 : Int32), vr b279, .unset, .unset]) rfl) ?_
    refine Go.via (fun _ => XS.aloadN X279.here hx rfl (hb hby d12_4) rfl rfl) ?_
    refine Go.via (fun _ => XS.iloadN X279.here hx rfl (hb hby d12_5) rfl) ?_
    refine Go.via (fun _ => XS.aloadN X279.here hx rfl (hb hby d12_6) rfl rfl) ?_
    refine Go.via (fun _ => XS.iconst X279.here hx rfl (hb hby d12_7)) ?_
    refine Go.via (fun _ => XS.iloadN X279.here hx rfl (hb hby d12_8) rfl) ?_
    have f284 : Ia Z h279 ca .char [y0, y1] := (P0.ext E279)
    have z286 : n0 ≤ h279.size := (Nat.le_trans Z0 E279.1)
    obtain ⟨r285, _, ⟨T285, L285, k285, n285⟩, -, X285, ⟨Lc285, hQ285, l285, y285, z285⟩, st285⟩ := Jvm.LawKit.callS X279 hx (y := (⟨cU6, "compress", "([CI[BII)I"⟩ : MethodName)) hown (mvT hZ (tw hw 68 rfl)) (mvT hZ (tw hw 69 rfl)) (mvT hZ (tw hw 66 rfl)) (mvT hZ (tw hw 70 rfl)) (by decide) (backOf (W := 0) (rmC5_21 l Z a0 hw [] ca (0 : Int32) b279 (0 : Int32) (2 : Int32) y0 y1 h279 n0 z286 f284 f283 ge281 ne280 rfl rfl rfl hy0 hy1) hZ (tw hw 70 rfl) (tw hw 66 rfl) (by decide) (by decide)) (g := (mkF m 9 #[vr ca, vi (0 : Int32), vi (2 : Int32), vr b279, .unset, .unset] [(.int (2 : Int32)), (.int (0 : Int32)), (.ref b279), (.int (0 : Int32)), (.ref ca)])) rfl (by rw [hml]; rfl) (argsL := [(.ref ca), (.int (0 : Int32)), (.ref b279), (.int (0 : Int32)), (.int (2 : Int32))]) (rest := []) (lenOf pd__28_5bCI_5bBII_29I rfl) rfl (by show 2 * 0 + _ ≤ _; exact Nat.le_of_eq rfl) (hb hby d12_9) (fun _ _ => ⟨rfl, e279, (by decide : 1 + 0 ≤ _), (by decide : 2 + 0 ≤ _)⟩)
    dsimp only [Pt.U, Pt.locs, Pt.cells, Pt.slots] at X285 l285 y285 z285 st285 hQ285
    rw [l285, y285, z285] at X285
    obtain ⟨hr285, N285q, K285q, f287⟩ := hQ285
    rw [hr285] at st285
    have N285 := Fr.app N0 N285q
    refine Go.via (st285) ?_
    clear st285
    have e285 : T285.heap = T285.heap := rfl
    have f288 : Ia Z T285.heap b279 .byte [(nar .byte (y0.toInt8.toInt32)), (0 : Int32)] := f287
    clear X279 e279
    show Go p e below (T285.setTop (mkF m 12 #[vr ca, vi (0 : Int32), vi (2 : Int32), vr b279, .unset, .unset] [(.int (1 : Int32))])) _
    refine Go.via (fun _ => XS.istore X285.here hx rfl (hb hby d12_12) rfl (l' := #[vr ca, vi (0 : Int32), vi (2 : Int32), vr b279, vi (1 : Int32), .unset]) rfl) ?_
    refine Go.via (fun _ => XS.iload X285.here hx rfl (hb hby d12_14) rfl) ?_
    refine Go.via (fun _ => XS.iloadN X285.here hx rfl (hb hby d12_16) rfl) ?_
    refine Go.via (fun _ => XS.icmpNo X285.here hx rfl (hb hby d12_17) rfl (feq ((by decide) : ¬ ((1 : Int32) = (2 : Int32)))).1) ?_
    refine Go.via (fun _ => XS.aloadN X285.here hx rfl (hb hby d12_20) rfl rfl) ?_
    refine Go.via (fun _ => XS.iloadN X285.here hx rfl (hb hby d12_21) rfl) ?_
    refine Go.via (fun _ => XS.iloadN X285.here hx rfl (hb hby d12_22) rfl) ?_
    show Go p e below (T285.setTop (mkF m 23 #[vr ca, vi (0 : Int32), vi (2 : Int32), vr b279, vi (1 : Int32), .unset] [(.int (2 : Int32)), (.int (0 : Int32)), (.ref ca)])) _
    have f289 : Ia Z T285.heap ca .char [y0, y1] := (f284.keep K285q (ninS ne280 nin0))
    have o290 : Old Z n0 T285.heap := ((P1.ext E279).keep K285q (allS ge281 all0))
    have z292 : n0 ≤ T285.heap.size := (Nat.le_trans z286 K285q.1)
    obtain ⟨r291, _, ⟨T291, L291, k291, n291⟩, -, X291, ⟨Lc291, hQ291, l291, y291, z291⟩, st291⟩ := Jvm.LawKit.callS X285 hx (y := (⟨cU6, "toBytes", "([CII)[B"⟩ : MethodName)) hown (mvT hZ (tw hw 71 rfl)) (mvT hZ (tw hw 72 rfl)) (mvT hZ (tw hw 66 rfl)) (mvT hZ (tw hw 73 rfl)) (by decide) (backOf (W := 0) (rmTb2 l Z a0 hw [] ca (0 : Int32) (2 : Int32) y0 y1 T285.heap n0 z292 f289 o290 zAD zHI zLO rfl rfl) hZ (tw hw 73 rfl) (tw hw 66 rfl) (by decide) (by decide)) (g := (mkF m 23 #[vr ca, vi (0 : Int32), vi (2 : Int32), vr b279, vi (1 : Int32), .unset] [(.int (2 : Int32)), (.int (0 : Int32)), (.ref ca)])) rfl (by rw [hml]; rfl) (argsL := [(.ref ca), (.int (0 : Int32)), (.int (2 : Int32))]) (rest := []) (lenOf pd__28_5bCII_29_5bB rfl) rfl (by show 2 * 0 + _ ≤ _; exact Nat.le_of_eq rfl) (hb hby d12_23) (fun _ _ => ⟨rfl, e285, (by decide : 1 + 1 ≤ _), (by decide : 2 + 4 ≤ _)⟩)
    dsimp only [Pt.U, Pt.locs, Pt.cells, Pt.slots] at X291 l291 y291 z291 st291 hQ291
    rw [l291, y291, z291] at X291
    obtain ⟨b293, hr291, N291q, K291q, fz_b293, f294⟩ := hQ291
    rw [hr291] at st291
    have N291 := Fr.app N285 N291q
    refine Go.via (st291) ?_
    clear st291
    have ne295 : b279 ≠ b293 := Nat.ne_of_lt (Nat.lt_of_lt_of_le f288.lt fz_b293)
    have ne296 : ca ≠ b293 := Nat.ne_of_lt (Nat.lt_of_lt_of_le f289.lt fz_b293)
    have ge297 : n0 ≤ b293 := Nat.le_trans z292 fz_b293
    have k299 : Keep h0 T285.heap [] := (((Keep.refl h0 []).ext E279).trans K285q (allS (Or.inr sz282) all0))
    have sz298 : h0.size ≤ b293 := Nat.le_trans k299.1 fz_b293
    have e291 : T291.heap = T291.heap := rfl
    have f300 : Ia Z T291.heap b293 .byte [(loF y0), (hiF y0), (loF y1), (hiF y1)] := f294
    clear X285 e285
    show Go p e below (T291.setTop (mkF m 26 #[vr ca, vi (0 : Int32), vi (2 : Int32), vr b279, vi (1 : Int32), .unset] [(.ref b293)])) _
    refine Go.via (fun _ => XS.astore X291.here hx rfl (hb hby d12_26) rfl rfl (l' := #[vr ca, vi (0 : Int32), vi (2 : Int32), vr b279, vi (1 : Int32), vr b293]) rfl) ?_
    refine Go.via (fun _ => XS.aload X291.here hx rfl (hb hby d12_28) rfl rfl) ?_
    refine Go.via (fun _ => XS.iload X291.here hx rfl (hb hby d12_30) rfl) ?_
    have o301 : Old Z n0 T291.heap := (o290.keep K291q all0)
    have z303 : n0 ≤ T291.heap.size := (Nat.le_trans z292 K291q.1)
    obtain ⟨r302, _, ⟨T302, L302, k302, n302⟩, -, X302, ⟨Lc302, hQ302, l302, y302, z302⟩, st302⟩ := Jvm.LawKit.callS X291 hx (y := (⟨cU6, "getChar", "([BI)C"⟩ : MethodName)) hown (mvT hZ (tw hw 87 rfl)) (mvT hZ (tw hw 88 rfl)) (mvT hZ (tw hw 66 rfl)) (mvT hZ (tw hw 89 rfl)) (by decide) (backOf (W := 0) (rmGe21 l Z a0 hw [] b293 (1 : Int32) (loF y0) (hiF y0) (loF y1) (hiF y1) y1 T291.heap n0 z303 f300 o301 zAD zHI zLO rfl (own_gc hc1)) hZ (tw hw 89 rfl) (tw hw 66 rfl) (by decide) (by decide)) (g := (mkF m 32 #[vr ca, vi (0 : Int32), vi (2 : Int32), vr b279, vi (1 : Int32), vr b293] [(.int (1 : Int32)), (.ref b293)])) rfl (by rw [hml]; rfl) (argsL := [(.ref b293), (.int (1 : Int32))]) (rest := []) (lenOf pd__28_5bBI_29C rfl) rfl (by show 2 * 0 + _ ≤ _; exact Nat.le_of_eq rfl) (hb hby d12_32) (fun _ _ => ⟨rfl, e291, (by decide : 2 + 0 ≤ _), (by decide : 6 + 0 ≤ _)⟩)
    dsimp only [Pt.U, Pt.locs, Pt.cells, Pt.slots] at X302 l302 y302 z302 st302 hQ302
    rw [l302, y302, z302] at X302
    obtain ⟨hr302, N302q, eh302⟩ := hQ302
    rw [hr302] at st302
    rw [N302q, List.append_nil] at X302
    refine Go.via (st302) ?_
    clear st302
    have e302 : T302.heap = T291.heap := eh302
    clear X291 e291
    show Go p e below (T302.setTop (mkF m 35 #[vr ca, vi (0 : Int32), vi (2 : Int32), vr b279, vi (1 : Int32), vr b293] [(.int y1)])) _
    refine Go.via (fun _ => XS.sipush X302.here hx rfl (hb hby d12_35)) ?_
    refine Go.via (fun _ => XS.icmpYes X302.here hx rfl (pc0 := 38) (pc' := 54) rfl (hb hby d12_38) rfl (tlt (hy1 : (255 : Int32) < y1)).2.2.1 (by decide) (by decide)) ?_
    refine Go.via (fun _ => XS.aload X302.here hx rfl (hb hby d12_54) rfl rfl) ?_
    have k304 : Keep h0 T291.heap [] := (k299.trans K291q all0)
    exact Go.fin X302 hlk (v := some (.ref b293)) (fun h => by rw [Bd.returns] at h; cases h) (fun fs hr => retOut X302 hx Bd.returns rfl (Or.inr (Or.inr (Or.inr (Or.inr ⟨rfl, rfl, rfl⟩)))) (hb hby d12_56) hr) (by rw [e302]; exact ⟨b293, rfl, N291, k304, sz298, f300⟩) (by decide) (by decide)
def Q_rmC5_22 (Z : State) (ca : Addr) (i : Int32) (ba : Addr) (j : Int32) (n : Int32) (y0 : Int32) (y1 : Int32) (h0 : Heap) (n0 : Nat) (vQ : Option Value) (hQ : Heap) (LQ : List Loc) : Prop := vQ = some (.int (2 : Int32)) ∧ Fr n0 LQ ∧ Keep h0 hQ [ba] ∧ Ia Z hQ ba .byte [(nar .byte (y0.toInt8.toInt32)), (nar .byte (y1.toInt8.toInt32))]
set_option maxRecDepth 65536 in
set_option maxHeartbeats 40000000 in
theorem rmC5_22 (l : Launch) (Z : State) (a0 : Array Value) (hw : ∀ d ∈ tables_1, d.before a0 Z = true) (ws : List Jvm.Cond) (ca : Addr) (i : Int32) (ba : Addr) (j : Int32) (n : Int32) (y0 : Int32) (y1 : Int32) (h0 : Heap) (n0 : Nat) (Z0 : n0 ≤ h0.size) (P0 : Ia Z h0 ca .char [y0, y1]) (P1 : Ia Z h0 ba .byte [(0 : Int32), (0 : Int32)]) (g_ba : n0 ≤ ba) (hcb : ca ≠ ba) (hi : i = 0) (hj : j = 0) (hn : n = 2) (hy0 : ¬ ((255 : Int32) < y0)) (hy1 : ¬ ((255 : Int32) < y1)) :
    MetFree l (⟨cU6, "compress", "([CI[BII)I"⟩ : MethodName) (head1 (Jvm.Cond.code (⟨cU6, "compress", "([CI[BII)I"⟩ : MethodName) jdk_52_method_21_code 7 (some .int) :: ws) ({ frames := 0, cells := 0, slots := 0, locals := 0 } : Room)) (fun aQ UQ => aQ = #[(.ref ca), (.int i), (.ref ba), (.int j), (.int n)] ∧ Z.Warmed39 UQ.vm ∧ UQ.heap = h0) (fun _ _ _ _ _ => True) (fun _ UQ oQ UR => ∃ vQ LQ, oQ = .returned vQ ∧ Q_rmC5_22 Z ca i ba j n y0 y1 h0 n0 vQ UR.heap LQ ∧ FrameEnd UQ oQ UR LQ ({ frames := 0, cells := 0, slots := 0, locals := 0 } : Room).cells ({ frames := 0, cells := 0, slots := 0, locals := 0 } : Room).slots) := by
  refine MetFree.of_bodySF (plainFor_of_name pn_13) hisR ?_
  intro p e s m args below meth c s₁ Bd hml0 hP hK
  obtain ⟨rfl, hZ, hh⟩ := hP
  have hx := Bd.exec
  have hby := Bd.bytes
  have hlk := Bd.notSynchronized
  have hml : c.maxLocals = 7 := hml0
  have hown : s.vm.findClass cU6 = some m.cls := findClass_of_methodNamed Bd.named
  have hnm := (name_of_methodNamed Bd.named Bd.method).1
  have X0 : Stand p l e ({ frames := 0, cells := 0, slots := 0, locals := 0 } : Room) s m #[(.ref ca), (.int i), (.ref ba), (.int j), (.int n)] below meth c s₁ [] 0 0 := Stand.of_body Bd
  have e0 : s₁.heap = h0 := by rw [← hh, Bd.state]; rfl
  have N0 := Fr.nil n0
  show Go p e below _ (Done s (Q_rmC5_22 Z ca i ba j n y0 y1 h0 n0) ({ frames := 0, cells := 0, slots := 0, locals := 0 } : Room).cells ({ frames := 0, cells := 0, slots := 0, locals := 0 } : Room).slots)
  refine Go.via (fun tQ kQ => castTop (ef_13 m ca i ba j n) kQ) ?_
  show Go p e below (s₁.setTop (mkF m 0 #[vr ca, vi i, vr ba, vi j, vi n, .unset, .unset] [])) _
  · subst hi hj hn
    show Go p e below (s₁.setTop (mkF m 0 #[vr ca, vi (0 : Int32), vr ba, vi (0 : Int32), vi (2 : Int32), .unset, .unset] [])) _
    refine Go.via (fun _ => XS.iconst X0.here hx rfl (hb hby d13_0)) ?_
    refine Go.via (fun _ => XS.istore X0.here hx rfl (hb hby d13_1) rfl (l' := #[vr ca, vi (0 : Int32), vr ba, vi (0 : Int32), vi (2 : Int32), vi (0 : Int32), .unset]) rfl) ?_
    refine Go.via (fun _ => XS.iload X0.here hx rfl (hb hby d13_3) rfl) ?_
    refine Go.via (fun _ => XS.iload X0.here hx rfl (hb hby d13_5) rfl) ?_
    refine Go.via (fun _ => XS.icmpNo X0.here hx rfl (hb hby d13_7) rfl (tlt ((by decide) : (0 : Int32) < (2 : Int32))).2.1) ?_
    refine Go.via (fun _ => XS.aloadN X0.here hx rfl (hb hby d13_10) rfl rfl) ?_
    refine Go.via (fun _ => XS.iloadN X0.here hx rfl (hb hby d13_11) rfl) ?_
    show Go p e below (s₁.setTop (mkF m 12 #[vr ca, vi (0 : Int32), vr ba, vi (0 : Int32), vi (2 : Int32), vi (0 : Int32), .unset] [(.int (0 : Int32)), (.ref ca)])) _
    refine Go.via (ldC X0 hx hZ e0 P0 (v := y0) (by decide) rfl (g := (mkF m 12 #[vr ca, vi (0 : Int32), vr ba, vi (0 : Int32), vi (2 : Int32), vi (0 : Int32), .unset] [(.int (0 : Int32)), (.ref ca)])) rfl rfl (hb hby d13_12)) ?_
    show Go p e below (s₁.setTop (mkF m 13 #[vr ca, vi (0 : Int32), vr ba, vi (0 : Int32), vi (2 : Int32), vi (0 : Int32), .unset] [(.int y0)])) _
    refine Go.via (fun _ => XS.istore X0.here hx rfl (hb hby d13_13) rfl (l' := #[vr ca, vi (0 : Int32), vr ba, vi (0 : Int32), vi (2 : Int32), vi (0 : Int32), vi y0]) rfl) ?_
    refine Go.via (fun _ => XS.iload X0.here hx rfl (hb hby d13_15) rfl) ?_
    refine Go.via (fun _ => XS.sipush X0.here hx rfl (hb hby d13_17)) ?_
    refine Go.via (fun _ => XS.icmpYes X0.here hx rfl (pc0 := 20) (pc' := 26) rfl (hb hby d13_20) rfl (flt (hy0 : ¬ ((255 : Int32) < y0))).2.2.2 (by decide) (by decide)) ?_
    refine Go.via (fun _ => XS.aloadN X0.here hx rfl (hb hby d13_26) rfl rfl) ?_
    refine Go.via (fun _ => XS.iloadN X0.here hx rfl (hb hby d13_27) rfl) ?_
    refine Go.via (fun _ => XS.iload X0.here hx rfl (hb hby d13_28) rfl) ?_
    show Go p e below (s₁.setTop (mkF m 30 #[vr ca, vi (0 : Int32), vr ba, vi (0 : Int32), vi (2 : Int32), vi (0 : Int32), vi y0] [(.int y0), (.int (0 : Int32)), (.ref ba)])) _
    refine Go.via (fun _ => XS.i2b X0.here hx rfl (hb hby d13_30) rfl) ?_
    obtain ⟨T305, h305, X305, e305, W305, V305, st305⟩ := stB' X0 hx hZ e0 P1 (j := (0 : Int32)) (by decide) (by first | decide | (simp only [List.length_cons, List.length_nil]; decide) | rfl) (g := (mkF m 31 #[vr ca, vi (0 : Int32), vr ba, vi (0 : Int32), vi (2 : Int32), vi (0 : Int32), vi y0] [(.int (y0.toInt8.toInt32)), (.int (0 : Int32)), (.ref ba)])) rfl rfl (hb hby d13_31)
    refine Go.via (st305) ?_
    clear st305
    have N305 := Fr.snoc X305 N0 g_ba
    have f306 : Ia Z h305 ba .byte [(nar .byte (y0.toInt8.toInt32)), (0 : Int32)] := V305
    clear X0 e0
    show Go p e below (T305.setTop (mkF m 32 #[vr ca, vi (0 : Int32), vr ba, vi (0 : Int32), vi (2 : Int32), vi (0 : Int32), vi y0] [])) _
    refine Go.via (fun _ => XS.iinc X305.here hx rfl (hb hby d13_32) rfl (l' := #[vr ca, vi (1 : Int32), vr ba, vi (0 : Int32), vi (2 : Int32), vi (0 : Int32), vi y0]) rfl) ?_
    refine Go.via (fun _ => XS.iinc X305.here hx rfl (hb hby d13_35) rfl (l' := #[vr ca, vi (1 : Int32), vr ba, vi (1 : Int32), vi (2 : Int32), vi (0 : Int32), vi y0]) rfl) ?_
    refine Go.via (fun _ => XS.iinc X305.here hx rfl (hb hby d13_38) rfl (l' := #[vr ca, vi (1 : Int32), vr ba, vi (1 : Int32), vi (2 : Int32), vi (1 : Int32), vi y0]) rfl) ?_
    refine Go.via (fun _ => XS.goto X305.here hx rfl (pc0 := 41) (pc' := 3) rfl (hb hby d13_41) (by decide) (by decide)) ?_
    refine Go.via (fun _ => XS.iload X305.here hx rfl (hb hby d13_3) rfl) ?_
    refine Go.via (fun _ => XS.iload X305.here hx rfl (hb hby d13_5) rfl) ?_
    refine Go.via (fun _ => XS.icmpNo X305.here hx rfl (hb hby d13_7) rfl (tlt ((by decide) : (1 : Int32) < (2 : Int32))).2.1) ?_
    show Go p e below (T305.setTop (mkF m 10 #[vr ca, vi (1 : Int32), vr ba, vi (1 : Int32), vi (2 : Int32), vi (1 : Int32), vi y0] [])) _
    refine Go.via (fun _ => XS.aloadN X305.here hx rfl (hb hby d13_10) rfl rfl) ?_
    refine Go.via (fun _ => XS.iloadN X305.here hx rfl (hb hby d13_11) rfl) ?_
    have f307 : Ia Z h305 ca .char [y0, y1] := (P0.other W305 hcb)
    refine Go.via (ldC X305 hx hZ e305 f307 (v := y1) (by decide) rfl (g := (mkF m 12 #[vr ca, vi (1 : Int32), vr ba, vi (1 : Int32), vi (2 : Int32), vi (1 : Int32), vi y0] [(.int (1 : Int32)), (.ref ca)])) rfl rfl (hb hby d13_12)) ?_
    show Go p e below (T305.setTop (mkF m 13 #[vr ca, vi (1 : Int32), vr ba, vi (1 : Int32), vi (2 : Int32), vi (1 : Int32), vi y0] [(.int y1)])) _
    refine Go.via (fun _ => XS.istore X305.here hx rfl (hb hby d13_13) rfl (l' := #[vr ca, vi (1 : Int32), vr ba, vi (1 : Int32), vi (2 : Int32), vi (1 : Int32), vi y1]) rfl) ?_
    refine Go.via (fun _ => XS.iload X305.here hx rfl (hb hby d13_15) rfl) ?_
    refine Go.via (fun _ => XS.sipush X305.here hx rfl (hb hby d13_17)) ?_
    refine Go.via (fun _ => XS.icmpYes X305.here hx rfl (pc0 := 20) (pc' := 26) rfl (hb hby d13_20) rfl (flt (hy1 : ¬ ((255 : Int32) < y1))).2.2.2 (by decide) (by decide)) ?_
    refine Go.via (fun _ => XS.aloadN X305.here hx rfl (hb hby d13_26) rfl rfl) ?_
    refine Go.via (fun _ => XS.iloadN X305.here hx rfl (hb hby d13_27) rfl) ?_
    refine Go.via (fun _ => XS.iload X305.here hx rfl (hb hby d13_28) rfl) ?_
    show Go p e below (T305.setTop (mkF m 30 #[vr ca, vi (1 : Int32), vr ba, vi (1 : Int32), vi (2 : Int32), vi (1 : Int32), vi y1] [(.int y1), (.int (1 : Int32)), (.ref ba)])) _
    refine Go.via (fun _ => XS.i2b X305.here hx rfl (hb hby d13_30) rfl) ?_
    obtain ⟨T308, h308, X308, e308, W308, V308, st308⟩ := stB' X305 hx hZ e305 f306 (j := (1 : Int32)) (by decide) (by first | decide | (simp only [List.length_cons, List.length_nil]; decide) | rfl) (g := (mkF m 31 #[vr ca, vi (1 : Int32), vr ba, vi (1 : Int32), vi (2 : Int32), vi (1 : Int32), vi y1] [(.int (y1.toInt8.toInt32)), (.int (1 : Int32)), (.ref ba)])) rfl rfl (hb hby d13_31)
    refine Go.via (st308) ?_
    clear st308
    have N308 := Fr.snoc X308 N305 g_ba
    have f309 : Ia Z h308 ba .byte [(nar .byte (y0.toInt8.toInt32)), (nar .byte (y1.toInt8.toInt32))] := V308
    clear X305 e305
    show Go p e below (T308.setTop (mkF m 32 #[vr ca, vi (1 : Int32), vr ba, vi (1 : Int32), vi (2 : Int32), vi (1 : Int32), vi y1] [])) _
    refine Go.via (fun _ => XS.iinc X308.here hx rfl (hb hby d13_32) rfl (l' := #[vr ca, vi (2 : Int32), vr ba, vi (1 : Int32), vi (2 : Int32), vi (1 : Int32), vi y1]) rfl) ?_
    refine Go.via (fun _ => XS.iinc X308.here hx rfl (hb hby d13_35) rfl (l' := #[vr ca, vi (2 : Int32), vr ba, vi (2 : Int32), vi (2 : Int32), vi (1 : Int32), vi y1]) rfl) ?_
    refine Go.via (fun _ => XS.iinc X308.here hx rfl (hb hby d13_38) rfl (l' := #[vr ca, vi (2 : Int32), vr ba, vi (2 : Int32), vi (2 : Int32), vi (2 : Int32), vi y1]) rfl) ?_
    refine Go.via (fun _ => XS.goto X308.here hx rfl (pc0 := 41) (pc' := 3) rfl (hb hby d13_41) (by decide) (by decide)) ?_
    refine Go.via (fun _ => XS.iload X308.here hx rfl (hb hby d13_3) rfl) ?_
    refine Go.via (fun _ => XS.iload X308.here hx rfl (hb hby d13_5) rfl) ?_
    refine Go.via (fun _ => XS.icmpYes X308.here hx rfl (pc0 := 7) (pc' := 44) rfl (hb hby d13_7) rfl (flt ((by decide) : ¬ ((2 : Int32) < (2 : Int32)))).2.1 (by decide) (by decide)) ?_
    show Go p e below (T308.setTop (mkF m 44 #[vr ca, vi (2 : Int32), vr ba, vi (2 : Int32), vi (2 : Int32), vi (2 : Int32), vi y1] [])) _
    refine Go.via (fun _ => XS.iload X308.here hx rfl (hb hby d13_44) rfl) ?_
    have k310 : Keep h0 h308 [ba] := (((Keep.refl h0 [ba]).wr W305 (Or.inl (List.mem_of_getElem? (i := 0) rfl))).wr W308 (Or.inl (List.mem_of_getElem? (i := 0) rfl)))
    exact Go.fin X308 hlk (v := some (.int (2 : Int32))) (fun h => by rw [Bd.returns] at h; cases h) (fun fs hr => OwnKit.retI X308 hx Bd.returns (hb hby d13_46) hr) (by rw [e308]; exact ⟨rfl, N308, k310, f309⟩) (by decide) (by decide)
def Q_rmC3_22 (Z : State) (ca : Addr) (i : Int32) (n : Int32) (y0 : Int32) (y1 : Int32) (h0 : Heap) (n0 : Nat) (vQ : Option Value) (hQ : Heap) (LQ : List Loc) : Prop := ∃ r : Addr, vQ = some (.ref r) ∧ Fr n0 LQ ∧ Keep h0 hQ [] ∧ h0.size ≤ r ∧ Ia Z hQ r .byte [(nar .byte (y0.toInt8.toInt32)), (nar .byte (y1.toInt8.toInt32))]
set_option maxRecDepth 65536 in
set_option maxHeartbeats 40000000 in
theorem rmC3_22 (l : Launch) (Z : State) (a0 : Array Value) (hw : ∀ d ∈ tables_1, d.before a0 Z = true) (ws : List Jvm.Cond) (ca : Addr) (i : Int32) (n : Int32) (y0 : Int32) (y1 : Int32) (h0 : Heap) (n0 : Nat) (Z0 : n0 ≤ h0.size) (P0 : Ia Z h0 ca .char [y0, y1]) (P1 : Old Z n0 h0) (zAD : Sta Z Z.heap cU6 "$assertionsDisabled" "Z" (.int (1 : Int32))) (zHI : Sta Z Z.heap cU6 "HI_BYTE_SHIFT" "I" (.int (0 : Int32))) (zLO : Sta Z Z.heap cU6 "LO_BYTE_SHIFT" "I" (.int (8 : Int32))) (hi : i = 0) (hn : n = 2) (hy0 : ¬ ((255 : Int32) < y0)) (hy1 : ¬ ((255 : Int32) < y1)) :
    MetFree l (⟨cU6, "compress", "([CII)[B"⟩ : MethodName) (head1 (Jvm.Cond.code (⟨cU6, "compress", "([CII)[B"⟩ : MethodName) jdk_52_method_16_code 6 (some (.array .byte)) :: ws) ({ frames := 1, cells := 1, slots := 2, locals := 18 } : Room)) (fun aQ UQ => aQ = #[(.ref ca), (.int i), (.int n)] ∧ Z.Warmed39 UQ.vm ∧ UQ.heap = h0) (fun _ _ _ _ _ => True) (fun _ UQ oQ UR => ∃ vQ LQ, oQ = .returned vQ ∧ Q_rmC3_22 Z ca i n y0 y1 h0 n0 vQ UR.heap LQ ∧ FrameEnd UQ oQ UR LQ ({ frames := 1, cells := 1, slots := 2, locals := 18 } : Room).cells ({ frames := 1, cells := 1, slots := 2, locals := 18 } : Room).slots) := by
  refine MetFree.of_bodySF (plainFor_of_name pn_12) hisR ?_
  intro p e s m args below meth c s₁ Bd hml0 hP hK
  obtain ⟨rfl, hZ, hh⟩ := hP
  have hx := Bd.exec
  have hby := Bd.bytes
  have hlk := Bd.notSynchronized
  have hml : c.maxLocals = 6 := hml0
  have hown : s.vm.findClass cU6 = some m.cls := findClass_of_methodNamed Bd.named
  have hnm := (name_of_methodNamed Bd.named Bd.method).1
  have X0 : Stand p l e ({ frames := 1, cells := 1, slots := 2, locals := 18 } : Room) s m #[(.ref ca), (.int i), (.int n)] below meth c s₁ [] 0 0 := Stand.of_body Bd
  have e0 : s₁.heap = h0 := by rw [← hh, Bd.state]; rfl
  have N0 := Fr.nil n0
  show Go p e below _ (Done s (Q_rmC3_22 Z ca i n y0 y1 h0 n0) ({ frames := 1, cells := 1, slots := 2, locals := 18 } : Room).cells ({ frames := 1, cells := 1, slots := 2, locals := 18 } : Room).slots)
  refine Go.via (fun tQ kQ => castTop (ef_12 m ca i n) kQ) ?_
  show Go p e below (s₁.setTop (mkF m 0 #[vr ca, vi i, vi n, .unset, .unset, .unset] [])) _
  · subst hi hn
    show Go p e below (s₁.setTop (mkF m 0 #[vr ca, vi (0 : Int32), vi (2 : Int32), .unset, .unset, .unset] [])) _
    refine Go.via (fun _ => XS.iloadN X0.here hx rfl (hb hby d12_0) rfl) ?_
    obtain ⟨T311, h311, k311, X311, e311, E311, A311, B311, st311⟩ := newPE X0 hx hZ (tw hw 27 rfl) e0 (g := (mkF m 1 #[vr ca, vi (0 : Int32), vi (2 : Int32), .unset, .unset, .unset] [(.int (2 : Int32))])) rfl (hb hby d12_1) rfl (by decide) (cap := 2) (by decide) (by decide) (by decide) (by decide) (ad := "[B") (by decide)
    obtain ⟨b311, g311⟩ : ∃ z, z = h0.size := ⟨_, rfl⟩
    rw [← g311] at A311 B311 st311
    have ne312 : ca ≠ b311 := Nat.ne_of_lt (Nat.lt_of_lt_of_le P0.lt (Nat.le_of_eq g311.symm))
    have ge313 : n0 ≤ b311 := Nat.le_trans Z0 (Nat.le_of_eq g311.symm)
    have sz314 : h0.size ≤ b311 := Nat.le_trans (Keep.refl h0 []).1 (Nat.le_of_eq g311.symm)
    refine Go.via (st311) ?_
    clear st311
    have f315 : Ia Z h311 b311 .byte [(0 : Int32), (0 : Int32)] := Ia.new A311 rfl
    clear X0 e0
    show Go p e below (T311.setTop (mkF m 3 #[vr ca, vi (0 : Int32), vi (2 : Int32), .unset, .unset, .unset] [(.ref b311)])) _
    refine Go.via (fun _ => XS.astoreN X311.here hx rfl (hb hby d12_3) rfl rfl (l' := #[vr ca, vi (0 : Int32), vi (2 : Int32), vr b311, .unset, .unset]) rfl) ?_
    refine Go.via (fun _ => XS.aloadN X311.here hx rfl (hb hby d12_4) rfl rfl) ?_
    refine Go.via (fun _ => XS.iloadN X311.here hx rfl (hb hby d12_5) rfl) ?_
    refine Go.via (fun _ => XS.aloadN X311.here hx rfl (hb hby d12_6) rfl rfl) ?_
    refine Go.via (fun _ => XS.iconst X311.here hx rfl (hb hby d12_7)) ?_
    refine Go.via (fun _ => XS.iloadN X311.here hx rfl (hb hby d12_8) rfl) ?_
    have f316 : Ia Z h311 ca .char [y0, y1] := (P0.ext E311)
    have z318 : n0 ≤ h311.size := (Nat.le_trans Z0 E311.1)
    obtain ⟨r317, _, ⟨T317, L317, k317, n317⟩, -, X317, ⟨Lc317, hQ317, l317, y317, z317⟩, st317⟩ := Jvm.LawKit.callS X311 hx (y := (⟨cU6, "compress", "([CI[BII)I"⟩ : MethodName)) hown (mvT hZ (tw hw 68 rfl)) (mvT hZ (tw hw 69 rfl)) (mvT hZ (tw hw 66 rfl)) (mvT hZ (tw hw 70 rfl)) (by decide) (backOf (W := 0) (rmC5_22 l Z a0 hw [] ca (0 : Int32) b311 (0 : Int32) (2 : Int32) y0 y1 h311 n0 z318 f316 f315 ge313 ne312 rfl rfl rfl hy0 hy1) hZ (tw hw 70 rfl) (tw hw 66 rfl) (by decide) (by decide)) (g := (mkF m 9 #[vr ca, vi (0 : Int32), vi (2 : Int32), vr b311, .unset, .unset] [(.int (2 : Int32)), (.int (0 : Int32)), (.ref b311), (.int (0 : Int32)), (.ref ca)])) rfl (by rw [hml]; rfl) (argsL := [(.ref ca), (.int (0 : Int32)), (.ref b311), (.int (0 : Int32)), (.int (2 : Int32))]) (rest := []) (lenOf pd__28_5bCI_5bBII_29I rfl) rfl (by show 2 * 0 + _ ≤ _; exact Nat.le_of_eq rfl) (hb hby d12_9) (fun _ _ => ⟨rfl, e311, (by decide : 1 + 0 ≤ _), (by decide : 2 + 0 ≤ _)⟩)
    dsimp only [Pt.U, Pt.locs, Pt.cells, Pt.slots] at X317 l317 y317 z317 st317 hQ317
    rw [l317, y317, z317] at X317
    obtain ⟨hr317, N317q, K317q, f319⟩ := hQ317
    rw [hr317] at st317
    have N317 := Fr.app N0 N317q
    refine Go.via (st317) ?_
    clear st317
    have e317 : T317.heap = T317.heap := rfl
    have f320 : Ia Z T317.heap b311 .byte [(nar .byte (y0.toInt8.toInt32)), (nar .byte (y1.toInt8.toInt32))] := f319
    clear X311 e311
    show Go p e below (T317.setTop (mkF m 12 #[vr ca, vi (0 : Int32), vi (2 : Int32), vr b311, .unset, .unset] [(.int (2 : Int32))])) _
    refine Go.via (fun _ => XS.istore X317.here hx rfl (hb hby d12_12) rfl (l' := #[vr ca, vi (0 : Int32), vi (2 : Int32), vr b311, vi (2 : Int32), .unset]) rfl) ?_
    refine Go.via (fun _ => XS.iload X317.here hx rfl (hb hby d12_14) rfl) ?_
    refine Go.via (fun _ => XS.iloadN X317.here hx rfl (hb hby d12_16) rfl) ?_
    refine Go.via (fun _ => XS.icmpYes X317.here hx rfl (pc0 := 17) (pc' := 57) rfl (hb hby d12_17) rfl (teq ((by decide) : (2 : Int32) = (2 : Int32))).1 (by decide) (by decide)) ?_
    refine Go.via (fun _ => XS.aloadN X317.here hx rfl (hb hby d12_57) rfl rfl) ?_
    have k321 : Keep h0 T317.heap [] := (((Keep.refl h0 []).ext E311).trans K317q (allS (Or.inr sz314) all0))
    exact Go.fin X317 hlk (v := some (.ref b311)) (fun h => by rw [Bd.returns] at h; cases h) (fun fs hr => retOut X317 hx Bd.returns rfl (Or.inr (Or.inr (Or.inr (Or.inr ⟨rfl, rfl, rfl⟩)))) (hb hby d12_58) hr) (by exact ⟨b311, rfl, N317, k321, sz314, f320⟩) (by decide) (by decide)
def Q_rmI5_2 (Z : State) (a : Addr) (ca : Addr) (i : Int32) (n : Int32) (y0 : Int32) (y1 : Int32) (cs : Int32) (h0 : Heap) (n0 : Nat) (vQ : Option Value) (hQ : Heap) (LQ : List Loc) : Prop := ∃ b_ : Addr, ∃ co : Int32, ∃ ys : List Int32, vQ = none ∧ Fr n0 LQ ∧ Keep h0 hQ [a] ∧ Exa Z hQ a cST ∧ Fld Z hQ a cST "coder" "B" (.int co) ∧ Fld Z hQ a cST "value" "[B" (.ref b_) ∧ Ia Z hQ b_ .byte ys ∧ (Rep [y0, y1] co ys)
set_option maxRecDepth 65536 in
set_option maxHeartbeats 40000000 in
theorem rmI5_2 (l : Launch) (Z : State) (a0 : Array Value) (hw : ∀ d ∈ tables_1, d.before a0 Z = true) (ws : List Jvm.Cond) (a : Addr) (ca : Addr) (i : Int32) (n : Int32) (y0 : Int32) (y1 : Int32) (cs : Int32) (h0 : Heap) (n0 : Nat) (Z0 : n0 ≤ h0.size) (P0 : Fld Z h0 a cST "coder" "B" (.int (0 : Int32))) (P1 : Fld Z h0 a cST "value" "[B" .null) (P2 : Exa Z h0 a cST) (P3 : Ia Z h0 ca .char [y0, y1]) (P4 : Old Z n0 h0) (zCS : Sta Z Z.heap cST "COMPACT_STRINGS" "Z" (.int cs)) (zAD : Sta Z Z.heap cU6 "$assertionsDisabled" "Z" (.int (1 : Int32))) (zHI : Sta Z Z.heap cU6 "HI_BYTE_SHIFT" "I" (.int (0 : Int32))) (zLO : Sta Z Z.heap cU6 "LO_BYTE_SHIFT" "I" (.int (8 : Int32))) (g_a : n0 ≤ a) (hac : a ≠ ca) (hi : i = 0) (hn : n = 2) (hcs : ¬ (cs = (0 : Int32))) (hc0 : Ch y0) (hc1 : Ch y1) :
    MetFree l (⟨cST, "<init>", "([CIILjava/lang/Void;)V"⟩ : MethodName) (head1 (Jvm.Cond.code (⟨cST, "<init>", "([CIILjava/lang/Void;)V"⟩ : MethodName) jdk_42_method_149_code 6 none :: ws) ({ frames := 4, cells := 2, slots := 6, locals := 57 } : Room)) (fun aQ UQ => aQ = #[(.ref a), (.ref ca), (.int i), (.int n), .null] ∧ Z.Warmed39 UQ.vm ∧ UQ.heap = h0) (fun _ _ _ _ _ => True) (fun _ UQ oQ UR => ∃ vQ LQ, oQ = .returned vQ ∧ Q_rmI5_2 Z a ca i n y0 y1 cs h0 n0 vQ UR.heap LQ ∧ FrameEnd UQ oQ UR LQ ({ frames := 4, cells := 2, slots := 6, locals := 57 } : Room).cells ({ frames := 4, cells := 2, slots := 6, locals := 57 } : Room).slots) := by
  refine MetFree.of_bodySF (plainFor_of_name pn_4) hisR ?_
  intro p e s m args below meth c s₁ Bd hml0 hP hK
  obtain ⟨rfl, hZ, hh⟩ := hP
  have hx := Bd.exec
  have hby := Bd.bytes
  have hlk := Bd.notSynchronized
  have hml : c.maxLocals = 6 := hml0
  have hown : s.vm.findClass cST = some m.cls := findClass_of_methodNamed Bd.named
  have hnm := (name_of_methodNamed Bd.named Bd.method).1
  have X0 : Stand p l e ({ frames := 4, cells := 2, slots := 6, locals := 57 } : Room) s m #[(.ref a), (.ref ca), (.int i), (.int n), .null] below meth c s₁ [] 0 0 := Stand.of_body Bd
  have e0 : s₁.heap = h0 := by rw [← hh, Bd.state]; rfl
  have N0 := Fr.nil n0
  show Go p e below _ (Done s (Q_rmI5_2 Z a ca i n y0 y1 cs h0 n0) ({ frames := 4, cells := 2, slots := 6, locals := 57 } : Room).cells ({ frames := 4, cells := 2, slots := 6, locals := 57 } : Room).slots)
  refine Go.via (fun tQ kQ => castTop (ef_4n4 m a ca i n) kQ) ?_
  show Go p e below (s₁.setTop (mkF m 0 #[vr a, vr ca, vi i, vi n, .val .null, .unset] [])) _
  · subst hi hn
    show Go p e below (s₁.setTop (mkF m 0 #[vr a, vr ca, vi (0 : Int32), vi (2 : Int32), .val .null, .unset] [])) _
    refine Go.via (fun _ => XS.aloadN X0.here hx rfl (hb hby d4_0) rfl rfl) ?_
    obtain ⟨T322, X322, e322, st322⟩ := initO X0 hx hZ hown (tw hw 23 rfl) (tw hw 24 rfl) (tw hw 25 rfl) e0 (g := (mkF m 1 #[vr a, vr ca, vi (0 : Int32), vi (2 : Int32), .val .null, .unset] [(.ref a)])) rfl (by rw [hml]; rfl) rfl (hb hby d4_1) (by decide) (W := 0) (by show 2 * 0 + _ ≤ _; exact Nat.le_of_eq rfl) (by decide)
    refine Go.via (st322) ?_
    clear st322
    clear X0 e0
    show Go p e below (T322.setTop (mkF m 4 #[vr a, vr ca, vi (0 : Int32), vi (2 : Int32), .val .null, .unset] [])) _
    by_cases hy0 : (255 : Int32) < y0 <;> by_cases hy1 : (255 : Int32) < y1
    · show Go p e below (T322.setTop (mkF m 4 #[vr a, vr ca, vi (0 : Int32), vi (2 : Int32), .val .null, .unset] [])) _
      refine Go.via (fun _ => XS.iloadN X322.here hx rfl (hb hby d4_4) rfl) ?_
      refine Go.via (fun _ => XS.ifYes X322.here hx rfl (pc0 := 5) (pc' := 27) rfl (hb hby d4_5) rfl ((if0 _ _).trans (feq ((by decide) : ¬ ((2 : Int32) = (0 : Int32)))).2) (by decide) (by decide)) ?_
      have f323 : Sta Z h0 cST "COMPACT_STRINGS" "Z" (.int cs) := zCS.ext P4.2
      obtain ⟨T324, X324, e324, st324⟩ := getS2 X322 hx hZ hown (host := "") (Or.inl (tw hw 56 rfl)) Via.refl e322 f323 (g := (mkF m 27 #[vr a, vr ca, vi (0 : Int32), vi (2 : Int32), .val .null, .unset] [])) rfl (hb hby d4_27)
      refine Go.via (st324) ?_
      clear st324
      clear X322 e322
      show Go p e below (T324.setTop (mkF m 30 #[vr a, vr ca, vi (0 : Int32), vi (2 : Int32), .val .null, .unset] [(.int cs)])) _
      refine Go.via (fun _ => XS.ifNo X324.here hx rfl (hb hby d4_30) rfl ((if0 _ _).trans (feq (hcs : ¬ (cs = (0 : Int32)))).1)) ?_
      refine Go.via (fun _ => XS.aloadN X324.here hx rfl (hb hby d4_33) rfl rfl) ?_
      refine Go.via (fun _ => XS.iloadN X324.here hx rfl (hb hby d4_34) rfl) ?_
      refine Go.via (fun _ => XS.iloadN X324.here hx rfl (hb hby d4_35) rfl) ?_
      obtain ⟨r325, _, ⟨T325, L325, k325, n325⟩, -, X325, ⟨Lc325, hQ325, l325, y325, z325⟩, st325⟩ := Jvm.LawKit.callS X324 hx (y := (⟨cU6, "compress", "([CII)[B"⟩ : MethodName)) hown (mvT hZ (tw hw 64 rfl)) (mvT hZ (tw hw 65 rfl)) (mvT hZ (tw hw 66 rfl)) (mvT hZ (tw hw 67 rfl)) (by decide) (backOf (W := 0) (rmC3_20 l Z a0 hw [] ca (0 : Int32) (2 : Int32) y0 y1 h0 n0 Z0 P3 P4 zAD zHI zLO rfl rfl hy0 hc0) hZ (tw hw 67 rfl) (tw hw 66 rfl) (by decide) (by decide)) (g := (mkF m 36 #[vr a, vr ca, vi (0 : Int32), vi (2 : Int32), .val .null, .unset] [(.int (2 : Int32)), (.int (0 : Int32)), (.ref ca)])) rfl (by rw [hml]; rfl) (argsL := [(.ref ca), (.int (0 : Int32)), (.int (2 : Int32))]) (rest := []) (lenOf pd__28_5bCII_29_5bB rfl) rfl (by show 2 * 0 + _ ≤ _; exact Nat.le_of_eq rfl) (hb hby d4_36) (fun _ _ => ⟨rfl, e324, (by decide : 0 + 2 ≤ _), (by decide : 0 + 6 ≤ _)⟩)
      dsimp only [Pt.U, Pt.locs, Pt.cells, Pt.slots] at X325 l325 y325 z325 st325 hQ325
      rw [l325, y325, z325] at X325
      obtain ⟨b326, hr325, N325q, K325q, fz_b326, f327⟩ := hQ325
      rw [hr325] at st325
      have N325 := Fr.app N0 N325q
      refine Go.via (st325) ?_
      clear st325
      have ne328 : a ≠ b326 := Nat.ne_of_lt (Nat.lt_of_lt_of_le P0.lt fz_b326)
      have ne329 : ca ≠ b326 := Nat.ne_of_lt (Nat.lt_of_lt_of_le P3.lt fz_b326)
      have ge330 : n0 ≤ b326 := Nat.le_trans Z0 fz_b326
      have sz331 : h0.size ≤ b326 := Nat.le_trans (Keep.refl h0 [a]).1 fz_b326
      have e325 : T325.heap = T325.heap := rfl
      have f332 : Ia Z T325.heap b326 .byte [(loF y0), (hiF y0), (loF y1), (hiF y1)] := f327
      clear X324 e324
      show Go p e below (T325.setTop (mkF m 39 #[vr a, vr ca, vi (0 : Int32), vi (2 : Int32), .val .null, .unset] [(.ref b326)])) _
      refine Go.via (fun _ => XS.astore X325.here hx rfl (hb hby d4_39) rfl rfl (l' := #[vr a, vr ca, vi (0 : Int32), vi (2 : Int32), .val .null, vr b326]) rfl) ?_
      refine Go.via (fun _ => XS.aloadN X325.here hx rfl (hb hby d4_41) rfl rfl) ?_
      refine Go.via (fun _ => XS.aload X325.here hx rfl (hb hby d4_42) rfl rfl) ?_
      refine Go.via (fun _ => XS.iloadN X325.here hx rfl (hb hby d4_44) rfl) ?_
      have z334 : n0 ≤ T325.heap.size := (Nat.le_trans Z0 K325q.1)
      obtain ⟨r333, _, ⟨T333, L333, k333, n333⟩, -, X333, ⟨Lc333, hQ333, l333, y333, z333⟩, st333⟩ := Jvm.LawKit.callS X325 hx (y := (⟨cU6, "coderFromArrayLen", "([BI)B"⟩ : MethodName)) hown (mvT hZ (tw hw 90 rfl)) (mvT hZ (tw hw 91 rfl)) (mvT hZ (tw hw 66 rfl)) (mvT hZ (tw hw 92 rfl)) (by decide) (backOf (W := 1) (rmCl21 l Z a0 hw [] b326 (2 : Int32) (loF y0) (hiF y0) (loF y1) (hiF y1) T325.heap n0 z334 f332 rfl) hZ (tw hw 92 rfl) (tw hw 66 rfl) (by decide) (by decide)) (g := (mkF m 45 #[vr a, vr ca, vi (0 : Int32), vi (2 : Int32), .val .null, vr b326] [(.int (2 : Int32)), (.ref b326), (.ref a)])) rfl (by rw [hml]; rfl) (argsL := [(.ref b326), (.int (2 : Int32))]) (rest := [(.ref a)]) (lenOf pd__28_5bBI_29B rfl) rfl (by show 2 * 0 + _ ≤ _; exact Nat.le_of_eq rfl) (hb hby d4_45) (fun _ _ => ⟨rfl, e325, (by decide : 2 + 0 ≤ _), (by decide : 6 + 0 ≤ _)⟩)
      dsimp only [Pt.U, Pt.locs, Pt.cells, Pt.slots] at X333 l333 y333 z333 st333 hQ333
      rw [l333, y333, z333] at X333
      obtain ⟨hr333, N333q, eh333⟩ := hQ333
      rw [hr333] at st333
      have N333 := Fr.app N325 N333q
      refine Go.via (st333) ?_
      clear st333
      have e333 : T333.heap = T325.heap := eh333
      clear X325 e325
      show Go p e below (T333.setTop (mkF m 48 #[vr a, vr ca, vi (0 : Int32), vi (2 : Int32), .val .null, vr b326] [(.int (1 : Int32)), (.ref a)])) _
      have f335 : Fld Z T325.heap a cST "coder" "B" (.int (0 : Int32)) := (P0.keep K325q nin0)
      have f336 : Exa Z T325.heap a cST := (P2.keep K325q)
      obtain ⟨T337, h337, X337, e337, W337, st337⟩ := putF X333 hx hZ hown (host := "") (Or.inl (tw hw 33 rfl)) Via.refl e333 f335 f336 (Or.inr ⟨(tw hw 29 rfl), rfl, hnm⟩) (tw hw 13 rfl) (ty := .byte) (by decide) rfl rfl (g := (mkF m 48 #[vr a, vr ca, vi (0 : Int32), vi (2 : Int32), .val .null, vr b326] [(.int (1 : Int32)), (.ref a)])) rfl rfl (hb hby d4_48)
      refine Go.via (st337) ?_
      clear st337
      have N337 := Fr.snoc X337 N333 g_a
      have f338 : Fld Z h337 a cST "coder" "B" (.int (1 : Int32)) := f335.same W337
      clear X333 e333
      show Go p e below (T337.setTop (mkF m 51 #[vr a, vr ca, vi (0 : Int32), vi (2 : Int32), .val .null, vr b326] [])) _
      refine Go.via (fun _ => XS.aloadN X337.here hx rfl (hb hby d4_51) rfl rfl) ?_
      refine Go.via (fun _ => XS.aload X337.here hx rfl (hb hby d4_52) rfl rfl) ?_
      have f339 : Fld Z h337 a cST "value" "[B" .null := ((P1.keep K325q nin0).other W337 (Or.inr (slot_ne (Or.inr (tw hw 28 rfl)) (Or.inr (tw hw 29 rfl)) (by decide) (t := (.array .byte)) (t' := .byte) (by decide) (by decide))))
      have f340 : Exa Z h337 a cST := (f336.wr W337)
      obtain ⟨T341, h341, X341, e341, W341, st341⟩ := putF X337 hx hZ hown (host := "") (Or.inl (tw hw 32 rfl)) Via.refl e337 f339 f340 (Or.inr ⟨(tw hw 28 rfl), rfl, hnm⟩) (tw hw 13 rfl) (ty := (.array .byte)) (by decide) rfl rfl (g := (mkF m 54 #[vr a, vr ca, vi (0 : Int32), vi (2 : Int32), .val .null, vr b326] [(.ref b326), (.ref a)])) rfl rfl (hb hby d4_54)
      refine Go.via (st341) ?_
      clear st341
      have N341 := Fr.snoc X341 N337 g_a
      have f342 : Fld Z h341 a cST "value" "[B" (.ref b326) := f339.same W341
      clear X337 e337
      show Go p e below (T341.setTop (mkF m 57 #[vr a, vr ca, vi (0 : Int32), vi (2 : Int32), .val .null, vr b326] [])) _
      have k343 : Keep h0 h341 [a] := ((((Keep.refl h0 [a]).trans K325q all0).wr W337 (Or.inl (List.mem_of_getElem? (i := 0) rfl))).wr W341 (Or.inl (List.mem_of_getElem? (i := 0) rfl)))
      have f344 : Exa Z h341 a cST := (f340.wr W341)
      have f345 : Fld Z h341 a cST "coder" "B" (.int (1 : Int32)) := (f338.other W341 (Or.inr (slot_ne (Or.inr (tw hw 29 rfl)) (Or.inr (tw hw 28 rfl)) (by decide) (t := .byte) (t' := (.array .byte)) (by decide) (by decide))))
      have f346 : Ia Z h341 b326 .byte [(loF y0), (hiF y0), (loF y1), (hiF y1)] := ((f332.other W337 (Ne.symm ne328)).other W341 (Ne.symm ne328))
      exact Go.fin X341 hlk (v := none) (fun _ => rfl) (fun fs hr => X341.returnOut hx Bd.returns (hb hby d4_57) hr) (by rw [e341]; exact ⟨b326, (1 : Int32), [(loF y0), (hiF y0), (loF y1), (hiF y1)], rfl, N341, k343, f344, f345, f342, f346, Or.inr (Or.inr (Or.inr (Or.inr ⟨_, _, rfl, rfl, rfl, hc0, hc1⟩)))⟩) (by decide) (by decide)
    · show Go p e below (T322.setTop (mkF m 4 #[vr a, vr ca, vi (0 : Int32), vi (2 : Int32), .val .null, .unset] [])) _
      refine Go.via (fun _ => XS.iloadN X322.here hx rfl (hb hby d4_4) rfl) ?_
      refine Go.via (fun _ => XS.ifYes X322.here hx rfl (pc0 := 5) (pc' := 27) rfl (hb hby d4_5) rfl ((if0 _ _).trans (feq ((by decide) : ¬ ((2 : Int32) = (0 : Int32)))).2) (by decide) (by decide)) ?_
      have f347 : Sta Z h0 cST "COMPACT_STRINGS" "Z" (.int cs) := zCS.ext P4.2
      obtain ⟨T348, X348, e348, st348⟩ := getS2 X322 hx hZ hown (host := "") (Or.inl (tw hw 56 rfl)) Via.refl e322 f347 (g := (mkF m 27 #[vr a, vr ca, vi (0 : Int32), vi (2 : Int32), .val .null, .unset] [])) rfl (hb hby d4_27)
      refine Go.via (st348) ?_
      clear st348
      clear X322 e322
      show Go p e below (T348.setTop (mkF m 30 #[vr a, vr ca, vi (0 : Int32), vi (2 : Int32), .val .null, .unset] [(.int cs)])) _
      refine Go.via (fun _ => XS.ifNo X348.here hx rfl (hb hby d4_30) rfl ((if0 _ _).trans (feq (hcs : ¬ (cs = (0 : Int32)))).1)) ?_
      refine Go.via (fun _ => XS.aloadN X348.here hx rfl (hb hby d4_33) rfl rfl) ?_
      refine Go.via (fun _ => XS.iloadN X348.here hx rfl (hb hby d4_34) rfl) ?_
      refine Go.via (fun _ => XS.iloadN X348.here hx rfl (hb hby d4_35) rfl) ?_
      obtain ⟨r349, _, ⟨T349, L349, k349, n349⟩, -, X349, ⟨Lc349, hQ349, l349, y349, z349⟩, st349⟩ := Jvm.LawKit.callS X348 hx (y := (⟨cU6, "compress", "([CII)[B"⟩ : MethodName)) hown (mvT hZ (tw hw 64 rfl)) (mvT hZ (tw hw 65 rfl)) (mvT hZ (tw hw 66 rfl)) (mvT hZ (tw hw 67 rfl)) (by decide) (backOf (W := 0) (rmC3_20 l Z a0 hw [] ca (0 : Int32) (2 : Int32) y0 y1 h0 n0 Z0 P3 P4 zAD zHI zLO rfl rfl hy0 hc0) hZ (tw hw 67 rfl) (tw hw 66 rfl) (by decide) (by decide)) (g := (mkF m 36 #[vr a, vr ca, vi (0 : Int32), vi (2 : Int32), .val .null, .unset] [(.int (2 : Int32)), (.int (0 : Int32)), (.ref ca)])) rfl (by rw [hml]; rfl) (argsL := [(.ref ca), (.int (0 : Int32)), (.int (2 : Int32))]) (rest := []) (lenOf pd__28_5bCII_29_5bB rfl) rfl (by show 2 * 0 + _ ≤ _; exact Nat.le_of_eq rfl) (hb hby d4_36) (fun _ _ => ⟨rfl, e348, (by decide : 0 + 2 ≤ _), (by decide : 0 + 6 ≤ _)⟩)
      dsimp only [Pt.U, Pt.locs, Pt.cells, Pt.slots] at X349 l349 y349 z349 st349 hQ349
      rw [l349, y349, z349] at X349
      obtain ⟨b350, hr349, N349q, K349q, fz_b350, f351⟩ := hQ349
      rw [hr349] at st349
      have N349 := Fr.app N0 N349q
      refine Go.via (st349) ?_
      clear st349
      have ne352 : a ≠ b350 := Nat.ne_of_lt (Nat.lt_of_lt_of_le P0.lt fz_b350)
      have ne353 : ca ≠ b350 := Nat.ne_of_lt (Nat.lt_of_lt_of_le P3.lt fz_b350)
      have ge354 : n0 ≤ b350 := Nat.le_trans Z0 fz_b350
      have sz355 : h0.size ≤ b350 := Nat.le_trans (Keep.refl h0 [a]).1 fz_b350
      have e349 : T349.heap = T349.heap := rfl
      have f356 : Ia Z T349.heap b350 .byte [(loF y0), (hiF y0), (loF y1), (hiF y1)] := f351
      clear X348 e348
      show Go p e below (T349.setTop (mkF m 39 #[vr a, vr ca, vi (0 : Int32), vi (2 : Int32), .val .null, .unset] [(.ref b350)])) _
      refine Go.via (fun _ => XS.astore X349.here hx rfl (hb hby d4_39) rfl rfl (l' := #[vr a, vr ca, vi (0 : Int32), vi (2 : Int32), .val .null, vr b350]) rfl) ?_
      refine Go.via (fun _ => XS.aloadN X349.here hx rfl (hb hby d4_41) rfl rfl) ?_
      refine Go.via (fun _ => XS.aload X349.here hx rfl (hb hby d4_42) rfl rfl) ?_
      refine Go.via (fun _ => XS.iloadN X349.here hx rfl (hb hby d4_44) rfl) ?_
      have z358 : n0 ≤ T349.heap.size := (Nat.le_trans Z0 K349q.1)
      obtain ⟨r357, _, ⟨T357, L357, k357, n357⟩, -, X357, ⟨Lc357, hQ357, l357, y357, z357⟩, st357⟩ := Jvm.LawKit.callS X349 hx (y := (⟨cU6, "coderFromArrayLen", "([BI)B"⟩ : MethodName)) hown (mvT hZ (tw hw 90 rfl)) (mvT hZ (tw hw 91 rfl)) (mvT hZ (tw hw 66 rfl)) (mvT hZ (tw hw 92 rfl)) (by decide) (backOf (W := 1) (rmCl21 l Z a0 hw [] b350 (2 : Int32) (loF y0) (hiF y0) (loF y1) (hiF y1) T349.heap n0 z358 f356 rfl) hZ (tw hw 92 rfl) (tw hw 66 rfl) (by decide) (by decide)) (g := (mkF m 45 #[vr a, vr ca, vi (0 : Int32), vi (2 : Int32), .val .null, vr b350] [(.int (2 : Int32)), (.ref b350), (.ref a)])) rfl (by rw [hml]; rfl) (argsL := [(.ref b350), (.int (2 : Int32))]) (rest := [(.ref a)]) (lenOf pd__28_5bBI_29B rfl) rfl (by show 2 * 0 + _ ≤ _; exact Nat.le_of_eq rfl) (hb hby d4_45) (fun _ _ => ⟨rfl, e349, (by decide : 2 + 0 ≤ _), (by decide : 6 + 0 ≤ _)⟩)
      dsimp only [Pt.U, Pt.locs, Pt.cells, Pt.slots] at X357 l357 y357 z357 st357 hQ357
      rw [l357, y357, z357] at X357
      obtain ⟨hr357, N357q, eh357⟩ := hQ357
      rw [hr357] at st357
      have N357 := Fr.app N349 N357q
      refine Go.via (st357) ?_
      clear st357
      have e357 : T357.heap = T349.heap := eh357
      clear X349 e349
      show Go p e below (T357.setTop (mkF m 48 #[vr a, vr ca, vi (0 : Int32), vi (2 : Int32), .val .null, vr b350] [(.int (1 : Int32)), (.ref a)])) _
      have f359 : Fld Z T349.heap a cST "coder" "B" (.int (0 : Int32)) := (P0.keep K349q nin0)
      have f360 : Exa Z T349.heap a cST := (P2.keep K349q)
      obtain ⟨T361, h361, X361, e361, W361, st361⟩ := putF X357 hx hZ hown (host := "") (Or.inl (tw hw 33 rfl)) Via.refl e357 f359 f360 (Or.inr ⟨(tw hw 29 rfl), rfl, hnm⟩) (tw hw 13 rfl) (ty := .byte) (by decide) rfl rfl (g := (mkF m 48 #[vr a, vr ca, vi (0 : Int32), vi (2 : Int32), .val .null, vr b350] [(.int (1 : Int32)), (.ref a)])) rfl rfl (hb hby d4_48)
      refine Go.via (st361) ?_
      clear st361
      have N361 := Fr.snoc X361 N357 g_a
      have f362 : Fld Z h361 a cST "coder" "B" (.int (1 : Int32)) := f359.same W361
      clear X357 e357
      show Go p e below (T361.setTop (mkF m 51 #[vr a, vr ca, vi (0 : Int32), vi (2 : Int32), .val .null, vr b350] [])) _
      refine Go.via (fun _ => XS.aloadN X361.here hx rfl (hb hby d4_51) rfl rfl) ?_
      refine Go.via (fun _ => XS.aload X361.here hx rfl (hb hby d4_52) rfl rfl) ?_
      have f363 : Fld Z h361 a cST "value" "[B" .null := ((P1.keep K349q nin0).other W361 (Or.inr (slot_ne (Or.inr (tw hw 28 rfl)) (Or.inr (tw hw 29 rfl)) (by decide) (t := (.array .byte)) (t' := .byte) (by decide) (by decide))))
      have f364 : Exa Z h361 a cST := (f360.wr W361)
      obtain ⟨T365, h365, X365, e365, W365, st365⟩ := putF X361 hx hZ hown (host := "") (Or.inl (tw hw 32 rfl)) Via.refl e361 f363 f364 (Or.inr ⟨(tw hw 28 rfl), rfl, hnm⟩) (tw hw 13 rfl) (ty := (.array .byte)) (by decide) rfl rfl (g := (mkF m 54 #[vr a, vr ca, vi (0 : Int32), vi (2 : Int32), .val .null, vr b350] [(.ref b350), (.ref a)])) rfl rfl (hb hby d4_54)
      refine Go.via (st365) ?_
      clear st365
      have N365 := Fr.snoc X365 N361 g_a
      have f366 : Fld Z h365 a cST "value" "[B" (.ref b350) := f363.same W365
      clear X361 e361
      show Go p e below (T365.setTop (mkF m 57 #[vr a, vr ca, vi (0 : Int32), vi (2 : Int32), .val .null, vr b350] [])) _
      have k367 : Keep h0 h365 [a] := ((((Keep.refl h0 [a]).trans K349q all0).wr W361 (Or.inl (List.mem_of_getElem? (i := 0) rfl))).wr W365 (Or.inl (List.mem_of_getElem? (i := 0) rfl)))
      have f368 : Exa Z h365 a cST := (f364.wr W365)
      have f369 : Fld Z h365 a cST "coder" "B" (.int (1 : Int32)) := (f362.other W365 (Or.inr (slot_ne (Or.inr (tw hw 29 rfl)) (Or.inr (tw hw 28 rfl)) (by decide) (t := .byte) (t' := (.array .byte)) (by decide) (by decide))))
      have f370 : Ia Z h365 b350 .byte [(loF y0), (hiF y0), (loF y1), (hiF y1)] := ((f356.other W361 (Ne.symm ne352)).other W365 (Ne.symm ne352))
      exact Go.fin X365 hlk (v := none) (fun _ => rfl) (fun fs hr => X365.returnOut hx Bd.returns (hb hby d4_57) hr) (by rw [e365]; exact ⟨b350, (1 : Int32), [(loF y0), (hiF y0), (loF y1), (hiF y1)], rfl, N365, k367, f368, f369, f366, f370, Or.inr (Or.inr (Or.inr (Or.inr ⟨_, _, rfl, rfl, rfl, hc0, hc1⟩)))⟩) (by decide) (by decide)
    · show Go p e below (T322.setTop (mkF m 4 #[vr a, vr ca, vi (0 : Int32), vi (2 : Int32), .val .null, .unset] [])) _
      refine Go.via (fun _ => XS.iloadN X322.here hx rfl (hb hby d4_4) rfl) ?_
      refine Go.via (fun _ => XS.ifYes X322.here hx rfl (pc0 := 5) (pc' := 27) rfl (hb hby d4_5) rfl ((if0 _ _).trans (feq ((by decide) : ¬ ((2 : Int32) = (0 : Int32)))).2) (by decide) (by decide)) ?_
      have f371 : Sta Z h0 cST "COMPACT_STRINGS" "Z" (.int cs) := zCS.ext P4.2
      obtain ⟨T372, X372, e372, st372⟩ := getS2 X322 hx hZ hown (host := "") (Or.inl (tw hw 56 rfl)) Via.refl e322 f371 (g := (mkF m 27 #[vr a, vr ca, vi (0 : Int32), vi (2 : Int32), .val .null, .unset] [])) rfl (hb hby d4_27)
      refine Go.via (st372) ?_
      clear st372
      clear X322 e322
      show Go p e below (T372.setTop (mkF m 30 #[vr a, vr ca, vi (0 : Int32), vi (2 : Int32), .val .null, .unset] [(.int cs)])) _
      refine Go.via (fun _ => XS.ifNo X372.here hx rfl (hb hby d4_30) rfl ((if0 _ _).trans (feq (hcs : ¬ (cs = (0 : Int32)))).1)) ?_
      refine Go.via (fun _ => XS.aloadN X372.here hx rfl (hb hby d4_33) rfl rfl) ?_
      refine Go.via (fun _ => XS.iloadN X372.here hx rfl (hb hby d4_34) rfl) ?_
      refine Go.via (fun _ => XS.iloadN X372.here hx rfl (hb hby d4_35) rfl) ?_
      obtain ⟨r373, _, ⟨T373, L373, k373, n373⟩, -, X373, ⟨Lc373, hQ373, l373, y373, z373⟩, st373⟩ := Jvm.LawKit.callS X372 hx (y := (⟨cU6, "compress", "([CII)[B"⟩ : MethodName)) hown (mvT hZ (tw hw 64 rfl)) (mvT hZ (tw hw 65 rfl)) (mvT hZ (tw hw 66 rfl)) (mvT hZ (tw hw 67 rfl)) (by decide) (backOf (W := 0) (rmC3_21 l Z a0 hw [] ca (0 : Int32) (2 : Int32) y0 y1 h0 n0 Z0 P3 P4 zAD zHI zLO rfl rfl hy0 hy1 hc1) hZ (tw hw 67 rfl) (tw hw 66 rfl) (by decide) (by decide)) (g := (mkF m 36 #[vr a, vr ca, vi (0 : Int32), vi (2 : Int32), .val .null, .unset] [(.int (2 : Int32)), (.int (0 : Int32)), (.ref ca)])) rfl (by rw [hml]; rfl) (argsL := [(.ref ca), (.int (0 : Int32)), (.int (2 : Int32))]) (rest := []) (lenOf pd__28_5bCII_29_5bB rfl) rfl (by show 2 * 0 + _ ≤ _; exact Nat.le_of_eq rfl) (hb hby d4_36) (fun _ _ => ⟨rfl, e372, (by decide : 0 + 2 ≤ _), (by decide : 0 + 6 ≤ _)⟩)
      dsimp only [Pt.U, Pt.locs, Pt.cells, Pt.slots] at X373 l373 y373 z373 st373 hQ373
      rw [l373, y373, z373] at X373
      obtain ⟨b374, hr373, N373q, K373q, fz_b374, f375⟩ := hQ373
      rw [hr373] at st373
      have N373 := Fr.app N0 N373q
      refine Go.via (st373) ?_
      clear st373
      have ne376 : a ≠ b374 := Nat.ne_of_lt (Nat.lt_of_lt_of_le P0.lt fz_b374)
      have ne377 : ca ≠ b374 := Nat.ne_of_lt (Nat.lt_of_lt_of_le P3.lt fz_b374)
      have ge378 : n0 ≤ b374 := Nat.le_trans Z0 fz_b374
      have sz379 : h0.size ≤ b374 := Nat.le_trans (Keep.refl h0 [a]).1 fz_b374
      have e373 : T373.heap = T373.heap := rfl
      have f380 : Ia Z T373.heap b374 .byte [(loF y0), (hiF y0), (loF y1), (hiF y1)] := f375
      clear X372 e372
      show Go p e below (T373.setTop (mkF m 39 #[vr a, vr ca, vi (0 : Int32), vi (2 : Int32), .val .null, .unset] [(.ref b374)])) _
      refine Go.via (fun _ => XS.astore X373.here hx rfl (hb hby d4_39) rfl rfl (l' := #[vr a, vr ca, vi (0 : Int32), vi (2 : Int32), .val .null, vr b374]) rfl) ?_
      refine Go.via (fun _ => XS.aloadN X373.here hx rfl (hb hby d4_41) rfl rfl) ?_
      refine Go.via (fun _ => XS.aload X373.here hx rfl (hb hby d4_42) rfl rfl) ?_
      refine Go.via (fun _ => XS.iloadN X373.here hx rfl (hb hby d4_44) rfl) ?_
      have z382 : n0 ≤ T373.heap.size := (Nat.le_trans Z0 K373q.1)
      obtain ⟨r381, _, ⟨T381, L381, k381, n381⟩, -, X381, ⟨Lc381, hQ381, l381, y381, z381⟩, st381⟩ := Jvm.LawKit.callS X373 hx (y := (⟨cU6, "coderFromArrayLen", "([BI)B"⟩ : MethodName)) hown (mvT hZ (tw hw 90 rfl)) (mvT hZ (tw hw 91 rfl)) (mvT hZ (tw hw 66 rfl)) (mvT hZ (tw hw 92 rfl)) (by decide) (backOf (W := 1) (rmCl21 l Z a0 hw [] b374 (2 : Int32) (loF y0) (hiF y0) (loF y1) (hiF y1) T373.heap n0 z382 f380 rfl) hZ (tw hw 92 rfl) (tw hw 66 rfl) (by decide) (by decide)) (g := (mkF m 45 #[vr a, vr ca, vi (0 : Int32), vi (2 : Int32), .val .null, vr b374] [(.int (2 : Int32)), (.ref b374), (.ref a)])) rfl (by rw [hml]; rfl) (argsL := [(.ref b374), (.int (2 : Int32))]) (rest := [(.ref a)]) (lenOf pd__28_5bBI_29B rfl) rfl (by show 2 * 0 + _ ≤ _; exact Nat.le_of_eq rfl) (hb hby d4_45) (fun _ _ => ⟨rfl, e373, (by decide : 2 + 0 ≤ _), (by decide : 6 + 0 ≤ _)⟩)
      dsimp only [Pt.U, Pt.locs, Pt.cells, Pt.slots] at X381 l381 y381 z381 st381 hQ381
      rw [l381, y381, z381] at X381
      obtain ⟨hr381, N381q, eh381⟩ := hQ381
      rw [hr381] at st381
      have N381 := Fr.app N373 N381q
      refine Go.via (st381) ?_
      clear st381
      have e381 : T381.heap = T373.heap := eh381
      clear X373 e373
      show Go p e below (T381.setTop (mkF m 48 #[vr a, vr ca, vi (0 : Int32), vi (2 : Int32), .val .null, vr b374] [(.int (1 : Int32)), (.ref a)])) _
      have f383 : Fld Z T373.heap a cST "coder" "B" (.int (0 : Int32)) := (P0.keep K373q nin0)
      have f384 : Exa Z T373.heap a cST := (P2.keep K373q)
      obtain ⟨T385, h385, X385, e385, W385, st385⟩ := putF X381 hx hZ hown (host := "") (Or.inl (tw hw 33 rfl)) Via.refl e381 f383 f384 (Or.inr ⟨(tw hw 29 rfl), rfl, hnm⟩) (tw hw 13 rfl) (ty := .byte) (by decide) rfl rfl (g := (mkF m 48 #[vr a, vr ca, vi (0 : Int32), vi (2 : Int32), .val .null, vr b374] [(.int (1 : Int32)), (.ref a)])) rfl rfl (hb hby d4_48)
      refine Go.via (st385) ?_
      clear st385
      have N385 := Fr.snoc X385 N381 g_a
      have f386 : Fld Z h385 a cST "coder" "B" (.int (1 : Int32)) := f383.same W385
      clear X381 e381
      show Go p e below (T385.setTop (mkF m 51 #[vr a, vr ca, vi (0 : Int32), vi (2 : Int32), .val .null, vr b374] [])) _
      refine Go.via (fun _ => XS.aloadN X385.here hx rfl (hb hby d4_51) rfl rfl) ?_
      refine Go.via (fun _ => XS.aload X385.here hx rfl (hb hby d4_52) rfl rfl) ?_
      have f387 : Fld Z h385 a cST "value" "[B" .null := ((P1.keep K373q nin0).other W385 (Or.inr (slot_ne (Or.inr (tw hw 28 rfl)) (Or.inr (tw hw 29 rfl)) (by decide) (t := (.array .byte)) (t' := .byte) (by decide) (by decide))))
      have f388 : Exa Z h385 a cST := (f384.wr W385)
      obtain ⟨T389, h389, X389, e389, W389, st389⟩ := putF X385 hx hZ hown (host := "") (Or.inl (tw hw 32 rfl)) Via.refl e385 f387 f388 (Or.inr ⟨(tw hw 28 rfl), rfl, hnm⟩) (tw hw 13 rfl) (ty := (.array .byte)) (by decide) rfl rfl (g := (mkF m 54 #[vr a, vr ca, vi (0 : Int32), vi (2 : Int32), .val .null, vr b374] [(.ref b374), (.ref a)])) rfl rfl (hb hby d4_54)
      refine Go.via (st389) ?_
      clear st389
      have N389 := Fr.snoc X389 N385 g_a
      have f390 : Fld Z h389 a cST "value" "[B" (.ref b374) := f387.same W389
      clear X385 e385
      show Go p e below (T389.setTop (mkF m 57 #[vr a, vr ca, vi (0 : Int32), vi (2 : Int32), .val .null, vr b374] [])) _
      have k391 : Keep h0 h389 [a] := ((((Keep.refl h0 [a]).trans K373q all0).wr W385 (Or.inl (List.mem_of_getElem? (i := 0) rfl))).wr W389 (Or.inl (List.mem_of_getElem? (i := 0) rfl)))
      have f392 : Exa Z h389 a cST := (f388.wr W389)
      have f393 : Fld Z h389 a cST "coder" "B" (.int (1 : Int32)) := (f386.other W389 (Or.inr (slot_ne (Or.inr (tw hw 29 rfl)) (Or.inr (tw hw 28 rfl)) (by decide) (t := .byte) (t' := (.array .byte)) (by decide) (by decide))))
      have f394 : Ia Z h389 b374 .byte [(loF y0), (hiF y0), (loF y1), (hiF y1)] := ((f380.other W385 (Ne.symm ne376)).other W389 (Ne.symm ne376))
      exact Go.fin X389 hlk (v := none) (fun _ => rfl) (fun fs hr => X389.returnOut hx Bd.returns (hb hby d4_57) hr) (by rw [e389]; exact ⟨b374, (1 : Int32), [(loF y0), (hiF y0), (loF y1), (hiF y1)], rfl, N389, k391, f392, f393, f390, f394, Or.inr (Or.inr (Or.inr (Or.inr ⟨_, _, rfl, rfl, rfl, hc0, hc1⟩)))⟩) (by decide) (by decide)
    · show Go p e below (T322.setTop (mkF m 4 #[vr a, vr ca, vi (0 : Int32), vi (2 : Int32), .val .null, .unset] [])) _
      refine Go.via (fun _ => XS.iloadN X322.here hx rfl (hb hby d4_4) rfl) ?_
      refine Go.via (fun _ => XS.ifYes X322.here hx rfl (pc0 := 5) (pc' := 27) rfl (hb hby d4_5) rfl ((if0 _ _).trans (feq ((by decide) : ¬ ((2 : Int32) = (0 : Int32)))).2) (by decide) (by decide)) ?_
      have f395 : Sta Z h0 cST "COMPACT_STRINGS" "Z" (.int cs) := zCS.ext P4.2
      obtain ⟨T396, X396, e396, st396⟩ := getS2 X322 hx hZ hown (host := "") (Or.inl (tw hw 56 rfl)) Via.refl e322 f395 (g := (mkF m 27 #[vr a, vr ca, vi (0 : Int32), vi (2 : Int32), .val .null, .unset] [])) rfl (hb hby d4_27)
      refine Go.via (st396) ?_
      clear st396
      clear X322 e322
      show Go p e below (T396.setTop (mkF m 30 #[vr a, vr ca, vi (0 : Int32), vi (2 : Int32), .val .null, .unset] [(.int cs)])) _
      refine Go.via (fun _ => XS.ifNo X396.here hx rfl (hb hby d4_30) rfl ((if0 _ _).trans (feq (hcs : ¬ (cs = (0 : Int32)))).1)) ?_
      refine Go.via (fun _ => XS.aloadN X396.here hx rfl (hb hby d4_33) rfl rfl) ?_
      refine Go.via (fun _ => XS.iloadN X396.here hx rfl (hb hby d4_34) rfl) ?_
      refine Go.via (fun _ => XS.iloadN X396.here hx rfl (hb hby d4_35) rfl) ?_
      obtain ⟨r397, _, ⟨T397, L397, k397, n397⟩, -, X397, ⟨Lc397, hQ397, l397, y397, z397⟩, st397⟩ := Jvm.LawKit.callS X396 hx (y := (⟨cU6, "compress", "([CII)[B"⟩ : MethodName)) hown (mvT hZ (tw hw 64 rfl)) (mvT hZ (tw hw 65 rfl)) (mvT hZ (tw hw 66 rfl)) (mvT hZ (tw hw 67 rfl)) (by decide) (backOf (W := 0) (rmC3_22 l Z a0 hw [] ca (0 : Int32) (2 : Int32) y0 y1 h0 n0 Z0 P3 P4 zAD zHI zLO rfl rfl hy0 hy1) hZ (tw hw 67 rfl) (tw hw 66 rfl) (by decide) (by decide)) (g := (mkF m 36 #[vr a, vr ca, vi (0 : Int32), vi (2 : Int32), .val .null, .unset] [(.int (2 : Int32)), (.int (0 : Int32)), (.ref ca)])) rfl (by rw [hml]; rfl) (argsL := [(.ref ca), (.int (0 : Int32)), (.int (2 : Int32))]) (rest := []) (lenOf pd__28_5bCII_29_5bB rfl) rfl (by show 2 * 0 + _ ≤ _; exact Nat.le_of_eq rfl) (hb hby d4_36) (fun _ _ => ⟨rfl, e396, (by decide : 0 + 1 ≤ _), (by decide : 0 + 2 ≤ _)⟩)
      dsimp only [Pt.U, Pt.locs, Pt.cells, Pt.slots] at X397 l397 y397 z397 st397 hQ397
      rw [l397, y397, z397] at X397
      obtain ⟨b398, hr397, N397q, K397q, fz_b398, f399⟩ := hQ397
      rw [hr397] at st397
      have N397 := Fr.app N0 N397q
      refine Go.via (st397) ?_
      clear st397
      have ne400 : a ≠ b398 := Nat.ne_of_lt (Nat.lt_of_lt_of_le P0.lt fz_b398)
      have ne401 : ca ≠ b398 := Nat.ne_of_lt (Nat.lt_of_lt_of_le P3.lt fz_b398)
      have ge402 : n0 ≤ b398 := Nat.le_trans Z0 fz_b398
      have sz403 : h0.size ≤ b398 := Nat.le_trans (Keep.refl h0 [a]).1 fz_b398
      have e397 : T397.heap = T397.heap := rfl
      have f404 : Ia Z T397.heap b398 .byte [(nar .byte (y0.toInt8.toInt32)), (nar .byte (y1.toInt8.toInt32))] := f399
      clear X396 e396
      show Go p e below (T397.setTop (mkF m 39 #[vr a, vr ca, vi (0 : Int32), vi (2 : Int32), .val .null, .unset] [(.ref b398)])) _
      refine Go.via (fun _ => XS.astore X397.here hx rfl (hb hby d4_39) rfl rfl (l' := #[vr a, vr ca, vi (0 : Int32), vi (2 : Int32), .val .null, vr b398]) rfl) ?_
      refine Go.via (fun _ => XS.aloadN X397.here hx rfl (hb hby d4_41) rfl rfl) ?_
      refine Go.via (fun _ => XS.aload X397.here hx rfl (hb hby d4_42) rfl rfl) ?_
      refine Go.via (fun _ => XS.iloadN X397.here hx rfl (hb hby d4_44) rfl) ?_
      have z406 : n0 ≤ T397.heap.size := (Nat.le_trans Z0 K397q.1)
      obtain ⟨r405, _, ⟨T405, L405, k405, n405⟩, -, X405, ⟨Lc405, hQ405, l405, y405, z405⟩, st405⟩ := Jvm.LawKit.callS X397 hx (y := (⟨cU6, "coderFromArrayLen", "([BI)B"⟩ : MethodName)) hown (mvT hZ (tw hw 90 rfl)) (mvT hZ (tw hw 91 rfl)) (mvT hZ (tw hw 66 rfl)) (mvT hZ (tw hw 92 rfl)) (by decide) (backOf (W := 1) (rmCl20 l Z a0 hw [] b398 (2 : Int32) (nar .byte (y0.toInt8.toInt32)) (nar .byte (y1.toInt8.toInt32)) T397.heap n0 z406 f404 rfl) hZ (tw hw 92 rfl) (tw hw 66 rfl) (by decide) (by decide)) (g := (mkF m 45 #[vr a, vr ca, vi (0 : Int32), vi (2 : Int32), .val .null, vr b398] [(.int (2 : Int32)), (.ref b398), (.ref a)])) rfl (by rw [hml]; rfl) (argsL := [(.ref b398), (.int (2 : Int32))]) (rest := [(.ref a)]) (lenOf pd__28_5bBI_29B rfl) rfl (by show 2 * 0 + _ ≤ _; exact Nat.le_of_eq rfl) (hb hby d4_45) (fun _ _ => ⟨rfl, e397, (by decide : 1 + 0 ≤ _), (by decide : 2 + 0 ≤ _)⟩)
      dsimp only [Pt.U, Pt.locs, Pt.cells, Pt.slots] at X405 l405 y405 z405 st405 hQ405
      rw [l405, y405, z405] at X405
      obtain ⟨hr405, N405q, eh405⟩ := hQ405
      rw [hr405] at st405
      have N405 := Fr.app N397 N405q
      refine Go.via (st405) ?_
      clear st405
      have e405 : T405.heap = T397.heap := eh405
      clear X397 e397
      show Go p e below (T405.setTop (mkF m 48 #[vr a, vr ca, vi (0 : Int32), vi (2 : Int32), .val .null, vr b398] [(.int (0 : Int32)), (.ref a)])) _
      have f407 : Fld Z T397.heap a cST "coder" "B" (.int (0 : Int32)) := (P0.keep K397q nin0)
      have f408 : Exa Z T397.heap a cST := (P2.keep K397q)
      obtain ⟨T409, h409, X409, e409, W409, st409⟩ := putF X405 hx hZ hown (host := "") (Or.inl (tw hw 33 rfl)) Via.refl e405 f407 f408 (Or.inr ⟨(tw hw 29 rfl), rfl, hnm⟩) (tw hw 13 rfl) (ty := .byte) (by decide) rfl rfl (g := (mkF m 48 #[vr a, vr ca, vi (0 : Int32), vi (2 : Int32), .val .null, vr b398] [(.int (0 : Int32)), (.ref a)])) rfl rfl (hb hby d4_48)
      refine Go.via (st409) ?_
      clear st409
      have N409 := Fr.snoc X409 N405 g_a
      have f410 : Fld Z h409 a cST "coder" "B" (.int (0 : Int32)) := f407.same W409
      clear X405 e405
      show Go p e below (T409.setTop (mkF m 51 #[vr a, vr ca, vi (0 : Int32), vi (2 : Int32), .val .null, vr b398] [])) _
      refine Go.via (fun _ => XS.aloadN X409.here hx rfl (hb hby d4_51) rfl rfl) ?_
      refine Go.via (fun _ => XS.aload X409.here hx rfl (hb hby d4_52) rfl rfl) ?_
      have f411 : Fld Z h409 a cST "value" "[B" .null := ((P1.keep K397q nin0).other W409 (Or.inr (slot_ne (Or.inr (tw hw 28 rfl)) (Or.inr (tw hw 29 rfl)) (by decide) (t := (.array .byte)) (t' := .byte) (by decide) (by decide))))
      have f412 : Exa Z h409 a cST := (f408.wr W409)
      obtain ⟨T413, h413, X413, e413, W413, st413⟩ := putF X409 hx hZ hown (host := "") (Or.inl (tw hw 32 rfl)) Via.refl e409 f411 f412 (Or.inr ⟨(tw hw 28 rfl), rfl, hnm⟩) (tw hw 13 rfl) (ty := (.array .byte)) (by decide) rfl rfl (g := (mkF m 54 #[vr a, vr ca, vi (0 : Int32), vi (2 : Int32), .val .null, vr b398] [(.ref b398), (.ref a)])) rfl rfl (hb hby d4_54)
      refine Go.via (st413) ?_
      clear st413
      have N413 := Fr.snoc X413 N409 g_a
      have f414 : Fld Z h413 a cST "value" "[B" (.ref b398) := f411.same W413
      clear X409 e409
      show Go p e below (T413.setTop (mkF m 57 #[vr a, vr ca, vi (0 : Int32), vi (2 : Int32), .val .null, vr b398] [])) _
      have k415 : Keep h0 h413 [a] := ((((Keep.refl h0 [a]).trans K397q all0).wr W409 (Or.inl (List.mem_of_getElem? (i := 0) rfl))).wr W413 (Or.inl (List.mem_of_getElem? (i := 0) rfl)))
      have f416 : Exa Z h413 a cST := (f412.wr W413)
      have f417 : Fld Z h413 a cST "coder" "B" (.int (0 : Int32)) := (f410.other W413 (Or.inr (slot_ne (Or.inr (tw hw 29 rfl)) (Or.inr (tw hw 28 rfl)) (by decide) (t := .byte) (t' := (.array .byte)) (by decide) (by decide))))
      have f418 : Ia Z h413 b398 .byte [(nar .byte (y0.toInt8.toInt32)), (nar .byte (y1.toInt8.toInt32))] := ((f404.other W409 (Ne.symm ne400)).other W413 (Ne.symm ne400))
      exact Go.fin X413 hlk (v := none) (fun _ => rfl) (fun fs hr => X413.returnOut hx Bd.returns (hb hby d4_57) hr) (by rw [e413]; exact ⟨b398, (0 : Int32), [(nar .byte (y0.toInt8.toInt32)), (nar .byte (y1.toInt8.toInt32))], rfl, N413, k415, f416, f417, f414, f418, Or.inr (Or.inr (Or.inr (Or.inl ⟨_, _, rfl, rfl, rfl, hc0, hc1, hy0, hy1⟩)))⟩) (by decide) (by decide)
def Q_rmI1_2 (Z : State) (a : Addr) (ca : Addr) (y0 : Int32) (y1 : Int32) (cs : Int32) (h0 : Heap) (n0 : Nat) (vQ : Option Value) (hQ : Heap) (LQ : List Loc) : Prop := ∃ b_ : Addr, ∃ co : Int32, ∃ ys : List Int32, vQ = none ∧ Fr n0 LQ ∧ Keep h0 hQ [a] ∧ Exa Z hQ a cST ∧ Fld Z hQ a cST "coder" "B" (.int co) ∧ Fld Z hQ a cST "value" "[B" (.ref b_) ∧ Ia Z hQ b_ .byte ys ∧ (Rep [y0, y1] co ys)
set_option maxRecDepth 65536 in
set_option maxHeartbeats 40000000 in
theorem rmI1_2 (l : Launch) (Z : State) (a0 : Array Value) (hw : ∀ d ∈ tables_1, d.before a0 Z = true) (ws : List Jvm.Cond) (a : Addr) (ca : Addr) (y0 : Int32) (y1 : Int32) (cs : Int32) (h0 : Heap) (n0 : Nat) (Z0 : n0 ≤ h0.size) (P0 : Fld Z h0 a cST "coder" "B" (.int (0 : Int32))) (P1 : Fld Z h0 a cST "value" "[B" .null) (P2 : Exa Z h0 a cST) (P3 : Ia Z h0 ca .char [y0, y1]) (P4 : Old Z n0 h0) (zCS : Sta Z Z.heap cST "COMPACT_STRINGS" "Z" (.int cs)) (zAD : Sta Z Z.heap cU6 "$assertionsDisabled" "Z" (.int (1 : Int32))) (zHI : Sta Z Z.heap cU6 "HI_BYTE_SHIFT" "I" (.int (0 : Int32))) (zLO : Sta Z Z.heap cU6 "LO_BYTE_SHIFT" "I" (.int (8 : Int32))) (g_a : n0 ≤ a) (hac : a ≠ ca) (hcs : ¬ (cs = (0 : Int32))) (hc0 : Ch y0) (hc1 : Ch y1) :
    MetFree l (⟨cST, "<init>", "([C)V"⟩ : MethodName) (head1 (Jvm.Cond.code (⟨cST, "<init>", "([C)V"⟩ : MethodName) jdk_42_method_3_code 2 none :: ws) ({ frames := 5, cells := 2, slots := 6, locals := 74 } : Room)) (fun aQ UQ => aQ = #[(.ref a), (.ref ca)] ∧ Z.Warmed39 UQ.vm ∧ UQ.heap = h0) (fun _ _ _ _ _ => True) (fun _ UQ oQ UR => ∃ vQ LQ, oQ = .returned vQ ∧ Q_rmI1_2 Z a ca y0 y1 cs h0 n0 vQ UR.heap LQ ∧ FrameEnd UQ oQ UR LQ ({ frames := 5, cells := 2, slots := 6, locals := 74 } : Room).cells ({ frames := 5, cells := 2, slots := 6, locals := 74 } : Room).slots) := by
  refine MetFree.of_bodySF (plainFor_of_name pn_3) hisR ?_
  intro p e s m args below meth c s₁ Bd hml0 hP hK
  obtain ⟨rfl, hZ, hh⟩ := hP
  have hx := Bd.exec
  have hby := Bd.bytes
  have hlk := Bd.notSynchronized
  have hml : c.maxLocals = 2 := hml0
  have hown : s.vm.findClass cST = some m.cls := findClass_of_methodNamed Bd.named
  have hnm := (name_of_methodNamed Bd.named Bd.method).1
  have X0 : Stand p l e ({ frames := 5, cells := 2, slots := 6, locals := 74 } : Room) s m #[(.ref a), (.ref ca)] below meth c s₁ [] 0 0 := Stand.of_body Bd
  have e0 : s₁.heap = h0 := by rw [← hh, Bd.state]; rfl
  have N0 := Fr.nil n0
  show Go p e below _ (Done s (Q_rmI1_2 Z a ca y0 y1 cs h0 n0) ({ frames := 5, cells := 2, slots := 6, locals := 74 } : Room).cells ({ frames := 5, cells := 2, slots := 6, locals := 74 } : Room).slots)
  refine Go.via (fun tQ kQ => castTop (ef_3 m a ca) kQ) ?_
  show Go p e below (s₁.setTop (mkF m 0 #[vr a, vr ca] [])) _
  refine Go.via (fun _ => XS.aloadN X0.here hx rfl (hb hby d3_0) rfl rfl) ?_
  refine Go.via (fun _ => XS.aloadN X0.here hx rfl (hb hby d3_1) rfl rfl) ?_
  refine Go.via (fun _ => XS.iconst X0.here hx rfl (hb hby d3_2)) ?_
  refine Go.via (fun _ => XS.aloadN X0.here hx rfl (hb hby d3_3) rfl rfl) ?_
  refine Go.via (lenI X0 hx hZ e0 P3 (n := (2 : Int32)) rfl (g := (mkF m 4 #[vr a, vr ca] [(.ref ca), (.int (0 : Int32)), (.ref ca), (.ref a)])) rfl rfl (hb hby d3_4)) ?_
  show Go p e below (s₁.setTop (mkF m 5 #[vr a, vr ca] [(.int (2 : Int32)), (.int (0 : Int32)), (.ref ca), (.ref a)])) _
  refine Go.via (fun _ => XS.aconstNull X0.here hx rfl (hb hby d3_5)) ?_
  show Go p e below (s₁.setTop (mkF m 6 #[vr a, vr ca] [.null, (.int (2 : Int32)), (.int (0 : Int32)), (.ref ca), (.ref a)])) _
  obtain ⟨r419, _, ⟨T419, L419, k419, n419⟩, -, X419, ⟨Lc419, hQ419, l419, y419, z419⟩, st419⟩ := X0.specialBack hx (y := (⟨cST, "<init>", "([CIILjava/lang/Void;)V"⟩ : MethodName)) rfl hown (mvT hZ (tw hw 19 rfl)) (mvT hZ (tw hw 20 rfl)) (mvT hZ (tw hw 22 rfl)) (by decide) (backOf (W := 0) (rmI5_2 l Z a0 hw [] a ca (0 : Int32) (2 : Int32) y0 y1 cs h0 n0 Z0 P0 P1 P2 P3 P4 zCS zAD zHI zLO g_a hac rfl rfl hcs hc0 hc1) hZ (tw hw 22 rfl) (tw hw 14 rfl) (by decide) (by decide)) (g := (mkF m 6 #[vr a, vr ca] [.null, (.int (2 : Int32)), (.int (0 : Int32)), (.ref ca), (.ref a)])) rfl (by rw [hml]; rfl) (Steps.refl _) (a := a) (argsL := [(.ref ca), (.int (0 : Int32)), (.int (2 : Int32)), .null]) (rest := []) (lenOf pd__28_5bCIILjava_2flang_2fVoid_3b_29V rfl) rfl (by show 2 * 0 + _ ≤ _; exact Nat.le_of_eq rfl) (hb hby d3_6) (fun _ _ => ⟨rfl, e0, (by decide : 0 + 2 ≤ _), (by decide : 0 + 6 ≤ _)⟩)
  dsimp only [Pt.U, Pt.locs, Pt.cells, Pt.slots] at X419 l419 y419 z419 st419 hQ419
  rw [l419, y419, z419] at X419
  obtain ⟨v420, v421, v422, hr419, N419q, K419q, f423, f424, f425, f426, qp427⟩ := hQ419
  rw [hr419] at st419
  have N419 := Fr.app N0 N419q
  refine Go.via (fun _ kQ => st419.trans kQ) ?_
  clear st419
  have e419 : T419.heap = T419.heap := rfl
  have f428 : Exa Z T419.heap a cST := f423
  have f429 : Fld Z T419.heap a cST "coder" "B" (.int v421) := f424
  have f430 : Fld Z T419.heap a cST "value" "[B" (.ref v420) := f425
  have f431 : Ia Z T419.heap v420 .byte v422 := f426
  have ne432 : v420 ≠ a := Ia.neE (a0 := a0) f431 f428 (tw hw 13 rfl)
  clear X0 e0
  show Go p e below (T419.setTop (mkF m 9 #[vr a, vr ca] [])) _
  have k433 : Keep h0 T419.heap [a] := ((Keep.refl h0 [a]).trans K419q (allS (Or.inl (List.mem_of_getElem? (i := 0) rfl)) all0))
  exact Go.fin X419 hlk (v := none) (fun _ => rfl) (fun fs hr => X419.returnOut hx Bd.returns (hb hby d3_9) hr) (by exact ⟨v420, v421, v422, rfl, N419, k433, f428, f429, f430, f431, qp427⟩) (by decide) (by decide)
theorem d4_8 : decode jdk_42_method_149_code 8 = .ok (.aload_n 0, 1) := by decide +kernel
theorem d4_9 : decode jdk_42_method_149_code 9 = .ok (.ldc 7, 2) := by decide +kernel
theorem d4_11 : decode jdk_42_method_149_code 11 = .ok (.getfield 9, 3) := by decide +kernel
theorem d4_14 : decode jdk_42_method_149_code 14 = .ok (.putfield 9, 3) := by decide +kernel
theorem d4_17 : decode jdk_42_method_149_code 17 = .ok (.aload_n 0, 1) := by decide +kernel
theorem d4_18 : decode jdk_42_method_149_code 18 = .ok (.ldc 7, 2) := by decide +kernel
theorem d4_20 : decode jdk_42_method_149_code 20 = .ok (.getfield 15, 3) := by decide +kernel
theorem d4_23 : decode jdk_42_method_149_code 23 = .ok (.putfield 15, 3) := by decide +kernel
theorem d4_26 : decode jdk_42_method_149_code 26 = .ok (.return_, 1) := by decide +kernel
def Q_rmI5_e (Z : State) (a : Addr) (ca : Addr) (i : Int32) (n : Int32)  (h0 : Heap) (n0 : Nat) (vQ : Option Value) (hQ : Heap) (vmQ : Vm) (LQ : List Loc) : Prop := ∃ b_ : Addr, vQ = none ∧ Fr n0 LQ ∧ Keep h0 hQ [a] ∧ Exa Z hQ a cST ∧ Fld Z hQ a cST "coder" "B" (.int (0 : Int32)) ∧ Fld Z hQ a cST "value" "[B" (.ref b_) ∧ Ia Z hQ b_ .byte [] ∧ Em Z vmQ hQ []
def V_rmI5_e (Z : State) (a : Addr) (ca : Addr) (i : Int32) (n : Int32)  (h0 : Heap) (vmV : Vm) : Prop := Em Z vmV h0 [] ∧ True
set_option maxRecDepth 65536 in
set_option maxHeartbeats 40000000 in
theorem rmI5_e (l : Launch) (Z : State) (a0 : Array Value) (hw : ∀ d ∈ tables_1, d.before a0 Z = true) (ws : List Jvm.Cond) (a : Addr) (ca : Addr) (i : Int32) (n : Int32)  (h0 : Heap) (n0 : Nat) (Z0 : n0 ≤ h0.size) (P0 : Fld Z h0 a cST "coder" "B" (.int (0 : Int32))) (P1 : Fld Z h0 a cST "value" "[B" .null) (P2 : Exa Z h0 a cST) (P3 : Old Z n0 h0) (g_a : n0 ≤ a) (hn : n = 0) (hh7 : Jvm.Lit.constHeld Z cST 7) (hcw : Jvm.Lit.compactW.before a0 Z = true) :
    MetFree l (⟨cST, "<init>", "([CIILjava/lang/Void;)V"⟩ : MethodName) (head1 (Jvm.Cond.code (⟨cST, "<init>", "([CIILjava/lang/Void;)V"⟩ : MethodName) jdk_42_method_149_code 6 none :: ws) ({ frames := 1, cells := 2, slots := 4, locals := 12 } : Room)) (fun aQ UQ => aQ = #[(.ref a), (.ref ca), (.int i), (.int n), .null] ∧ Z.Warmed39 UQ.vm ∧ UQ.heap = h0 ∧ V_rmI5_e Z a ca i n  h0 UQ.vm) (fun _ _ _ _ _ => True) (fun _ UQ oQ UR => ∃ vQ LQ, oQ = .returned vQ ∧ Q_rmI5_e Z a ca i n  h0 n0 vQ UR.heap UR.vm LQ ∧ ReturnedEndW UQ oQ UR LQ ({ frames := 1, cells := 2, slots := 4, locals := 12 } : Room).cells ({ frames := 1, cells := 2, slots := 4, locals := 12 } : Room).slots) := by
  refine MetFree.of_bodySF (plainFor_of_name pn_4) hisR ?_
  intro p e s m args below meth c s₁ Bd hml0 hP hK
  obtain ⟨rfl, hZ0, hh, hV⟩ := hP
  obtain ⟨I0, -⟩ := hV
  have hx := Bd.exec
  have hby := Bd.bytes
  have hlk := Bd.notSynchronized
  have hml : c.maxLocals = 6 := hml0
  have hnm := (name_of_methodNamed Bd.named Bd.method).1
  have e0 : s₁.heap = h0 := by rw [← hh, Bd.state]; rfl
  have N0 := Fr.nil n0
  have hZ : Z.Warmed39 (s.setVm s.vm).vm := hZ0
  have hown : (s.setVm s.vm).vm.findClass cST = some m.cls := findClass_of_methodNamed Bd.named
  have X0 : Stand p l e ({ frames := 1, cells := 2, slots := 4, locals := 12 } : Room) (s.setVm s.vm) m #[(.ref a), (.ref ca), (.int i), (.int n), .null] below meth c s₁ [] 0 0 := Stand.of_body Bd
  have hS0 : s.Since s.vm s.heap.size := (State.WarmedH.refl _).since _
  have hk0 : s.heap.size ≤ h0.size := Nat.le_of_eq (congrArg Array.size hh)
  show Go p e below _ (DoneW s (Q_rmI5_e Z a ca i n  h0 n0) ({ frames := 1, cells := 2, slots := 4, locals := 12 } : Room).cells ({ frames := 1, cells := 2, slots := 4, locals := 12 } : Room).slots)
  refine Go.via (fun tQ kQ => castTop (ef_4n4 m a ca i n) kQ) ?_
  show Go p e below (s₁.setTop (mkF m 0 #[vr a, vr ca, vi i, vi n, .val .null, .unset] [])) _
  · subst hn
    show Go p e below (s₁.setTop (mkF m 0 #[vr a, vr ca, vi i, vi (0 : Int32), .val .null, .unset] [])) _
    refine Go.via (fun _ => XS.aloadN X0.here hx rfl (hb hby d4_0) rfl rfl) ?_
    obtain ⟨T434, X434, e434, st434⟩ := initO X0 hx hZ hown (tw hw 23 rfl) (tw hw 24 rfl) (tw hw 25 rfl) e0 (g := (mkF m 1 #[vr a, vr ca, vi i, vi (0 : Int32), .val .null, .unset] [(.ref a)])) rfl (by rw [hml]; rfl) rfl (hb hby d4_1) (by decide) (W := 0) (by show 2 * 0 + _ ≤ _; exact Nat.le_of_eq rfl) (by decide)
    refine Go.via (st434) ?_
    clear st434
    clear X0 e0
    show Go p e below (T434.setTop (mkF m 4 #[vr a, vr ca, vi i, vi (0 : Int32), .val .null, .unset] [])) _
    refine Go.via (fun _ => XS.iloadN X434.here hx rfl (hb hby d4_4) rfl) ?_
    refine Go.via (fun _ => XS.ifNo X434.here hx rfl (hb hby d4_5) rfl ((if0 _ _).trans (teq ((by decide) : (0 : Int32) = (0 : Int32))).2)) ?_
    refine Go.via (fun _ => XS.aloadN X434.here hx rfl (hb hby d4_8) rfl rfl) ?_
    obtain ⟨b435, T435, h435, c435, k1435, X435, e435, E435, hS435, hk435, hZ435, ho435, fE435, fC435, fV435, fA435, fL435, I435, st435⟩ := ldcE X434 hx hZ hown (tw hw 26 rfl) (wStr hw) e434 hS0 hk0 (Fr.nil _) (fun b cl q => by rw [hh]; exact P3.2.2 b cl q) I0 (by decide) hh7 hcw (g := (mkF m 9 #[vr a, vr ca, vi i, vi (0 : Int32), .val .null, .unset] [(.ref a)])) rfl (hb hby d4_9) (by decide) (by decide)
    have hZ : Z.Warmed39 (s.setVm T435.vm).vm := hZ435
    have hown : (s.setVm T435.vm).vm.findClass cST = some m.cls := ho435
    clear hZ435 ho435
    refine Go.via (st435) ?_
    clear st435
    have f436 : Exa Z h435 a cST := (P2.ext E435)
    have ne437 : c435 ≠ a := Ia.neE (a0 := a0) fA435 f436 (tw hw 13 rfl)
    have ne438 : c435 ≠ b435 := Ia.neE (a0 := a0) fA435 fE435 (tw hw 13 rfl)
    clear X434 e434
    show Go p e below (T435.setTop (mkF m 11 #[vr a, vr ca, vi i, vi (0 : Int32), .val .null, .unset] [(.ref b435), (.ref a)])) _
    have f439 : Fld Z h435 a cST "value" "[B" .null := (P1.ext E435)
    have ne440 : a ≠ b435 := Fld.ne f439 fV435 nofun
    obtain ⟨T441, X441, e441, st441⟩ := getF X435 hx hZ hown (host := "") (Or.inl (tw hw 32 rfl)) Via.refl e435 fV435 (g := (mkF m 11 #[vr a, vr ca, vi i, vi (0 : Int32), .val .null, .unset] [(.ref b435), (.ref a)])) rfl rfl (hb hby d4_11)
    refine Go.via (st441) ?_
    clear st441
    clear X435 e435
    show Go p e below (T441.setTop (mkF m 14 #[vr a, vr ca, vi i, vi (0 : Int32), .val .null, .unset] [(.ref c435), (.ref a)])) _
    obtain ⟨T442, h442, X442, e442, W442, st442⟩ := putF X441 hx hZ hown (host := "") (Or.inl (tw hw 32 rfl)) Via.refl e441 f439 f436 (Or.inr ⟨(tw hw 28 rfl), rfl, hnm⟩) (tw hw 13 rfl) (ty := (.array .byte)) (by decide) rfl rfl (g := (mkF m 14 #[vr a, vr ca, vi i, vi (0 : Int32), .val .null, .unset] [(.ref c435), (.ref a)])) rfl rfl (hb hby d4_14)
    refine Go.via (st442) ?_
    clear st442
    have N442 := Fr.snoc X442 N0 g_a
    have f443 : Fld Z h442 a cST "value" "[B" (.ref c435) := f439.same W442
    clear X441 e441
    show Go p e below (T442.setTop (mkF m 17 #[vr a, vr ca, vi i, vi (0 : Int32), .val .null, .unset] [])) _
    refine Go.via (fun _ => XS.aloadN X442.here hx rfl (hb hby d4_17) rfl rfl) ?_
    refine Go.via (ldcAgain (Z := Z) (a0 := a0) X442 hx hZ hown (tw hw 26 rfl) (L := fL435) (g := (mkF m 18 #[vr a, vr ca, vi i, vi (0 : Int32), .val .null, .unset] [(.ref a)])) rfl (hb hby d4_18)) ?_
    show Go p e below (T442.setTop (mkF m 20 #[vr a, vr ca, vi i, vi (0 : Int32), .val .null, .unset] [(.ref b435), (.ref a)])) _
    have f445 : Fld Z h442 b435 cST "coder" "B" (.int (0 : Int32)) := (fC435.other W442 (Or.inl (Ne.symm ne440)))
    obtain ⟨T446, X446, e446, st446⟩ := getF X442 hx hZ hown (host := "") (Or.inl (tw hw 33 rfl)) Via.refl e442 f445 (g := (mkF m 20 #[vr a, vr ca, vi i, vi (0 : Int32), .val .null, .unset] [(.ref b435), (.ref a)])) rfl rfl (hb hby d4_20)
    refine Go.via (st446) ?_
    clear st446
    clear X442 e442
    show Go p e below (T446.setTop (mkF m 23 #[vr a, vr ca, vi i, vi (0 : Int32), .val .null, .unset] [(.int (0 : Int32)), (.ref a)])) _
    have f447 : Fld Z h442 a cST "coder" "B" (.int (0 : Int32)) := ((P0.ext E435).other W442 (Or.inr (slot_ne (Or.inr (tw hw 29 rfl)) (Or.inr (tw hw 28 rfl)) (by decide) (t := .byte) (t' := (.array .byte)) (by decide) (by decide))))
    have f448 : Exa Z h442 a cST := (f436.wr W442)
    obtain ⟨T449, h449, X449, e449, W449, st449⟩ := putF X446 hx hZ hown (host := "") (Or.inl (tw hw 33 rfl)) Via.refl e446 f447 f448 (Or.inr ⟨(tw hw 29 rfl), rfl, hnm⟩) (tw hw 13 rfl) (ty := .byte) (by decide) rfl rfl (g := (mkF m 23 #[vr a, vr ca, vi i, vi (0 : Int32), .val .null, .unset] [(.int (0 : Int32)), (.ref a)])) rfl rfl (hb hby d4_23)
    refine Go.via (st449) ?_
    clear st449
    have N449 := Fr.snoc X449 N442 g_a
    have f450 : Fld Z h449 a cST "coder" "B" (.int (0 : Int32)) := f447.same W449
    clear X446 e446
    show Go p e below (T449.setTop (mkF m 26 #[vr a, vr ca, vi i, vi (0 : Int32), .val .null, .unset] [])) _
    have k451 : Keep h0 h449 [a] := ((((Keep.refl h0 [a]).ext E435).wr W442 (Or.inl (List.mem_of_getElem? (i := 0) rfl))).wr W449 (Or.inl (List.mem_of_getElem? (i := 0) rfl)))
    have f452 : Exa Z h449 a cST := (f448.wr W449)
    have f453 : Fld Z h449 a cST "value" "[B" (.ref c435) := (f443.other W449 (Or.inr (slot_ne (Or.inr (tw hw 28 rfl)) (Or.inr (tw hw 29 rfl)) (by decide) (t := (.array .byte)) (t' := .byte) (by decide) (by decide))))
    have f454 : Ia Z h449 c435 .byte [] := ((fA435.other W442 ne437).other W449 ne437)
    have em455 : Em Z T435.vm h449 [] := (Em.wrx (a0 := a0) I435 f436 f439 (tw hw 13 rfl) ((Keep.of_wr W442).wr W449 (Or.inl (List.mem_cons_self ..))))
    have hk456 : _ ≤ h449.size := (Nat.le_trans (Nat.le_trans hk435 (Keep.of_wr W442).1) (Keep.of_wr W449).1)
    exact Go.finW X449 hS435 (Nat.le_trans hk456 (Nat.le_of_eq (congrArg Array.size (Eq.symm e449)))) hlk (v := none) (fun _ => rfl) (fun fs hr => X449.returnOut hx Bd.returns (hb hby d4_26) hr) (by rw [e449]; exact ⟨c435, rfl, N449, k451, f452, f450, f453, f454, Em.still em455 X449.warmed.interned_eq (w39 X449.warmed.wide)⟩) (by decide) (by decide)
def Q_rmI1_e (Z : State) (a : Addr) (ca : Addr)  (h0 : Heap) (n0 : Nat) (vQ : Option Value) (hQ : Heap) (vmQ : Vm) (LQ : List Loc) : Prop := ∃ b_ : Addr, vQ = none ∧ Fr n0 LQ ∧ Keep h0 hQ [a] ∧ Exa Z hQ a cST ∧ Fld Z hQ a cST "coder" "B" (.int (0 : Int32)) ∧ Fld Z hQ a cST "value" "[B" (.ref b_) ∧ Ia Z hQ b_ .byte [] ∧ Em Z vmQ hQ []
def V_rmI1_e (Z : State) (a : Addr) (ca : Addr)  (h0 : Heap) (vmV : Vm) : Prop := Em Z vmV h0 [] ∧ True
set_option maxRecDepth 65536 in
set_option maxHeartbeats 40000000 in
theorem rmI1_e (l : Launch) (Z : State) (a0 : Array Value) (hw : ∀ d ∈ tables_1, d.before a0 Z = true) (ws : List Jvm.Cond) (a : Addr) (ca : Addr)  (h0 : Heap) (n0 : Nat) (Z0 : n0 ≤ h0.size) (P0 : Fld Z h0 a cST "coder" "B" (.int (0 : Int32))) (P1 : Fld Z h0 a cST "value" "[B" .null) (P2 : Exa Z h0 a cST) (P3 : Ia Z h0 ca .char []) (P4 : Old Z n0 h0) (g_a : n0 ≤ a) (hh7 : Jvm.Lit.constHeld Z cST 7) (hcw : Jvm.Lit.compactW.before a0 Z = true) :
    MetFree l (⟨cST, "<init>", "([C)V"⟩ : MethodName) (head1 (Jvm.Cond.code (⟨cST, "<init>", "([C)V"⟩ : MethodName) jdk_42_method_3_code 2 none :: ws) ({ frames := 2, cells := 2, slots := 4, locals := 29 } : Room)) (fun aQ UQ => aQ = #[(.ref a), (.ref ca)] ∧ Z.Warmed39 UQ.vm ∧ UQ.heap = h0 ∧ V_rmI1_e Z a ca  h0 UQ.vm) (fun _ _ _ _ _ => True) (fun _ UQ oQ UR => ∃ vQ LQ, oQ = .returned vQ ∧ Q_rmI1_e Z a ca  h0 n0 vQ UR.heap UR.vm LQ ∧ ReturnedEndW UQ oQ UR LQ ({ frames := 2, cells := 2, slots := 4, locals := 29 } : Room).cells ({ frames := 2, cells := 2, slots := 4, locals := 29 } : Room).slots) := by
  refine MetFree.of_bodySF (plainFor_of_name pn_3) hisR ?_
  intro p e s m args below meth c s₁ Bd hml0 hP hK
  obtain ⟨rfl, hZ0, hh, hV⟩ := hP
  obtain ⟨I0, -⟩ := hV
  have hx := Bd.exec
  have hby := Bd.bytes
  have hlk := Bd.notSynchronized
  have hml : c.maxLocals = 2 := hml0
  have hnm := (name_of_methodNamed Bd.named Bd.method).1
  have e0 : s₁.heap = h0 := by rw [← hh, Bd.state]; rfl
  have N0 := Fr.nil n0
  have hZ : Z.Warmed39 (s.setVm s.vm).vm := hZ0
  have hown : (s.setVm s.vm).vm.findClass cST = some m.cls := findClass_of_methodNamed Bd.named
  have X0 : Stand p l e ({ frames := 2, cells := 2, slots := 4, locals := 29 } : Room) (s.setVm s.vm) m #[(.ref a), (.ref ca)] below meth c s₁ [] 0 0 := Stand.of_body Bd
  have hS0 : s.Since s.vm s.heap.size := (State.WarmedH.refl _).since _
  have hk0 : s.heap.size ≤ h0.size := Nat.le_of_eq (congrArg Array.size hh)
  show Go p e below _ (DoneW s (Q_rmI1_e Z a ca  h0 n0) ({ frames := 2, cells := 2, slots := 4, locals := 29 } : Room).cells ({ frames := 2, cells := 2, slots := 4, locals := 29 } : Room).slots)
  refine Go.via (fun tQ kQ => castTop (ef_3 m a ca) kQ) ?_
  show Go p e below (s₁.setTop (mkF m 0 #[vr a, vr ca] [])) _
  refine Go.via (fun _ => XS.aloadN X0.here hx rfl (hb hby d3_0) rfl rfl) ?_
  refine Go.via (fun _ => XS.aloadN X0.here hx rfl (hb hby d3_1) rfl rfl) ?_
  refine Go.via (fun _ => XS.iconst X0.here hx rfl (hb hby d3_2)) ?_
  refine Go.via (fun _ => XS.aloadN X0.here hx rfl (hb hby d3_3) rfl rfl) ?_
  refine Go.via (lenI X0 hx hZ e0 P3 (n := (0 : Int32)) rfl (g := (mkF m 4 #[vr a, vr ca] [(.ref ca), (.int (0 : Int32)), (.ref ca), (.ref a)])) rfl rfl (hb hby d3_4)) ?_
  show Go p e below (s₁.setTop (mkF m 5 #[vr a, vr ca] [(.int (0 : Int32)), (.int (0 : Int32)), (.ref ca), (.ref a)])) _
  refine Go.via (fun _ => XS.aconstNull X0.here hx rfl (hb hby d3_5)) ?_
  show Go p e below (s₁.setTop (mkF m 6 #[vr a, vr ca] [.null, (.int (0 : Int32)), (.int (0 : Int32)), (.ref ca), (.ref a)])) _
  obtain ⟨r457, _, ⟨T457, L457, k457, n457⟩, -, X457, h2457, gS457, ⟨Lc457, hQ457, l457, y457, z457⟩, st457⟩ := X0.specialBackS hx (y := (⟨cST, "<init>", "([CIILjava/lang/Void;)V"⟩ : MethodName)) rfl hown (mvT hZ (tw hw 19 rfl)) (mvT hZ (tw hw 20 rfl)) (mvT hZ (tw hw 22 rfl)) (by decide) (backOfV (W := 0) (V := V_rmI5_e Z a ca (0 : Int32) (0 : Int32) h0) (rmI5_e l Z a0 hw [] a ca (0 : Int32) (0 : Int32)  h0 n0 Z0 P0 P1 P2 P4 g_a rfl hh7 hcw) hZ (tw hw 22 rfl) (tw hw 14 rfl) (by decide) (by decide) (fun vm' hW => ⟨Em.still I0 hW.interned_eq (w39 hW.wide), trivial⟩)) (g := (mkF m 6 #[vr a, vr ca] [.null, (.int (0 : Int32)), (.int (0 : Int32)), (.ref ca), (.ref a)])) rfl (by rw [hml]; rfl) (Steps.refl _) (a := a) (argsL := [(.ref ca), (.int (0 : Int32)), (.int (0 : Int32)), .null]) (rest := []) (lenOf pd__28_5bCIILjava_2flang_2fVoid_3b_29V rfl) rfl (by show 2 * 0 + _ ≤ _; exact Nat.le_of_eq rfl) (hb hby d3_6) (fun _ _ => ⟨rfl, e0, (by decide : 0 + 2 ≤ _), (by decide : 0 + 4 ≤ _)⟩)
  dsimp only [Pt.U, Pt.locs, Pt.cells, Pt.slots] at X457 l457 y457 z457 st457 hQ457 h2457 gS457
  rw [l457, y457, z457] at X457
  obtain ⟨v458, hr457, N457q, K457q, f459, f460, f461, f462, I457⟩ := hQ457
  rw [hr457] at st457
  have N457 := Fr.app N0 N457q
  refine Go.via (fun _ kQ => st457.trans kQ) ?_
  clear st457
  have e457 : T457.heap = T457.heap := rfl
  have f463 : Exa Z T457.heap a cST := f459
  have f464 : Fld Z T457.heap a cST "coder" "B" (.int (0 : Int32)) := f460
  have f465 : Fld Z T457.heap a cST "value" "[B" (.ref v458) := f461
  have f466 : Ia Z T457.heap v458 .byte [] := f462
  have ne467 : v458 ≠ a := Ia.neE (a0 := a0) f466 f463 (tw hw 13 rfl)
  obtain ⟨X457r, hS457, hZ, hown⟩ := rebS hS0 (Nat.le_trans hk0 (Nat.le_of_eq (congrArg Array.size (Eq.symm e0)))) X457 h2457 gS457 hZ hown
  clear X457 h2457 gS457
  clear X0 e0
  show Go p e below (T457.setTop (mkF m 9 #[vr a, vr ca] [])) _
  have k468 : Keep h0 T457.heap [a] := ((Keep.refl h0 [a]).trans K457q (allS (Or.inl (List.mem_of_getElem? (i := 0) rfl)) all0))
  exact Go.finW X457r hS457 (Nat.le_trans (Nat.le_refl _) (Nat.le_of_eq (congrArg Array.size (Eq.symm e457)))) hlk (v := none) (fun _ => rfl) (fun fs hr => X457r.returnOut hx Bd.returns (hb hby d3_9) hr) (by exact ⟨v458, rfl, N457, k468, f463, f464, f465, f466, Em.still I457 X457r.warmed.interned_eq (w39 X457r.warmed.wide)⟩) (by decide) (by decide)
def csF (n y z : Int32) : List Int32 := if n = (0 : Int32) then [] else if n = (1 : Int32) then [y] else [y, z]
theorem d2_0 : decode method_5_code 0 = .ok (.iload_n 0, 1) := by decide +kernel
theorem d2_1 : decode method_5_code 1 = .ok (.ifCond .ne 14, 3) := by decide +kernel
theorem d2_4 : decode method_5_code 4 = .ok (.new 13, 3) := by decide +kernel
theorem d2_7 : decode method_5_code 7 = .ok (.dup, 1) := by decide +kernel
theorem d2_8 : decode method_5_code 8 = .ok (.iconst 0, 1) := by decide +kernel
theorem d2_9 : decode method_5_code 9 = .ok (.newarray .char, 2) := by decide +kernel
theorem d2_11 : decode method_5_code 11 = .ok (.invokespecial 15, 3) := by decide +kernel
theorem pd__28_5bC_29V : parseMethodDescriptor "([C)V" = some ⟨[(.array .char)], none⟩ := by decide +kernel
theorem d2_14 : decode method_5_code 14 = .ok (.areturn, 1) := by decide +kernel
theorem d2_15 : decode method_5_code 15 = .ok (.iload_n 0, 1) := by decide +kernel
theorem d2_16 : decode method_5_code 16 = .ok (.iconst 1, 1) := by decide +kernel
theorem d2_17 : decode method_5_code 17 = .ok (.if_icmp .ne 18, 3) := by decide +kernel
theorem d2_20 : decode method_5_code 20 = .ok (.new 13, 3) := by decide +kernel
theorem d2_23 : decode method_5_code 23 = .ok (.dup, 1) := by decide +kernel
theorem d2_24 : decode method_5_code 24 = .ok (.iconst 1, 1) := by decide +kernel
theorem d2_25 : decode method_5_code 25 = .ok (.newarray .char, 2) := by decide +kernel
theorem d2_27 : decode method_5_code 27 = .ok (.dup, 1) := by decide +kernel
theorem d2_28 : decode method_5_code 28 = .ok (.iconst 0, 1) := by decide +kernel
theorem d2_29 : decode method_5_code 29 = .ok (.iload_n 1, 1) := by decide +kernel
theorem d2_30 : decode method_5_code 30 = .ok (.castore, 1) := by decide +kernel
theorem d2_31 : decode method_5_code 31 = .ok (.invokespecial 15, 3) := by decide +kernel
theorem d2_34 : decode method_5_code 34 = .ok (.areturn, 1) := by decide +kernel
theorem d2_35 : decode method_5_code 35 = .ok (.new 13, 3) := by decide +kernel
theorem d2_38 : decode method_5_code 38 = .ok (.dup, 1) := by decide +kernel
theorem d2_39 : decode method_5_code 39 = .ok (.iconst 2, 1) := by decide +kernel
theorem d2_40 : decode method_5_code 40 = .ok (.newarray .char, 2) := by decide +kernel
theorem d2_42 : decode method_5_code 42 = .ok (.dup, 1) := by decide +kernel
theorem d2_43 : decode method_5_code 43 = .ok (.iconst 0, 1) := by decide +kernel
theorem d2_44 : decode method_5_code 44 = .ok (.iload_n 1, 1) := by decide +kernel
theorem d2_45 : decode method_5_code 45 = .ok (.castore, 1) := by decide +kernel
theorem d2_46 : decode method_5_code 46 = .ok (.dup, 1) := by decide +kernel
theorem d2_47 : decode method_5_code 47 = .ok (.iconst 1, 1) := by decide +kernel
theorem d2_48 : decode method_5_code 48 = .ok (.iload_n 2, 1) := by decide +kernel
theorem d2_49 : decode method_5_code 49 = .ok (.castore, 1) := by decide +kernel
theorem d2_50 : decode method_5_code 50 = .ok (.invokespecial 15, 3) := by decide +kernel
theorem d2_53 : decode method_5_code 53 = .ok (.areturn, 1) := by decide +kernel
theorem pn_2 : plainName cLAW = true := by first | (simp [plainName, overriddenIn]; done) | decide +kernel
theorem ef_2 (m : MethodId) (x0 : Int32) (x1 : Int32) (x2 : Int32) : entryFrame m #[(.int x0), (.int x1), (.int x2)] 3 = mkF m 0 #[.val (.int x0), .val (.int x1), .val (.int x2)] [] := by first | (simp [entryFrame, mkF, argsToLocals, Value.category]; done) | rfl
def Q_rmMk (Z : State) (n : Int32) (y : Int32) (z : Int32) (cs : Int32) (h0 : Heap) (n0 : Nat) (vQ : Option Value) (hQ : Heap) (vmQ : Vm) (LQ : List Loc) : Prop := ∃ r : Addr, ∃ b_ : Addr, ∃ co : Int32, ∃ ys : List Int32, vQ = some (.ref r) ∧ Fr n0 LQ ∧ Keep h0 hQ [] ∧ h0.size ≤ r ∧ Exa Z hQ r cST ∧ Fld Z hQ r cST "coder" "B" (.int co) ∧ Fld Z hQ r cST "value" "[B" (.ref b_) ∧ Ia Z hQ b_ .byte ys ∧ Em Z vmQ hQ [] ∧ (Rep (csF n y z) co ys)
def V_rmMk (Z : State) (n : Int32) (y : Int32) (z : Int32) (cs : Int32) (h0 : Heap) (vmV : Vm) : Prop := Em Z vmV h0 [] ∧ True
set_option maxRecDepth 65536 in
set_option maxHeartbeats 40000000 in
theorem rmMk (l : Launch) (Z : State) (a0 : Array Value) (hw : ∀ d ∈ tables_1, d.before a0 Z = true) (ws : List Jvm.Cond) (n : Int32) (y : Int32) (z : Int32) (cs : Int32) (h0 : Heap) (n0 : Nat) (Z0 : n0 ≤ h0.size) (P0 : Old Z n0 h0) (zCS : Sta Z Z.heap cST "COMPACT_STRINGS" "Z" (.int cs)) (zAD : Sta Z Z.heap cU6 "$assertionsDisabled" "Z" (.int (1 : Int32))) (zHI : Sta Z Z.heap cU6 "HI_BYTE_SHIFT" "I" (.int (0 : Int32))) (zLO : Sta Z Z.heap cU6 "LO_BYTE_SHIFT" "I" (.int (8 : Int32))) (hcs : ¬ (cs = (0 : Int32))) (hh7 : Jvm.Lit.constHeld Z cST 7) (hcw : Jvm.Lit.compactW.before a0 Z = true) (hY : Ch y) (hZ_ : Ch z) :
    MetFree l (⟨cLAW, "mk", "(ICC)Ljava/lang/String;"⟩ : MethodName) (head1 (Jvm.Cond.code (⟨cLAW, "mk", "(ICC)Ljava/lang/String;"⟩ : MethodName) method_5_code 3 (some (.object cST)) :: ws) ({ frames := 6, cells := 4, slots := 12, locals := 88 } : Room)) (fun aQ UQ => aQ = #[(.int n), (.int y), (.int z)] ∧ Z.Warmed39 UQ.vm ∧ UQ.heap = h0 ∧ V_rmMk Z n y z cs h0 UQ.vm) (fun _ _ _ _ _ => True) (fun _ UQ oQ UR => ∃ vQ LQ, oQ = .returned vQ ∧ Q_rmMk Z n y z cs h0 n0 vQ UR.heap UR.vm LQ ∧ ReturnedEndW UQ oQ UR LQ ({ frames := 6, cells := 4, slots := 12, locals := 88 } : Room).cells ({ frames := 6, cells := 4, slots := 12, locals := 88 } : Room).slots) := by
  refine MetFree.of_bodySF (plainFor_of_name pn_2) hisR ?_
  intro p e s m args below meth c s₁ Bd hml0 hP hK
  obtain ⟨rfl, hZ0, hh, hV⟩ := hP
  obtain ⟨I0, -⟩ := hV
  have hx := Bd.exec
  have hby := Bd.bytes
  have hlk := Bd.notSynchronized
  have hml : c.maxLocals = 3 := hml0
  have hnm := (name_of_methodNamed Bd.named Bd.method).1
  have e0 : s₁.heap = h0 := by rw [← hh, Bd.state]; rfl
  have N0 := Fr.nil n0
  have hZ : Z.Warmed39 (s.setVm s.vm).vm := hZ0
  have hown : (s.setVm s.vm).vm.findClass cLAW = some m.cls := findClass_of_methodNamed Bd.named
  have X0 : Stand p l e ({ frames := 6, cells := 4, slots := 12, locals := 88 } : Room) (s.setVm s.vm) m #[(.int n), (.int y), (.int z)] below meth c s₁ [] 0 0 := Stand.of_body Bd
  have hS0 : s.Since s.vm s.heap.size := (State.WarmedH.refl _).since _
  have hk0 : s.heap.size ≤ h0.size := Nat.le_of_eq (congrArg Array.size hh)
  show Go p e below _ (DoneW s (Q_rmMk Z n y z cs h0 n0) ({ frames := 6, cells := 4, slots := 12, locals := 88 } : Room).cells ({ frames := 6, cells := 4, slots := 12, locals := 88 } : Room).slots)
  refine Go.via (fun tQ kQ => castTop (ef_2 m n y z) kQ) ?_
  show Go p e below (s₁.setTop (mkF m 0 #[vi n, vi y, vi z] [])) _
  refine Go.via (fun _ => XS.iloadN X0.here hx rfl (hb hby d2_0) rfl) ?_
  by_cases hc469 : n = (0 : Int32)
  · refine Go.via (fun _ => XS.ifNo X0.here hx rfl (hb hby d2_1) rfl ((if0 _ _).trans (teq (hc469 : n = (0 : Int32))).2)) ?_
    obtain ⟨T470, h470, X470, e470, E470, A470, D470, -, st470⟩ := newO X0 hx hZ hown (tw hw 12 rfl) (tw hw 13 rfl) (tw hw 14 rfl) e0 (g := (mkF m 4 #[vi n, vi y, vi z] [])) rfl (hb hby d2_4) (by decide) (by decide)
    obtain ⟨b470, g470⟩ : ∃ z, z = h0.size := ⟨_, rfl⟩
    rw [← g470] at A470 D470 st470
    have ge471 : n0 ≤ b470 := Nat.le_trans Z0 (Nat.le_of_eq g470.symm)
    have sz472 : h0.size ≤ b470 := Nat.le_trans (Keep.refl h0 []).1 (Nat.le_of_eq g470.symm)
    refine Go.via (st470) ?_
    clear st470
    have f473 : Fld Z h470 b470 cST "value" "[B" .null := D470 (Or.inr (tw hw 28 rfl)) (ty := (.array .byte)) (by decide)
    have f474 : Fld Z h470 b470 cST "coder" "B" (.int (0 : Int32)) := D470 (Or.inr (tw hw 29 rfl)) (ty := .byte) (by decide)
    clear X0 e0
    show Go p e below (T470.setTop (mkF m 7 #[vi n, vi y, vi z] [(.ref b470)])) _
    refine Go.via (fun _ => XS.dup X470.here hx rfl (hb hby d2_7) rfl rfl) ?_
    refine Go.via (fun _ => XS.iconst X470.here hx rfl (hb hby d2_8)) ?_
    have k476 : Keep h0 h470 [] := ((Keep.refl h0 []).ext E470)
    have z477 : n0 ≤ h470.size := (Nat.le_trans Z0 E470.1)
    obtain ⟨T475, h475, k475, X475, e475, E475, A475, B475, st475⟩ := newPE X470 hx hZ (tw hw 15 rfl) e470 (g := (mkF m 9 #[vi n, vi y, vi z] [(.int (0 : Int32)), (.ref b470), (.ref b470)])) rfl (hb hby d2_9) rfl (by decide) (cap := 0) (by decide) (by decide) (by decide) (by decide) (ad := "[C") (by decide)
    obtain ⟨b475, g475⟩ : ∃ z, z = h470.size := ⟨_, rfl⟩
    rw [← g475] at A475 B475 st475
    have ne478 : b470 ≠ b475 := Nat.ne_of_lt (Nat.lt_of_lt_of_le A470.lt (Nat.le_of_eq g475.symm))
    have ge479 : n0 ≤ b475 := Nat.le_trans z477 (Nat.le_of_eq g475.symm)
    have sz480 : h0.size ≤ b475 := Nat.le_trans k476.1 (Nat.le_of_eq g475.symm)
    refine Go.via (st475) ?_
    clear st475
    have f481 : Ia Z h475 b475 .char [] := Ia.new A475 rfl
    clear X470 e470
    show Go p e below (T475.setTop (mkF m 11 #[vi n, vi y, vi z] [(.ref b475), (.ref b470), (.ref b470)])) _
    have f482 : Fld Z h475 b470 cST "coder" "B" (.int (0 : Int32)) := (f474.ext E475)
    have f483 : Fld Z h475 b470 cST "value" "[B" .null := (f473.ext E475)
    have f484 : Exa Z h475 b470 cST := (A470.ext E475)
    have o485 : Old Z n0 h475 := ((P0.ext E470).ext E475)
    have z487 : n0 ≤ h475.size := (Nat.le_trans z477 E475.1)
    have k488 : Keep h0 h475 [] := (k476.ext E475)
    have em489 : Em Z s.vm h475 [] := (Em.keep0 I0 k488)
    have hk490 : _ ≤ h475.size := (Nat.le_trans (Nat.le_trans hk0 E470.1) E475.1)
    obtain ⟨r486, _, ⟨T486, L486, k486, n486⟩, -, X486, h2486, gS486, ⟨Lc486, hQ486, l486, y486, z486⟩, st486⟩ := X475.specialBackS hx (y := (⟨cST, "<init>", "([C)V"⟩ : MethodName)) rfl hown (mvT hZ (tw hw 16 rfl)) (mvT hZ (tw hw 17 rfl)) (mvT hZ (tw hw 18 rfl)) (by decide) (backOfV (W := 1) (V := V_rmI1_e Z b470 b475 h475) (rmI1_e l Z a0 hw [] b470 b475  h475 n0 z487 f482 f483 f484 f481 o485 ge471 hh7 hcw) hZ (tw hw 18 rfl) (tw hw 14 rfl) (by decide) (by decide) (fun vm' hW => ⟨Em.still em489 hW.interned_eq (w39 hW.wide), trivial⟩)) (g := (mkF m 11 #[vi n, vi y, vi z] [(.ref b475), (.ref b470), (.ref b470)])) rfl (by rw [hml]; rfl) (Steps.refl _) (a := b470) (argsL := [(.ref b475)]) (rest := [(.ref b470)]) (lenOf pd__28_5bC_29V rfl) rfl (by show 2 * 0 + _ ≤ _; exact Nat.le_of_eq rfl) (hb hby d2_11) (fun _ _ => ⟨rfl, e475, (by decide : 2 + 2 ≤ _), (by decide : 4 + 4 ≤ _)⟩)
    dsimp only [Pt.U, Pt.locs, Pt.cells, Pt.slots] at X486 l486 y486 z486 st486 hQ486 h2486 gS486
    rw [l486, y486, z486] at X486
    obtain ⟨v491, hr486, N486q, K486q, f492, f493, f494, f495, I486⟩ := hQ486
    rw [hr486] at st486
    have N486 := Fr.app N0 N486q
    refine Go.via (fun _ kQ => st486.trans kQ) ?_
    clear st486
    have e486 : T486.heap = T486.heap := rfl
    have f496 : Exa Z T486.heap b470 cST := f492
    have f497 : Fld Z T486.heap b470 cST "coder" "B" (.int (0 : Int32)) := f493
    have f498 : Fld Z T486.heap b470 cST "value" "[B" (.ref v491) := f494
    have f499 : Ia Z T486.heap v491 .byte [] := f495
    have ne500 : v491 ≠ b470 := Ia.neE (a0 := a0) f499 f496 (tw hw 13 rfl)
    obtain ⟨X486r, hS486, hZ, hown⟩ := rebS hS0 (Nat.le_trans hk490 (Nat.le_of_eq (congrArg Array.size (Eq.symm e475)))) X486 h2486 gS486 hZ hown
    clear X486 h2486 gS486
    clear X475 e475
    show Go p e below (T486.setTop (mkF m 14 #[vi n, vi y, vi z] [(.ref b470)])) _
    have k501 : Keep h0 T486.heap [] := (k488.trans K486q (allS (Or.inr sz472) all0))
    exact Go.finW X486r hS486 (Nat.le_trans (Nat.le_refl _) (Nat.le_of_eq (congrArg Array.size (Eq.symm e486)))) hlk (v := some (.ref b470)) (fun h => by rw [Bd.returns] at h; cases h) (fun fs hr => retOut X486r hx Bd.returns rfl (Or.inr (Or.inr (Or.inr (Or.inr ⟨rfl, rfl, rfl⟩)))) (hb hby d2_14) hr) (by exact ⟨b470, v491, (0 : Int32), [], rfl, N486, k501, sz472, f496, f497, f498, f499, Em.still I486 X486r.warmed.interned_eq (w39 X486r.warmed.wide), (by rw [(show csF n y z = [] from ((if_pos hc469).trans rfl))]; exact Or.inl ⟨rfl, rfl, rfl⟩)⟩) (by decide) (by decide)
  · refine Go.via (fun _ => XS.ifYes X0.here hx rfl (pc0 := 1) (pc' := 15) rfl (hb hby d2_1) rfl ((if0 _ _).trans (feq (hc469 : ¬ (n = (0 : Int32)))).2) (by decide) (by decide)) ?_
    refine Go.via (fun _ => XS.iloadN X0.here hx rfl (hb hby d2_15) rfl) ?_
    refine Go.via (fun _ => XS.iconst X0.here hx rfl (hb hby d2_16)) ?_
    by_cases hc502 : n = (1 : Int32)
    · refine Go.via (fun _ => XS.icmpNo X0.here hx rfl (hb hby d2_17) rfl (teq (hc502 : n = (1 : Int32))).2) ?_
      obtain ⟨T503, h503, X503, e503, E503, A503, D503, -, st503⟩ := newO X0 hx hZ hown (tw hw 12 rfl) (tw hw 13 rfl) (tw hw 14 rfl) e0 (g := (mkF m 20 #[vi n, vi y, vi z] [])) rfl (hb hby d2_20) (by decide) (by decide)
      obtain ⟨b503, g503⟩ : ∃ z, z = h0.size := ⟨_, rfl⟩
      rw [← g503] at A503 D503 st503
      have ge504 : n0 ≤ b503 := Nat.le_trans Z0 (Nat.le_of_eq g503.symm)
      have sz505 : h0.size ≤ b503 := Nat.le_trans (Keep.refl h0 []).1 (Nat.le_of_eq g503.symm)
      refine Go.via (st503) ?_
      clear st503
      have f506 : Fld Z h503 b503 cST "value" "[B" .null := D503 (Or.inr (tw hw 28 rfl)) (ty := (.array .byte)) (by decide)
      have f507 : Fld Z h503 b503 cST "coder" "B" (.int (0 : Int32)) := D503 (Or.inr (tw hw 29 rfl)) (ty := .byte) (by decide)
      clear X0 e0
      show Go p e below (T503.setTop (mkF m 23 #[vi n, vi y, vi z] [(.ref b503)])) _
      refine Go.via (fun _ => XS.dup X503.here hx rfl (hb hby d2_23) rfl rfl) ?_
      refine Go.via (fun _ => XS.iconst X503.here hx rfl (hb hby d2_24)) ?_
      have k509 : Keep h0 h503 [] := ((Keep.refl h0 []).ext E503)
      have z510 : n0 ≤ h503.size := (Nat.le_trans Z0 E503.1)
      obtain ⟨T508, h508, k508, X508, e508, E508, A508, B508, st508⟩ := newPE X503 hx hZ (tw hw 15 rfl) e503 (g := (mkF m 25 #[vi n, vi y, vi z] [(.int (1 : Int32)), (.ref b503), (.ref b503)])) rfl (hb hby d2_25) rfl (by decide) (cap := 1) (by decide) (by decide) (by decide) (by decide) (ad := "[C") (by decide)
      obtain ⟨b508, g508⟩ : ∃ z, z = h503.size := ⟨_, rfl⟩
      rw [← g508] at A508 B508 st508
      have ne511 : b503 ≠ b508 := Nat.ne_of_lt (Nat.lt_of_lt_of_le A503.lt (Nat.le_of_eq g508.symm))
      have ge512 : n0 ≤ b508 := Nat.le_trans z510 (Nat.le_of_eq g508.symm)
      have sz513 : h0.size ≤ b508 := Nat.le_trans k509.1 (Nat.le_of_eq g508.symm)
      refine Go.via (st508) ?_
      clear st508
      have f514 : Ia Z h508 b508 .char [(0 : Int32)] := Ia.new A508 rfl
      clear X503 e503
      show Go p e below (T508.setTop (mkF m 27 #[vi n, vi y, vi z] [(.ref b508), (.ref b503), (.ref b503)])) _
      refine Go.via (fun _ => XS.dup X508.here hx rfl (hb hby d2_27) rfl rfl) ?_
      refine Go.via (fun _ => XS.iconst X508.here hx rfl (hb hby d2_28)) ?_
      refine Go.via (fun _ => XS.iloadN X508.here hx rfl (hb hby d2_29) rfl) ?_
      obtain ⟨T515, h515, X515, e515, W515, V515, st515⟩ := stC' X508 hx hZ e508 f514 (j := (0 : Int32)) (by decide) (by first | decide | (simp only [List.length_cons, List.length_nil]; decide) | rfl) (g := (mkF m 30 #[vi n, vi y, vi z] [(.int y), (.int (0 : Int32)), (.ref b508), (.ref b508), (.ref b503), (.ref b503)])) rfl rfl (hb hby d2_30)
      refine Go.via (st515) ?_
      clear st515
      have N515 := Fr.snoc X515 N0 ge512
      have f516 : Ia Z h515 b508 .char [(nar .char y)] := V515
      clear X508 e508
      show Go p e below (T515.setTop (mkF m 31 #[vi n, vi y, vi z] [(.ref b508), (.ref b503), (.ref b503)])) _
      have f517 : Ia Z h515 b508 .char [y] := by have qF := f516; rw [own_nc hY] at qF; exact qF
      have f518 : Fld Z h515 b503 cST "coder" "B" (.int (0 : Int32)) := ((f507.ext E508).other W515 (Or.inl ne511))
      have f519 : Fld Z h515 b503 cST "value" "[B" .null := ((f506.ext E508).other W515 (Or.inl ne511))
      have f520 : Exa Z h515 b503 cST := ((A503.ext E508).wr W515)
      have o521 : Old Z n0 h515 := (((P0.ext E503).ext E508).wr W515 ge512)
      have z523 : n0 ≤ h515.size := (Nat.le_trans (Nat.le_trans z510 E508.1) (Keep.of_wr W515).1)
      obtain ⟨r522, _, ⟨T522, L522, k522, n522⟩, -, X522, ⟨Lc522, hQ522, l522, y522, z522⟩, st522⟩ := X515.specialBack hx (y := (⟨cST, "<init>", "([C)V"⟩ : MethodName)) rfl hown (mvT hZ (tw hw 16 rfl)) (mvT hZ (tw hw 17 rfl)) (mvT hZ (tw hw 18 rfl)) (by decide) (backOf (W := 1) (rmI1_1 l Z a0 hw [] b503 b508 y cs h515 n0 z523 f518 f519 f520 f517 o521 zCS zAD zHI zLO ge504 ne511 hcs hY) hZ (tw hw 18 rfl) (tw hw 14 rfl) (by decide) (by decide)) (g := (mkF m 31 #[vi n, vi y, vi z] [(.ref b508), (.ref b503), (.ref b503)])) rfl (by rw [hml]; rfl) (Steps.refl _) (a := b503) (argsL := [(.ref b508)]) (rest := [(.ref b503)]) (lenOf pd__28_5bC_29V rfl) rfl (by show 2 * 0 + _ ≤ _; exact Nat.le_of_eq rfl) (hb hby d2_31) (fun _ _ => ⟨rfl, e515, (by decide : 2 + 2 ≤ _), (by decide : 5 + 3 ≤ _)⟩)
      dsimp only [Pt.U, Pt.locs, Pt.cells, Pt.slots] at X522 l522 y522 z522 st522 hQ522
      rw [l522, y522, z522] at X522
      obtain ⟨v524, v525, v526, hr522, N522q, K522q, f527, f528, f529, f530, qp531⟩ := hQ522
      rw [hr522] at st522
      have N522 := Fr.app N515 N522q
      refine Go.via (fun _ kQ => st522.trans kQ) ?_
      clear st522
      have e522 : T522.heap = T522.heap := rfl
      have f532 : Exa Z T522.heap b503 cST := f527
      have f533 : Fld Z T522.heap b503 cST "coder" "B" (.int v525) := f528
      have f534 : Fld Z T522.heap b503 cST "value" "[B" (.ref v524) := f529
      have f535 : Ia Z T522.heap v524 .byte v526 := f530
      have ne536 : v524 ≠ b503 := Ia.neE (a0 := a0) f535 f532 (tw hw 13 rfl)
      clear X515 e515
      show Go p e below (T522.setTop (mkF m 34 #[vi n, vi y, vi z] [(.ref b503)])) _
      have k537 : Keep h0 T522.heap [] := (((k509.ext E508).wr W515 (Or.inr sz513)).trans K522q (allS (Or.inr sz505) all0))
      have em538 : Em Z s.vm T522.heap [] := (Em.keep0 I0 k537)
      have hk539 : _ ≤ T522.heap.size := (Nat.le_trans (Nat.le_trans (Nat.le_trans (Nat.le_trans hk0 E503.1) E508.1) (Keep.of_wr W515).1) K522q.1)
      exact Go.finW X522 hS0 (Nat.le_trans hk539 (Nat.le_of_eq (congrArg Array.size (Eq.symm e522)))) hlk (v := some (.ref b503)) (fun h => by rw [Bd.returns] at h; cases h) (fun fs hr => retOut X522 hx Bd.returns rfl (Or.inr (Or.inr (Or.inr (Or.inr ⟨rfl, rfl, rfl⟩)))) (hb hby d2_34) hr) (by exact ⟨b503, v524, v525, v526, rfl, N522, k537, sz505, f532, f533, f534, f535, Em.still em538 X522.warmed.interned_eq (w39 X522.warmed.wide), (by rw [(show csF n y z = [y] from ((if_neg hc469).trans ((if_pos hc502).trans rfl)))]; exact qp531)⟩) (by decide) (by decide)
    · refine Go.via (fun _ => XS.icmpYes X0.here hx rfl (pc0 := 17) (pc' := 35) rfl (hb hby d2_17) rfl (feq (hc502 : ¬ (n = (1 : Int32)))).2 (by decide) (by decide)) ?_
      obtain ⟨T540, h540, X540, e540, E540, A540, D540, -, st540⟩ := newO X0 hx hZ hown (tw hw 12 rfl) (tw hw 13 rfl) (tw hw 14 rfl) e0 (g := (mkF m 35 #[vi n, vi y, vi z] [])) rfl (hb hby d2_35) (by decide) (by decide)
      obtain ⟨b540, g540⟩ : ∃ z, z = h0.size := ⟨_, rfl⟩
      rw [← g540] at A540 D540 st540
      have ge541 : n0 ≤ b540 := Nat.le_trans Z0 (Nat.le_of_eq g540.symm)
      have sz542 : h0.size ≤ b540 := Nat.le_trans (Keep.refl h0 []).1 (Nat.le_of_eq g540.symm)
      refine Go.via (st540) ?_
      clear st540
      have f543 : Fld Z h540 b540 cST "value" "[B" .null := D540 (Or.inr (tw hw 28 rfl)) (ty := (.array .byte)) (by decide)
      have f544 : Fld Z h540 b540 cST "coder" "B" (.int (0 : Int32)) := D540 (Or.inr (tw hw 29 rfl)) (ty := .byte) (by decide)
      clear X0 e0
      show Go p e below (T540.setTop (mkF m 38 #[vi n, vi y, vi z] [(.ref b540)])) _
      refine Go.via (fun _ => XS.dup X540.here hx rfl (hb hby d2_38) rfl rfl) ?_
      refine Go.via (fun _ => XS.iconst X540.here hx rfl (hb hby d2_39)) ?_
      have k546 : Keep h0 h540 [] := ((Keep.refl h0 []).ext E540)
      have z547 : n0 ≤ h540.size := (Nat.le_trans Z0 E540.1)
      obtain ⟨T545, h545, k545, X545, e545, E545, A545, B545, st545⟩ := newPE X540 hx hZ (tw hw 15 rfl) e540 (g := (mkF m 40 #[vi n, vi y, vi z] [(.int (2 : Int32)), (.ref b540), (.ref b540)])) rfl (hb hby d2_40) rfl (by decide) (cap := 2) (by decide) (by decide) (by decide) (by decide) (ad := "[C") (by decide)
      obtain ⟨b545, g545⟩ : ∃ z, z = h540.size := ⟨_, rfl⟩
      rw [← g545] at A545 B545 st545
      have ne548 : b540 ≠ b545 := Nat.ne_of_lt (Nat.lt_of_lt_of_le A540.lt (Nat.le_of_eq g545.symm))
      have ge549 : n0 ≤ b545 := Nat.le_trans z547 (Nat.le_of_eq g545.symm)
      have sz550 : h0.size ≤ b545 := Nat.le_trans k546.1 (Nat.le_of_eq g545.symm)
      refine Go.via (st545) ?_
      clear st545
      have f551 : Ia Z h545 b545 .char [(0 : Int32), (0 : Int32)] := Ia.new A545 rfl
      clear X540 e540
      show Go p e below (T545.setTop (mkF m 42 #[vi n, vi y, vi z] [(.ref b545), (.ref b540), (.ref b540)])) _
      refine Go.via (fun _ => XS.dup X545.here hx rfl (hb hby d2_42) rfl rfl) ?_
      refine Go.via (fun _ => XS.iconst X545.here hx rfl (hb hby d2_43)) ?_
      refine Go.via (fun _ => XS.iloadN X545.here hx rfl (hb hby d2_44) rfl) ?_
      obtain ⟨T552, h552, X552, e552, W552, V552, st552⟩ := stC' X545 hx hZ e545 f551 (j := (0 : Int32)) (by decide) (by first | decide | (simp only [List.length_cons, List.length_nil]; decide) | rfl) (g := (mkF m 45 #[vi n, vi y, vi z] [(.int y), (.int (0 : Int32)), (.ref b545), (.ref b545), (.ref b540), (.ref b540)])) rfl rfl (hb hby d2_45)
      refine Go.via (st552) ?_
      clear st552
      have N552 := Fr.snoc X552 N0 ge549
      have f553 : Ia Z h552 b545 .char [(nar .char y), (0 : Int32)] := V552
      clear X545 e545
      show Go p e below (T552.setTop (mkF m 46 #[vi n, vi y, vi z] [(.ref b545), (.ref b540), (.ref b540)])) _
      refine Go.via (fun _ => XS.dup X552.here hx rfl (hb hby d2_46) rfl rfl) ?_
      refine Go.via (fun _ => XS.iconst X552.here hx rfl (hb hby d2_47)) ?_
      refine Go.via (fun _ => XS.iloadN X552.here hx rfl (hb hby d2_48) rfl) ?_
      obtain ⟨T554, h554, X554, e554, W554, V554, st554⟩ := stC' X552 hx hZ e552 f553 (j := (1 : Int32)) (by decide) (by first | decide | (simp only [List.length_cons, List.length_nil]; decide) | rfl) (g := (mkF m 49 #[vi n, vi y, vi z] [(.int z), (.int (1 : Int32)), (.ref b545), (.ref b545), (.ref b540), (.ref b540)])) rfl rfl (hb hby d2_49)
      refine Go.via (st554) ?_
      clear st554
      have N554 := Fr.snoc X554 N552 ge549
      have f555 : Ia Z h554 b545 .char [(nar .char y), (nar .char z)] := V554
      clear X552 e552
      show Go p e below (T554.setTop (mkF m 50 #[vi n, vi y, vi z] [(.ref b545), (.ref b540), (.ref b540)])) _
      have f556 : Ia Z h554 b545 .char [y, z] := by have qF := f555; rw [own_nc hY, own_nc hZ_] at qF; exact qF
      have f557 : Fld Z h554 b540 cST "coder" "B" (.int (0 : Int32)) := (((f544.ext E545).other W552 (Or.inl ne548)).other W554 (Or.inl ne548))
      have f558 : Fld Z h554 b540 cST "value" "[B" .null := (((f543.ext E545).other W552 (Or.inl ne548)).other W554 (Or.inl ne548))
      have f559 : Exa Z h554 b540 cST := (((A540.ext E545).wr W552).wr W554)
      have o560 : Old Z n0 h554 := ((((P0.ext E540).ext E545).wr W552 ge549).wr W554 ge549)
      have z562 : n0 ≤ h554.size := (Nat.le_trans (Nat.le_trans (Nat.le_trans z547 E545.1) (Keep.of_wr W552).1) (Keep.of_wr W554).1)
      obtain ⟨r561, _, ⟨T561, L561, k561, n561⟩, -, X561, ⟨Lc561, hQ561, l561, y561, z561⟩, st561⟩ := X554.specialBack hx (y := (⟨cST, "<init>", "([C)V"⟩ : MethodName)) rfl hown (mvT hZ (tw hw 16 rfl)) (mvT hZ (tw hw 17 rfl)) (mvT hZ (tw hw 18 rfl)) (by decide) (backOf (W := 1) (rmI1_2 l Z a0 hw [] b540 b545 y z cs h554 n0 z562 f557 f558 f559 f556 o560 zCS zAD zHI zLO ge541 ne548 hcs hY hZ_) hZ (tw hw 18 rfl) (tw hw 14 rfl) (by decide) (by decide)) (g := (mkF m 50 #[vi n, vi y, vi z] [(.ref b545), (.ref b540), (.ref b540)])) rfl (by rw [hml]; rfl) (Steps.refl _) (a := b540) (argsL := [(.ref b545)]) (rest := [(.ref b540)]) (lenOf pd__28_5bC_29V rfl) rfl (by show 2 * 0 + _ ≤ _; exact Nat.le_of_eq rfl) (hb hby d2_50) (fun _ _ => ⟨rfl, e554, (by decide : 2 + 2 ≤ _), (by decide : 6 + 6 ≤ _)⟩)
      dsimp only [Pt.U, Pt.locs, Pt.cells, Pt.slots] at X561 l561 y561 z561 st561 hQ561
      rw [l561, y561, z561] at X561
      obtain ⟨v563, v564, v565, hr561, N561q, K561q, f566, f567, f568, f569, qp570⟩ := hQ561
      rw [hr561] at st561
      have N561 := Fr.app N554 N561q
      refine Go.via (fun _ kQ => st561.trans kQ) ?_
      clear st561
      have e561 : T561.heap = T561.heap := rfl
      have f571 : Exa Z T561.heap b540 cST := f566
      have f572 : Fld Z T561.heap b540 cST "coder" "B" (.int v564) := f567
      have f573 : Fld Z T561.heap b540 cST "value" "[B" (.ref v563) := f568
      have f574 : Ia Z T561.heap v563 .byte v565 := f569
      have ne575 : v563 ≠ b540 := Ia.neE (a0 := a0) f574 f571 (tw hw 13 rfl)
      clear X554 e554
      show Go p e below (T561.setTop (mkF m 53 #[vi n, vi y, vi z] [(.ref b540)])) _
      have k576 : Keep h0 T561.heap [] := ((((k546.ext E545).wr W552 (Or.inr sz550)).wr W554 (Or.inr sz550)).trans K561q (allS (Or.inr sz542) all0))
      have em577 : Em Z s.vm T561.heap [] := (Em.keep0 I0 k576)
      have hk578 : _ ≤ T561.heap.size := (Nat.le_trans (Nat.le_trans (Nat.le_trans (Nat.le_trans (Nat.le_trans hk0 E540.1) E545.1) (Keep.of_wr W552).1) (Keep.of_wr W554).1) K561q.1)
      exact Go.finW X561 hS0 (Nat.le_trans hk578 (Nat.le_of_eq (congrArg Array.size (Eq.symm e561)))) hlk (v := some (.ref b540)) (fun h => by rw [Bd.returns] at h; cases h) (fun fs hr => retOut X561 hx Bd.returns rfl (Or.inr (Or.inr (Or.inr (Or.inr ⟨rfl, rfl, rfl⟩)))) (hb hby d2_53) hr) (by exact ⟨b540, v563, v564, v565, rfl, N561, k576, sz542, f571, f572, f573, f574, Em.still em577 X561.warmed.interned_eq (w39 X561.warmed.wide), (by rw [(show csF n y z = [y, z] from ((if_neg hc469).trans ((if_neg hc502).trans rfl)))]; exact qp570)⟩) (by decide) (by decide)
def cpN (n y z : Int32) : Int32 := if n = (0 : Int32) then 0 else if n = (1 : Int32) then 1 else if (ihL y) = (0 : Int32) then 2 else if (ilL z) = (0 : Int32) then 2 else 1
def cpX (n y z : Int32) : Int32 := if n = (0 : Int32) then 0 else if n = (1 : Int32) then y else if (ihL y) = (0 : Int32) then y else if (ilL z) = (0 : Int32) then y else tpF y z
def cpY (n y z : Int32) : Int32 := if n = (0 : Int32) then 0 else if n = (1 : Int32) then 0 else if (ihL y) = (0 : Int32) then z else if (ilL z) = (0 : Int32) then z else 0
theorem d6_0 : decode method_6_code 0 = .ok (.iload_n 0, 1) := by decide +kernel
theorem d6_1 : decode method_6_code 1 = .ok (.ifCond .ne 5, 3) := by decide +kernel
theorem d6_4 : decode method_6_code 4 = .ok (.iconst 0, 1) := by decide +kernel
theorem d6_5 : decode method_6_code 5 = .ok (.ireturn, 1) := by decide +kernel
theorem d6_6 : decode method_6_code 6 = .ok (.iload_n 0, 1) := by decide +kernel
theorem d6_7 : decode method_6_code 7 = .ok (.iconst 1, 1) := by decide +kernel
theorem d6_8 : decode method_6_code 8 = .ok (.if_icmp .ne 9, 3) := by decide +kernel
theorem d6_11 : decode method_6_code 11 = .ok (.aload_n 3, 1) := by decide +kernel
theorem d6_12 : decode method_6_code 12 = .ok (.iconst 0, 1) := by decide +kernel
theorem d6_13 : decode method_6_code 13 = .ok (.iload_n 1, 1) := by decide +kernel
theorem d6_14 : decode method_6_code 14 = .ok (.iastore, 1) := by decide +kernel
theorem d6_15 : decode method_6_code 15 = .ok (.iconst 1, 1) := by decide +kernel
theorem d6_16 : decode method_6_code 16 = .ok (.ireturn, 1) := by decide +kernel
theorem d6_17 : decode method_6_code 17 = .ok (.iload_n 1, 1) := by decide +kernel
theorem d6_18 : decode method_6_code 18 = .ok (.invokestatic 18, 3) := by decide +kernel
theorem pd__28C_29Z : parseMethodDescriptor "(C)Z" = some ⟨[.char], some .boolean⟩ := by decide +kernel
theorem d6_21 : decode method_6_code 21 = .ok (.ifCond .eq 30, 3) := by decide +kernel
theorem d6_51 : decode method_6_code 51 = .ok (.aload_n 3, 1) := by decide +kernel
theorem d6_52 : decode method_6_code 52 = .ok (.iconst 0, 1) := by decide +kernel
theorem d6_53 : decode method_6_code 53 = .ok (.iload_n 1, 1) := by decide +kernel
theorem d6_54 : decode method_6_code 54 = .ok (.iastore, 1) := by decide +kernel
theorem d6_55 : decode method_6_code 55 = .ok (.aload_n 3, 1) := by decide +kernel
theorem d6_56 : decode method_6_code 56 = .ok (.iconst 1, 1) := by decide +kernel
theorem d6_57 : decode method_6_code 57 = .ok (.iload_n 2, 1) := by decide +kernel
theorem d6_58 : decode method_6_code 58 = .ok (.iastore, 1) := by decide +kernel
theorem d6_59 : decode method_6_code 59 = .ok (.iconst 2, 1) := by decide +kernel
theorem d6_60 : decode method_6_code 60 = .ok (.ireturn, 1) := by decide +kernel
theorem d6_24 : decode method_6_code 24 = .ok (.iload_n 2, 1) := by decide +kernel
theorem d6_25 : decode method_6_code 25 = .ok (.invokestatic 24, 3) := by decide +kernel
theorem d6_28 : decode method_6_code 28 = .ok (.ifCond .eq 23, 3) := by decide +kernel
theorem d6_31 : decode method_6_code 31 = .ok (.aload_n 3, 1) := by decide +kernel
theorem d6_32 : decode method_6_code 32 = .ok (.iconst 0, 1) := by decide +kernel
theorem d6_33 : decode method_6_code 33 = .ok (.iload_n 1, 1) := by decide +kernel
theorem d6_34 : decode method_6_code 34 = .ok (.ldc 8, 2) := by decide +kernel
theorem d6_36 : decode method_6_code 36 = .ok (.isub, 1) := by decide +kernel
theorem d6_37 : decode method_6_code 37 = .ok (.bipush 10, 2) := by decide +kernel
theorem d6_39 : decode method_6_code 39 = .ok (.ishl, 1) := by decide +kernel
theorem d6_40 : decode method_6_code 40 = .ok (.iload_n 2, 1) := by decide +kernel
theorem d6_41 : decode method_6_code 41 = .ok (.ldc 9, 2) := by decide +kernel
theorem d6_43 : decode method_6_code 43 = .ok (.isub, 1) := by decide +kernel
theorem d6_44 : decode method_6_code 44 = .ok (.iadd, 1) := by decide +kernel
theorem d6_45 : decode method_6_code 45 = .ok (.ldc 27, 2) := by decide +kernel
theorem d6_47 : decode method_6_code 47 = .ok (.iadd, 1) := by decide +kernel
theorem d6_48 : decode method_6_code 48 = .ok (.iastore, 1) := by decide +kernel
theorem d6_49 : decode method_6_code 49 = .ok (.iconst 1, 1) := by decide +kernel
theorem d6_50 : decode method_6_code 50 = .ok (.ireturn, 1) := by decide +kernel
theorem pn_6 : plainName cLAW = true := by first | (simp [plainName, overriddenIn]; done) | decide +kernel
theorem ef_6 (m : MethodId) (x0 : Int32) (x1 : Int32) (x2 : Int32) (x3 : Addr) : entryFrame m #[(.int x0), (.int x1), (.int x2), (.ref x3)] 4 = mkF m 0 #[.val (.int x0), .val (.int x1), .val (.int x2), .val (.ref x3)] [] := by first | (simp [entryFrame, mkF, argsToLocals, Value.category]; done) | rfl
def Q_rmCp (Z : State) (n : Int32) (y : Int32) (z : Int32) (o : Addr)  (h0 : Heap) (n0 : Nat) (vQ : Option Value) (hQ : Heap) (LQ : List Loc) : Prop := vQ = some (.int (cpN n y z)) ∧ Fr n0 LQ ∧ Keep h0 hQ [o] ∧ Ia Z hQ o .int [(cpX n y z), (cpY n y z)]
set_option maxRecDepth 65536 in
set_option maxHeartbeats 40000000 in
theorem rmCp (l : Launch) (Z : State) (a0 : Array Value) (hw : ∀ d ∈ tables_1, d.before a0 Z = true) (ws : List Jvm.Cond) (n : Int32) (y : Int32) (z : Int32) (o : Addr)  (h0 : Heap) (n0 : Nat) (Z0 : n0 ≤ h0.size) (P0 : Ia Z h0 o .int [(0 : Int32), (0 : Int32)]) (g_o : n0 ≤ o) :
    MetFree l (⟨cLAW, "cps", "(ICC[I)I"⟩ : MethodName) (head1 (Jvm.Cond.code (⟨cLAW, "cps", "(ICC[I)I"⟩ : MethodName) method_6_code 4 (some .int) :: ws) ({ frames := 1, cells := 0, slots := 0, locals := 12 } : Room)) (fun aQ UQ => aQ = #[(.int n), (.int y), (.int z), (.ref o)] ∧ Z.Warmed39 UQ.vm ∧ UQ.heap = h0) (fun _ _ _ _ _ => True) (fun _ UQ oQ UR => ∃ vQ LQ, oQ = .returned vQ ∧ Q_rmCp Z n y z o  h0 n0 vQ UR.heap LQ ∧ FrameEnd UQ oQ UR LQ ({ frames := 1, cells := 0, slots := 0, locals := 12 } : Room).cells ({ frames := 1, cells := 0, slots := 0, locals := 12 } : Room).slots) := by
  refine MetFree.of_bodySF (plainFor_of_name pn_6) hisR ?_
  intro p e s m args below meth c s₁ Bd hml0 hP hK
  obtain ⟨rfl, hZ, hh⟩ := hP
  have hx := Bd.exec
  have hby := Bd.bytes
  have hlk := Bd.notSynchronized
  have hml : c.maxLocals = 4 := hml0
  have hown : s.vm.findClass cLAW = some m.cls := findClass_of_methodNamed Bd.named
  have hnm := (name_of_methodNamed Bd.named Bd.method).1
  have X0 : Stand p l e ({ frames := 1, cells := 0, slots := 0, locals := 12 } : Room) s m #[(.int n), (.int y), (.int z), (.ref o)] below meth c s₁ [] 0 0 := Stand.of_body Bd
  have e0 : s₁.heap = h0 := by rw [← hh, Bd.state]; rfl
  have N0 := Fr.nil n0
  show Go p e below _ (Done s (Q_rmCp Z n y z o  h0 n0) ({ frames := 1, cells := 0, slots := 0, locals := 12 } : Room).cells ({ frames := 1, cells := 0, slots := 0, locals := 12 } : Room).slots)
  refine Go.via (fun tQ kQ => castTop (ef_6 m n y z o) kQ) ?_
  show Go p e below (s₁.setTop (mkF m 0 #[vi n, vi y, vi z, vr o] [])) _
  refine Go.via (fun _ => XS.iloadN X0.here hx rfl (hb hby d6_0) rfl) ?_
  by_cases hc579 : n = (0 : Int32)
  · refine Go.via (fun _ => XS.ifNo X0.here hx rfl (hb hby d6_1) rfl ((if0 _ _).trans (teq (hc579 : n = (0 : Int32))).2)) ?_
    refine Go.via (fun _ => XS.iconst X0.here hx rfl (hb hby d6_4)) ?_
    exact Go.fin X0 hlk (v := some (.int (0 : Int32))) (fun h => by rw [Bd.returns] at h; cases h) (fun fs hr => OwnKit.retI X0 hx Bd.returns (hb hby d6_5) hr) (by rw [e0]; exact ⟨(congrArg (fun qq => some (Value.int qq)) (Eq.symm ((if_pos hc579).trans rfl))), N0, (Keep.refl h0 [o]), (by rw [show cpX n y z = (0 : Int32) from ((if_pos hc579).trans rfl), show cpY n y z = (0 : Int32) from ((if_pos hc579).trans rfl)]; exact P0)⟩) (by decide) (by decide)
  · refine Go.via (fun _ => XS.ifYes X0.here hx rfl (pc0 := 1) (pc' := 6) rfl (hb hby d6_1) rfl ((if0 _ _).trans (feq (hc579 : ¬ (n = (0 : Int32)))).2) (by decide) (by decide)) ?_
    refine Go.via (fun _ => XS.iloadN X0.here hx rfl (hb hby d6_6) rfl) ?_
    refine Go.via (fun _ => XS.iconst X0.here hx rfl (hb hby d6_7)) ?_
    by_cases hc580 : n = (1 : Int32)
    · refine Go.via (fun _ => XS.icmpNo X0.here hx rfl (hb hby d6_8) rfl (teq (hc580 : n = (1 : Int32))).2) ?_
      refine Go.via (fun _ => XS.aloadN X0.here hx rfl (hb hby d6_11) rfl rfl) ?_
      refine Go.via (fun _ => XS.iconst X0.here hx rfl (hb hby d6_12)) ?_
      refine Go.via (fun _ => XS.iloadN X0.here hx rfl (hb hby d6_13) rfl) ?_
      obtain ⟨T581, h581, X581, e581, W581, V581, st581⟩ := stI' X0 hx hZ e0 P0 (j := (0 : Int32)) (by decide) (by first | decide | (simp only [List.length_cons, List.length_nil]; decide) | rfl) (g := (mkF m 14 #[vi n, vi y, vi z, vr o] [(.int y), (.int (0 : Int32)), (.ref o)])) rfl rfl (hb hby d6_14)
      refine Go.via (st581) ?_
      clear st581
      have N581 := Fr.snoc X581 N0 g_o
      have f582 : Ia Z h581 o .int [y, (0 : Int32)] := V581
      clear X0 e0
      show Go p e below (T581.setTop (mkF m 15 #[vi n, vi y, vi z, vr o] [])) _
      refine Go.via (fun _ => XS.iconst X581.here hx rfl (hb hby d6_15)) ?_
      have k583 : Keep h0 h581 [o] := ((Keep.refl h0 [o]).wr W581 (Or.inl (List.mem_of_getElem? (i := 0) rfl)))
      exact Go.fin X581 hlk (v := some (.int (1 : Int32))) (fun h => by rw [Bd.returns] at h; cases h) (fun fs hr => OwnKit.retI X581 hx Bd.returns (hb hby d6_16) hr) (by rw [e581]; exact ⟨(congrArg (fun qq => some (Value.int qq)) (Eq.symm ((if_neg hc579).trans ((if_pos hc580).trans rfl)))), N581, k583, (by rw [show cpX n y z = y from ((if_neg hc579).trans ((if_pos hc580).trans rfl)), show cpY n y z = (0 : Int32) from ((if_neg hc579).trans ((if_pos hc580).trans rfl))]; exact f582)⟩) (by decide) (by decide)
    · refine Go.via (fun _ => XS.icmpYes X0.here hx rfl (pc0 := 8) (pc' := 17) rfl (hb hby d6_8) rfl (feq (hc580 : ¬ (n = (1 : Int32)))).2 (by decide) (by decide)) ?_
      refine Go.via (fun _ => XS.iloadN X0.here hx rfl (hb hby d6_17) rfl) ?_
      obtain ⟨r584, _, ⟨T584, L584, k584, n584⟩, -, X584, ⟨Lc584, hQ584, l584, y584, z584⟩, st584⟩ := Jvm.LawKit.callS X0 hx (y := (⟨cLAW, "isHigh", "(C)Z"⟩ : MethodName)) hown (mvT hZ (tw hw 93 rfl)) (mvT hZ (tw hw 94 rfl)) (mvT hZ (tw hw 3 rfl)) (mvT hZ (tw hw 95 rfl)) (by decide) (backOf (W := 0) (rmHl l Z a0 hw [] y  h0 n0 Z0) hZ (tw hw 95 rfl) (tw hw 3 rfl) (by decide) (by decide)) (g := (mkF m 18 #[vi n, vi y, vi z, vr o] [(.int y)])) rfl (by rw [hml]; rfl) (argsL := [(.int y)]) (rest := []) (lenOf pd__28C_29Z rfl) rfl (by show 2 * 0 + _ ≤ _; exact Nat.le_of_eq rfl) (hb hby d6_18) (fun _ _ => ⟨rfl, e0, (by decide : 0 + 0 ≤ _), (by decide : 0 + 0 ≤ _)⟩)
      dsimp only [Pt.U, Pt.locs, Pt.cells, Pt.slots] at X584 l584 y584 z584 st584 hQ584
      rw [l584, y584, z584] at X584
      obtain ⟨hr584, N584q, eh584⟩ := hQ584
      rw [hr584] at st584
      rw [N584q, List.append_nil] at X584
      refine Go.via (st584) ?_
      clear st584
      have e584 : T584.heap = h0 := eh584
      clear X0 e0
      show Go p e below (T584.setTop (mkF m 21 #[vi n, vi y, vi z, vr o] [(.int (ihL y))])) _
      by_cases hc585 : (ihL y) = (0 : Int32)
      · refine Go.via (fun _ => XS.ifYes X584.here hx rfl (pc0 := 21) (pc' := 51) rfl (hb hby d6_21) rfl ((if0 _ _).trans (teq (hc585 : (ihL y) = (0 : Int32))).1) (by decide) (by decide)) ?_
        show Go p e below (T584.setTop (mkF m 51 #[vi n, vi y, vi z, vr o] [])) _
        refine Go.via (fun _ => XS.aloadN X584.here hx rfl (hb hby d6_51) rfl rfl) ?_
        refine Go.via (fun _ => XS.iconst X584.here hx rfl (hb hby d6_52)) ?_
        refine Go.via (fun _ => XS.iloadN X584.here hx rfl (hb hby d6_53) rfl) ?_
        obtain ⟨T586, h586, X586, e586, W586, V586, st586⟩ := stI' X584 hx hZ e584 P0 (j := (0 : Int32)) (by decide) (by first | decide | (simp only [List.length_cons, List.length_nil]; decide) | rfl) (g := (mkF m 54 #[vi n, vi y, vi z, vr o] [(.int y), (.int (0 : Int32)), (.ref o)])) rfl rfl (hb hby d6_54)
        refine Go.via (st586) ?_
        clear st586
        have N586 := Fr.snoc X586 N0 g_o
        have f587 : Ia Z h586 o .int [y, (0 : Int32)] := V586
        clear X584 e584
        show Go p e below (T586.setTop (mkF m 55 #[vi n, vi y, vi z, vr o] [])) _
        refine Go.via (fun _ => XS.aloadN X586.here hx rfl (hb hby d6_55) rfl rfl) ?_
        refine Go.via (fun _ => XS.iconst X586.here hx rfl (hb hby d6_56)) ?_
        refine Go.via (fun _ => XS.iloadN X586.here hx rfl (hb hby d6_57) rfl) ?_
        obtain ⟨T588, h588, X588, e588, W588, V588, st588⟩ := stI' X586 hx hZ e586 f587 (j := (1 : Int32)) (by decide) (by first | decide | (simp only [List.length_cons, List.length_nil]; decide) | rfl) (g := (mkF m 58 #[vi n, vi y, vi z, vr o] [(.int z), (.int (1 : Int32)), (.ref o)])) rfl rfl (hb hby d6_58)
        refine Go.via (st588) ?_
        clear st588
        have N588 := Fr.snoc X588 N586 g_o
        have f589 : Ia Z h588 o .int [y, z] := V588
        clear X586 e586
        show Go p e below (T588.setTop (mkF m 59 #[vi n, vi y, vi z, vr o] [])) _
        refine Go.via (fun _ => XS.iconst X588.here hx rfl (hb hby d6_59)) ?_
        have k590 : Keep h0 h588 [o] := (((Keep.refl h0 [o]).wr W586 (Or.inl (List.mem_of_getElem? (i := 0) rfl))).wr W588 (Or.inl (List.mem_of_getElem? (i := 0) rfl)))
        exact Go.fin X588 hlk (v := some (.int (2 : Int32))) (fun h => by rw [Bd.returns] at h; cases h) (fun fs hr => OwnKit.retI X588 hx Bd.returns (hb hby d6_60) hr) (by rw [e588]; exact ⟨(congrArg (fun qq => some (Value.int qq)) (Eq.symm ((if_neg hc579).trans ((if_neg hc580).trans ((if_pos hc585).trans rfl))))), N588, k590, (by rw [show cpX n y z = y from ((if_neg hc579).trans ((if_neg hc580).trans ((if_pos hc585).trans rfl))), show cpY n y z = z from ((if_neg hc579).trans ((if_neg hc580).trans ((if_pos hc585).trans rfl)))]; exact f589)⟩) (by decide) (by decide)
      · refine Go.via (fun _ => XS.ifNo X584.here hx rfl (hb hby d6_21) rfl ((if0 _ _).trans (feq (hc585 : ¬ ((ihL y) = (0 : Int32)))).1)) ?_
        show Go p e below (T584.setTop (mkF m 24 #[vi n, vi y, vi z, vr o] [])) _
        refine Go.via (fun _ => XS.iloadN X584.here hx rfl (hb hby d6_24) rfl) ?_
        obtain ⟨r591, _, ⟨T591, L591, k591, n591⟩, -, X591, ⟨Lc591, hQ591, l591, y591, z591⟩, st591⟩ := Jvm.LawKit.callS X584 hx (y := (⟨cLAW, "isLow", "(C)Z"⟩ : MethodName)) hown (mvT hZ (tw hw 131 rfl)) (mvT hZ (tw hw 132 rfl)) (mvT hZ (tw hw 3 rfl)) (mvT hZ (tw hw 133 rfl)) (by decide) (backOf (W := 0) (rmLl l Z a0 hw [] z  h0 n0 Z0) hZ (tw hw 133 rfl) (tw hw 3 rfl) (by decide) (by decide)) (g := (mkF m 25 #[vi n, vi y, vi z, vr o] [(.int z)])) rfl (by rw [hml]; rfl) (argsL := [(.int z)]) (rest := []) (lenOf pd__28C_29Z rfl) rfl (by show 2 * 0 + _ ≤ _; exact Nat.le_of_eq rfl) (hb hby d6_25) (fun _ _ => ⟨rfl, e584, (by decide : 0 + 0 ≤ _), (by decide : 0 + 0 ≤ _)⟩)
        dsimp only [Pt.U, Pt.locs, Pt.cells, Pt.slots] at X591 l591 y591 z591 st591 hQ591
        rw [l591, y591, z591] at X591
        obtain ⟨hr591, N591q, eh591⟩ := hQ591
        rw [hr591] at st591
        rw [N591q, List.append_nil] at X591
        refine Go.via (st591) ?_
        clear st591
        have e591 : T591.heap = h0 := eh591
        clear X584 e584
        show Go p e below (T591.setTop (mkF m 28 #[vi n, vi y, vi z, vr o] [(.int (ilL z))])) _
        by_cases hc592 : (ilL z) = (0 : Int32)
        · refine Go.via (fun _ => XS.ifYes X591.here hx rfl (pc0 := 28) (pc' := 51) rfl (hb hby d6_28) rfl ((if0 _ _).trans (teq (hc592 : (ilL z) = (0 : Int32))).1) (by decide) (by decide)) ?_
          show Go p e below (T591.setTop (mkF m 51 #[vi n, vi y, vi z, vr o] [])) _
          refine Go.via (fun _ => XS.aloadN X591.here hx rfl (hb hby d6_51) rfl rfl) ?_
          refine Go.via (fun _ => XS.iconst X591.here hx rfl (hb hby d6_52)) ?_
          refine Go.via (fun _ => XS.iloadN X591.here hx rfl (hb hby d6_53) rfl) ?_
          obtain ⟨T593, h593, X593, e593, W593, V593, st593⟩ := stI' X591 hx hZ e591 P0 (j := (0 : Int32)) (by decide) (by first | decide | (simp only [List.length_cons, List.length_nil]; decide) | rfl) (g := (mkF m 54 #[vi n, vi y, vi z, vr o] [(.int y), (.int (0 : Int32)), (.ref o)])) rfl rfl (hb hby d6_54)
          refine Go.via (st593) ?_
          clear st593
          have N593 := Fr.snoc X593 N0 g_o
          have f594 : Ia Z h593 o .int [y, (0 : Int32)] := V593
          clear X591 e591
          show Go p e below (T593.setTop (mkF m 55 #[vi n, vi y, vi z, vr o] [])) _
          refine Go.via (fun _ => XS.aloadN X593.here hx rfl (hb hby d6_55) rfl rfl) ?_
          refine Go.via (fun _ => XS.iconst X593.here hx rfl (hb hby d6_56)) ?_
          refine Go.via (fun _ => XS.iloadN X593.here hx rfl (hb hby d6_57) rfl) ?_
          obtain ⟨T595, h595, X595, e595, W595, V595, st595⟩ := stI' X593 hx hZ e593 f594 (j := (1 : Int32)) (by decide) (by first | decide | (simp only [List.length_cons, List.length_nil]; decide) | rfl) (g := (mkF m 58 #[vi n, vi y, vi z, vr o] [(.int z), (.int (1 : Int32)), (.ref o)])) rfl rfl (hb hby d6_58)
          refine Go.via (st595) ?_
          clear st595
          have N595 := Fr.snoc X595 N593 g_o
          have f596 : Ia Z h595 o .int [y, z] := V595
          clear X593 e593
          show Go p e below (T595.setTop (mkF m 59 #[vi n, vi y, vi z, vr o] [])) _
          refine Go.via (fun _ => XS.iconst X595.here hx rfl (hb hby d6_59)) ?_
          have k597 : Keep h0 h595 [o] := (((Keep.refl h0 [o]).wr W593 (Or.inl (List.mem_of_getElem? (i := 0) rfl))).wr W595 (Or.inl (List.mem_of_getElem? (i := 0) rfl)))
          exact Go.fin X595 hlk (v := some (.int (2 : Int32))) (fun h => by rw [Bd.returns] at h; cases h) (fun fs hr => OwnKit.retI X595 hx Bd.returns (hb hby d6_60) hr) (by rw [e595]; exact ⟨(congrArg (fun qq => some (Value.int qq)) (Eq.symm ((if_neg hc579).trans ((if_neg hc580).trans ((if_neg hc585).trans ((if_pos hc592).trans rfl)))))), N595, k597, (by rw [show cpX n y z = y from ((if_neg hc579).trans ((if_neg hc580).trans ((if_neg hc585).trans ((if_pos hc592).trans rfl)))), show cpY n y z = z from ((if_neg hc579).trans ((if_neg hc580).trans ((if_neg hc585).trans ((if_pos hc592).trans rfl))))]; exact f596)⟩) (by decide) (by decide)
        · refine Go.via (fun _ => XS.ifNo X591.here hx rfl (hb hby d6_28) rfl ((if0 _ _).trans (feq (hc592 : ¬ ((ilL z) = (0 : Int32)))).1)) ?_
          show Go p e below (T591.setTop (mkF m 31 #[vi n, vi y, vi z, vr o] [])) _
          refine Go.via (fun _ => XS.aloadN X591.here hx rfl (hb hby d6_31) rfl rfl) ?_
          refine Go.via (fun _ => XS.iconst X591.here hx rfl (hb hby d6_32)) ?_
          refine Go.via (fun _ => XS.iloadN X591.here hx rfl (hb hby d6_33) rfl) ?_
          refine Go.via (X591.ldcInt hx hown (mvT hZ (tw hw 7 rfl)) (g := (mkF m 34 #[vi n, vi y, vi z, vr o] [(.int y), (.int (0 : Int32)), (.ref o)])) rfl (hb hby d6_34)) ?_
          show Go p e below (T591.setTop (mkF m 36 #[vi n, vi y, vi z, vr o] [(.int (55296 : Int32)), (.int y), (.int (0 : Int32)), (.ref o)])) _
          refine Go.via (fun _ => XS.isub X591.here hx rfl (hb hby d6_36) rfl) ?_
          refine Go.via (fun _ => XS.bipush X591.here hx rfl (hb hby d6_37)) ?_
          refine Go.via (fun _ => XS.ishl X591.here hx rfl (hb hby d6_39) rfl) ?_
          refine Go.via (fun _ => XS.iloadN X591.here hx rfl (hb hby d6_40) rfl) ?_
          refine Go.via (X591.ldcInt hx hown (mvT hZ (tw hw 6 rfl)) (g := (mkF m 41 #[vi n, vi y, vi z, vr o] [(.int z), (.int ((y - (55296 : Int32)) <<< ((10 : Int32) &&& 31))), (.int (0 : Int32)), (.ref o)])) rfl (hb hby d6_41)) ?_
          show Go p e below (T591.setTop (mkF m 43 #[vi n, vi y, vi z, vr o] [(.int (56320 : Int32)), (.int z), (.int ((y - (55296 : Int32)) <<< ((10 : Int32) &&& 31))), (.int (0 : Int32)), (.ref o)])) _
          refine Go.via (fun _ => XS.isub X591.here hx rfl (hb hby d6_43) rfl) ?_
          refine Go.via (fun _ => XS.iadd X591.here hx rfl (hb hby d6_44) rfl) ?_
          refine Go.via (X591.ldcInt hx hown (mvT hZ (tw hw 135 rfl)) (g := (mkF m 45 #[vi n, vi y, vi z, vr o] [(.int (((y - (55296 : Int32)) <<< ((10 : Int32) &&& 31)) + (z - (56320 : Int32)))), (.int (0 : Int32)), (.ref o)])) rfl (hb hby d6_45)) ?_
          show Go p e below (T591.setTop (mkF m 47 #[vi n, vi y, vi z, vr o] [(.int (65536 : Int32)), (.int (((y - (55296 : Int32)) <<< ((10 : Int32) &&& 31)) + (z - (56320 : Int32)))), (.int (0 : Int32)), (.ref o)])) _
          refine Go.via (fun _ => XS.iadd X591.here hx rfl (hb hby d6_47) rfl) ?_
          obtain ⟨T598, h598, X598, e598, W598, V598, st598⟩ := stI' X591 hx hZ e591 P0 (j := (0 : Int32)) (by decide) (by first | decide | (simp only [List.length_cons, List.length_nil]; decide) | rfl) (g := (mkF m 48 #[vi n, vi y, vi z, vr o] [(.int ((((y - (55296 : Int32)) <<< ((10 : Int32) &&& 31)) + (z - (56320 : Int32))) + (65536 : Int32))), (.int (0 : Int32)), (.ref o)])) rfl rfl (hb hby d6_48)
          refine Go.via (st598) ?_
          clear st598
          have N598 := Fr.snoc X598 N0 g_o
          have f599 : Ia Z h598 o .int [((((y - (55296 : Int32)) <<< ((10 : Int32) &&& 31)) + (z - (56320 : Int32))) + (65536 : Int32)), (0 : Int32)] := V598
          clear X591 e591
          show Go p e below (T598.setTop (mkF m 49 #[vi n, vi y, vi z, vr o] [])) _
          refine Go.via (fun _ => XS.iconst X598.here hx rfl (hb hby d6_49)) ?_
          have k600 : Keep h0 h598 [o] := ((Keep.refl h0 [o]).wr W598 (Or.inl (List.mem_of_getElem? (i := 0) rfl)))
          exact Go.fin X598 hlk (v := some (.int (1 : Int32))) (fun h => by rw [Bd.returns] at h; cases h) (fun fs hr => OwnKit.retI X598 hx Bd.returns (hb hby d6_50) hr) (by rw [e598]; exact ⟨(congrArg (fun qq => some (Value.int qq)) (Eq.symm ((if_neg hc579).trans ((if_neg hc580).trans ((if_neg hc585).trans ((if_neg hc592).trans rfl)))))), N598, k600, (by rw [show cpX n y z = ((((y - (55296 : Int32)) <<< ((10 : Int32) &&& 31)) + (z - (56320 : Int32))) + (65536 : Int32)) from ((if_neg hc579).trans ((if_neg hc580).trans ((if_neg hc585).trans ((if_neg hc592).trans rfl)))), show cpY n y z = (0 : Int32) from ((if_neg hc579).trans ((if_neg hc580).trans ((if_neg hc585).trans ((if_neg hc592).trans rfl))))]; exact f599)⟩) (by decide) (by decide)
theorem d26_0 : decode jdk_52_method_7_code 0 = .ok (.getstatic 44, 3) := by decide +kernel
theorem d26_3 : decode jdk_52_method_7_code 3 = .ok (.ifCond .ne 16, 3) := by decide +kernel
theorem d26_19 : decode jdk_52_method_7_code 19 = .ok (.iload_n 3, 1) := by decide +kernel
theorem d26_20 : decode jdk_52_method_7_code 20 = .ok (.ifCond .eq 8, 3) := by decide +kernel
theorem d26_28 : decode jdk_52_method_7_code 28 = .ok (.aload_n 0, 1) := by decide +kernel
theorem d26_29 : decode jdk_52_method_7_code 29 = .ok (.iload_n 1, 1) := by decide +kernel
theorem d26_30 : decode jdk_52_method_7_code 30 = .ok (.invokestatic 71, 3) := by decide +kernel
theorem d26_33 : decode jdk_52_method_7_code 33 = .ok (.istore 4, 2) := by decide +kernel
theorem d26_35 : decode jdk_52_method_7_code 35 = .ok (.iload 4, 2) := by decide +kernel
theorem d26_37 : decode jdk_52_method_7_code 37 = .ok (.invokestatic 75, 3) := by decide +kernel
theorem d26_40 : decode jdk_52_method_7_code 40 = .ok (.ifCond .eq 43, 3) := by decide +kernel
theorem d26_83 : decode jdk_52_method_7_code 83 = .ok (.iload 4, 2) := by decide +kernel
theorem d26_85 : decode jdk_52_method_7_code 85 = .ok (.ireturn, 1) := by decide +kernel
theorem d26_43 : decode jdk_52_method_7_code 43 = .ok (.iinc 1 1, 3) := by decide +kernel
theorem d26_46 : decode jdk_52_method_7_code 46 = .ok (.iload_n 1, 1) := by decide +kernel
theorem d26_47 : decode jdk_52_method_7_code 47 = .ok (.iload_n 2, 1) := by decide +kernel
theorem d26_48 : decode jdk_52_method_7_code 48 = .ok (.if_icmp .ge 35, 3) := by decide +kernel
theorem pn_26 : plainName cU6 = true := by first | (simp [plainName, overriddenIn]; done) | decide +kernel
theorem ef_26 (m : MethodId) (x0 : Addr) (x1 : Int32) (x2 : Int32) (x3 : Int32) : entryFrame m #[(.ref x0), (.int x1), (.int x2), (.int x3)] 6 = mkF m 0 #[.val (.ref x0), .val (.int x1), .val (.int x2), .val (.int x3), .unset, .unset] [] := by first | (simp [entryFrame, mkF, argsToLocals, Value.category]; done) | rfl
def Q_rmU4_10 (Z : State) (b_ : Addr) (i : Int32) (n : Int32) (q_ : Int32) (w0_ : Int32) (w1_ : Int32) (c0 : Int32) (h0 : Heap) (n0 : Nat) (vQ : Option Value) (hQ : Heap) (LQ : List Loc) : Prop := vQ = some (.int c0) ∧ LQ = [] ∧ hQ = h0
set_option maxRecDepth 65536 in
set_option maxHeartbeats 40000000 in
theorem rmU4_10 (l : Launch) (Z : State) (a0 : Array Value) (hw : ∀ d ∈ tables_1, d.before a0 Z = true) (ws : List Jvm.Cond) (b_ : Addr) (i : Int32) (n : Int32) (q_ : Int32) (w0_ : Int32) (w1_ : Int32) (c0 : Int32) (h0 : Heap) (n0 : Nat) (Z0 : n0 ≤ h0.size) (P0 : Ia Z h0 b_ .byte [w0_, w1_]) (P1 : Old Z n0 h0) (zAD : Sta Z Z.heap cU6 "$assertionsDisabled" "Z" (.int (1 : Int32))) (zHI : Sta Z Z.heap cU6 "HI_BYTE_SHIFT" "I" (.int (0 : Int32))) (zLO : Sta Z Z.heap cU6 "LO_BYTE_SHIFT" "I" (.int (8 : Int32))) (hi : i = 0) (hn : n = 1) (hq : q_ = 0) (hg0 : (gcF w0_ w1_) = c0) :
    MetFree l (⟨cU6, "codePointAt", "([BIIZ)I"⟩ : MethodName) (head1 (Jvm.Cond.code (⟨cU6, "codePointAt", "([BIIZ)I"⟩ : MethodName) jdk_52_method_7_code 6 (some .int) :: ws) ({ frames := 1, cells := 0, slots := 0, locals := 13 } : Room)) (fun aQ UQ => aQ = #[(.ref b_), (.int i), (.int n), (.int q_)] ∧ Z.Warmed39 UQ.vm ∧ UQ.heap = h0) (fun _ _ _ _ _ => True) (fun _ UQ oQ UR => ∃ vQ LQ, oQ = .returned vQ ∧ Q_rmU4_10 Z b_ i n q_ w0_ w1_ c0 h0 n0 vQ UR.heap LQ ∧ FrameEnd UQ oQ UR LQ ({ frames := 1, cells := 0, slots := 0, locals := 13 } : Room).cells ({ frames := 1, cells := 0, slots := 0, locals := 13 } : Room).slots) := by
  refine MetFree.of_bodySF (plainFor_of_name pn_26) hisR ?_
  intro p e s m args below meth c s₁ Bd hml0 hP hK
  obtain ⟨rfl, hZ, hh⟩ := hP
  have hx := Bd.exec
  have hby := Bd.bytes
  have hlk := Bd.notSynchronized
  have hml : c.maxLocals = 6 := hml0
  have hown : s.vm.findClass cU6 = some m.cls := findClass_of_methodNamed Bd.named
  have hnm := (name_of_methodNamed Bd.named Bd.method).1
  have X0 : Stand p l e ({ frames := 1, cells := 0, slots := 0, locals := 13 } : Room) s m #[(.ref b_), (.int i), (.int n), (.int q_)] below meth c s₁ [] 0 0 := Stand.of_body Bd
  have e0 : s₁.heap = h0 := by rw [← hh, Bd.state]; rfl
  have N0 := Fr.nil n0
  show Go p e below _ (Done s (Q_rmU4_10 Z b_ i n q_ w0_ w1_ c0 h0 n0) ({ frames := 1, cells := 0, slots := 0, locals := 13 } : Room).cells ({ frames := 1, cells := 0, slots := 0, locals := 13 } : Room).slots)
  refine Go.via (fun tQ kQ => castTop (ef_26 m b_ i n q_) kQ) ?_
  show Go p e below (s₁.setTop (mkF m 0 #[vr b_, vi i, vi n, vi q_, .unset, .unset] [])) _
  · subst hi hn hq
    show Go p e below (s₁.setTop (mkF m 0 #[vr b_, vi (0 : Int32), vi (1 : Int32), vi (0 : Int32), .unset, .unset] [])) _
    have f601 : Sta Z h0 cU6 "$assertionsDisabled" "Z" (.int (1 : Int32)) := zAD.ext P1.2
    obtain ⟨T602, X602, e602, st602⟩ := getS2 X0 hx hZ hown (host := "") (Or.inl (tw hw 84 rfl)) Via.refl e0 f601 (g := (mkF m 0 #[vr b_, vi (0 : Int32), vi (1 : Int32), vi (0 : Int32), .unset, .unset] [])) rfl (hb hby d26_0)
    refine Go.via (st602) ?_
    clear st602
    clear X0 e0
    show Go p e below (T602.setTop (mkF m 3 #[vr b_, vi (0 : Int32), vi (1 : Int32), vi (0 : Int32), .unset, .unset] [(.int (1 : Int32))])) _
    refine Go.via (fun _ => XS.ifYes X602.here hx rfl (pc0 := 3) (pc' := 19) rfl (hb hby d26_3) rfl ((if0 _ _).trans (feq ((by decide) : ¬ ((1 : Int32) = (0 : Int32)))).2) (by decide) (by decide)) ?_
    refine Go.via (fun _ => XS.iloadN X602.here hx rfl (hb hby d26_19) rfl) ?_
    refine Go.via (fun _ => XS.ifYes X602.here hx rfl (pc0 := 20) (pc' := 28) rfl (hb hby d26_20) rfl ((if0 _ _).trans (teq ((by decide) : (0 : Int32) = (0 : Int32))).1) (by decide) (by decide)) ?_
    refine Go.via (fun _ => XS.aloadN X602.here hx rfl (hb hby d26_28) rfl rfl) ?_
    refine Go.via (fun _ => XS.iloadN X602.here hx rfl (hb hby d26_29) rfl) ?_
    obtain ⟨r603, _, ⟨T603, L603, k603, n603⟩, -, X603, ⟨Lc603, hQ603, l603, y603, z603⟩, st603⟩ := Jvm.LawKit.callS X602 hx (y := (⟨cU6, "getChar", "([BI)C"⟩ : MethodName)) hown (mvT hZ (tw hw 87 rfl)) (mvT hZ (tw hw 88 rfl)) (mvT hZ (tw hw 66 rfl)) (mvT hZ (tw hw 89 rfl)) (by decide) (backOf (W := 0) (rmGe10 l Z a0 hw [] b_ (0 : Int32) w0_ w1_ c0 h0 n0 Z0 P0 P1 zAD zHI zLO rfl hg0) hZ (tw hw 89 rfl) (tw hw 66 rfl) (by decide) (by decide)) (g := (mkF m 30 #[vr b_, vi (0 : Int32), vi (1 : Int32), vi (0 : Int32), .unset, .unset] [(.int (0 : Int32)), (.ref b_)])) rfl (by rw [hml]; rfl) (argsL := [(.ref b_), (.int (0 : Int32))]) (rest := []) (lenOf pd__28_5bBI_29C rfl) rfl (by show 2 * 0 + _ ≤ _; exact Nat.le_of_eq rfl) (hb hby d26_30) (fun _ _ => ⟨rfl, e602, (by decide : 0 + 0 ≤ _), (by decide : 0 + 0 ≤ _)⟩)
    dsimp only [Pt.U, Pt.locs, Pt.cells, Pt.slots] at X603 l603 y603 z603 st603 hQ603
    rw [l603, y603, z603] at X603
    obtain ⟨hr603, N603q, eh603⟩ := hQ603
    rw [hr603] at st603
    rw [N603q, List.append_nil] at X603
    refine Go.via (st603) ?_
    clear st603
    have e603 : T603.heap = h0 := eh603
    clear X602 e602
    show Go p e below (T603.setTop (mkF m 33 #[vr b_, vi (0 : Int32), vi (1 : Int32), vi (0 : Int32), .unset, .unset] [(.int c0)])) _
    refine Go.via (fun _ => XS.istore X603.here hx rfl (hb hby d26_33) rfl (l' := #[vr b_, vi (0 : Int32), vi (1 : Int32), vi (0 : Int32), vi c0, .unset]) rfl) ?_
    refine Go.via (fun _ => XS.iload X603.here hx rfl (hb hby d26_35) rfl) ?_
    obtain ⟨r604, _, ⟨T604, L604, k604, n604⟩, -, X604, ⟨Lc604, hQ604, l604, y604, z604⟩, st604⟩ := Jvm.LawKit.callS X603 hx (y := (⟨"java/lang/Character", "isHighSurrogate", "(C)Z"⟩ : MethodName)) hown (mvT hZ (tw hw 121 rfl)) (mvT hZ (tw hw 122 rfl)) (mvT hZ (tw hw 123 rfl)) (mvT hZ (tw hw 124 rfl)) (by decide) (backOf (W := 0) (rmHs l Z a0 hw [] c0  h0 n0 Z0) hZ (tw hw 124 rfl) (tw hw 123 rfl) (by decide) (by decide)) (g := (mkF m 37 #[vr b_, vi (0 : Int32), vi (1 : Int32), vi (0 : Int32), vi c0, .unset] [(.int c0)])) rfl (by rw [hml]; rfl) (argsL := [(.int c0)]) (rest := []) (lenOf pd__28C_29Z rfl) rfl (by show 2 * 0 + _ ≤ _; exact Nat.le_of_eq rfl) (hb hby d26_37) (fun _ _ => ⟨rfl, e603, (by decide : 0 + 0 ≤ _), (by decide : 0 + 0 ≤ _)⟩)
    dsimp only [Pt.U, Pt.locs, Pt.cells, Pt.slots] at X604 l604 y604 z604 st604 hQ604
    rw [l604, y604, z604] at X604
    obtain ⟨hr604, N604q, eh604⟩ := hQ604
    rw [hr604] at st604
    rw [N604q, List.append_nil] at X604
    refine Go.via (st604) ?_
    clear st604
    have e604 : T604.heap = h0 := eh604
    clear X603 e603
    show Go p e below (T604.setTop (mkF m 40 #[vr b_, vi (0 : Int32), vi (1 : Int32), vi (0 : Int32), vi c0, .unset] [(.int (ihF c0))])) _
    by_cases hc605 : (ihF c0) = (0 : Int32)
    · refine Go.via (fun _ => XS.ifYes X604.here hx rfl (pc0 := 40) (pc' := 83) rfl (hb hby d26_40) rfl ((if0 _ _).trans (teq (hc605 : (ihF c0) = (0 : Int32))).1) (by decide) (by decide)) ?_
      show Go p e below (T604.setTop (mkF m 83 #[vr b_, vi (0 : Int32), vi (1 : Int32), vi (0 : Int32), vi c0, .unset] [])) _
      refine Go.via (fun _ => XS.iload X604.here hx rfl (hb hby d26_83) rfl) ?_
      exact Go.fin X604 hlk (v := some (.int c0)) (fun h => by rw [Bd.returns] at h; cases h) (fun fs hr => OwnKit.retI X604 hx Bd.returns (hb hby d26_85) hr) (by rw [e604]; exact ⟨rfl, rfl, rfl⟩) (by decide) (by decide)
    · refine Go.via (fun _ => XS.ifNo X604.here hx rfl (hb hby d26_40) rfl ((if0 _ _).trans (feq (hc605 : ¬ ((ihF c0) = (0 : Int32)))).1)) ?_
      show Go p e below (T604.setTop (mkF m 43 #[vr b_, vi (0 : Int32), vi (1 : Int32), vi (0 : Int32), vi c0, .unset] [])) _
      refine Go.via (fun _ => XS.iinc X604.here hx rfl (hb hby d26_43) rfl (l' := #[vr b_, vi (1 : Int32), vi (1 : Int32), vi (0 : Int32), vi c0, .unset]) rfl) ?_
      refine Go.via (fun _ => XS.iloadN X604.here hx rfl (hb hby d26_46) rfl) ?_
      refine Go.via (fun _ => XS.iloadN X604.here hx rfl (hb hby d26_47) rfl) ?_
      refine Go.via (fun _ => XS.icmpYes X604.here hx rfl (pc0 := 48) (pc' := 83) rfl (hb hby d26_48) rfl (flt ((by decide) : ¬ ((1 : Int32) < (1 : Int32)))).2.1 (by decide) (by decide)) ?_
      refine Go.via (fun _ => XS.iload X604.here hx rfl (hb hby d26_83) rfl) ?_
      exact Go.fin X604 hlk (v := some (.int c0)) (fun h => by rw [Bd.returns] at h; cases h) (fun fs hr => OwnKit.retI X604 hx Bd.returns (hb hby d26_85) hr) (by rw [e604]; exact ⟨rfl, rfl, rfl⟩) (by decide) (by decide)
theorem d25_0 : decode jdk_52_method_8_code 0 = .ok (.aload_n 0, 1) := by decide +kernel
theorem d25_1 : decode jdk_52_method_8_code 1 = .ok (.iload_n 1, 1) := by decide +kernel
theorem d25_2 : decode jdk_52_method_8_code 2 = .ok (.iload_n 2, 1) := by decide +kernel
theorem d25_3 : decode jdk_52_method_8_code 3 = .ok (.iconst 0, 1) := by decide +kernel
theorem d25_4 : decode jdk_52_method_8_code 4 = .ok (.invokestatic 88, 3) := by decide +kernel
theorem pd__28_5bBIIZ_29I : parseMethodDescriptor "([BIIZ)I" = some ⟨[(.array .byte), .int, .int, .boolean], some .int⟩ := by decide +kernel
theorem d25_7 : decode jdk_52_method_8_code 7 = .ok (.ireturn, 1) := by decide +kernel
theorem pn_25 : plainName cU6 = true := by first | (simp [plainName, overriddenIn]; done) | decide +kernel
theorem ef_25 (m : MethodId) (x0 : Addr) (x1 : Int32) (x2 : Int32) : entryFrame m #[(.ref x0), (.int x1), (.int x2)] 3 = mkF m 0 #[.val (.ref x0), .val (.int x1), .val (.int x2)] [] := by first | (simp [entryFrame, mkF, argsToLocals, Value.category]; done) | rfl
def Q_rmU3_10 (Z : State) (b_ : Addr) (i : Int32) (n : Int32) (w0_ : Int32) (w1_ : Int32) (c0 : Int32) (h0 : Heap) (n0 : Nat) (vQ : Option Value) (hQ : Heap) (LQ : List Loc) : Prop := vQ = some (.int c0) ∧ LQ = [] ∧ hQ = h0
set_option maxRecDepth 65536 in
set_option maxHeartbeats 40000000 in
theorem rmU3_10 (l : Launch) (Z : State) (a0 : Array Value) (hw : ∀ d ∈ tables_1, d.before a0 Z = true) (ws : List Jvm.Cond) (b_ : Addr) (i : Int32) (n : Int32) (w0_ : Int32) (w1_ : Int32) (c0 : Int32) (h0 : Heap) (n0 : Nat) (Z0 : n0 ≤ h0.size) (P0 : Ia Z h0 b_ .byte [w0_, w1_]) (P1 : Old Z n0 h0) (zAD : Sta Z Z.heap cU6 "$assertionsDisabled" "Z" (.int (1 : Int32))) (zHI : Sta Z Z.heap cU6 "HI_BYTE_SHIFT" "I" (.int (0 : Int32))) (zLO : Sta Z Z.heap cU6 "LO_BYTE_SHIFT" "I" (.int (8 : Int32))) (hi : i = 0) (hn : n = 1) (hg0 : (gcF w0_ w1_) = c0) :
    MetFree l (⟨cU6, "codePointAt", "([BII)I"⟩ : MethodName) (head1 (Jvm.Cond.code (⟨cU6, "codePointAt", "([BII)I"⟩ : MethodName) jdk_52_method_8_code 3 (some .int) :: ws) ({ frames := 2, cells := 0, slots := 0, locals := 30 } : Room)) (fun aQ UQ => aQ = #[(.ref b_), (.int i), (.int n)] ∧ Z.Warmed39 UQ.vm ∧ UQ.heap = h0) (fun _ _ _ _ _ => True) (fun _ UQ oQ UR => ∃ vQ LQ, oQ = .returned vQ ∧ Q_rmU3_10 Z b_ i n w0_ w1_ c0 h0 n0 vQ UR.heap LQ ∧ FrameEnd UQ oQ UR LQ ({ frames := 2, cells := 0, slots := 0, locals := 30 } : Room).cells ({ frames := 2, cells := 0, slots := 0, locals := 30 } : Room).slots) := by
  refine MetFree.of_bodySF (plainFor_of_name pn_25) hisR ?_
  intro p e s m args below meth c s₁ Bd hml0 hP hK
  obtain ⟨rfl, hZ, hh⟩ := hP
  have hx := Bd.exec
  have hby := Bd.bytes
  have hlk := Bd.notSynchronized
  have hml : c.maxLocals = 3 := hml0
  have hown : s.vm.findClass cU6 = some m.cls := findClass_of_methodNamed Bd.named
  have hnm := (name_of_methodNamed Bd.named Bd.method).1
  have X0 : Stand p l e ({ frames := 2, cells := 0, slots := 0, locals := 30 } : Room) s m #[(.ref b_), (.int i), (.int n)] below meth c s₁ [] 0 0 := Stand.of_body Bd
  have e0 : s₁.heap = h0 := by rw [← hh, Bd.state]; rfl
  have N0 := Fr.nil n0
  show Go p e below _ (Done s (Q_rmU3_10 Z b_ i n w0_ w1_ c0 h0 n0) ({ frames := 2, cells := 0, slots := 0, locals := 30 } : Room).cells ({ frames := 2, cells := 0, slots := 0, locals := 30 } : Room).slots)
  refine Go.via (fun tQ kQ => castTop (ef_25 m b_ i n) kQ) ?_
  show Go p e below (s₁.setTop (mkF m 0 #[vr b_, vi i, vi n] [])) _
  · subst hi hn
    show Go p e below (s₁.setTop (mkF m 0 #[vr b_, vi (0 : Int32), vi (1 : Int32)] [])) _
    refine Go.via (fun _ => XS.aloadN X0.here hx rfl (hb hby d25_0) rfl rfl) ?_
    refine Go.via (fun _ => XS.iloadN X0.here hx rfl (hb hby d25_1) rfl) ?_
    refine Go.via (fun _ => XS.iloadN X0.here hx rfl (hb hby d25_2) rfl) ?_
    refine Go.via (fun _ => XS.iconst X0.here hx rfl (hb hby d25_3)) ?_
    obtain ⟨r606, _, ⟨T606, L606, k606, n606⟩, -, X606, ⟨Lc606, hQ606, l606, y606, z606⟩, st606⟩ := Jvm.LawKit.callS X0 hx (y := (⟨cU6, "codePointAt", "([BIIZ)I"⟩ : MethodName)) hown (mvT hZ (tw hw 118 rfl)) (mvT hZ (tw hw 119 rfl)) (mvT hZ (tw hw 66 rfl)) (mvT hZ (tw hw 120 rfl)) (by decide) (backOf (W := 0) (rmU4_10 l Z a0 hw [] b_ (0 : Int32) (1 : Int32) (0 : Int32) w0_ w1_ c0 h0 n0 Z0 P0 P1 zAD zHI zLO rfl rfl rfl hg0) hZ (tw hw 120 rfl) (tw hw 66 rfl) (by decide) (by decide)) (g := (mkF m 4 #[vr b_, vi (0 : Int32), vi (1 : Int32)] [(.int (0 : Int32)), (.int (1 : Int32)), (.int (0 : Int32)), (.ref b_)])) rfl (by rw [hml]; rfl) (argsL := [(.ref b_), (.int (0 : Int32)), (.int (1 : Int32)), (.int (0 : Int32))]) (rest := []) (lenOf pd__28_5bBIIZ_29I rfl) rfl (by show 2 * 0 + _ ≤ _; exact Nat.le_of_eq rfl) (hb hby d25_4) (fun _ _ => ⟨rfl, e0, (by decide : 0 + 0 ≤ _), (by decide : 0 + 0 ≤ _)⟩)
    dsimp only [Pt.U, Pt.locs, Pt.cells, Pt.slots] at X606 l606 y606 z606 st606 hQ606
    rw [l606, y606, z606] at X606
    obtain ⟨hr606, N606q, eh606⟩ := hQ606
    rw [hr606] at st606
    rw [N606q, List.append_nil] at X606
    refine Go.via (st606) ?_
    clear st606
    have e606 : T606.heap = h0 := eh606
    clear X0 e0
    show Go p e below (T606.setTop (mkF m 7 #[vr b_, vi (0 : Int32), vi (1 : Int32)] [(.int c0)])) _
    exact Go.fin X606 hlk (v := some (.int c0)) (fun h => by rw [Bd.returns] at h; cases h) (fun fs hr => OwnKit.retI X606 hx Bd.returns (hb hby d25_7) hr) (by rw [e606]; exact ⟨rfl, rfl, rfl⟩) (by decide) (by decide)
theorem d21_0 : decode jdk_42_method_57_code 0 = .ok (.aload_n 0, 1) := by decide +kernel
theorem d21_1 : decode jdk_42_method_57_code 1 = .ok (.invokevirtual 492, 3) := by decide +kernel
theorem pd__28_29Z : parseMethodDescriptor "()Z" = some ⟨[], some .boolean⟩ := by decide +kernel
theorem d21_4 : decode jdk_42_method_57_code 4 = .ok (.ifCond .eq 23, 3) := by decide +kernel
theorem d21_7 : decode jdk_42_method_57_code 7 = .ok (.iload_n 1, 1) := by decide +kernel
theorem d21_8 : decode jdk_42_method_57_code 8 = .ok (.aload_n 0, 1) := by decide +kernel
theorem d21_9 : decode jdk_42_method_57_code 9 = .ok (.getfield 9, 3) := by decide +kernel
theorem d21_12 : decode jdk_42_method_57_code 12 = .ok (.arraylength, 1) := by decide +kernel
theorem d21_13 : decode jdk_42_method_57_code 13 = .ok (.invokestatic 499, 3) := by decide +kernel
theorem pd__28II_29V : parseMethodDescriptor "(II)V" = some ⟨[.int, .int], none⟩ := by decide +kernel
theorem d21_16 : decode jdk_42_method_57_code 16 = .ok (.aload_n 0, 1) := by decide +kernel
theorem d21_17 : decode jdk_42_method_57_code 17 = .ok (.getfield 9, 3) := by decide +kernel
theorem d21_20 : decode jdk_42_method_57_code 20 = .ok (.iload_n 1, 1) := by decide +kernel
theorem d21_21 : decode jdk_42_method_57_code 21 = .ok (.baload, 1) := by decide +kernel
theorem d21_22 : decode jdk_42_method_57_code 22 = .ok (.sipush 255, 3) := by decide +kernel
theorem d21_25 : decode jdk_42_method_57_code 25 = .ok (.iand, 1) := by decide +kernel
theorem d21_26 : decode jdk_42_method_57_code 26 = .ok (.ireturn, 1) := by decide +kernel
theorem d21_27 : decode jdk_42_method_57_code 27 = .ok (.aload_n 0, 1) := by decide +kernel
theorem d21_28 : decode jdk_42_method_57_code 28 = .ok (.getfield 9, 3) := by decide +kernel
theorem d21_31 : decode jdk_42_method_57_code 31 = .ok (.arraylength, 1) := by decide +kernel
theorem d21_32 : decode jdk_42_method_57_code 32 = .ok (.iconst 1, 1) := by decide +kernel
theorem d21_33 : decode jdk_42_method_57_code 33 = .ok (.ishr, 1) := by decide +kernel
theorem d21_34 : decode jdk_42_method_57_code 34 = .ok (.istore_n 2, 1) := by decide +kernel
theorem d21_35 : decode jdk_42_method_57_code 35 = .ok (.iload_n 1, 1) := by decide +kernel
theorem d21_36 : decode jdk_42_method_57_code 36 = .ok (.iload_n 2, 1) := by decide +kernel
theorem d21_37 : decode jdk_42_method_57_code 37 = .ok (.invokestatic 499, 3) := by decide +kernel
theorem d21_40 : decode jdk_42_method_57_code 40 = .ok (.aload_n 0, 1) := by decide +kernel
theorem d21_41 : decode jdk_42_method_57_code 41 = .ok (.getfield 9, 3) := by decide +kernel
theorem d21_44 : decode jdk_42_method_57_code 44 = .ok (.iload_n 1, 1) := by decide +kernel
theorem d21_45 : decode jdk_42_method_57_code 45 = .ok (.iload_n 2, 1) := by decide +kernel
theorem d21_46 : decode jdk_42_method_57_code 46 = .ok (.invokestatic 502, 3) := by decide +kernel
theorem pd__28_5bBII_29I : parseMethodDescriptor "([BII)I" = some ⟨[(.array .byte), .int, .int], some .int⟩ := by decide +kernel
theorem d21_49 : decode jdk_42_method_57_code 49 = .ok (.ireturn, 1) := by decide +kernel
theorem pn_21 : plainName cST = true := by first | (simp [plainName, overriddenIn]; done) | decide +kernel
theorem ef_21 (m : MethodId) (x0 : Addr) (x1 : Int32) : entryFrame m #[(.ref x0), (.int x1)] 3 = mkF m 0 #[.val (.ref x0), .val (.int x1), .unset] [] := by first | (simp [entryFrame, mkF, argsToLocals, Value.category]; done) | rfl
def Q_rmSc_10 (Z : State) (a : Addr) (i : Int32) (cs : Int32) (fv : Value) (b_ : Addr) (co : Int32) (ys : List Int32) (y0 : Int32) (h0 : Heap) (n0 : Nat) (vQ : Option Value) (hQ : Heap) (LQ : List Loc) : Prop := vQ = some (.int y0) ∧ LQ = [] ∧ hQ = h0
set_option maxRecDepth 65536 in
set_option maxHeartbeats 40000000 in
theorem rmSc_10 (l : Launch) (Z : State) (a0 : Array Value) (hw : ∀ d ∈ tables_1, d.before a0 Z = true) (ws : List Jvm.Cond) (a : Addr) (i : Int32) (cs : Int32) (fv : Value) (b_ : Addr) (co : Int32) (ys : List Int32) (y0 : Int32) (h0 : Heap) (n0 : Nat) (Z0 : n0 ≤ h0.size) (P0 : Exa Z h0 a cST) (P1 : Fld Z h0 a cST "coder" "B" (.int co)) (P2 : Fld Z h0 a cST "value" "[B" (.ref b_)) (P3 : Ia Z h0 b_ .byte ys) (P4 : Old Z n0 h0) (zCS : Sta Z Z.heap cST "COMPACT_STRINGS" "Z" (.int cs)) (zF : Sta Z Z.heap cPR "SIOOBE_FORMATTER" "Ljava/util/function/BiFunction;" fv) (zAD : Sta Z Z.heap cU6 "$assertionsDisabled" "Z" (.int (1 : Int32))) (zHI : Sta Z Z.heap cU6 "HI_BYTE_SHIFT" "I" (.int (0 : Int32))) (zLO : Sta Z Z.heap cU6 "LO_BYTE_SHIFT" "I" (.int (8 : Int32))) (hcs : ¬ (cs = (0 : Int32))) (hfv : fv = .null ∨ ∃ fa : Addr, fv = .ref fa) (hi : i = 0) (hR : Rep [y0] co ys) :
    MetFree l (⟨cST, "codePointAt", "(I)I"⟩ : MethodName) (head1 (Jvm.Cond.code (⟨cST, "codePointAt", "(I)I"⟩ : MethodName) jdk_42_method_57_code 3 (some .int) :: ws) ({ frames := 3, cells := 0, slots := 0, locals := 44 } : Room)) (fun aQ UQ => aQ = #[(.ref a), (.int i)] ∧ Z.Warmed39 UQ.vm ∧ UQ.heap = h0) (fun _ _ _ _ _ => True) (fun _ UQ oQ UR => ∃ vQ LQ, oQ = .returned vQ ∧ Q_rmSc_10 Z a i cs fv b_ co ys y0 h0 n0 vQ UR.heap LQ ∧ FrameEnd UQ oQ UR LQ ({ frames := 3, cells := 0, slots := 0, locals := 44 } : Room).cells ({ frames := 3, cells := 0, slots := 0, locals := 44 } : Room).slots) := by
  refine MetFree.of_bodySF (plainFor_of_name pn_21) hisR ?_
  intro p e s m args below meth c s₁ Bd hml0 hP hK
  obtain ⟨rfl, hZ, hh⟩ := hP
  have hx := Bd.exec
  have hby := Bd.bytes
  have hlk := Bd.notSynchronized
  have hml : c.maxLocals = 3 := hml0
  have hown : s.vm.findClass cST = some m.cls := findClass_of_methodNamed Bd.named
  have hnm := (name_of_methodNamed Bd.named Bd.method).1
  have X0 : Stand p l e ({ frames := 3, cells := 0, slots := 0, locals := 44 } : Room) s m #[(.ref a), (.int i)] below meth c s₁ [] 0 0 := Stand.of_body Bd
  have e0 : s₁.heap = h0 := by rw [← hh, Bd.state]; rfl
  have N0 := Fr.nil n0
  show Go p e below _ (Done s (Q_rmSc_10 Z a i cs fv b_ co ys y0 h0 n0) ({ frames := 3, cells := 0, slots := 0, locals := 44 } : Room).cells ({ frames := 3, cells := 0, slots := 0, locals := 44 } : Room).slots)
  refine Go.via (fun tQ kQ => castTop (ef_21 m a i) kQ) ?_
  show Go p e below (s₁.setTop (mkF m 0 #[vr a, vi i, .unset] [])) _
  rcases own_rep1 hR with ⟨rfl, rfl, hc0, hl0⟩ | ⟨rfl, rfl, hc0⟩
  · subst hi
    show Go p e below (s₁.setTop (mkF m 0 #[vr a, vi (0 : Int32), .unset] [])) _
    refine Go.via (fun _ => XS.aloadN X0.here hx rfl (hb hby d21_0) rfl rfl) ?_
    obtain ⟨cq607, kq607, q607a, q607b, q607c⟩ := isOf hZ e0 P0
    obtain ⟨r607, _, ⟨T607, L607, k607, n607⟩, -, X607, ⟨Lc607, hQ607, l607, y607, z607⟩, st607⟩ := X0.virtualBack hx (y := (⟨cST, "isLatin1", "()Z"⟩ : MethodName)) (z := (⟨cST, "isLatin1", "()Z"⟩ : MethodName)) hown (mvT hZ (tw hw 102 rfl)) (mvT hZ (tw hw 103 rfl)) (notFace_of_selects (args := #[]) (mvT hZ (tw hw 105 rfl))) (mvT hZ (tw hw 105 rfl)) (mvT hZ (tw hw 104 rfl)) (by decide) (backOf (W := 0) (rmIL0 l Z a0 hw [] a cs h0 n0 Z0 P1 P4 zCS hcs) hZ (tw hw 106 rfl) (tw hw 14 rfl) (by decide) (by decide)) q607a q607c (g := (mkF m 1 #[vr a, vi (0 : Int32), .unset] [(.ref a)])) rfl (by rw [hml]; rfl) (Steps.refl _) (argsL := []) (rest := []) (lenOf pd__28_29Z rfl) rfl (by show 2 * 0 + _ ≤ _; exact Nat.le_of_eq rfl) (hb hby d21_1) (fun _ _ => ⟨rfl, e0, (by decide : 0 + 0 ≤ _), (by decide : 0 + 0 ≤ _)⟩)
    dsimp only [Pt.U, Pt.locs, Pt.cells, Pt.slots] at X607 l607 y607 z607 st607 hQ607
    rw [l607, y607, z607] at X607
    obtain ⟨hr607, N607q, eh607⟩ := hQ607
    rw [hr607] at st607
    rw [N607q, List.append_nil] at X607
    refine Go.via (fun _ kQ => st607.trans kQ) ?_
    clear st607
    have e607 : T607.heap = h0 := eh607
    clear X0 e0
    show Go p e below (T607.setTop (mkF m 4 #[vr a, vi (0 : Int32), .unset] [(.int (1 : Int32))])) _
    refine Go.via (fun _ => XS.ifNo X607.here hx rfl (hb hby d21_4) rfl ((if0 _ _).trans (feq ((by decide) : ¬ ((1 : Int32) = (0 : Int32)))).1)) ?_
    refine Go.via (fun _ => XS.iloadN X607.here hx rfl (hb hby d21_7) rfl) ?_
    refine Go.via (fun _ => XS.aloadN X607.here hx rfl (hb hby d21_8) rfl rfl) ?_
    obtain ⟨T608, X608, e608, st608⟩ := getF X607 hx hZ hown (host := "") (Or.inl (tw hw 32 rfl)) Via.refl e607 P2 (g := (mkF m 9 #[vr a, vi (0 : Int32), .unset] [(.ref a), (.int (0 : Int32))])) rfl rfl (hb hby d21_9)
    refine Go.via (st608) ?_
    clear st608
    clear X607 e607
    show Go p e below (T608.setTop (mkF m 12 #[vr a, vi (0 : Int32), .unset] [(.ref b_), (.int (0 : Int32))])) _
    refine Go.via (lenI X608 hx hZ e608 P3 (n := (1 : Int32)) rfl (g := (mkF m 12 #[vr a, vi (0 : Int32), .unset] [(.ref b_), (.int (0 : Int32))])) rfl rfl (hb hby d21_12)) ?_
    show Go p e below (T608.setTop (mkF m 13 #[vr a, vi (0 : Int32), .unset] [(.int (1 : Int32)), (.int (0 : Int32))])) _
    obtain ⟨r609, _, ⟨T609, L609, k609, n609⟩, -, X609, ⟨Lc609, hQ609, l609, y609, z609⟩, st609⟩ := Jvm.LawKit.callS X608 hx (y := (⟨cST, "checkIndex", "(II)V"⟩ : MethodName)) hown (mvT hZ (tw hw 107 rfl)) (mvT hZ (tw hw 108 rfl)) (mvT hZ (tw hw 14 rfl)) (mvT hZ (tw hw 109 rfl)) (by decide) (backOf (W := 0) (rmCx l Z a0 hw [] (0 : Int32) (1 : Int32) fv h0 n0 Z0 P4 zF (by first | decide | (simp only [List.length_cons, List.length_nil]; decide) | rfl) (by first | decide | (simp only [List.length_cons, List.length_nil]; decide) | rfl) hfv) hZ (tw hw 109 rfl) (tw hw 14 rfl) (by decide) (by decide)) (g := (mkF m 13 #[vr a, vi (0 : Int32), .unset] [(.int (1 : Int32)), (.int (0 : Int32))])) rfl (by rw [hml]; rfl) (argsL := [(.int (0 : Int32)), (.int (1 : Int32))]) (rest := []) (lenOf pd__28II_29V rfl) rfl (by show 2 * 0 + _ ≤ _; exact Nat.le_of_eq rfl) (hb hby d21_13) (fun _ _ => ⟨rfl, e608, (by decide : 0 + 0 ≤ _), (by decide : 0 + 0 ≤ _)⟩)
    dsimp only [Pt.U, Pt.locs, Pt.cells, Pt.slots] at X609 l609 y609 z609 st609 hQ609
    rw [l609, y609, z609] at X609
    obtain ⟨hr609, N609q, eh609⟩ := hQ609
    rw [hr609] at st609
    rw [N609q, List.append_nil] at X609
    refine Go.via (st609) ?_
    clear st609
    have e609 : T609.heap = h0 := eh609
    clear X608 e608
    show Go p e below (T609.setTop (mkF m 16 #[vr a, vi (0 : Int32), .unset] [])) _
    refine Go.via (fun _ => XS.aloadN X609.here hx rfl (hb hby d21_16) rfl rfl) ?_
    obtain ⟨T610, X610, e610, st610⟩ := getF X609 hx hZ hown (host := "") (Or.inl (tw hw 32 rfl)) Via.refl e609 P2 (g := (mkF m 17 #[vr a, vi (0 : Int32), .unset] [(.ref a)])) rfl rfl (hb hby d21_17)
    refine Go.via (st610) ?_
    clear st610
    clear X609 e609
    show Go p e below (T610.setTop (mkF m 20 #[vr a, vi (0 : Int32), .unset] [(.ref b_)])) _
    refine Go.via (fun _ => XS.iloadN X610.here hx rfl (hb hby d21_20) rfl) ?_
    refine Go.via (ldB X610 hx hZ e610 P3 (v := (lbF y0)) (by decide) rfl (g := (mkF m 21 #[vr a, vi (0 : Int32), .unset] [(.int (0 : Int32)), (.ref b_)])) rfl rfl (hb hby d21_21)) ?_
    show Go p e below (T610.setTop (mkF m 22 #[vr a, vi (0 : Int32), .unset] [(.int (lbF y0))])) _
    refine Go.via (fun _ => XS.sipush X610.here hx rfl (hb hby d21_22)) ?_
    refine Go.via (fun _ => XS.iand X610.here hx rfl (hb hby d21_25) rfl) ?_
    exact Go.fin X610 hlk (v := some (.int ((lbF y0) &&& (255 : Int32)))) (fun h => by rw [Bd.returns] at h; cases h) (fun fs hr => OwnKit.retI X610 hx Bd.returns (hb hby d21_26) hr) (by rw [e610]; exact ⟨(congrArg (fun qq => some (Value.int qq)) (own_lb hc0 hl0)), rfl, rfl⟩) (by decide) (by decide)
  · subst hi
    show Go p e below (s₁.setTop (mkF m 0 #[vr a, vi (0 : Int32), .unset] [])) _
    refine Go.via (fun _ => XS.aloadN X0.here hx rfl (hb hby d21_0) rfl rfl) ?_
    obtain ⟨cq611, kq611, q611a, q611b, q611c⟩ := isOf hZ e0 P0
    obtain ⟨r611, _, ⟨T611, L611, k611, n611⟩, -, X611, ⟨Lc611, hQ611, l611, y611, z611⟩, st611⟩ := X0.virtualBack hx (y := (⟨cST, "isLatin1", "()Z"⟩ : MethodName)) (z := (⟨cST, "isLatin1", "()Z"⟩ : MethodName)) hown (mvT hZ (tw hw 102 rfl)) (mvT hZ (tw hw 103 rfl)) (notFace_of_selects (args := #[]) (mvT hZ (tw hw 105 rfl))) (mvT hZ (tw hw 105 rfl)) (mvT hZ (tw hw 104 rfl)) (by decide) (backOf (W := 0) (rmIL1 l Z a0 hw [] a cs h0 n0 Z0 P1 P4 zCS hcs) hZ (tw hw 106 rfl) (tw hw 14 rfl) (by decide) (by decide)) q611a q611c (g := (mkF m 1 #[vr a, vi (0 : Int32), .unset] [(.ref a)])) rfl (by rw [hml]; rfl) (Steps.refl _) (argsL := []) (rest := []) (lenOf pd__28_29Z rfl) rfl (by show 2 * 0 + _ ≤ _; exact Nat.le_of_eq rfl) (hb hby d21_1) (fun _ _ => ⟨rfl, e0, (by decide : 0 + 0 ≤ _), (by decide : 0 + 0 ≤ _)⟩)
    dsimp only [Pt.U, Pt.locs, Pt.cells, Pt.slots] at X611 l611 y611 z611 st611 hQ611
    rw [l611, y611, z611] at X611
    obtain ⟨hr611, N611q, eh611⟩ := hQ611
    rw [hr611] at st611
    rw [N611q, List.append_nil] at X611
    refine Go.via (fun _ kQ => st611.trans kQ) ?_
    clear st611
    have e611 : T611.heap = h0 := eh611
    clear X0 e0
    show Go p e below (T611.setTop (mkF m 4 #[vr a, vi (0 : Int32), .unset] [(.int (0 : Int32))])) _
    refine Go.via (fun _ => XS.ifYes X611.here hx rfl (pc0 := 4) (pc' := 27) rfl (hb hby d21_4) rfl ((if0 _ _).trans (teq ((by decide) : (0 : Int32) = (0 : Int32))).1) (by decide) (by decide)) ?_
    refine Go.via (fun _ => XS.aloadN X611.here hx rfl (hb hby d21_27) rfl rfl) ?_
    obtain ⟨T612, X612, e612, st612⟩ := getF X611 hx hZ hown (host := "") (Or.inl (tw hw 32 rfl)) Via.refl e611 P2 (g := (mkF m 28 #[vr a, vi (0 : Int32), .unset] [(.ref a)])) rfl rfl (hb hby d21_28)
    refine Go.via (st612) ?_
    clear st612
    clear X611 e611
    show Go p e below (T612.setTop (mkF m 31 #[vr a, vi (0 : Int32), .unset] [(.ref b_)])) _
    refine Go.via (lenI X612 hx hZ e612 P3 (n := (2 : Int32)) rfl (g := (mkF m 31 #[vr a, vi (0 : Int32), .unset] [(.ref b_)])) rfl rfl (hb hby d21_31)) ?_
    show Go p e below (T612.setTop (mkF m 32 #[vr a, vi (0 : Int32), .unset] [(.int (2 : Int32))])) _
    refine Go.via (fun _ => XS.iconst X612.here hx rfl (hb hby d21_32)) ?_
    refine Go.via (fun _ => XS.ishr X612.here hx rfl (hb hby d21_33) rfl) ?_
    refine Go.via (fun _ => XS.istoreN X612.here hx rfl (hb hby d21_34) rfl (l' := #[vr a, vi (0 : Int32), vi (1 : Int32)]) rfl) ?_
    refine Go.via (fun _ => XS.iloadN X612.here hx rfl (hb hby d21_35) rfl) ?_
    refine Go.via (fun _ => XS.iloadN X612.here hx rfl (hb hby d21_36) rfl) ?_
    obtain ⟨r613, _, ⟨T613, L613, k613, n613⟩, -, X613, ⟨Lc613, hQ613, l613, y613, z613⟩, st613⟩ := Jvm.LawKit.callS X612 hx (y := (⟨cST, "checkIndex", "(II)V"⟩ : MethodName)) hown (mvT hZ (tw hw 107 rfl)) (mvT hZ (tw hw 108 rfl)) (mvT hZ (tw hw 14 rfl)) (mvT hZ (tw hw 109 rfl)) (by decide) (backOf (W := 0) (rmCx l Z a0 hw [] (0 : Int32) (1 : Int32) fv h0 n0 Z0 P4 zF (by first | decide | (simp only [List.length_cons, List.length_nil]; decide) | rfl) (by first | decide | (simp only [List.length_cons, List.length_nil]; decide) | rfl) hfv) hZ (tw hw 109 rfl) (tw hw 14 rfl) (by decide) (by decide)) (g := (mkF m 37 #[vr a, vi (0 : Int32), vi (1 : Int32)] [(.int (1 : Int32)), (.int (0 : Int32))])) rfl (by rw [hml]; rfl) (argsL := [(.int (0 : Int32)), (.int (1 : Int32))]) (rest := []) (lenOf pd__28II_29V rfl) rfl (by show 2 * 0 + _ ≤ _; exact Nat.le_of_eq rfl) (hb hby d21_37) (fun _ _ => ⟨rfl, e612, (by decide : 0 + 0 ≤ _), (by decide : 0 + 0 ≤ _)⟩)
    dsimp only [Pt.U, Pt.locs, Pt.cells, Pt.slots] at X613 l613 y613 z613 st613 hQ613
    rw [l613, y613, z613] at X613
    obtain ⟨hr613, N613q, eh613⟩ := hQ613
    rw [hr613] at st613
    rw [N613q, List.append_nil] at X613
    refine Go.via (st613) ?_
    clear st613
    have e613 : T613.heap = h0 := eh613
    clear X612 e612
    show Go p e below (T613.setTop (mkF m 40 #[vr a, vi (0 : Int32), vi (1 : Int32)] [])) _
    refine Go.via (fun _ => XS.aloadN X613.here hx rfl (hb hby d21_40) rfl rfl) ?_
    obtain ⟨T614, X614, e614, st614⟩ := getF X613 hx hZ hown (host := "") (Or.inl (tw hw 32 rfl)) Via.refl e613 P2 (g := (mkF m 41 #[vr a, vi (0 : Int32), vi (1 : Int32)] [(.ref a)])) rfl rfl (hb hby d21_41)
    refine Go.via (st614) ?_
    clear st614
    clear X613 e613
    show Go p e below (T614.setTop (mkF m 44 #[vr a, vi (0 : Int32), vi (1 : Int32)] [(.ref b_)])) _
    refine Go.via (fun _ => XS.iloadN X614.here hx rfl (hb hby d21_44) rfl) ?_
    refine Go.via (fun _ => XS.iloadN X614.here hx rfl (hb hby d21_45) rfl) ?_
    obtain ⟨r615, _, ⟨T615, L615, k615, n615⟩, -, X615, ⟨Lc615, hQ615, l615, y615, z615⟩, st615⟩ := Jvm.LawKit.callS X614 hx (y := (⟨cU6, "codePointAt", "([BII)I"⟩ : MethodName)) hown (mvT hZ (tw hw 115 rfl)) (mvT hZ (tw hw 116 rfl)) (mvT hZ (tw hw 66 rfl)) (mvT hZ (tw hw 117 rfl)) (by decide) (backOf (W := 0) (rmU3_10 l Z a0 hw [] b_ (0 : Int32) (1 : Int32) (loF y0) (hiF y0) y0 h0 n0 Z0 P3 P4 zAD zHI zLO rfl rfl (own_gc hc0)) hZ (tw hw 117 rfl) (tw hw 66 rfl) (by decide) (by decide)) (g := (mkF m 46 #[vr a, vi (0 : Int32), vi (1 : Int32)] [(.int (1 : Int32)), (.int (0 : Int32)), (.ref b_)])) rfl (by rw [hml]; rfl) (argsL := [(.ref b_), (.int (0 : Int32)), (.int (1 : Int32))]) (rest := []) (lenOf pd__28_5bBII_29I rfl) rfl (by show 2 * 0 + _ ≤ _; exact Nat.le_of_eq rfl) (hb hby d21_46) (fun _ _ => ⟨rfl, e614, (by decide : 0 + 0 ≤ _), (by decide : 0 + 0 ≤ _)⟩)
    dsimp only [Pt.U, Pt.locs, Pt.cells, Pt.slots] at X615 l615 y615 z615 st615 hQ615
    rw [l615, y615, z615] at X615
    obtain ⟨hr615, N615q, eh615⟩ := hQ615
    rw [hr615] at st615
    rw [N615q, List.append_nil] at X615
    refine Go.via (st615) ?_
    clear st615
    have e615 : T615.heap = h0 := eh615
    clear X614 e614
    show Go p e below (T615.setTop (mkF m 49 #[vr a, vi (0 : Int32), vi (1 : Int32)] [(.int y0)])) _
    exact Go.fin X615 hlk (v := some (.int y0)) (fun h => by rw [Bd.returns] at h; cases h) (fun fs hr => OwnKit.retI X615 hx Bd.returns (hb hby d21_49) hr) (by rw [e615]; exact ⟨rfl, rfl, rfl⟩) (by decide) (by decide)
theorem d26_51 : decode jdk_52_method_7_code 51 = .ok (.iload_n 3, 1) := by decide +kernel
theorem d26_52 : decode jdk_52_method_7_code 52 = .ok (.ifCond .eq 8, 3) := by decide +kernel
theorem d26_60 : decode jdk_52_method_7_code 60 = .ok (.aload_n 0, 1) := by decide +kernel
theorem d26_61 : decode jdk_52_method_7_code 61 = .ok (.iload_n 1, 1) := by decide +kernel
theorem d26_62 : decode jdk_52_method_7_code 62 = .ok (.invokestatic 71, 3) := by decide +kernel
theorem d26_65 : decode jdk_52_method_7_code 65 = .ok (.istore 5, 2) := by decide +kernel
theorem d26_67 : decode jdk_52_method_7_code 67 = .ok (.iload 5, 2) := by decide +kernel
theorem d26_69 : decode jdk_52_method_7_code 69 = .ok (.invokestatic 81, 3) := by decide +kernel
theorem d26_72 : decode jdk_52_method_7_code 72 = .ok (.ifCond .eq 11, 3) := by decide +kernel
theorem d26_75 : decode jdk_52_method_7_code 75 = .ok (.iload 4, 2) := by decide +kernel
theorem d26_77 : decode jdk_52_method_7_code 77 = .ok (.iload 5, 2) := by decide +kernel
theorem d26_79 : decode jdk_52_method_7_code 79 = .ok (.invokestatic 84, 3) := by decide +kernel
theorem pd__28CC_29I : parseMethodDescriptor "(CC)I" = some ⟨[.char, .char], some .int⟩ := by decide +kernel
theorem d26_82 : decode jdk_52_method_7_code 82 = .ok (.ireturn, 1) := by decide +kernel
def Q_rmU4_20 (Z : State) (b_ : Addr) (i : Int32) (n : Int32) (q_ : Int32) (w0_ : Int32) (w1_ : Int32) (w2_ : Int32) (w3_ : Int32) (c0 : Int32) (c1 : Int32) (h0 : Heap) (n0 : Nat) (vQ : Option Value) (hQ : Heap) (LQ : List Loc) : Prop := vQ = some (.int (cp2 c0 c1)) ∧ LQ = [] ∧ hQ = h0
set_option maxRecDepth 65536 in
set_option maxHeartbeats 40000000 in
theorem rmU4_20 (l : Launch) (Z : State) (a0 : Array Value) (hw : ∀ d ∈ tables_1, d.before a0 Z = true) (ws : List Jvm.Cond) (b_ : Addr) (i : Int32) (n : Int32) (q_ : Int32) (w0_ : Int32) (w1_ : Int32) (w2_ : Int32) (w3_ : Int32) (c0 : Int32) (c1 : Int32) (h0 : Heap) (n0 : Nat) (Z0 : n0 ≤ h0.size) (P0 : Ia Z h0 b_ .byte [w0_, w1_, w2_, w3_]) (P1 : Old Z n0 h0) (zAD : Sta Z Z.heap cU6 "$assertionsDisabled" "Z" (.int (1 : Int32))) (zHI : Sta Z Z.heap cU6 "HI_BYTE_SHIFT" "I" (.int (0 : Int32))) (zLO : Sta Z Z.heap cU6 "LO_BYTE_SHIFT" "I" (.int (8 : Int32))) (hi : i = 0) (hn : n = 2) (hq : q_ = 0) (hg0 : (gcF w0_ w1_) = c0) (hg1 : (gcF w2_ w3_) = c1) :
    MetFree l (⟨cU6, "codePointAt", "([BIIZ)I"⟩ : MethodName) (head1 (Jvm.Cond.code (⟨cU6, "codePointAt", "([BIIZ)I"⟩ : MethodName) jdk_52_method_7_code 6 (some .int) :: ws) ({ frames := 1, cells := 0, slots := 0, locals := 13 } : Room)) (fun aQ UQ => aQ = #[(.ref b_), (.int i), (.int n), (.int q_)] ∧ Z.Warmed39 UQ.vm ∧ UQ.heap = h0) (fun _ _ _ _ _ => True) (fun _ UQ oQ UR => ∃ vQ LQ, oQ = .returned vQ ∧ Q_rmU4_20 Z b_ i n q_ w0_ w1_ w2_ w3_ c0 c1 h0 n0 vQ UR.heap LQ ∧ FrameEnd UQ oQ UR LQ ({ frames := 1, cells := 0, slots := 0, locals := 13 } : Room).cells ({ frames := 1, cells := 0, slots := 0, locals := 13 } : Room).slots) := by
  refine MetFree.of_bodySF (plainFor_of_name pn_26) hisR ?_
  intro p e s m args below meth c s₁ Bd hml0 hP hK
  obtain ⟨rfl, hZ, hh⟩ := hP
  have hx := Bd.exec
  have hby := Bd.bytes
  have hlk := Bd.notSynchronized
  have hml : c.maxLocals = 6 := hml0
  have hown : s.vm.findClass cU6 = some m.cls := findClass_of_methodNamed Bd.named
  have hnm := (name_of_methodNamed Bd.named Bd.method).1
  have X0 : Stand p l e ({ frames := 1, cells := 0, slots := 0, locals := 13 } : Room) s m #[(.ref b_), (.int i), (.int n), (.int q_)] below meth c s₁ [] 0 0 := Stand.of_body Bd
  have e0 : s₁.heap = h0 := by rw [← hh, Bd.state]; rfl
  have N0 := Fr.nil n0
  show Go p e below _ (Done s (Q_rmU4_20 Z b_ i n q_ w0_ w1_ w2_ w3_ c0 c1 h0 n0) ({ frames := 1, cells := 0, slots := 0, locals := 13 } : Room).cells ({ frames := 1, cells := 0, slots := 0, locals := 13 } : Room).slots)
  refine Go.via (fun tQ kQ => castTop (ef_26 m b_ i n q_) kQ) ?_
  show Go p e below (s₁.setTop (mkF m 0 #[vr b_, vi i, vi n, vi q_, .unset, .unset] [])) _
  · subst hi hn hq
    show Go p e below (s₁.setTop (mkF m 0 #[vr b_, vi (0 : Int32), vi (2 : Int32), vi (0 : Int32), .unset, .unset] [])) _
    have f616 : Sta Z h0 cU6 "$assertionsDisabled" "Z" (.int (1 : Int32)) := zAD.ext P1.2
    obtain ⟨T617, X617, e617, st617⟩ := getS2 X0 hx hZ hown (host := "") (Or.inl (tw hw 84 rfl)) Via.refl e0 f616 (g := (mkF m 0 #[vr b_, vi (0 : Int32), vi (2 : Int32), vi (0 : Int32), .unset, .unset] [])) rfl (hb hby d26_0)
    refine Go.via (st617) ?_
    clear st617
    clear X0 e0
    show Go p e below (T617.setTop (mkF m 3 #[vr b_, vi (0 : Int32), vi (2 : Int32), vi (0 : Int32), .unset, .unset] [(.int (1 : Int32))])) _
    refine Go.via (fun _ => XS.ifYes X617.here hx rfl (pc0 := 3) (pc' := 19) rfl (hb hby d26_3) rfl ((if0 _ _).trans (feq ((by decide) : ¬ ((1 : Int32) = (0 : Int32)))).2) (by decide) (by decide)) ?_
    refine Go.via (fun _ => XS.iloadN X617.here hx rfl (hb hby d26_19) rfl) ?_
    refine Go.via (fun _ => XS.ifYes X617.here hx rfl (pc0 := 20) (pc' := 28) rfl (hb hby d26_20) rfl ((if0 _ _).trans (teq ((by decide) : (0 : Int32) = (0 : Int32))).1) (by decide) (by decide)) ?_
    refine Go.via (fun _ => XS.aloadN X617.here hx rfl (hb hby d26_28) rfl rfl) ?_
    refine Go.via (fun _ => XS.iloadN X617.here hx rfl (hb hby d26_29) rfl) ?_
    obtain ⟨r618, _, ⟨T618, L618, k618, n618⟩, -, X618, ⟨Lc618, hQ618, l618, y618, z618⟩, st618⟩ := Jvm.LawKit.callS X617 hx (y := (⟨cU6, "getChar", "([BI)C"⟩ : MethodName)) hown (mvT hZ (tw hw 87 rfl)) (mvT hZ (tw hw 88 rfl)) (mvT hZ (tw hw 66 rfl)) (mvT hZ (tw hw 89 rfl)) (by decide) (backOf (W := 0) (rmGe20 l Z a0 hw [] b_ (0 : Int32) w0_ w1_ w2_ w3_ c0 h0 n0 Z0 P0 P1 zAD zHI zLO rfl hg0) hZ (tw hw 89 rfl) (tw hw 66 rfl) (by decide) (by decide)) (g := (mkF m 30 #[vr b_, vi (0 : Int32), vi (2 : Int32), vi (0 : Int32), .unset, .unset] [(.int (0 : Int32)), (.ref b_)])) rfl (by rw [hml]; rfl) (argsL := [(.ref b_), (.int (0 : Int32))]) (rest := []) (lenOf pd__28_5bBI_29C rfl) rfl (by show 2 * 0 + _ ≤ _; exact Nat.le_of_eq rfl) (hb hby d26_30) (fun _ _ => ⟨rfl, e617, (by decide : 0 + 0 ≤ _), (by decide : 0 + 0 ≤ _)⟩)
    dsimp only [Pt.U, Pt.locs, Pt.cells, Pt.slots] at X618 l618 y618 z618 st618 hQ618
    rw [l618, y618, z618] at X618
    obtain ⟨hr618, N618q, eh618⟩ := hQ618
    rw [hr618] at st618
    rw [N618q, List.append_nil] at X618
    refine Go.via (st618) ?_
    clear st618
    have e618 : T618.heap = h0 := eh618
    clear X617 e617
    show Go p e below (T618.setTop (mkF m 33 #[vr b_, vi (0 : Int32), vi (2 : Int32), vi (0 : Int32), .unset, .unset] [(.int c0)])) _
    refine Go.via (fun _ => XS.istore X618.here hx rfl (hb hby d26_33) rfl (l' := #[vr b_, vi (0 : Int32), vi (2 : Int32), vi (0 : Int32), vi c0, .unset]) rfl) ?_
    refine Go.via (fun _ => XS.iload X618.here hx rfl (hb hby d26_35) rfl) ?_
    obtain ⟨r619, _, ⟨T619, L619, k619, n619⟩, -, X619, ⟨Lc619, hQ619, l619, y619, z619⟩, st619⟩ := Jvm.LawKit.callS X618 hx (y := (⟨"java/lang/Character", "isHighSurrogate", "(C)Z"⟩ : MethodName)) hown (mvT hZ (tw hw 121 rfl)) (mvT hZ (tw hw 122 rfl)) (mvT hZ (tw hw 123 rfl)) (mvT hZ (tw hw 124 rfl)) (by decide) (backOf (W := 0) (rmHs l Z a0 hw [] c0  h0 n0 Z0) hZ (tw hw 124 rfl) (tw hw 123 rfl) (by decide) (by decide)) (g := (mkF m 37 #[vr b_, vi (0 : Int32), vi (2 : Int32), vi (0 : Int32), vi c0, .unset] [(.int c0)])) rfl (by rw [hml]; rfl) (argsL := [(.int c0)]) (rest := []) (lenOf pd__28C_29Z rfl) rfl (by show 2 * 0 + _ ≤ _; exact Nat.le_of_eq rfl) (hb hby d26_37) (fun _ _ => ⟨rfl, e618, (by decide : 0 + 0 ≤ _), (by decide : 0 + 0 ≤ _)⟩)
    dsimp only [Pt.U, Pt.locs, Pt.cells, Pt.slots] at X619 l619 y619 z619 st619 hQ619
    rw [l619, y619, z619] at X619
    obtain ⟨hr619, N619q, eh619⟩ := hQ619
    rw [hr619] at st619
    rw [N619q, List.append_nil] at X619
    refine Go.via (st619) ?_
    clear st619
    have e619 : T619.heap = h0 := eh619
    clear X618 e618
    show Go p e below (T619.setTop (mkF m 40 #[vr b_, vi (0 : Int32), vi (2 : Int32), vi (0 : Int32), vi c0, .unset] [(.int (ihF c0))])) _
    by_cases hc620 : (ihF c0) = (0 : Int32)
    · refine Go.via (fun _ => XS.ifYes X619.here hx rfl (pc0 := 40) (pc' := 83) rfl (hb hby d26_40) rfl ((if0 _ _).trans (teq (hc620 : (ihF c0) = (0 : Int32))).1) (by decide) (by decide)) ?_
      show Go p e below (T619.setTop (mkF m 83 #[vr b_, vi (0 : Int32), vi (2 : Int32), vi (0 : Int32), vi c0, .unset] [])) _
      refine Go.via (fun _ => XS.iload X619.here hx rfl (hb hby d26_83) rfl) ?_
      exact Go.fin X619 hlk (v := some (.int c0)) (fun h => by rw [Bd.returns] at h; cases h) (fun fs hr => OwnKit.retI X619 hx Bd.returns (hb hby d26_85) hr) (by rw [e619]; exact ⟨(congrArg (fun qq => some (Value.int qq)) (Eq.symm ((if_pos hc620).trans rfl))), rfl, rfl⟩) (by decide) (by decide)
    · refine Go.via (fun _ => XS.ifNo X619.here hx rfl (hb hby d26_40) rfl ((if0 _ _).trans (feq (hc620 : ¬ ((ihF c0) = (0 : Int32)))).1)) ?_
      show Go p e below (T619.setTop (mkF m 43 #[vr b_, vi (0 : Int32), vi (2 : Int32), vi (0 : Int32), vi c0, .unset] [])) _
      refine Go.via (fun _ => XS.iinc X619.here hx rfl (hb hby d26_43) rfl (l' := #[vr b_, vi (1 : Int32), vi (2 : Int32), vi (0 : Int32), vi c0, .unset]) rfl) ?_
      refine Go.via (fun _ => XS.iloadN X619.here hx rfl (hb hby d26_46) rfl) ?_
      refine Go.via (fun _ => XS.iloadN X619.here hx rfl (hb hby d26_47) rfl) ?_
      refine Go.via (fun _ => XS.icmpNo X619.here hx rfl (hb hby d26_48) rfl (tlt ((by decide) : (1 : Int32) < (2 : Int32))).2.1) ?_
      refine Go.via (fun _ => XS.iloadN X619.here hx rfl (hb hby d26_51) rfl) ?_
      refine Go.via (fun _ => XS.ifYes X619.here hx rfl (pc0 := 52) (pc' := 60) rfl (hb hby d26_52) rfl ((if0 _ _).trans (teq ((by decide) : (0 : Int32) = (0 : Int32))).1) (by decide) (by decide)) ?_
      refine Go.via (fun _ => XS.aloadN X619.here hx rfl (hb hby d26_60) rfl rfl) ?_
      show Go p e below (T619.setTop (mkF m 61 #[vr b_, vi (1 : Int32), vi (2 : Int32), vi (0 : Int32), vi c0, .unset] [(.ref b_)])) _
      refine Go.via (fun _ => XS.iloadN X619.here hx rfl (hb hby d26_61) rfl) ?_
      obtain ⟨r621, _, ⟨T621, L621, k621, n621⟩, -, X621, ⟨Lc621, hQ621, l621, y621, z621⟩, st621⟩ := Jvm.LawKit.callS X619 hx (y := (⟨cU6, "getChar", "([BI)C"⟩ : MethodName)) hown (mvT hZ (tw hw 87 rfl)) (mvT hZ (tw hw 88 rfl)) (mvT hZ (tw hw 66 rfl)) (mvT hZ (tw hw 89 rfl)) (by decide) (backOf (W := 0) (rmGe21 l Z a0 hw [] b_ (1 : Int32) w0_ w1_ w2_ w3_ c1 h0 n0 Z0 P0 P1 zAD zHI zLO rfl hg1) hZ (tw hw 89 rfl) (tw hw 66 rfl) (by decide) (by decide)) (g := (mkF m 62 #[vr b_, vi (1 : Int32), vi (2 : Int32), vi (0 : Int32), vi c0, .unset] [(.int (1 : Int32)), (.ref b_)])) rfl (by rw [hml]; rfl) (argsL := [(.ref b_), (.int (1 : Int32))]) (rest := []) (lenOf pd__28_5bBI_29C rfl) rfl (by show 2 * 0 + _ ≤ _; exact Nat.le_of_eq rfl) (hb hby d26_62) (fun _ _ => ⟨rfl, e619, (by decide : 0 + 0 ≤ _), (by decide : 0 + 0 ≤ _)⟩)
      dsimp only [Pt.U, Pt.locs, Pt.cells, Pt.slots] at X621 l621 y621 z621 st621 hQ621
      rw [l621, y621, z621] at X621
      obtain ⟨hr621, N621q, eh621⟩ := hQ621
      rw [hr621] at st621
      rw [N621q, List.append_nil] at X621
      refine Go.via (st621) ?_
      clear st621
      have e621 : T621.heap = h0 := eh621
      clear X619 e619
      show Go p e below (T621.setTop (mkF m 65 #[vr b_, vi (1 : Int32), vi (2 : Int32), vi (0 : Int32), vi c0, .unset] [(.int c1)])) _
      refine Go.via (fun _ => XS.istore X621.here hx rfl (hb hby d26_65) rfl (l' := #[vr b_, vi (1 : Int32), vi (2 : Int32), vi (0 : Int32), vi c0, vi c1]) rfl) ?_
      refine Go.via (fun _ => XS.iload X621.here hx rfl (hb hby d26_67) rfl) ?_
      obtain ⟨r622, _, ⟨T622, L622, k622, n622⟩, -, X622, ⟨Lc622, hQ622, l622, y622, z622⟩, st622⟩ := Jvm.LawKit.callS X621 hx (y := (⟨"java/lang/Character", "isLowSurrogate", "(C)Z"⟩ : MethodName)) hown (mvT hZ (tw hw 136 rfl)) (mvT hZ (tw hw 137 rfl)) (mvT hZ (tw hw 123 rfl)) (mvT hZ (tw hw 138 rfl)) (by decide) (backOf (W := 0) (rmLs l Z a0 hw [] c1  h0 n0 Z0) hZ (tw hw 138 rfl) (tw hw 123 rfl) (by decide) (by decide)) (g := (mkF m 69 #[vr b_, vi (1 : Int32), vi (2 : Int32), vi (0 : Int32), vi c0, vi c1] [(.int c1)])) rfl (by rw [hml]; rfl) (argsL := [(.int c1)]) (rest := []) (lenOf pd__28C_29Z rfl) rfl (by show 2 * 0 + _ ≤ _; exact Nat.le_of_eq rfl) (hb hby d26_69) (fun _ _ => ⟨rfl, e621, (by decide : 0 + 0 ≤ _), (by decide : 0 + 0 ≤ _)⟩)
      dsimp only [Pt.U, Pt.locs, Pt.cells, Pt.slots] at X622 l622 y622 z622 st622 hQ622
      rw [l622, y622, z622] at X622
      obtain ⟨hr622, N622q, eh622⟩ := hQ622
      rw [hr622] at st622
      rw [N622q, List.append_nil] at X622
      refine Go.via (st622) ?_
      clear st622
      have e622 : T622.heap = h0 := eh622
      clear X621 e621
      show Go p e below (T622.setTop (mkF m 72 #[vr b_, vi (1 : Int32), vi (2 : Int32), vi (0 : Int32), vi c0, vi c1] [(.int (ilF c1))])) _
      by_cases hc623 : (ilF c1) = (0 : Int32)
      · refine Go.via (fun _ => XS.ifYes X622.here hx rfl (pc0 := 72) (pc' := 83) rfl (hb hby d26_72) rfl ((if0 _ _).trans (teq (hc623 : (ilF c1) = (0 : Int32))).1) (by decide) (by decide)) ?_
        show Go p e below (T622.setTop (mkF m 83 #[vr b_, vi (1 : Int32), vi (2 : Int32), vi (0 : Int32), vi c0, vi c1] [])) _
        refine Go.via (fun _ => XS.iload X622.here hx rfl (hb hby d26_83) rfl) ?_
        exact Go.fin X622 hlk (v := some (.int c0)) (fun h => by rw [Bd.returns] at h; cases h) (fun fs hr => OwnKit.retI X622 hx Bd.returns (hb hby d26_85) hr) (by rw [e622]; exact ⟨(congrArg (fun qq => some (Value.int qq)) (Eq.symm ((if_neg hc620).trans ((if_pos hc623).trans rfl)))), rfl, rfl⟩) (by decide) (by decide)
      · refine Go.via (fun _ => XS.ifNo X622.here hx rfl (hb hby d26_72) rfl ((if0 _ _).trans (feq (hc623 : ¬ ((ilF c1) = (0 : Int32)))).1)) ?_
        show Go p e below (T622.setTop (mkF m 75 #[vr b_, vi (1 : Int32), vi (2 : Int32), vi (0 : Int32), vi c0, vi c1] [])) _
        refine Go.via (fun _ => XS.iload X622.here hx rfl (hb hby d26_75) rfl) ?_
        refine Go.via (fun _ => XS.iload X622.here hx rfl (hb hby d26_77) rfl) ?_
        obtain ⟨r624, _, ⟨T624, L624, k624, n624⟩, -, X624, ⟨Lc624, hQ624, l624, y624, z624⟩, st624⟩ := Jvm.LawKit.callS X622 hx (y := (⟨"java/lang/Character", "toCodePoint", "(CC)I"⟩ : MethodName)) hown (mvT hZ (tw hw 140 rfl)) (mvT hZ (tw hw 141 rfl)) (mvT hZ (tw hw 123 rfl)) (mvT hZ (tw hw 142 rfl)) (by decide) (backOf (W := 0) (rmTc l Z a0 hw [] c0 c1  h0 n0 Z0) hZ (tw hw 142 rfl) (tw hw 123 rfl) (by decide) (by decide)) (g := (mkF m 79 #[vr b_, vi (1 : Int32), vi (2 : Int32), vi (0 : Int32), vi c0, vi c1] [(.int c1), (.int c0)])) rfl (by rw [hml]; rfl) (argsL := [(.int c0), (.int c1)]) (rest := []) (lenOf pd__28CC_29I rfl) rfl (by show 2 * 0 + _ ≤ _; exact Nat.le_of_eq rfl) (hb hby d26_79) (fun _ _ => ⟨rfl, e622, (by decide : 0 + 0 ≤ _), (by decide : 0 + 0 ≤ _)⟩)
        dsimp only [Pt.U, Pt.locs, Pt.cells, Pt.slots] at X624 l624 y624 z624 st624 hQ624
        rw [l624, y624, z624] at X624
        obtain ⟨hr624, N624q, eh624⟩ := hQ624
        rw [hr624] at st624
        rw [N624q, List.append_nil] at X624
        refine Go.via (st624) ?_
        clear st624
        have e624 : T624.heap = h0 := eh624
        clear X622 e622
        show Go p e below (T624.setTop (mkF m 82 #[vr b_, vi (1 : Int32), vi (2 : Int32), vi (0 : Int32), vi c0, vi c1] [(.int (tcF c0 c1))])) _
        exact Go.fin X624 hlk (v := some (.int (tcF c0 c1))) (fun h => by rw [Bd.returns] at h; cases h) (fun fs hr => OwnKit.retI X624 hx Bd.returns (hb hby d26_82) hr) (by rw [e624]; exact ⟨(congrArg (fun qq => some (Value.int qq)) (Eq.symm ((if_neg hc620).trans ((if_neg hc623).trans rfl)))), rfl, rfl⟩) (by decide) (by decide)
def Q_rmU3_20 (Z : State) (b_ : Addr) (i : Int32) (n : Int32) (w0_ : Int32) (w1_ : Int32) (w2_ : Int32) (w3_ : Int32) (c0 : Int32) (c1 : Int32) (h0 : Heap) (n0 : Nat) (vQ : Option Value) (hQ : Heap) (LQ : List Loc) : Prop := vQ = some (.int (cp2 c0 c1)) ∧ LQ = [] ∧ hQ = h0
set_option maxRecDepth 65536 in
set_option maxHeartbeats 40000000 in
theorem rmU3_20 (l : Launch) (Z : State) (a0 : Array Value) (hw : ∀ d ∈ tables_1, d.before a0 Z = true) (ws : List Jvm.Cond) (b_ : Addr) (i : Int32) (n : Int32) (w0_ : Int32) (w1_ : Int32) (w2_ : Int32) (w3_ : Int32) (c0 : Int32) (c1 : Int32) (h0 : Heap) (n0 : Nat) (Z0 : n0 ≤ h0.size) (P0 : Ia Z h0 b_ .byte [w0_, w1_, w2_, w3_]) (P1 : Old Z n0 h0) (zAD : Sta Z Z.heap cU6 "$assertionsDisabled" "Z" (.int (1 : Int32))) (zHI : Sta Z Z.heap cU6 "HI_BYTE_SHIFT" "I" (.int (0 : Int32))) (zLO : Sta Z Z.heap cU6 "LO_BYTE_SHIFT" "I" (.int (8 : Int32))) (hi : i = 0) (hn : n = 2) (hg0 : (gcF w0_ w1_) = c0) (hg1 : (gcF w2_ w3_) = c1) :
    MetFree l (⟨cU6, "codePointAt", "([BII)I"⟩ : MethodName) (head1 (Jvm.Cond.code (⟨cU6, "codePointAt", "([BII)I"⟩ : MethodName) jdk_52_method_8_code 3 (some .int) :: ws) ({ frames := 2, cells := 0, slots := 0, locals := 30 } : Room)) (fun aQ UQ => aQ = #[(.ref b_), (.int i), (.int n)] ∧ Z.Warmed39 UQ.vm ∧ UQ.heap = h0) (fun _ _ _ _ _ => True) (fun _ UQ oQ UR => ∃ vQ LQ, oQ = .returned vQ ∧ Q_rmU3_20 Z b_ i n w0_ w1_ w2_ w3_ c0 c1 h0 n0 vQ UR.heap LQ ∧ FrameEnd UQ oQ UR LQ ({ frames := 2, cells := 0, slots := 0, locals := 30 } : Room).cells ({ frames := 2, cells := 0, slots := 0, locals := 30 } : Room).slots) := by
  refine MetFree.of_bodySF (plainFor_of_name pn_25) hisR ?_
  intro p e s m args below meth c s₁ Bd hml0 hP hK
  obtain ⟨rfl, hZ, hh⟩ := hP
  have hx := Bd.exec
  have hby := Bd.bytes
  have hlk := Bd.notSynchronized
  have hml : c.maxLocals = 3 := hml0
  have hown : s.vm.findClass cU6 = some m.cls := findClass_of_methodNamed Bd.named
  have hnm := (name_of_methodNamed Bd.named Bd.method).1
  have X0 : Stand p l e ({ frames := 2, cells := 0, slots := 0, locals := 30 } : Room) s m #[(.ref b_), (.int i), (.int n)] below meth c s₁ [] 0 0 := Stand.of_body Bd
  have e0 : s₁.heap = h0 := by rw [← hh, Bd.state]; rfl
  have N0 := Fr.nil n0
  show Go p e below _ (Done s (Q_rmU3_20 Z b_ i n w0_ w1_ w2_ w3_ c0 c1 h0 n0) ({ frames := 2, cells := 0, slots := 0, locals := 30 } : Room).cells ({ frames := 2, cells := 0, slots := 0, locals := 30 } : Room).slots)
  refine Go.via (fun tQ kQ => castTop (ef_25 m b_ i n) kQ) ?_
  show Go p e below (s₁.setTop (mkF m 0 #[vr b_, vi i, vi n] [])) _
  · subst hi hn
    show Go p e below (s₁.setTop (mkF m 0 #[vr b_, vi (0 : Int32), vi (2 : Int32)] [])) _
    refine Go.via (fun _ => XS.aloadN X0.here hx rfl (hb hby d25_0) rfl rfl) ?_
    refine Go.via (fun _ => XS.iloadN X0.here hx rfl (hb hby d25_1) rfl) ?_
    refine Go.via (fun _ => XS.iloadN X0.here hx rfl (hb hby d25_2) rfl) ?_
    refine Go.via (fun _ => XS.iconst X0.here hx rfl (hb hby d25_3)) ?_
    obtain ⟨r625, _, ⟨T625, L625, k625, n625⟩, -, X625, ⟨Lc625, hQ625, l625, y625, z625⟩, st625⟩ := Jvm.LawKit.callS X0 hx (y := (⟨cU6, "codePointAt", "([BIIZ)I"⟩ : MethodName)) hown (mvT hZ (tw hw 118 rfl)) (mvT hZ (tw hw 119 rfl)) (mvT hZ (tw hw 66 rfl)) (mvT hZ (tw hw 120 rfl)) (by decide) (backOf (W := 0) (rmU4_20 l Z a0 hw [] b_ (0 : Int32) (2 : Int32) (0 : Int32) w0_ w1_ w2_ w3_ c0 c1 h0 n0 Z0 P0 P1 zAD zHI zLO rfl rfl rfl hg0 hg1) hZ (tw hw 120 rfl) (tw hw 66 rfl) (by decide) (by decide)) (g := (mkF m 4 #[vr b_, vi (0 : Int32), vi (2 : Int32)] [(.int (0 : Int32)), (.int (2 : Int32)), (.int (0 : Int32)), (.ref b_)])) rfl (by rw [hml]; rfl) (argsL := [(.ref b_), (.int (0 : Int32)), (.int (2 : Int32)), (.int (0 : Int32))]) (rest := []) (lenOf pd__28_5bBIIZ_29I rfl) rfl (by show 2 * 0 + _ ≤ _; exact Nat.le_of_eq rfl) (hb hby d25_4) (fun _ _ => ⟨rfl, e0, (by decide : 0 + 0 ≤ _), (by decide : 0 + 0 ≤ _)⟩)
    dsimp only [Pt.U, Pt.locs, Pt.cells, Pt.slots] at X625 l625 y625 z625 st625 hQ625
    rw [l625, y625, z625] at X625
    obtain ⟨hr625, N625q, eh625⟩ := hQ625
    rw [hr625] at st625
    rw [N625q, List.append_nil] at X625
    refine Go.via (st625) ?_
    clear st625
    have e625 : T625.heap = h0 := eh625
    clear X0 e0
    show Go p e below (T625.setTop (mkF m 7 #[vr b_, vi (0 : Int32), vi (2 : Int32)] [(.int (cp2 c0 c1))])) _
    exact Go.fin X625 hlk (v := some (.int (cp2 c0 c1))) (fun h => by rw [Bd.returns] at h; cases h) (fun fs hr => OwnKit.retI X625 hx Bd.returns (hb hby d25_7) hr) (by rw [e625]; exact ⟨rfl, rfl, rfl⟩) (by decide) (by decide)
def Q_rmSc_20 (Z : State) (a : Addr) (i : Int32) (cs : Int32) (fv : Value) (b_ : Addr) (co : Int32) (ys : List Int32) (y0 : Int32) (y1 : Int32) (h0 : Heap) (n0 : Nat) (vQ : Option Value) (hQ : Heap) (LQ : List Loc) : Prop := vQ = some (.int (cp2 y0 y1)) ∧ LQ = [] ∧ hQ = h0
set_option maxRecDepth 65536 in
set_option maxHeartbeats 40000000 in
theorem rmSc_20 (l : Launch) (Z : State) (a0 : Array Value) (hw : ∀ d ∈ tables_1, d.before a0 Z = true) (ws : List Jvm.Cond) (a : Addr) (i : Int32) (cs : Int32) (fv : Value) (b_ : Addr) (co : Int32) (ys : List Int32) (y0 : Int32) (y1 : Int32) (h0 : Heap) (n0 : Nat) (Z0 : n0 ≤ h0.size) (P0 : Exa Z h0 a cST) (P1 : Fld Z h0 a cST "coder" "B" (.int co)) (P2 : Fld Z h0 a cST "value" "[B" (.ref b_)) (P3 : Ia Z h0 b_ .byte ys) (P4 : Old Z n0 h0) (zCS : Sta Z Z.heap cST "COMPACT_STRINGS" "Z" (.int cs)) (zF : Sta Z Z.heap cPR "SIOOBE_FORMATTER" "Ljava/util/function/BiFunction;" fv) (zAD : Sta Z Z.heap cU6 "$assertionsDisabled" "Z" (.int (1 : Int32))) (zHI : Sta Z Z.heap cU6 "HI_BYTE_SHIFT" "I" (.int (0 : Int32))) (zLO : Sta Z Z.heap cU6 "LO_BYTE_SHIFT" "I" (.int (8 : Int32))) (hcs : ¬ (cs = (0 : Int32))) (hfv : fv = .null ∨ ∃ fa : Addr, fv = .ref fa) (hi : i = 0) (hR : Rep [y0, y1] co ys) :
    MetFree l (⟨cST, "codePointAt", "(I)I"⟩ : MethodName) (head1 (Jvm.Cond.code (⟨cST, "codePointAt", "(I)I"⟩ : MethodName) jdk_42_method_57_code 3 (some .int) :: ws) ({ frames := 3, cells := 0, slots := 0, locals := 44 } : Room)) (fun aQ UQ => aQ = #[(.ref a), (.int i)] ∧ Z.Warmed39 UQ.vm ∧ UQ.heap = h0) (fun _ _ _ _ _ => True) (fun _ UQ oQ UR => ∃ vQ LQ, oQ = .returned vQ ∧ Q_rmSc_20 Z a i cs fv b_ co ys y0 y1 h0 n0 vQ UR.heap LQ ∧ FrameEnd UQ oQ UR LQ ({ frames := 3, cells := 0, slots := 0, locals := 44 } : Room).cells ({ frames := 3, cells := 0, slots := 0, locals := 44 } : Room).slots) := by
  refine MetFree.of_bodySF (plainFor_of_name pn_21) hisR ?_
  intro p e s m args below meth c s₁ Bd hml0 hP hK
  obtain ⟨rfl, hZ, hh⟩ := hP
  have hx := Bd.exec
  have hby := Bd.bytes
  have hlk := Bd.notSynchronized
  have hml : c.maxLocals = 3 := hml0
  have hown : s.vm.findClass cST = some m.cls := findClass_of_methodNamed Bd.named
  have hnm := (name_of_methodNamed Bd.named Bd.method).1
  have X0 : Stand p l e ({ frames := 3, cells := 0, slots := 0, locals := 44 } : Room) s m #[(.ref a), (.int i)] below meth c s₁ [] 0 0 := Stand.of_body Bd
  have e0 : s₁.heap = h0 := by rw [← hh, Bd.state]; rfl
  have N0 := Fr.nil n0
  show Go p e below _ (Done s (Q_rmSc_20 Z a i cs fv b_ co ys y0 y1 h0 n0) ({ frames := 3, cells := 0, slots := 0, locals := 44 } : Room).cells ({ frames := 3, cells := 0, slots := 0, locals := 44 } : Room).slots)
  refine Go.via (fun tQ kQ => castTop (ef_21 m a i) kQ) ?_
  show Go p e below (s₁.setTop (mkF m 0 #[vr a, vi i, .unset] [])) _
  rcases own_rep2 hR with ⟨rfl, rfl, hc0, hc1, hl0, hl1⟩ | ⟨rfl, rfl, hc0, hc1⟩
  · subst hi
    show Go p e below (s₁.setTop (mkF m 0 #[vr a, vi (0 : Int32), .unset] [])) _
    refine Go.via (fun _ => XS.aloadN X0.here hx rfl (hb hby d21_0) rfl rfl) ?_
    obtain ⟨cq626, kq626, q626a, q626b, q626c⟩ := isOf hZ e0 P0
    obtain ⟨r626, _, ⟨T626, L626, k626, n626⟩, -, X626, ⟨Lc626, hQ626, l626, y626, z626⟩, st626⟩ := X0.virtualBack hx (y := (⟨cST, "isLatin1", "()Z"⟩ : MethodName)) (z := (⟨cST, "isLatin1", "()Z"⟩ : MethodName)) hown (mvT hZ (tw hw 102 rfl)) (mvT hZ (tw hw 103 rfl)) (notFace_of_selects (args := #[]) (mvT hZ (tw hw 105 rfl))) (mvT hZ (tw hw 105 rfl)) (mvT hZ (tw hw 104 rfl)) (by decide) (backOf (W := 0) (rmIL0 l Z a0 hw [] a cs h0 n0 Z0 P1 P4 zCS hcs) hZ (tw hw 106 rfl) (tw hw 14 rfl) (by decide) (by decide)) q626a q626c (g := (mkF m 1 #[vr a, vi (0 : Int32), .unset] [(.ref a)])) rfl (by rw [hml]; rfl) (Steps.refl _) (argsL := []) (rest := []) (lenOf pd__28_29Z rfl) rfl (by show 2 * 0 + _ ≤ _; exact Nat.le_of_eq rfl) (hb hby d21_1) (fun _ _ => ⟨rfl, e0, (by decide : 0 + 0 ≤ _), (by decide : 0 + 0 ≤ _)⟩)
    dsimp only [Pt.U, Pt.locs, Pt.cells, Pt.slots] at X626 l626 y626 z626 st626 hQ626
    rw [l626, y626, z626] at X626
    obtain ⟨hr626, N626q, eh626⟩ := hQ626
    rw [hr626] at st626
    rw [N626q, List.append_nil] at X626
    refine Go.via (fun _ kQ => st626.trans kQ) ?_
    clear st626
    have e626 : T626.heap = h0 := eh626
    clear X0 e0
    show Go p e below (T626.setTop (mkF m 4 #[vr a, vi (0 : Int32), .unset] [(.int (1 : Int32))])) _
    refine Go.via (fun _ => XS.ifNo X626.here hx rfl (hb hby d21_4) rfl ((if0 _ _).trans (feq ((by decide) : ¬ ((1 : Int32) = (0 : Int32)))).1)) ?_
    refine Go.via (fun _ => XS.iloadN X626.here hx rfl (hb hby d21_7) rfl) ?_
    refine Go.via (fun _ => XS.aloadN X626.here hx rfl (hb hby d21_8) rfl rfl) ?_
    obtain ⟨T627, X627, e627, st627⟩ := getF X626 hx hZ hown (host := "") (Or.inl (tw hw 32 rfl)) Via.refl e626 P2 (g := (mkF m 9 #[vr a, vi (0 : Int32), .unset] [(.ref a), (.int (0 : Int32))])) rfl rfl (hb hby d21_9)
    refine Go.via (st627) ?_
    clear st627
    clear X626 e626
    show Go p e below (T627.setTop (mkF m 12 #[vr a, vi (0 : Int32), .unset] [(.ref b_), (.int (0 : Int32))])) _
    refine Go.via (lenI X627 hx hZ e627 P3 (n := (2 : Int32)) rfl (g := (mkF m 12 #[vr a, vi (0 : Int32), .unset] [(.ref b_), (.int (0 : Int32))])) rfl rfl (hb hby d21_12)) ?_
    show Go p e below (T627.setTop (mkF m 13 #[vr a, vi (0 : Int32), .unset] [(.int (2 : Int32)), (.int (0 : Int32))])) _
    obtain ⟨r628, _, ⟨T628, L628, k628, n628⟩, -, X628, ⟨Lc628, hQ628, l628, y628, z628⟩, st628⟩ := Jvm.LawKit.callS X627 hx (y := (⟨cST, "checkIndex", "(II)V"⟩ : MethodName)) hown (mvT hZ (tw hw 107 rfl)) (mvT hZ (tw hw 108 rfl)) (mvT hZ (tw hw 14 rfl)) (mvT hZ (tw hw 109 rfl)) (by decide) (backOf (W := 0) (rmCx l Z a0 hw [] (0 : Int32) (2 : Int32) fv h0 n0 Z0 P4 zF (by first | decide | (simp only [List.length_cons, List.length_nil]; decide) | rfl) (by first | decide | (simp only [List.length_cons, List.length_nil]; decide) | rfl) hfv) hZ (tw hw 109 rfl) (tw hw 14 rfl) (by decide) (by decide)) (g := (mkF m 13 #[vr a, vi (0 : Int32), .unset] [(.int (2 : Int32)), (.int (0 : Int32))])) rfl (by rw [hml]; rfl) (argsL := [(.int (0 : Int32)), (.int (2 : Int32))]) (rest := []) (lenOf pd__28II_29V rfl) rfl (by show 2 * 0 + _ ≤ _; exact Nat.le_of_eq rfl) (hb hby d21_13) (fun _ _ => ⟨rfl, e627, (by decide : 0 + 0 ≤ _), (by decide : 0 + 0 ≤ _)⟩)
    dsimp only [Pt.U, Pt.locs, Pt.cells, Pt.slots] at X628 l628 y628 z628 st628 hQ628
    rw [l628, y628, z628] at X628
    obtain ⟨hr628, N628q, eh628⟩ := hQ628
    rw [hr628] at st628
    rw [N628q, List.append_nil] at X628
    refine Go.via (st628) ?_
    clear st628
    have e628 : T628.heap = h0 := eh628
    clear X627 e627
    show Go p e below (T628.setTop (mkF m 16 #[vr a, vi (0 : Int32), .unset] [])) _
    refine Go.via (fun _ => XS.aloadN X628.here hx rfl (hb hby d21_16) rfl rfl) ?_
    obtain ⟨T629, X629, e629, st629⟩ := getF X628 hx hZ hown (host := "") (Or.inl (tw hw 32 rfl)) Via.refl e628 P2 (g := (mkF m 17 #[vr a, vi (0 : Int32), .unset] [(.ref a)])) rfl rfl (hb hby d21_17)
    refine Go.via (st629) ?_
    clear st629
    clear X628 e628
    show Go p e below (T629.setTop (mkF m 20 #[vr a, vi (0 : Int32), .unset] [(.ref b_)])) _
    refine Go.via (fun _ => XS.iloadN X629.here hx rfl (hb hby d21_20) rfl) ?_
    refine Go.via (ldB X629 hx hZ e629 P3 (v := (lbF y0)) (by decide) rfl (g := (mkF m 21 #[vr a, vi (0 : Int32), .unset] [(.int (0 : Int32)), (.ref b_)])) rfl rfl (hb hby d21_21)) ?_
    show Go p e below (T629.setTop (mkF m 22 #[vr a, vi (0 : Int32), .unset] [(.int (lbF y0))])) _
    refine Go.via (fun _ => XS.sipush X629.here hx rfl (hb hby d21_22)) ?_
    refine Go.via (fun _ => XS.iand X629.here hx rfl (hb hby d21_25) rfl) ?_
    exact Go.fin X629 hlk (v := some (.int ((lbF y0) &&& (255 : Int32)))) (fun h => by rw [Bd.returns] at h; cases h) (fun fs hr => OwnKit.retI X629 hx Bd.returns (hb hby d21_26) hr) (by rw [e629]; exact ⟨(congrArg (fun qq => some (Value.int qq)) ((own_lb hc0 hl0).trans (own_cpl hl0).symm)), rfl, rfl⟩) (by decide) (by decide)
  · subst hi
    show Go p e below (s₁.setTop (mkF m 0 #[vr a, vi (0 : Int32), .unset] [])) _
    refine Go.via (fun _ => XS.aloadN X0.here hx rfl (hb hby d21_0) rfl rfl) ?_
    obtain ⟨cq630, kq630, q630a, q630b, q630c⟩ := isOf hZ e0 P0
    obtain ⟨r630, _, ⟨T630, L630, k630, n630⟩, -, X630, ⟨Lc630, hQ630, l630, y630, z630⟩, st630⟩ := X0.virtualBack hx (y := (⟨cST, "isLatin1", "()Z"⟩ : MethodName)) (z := (⟨cST, "isLatin1", "()Z"⟩ : MethodName)) hown (mvT hZ (tw hw 102 rfl)) (mvT hZ (tw hw 103 rfl)) (notFace_of_selects (args := #[]) (mvT hZ (tw hw 105 rfl))) (mvT hZ (tw hw 105 rfl)) (mvT hZ (tw hw 104 rfl)) (by decide) (backOf (W := 0) (rmIL1 l Z a0 hw [] a cs h0 n0 Z0 P1 P4 zCS hcs) hZ (tw hw 106 rfl) (tw hw 14 rfl) (by decide) (by decide)) q630a q630c (g := (mkF m 1 #[vr a, vi (0 : Int32), .unset] [(.ref a)])) rfl (by rw [hml]; rfl) (Steps.refl _) (argsL := []) (rest := []) (lenOf pd__28_29Z rfl) rfl (by show 2 * 0 + _ ≤ _; exact Nat.le_of_eq rfl) (hb hby d21_1) (fun _ _ => ⟨rfl, e0, (by decide : 0 + 0 ≤ _), (by decide : 0 + 0 ≤ _)⟩)
    dsimp only [Pt.U, Pt.locs, Pt.cells, Pt.slots] at X630 l630 y630 z630 st630 hQ630
    rw [l630, y630, z630] at X630
    obtain ⟨hr630, N630q, eh630⟩ := hQ630
    rw [hr630] at st630
    rw [N630q, List.append_nil] at X630
    refine Go.via (fun _ kQ => st630.trans kQ) ?_
    clear st630
    have e630 : T630.heap = h0 := eh630
    clear X0 e0
    show Go p e below (T630.setTop (mkF m 4 #[vr a, vi (0 : Int32), .unset] [(.int (0 : Int32))])) _
    refine Go.via (fun _ => XS.ifYes X630.here hx rfl (pc0 := 4) (pc' := 27) rfl (hb hby d21_4) rfl ((if0 _ _).trans (teq ((by decide) : (0 : Int32) = (0 : Int32))).1) (by decide) (by decide)) ?_
    refine Go.via (fun _ => XS.aloadN X630.here hx rfl (hb hby d21_27) rfl rfl) ?_
    obtain ⟨T631, X631, e631, st631⟩ := getF X630 hx hZ hown (host := "") (Or.inl (tw hw 32 rfl)) Via.refl e630 P2 (g := (mkF m 28 #[vr a, vi (0 : Int32), .unset] [(.ref a)])) rfl rfl (hb hby d21_28)
    refine Go.via (st631) ?_
    clear st631
    clear X630 e630
    show Go p e below (T631.setTop (mkF m 31 #[vr a, vi (0 : Int32), .unset] [(.ref b_)])) _
    refine Go.via (lenI X631 hx hZ e631 P3 (n := (4 : Int32)) rfl (g := (mkF m 31 #[vr a, vi (0 : Int32), .unset] [(.ref b_)])) rfl rfl (hb hby d21_31)) ?_
    show Go p e below (T631.setTop (mkF m 32 #[vr a, vi (0 : Int32), .unset] [(.int (4 : Int32))])) _
    refine Go.via (fun _ => XS.iconst X631.here hx rfl (hb hby d21_32)) ?_
    refine Go.via (fun _ => XS.ishr X631.here hx rfl (hb hby d21_33) rfl) ?_
    refine Go.via (fun _ => XS.istoreN X631.here hx rfl (hb hby d21_34) rfl (l' := #[vr a, vi (0 : Int32), vi (2 : Int32)]) rfl) ?_
    refine Go.via (fun _ => XS.iloadN X631.here hx rfl (hb hby d21_35) rfl) ?_
    refine Go.via (fun _ => XS.iloadN X631.here hx rfl (hb hby d21_36) rfl) ?_
    obtain ⟨r632, _, ⟨T632, L632, k632, n632⟩, -, X632, ⟨Lc632, hQ632, l632, y632, z632⟩, st632⟩ := Jvm.LawKit.callS X631 hx (y := (⟨cST, "checkIndex", "(II)V"⟩ : MethodName)) hown (mvT hZ (tw hw 107 rfl)) (mvT hZ (tw hw 108 rfl)) (mvT hZ (tw hw 14 rfl)) (mvT hZ (tw hw 109 rfl)) (by decide) (backOf (W := 0) (rmCx l Z a0 hw [] (0 : Int32) (2 : Int32) fv h0 n0 Z0 P4 zF (by first | decide | (simp only [List.length_cons, List.length_nil]; decide) | rfl) (by first | decide | (simp only [List.length_cons, List.length_nil]; decide) | rfl) hfv) hZ (tw hw 109 rfl) (tw hw 14 rfl) (by decide) (by decide)) (g := (mkF m 37 #[vr a, vi (0 : Int32), vi (2 : Int32)] [(.int (2 : Int32)), (.int (0 : Int32))])) rfl (by rw [hml]; rfl) (argsL := [(.int (0 : Int32)), (.int (2 : Int32))]) (rest := []) (lenOf pd__28II_29V rfl) rfl (by show 2 * 0 + _ ≤ _; exact Nat.le_of_eq rfl) (hb hby d21_37) (fun _ _ => ⟨rfl, e631, (by decide : 0 + 0 ≤ _), (by decide : 0 + 0 ≤ _)⟩)
    dsimp only [Pt.U, Pt.locs, Pt.cells, Pt.slots] at X632 l632 y632 z632 st632 hQ632
    rw [l632, y632, z632] at X632
    obtain ⟨hr632, N632q, eh632⟩ := hQ632
    rw [hr632] at st632
    rw [N632q, List.append_nil] at X632
    refine Go.via (st632) ?_
    clear st632
    have e632 : T632.heap = h0 := eh632
    clear X631 e631
    show Go p e below (T632.setTop (mkF m 40 #[vr a, vi (0 : Int32), vi (2 : Int32)] [])) _
    refine Go.via (fun _ => XS.aloadN X632.here hx rfl (hb hby d21_40) rfl rfl) ?_
    obtain ⟨T633, X633, e633, st633⟩ := getF X632 hx hZ hown (host := "") (Or.inl (tw hw 32 rfl)) Via.refl e632 P2 (g := (mkF m 41 #[vr a, vi (0 : Int32), vi (2 : Int32)] [(.ref a)])) rfl rfl (hb hby d21_41)
    refine Go.via (st633) ?_
    clear st633
    clear X632 e632
    show Go p e below (T633.setTop (mkF m 44 #[vr a, vi (0 : Int32), vi (2 : Int32)] [(.ref b_)])) _
    refine Go.via (fun _ => XS.iloadN X633.here hx rfl (hb hby d21_44) rfl) ?_
    refine Go.via (fun _ => XS.iloadN X633.here hx rfl (hb hby d21_45) rfl) ?_
    obtain ⟨r634, _, ⟨T634, L634, k634, n634⟩, -, X634, ⟨Lc634, hQ634, l634, y634, z634⟩, st634⟩ := Jvm.LawKit.callS X633 hx (y := (⟨cU6, "codePointAt", "([BII)I"⟩ : MethodName)) hown (mvT hZ (tw hw 115 rfl)) (mvT hZ (tw hw 116 rfl)) (mvT hZ (tw hw 66 rfl)) (mvT hZ (tw hw 117 rfl)) (by decide) (backOf (W := 0) (rmU3_20 l Z a0 hw [] b_ (0 : Int32) (2 : Int32) (loF y0) (hiF y0) (loF y1) (hiF y1) y0 y1 h0 n0 Z0 P3 P4 zAD zHI zLO rfl rfl (own_gc hc0) (own_gc hc1)) hZ (tw hw 117 rfl) (tw hw 66 rfl) (by decide) (by decide)) (g := (mkF m 46 #[vr a, vi (0 : Int32), vi (2 : Int32)] [(.int (2 : Int32)), (.int (0 : Int32)), (.ref b_)])) rfl (by rw [hml]; rfl) (argsL := [(.ref b_), (.int (0 : Int32)), (.int (2 : Int32))]) (rest := []) (lenOf pd__28_5bBII_29I rfl) rfl (by show 2 * 0 + _ ≤ _; exact Nat.le_of_eq rfl) (hb hby d21_46) (fun _ _ => ⟨rfl, e633, (by decide : 0 + 0 ≤ _), (by decide : 0 + 0 ≤ _)⟩)
    dsimp only [Pt.U, Pt.locs, Pt.cells, Pt.slots] at X634 l634 y634 z634 st634 hQ634
    rw [l634, y634, z634] at X634
    obtain ⟨hr634, N634q, eh634⟩ := hQ634
    rw [hr634] at st634
    rw [N634q, List.append_nil] at X634
    refine Go.via (st634) ?_
    clear st634
    have e634 : T634.heap = h0 := eh634
    clear X633 e633
    show Go p e below (T634.setTop (mkF m 49 #[vr a, vi (0 : Int32), vi (2 : Int32)] [(.int (cp2 y0 y1))])) _
    exact Go.fin X634 hlk (v := some (.int (cp2 y0 y1))) (fun h => by rw [Bd.returns] at h; cases h) (fun fs hr => OwnKit.retI X634 hx Bd.returns (hb hby d21_49) hr) (by rw [e634]; exact ⟨rfl, rfl, rfl⟩) (by decide) (by decide)
def Q_rmU4_21 (Z : State) (b_ : Addr) (i : Int32) (n : Int32) (q_ : Int32) (w0_ : Int32) (w1_ : Int32) (w2_ : Int32) (w3_ : Int32) (c0 : Int32) (c1 : Int32) (h0 : Heap) (n0 : Nat) (vQ : Option Value) (hQ : Heap) (LQ : List Loc) : Prop := vQ = some (.int c1) ∧ LQ = [] ∧ hQ = h0
set_option maxRecDepth 65536 in
set_option maxHeartbeats 40000000 in
theorem rmU4_21 (l : Launch) (Z : State) (a0 : Array Value) (hw : ∀ d ∈ tables_1, d.before a0 Z = true) (ws : List Jvm.Cond) (b_ : Addr) (i : Int32) (n : Int32) (q_ : Int32) (w0_ : Int32) (w1_ : Int32) (w2_ : Int32) (w3_ : Int32) (c0 : Int32) (c1 : Int32) (h0 : Heap) (n0 : Nat) (Z0 : n0 ≤ h0.size) (P0 : Ia Z h0 b_ .byte [w0_, w1_, w2_, w3_]) (P1 : Old Z n0 h0) (zAD : Sta Z Z.heap cU6 "$assertionsDisabled" "Z" (.int (1 : Int32))) (zHI : Sta Z Z.heap cU6 "HI_BYTE_SHIFT" "I" (.int (0 : Int32))) (zLO : Sta Z Z.heap cU6 "LO_BYTE_SHIFT" "I" (.int (8 : Int32))) (hi : i = 1) (hn : n = 2) (hq : q_ = 0) (hg0 : (gcF w0_ w1_) = c0) (hg1 : (gcF w2_ w3_) = c1) :
    MetFree l (⟨cU6, "codePointAt", "([BIIZ)I"⟩ : MethodName) (head1 (Jvm.Cond.code (⟨cU6, "codePointAt", "([BIIZ)I"⟩ : MethodName) jdk_52_method_7_code 6 (some .int) :: ws) ({ frames := 1, cells := 0, slots := 0, locals := 13 } : Room)) (fun aQ UQ => aQ = #[(.ref b_), (.int i), (.int n), (.int q_)] ∧ Z.Warmed39 UQ.vm ∧ UQ.heap = h0) (fun _ _ _ _ _ => True) (fun _ UQ oQ UR => ∃ vQ LQ, oQ = .returned vQ ∧ Q_rmU4_21 Z b_ i n q_ w0_ w1_ w2_ w3_ c0 c1 h0 n0 vQ UR.heap LQ ∧ FrameEnd UQ oQ UR LQ ({ frames := 1, cells := 0, slots := 0, locals := 13 } : Room).cells ({ frames := 1, cells := 0, slots := 0, locals := 13 } : Room).slots) := by
  refine MetFree.of_bodySF (plainFor_of_name pn_26) hisR ?_
  intro p e s m args below meth c s₁ Bd hml0 hP hK
  obtain ⟨rfl, hZ, hh⟩ := hP
  have hx := Bd.exec
  have hby := Bd.bytes
  have hlk := Bd.notSynchronized
  have hml : c.maxLocals = 6 := hml0
  have hown : s.vm.findClass cU6 = some m.cls := findClass_of_methodNamed Bd.named
  have hnm := (name_of_methodNamed Bd.named Bd.method).1
  have X0 : Stand p l e ({ frames := 1, cells := 0, slots := 0, locals := 13 } : Room) s m #[(.ref b_), (.int i), (.int n), (.int q_)] below meth c s₁ [] 0 0 := Stand.of_body Bd
  have e0 : s₁.heap = h0 := by rw [← hh, Bd.state]; rfl
  have N0 := Fr.nil n0
  show Go p e below _ (Done s (Q_rmU4_21 Z b_ i n q_ w0_ w1_ w2_ w3_ c0 c1 h0 n0) ({ frames := 1, cells := 0, slots := 0, locals := 13 } : Room).cells ({ frames := 1, cells := 0, slots := 0, locals := 13 } : Room).slots)
  refine Go.via (fun tQ kQ => castTop (ef_26 m b_ i n q_) kQ) ?_
  show Go p e below (s₁.setTop (mkF m 0 #[vr b_, vi i, vi n, vi q_, .unset, .unset] [])) _
  · subst hi hn hq
    show Go p e below (s₁.setTop (mkF m 0 #[vr b_, vi (1 : Int32), vi (2 : Int32), vi (0 : Int32), .unset, .unset] [])) _
    have f635 : Sta Z h0 cU6 "$assertionsDisabled" "Z" (.int (1 : Int32)) := zAD.ext P1.2
    obtain ⟨T636, X636, e636, st636⟩ := getS2 X0 hx hZ hown (host := "") (Or.inl (tw hw 84 rfl)) Via.refl e0 f635 (g := (mkF m 0 #[vr b_, vi (1 : Int32), vi (2 : Int32), vi (0 : Int32), .unset, .unset] [])) rfl (hb hby d26_0)
    refine Go.via (st636) ?_
    clear st636
    clear X0 e0
    show Go p e below (T636.setTop (mkF m 3 #[vr b_, vi (1 : Int32), vi (2 : Int32), vi (0 : Int32), .unset, .unset] [(.int (1 : Int32))])) _
    refine Go.via (fun _ => XS.ifYes X636.here hx rfl (pc0 := 3) (pc' := 19) rfl (hb hby d26_3) rfl ((if0 _ _).trans (feq ((by decide) : ¬ ((1 : Int32) = (0 : Int32)))).2) (by decide) (by decide)) ?_
    refine Go.via (fun _ => XS.iloadN X636.here hx rfl (hb hby d26_19) rfl) ?_
    refine Go.via (fun _ => XS.ifYes X636.here hx rfl (pc0 := 20) (pc' := 28) rfl (hb hby d26_20) rfl ((if0 _ _).trans (teq ((by decide) : (0 : Int32) = (0 : Int32))).1) (by decide) (by decide)) ?_
    refine Go.via (fun _ => XS.aloadN X636.here hx rfl (hb hby d26_28) rfl rfl) ?_
    refine Go.via (fun _ => XS.iloadN X636.here hx rfl (hb hby d26_29) rfl) ?_
    obtain ⟨r637, _, ⟨T637, L637, k637, n637⟩, -, X637, ⟨Lc637, hQ637, l637, y637, z637⟩, st637⟩ := Jvm.LawKit.callS X636 hx (y := (⟨cU6, "getChar", "([BI)C"⟩ : MethodName)) hown (mvT hZ (tw hw 87 rfl)) (mvT hZ (tw hw 88 rfl)) (mvT hZ (tw hw 66 rfl)) (mvT hZ (tw hw 89 rfl)) (by decide) (backOf (W := 0) (rmGe21 l Z a0 hw [] b_ (1 : Int32) w0_ w1_ w2_ w3_ c1 h0 n0 Z0 P0 P1 zAD zHI zLO rfl hg1) hZ (tw hw 89 rfl) (tw hw 66 rfl) (by decide) (by decide)) (g := (mkF m 30 #[vr b_, vi (1 : Int32), vi (2 : Int32), vi (0 : Int32), .unset, .unset] [(.int (1 : Int32)), (.ref b_)])) rfl (by rw [hml]; rfl) (argsL := [(.ref b_), (.int (1 : Int32))]) (rest := []) (lenOf pd__28_5bBI_29C rfl) rfl (by show 2 * 0 + _ ≤ _; exact Nat.le_of_eq rfl) (hb hby d26_30) (fun _ _ => ⟨rfl, e636, (by decide : 0 + 0 ≤ _), (by decide : 0 + 0 ≤ _)⟩)
    dsimp only [Pt.U, Pt.locs, Pt.cells, Pt.slots] at X637 l637 y637 z637 st637 hQ637
    rw [l637, y637, z637] at X637
    obtain ⟨hr637, N637q, eh637⟩ := hQ637
    rw [hr637] at st637
    rw [N637q, List.append_nil] at X637
    refine Go.via (st637) ?_
    clear st637
    have e637 : T637.heap = h0 := eh637
    clear X636 e636
    show Go p e below (T637.setTop (mkF m 33 #[vr b_, vi (1 : Int32), vi (2 : Int32), vi (0 : Int32), .unset, .unset] [(.int c1)])) _
    refine Go.via (fun _ => XS.istore X637.here hx rfl (hb hby d26_33) rfl (l' := #[vr b_, vi (1 : Int32), vi (2 : Int32), vi (0 : Int32), vi c1, .unset]) rfl) ?_
    refine Go.via (fun _ => XS.iload X637.here hx rfl (hb hby d26_35) rfl) ?_
    obtain ⟨r638, _, ⟨T638, L638, k638, n638⟩, -, X638, ⟨Lc638, hQ638, l638, y638, z638⟩, st638⟩ := Jvm.LawKit.callS X637 hx (y := (⟨"java/lang/Character", "isHighSurrogate", "(C)Z"⟩ : MethodName)) hown (mvT hZ (tw hw 121 rfl)) (mvT hZ (tw hw 122 rfl)) (mvT hZ (tw hw 123 rfl)) (mvT hZ (tw hw 124 rfl)) (by decide) (backOf (W := 0) (rmHs l Z a0 hw [] c1  h0 n0 Z0) hZ (tw hw 124 rfl) (tw hw 123 rfl) (by decide) (by decide)) (g := (mkF m 37 #[vr b_, vi (1 : Int32), vi (2 : Int32), vi (0 : Int32), vi c1, .unset] [(.int c1)])) rfl (by rw [hml]; rfl) (argsL := [(.int c1)]) (rest := []) (lenOf pd__28C_29Z rfl) rfl (by show 2 * 0 + _ ≤ _; exact Nat.le_of_eq rfl) (hb hby d26_37) (fun _ _ => ⟨rfl, e637, (by decide : 0 + 0 ≤ _), (by decide : 0 + 0 ≤ _)⟩)
    dsimp only [Pt.U, Pt.locs, Pt.cells, Pt.slots] at X638 l638 y638 z638 st638 hQ638
    rw [l638, y638, z638] at X638
    obtain ⟨hr638, N638q, eh638⟩ := hQ638
    rw [hr638] at st638
    rw [N638q, List.append_nil] at X638
    refine Go.via (st638) ?_
    clear st638
    have e638 : T638.heap = h0 := eh638
    clear X637 e637
    show Go p e below (T638.setTop (mkF m 40 #[vr b_, vi (1 : Int32), vi (2 : Int32), vi (0 : Int32), vi c1, .unset] [(.int (ihF c1))])) _
    by_cases hc639 : (ihF c1) = (0 : Int32)
    · refine Go.via (fun _ => XS.ifYes X638.here hx rfl (pc0 := 40) (pc' := 83) rfl (hb hby d26_40) rfl ((if0 _ _).trans (teq (hc639 : (ihF c1) = (0 : Int32))).1) (by decide) (by decide)) ?_
      show Go p e below (T638.setTop (mkF m 83 #[vr b_, vi (1 : Int32), vi (2 : Int32), vi (0 : Int32), vi c1, .unset] [])) _
      refine Go.via (fun _ => XS.iload X638.here hx rfl (hb hby d26_83) rfl) ?_
      exact Go.fin X638 hlk (v := some (.int c1)) (fun h => by rw [Bd.returns] at h; cases h) (fun fs hr => OwnKit.retI X638 hx Bd.returns (hb hby d26_85) hr) (by rw [e638]; exact ⟨rfl, rfl, rfl⟩) (by decide) (by decide)
    · refine Go.via (fun _ => XS.ifNo X638.here hx rfl (hb hby d26_40) rfl ((if0 _ _).trans (feq (hc639 : ¬ ((ihF c1) = (0 : Int32)))).1)) ?_
      show Go p e below (T638.setTop (mkF m 43 #[vr b_, vi (1 : Int32), vi (2 : Int32), vi (0 : Int32), vi c1, .unset] [])) _
      refine Go.via (fun _ => XS.iinc X638.here hx rfl (hb hby d26_43) rfl (l' := #[vr b_, vi (2 : Int32), vi (2 : Int32), vi (0 : Int32), vi c1, .unset]) rfl) ?_
      refine Go.via (fun _ => XS.iloadN X638.here hx rfl (hb hby d26_46) rfl) ?_
      refine Go.via (fun _ => XS.iloadN X638.here hx rfl (hb hby d26_47) rfl) ?_
      refine Go.via (fun _ => XS.icmpYes X638.here hx rfl (pc0 := 48) (pc' := 83) rfl (hb hby d26_48) rfl (flt ((by decide) : ¬ ((2 : Int32) < (2 : Int32)))).2.1 (by decide) (by decide)) ?_
      refine Go.via (fun _ => XS.iload X638.here hx rfl (hb hby d26_83) rfl) ?_
      exact Go.fin X638 hlk (v := some (.int c1)) (fun h => by rw [Bd.returns] at h; cases h) (fun fs hr => OwnKit.retI X638 hx Bd.returns (hb hby d26_85) hr) (by rw [e638]; exact ⟨rfl, rfl, rfl⟩) (by decide) (by decide)
def Q_rmU3_21 (Z : State) (b_ : Addr) (i : Int32) (n : Int32) (w0_ : Int32) (w1_ : Int32) (w2_ : Int32) (w3_ : Int32) (c0 : Int32) (c1 : Int32) (h0 : Heap) (n0 : Nat) (vQ : Option Value) (hQ : Heap) (LQ : List Loc) : Prop := vQ = some (.int c1) ∧ LQ = [] ∧ hQ = h0
set_option maxRecDepth 65536 in
set_option maxHeartbeats 40000000 in
theorem rmU3_21 (l : Launch) (Z : State) (a0 : Array Value) (hw : ∀ d ∈ tables_1, d.before a0 Z = true) (ws : List Jvm.Cond) (b_ : Addr) (i : Int32) (n : Int32) (w0_ : Int32) (w1_ : Int32) (w2_ : Int32) (w3_ : Int32) (c0 : Int32) (c1 : Int32) (h0 : Heap) (n0 : Nat) (Z0 : n0 ≤ h0.size) (P0 : Ia Z h0 b_ .byte [w0_, w1_, w2_, w3_]) (P1 : Old Z n0 h0) (zAD : Sta Z Z.heap cU6 "$assertionsDisabled" "Z" (.int (1 : Int32))) (zHI : Sta Z Z.heap cU6 "HI_BYTE_SHIFT" "I" (.int (0 : Int32))) (zLO : Sta Z Z.heap cU6 "LO_BYTE_SHIFT" "I" (.int (8 : Int32))) (hi : i = 1) (hn : n = 2) (hg0 : (gcF w0_ w1_) = c0) (hg1 : (gcF w2_ w3_) = c1) :
    MetFree l (⟨cU6, "codePointAt", "([BII)I"⟩ : MethodName) (head1 (Jvm.Cond.code (⟨cU6, "codePointAt", "([BII)I"⟩ : MethodName) jdk_52_method_8_code 3 (some .int) :: ws) ({ frames := 2, cells := 0, slots := 0, locals := 30 } : Room)) (fun aQ UQ => aQ = #[(.ref b_), (.int i), (.int n)] ∧ Z.Warmed39 UQ.vm ∧ UQ.heap = h0) (fun _ _ _ _ _ => True) (fun _ UQ oQ UR => ∃ vQ LQ, oQ = .returned vQ ∧ Q_rmU3_21 Z b_ i n w0_ w1_ w2_ w3_ c0 c1 h0 n0 vQ UR.heap LQ ∧ FrameEnd UQ oQ UR LQ ({ frames := 2, cells := 0, slots := 0, locals := 30 } : Room).cells ({ frames := 2, cells := 0, slots := 0, locals := 30 } : Room).slots) := by
  refine MetFree.of_bodySF (plainFor_of_name pn_25) hisR ?_
  intro p e s m args below meth c s₁ Bd hml0 hP hK
  obtain ⟨rfl, hZ, hh⟩ := hP
  have hx := Bd.exec
  have hby := Bd.bytes
  have hlk := Bd.notSynchronized
  have hml : c.maxLocals = 3 := hml0
  have hown : s.vm.findClass cU6 = some m.cls := findClass_of_methodNamed Bd.named
  have hnm := (name_of_methodNamed Bd.named Bd.method).1
  have X0 : Stand p l e ({ frames := 2, cells := 0, slots := 0, locals := 30 } : Room) s m #[(.ref b_), (.int i), (.int n)] below meth c s₁ [] 0 0 := Stand.of_body Bd
  have e0 : s₁.heap = h0 := by rw [← hh, Bd.state]; rfl
  have N0 := Fr.nil n0
  show Go p e below _ (Done s (Q_rmU3_21 Z b_ i n w0_ w1_ w2_ w3_ c0 c1 h0 n0) ({ frames := 2, cells := 0, slots := 0, locals := 30 } : Room).cells ({ frames := 2, cells := 0, slots := 0, locals := 30 } : Room).slots)
  refine Go.via (fun tQ kQ => castTop (ef_25 m b_ i n) kQ) ?_
  show Go p e below (s₁.setTop (mkF m 0 #[vr b_, vi i, vi n] [])) _
  · subst hi hn
    show Go p e below (s₁.setTop (mkF m 0 #[vr b_, vi (1 : Int32), vi (2 : Int32)] [])) _
    refine Go.via (fun _ => XS.aloadN X0.here hx rfl (hb hby d25_0) rfl rfl) ?_
    refine Go.via (fun _ => XS.iloadN X0.here hx rfl (hb hby d25_1) rfl) ?_
    refine Go.via (fun _ => XS.iloadN X0.here hx rfl (hb hby d25_2) rfl) ?_
    refine Go.via (fun _ => XS.iconst X0.here hx rfl (hb hby d25_3)) ?_
    obtain ⟨r640, _, ⟨T640, L640, k640, n640⟩, -, X640, ⟨Lc640, hQ640, l640, y640, z640⟩, st640⟩ := Jvm.LawKit.callS X0 hx (y := (⟨cU6, "codePointAt", "([BIIZ)I"⟩ : MethodName)) hown (mvT hZ (tw hw 118 rfl)) (mvT hZ (tw hw 119 rfl)) (mvT hZ (tw hw 66 rfl)) (mvT hZ (tw hw 120 rfl)) (by decide) (backOf (W := 0) (rmU4_21 l Z a0 hw [] b_ (1 : Int32) (2 : Int32) (0 : Int32) w0_ w1_ w2_ w3_ c0 c1 h0 n0 Z0 P0 P1 zAD zHI zLO rfl rfl rfl hg0 hg1) hZ (tw hw 120 rfl) (tw hw 66 rfl) (by decide) (by decide)) (g := (mkF m 4 #[vr b_, vi (1 : Int32), vi (2 : Int32)] [(.int (0 : Int32)), (.int (2 : Int32)), (.int (1 : Int32)), (.ref b_)])) rfl (by rw [hml]; rfl) (argsL := [(.ref b_), (.int (1 : Int32)), (.int (2 : Int32)), (.int (0 : Int32))]) (rest := []) (lenOf pd__28_5bBIIZ_29I rfl) rfl (by show 2 * 0 + _ ≤ _; exact Nat.le_of_eq rfl) (hb hby d25_4) (fun _ _ => ⟨rfl, e0, (by decide : 0 + 0 ≤ _), (by decide : 0 + 0 ≤ _)⟩)
    dsimp only [Pt.U, Pt.locs, Pt.cells, Pt.slots] at X640 l640 y640 z640 st640 hQ640
    rw [l640, y640, z640] at X640
    obtain ⟨hr640, N640q, eh640⟩ := hQ640
    rw [hr640] at st640
    rw [N640q, List.append_nil] at X640
    refine Go.via (st640) ?_
    clear st640
    have e640 : T640.heap = h0 := eh640
    clear X0 e0
    show Go p e below (T640.setTop (mkF m 7 #[vr b_, vi (1 : Int32), vi (2 : Int32)] [(.int c1)])) _
    exact Go.fin X640 hlk (v := some (.int c1)) (fun h => by rw [Bd.returns] at h; cases h) (fun fs hr => OwnKit.retI X640 hx Bd.returns (hb hby d25_7) hr) (by rw [e640]; exact ⟨rfl, rfl, rfl⟩) (by decide) (by decide)
def Q_rmSc_21 (Z : State) (a : Addr) (i : Int32) (cs : Int32) (fv : Value) (b_ : Addr) (co : Int32) (ys : List Int32) (y0 : Int32) (y1 : Int32) (h0 : Heap) (n0 : Nat) (vQ : Option Value) (hQ : Heap) (LQ : List Loc) : Prop := vQ = some (.int y1) ∧ LQ = [] ∧ hQ = h0
set_option maxRecDepth 65536 in
set_option maxHeartbeats 40000000 in
theorem rmSc_21 (l : Launch) (Z : State) (a0 : Array Value) (hw : ∀ d ∈ tables_1, d.before a0 Z = true) (ws : List Jvm.Cond) (a : Addr) (i : Int32) (cs : Int32) (fv : Value) (b_ : Addr) (co : Int32) (ys : List Int32) (y0 : Int32) (y1 : Int32) (h0 : Heap) (n0 : Nat) (Z0 : n0 ≤ h0.size) (P0 : Exa Z h0 a cST) (P1 : Fld Z h0 a cST "coder" "B" (.int co)) (P2 : Fld Z h0 a cST "value" "[B" (.ref b_)) (P3 : Ia Z h0 b_ .byte ys) (P4 : Old Z n0 h0) (zCS : Sta Z Z.heap cST "COMPACT_STRINGS" "Z" (.int cs)) (zF : Sta Z Z.heap cPR "SIOOBE_FORMATTER" "Ljava/util/function/BiFunction;" fv) (zAD : Sta Z Z.heap cU6 "$assertionsDisabled" "Z" (.int (1 : Int32))) (zHI : Sta Z Z.heap cU6 "HI_BYTE_SHIFT" "I" (.int (0 : Int32))) (zLO : Sta Z Z.heap cU6 "LO_BYTE_SHIFT" "I" (.int (8 : Int32))) (hcs : ¬ (cs = (0 : Int32))) (hfv : fv = .null ∨ ∃ fa : Addr, fv = .ref fa) (hi : i = 1) (hR : Rep [y0, y1] co ys) :
    MetFree l (⟨cST, "codePointAt", "(I)I"⟩ : MethodName) (head1 (Jvm.Cond.code (⟨cST, "codePointAt", "(I)I"⟩ : MethodName) jdk_42_method_57_code 3 (some .int) :: ws) ({ frames := 3, cells := 0, slots := 0, locals := 44 } : Room)) (fun aQ UQ => aQ = #[(.ref a), (.int i)] ∧ Z.Warmed39 UQ.vm ∧ UQ.heap = h0) (fun _ _ _ _ _ => True) (fun _ UQ oQ UR => ∃ vQ LQ, oQ = .returned vQ ∧ Q_rmSc_21 Z a i cs fv b_ co ys y0 y1 h0 n0 vQ UR.heap LQ ∧ FrameEnd UQ oQ UR LQ ({ frames := 3, cells := 0, slots := 0, locals := 44 } : Room).cells ({ frames := 3, cells := 0, slots := 0, locals := 44 } : Room).slots) := by
  refine MetFree.of_bodySF (plainFor_of_name pn_21) hisR ?_
  intro p e s m args below meth c s₁ Bd hml0 hP hK
  obtain ⟨rfl, hZ, hh⟩ := hP
  have hx := Bd.exec
  have hby := Bd.bytes
  have hlk := Bd.notSynchronized
  have hml : c.maxLocals = 3 := hml0
  have hown : s.vm.findClass cST = some m.cls := findClass_of_methodNamed Bd.named
  have hnm := (name_of_methodNamed Bd.named Bd.method).1
  have X0 : Stand p l e ({ frames := 3, cells := 0, slots := 0, locals := 44 } : Room) s m #[(.ref a), (.int i)] below meth c s₁ [] 0 0 := Stand.of_body Bd
  have e0 : s₁.heap = h0 := by rw [← hh, Bd.state]; rfl
  have N0 := Fr.nil n0
  show Go p e below _ (Done s (Q_rmSc_21 Z a i cs fv b_ co ys y0 y1 h0 n0) ({ frames := 3, cells := 0, slots := 0, locals := 44 } : Room).cells ({ frames := 3, cells := 0, slots := 0, locals := 44 } : Room).slots)
  refine Go.via (fun tQ kQ => castTop (ef_21 m a i) kQ) ?_
  show Go p e below (s₁.setTop (mkF m 0 #[vr a, vi i, .unset] [])) _
  rcases own_rep2 hR with ⟨rfl, rfl, hc0, hc1, hl0, hl1⟩ | ⟨rfl, rfl, hc0, hc1⟩
  · subst hi
    show Go p e below (s₁.setTop (mkF m 0 #[vr a, vi (1 : Int32), .unset] [])) _
    refine Go.via (fun _ => XS.aloadN X0.here hx rfl (hb hby d21_0) rfl rfl) ?_
    obtain ⟨cq641, kq641, q641a, q641b, q641c⟩ := isOf hZ e0 P0
    obtain ⟨r641, _, ⟨T641, L641, k641, n641⟩, -, X641, ⟨Lc641, hQ641, l641, y641, z641⟩, st641⟩ := X0.virtualBack hx (y := (⟨cST, "isLatin1", "()Z"⟩ : MethodName)) (z := (⟨cST, "isLatin1", "()Z"⟩ : MethodName)) hown (mvT hZ (tw hw 102 rfl)) (mvT hZ (tw hw 103 rfl)) (notFace_of_selects (args := #[]) (mvT hZ (tw hw 105 rfl))) (mvT hZ (tw hw 105 rfl)) (mvT hZ (tw hw 104 rfl)) (by decide) (backOf (W := 0) (rmIL0 l Z a0 hw [] a cs h0 n0 Z0 P1 P4 zCS hcs) hZ (tw hw 106 rfl) (tw hw 14 rfl) (by decide) (by decide)) q641a q641c (g := (mkF m 1 #[vr a, vi (1 : Int32), .unset] [(.ref a)])) rfl (by rw [hml]; rfl) (Steps.refl _) (argsL := []) (rest := []) (lenOf pd__28_29Z rfl) rfl (by show 2 * 0 + _ ≤ _; exact Nat.le_of_eq rfl) (hb hby d21_1) (fun _ _ => ⟨rfl, e0, (by decide : 0 + 0 ≤ _), (by decide : 0 + 0 ≤ _)⟩)
    dsimp only [Pt.U, Pt.locs, Pt.cells, Pt.slots] at X641 l641 y641 z641 st641 hQ641
    rw [l641, y641, z641] at X641
    obtain ⟨hr641, N641q, eh641⟩ := hQ641
    rw [hr641] at st641
    rw [N641q, List.append_nil] at X641
    refine Go.via (fun _ kQ => st641.trans kQ) ?_
    clear st641
    have e641 : T641.heap = h0 := eh641
    clear X0 e0
    show Go p e below (T641.setTop (mkF m 4 #[vr a, vi (1 : Int32), .unset] [(.int (1 : Int32))])) _
    refine Go.via (fun _ => XS.ifNo X641.here hx rfl (hb hby d21_4) rfl ((if0 _ _).trans (feq ((by decide) : ¬ ((1 : Int32) = (0 : Int32)))).1)) ?_
    refine Go.via (fun _ => XS.iloadN X641.here hx rfl (hb hby d21_7) rfl) ?_
    refine Go.via (fun _ => XS.aloadN X641.here hx rfl (hb hby d21_8) rfl rfl) ?_
    obtain ⟨T642, X642, e642, st642⟩ := getF X641 hx hZ hown (host := "") (Or.inl (tw hw 32 rfl)) Via.refl e641 P2 (g := (mkF m 9 #[vr a, vi (1 : Int32), .unset] [(.ref a), (.int (1 : Int32))])) rfl rfl (hb hby d21_9)
    refine Go.via (st642) ?_
    clear st642
    clear X641 e641
    show Go p e below (T642.setTop (mkF m 12 #[vr a, vi (1 : Int32), .unset] [(.ref b_), (.int (1 : Int32))])) _
    refine Go.via (lenI X642 hx hZ e642 P3 (n := (2 : Int32)) rfl (g := (mkF m 12 #[vr a, vi (1 : Int32), .unset] [(.ref b_), (.int (1 : Int32))])) rfl rfl (hb hby d21_12)) ?_
    show Go p e below (T642.setTop (mkF m 13 #[vr a, vi (1 : Int32), .unset] [(.int (2 : Int32)), (.int (1 : Int32))])) _
    obtain ⟨r643, _, ⟨T643, L643, k643, n643⟩, -, X643, ⟨Lc643, hQ643, l643, y643, z643⟩, st643⟩ := Jvm.LawKit.callS X642 hx (y := (⟨cST, "checkIndex", "(II)V"⟩ : MethodName)) hown (mvT hZ (tw hw 107 rfl)) (mvT hZ (tw hw 108 rfl)) (mvT hZ (tw hw 14 rfl)) (mvT hZ (tw hw 109 rfl)) (by decide) (backOf (W := 0) (rmCx l Z a0 hw [] (1 : Int32) (2 : Int32) fv h0 n0 Z0 P4 zF (by first | decide | (simp only [List.length_cons, List.length_nil]; decide) | rfl) (by first | decide | (simp only [List.length_cons, List.length_nil]; decide) | rfl) hfv) hZ (tw hw 109 rfl) (tw hw 14 rfl) (by decide) (by decide)) (g := (mkF m 13 #[vr a, vi (1 : Int32), .unset] [(.int (2 : Int32)), (.int (1 : Int32))])) rfl (by rw [hml]; rfl) (argsL := [(.int (1 : Int32)), (.int (2 : Int32))]) (rest := []) (lenOf pd__28II_29V rfl) rfl (by show 2 * 0 + _ ≤ _; exact Nat.le_of_eq rfl) (hb hby d21_13) (fun _ _ => ⟨rfl, e642, (by decide : 0 + 0 ≤ _), (by decide : 0 + 0 ≤ _)⟩)
    dsimp only [Pt.U, Pt.locs, Pt.cells, Pt.slots] at X643 l643 y643 z643 st643 hQ643
    rw [l643, y643, z643] at X643
    obtain ⟨hr643, N643q, eh643⟩ := hQ643
    rw [hr643] at st643
    rw [N643q, List.append_nil] at X643
    refine Go.via (st643) ?_
    clear st643
    have e643 : T643.heap = h0 := eh643
    clear X642 e642
    show Go p e below (T643.setTop (mkF m 16 #[vr a, vi (1 : Int32), .unset] [])) _
    refine Go.via (fun _ => XS.aloadN X643.here hx rfl (hb hby d21_16) rfl rfl) ?_
    obtain ⟨T644, X644, e644, st644⟩ := getF X643 hx hZ hown (host := "") (Or.inl (tw hw 32 rfl)) Via.refl e643 P2 (g := (mkF m 17 #[vr a, vi (1 : Int32), .unset] [(.ref a)])) rfl rfl (hb hby d21_17)
    refine Go.via (st644) ?_
    clear st644
    clear X643 e643
    show Go p e below (T644.setTop (mkF m 20 #[vr a, vi (1 : Int32), .unset] [(.ref b_)])) _
    refine Go.via (fun _ => XS.iloadN X644.here hx rfl (hb hby d21_20) rfl) ?_
    refine Go.via (ldB X644 hx hZ e644 P3 (v := (lbF y1)) (by decide) rfl (g := (mkF m 21 #[vr a, vi (1 : Int32), .unset] [(.int (1 : Int32)), (.ref b_)])) rfl rfl (hb hby d21_21)) ?_
    show Go p e below (T644.setTop (mkF m 22 #[vr a, vi (1 : Int32), .unset] [(.int (lbF y1))])) _
    refine Go.via (fun _ => XS.sipush X644.here hx rfl (hb hby d21_22)) ?_
    refine Go.via (fun _ => XS.iand X644.here hx rfl (hb hby d21_25) rfl) ?_
    exact Go.fin X644 hlk (v := some (.int ((lbF y1) &&& (255 : Int32)))) (fun h => by rw [Bd.returns] at h; cases h) (fun fs hr => OwnKit.retI X644 hx Bd.returns (hb hby d21_26) hr) (by rw [e644]; exact ⟨(congrArg (fun qq => some (Value.int qq)) (own_lb hc1 hl1)), rfl, rfl⟩) (by decide) (by decide)
  · subst hi
    show Go p e below (s₁.setTop (mkF m 0 #[vr a, vi (1 : Int32), .unset] [])) _
    refine Go.via (fun _ => XS.aloadN X0.here hx rfl (hb hby d21_0) rfl rfl) ?_
    obtain ⟨cq645, kq645, q645a, q645b, q645c⟩ := isOf hZ e0 P0
    obtain ⟨r645, _, ⟨T645, L645, k645, n645⟩, -, X645, ⟨Lc645, hQ645, l645, y645, z645⟩, st645⟩ := X0.virtualBack hx (y := (⟨cST, "isLatin1", "()Z"⟩ : MethodName)) (z := (⟨cST, "isLatin1", "()Z"⟩ : MethodName)) hown (mvT hZ (tw hw 102 rfl)) (mvT hZ (tw hw 103 rfl)) (notFace_of_selects (args := #[]) (mvT hZ (tw hw 105 rfl))) (mvT hZ (tw hw 105 rfl)) (mvT hZ (tw hw 104 rfl)) (by decide) (backOf (W := 0) (rmIL1 l Z a0 hw [] a cs h0 n0 Z0 P1 P4 zCS hcs) hZ (tw hw 106 rfl) (tw hw 14 rfl) (by decide) (by decide)) q645a q645c (g := (mkF m 1 #[vr a, vi (1 : Int32), .unset] [(.ref a)])) rfl (by rw [hml]; rfl) (Steps.refl _) (argsL := []) (rest := []) (lenOf pd__28_29Z rfl) rfl (by show 2 * 0 + _ ≤ _; exact Nat.le_of_eq rfl) (hb hby d21_1) (fun _ _ => ⟨rfl, e0, (by decide : 0 + 0 ≤ _), (by decide : 0 + 0 ≤ _)⟩)
    dsimp only [Pt.U, Pt.locs, Pt.cells, Pt.slots] at X645 l645 y645 z645 st645 hQ645
    rw [l645, y645, z645] at X645
    obtain ⟨hr645, N645q, eh645⟩ := hQ645
    rw [hr645] at st645
    rw [N645q, List.append_nil] at X645
    refine Go.via (fun _ kQ => st645.trans kQ) ?_
    clear st645
    have e645 : T645.heap = h0 := eh645
    clear X0 e0
    show Go p e below (T645.setTop (mkF m 4 #[vr a, vi (1 : Int32), .unset] [(.int (0 : Int32))])) _
    refine Go.via (fun _ => XS.ifYes X645.here hx rfl (pc0 := 4) (pc' := 27) rfl (hb hby d21_4) rfl ((if0 _ _).trans (teq ((by decide) : (0 : Int32) = (0 : Int32))).1) (by decide) (by decide)) ?_
    refine Go.via (fun _ => XS.aloadN X645.here hx rfl (hb hby d21_27) rfl rfl) ?_
    obtain ⟨T646, X646, e646, st646⟩ := getF X645 hx hZ hown (host := "") (Or.inl (tw hw 32 rfl)) Via.refl e645 P2 (g := (mkF m 28 #[vr a, vi (1 : Int32), .unset] [(.ref a)])) rfl rfl (hb hby d21_28)
    refine Go.via (st646) ?_
    clear st646
    clear X645 e645
    show Go p e below (T646.setTop (mkF m 31 #[vr a, vi (1 : Int32), .unset] [(.ref b_)])) _
    refine Go.via (lenI X646 hx hZ e646 P3 (n := (4 : Int32)) rfl (g := (mkF m 31 #[vr a, vi (1 : Int32), .unset] [(.ref b_)])) rfl rfl (hb hby d21_31)) ?_
    show Go p e below (T646.setTop (mkF m 32 #[vr a, vi (1 : Int32), .unset] [(.int (4 : Int32))])) _
    refine Go.via (fun _ => XS.iconst X646.here hx rfl (hb hby d21_32)) ?_
    refine Go.via (fun _ => XS.ishr X646.here hx rfl (hb hby d21_33) rfl) ?_
    refine Go.via (fun _ => XS.istoreN X646.here hx rfl (hb hby d21_34) rfl (l' := #[vr a, vi (1 : Int32), vi (2 : Int32)]) rfl) ?_
    refine Go.via (fun _ => XS.iloadN X646.here hx rfl (hb hby d21_35) rfl) ?_
    refine Go.via (fun _ => XS.iloadN X646.here hx rfl (hb hby d21_36) rfl) ?_
    obtain ⟨r647, _, ⟨T647, L647, k647, n647⟩, -, X647, ⟨Lc647, hQ647, l647, y647, z647⟩, st647⟩ := Jvm.LawKit.callS X646 hx (y := (⟨cST, "checkIndex", "(II)V"⟩ : MethodName)) hown (mvT hZ (tw hw 107 rfl)) (mvT hZ (tw hw 108 rfl)) (mvT hZ (tw hw 14 rfl)) (mvT hZ (tw hw 109 rfl)) (by decide) (backOf (W := 0) (rmCx l Z a0 hw [] (1 : Int32) (2 : Int32) fv h0 n0 Z0 P4 zF (by first | decide | (simp only [List.length_cons, List.length_nil]; decide) | rfl) (by first | decide | (simp only [List.length_cons, List.length_nil]; decide) | rfl) hfv) hZ (tw hw 109 rfl) (tw hw 14 rfl) (by decide) (by decide)) (g := (mkF m 37 #[vr a, vi (1 : Int32), vi (2 : Int32)] [(.int (2 : Int32)), (.int (1 : Int32))])) rfl (by rw [hml]; rfl) (argsL := [(.int (1 : Int32)), (.int (2 : Int32))]) (rest := []) (lenOf pd__28II_29V rfl) rfl (by show 2 * 0 + _ ≤ _; exact Nat.le_of_eq rfl) (hb hby d21_37) (fun _ _ => ⟨rfl, e646, (by decide : 0 + 0 ≤ _), (by decide : 0 + 0 ≤ _)⟩)
    dsimp only [Pt.U, Pt.locs, Pt.cells, Pt.slots] at X647 l647 y647 z647 st647 hQ647
    rw [l647, y647, z647] at X647
    obtain ⟨hr647, N647q, eh647⟩ := hQ647
    rw [hr647] at st647
    rw [N647q, List.append_nil] at X647
    refine Go.via (st647) ?_
    clear st647
    have e647 : T647.heap = h0 := eh647
    clear X646 e646
    show Go p e below (T647.setTop (mkF m 40 #[vr a, vi (1 : Int32), vi (2 : Int32)] [])) _
    refine Go.via (fun _ => XS.aloadN X647.here hx rfl (hb hby d21_40) rfl rfl) ?_
    obtain ⟨T648, X648, e648, st648⟩ := getF X647 hx hZ hown (host := "") (Or.inl (tw hw 32 rfl)) Via.refl e647 P2 (g := (mkF m 41 #[vr a, vi (1 : Int32), vi (2 : Int32)] [(.ref a)])) rfl rfl (hb hby d21_41)
    refine Go.via (st648) ?_
    clear st648
    clear X647 e647
    show Go p e below (T648.setTop (mkF m 44 #[vr a, vi (1 : Int32), vi (2 : Int32)] [(.ref b_)])) _
    refine Go.via (fun _ => XS.iloadN X648.here hx rfl (hb hby d21_44) rfl) ?_
    refine Go.via (fun _ => XS.iloadN X648.here hx rfl (hb hby d21_45) rfl) ?_
    obtain ⟨r649, _, ⟨T649, L649, k649, n649⟩, -, X649, ⟨Lc649, hQ649, l649, y649, z649⟩, st649⟩ := Jvm.LawKit.callS X648 hx (y := (⟨cU6, "codePointAt", "([BII)I"⟩ : MethodName)) hown (mvT hZ (tw hw 115 rfl)) (mvT hZ (tw hw 116 rfl)) (mvT hZ (tw hw 66 rfl)) (mvT hZ (tw hw 117 rfl)) (by decide) (backOf (W := 0) (rmU3_21 l Z a0 hw [] b_ (1 : Int32) (2 : Int32) (loF y0) (hiF y0) (loF y1) (hiF y1) y0 y1 h0 n0 Z0 P3 P4 zAD zHI zLO rfl rfl (own_gc hc0) (own_gc hc1)) hZ (tw hw 117 rfl) (tw hw 66 rfl) (by decide) (by decide)) (g := (mkF m 46 #[vr a, vi (1 : Int32), vi (2 : Int32)] [(.int (2 : Int32)), (.int (1 : Int32)), (.ref b_)])) rfl (by rw [hml]; rfl) (argsL := [(.ref b_), (.int (1 : Int32)), (.int (2 : Int32))]) (rest := []) (lenOf pd__28_5bBII_29I rfl) rfl (by show 2 * 0 + _ ≤ _; exact Nat.le_of_eq rfl) (hb hby d21_46) (fun _ _ => ⟨rfl, e648, (by decide : 0 + 0 ≤ _), (by decide : 0 + 0 ≤ _)⟩)
    dsimp only [Pt.U, Pt.locs, Pt.cells, Pt.slots] at X649 l649 y649 z649 st649 hQ649
    rw [l649, y649, z649] at X649
    obtain ⟨hr649, N649q, eh649⟩ := hQ649
    rw [hr649] at st649
    rw [N649q, List.append_nil] at X649
    refine Go.via (st649) ?_
    clear st649
    have e649 : T649.heap = h0 := eh649
    clear X648 e648
    show Go p e below (T649.setTop (mkF m 49 #[vr a, vi (1 : Int32), vi (2 : Int32)] [(.int y1)])) _
    exact Go.fin X649 hlk (v := some (.int y1)) (fun h => by rw [Bd.returns] at h; cases h) (fun fs hr => OwnKit.retI X649 hx Bd.returns (hb hby d21_49) hr) (by rw [e649]; exact ⟨rfl, rfl, rfl⟩) (by decide) (by decide)
theorem own_cm0a {y z : Int32} : icF (0 : Int32) (2 : Int32) = cmF [] [y, z] := by
  rcases own_cp2 y z with ⟨-, h⟩ | ⟨-, h, q⟩
  · unfold cmF; rw [own_cpn h]; rfl
  · unfold cmF; rw [own_cpp h q]; rfl
theorem own_cm0b {y z : Int32} : icF (2 : Int32) (0 : Int32) = cmF [y, z] [] := by
  rcases own_cp2 y z with ⟨-, h⟩ | ⟨-, h, q⟩
  · unfold cmF; rw [own_cpn h]; rfl
  · unfold cmF; rw [own_cpp h q]; rfl
theorem own_tne {y z v : Int32} (h1 : ¬ (ihF y) = (0 : Int32)) (h2 : ¬ (ilF z) = (0 : Int32)) (h : Ch v) : ¬ tcF y z = v := fun e => by
  have q := own_tcr h1 h2
  rw [e] at q
  exact absurd h.2 (Int.not_lt.mpr q)
theorem d7_0 : decode prog_42_method_4_code 0 = .ok (.iconst 0, 1) := by decide +kernel
theorem d7_1 : decode prog_42_method_4_code 1 = .ok (.istore_n 3, 1) := by decide +kernel
theorem d7_2 : decode prog_42_method_4_code 2 = .ok (.iconst 0, 1) := by decide +kernel
theorem d7_3 : decode prog_42_method_4_code 3 = .ok (.istore 4, 2) := by decide +kernel
theorem d7_5 : decode prog_42_method_4_code 5 = .ok (.iload_n 3, 1) := by decide +kernel
theorem d7_6 : decode prog_42_method_4_code 6 = .ok (.aload_n 1, 1) := by decide +kernel
theorem d7_7 : decode prog_42_method_4_code 7 = .ok (.invokevirtual 26, 3) := by decide +kernel
theorem pd__28_29I : parseMethodDescriptor "()I" = some ⟨[], some .int⟩ := by decide +kernel
theorem d7_10 : decode prog_42_method_4_code 10 = .ok (.if_icmp .ge 63, 3) := by decide +kernel
theorem d7_73 : decode prog_42_method_4_code 73 = .ok (.aload_n 1, 1) := by decide +kernel
theorem d7_74 : decode prog_42_method_4_code 74 = .ok (.invokevirtual 26, 3) := by decide +kernel
theorem d7_77 : decode prog_42_method_4_code 77 = .ok (.iload_n 3, 1) := by decide +kernel
theorem d7_78 : decode prog_42_method_4_code 78 = .ok (.isub, 1) := by decide +kernel
theorem d7_79 : decode prog_42_method_4_code 79 = .ok (.aload_n 2, 1) := by decide +kernel
theorem d7_80 : decode prog_42_method_4_code 80 = .ok (.invokevirtual 26, 3) := by decide +kernel
theorem d7_83 : decode prog_42_method_4_code 83 = .ok (.iload 4, 2) := by decide +kernel
theorem d7_85 : decode prog_42_method_4_code 85 = .ok (.isub, 1) := by decide +kernel
theorem d7_86 : decode prog_42_method_4_code 86 = .ok (.invokestatic 36, 3) := by decide +kernel
theorem pd__28II_29I : parseMethodDescriptor "(II)I" = some ⟨[.int, .int], some .int⟩ := by decide +kernel
theorem d7_89 : decode prog_42_method_4_code 89 = .ok (.ireturn, 1) := by decide +kernel
theorem d7_13 : decode prog_42_method_4_code 13 = .ok (.iload 4, 2) := by decide +kernel
theorem d7_15 : decode prog_42_method_4_code 15 = .ok (.aload_n 2, 1) := by decide +kernel
theorem d7_16 : decode prog_42_method_4_code 16 = .ok (.invokevirtual 26, 3) := by decide +kernel
theorem d7_19 : decode prog_42_method_4_code 19 = .ok (.if_icmp .ge 54, 3) := by decide +kernel
theorem d7_22 : decode prog_42_method_4_code 22 = .ok (.aload_n 1, 1) := by decide +kernel
theorem d7_23 : decode prog_42_method_4_code 23 = .ok (.iload_n 3, 1) := by decide +kernel
theorem d7_24 : decode prog_42_method_4_code 24 = .ok (.invokevirtual 32, 3) := by decide +kernel
theorem d7_27 : decode prog_42_method_4_code 27 = .ok (.istore 5, 2) := by decide +kernel
theorem d7_29 : decode prog_42_method_4_code 29 = .ok (.aload_n 2, 1) := by decide +kernel
theorem d7_30 : decode prog_42_method_4_code 30 = .ok (.iload 4, 2) := by decide +kernel
theorem d7_32 : decode prog_42_method_4_code 32 = .ok (.invokevirtual 32, 3) := by decide +kernel
theorem d7_35 : decode prog_42_method_4_code 35 = .ok (.istore 6, 2) := by decide +kernel
theorem d7_37 : decode prog_42_method_4_code 37 = .ok (.iload 5, 2) := by decide +kernel
theorem d7_39 : decode prog_42_method_4_code 39 = .ok (.iload 6, 2) := by decide +kernel
theorem d7_41 : decode prog_42_method_4_code 41 = .ok (.if_icmp .eq 11, 3) := by decide +kernel
theorem d7_52 : decode prog_42_method_4_code 52 = .ok (.iload_n 3, 1) := by decide +kernel
theorem d7_53 : decode prog_42_method_4_code 53 = .ok (.iload 5, 2) := by decide +kernel
theorem d7_55 : decode prog_42_method_4_code 55 = .ok (.invokestatic 42, 3) := by decide +kernel
theorem d7_58 : decode prog_42_method_4_code 58 = .ok (.iadd, 1) := by decide +kernel
theorem d7_59 : decode prog_42_method_4_code 59 = .ok (.istore_n 3, 1) := by decide +kernel
theorem d7_60 : decode prog_42_method_4_code 60 = .ok (.iload 4, 2) := by decide +kernel
theorem d7_62 : decode prog_42_method_4_code 62 = .ok (.iload 6, 2) := by decide +kernel
theorem d7_64 : decode prog_42_method_4_code 64 = .ok (.invokestatic 42, 3) := by decide +kernel
theorem d7_67 : decode prog_42_method_4_code 67 = .ok (.iadd, 1) := by decide +kernel
theorem d7_68 : decode prog_42_method_4_code 68 = .ok (.istore 4, 2) := by decide +kernel
theorem d7_70 : decode prog_42_method_4_code 70 = .ok (.goto (-65), 3) := by decide +kernel
theorem d7_44 : decode prog_42_method_4_code 44 = .ok (.iload 5, 2) := by decide +kernel
theorem d7_46 : decode prog_42_method_4_code 46 = .ok (.iload 6, 2) := by decide +kernel
theorem d7_48 : decode prog_42_method_4_code 48 = .ok (.invokestatic 36, 3) := by decide +kernel
theorem d7_51 : decode prog_42_method_4_code 51 = .ok (.ireturn, 1) := by decide +kernel
theorem pn_7 : plainName cCP = true := by first | (simp [plainName, overriddenIn]; done) | decide +kernel
theorem ef_7 (m : MethodId) (x0 : Addr) (x1 : Addr) (x2 : Addr) : entryFrame m #[(.ref x0), (.ref x1), (.ref x2)] 7 = mkF m 0 #[.val (.ref x0), .val (.ref x1), .val (.ref x2), .unset, .unset, .unset, .unset] [] := by first | (simp [entryFrame, mkF, argsToLocals, Value.category]; done) | rfl
def Q_rmCm (Z : State) (th : Addr) (a : Addr) (o : Addr) (cs : Int32) (fv : Value) (b_1 : Addr) (co1 : Int32) (ys1 : List Int32) (cs1 : List Int32) (b_2 : Addr) (co2 : Int32) (ys2 : List Int32) (cs2 : List Int32) (h0 : Heap) (n0 : Nat) (vQ : Option Value) (hQ : Heap) (LQ : List Loc) : Prop := vQ = some (.int (cmF cs1 cs2)) ∧ LQ = [] ∧ hQ = h0
set_option maxRecDepth 65536 in
set_option maxHeartbeats 40000000 in
theorem rmCm (l : Launch) (Z : State) (a0 : Array Value) (hw : ∀ d ∈ tables_1, d.before a0 Z = true) (ws : List Jvm.Cond) (th : Addr) (a : Addr) (o : Addr) (cs : Int32) (fv : Value) (b_1 : Addr) (co1 : Int32) (ys1 : List Int32) (cs1 : List Int32) (b_2 : Addr) (co2 : Int32) (ys2 : List Int32) (cs2 : List Int32) (h0 : Heap) (n0 : Nat) (Z0 : n0 ≤ h0.size) (P0 : Exa Z h0 a cST) (P1 : Fld Z h0 a cST "coder" "B" (.int co1)) (P2 : Fld Z h0 a cST "value" "[B" (.ref b_1)) (P3 : Ia Z h0 b_1 .byte ys1) (P4 : Exa Z h0 o cST) (P5 : Fld Z h0 o cST "coder" "B" (.int co2)) (P6 : Fld Z h0 o cST "value" "[B" (.ref b_2)) (P7 : Ia Z h0 b_2 .byte ys2) (P8 : Old Z n0 h0) (zCS : Sta Z Z.heap cST "COMPACT_STRINGS" "Z" (.int cs)) (zF : Sta Z Z.heap cPR "SIOOBE_FORMATTER" "Ljava/util/function/BiFunction;" fv) (zAD : Sta Z Z.heap cU6 "$assertionsDisabled" "Z" (.int (1 : Int32))) (zHI : Sta Z Z.heap cU6 "HI_BYTE_SHIFT" "I" (.int (0 : Int32))) (zLO : Sta Z Z.heap cU6 "LO_BYTE_SHIFT" "I" (.int (8 : Int32))) (hcs : ¬ (cs = (0 : Int32))) (hfv : fv = .null ∨ ∃ fa : Addr, fv = .ref fa) (hR1 : Rep cs1 co1 ys1) (hR2 : Rep cs2 co2 ys2) :
    MetFree l (⟨cCP, "compare", "(Ljava/lang/String;Ljava/lang/String;)I"⟩ : MethodName) (head1 (Jvm.Cond.code (⟨cCP, "compare", "(Ljava/lang/String;Ljava/lang/String;)I"⟩ : MethodName) prog_42_method_4_code 7 (some .int) :: ws) ({ frames := 4, cells := 0, slots := 0, locals := 58 } : Room)) (fun aQ UQ => aQ = #[(.ref th), (.ref a), (.ref o)] ∧ Z.Warmed39 UQ.vm ∧ UQ.heap = h0) (fun _ _ _ _ _ => True) (fun _ UQ oQ UR => ∃ vQ LQ, oQ = .returned vQ ∧ Q_rmCm Z th a o cs fv b_1 co1 ys1 cs1 b_2 co2 ys2 cs2 h0 n0 vQ UR.heap LQ ∧ FrameEnd UQ oQ UR LQ ({ frames := 4, cells := 0, slots := 0, locals := 58 } : Room).cells ({ frames := 4, cells := 0, slots := 0, locals := 58 } : Room).slots) := by
  refine MetFree.of_bodySF (plainFor_of_name pn_7) hisR ?_
  intro p e s m args below meth c s₁ Bd hml0 hP hK
  obtain ⟨rfl, hZ, hh⟩ := hP
  have hx := Bd.exec
  have hby := Bd.bytes
  have hlk := Bd.notSynchronized
  have hml : c.maxLocals = 7 := hml0
  have hown : s.vm.findClass cCP = some m.cls := findClass_of_methodNamed Bd.named
  have hnm := (name_of_methodNamed Bd.named Bd.method).1
  have X0 : Stand p l e ({ frames := 4, cells := 0, slots := 0, locals := 58 } : Room) s m #[(.ref th), (.ref a), (.ref o)] below meth c s₁ [] 0 0 := Stand.of_body Bd
  have e0 : s₁.heap = h0 := by rw [← hh, Bd.state]; rfl
  have N0 := Fr.nil n0
  show Go p e below _ (Done s (Q_rmCm Z th a o cs fv b_1 co1 ys1 cs1 b_2 co2 ys2 cs2 h0 n0) ({ frames := 4, cells := 0, slots := 0, locals := 58 } : Room).cells ({ frames := 4, cells := 0, slots := 0, locals := 58 } : Room).slots)
  refine Go.via (fun tQ kQ => castTop (ef_7 m th a o) kQ) ?_
  show Go p e below (s₁.setTop (mkF m 0 #[vr th, vr a, vr o, .unset, .unset, .unset, .unset] [])) _
  rcases own_shp hR1 with rfl | ⟨y0, rfl, hy0⟩ | ⟨y0, y1, rfl, hy0, hy1⟩ <;> rcases own_shp hR2 with rfl | ⟨z0, rfl, hz0⟩ | ⟨z0, z1, rfl, hz0, hz1⟩
  · show Go p e below (s₁.setTop (mkF m 0 #[vr th, vr a, vr o, .unset, .unset, .unset, .unset] [])) _
    refine Go.via (fun _ => XS.iconst X0.here hx rfl (hb hby d7_0)) ?_
    refine Go.via (fun _ => XS.istoreN X0.here hx rfl (hb hby d7_1) rfl (l' := #[vr th, vr a, vr o, vi (0 : Int32), .unset, .unset, .unset]) rfl) ?_
    refine Go.via (fun _ => XS.iconst X0.here hx rfl (hb hby d7_2)) ?_
    refine Go.via (fun _ => XS.istore X0.here hx rfl (hb hby d7_3) rfl (l' := #[vr th, vr a, vr o, vi (0 : Int32), vi (0 : Int32), .unset, .unset]) rfl) ?_
    refine Go.via (fun _ => XS.iloadN X0.here hx rfl (hb hby d7_5) rfl) ?_
    refine Go.via (fun _ => XS.aloadN X0.here hx rfl (hb hby d7_6) rfl rfl) ?_
    obtain ⟨cq650, kq650, q650a, q650b, q650c⟩ := isOf hZ e0 P0
    obtain ⟨r650, _, ⟨T650, L650, k650, n650⟩, -, X650, ⟨Lc650, hQ650, l650, y650, z650⟩, st650⟩ := X0.virtualBack hx (y := (⟨cST, "length", "()I"⟩ : MethodName)) (z := (⟨cST, "length", "()I"⟩ : MethodName)) hown (mvT hZ (tw hw 46 rfl)) (mvT hZ (tw hw 47 rfl)) (notFace_of_selects (args := #[]) (mvT hZ (tw hw 49 rfl))) (mvT hZ (tw hw 49 rfl)) (mvT hZ (tw hw 48 rfl)) (by decide) (backOf (W := 1) (rmLn l Z a0 hw [] a cs b_1 co1 ys1 [] h0 n0 Z0 P0 P1 P2 P3 P8 zCS hcs hR1) hZ (tw hw 50 rfl) (tw hw 14 rfl) (by decide) (by decide)) q650a q650c (g := (mkF m 7 #[vr th, vr a, vr o, vi (0 : Int32), vi (0 : Int32), .unset, .unset] [(.ref a), (.int (0 : Int32))])) rfl (by rw [hml]; rfl) (Steps.refl _) (argsL := []) (rest := [(.int (0 : Int32))]) (lenOf pd__28_29I rfl) rfl (by show 2 * 0 + _ ≤ _; exact Nat.le_of_eq rfl) (hb hby d7_7) (fun _ _ => ⟨rfl, e0, (by decide : 0 + 0 ≤ _), (by decide : 0 + 0 ≤ _)⟩)
    dsimp only [Pt.U, Pt.locs, Pt.cells, Pt.slots] at X650 l650 y650 z650 st650 hQ650
    rw [l650, y650, z650] at X650
    obtain ⟨hr650, N650q, eh650⟩ := hQ650
    rw [hr650] at st650
    rw [N650q, List.append_nil] at X650
    refine Go.via (fun _ kQ => st650.trans kQ) ?_
    clear st650
    have e650 : T650.heap = h0 := eh650
    clear X0 e0
    show Go p e below (T650.setTop (mkF m 10 #[vr th, vr a, vr o, vi (0 : Int32), vi (0 : Int32), .unset, .unset] [(.int (0 : Int32)), (.int (0 : Int32))])) _
    refine Go.via (fun _ => XS.icmpYes X650.here hx rfl (pc0 := 10) (pc' := 73) rfl (hb hby d7_10) rfl (flt ((by decide) : ¬ ((0 : Int32) < (0 : Int32)))).2.1 (by decide) (by decide)) ?_
    refine Go.via (fun _ => XS.aloadN X650.here hx rfl (hb hby d7_73) rfl rfl) ?_
    obtain ⟨cq651, kq651, q651a, q651b, q651c⟩ := isOf hZ e650 P0
    obtain ⟨r651, _, ⟨T651, L651, k651, n651⟩, -, X651, ⟨Lc651, hQ651, l651, y651, z651⟩, st651⟩ := X650.virtualBack hx (y := (⟨cST, "length", "()I"⟩ : MethodName)) (z := (⟨cST, "length", "()I"⟩ : MethodName)) hown (mvT hZ (tw hw 46 rfl)) (mvT hZ (tw hw 47 rfl)) (notFace_of_selects (args := #[]) (mvT hZ (tw hw 49 rfl))) (mvT hZ (tw hw 49 rfl)) (mvT hZ (tw hw 48 rfl)) (by decide) (backOf (W := 0) (rmLn l Z a0 hw [] a cs b_1 co1 ys1 [] h0 n0 Z0 P0 P1 P2 P3 P8 zCS hcs hR1) hZ (tw hw 50 rfl) (tw hw 14 rfl) (by decide) (by decide)) q651a q651c (g := (mkF m 74 #[vr th, vr a, vr o, vi (0 : Int32), vi (0 : Int32), .unset, .unset] [(.ref a)])) rfl (by rw [hml]; rfl) (Steps.refl _) (argsL := []) (rest := []) (lenOf pd__28_29I rfl) rfl (by show 2 * 0 + _ ≤ _; exact Nat.le_of_eq rfl) (hb hby d7_74) (fun _ _ => ⟨rfl, e650, (by decide : 0 + 0 ≤ _), (by decide : 0 + 0 ≤ _)⟩)
    dsimp only [Pt.U, Pt.locs, Pt.cells, Pt.slots] at X651 l651 y651 z651 st651 hQ651
    rw [l651, y651, z651] at X651
    obtain ⟨hr651, N651q, eh651⟩ := hQ651
    rw [hr651] at st651
    rw [N651q, List.append_nil] at X651
    refine Go.via (fun _ kQ => st651.trans kQ) ?_
    clear st651
    have e651 : T651.heap = h0 := eh651
    clear X650 e650
    show Go p e below (T651.setTop (mkF m 77 #[vr th, vr a, vr o, vi (0 : Int32), vi (0 : Int32), .unset, .unset] [(.int (0 : Int32))])) _
    refine Go.via (fun _ => XS.iloadN X651.here hx rfl (hb hby d7_77) rfl) ?_
    refine Go.via (fun _ => XS.isub X651.here hx rfl (hb hby d7_78) rfl) ?_
    refine Go.via (fun _ => XS.aloadN X651.here hx rfl (hb hby d7_79) rfl rfl) ?_
    obtain ⟨cq652, kq652, q652a, q652b, q652c⟩ := isOf hZ e651 P4
    obtain ⟨r652, _, ⟨T652, L652, k652, n652⟩, -, X652, ⟨Lc652, hQ652, l652, y652, z652⟩, st652⟩ := X651.virtualBack hx (y := (⟨cST, "length", "()I"⟩ : MethodName)) (z := (⟨cST, "length", "()I"⟩ : MethodName)) hown (mvT hZ (tw hw 46 rfl)) (mvT hZ (tw hw 47 rfl)) (notFace_of_selects (args := #[]) (mvT hZ (tw hw 49 rfl))) (mvT hZ (tw hw 49 rfl)) (mvT hZ (tw hw 48 rfl)) (by decide) (backOf (W := 1) (rmLn l Z a0 hw [] o cs b_2 co2 ys2 [] h0 n0 Z0 P4 P5 P6 P7 P8 zCS hcs hR2) hZ (tw hw 50 rfl) (tw hw 14 rfl) (by decide) (by decide)) q652a q652c (g := (mkF m 80 #[vr th, vr a, vr o, vi (0 : Int32), vi (0 : Int32), .unset, .unset] [(.ref o), (.int (0 : Int32))])) rfl (by rw [hml]; rfl) (Steps.refl _) (argsL := []) (rest := [(.int (0 : Int32))]) (lenOf pd__28_29I rfl) rfl (by show 2 * 0 + _ ≤ _; exact Nat.le_of_eq rfl) (hb hby d7_80) (fun _ _ => ⟨rfl, e651, (by decide : 0 + 0 ≤ _), (by decide : 0 + 0 ≤ _)⟩)
    dsimp only [Pt.U, Pt.locs, Pt.cells, Pt.slots] at X652 l652 y652 z652 st652 hQ652
    rw [l652, y652, z652] at X652
    obtain ⟨hr652, N652q, eh652⟩ := hQ652
    rw [hr652] at st652
    rw [N652q, List.append_nil] at X652
    refine Go.via (fun _ kQ => st652.trans kQ) ?_
    clear st652
    have e652 : T652.heap = h0 := eh652
    clear X651 e651
    show Go p e below (T652.setTop (mkF m 83 #[vr th, vr a, vr o, vi (0 : Int32), vi (0 : Int32), .unset, .unset] [(.int (0 : Int32)), (.int (0 : Int32))])) _
    refine Go.via (fun _ => XS.iload X652.here hx rfl (hb hby d7_83) rfl) ?_
    refine Go.via (fun _ => XS.isub X652.here hx rfl (hb hby d7_85) rfl) ?_
    obtain ⟨r653, _, ⟨T653, L653, k653, n653⟩, -, X653, ⟨Lc653, hQ653, l653, y653, z653⟩, st653⟩ := Jvm.LawKit.callS X652 hx (y := (⟨"java/lang/Integer", "compare", "(II)I"⟩ : MethodName)) hown (mvT hZ (tw hw 57 rfl)) (mvT hZ (tw hw 58 rfl)) (mvT hZ (tw hw 59 rfl)) (mvT hZ (tw hw 60 rfl)) (by decide) (backOf (W := 0) (rmIc l Z a0 hw [] (0 : Int32) (0 : Int32)  h0 n0 Z0) hZ (tw hw 60 rfl) (tw hw 59 rfl) (by decide) (by decide)) (g := (mkF m 86 #[vr th, vr a, vr o, vi (0 : Int32), vi (0 : Int32), .unset, .unset] [(.int (0 : Int32)), (.int (0 : Int32))])) rfl (by rw [hml]; rfl) (argsL := [(.int (0 : Int32)), (.int (0 : Int32))]) (rest := []) (lenOf pd__28II_29I rfl) rfl (by show 2 * 0 + _ ≤ _; exact Nat.le_of_eq rfl) (hb hby d7_86) (fun _ _ => ⟨rfl, e652, (by decide : 0 + 0 ≤ _), (by decide : 0 + 0 ≤ _)⟩)
    dsimp only [Pt.U, Pt.locs, Pt.cells, Pt.slots] at X653 l653 y653 z653 st653 hQ653
    rw [l653, y653, z653] at X653
    obtain ⟨hr653, N653q, eh653⟩ := hQ653
    rw [hr653] at st653
    rw [N653q, List.append_nil] at X653
    refine Go.via (st653) ?_
    clear st653
    have e653 : T653.heap = h0 := eh653
    clear X652 e652
    show Go p e below (T653.setTop (mkF m 89 #[vr th, vr a, vr o, vi (0 : Int32), vi (0 : Int32), .unset, .unset] [(.int (icF (0 : Int32) (0 : Int32)))])) _
    exact Go.fin X653 hlk (v := some (.int (icF (0 : Int32) (0 : Int32)))) (fun h => by rw [Bd.returns] at h; cases h) (fun fs hr => OwnKit.retI X653 hx Bd.returns (hb hby d7_89) hr) (by rw [e653]; exact ⟨(congrArg (fun qq => some (Value.int qq)) (show (icF (0 : Int32) (0 : Int32)) = cmF [] [] by unfold cmF; rw [show cpL [] = [] from rfl]; first | done | rfl | decide)), rfl, rfl⟩) (by decide) (by decide)
  · show Go p e below (s₁.setTop (mkF m 0 #[vr th, vr a, vr o, .unset, .unset, .unset, .unset] [])) _
    refine Go.via (fun _ => XS.iconst X0.here hx rfl (hb hby d7_0)) ?_
    refine Go.via (fun _ => XS.istoreN X0.here hx rfl (hb hby d7_1) rfl (l' := #[vr th, vr a, vr o, vi (0 : Int32), .unset, .unset, .unset]) rfl) ?_
    refine Go.via (fun _ => XS.iconst X0.here hx rfl (hb hby d7_2)) ?_
    refine Go.via (fun _ => XS.istore X0.here hx rfl (hb hby d7_3) rfl (l' := #[vr th, vr a, vr o, vi (0 : Int32), vi (0 : Int32), .unset, .unset]) rfl) ?_
    refine Go.via (fun _ => XS.iloadN X0.here hx rfl (hb hby d7_5) rfl) ?_
    refine Go.via (fun _ => XS.aloadN X0.here hx rfl (hb hby d7_6) rfl rfl) ?_
    obtain ⟨cq654, kq654, q654a, q654b, q654c⟩ := isOf hZ e0 P0
    obtain ⟨r654, _, ⟨T654, L654, k654, n654⟩, -, X654, ⟨Lc654, hQ654, l654, y654, z654⟩, st654⟩ := X0.virtualBack hx (y := (⟨cST, "length", "()I"⟩ : MethodName)) (z := (⟨cST, "length", "()I"⟩ : MethodName)) hown (mvT hZ (tw hw 46 rfl)) (mvT hZ (tw hw 47 rfl)) (notFace_of_selects (args := #[]) (mvT hZ (tw hw 49 rfl))) (mvT hZ (tw hw 49 rfl)) (mvT hZ (tw hw 48 rfl)) (by decide) (backOf (W := 1) (rmLn l Z a0 hw [] a cs b_1 co1 ys1 [] h0 n0 Z0 P0 P1 P2 P3 P8 zCS hcs hR1) hZ (tw hw 50 rfl) (tw hw 14 rfl) (by decide) (by decide)) q654a q654c (g := (mkF m 7 #[vr th, vr a, vr o, vi (0 : Int32), vi (0 : Int32), .unset, .unset] [(.ref a), (.int (0 : Int32))])) rfl (by rw [hml]; rfl) (Steps.refl _) (argsL := []) (rest := [(.int (0 : Int32))]) (lenOf pd__28_29I rfl) rfl (by show 2 * 0 + _ ≤ _; exact Nat.le_of_eq rfl) (hb hby d7_7) (fun _ _ => ⟨rfl, e0, (by decide : 0 + 0 ≤ _), (by decide : 0 + 0 ≤ _)⟩)
    dsimp only [Pt.U, Pt.locs, Pt.cells, Pt.slots] at X654 l654 y654 z654 st654 hQ654
    rw [l654, y654, z654] at X654
    obtain ⟨hr654, N654q, eh654⟩ := hQ654
    rw [hr654] at st654
    rw [N654q, List.append_nil] at X654
    refine Go.via (fun _ kQ => st654.trans kQ) ?_
    clear st654
    have e654 : T654.heap = h0 := eh654
    clear X0 e0
    show Go p e below (T654.setTop (mkF m 10 #[vr th, vr a, vr o, vi (0 : Int32), vi (0 : Int32), .unset, .unset] [(.int (0 : Int32)), (.int (0 : Int32))])) _
    refine Go.via (fun _ => XS.icmpYes X654.here hx rfl (pc0 := 10) (pc' := 73) rfl (hb hby d7_10) rfl (flt ((by decide) : ¬ ((0 : Int32) < (0 : Int32)))).2.1 (by decide) (by decide)) ?_
    refine Go.via (fun _ => XS.aloadN X654.here hx rfl (hb hby d7_73) rfl rfl) ?_
    obtain ⟨cq655, kq655, q655a, q655b, q655c⟩ := isOf hZ e654 P0
    obtain ⟨r655, _, ⟨T655, L655, k655, n655⟩, -, X655, ⟨Lc655, hQ655, l655, y655, z655⟩, st655⟩ := X654.virtualBack hx (y := (⟨cST, "length", "()I"⟩ : MethodName)) (z := (⟨cST, "length", "()I"⟩ : MethodName)) hown (mvT hZ (tw hw 46 rfl)) (mvT hZ (tw hw 47 rfl)) (notFace_of_selects (args := #[]) (mvT hZ (tw hw 49 rfl))) (mvT hZ (tw hw 49 rfl)) (mvT hZ (tw hw 48 rfl)) (by decide) (backOf (W := 0) (rmLn l Z a0 hw [] a cs b_1 co1 ys1 [] h0 n0 Z0 P0 P1 P2 P3 P8 zCS hcs hR1) hZ (tw hw 50 rfl) (tw hw 14 rfl) (by decide) (by decide)) q655a q655c (g := (mkF m 74 #[vr th, vr a, vr o, vi (0 : Int32), vi (0 : Int32), .unset, .unset] [(.ref a)])) rfl (by rw [hml]; rfl) (Steps.refl _) (argsL := []) (rest := []) (lenOf pd__28_29I rfl) rfl (by show 2 * 0 + _ ≤ _; exact Nat.le_of_eq rfl) (hb hby d7_74) (fun _ _ => ⟨rfl, e654, (by decide : 0 + 0 ≤ _), (by decide : 0 + 0 ≤ _)⟩)
    dsimp only [Pt.U, Pt.locs, Pt.cells, Pt.slots] at X655 l655 y655 z655 st655 hQ655
    rw [l655, y655, z655] at X655
    obtain ⟨hr655, N655q, eh655⟩ := hQ655
    rw [hr655] at st655
    rw [N655q, List.append_nil] at X655
    refine Go.via (fun _ kQ => st655.trans kQ) ?_
    clear st655
    have e655 : T655.heap = h0 := eh655
    clear X654 e654
    show Go p e below (T655.setTop (mkF m 77 #[vr th, vr a, vr o, vi (0 : Int32), vi (0 : Int32), .unset, .unset] [(.int (0 : Int32))])) _
    refine Go.via (fun _ => XS.iloadN X655.here hx rfl (hb hby d7_77) rfl) ?_
    refine Go.via (fun _ => XS.isub X655.here hx rfl (hb hby d7_78) rfl) ?_
    refine Go.via (fun _ => XS.aloadN X655.here hx rfl (hb hby d7_79) rfl rfl) ?_
    obtain ⟨cq656, kq656, q656a, q656b, q656c⟩ := isOf hZ e655 P4
    obtain ⟨r656, _, ⟨T656, L656, k656, n656⟩, -, X656, ⟨Lc656, hQ656, l656, y656, z656⟩, st656⟩ := X655.virtualBack hx (y := (⟨cST, "length", "()I"⟩ : MethodName)) (z := (⟨cST, "length", "()I"⟩ : MethodName)) hown (mvT hZ (tw hw 46 rfl)) (mvT hZ (tw hw 47 rfl)) (notFace_of_selects (args := #[]) (mvT hZ (tw hw 49 rfl))) (mvT hZ (tw hw 49 rfl)) (mvT hZ (tw hw 48 rfl)) (by decide) (backOf (W := 1) (rmLn l Z a0 hw [] o cs b_2 co2 ys2 [z0] h0 n0 Z0 P4 P5 P6 P7 P8 zCS hcs hR2) hZ (tw hw 50 rfl) (tw hw 14 rfl) (by decide) (by decide)) q656a q656c (g := (mkF m 80 #[vr th, vr a, vr o, vi (0 : Int32), vi (0 : Int32), .unset, .unset] [(.ref o), (.int (0 : Int32))])) rfl (by rw [hml]; rfl) (Steps.refl _) (argsL := []) (rest := [(.int (0 : Int32))]) (lenOf pd__28_29I rfl) rfl (by show 2 * 0 + _ ≤ _; exact Nat.le_of_eq rfl) (hb hby d7_80) (fun _ _ => ⟨rfl, e655, (by decide : 0 + 0 ≤ _), (by decide : 0 + 0 ≤ _)⟩)
    dsimp only [Pt.U, Pt.locs, Pt.cells, Pt.slots] at X656 l656 y656 z656 st656 hQ656
    rw [l656, y656, z656] at X656
    obtain ⟨hr656, N656q, eh656⟩ := hQ656
    rw [hr656] at st656
    rw [N656q, List.append_nil] at X656
    refine Go.via (fun _ kQ => st656.trans kQ) ?_
    clear st656
    have e656 : T656.heap = h0 := eh656
    clear X655 e655
    show Go p e below (T656.setTop (mkF m 83 #[vr th, vr a, vr o, vi (0 : Int32), vi (0 : Int32), .unset, .unset] [(.int (1 : Int32)), (.int (0 : Int32))])) _
    refine Go.via (fun _ => XS.iload X656.here hx rfl (hb hby d7_83) rfl) ?_
    refine Go.via (fun _ => XS.isub X656.here hx rfl (hb hby d7_85) rfl) ?_
    obtain ⟨r657, _, ⟨T657, L657, k657, n657⟩, -, X657, ⟨Lc657, hQ657, l657, y657, z657⟩, st657⟩ := Jvm.LawKit.callS X656 hx (y := (⟨"java/lang/Integer", "compare", "(II)I"⟩ : MethodName)) hown (mvT hZ (tw hw 57 rfl)) (mvT hZ (tw hw 58 rfl)) (mvT hZ (tw hw 59 rfl)) (mvT hZ (tw hw 60 rfl)) (by decide) (backOf (W := 0) (rmIc l Z a0 hw [] (0 : Int32) (1 : Int32)  h0 n0 Z0) hZ (tw hw 60 rfl) (tw hw 59 rfl) (by decide) (by decide)) (g := (mkF m 86 #[vr th, vr a, vr o, vi (0 : Int32), vi (0 : Int32), .unset, .unset] [(.int (1 : Int32)), (.int (0 : Int32))])) rfl (by rw [hml]; rfl) (argsL := [(.int (0 : Int32)), (.int (1 : Int32))]) (rest := []) (lenOf pd__28II_29I rfl) rfl (by show 2 * 0 + _ ≤ _; exact Nat.le_of_eq rfl) (hb hby d7_86) (fun _ _ => ⟨rfl, e656, (by decide : 0 + 0 ≤ _), (by decide : 0 + 0 ≤ _)⟩)
    dsimp only [Pt.U, Pt.locs, Pt.cells, Pt.slots] at X657 l657 y657 z657 st657 hQ657
    rw [l657, y657, z657] at X657
    obtain ⟨hr657, N657q, eh657⟩ := hQ657
    rw [hr657] at st657
    rw [N657q, List.append_nil] at X657
    refine Go.via (st657) ?_
    clear st657
    have e657 : T657.heap = h0 := eh657
    clear X656 e656
    show Go p e below (T657.setTop (mkF m 89 #[vr th, vr a, vr o, vi (0 : Int32), vi (0 : Int32), .unset, .unset] [(.int (icF (0 : Int32) (1 : Int32)))])) _
    exact Go.fin X657 hlk (v := some (.int (icF (0 : Int32) (1 : Int32)))) (fun h => by rw [Bd.returns] at h; cases h) (fun fs hr => OwnKit.retI X657 hx Bd.returns (hb hby d7_89) hr) (by rw [e657]; exact ⟨(congrArg (fun qq => some (Value.int qq)) (show (icF (0 : Int32) (1 : Int32)) = cmF [] [z0] by unfold cmF; rw [show cpL [] = [] from rfl, show cpL [z0] = [z0] from rfl]; first | done | rfl | decide)), rfl, rfl⟩) (by decide) (by decide)
  · show Go p e below (s₁.setTop (mkF m 0 #[vr th, vr a, vr o, .unset, .unset, .unset, .unset] [])) _
    refine Go.via (fun _ => XS.iconst X0.here hx rfl (hb hby d7_0)) ?_
    refine Go.via (fun _ => XS.istoreN X0.here hx rfl (hb hby d7_1) rfl (l' := #[vr th, vr a, vr o, vi (0 : Int32), .unset, .unset, .unset]) rfl) ?_
    refine Go.via (fun _ => XS.iconst X0.here hx rfl (hb hby d7_2)) ?_
    refine Go.via (fun _ => XS.istore X0.here hx rfl (hb hby d7_3) rfl (l' := #[vr th, vr a, vr o, vi (0 : Int32), vi (0 : Int32), .unset, .unset]) rfl) ?_
    refine Go.via (fun _ => XS.iloadN X0.here hx rfl (hb hby d7_5) rfl) ?_
    refine Go.via (fun _ => XS.aloadN X0.here hx rfl (hb hby d7_6) rfl rfl) ?_
    obtain ⟨cq658, kq658, q658a, q658b, q658c⟩ := isOf hZ e0 P0
    obtain ⟨r658, _, ⟨T658, L658, k658, n658⟩, -, X658, ⟨Lc658, hQ658, l658, y658, z658⟩, st658⟩ := X0.virtualBack hx (y := (⟨cST, "length", "()I"⟩ : MethodName)) (z := (⟨cST, "length", "()I"⟩ : MethodName)) hown (mvT hZ (tw hw 46 rfl)) (mvT hZ (tw hw 47 rfl)) (notFace_of_selects (args := #[]) (mvT hZ (tw hw 49 rfl))) (mvT hZ (tw hw 49 rfl)) (mvT hZ (tw hw 48 rfl)) (by decide) (backOf (W := 1) (rmLn l Z a0 hw [] a cs b_1 co1 ys1 [] h0 n0 Z0 P0 P1 P2 P3 P8 zCS hcs hR1) hZ (tw hw 50 rfl) (tw hw 14 rfl) (by decide) (by decide)) q658a q658c (g := (mkF m 7 #[vr th, vr a, vr o, vi (0 : Int32), vi (0 : Int32), .unset, .unset] [(.ref a), (.int (0 : Int32))])) rfl (by rw [hml]; rfl) (Steps.refl _) (argsL := []) (rest := [(.int (0 : Int32))]) (lenOf pd__28_29I rfl) rfl (by show 2 * 0 + _ ≤ _; exact Nat.le_of_eq rfl) (hb hby d7_7) (fun _ _ => ⟨rfl, e0, (by decide : 0 + 0 ≤ _), (by decide : 0 + 0 ≤ _)⟩)
    dsimp only [Pt.U, Pt.locs, Pt.cells, Pt.slots] at X658 l658 y658 z658 st658 hQ658
    rw [l658, y658, z658] at X658
    obtain ⟨hr658, N658q, eh658⟩ := hQ658
    rw [hr658] at st658
    rw [N658q, List.append_nil] at X658
    refine Go.via (fun _ kQ => st658.trans kQ) ?_
    clear st658
    have e658 : T658.heap = h0 := eh658
    clear X0 e0
    show Go p e below (T658.setTop (mkF m 10 #[vr th, vr a, vr o, vi (0 : Int32), vi (0 : Int32), .unset, .unset] [(.int (0 : Int32)), (.int (0 : Int32))])) _
    refine Go.via (fun _ => XS.icmpYes X658.here hx rfl (pc0 := 10) (pc' := 73) rfl (hb hby d7_10) rfl (flt ((by decide) : ¬ ((0 : Int32) < (0 : Int32)))).2.1 (by decide) (by decide)) ?_
    refine Go.via (fun _ => XS.aloadN X658.here hx rfl (hb hby d7_73) rfl rfl) ?_
    obtain ⟨cq659, kq659, q659a, q659b, q659c⟩ := isOf hZ e658 P0
    obtain ⟨r659, _, ⟨T659, L659, k659, n659⟩, -, X659, ⟨Lc659, hQ659, l659, y659, z659⟩, st659⟩ := X658.virtualBack hx (y := (⟨cST, "length", "()I"⟩ : MethodName)) (z := (⟨cST, "length", "()I"⟩ : MethodName)) hown (mvT hZ (tw hw 46 rfl)) (mvT hZ (tw hw 47 rfl)) (notFace_of_selects (args := #[]) (mvT hZ (tw hw 49 rfl))) (mvT hZ (tw hw 49 rfl)) (mvT hZ (tw hw 48 rfl)) (by decide) (backOf (W := 0) (rmLn l Z a0 hw [] a cs b_1 co1 ys1 [] h0 n0 Z0 P0 P1 P2 P3 P8 zCS hcs hR1) hZ (tw hw 50 rfl) (tw hw 14 rfl) (by decide) (by decide)) q659a q659c (g := (mkF m 74 #[vr th, vr a, vr o, vi (0 : Int32), vi (0 : Int32), .unset, .unset] [(.ref a)])) rfl (by rw [hml]; rfl) (Steps.refl _) (argsL := []) (rest := []) (lenOf pd__28_29I rfl) rfl (by show 2 * 0 + _ ≤ _; exact Nat.le_of_eq rfl) (hb hby d7_74) (fun _ _ => ⟨rfl, e658, (by decide : 0 + 0 ≤ _), (by decide : 0 + 0 ≤ _)⟩)
    dsimp only [Pt.U, Pt.locs, Pt.cells, Pt.slots] at X659 l659 y659 z659 st659 hQ659
    rw [l659, y659, z659] at X659
    obtain ⟨hr659, N659q, eh659⟩ := hQ659
    rw [hr659] at st659
    rw [N659q, List.append_nil] at X659
    refine Go.via (fun _ kQ => st659.trans kQ) ?_
    clear st659
    have e659 : T659.heap = h0 := eh659
    clear X658 e658
    show Go p e below (T659.setTop (mkF m 77 #[vr th, vr a, vr o, vi (0 : Int32), vi (0 : Int32), .unset, .unset] [(.int (0 : Int32))])) _
    refine Go.via (fun _ => XS.iloadN X659.here hx rfl (hb hby d7_77) rfl) ?_
    refine Go.via (fun _ => XS.isub X659.here hx rfl (hb hby d7_78) rfl) ?_
    refine Go.via (fun _ => XS.aloadN X659.here hx rfl (hb hby d7_79) rfl rfl) ?_
    obtain ⟨cq660, kq660, q660a, q660b, q660c⟩ := isOf hZ e659 P4
    obtain ⟨r660, _, ⟨T660, L660, k660, n660⟩, -, X660, ⟨Lc660, hQ660, l660, y660, z660⟩, st660⟩ := X659.virtualBack hx (y := (⟨cST, "length", "()I"⟩ : MethodName)) (z := (⟨cST, "length", "()I"⟩ : MethodName)) hown (mvT hZ (tw hw 46 rfl)) (mvT hZ (tw hw 47 rfl)) (notFace_of_selects (args := #[]) (mvT hZ (tw hw 49 rfl))) (mvT hZ (tw hw 49 rfl)) (mvT hZ (tw hw 48 rfl)) (by decide) (backOf (W := 1) (rmLn l Z a0 hw [] o cs b_2 co2 ys2 [z0, z1] h0 n0 Z0 P4 P5 P6 P7 P8 zCS hcs hR2) hZ (tw hw 50 rfl) (tw hw 14 rfl) (by decide) (by decide)) q660a q660c (g := (mkF m 80 #[vr th, vr a, vr o, vi (0 : Int32), vi (0 : Int32), .unset, .unset] [(.ref o), (.int (0 : Int32))])) rfl (by rw [hml]; rfl) (Steps.refl _) (argsL := []) (rest := [(.int (0 : Int32))]) (lenOf pd__28_29I rfl) rfl (by show 2 * 0 + _ ≤ _; exact Nat.le_of_eq rfl) (hb hby d7_80) (fun _ _ => ⟨rfl, e659, (by decide : 0 + 0 ≤ _), (by decide : 0 + 0 ≤ _)⟩)
    dsimp only [Pt.U, Pt.locs, Pt.cells, Pt.slots] at X660 l660 y660 z660 st660 hQ660
    rw [l660, y660, z660] at X660
    obtain ⟨hr660, N660q, eh660⟩ := hQ660
    rw [hr660] at st660
    rw [N660q, List.append_nil] at X660
    refine Go.via (fun _ kQ => st660.trans kQ) ?_
    clear st660
    have e660 : T660.heap = h0 := eh660
    clear X659 e659
    show Go p e below (T660.setTop (mkF m 83 #[vr th, vr a, vr o, vi (0 : Int32), vi (0 : Int32), .unset, .unset] [(.int (2 : Int32)), (.int (0 : Int32))])) _
    refine Go.via (fun _ => XS.iload X660.here hx rfl (hb hby d7_83) rfl) ?_
    refine Go.via (fun _ => XS.isub X660.here hx rfl (hb hby d7_85) rfl) ?_
    obtain ⟨r661, _, ⟨T661, L661, k661, n661⟩, -, X661, ⟨Lc661, hQ661, l661, y661, z661⟩, st661⟩ := Jvm.LawKit.callS X660 hx (y := (⟨"java/lang/Integer", "compare", "(II)I"⟩ : MethodName)) hown (mvT hZ (tw hw 57 rfl)) (mvT hZ (tw hw 58 rfl)) (mvT hZ (tw hw 59 rfl)) (mvT hZ (tw hw 60 rfl)) (by decide) (backOf (W := 0) (rmIc l Z a0 hw [] (0 : Int32) (2 : Int32)  h0 n0 Z0) hZ (tw hw 60 rfl) (tw hw 59 rfl) (by decide) (by decide)) (g := (mkF m 86 #[vr th, vr a, vr o, vi (0 : Int32), vi (0 : Int32), .unset, .unset] [(.int (2 : Int32)), (.int (0 : Int32))])) rfl (by rw [hml]; rfl) (argsL := [(.int (0 : Int32)), (.int (2 : Int32))]) (rest := []) (lenOf pd__28II_29I rfl) rfl (by show 2 * 0 + _ ≤ _; exact Nat.le_of_eq rfl) (hb hby d7_86) (fun _ _ => ⟨rfl, e660, (by decide : 0 + 0 ≤ _), (by decide : 0 + 0 ≤ _)⟩)
    dsimp only [Pt.U, Pt.locs, Pt.cells, Pt.slots] at X661 l661 y661 z661 st661 hQ661
    rw [l661, y661, z661] at X661
    obtain ⟨hr661, N661q, eh661⟩ := hQ661
    rw [hr661] at st661
    rw [N661q, List.append_nil] at X661
    refine Go.via (st661) ?_
    clear st661
    have e661 : T661.heap = h0 := eh661
    clear X660 e660
    show Go p e below (T661.setTop (mkF m 89 #[vr th, vr a, vr o, vi (0 : Int32), vi (0 : Int32), .unset, .unset] [(.int (icF (0 : Int32) (2 : Int32)))])) _
    exact Go.fin X661 hlk (v := some (.int (icF (0 : Int32) (2 : Int32)))) (fun h => by rw [Bd.returns] at h; cases h) (fun fs hr => OwnKit.retI X661 hx Bd.returns (hb hby d7_89) hr) (by rw [e661]; exact ⟨(congrArg (fun qq => some (Value.int qq)) (own_cm0a)), rfl, rfl⟩) (by decide) (by decide)
  · show Go p e below (s₁.setTop (mkF m 0 #[vr th, vr a, vr o, .unset, .unset, .unset, .unset] [])) _
    refine Go.via (fun _ => XS.iconst X0.here hx rfl (hb hby d7_0)) ?_
    refine Go.via (fun _ => XS.istoreN X0.here hx rfl (hb hby d7_1) rfl (l' := #[vr th, vr a, vr o, vi (0 : Int32), .unset, .unset, .unset]) rfl) ?_
    refine Go.via (fun _ => XS.iconst X0.here hx rfl (hb hby d7_2)) ?_
    refine Go.via (fun _ => XS.istore X0.here hx rfl (hb hby d7_3) rfl (l' := #[vr th, vr a, vr o, vi (0 : Int32), vi (0 : Int32), .unset, .unset]) rfl) ?_
    refine Go.via (fun _ => XS.iloadN X0.here hx rfl (hb hby d7_5) rfl) ?_
    refine Go.via (fun _ => XS.aloadN X0.here hx rfl (hb hby d7_6) rfl rfl) ?_
    obtain ⟨cq662, kq662, q662a, q662b, q662c⟩ := isOf hZ e0 P0
    obtain ⟨r662, _, ⟨T662, L662, k662, n662⟩, -, X662, ⟨Lc662, hQ662, l662, y662, z662⟩, st662⟩ := X0.virtualBack hx (y := (⟨cST, "length", "()I"⟩ : MethodName)) (z := (⟨cST, "length", "()I"⟩ : MethodName)) hown (mvT hZ (tw hw 46 rfl)) (mvT hZ (tw hw 47 rfl)) (notFace_of_selects (args := #[]) (mvT hZ (tw hw 49 rfl))) (mvT hZ (tw hw 49 rfl)) (mvT hZ (tw hw 48 rfl)) (by decide) (backOf (W := 1) (rmLn l Z a0 hw [] a cs b_1 co1 ys1 [y0] h0 n0 Z0 P0 P1 P2 P3 P8 zCS hcs hR1) hZ (tw hw 50 rfl) (tw hw 14 rfl) (by decide) (by decide)) q662a q662c (g := (mkF m 7 #[vr th, vr a, vr o, vi (0 : Int32), vi (0 : Int32), .unset, .unset] [(.ref a), (.int (0 : Int32))])) rfl (by rw [hml]; rfl) (Steps.refl _) (argsL := []) (rest := [(.int (0 : Int32))]) (lenOf pd__28_29I rfl) rfl (by show 2 * 0 + _ ≤ _; exact Nat.le_of_eq rfl) (hb hby d7_7) (fun _ _ => ⟨rfl, e0, (by decide : 0 + 0 ≤ _), (by decide : 0 + 0 ≤ _)⟩)
    dsimp only [Pt.U, Pt.locs, Pt.cells, Pt.slots] at X662 l662 y662 z662 st662 hQ662
    rw [l662, y662, z662] at X662
    obtain ⟨hr662, N662q, eh662⟩ := hQ662
    rw [hr662] at st662
    rw [N662q, List.append_nil] at X662
    refine Go.via (fun _ kQ => st662.trans kQ) ?_
    clear st662
    have e662 : T662.heap = h0 := eh662
    clear X0 e0
    show Go p e below (T662.setTop (mkF m 10 #[vr th, vr a, vr o, vi (0 : Int32), vi (0 : Int32), .unset, .unset] [(.int (1 : Int32)), (.int (0 : Int32))])) _
    refine Go.via (fun _ => XS.icmpNo X662.here hx rfl (hb hby d7_10) rfl (tlt ((by decide) : (0 : Int32) < (1 : Int32))).2.1) ?_
    refine Go.via (fun _ => XS.iload X662.here hx rfl (hb hby d7_13) rfl) ?_
    refine Go.via (fun _ => XS.aloadN X662.here hx rfl (hb hby d7_15) rfl rfl) ?_
    obtain ⟨cq663, kq663, q663a, q663b, q663c⟩ := isOf hZ e662 P4
    obtain ⟨r663, _, ⟨T663, L663, k663, n663⟩, -, X663, ⟨Lc663, hQ663, l663, y663, z663⟩, st663⟩ := X662.virtualBack hx (y := (⟨cST, "length", "()I"⟩ : MethodName)) (z := (⟨cST, "length", "()I"⟩ : MethodName)) hown (mvT hZ (tw hw 46 rfl)) (mvT hZ (tw hw 47 rfl)) (notFace_of_selects (args := #[]) (mvT hZ (tw hw 49 rfl))) (mvT hZ (tw hw 49 rfl)) (mvT hZ (tw hw 48 rfl)) (by decide) (backOf (W := 1) (rmLn l Z a0 hw [] o cs b_2 co2 ys2 [] h0 n0 Z0 P4 P5 P6 P7 P8 zCS hcs hR2) hZ (tw hw 50 rfl) (tw hw 14 rfl) (by decide) (by decide)) q663a q663c (g := (mkF m 16 #[vr th, vr a, vr o, vi (0 : Int32), vi (0 : Int32), .unset, .unset] [(.ref o), (.int (0 : Int32))])) rfl (by rw [hml]; rfl) (Steps.refl _) (argsL := []) (rest := [(.int (0 : Int32))]) (lenOf pd__28_29I rfl) rfl (by show 2 * 0 + _ ≤ _; exact Nat.le_of_eq rfl) (hb hby d7_16) (fun _ _ => ⟨rfl, e662, (by decide : 0 + 0 ≤ _), (by decide : 0 + 0 ≤ _)⟩)
    dsimp only [Pt.U, Pt.locs, Pt.cells, Pt.slots] at X663 l663 y663 z663 st663 hQ663
    rw [l663, y663, z663] at X663
    obtain ⟨hr663, N663q, eh663⟩ := hQ663
    rw [hr663] at st663
    rw [N663q, List.append_nil] at X663
    refine Go.via (fun _ kQ => st663.trans kQ) ?_
    clear st663
    have e663 : T663.heap = h0 := eh663
    clear X662 e662
    show Go p e below (T663.setTop (mkF m 19 #[vr th, vr a, vr o, vi (0 : Int32), vi (0 : Int32), .unset, .unset] [(.int (0 : Int32)), (.int (0 : Int32))])) _
    refine Go.via (fun _ => XS.icmpYes X663.here hx rfl (pc0 := 19) (pc' := 73) rfl (hb hby d7_19) rfl (flt ((by decide) : ¬ ((0 : Int32) < (0 : Int32)))).2.1 (by decide) (by decide)) ?_
    refine Go.via (fun _ => XS.aloadN X663.here hx rfl (hb hby d7_73) rfl rfl) ?_
    obtain ⟨cq664, kq664, q664a, q664b, q664c⟩ := isOf hZ e663 P0
    obtain ⟨r664, _, ⟨T664, L664, k664, n664⟩, -, X664, ⟨Lc664, hQ664, l664, y664, z664⟩, st664⟩ := X663.virtualBack hx (y := (⟨cST, "length", "()I"⟩ : MethodName)) (z := (⟨cST, "length", "()I"⟩ : MethodName)) hown (mvT hZ (tw hw 46 rfl)) (mvT hZ (tw hw 47 rfl)) (notFace_of_selects (args := #[]) (mvT hZ (tw hw 49 rfl))) (mvT hZ (tw hw 49 rfl)) (mvT hZ (tw hw 48 rfl)) (by decide) (backOf (W := 0) (rmLn l Z a0 hw [] a cs b_1 co1 ys1 [y0] h0 n0 Z0 P0 P1 P2 P3 P8 zCS hcs hR1) hZ (tw hw 50 rfl) (tw hw 14 rfl) (by decide) (by decide)) q664a q664c (g := (mkF m 74 #[vr th, vr a, vr o, vi (0 : Int32), vi (0 : Int32), .unset, .unset] [(.ref a)])) rfl (by rw [hml]; rfl) (Steps.refl _) (argsL := []) (rest := []) (lenOf pd__28_29I rfl) rfl (by show 2 * 0 + _ ≤ _; exact Nat.le_of_eq rfl) (hb hby d7_74) (fun _ _ => ⟨rfl, e663, (by decide : 0 + 0 ≤ _), (by decide : 0 + 0 ≤ _)⟩)
    dsimp only [Pt.U, Pt.locs, Pt.cells, Pt.slots] at X664 l664 y664 z664 st664 hQ664
    rw [l664, y664, z664] at X664
    obtain ⟨hr664, N664q, eh664⟩ := hQ664
    rw [hr664] at st664
    rw [N664q, List.append_nil] at X664
    refine Go.via (fun _ kQ => st664.trans kQ) ?_
    clear st664
    have e664 : T664.heap = h0 := eh664
    clear X663 e663
    show Go p e below (T664.setTop (mkF m 77 #[vr th, vr a, vr o, vi (0 : Int32), vi (0 : Int32), .unset, .unset] [(.int (1 : Int32))])) _
    refine Go.via (fun _ => XS.iloadN X664.here hx rfl (hb hby d7_77) rfl) ?_
    refine Go.via (fun _ => XS.isub X664.here hx rfl (hb hby d7_78) rfl) ?_
    refine Go.via (fun _ => XS.aloadN X664.here hx rfl (hb hby d7_79) rfl rfl) ?_
    obtain ⟨cq665, kq665, q665a, q665b, q665c⟩ := isOf hZ e664 P4
    obtain ⟨r665, _, ⟨T665, L665, k665, n665⟩, -, X665, ⟨Lc665, hQ665, l665, y665, z665⟩, st665⟩ := X664.virtualBack hx (y := (⟨cST, "length", "()I"⟩ : MethodName)) (z := (⟨cST, "length", "()I"⟩ : MethodName)) hown (mvT hZ (tw hw 46 rfl)) (mvT hZ (tw hw 47 rfl)) (notFace_of_selects (args := #[]) (mvT hZ (tw hw 49 rfl))) (mvT hZ (tw hw 49 rfl)) (mvT hZ (tw hw 48 rfl)) (by decide) (backOf (W := 1) (rmLn l Z a0 hw [] o cs b_2 co2 ys2 [] h0 n0 Z0 P4 P5 P6 P7 P8 zCS hcs hR2) hZ (tw hw 50 rfl) (tw hw 14 rfl) (by decide) (by decide)) q665a q665c (g := (mkF m 80 #[vr th, vr a, vr o, vi (0 : Int32), vi (0 : Int32), .unset, .unset] [(.ref o), (.int (1 : Int32))])) rfl (by rw [hml]; rfl) (Steps.refl _) (argsL := []) (rest := [(.int (1 : Int32))]) (lenOf pd__28_29I rfl) rfl (by show 2 * 0 + _ ≤ _; exact Nat.le_of_eq rfl) (hb hby d7_80) (fun _ _ => ⟨rfl, e664, (by decide : 0 + 0 ≤ _), (by decide : 0 + 0 ≤ _)⟩)
    dsimp only [Pt.U, Pt.locs, Pt.cells, Pt.slots] at X665 l665 y665 z665 st665 hQ665
    rw [l665, y665, z665] at X665
    obtain ⟨hr665, N665q, eh665⟩ := hQ665
    rw [hr665] at st665
    rw [N665q, List.append_nil] at X665
    refine Go.via (fun _ kQ => st665.trans kQ) ?_
    clear st665
    have e665 : T665.heap = h0 := eh665
    clear X664 e664
    show Go p e below (T665.setTop (mkF m 83 #[vr th, vr a, vr o, vi (0 : Int32), vi (0 : Int32), .unset, .unset] [(.int (0 : Int32)), (.int (1 : Int32))])) _
    refine Go.via (fun _ => XS.iload X665.here hx rfl (hb hby d7_83) rfl) ?_
    refine Go.via (fun _ => XS.isub X665.here hx rfl (hb hby d7_85) rfl) ?_
    obtain ⟨r666, _, ⟨T666, L666, k666, n666⟩, -, X666, ⟨Lc666, hQ666, l666, y666, z666⟩, st666⟩ := Jvm.LawKit.callS X665 hx (y := (⟨"java/lang/Integer", "compare", "(II)I"⟩ : MethodName)) hown (mvT hZ (tw hw 57 rfl)) (mvT hZ (tw hw 58 rfl)) (mvT hZ (tw hw 59 rfl)) (mvT hZ (tw hw 60 rfl)) (by decide) (backOf (W := 0) (rmIc l Z a0 hw [] (1 : Int32) (0 : Int32)  h0 n0 Z0) hZ (tw hw 60 rfl) (tw hw 59 rfl) (by decide) (by decide)) (g := (mkF m 86 #[vr th, vr a, vr o, vi (0 : Int32), vi (0 : Int32), .unset, .unset] [(.int (0 : Int32)), (.int (1 : Int32))])) rfl (by rw [hml]; rfl) (argsL := [(.int (1 : Int32)), (.int (0 : Int32))]) (rest := []) (lenOf pd__28II_29I rfl) rfl (by show 2 * 0 + _ ≤ _; exact Nat.le_of_eq rfl) (hb hby d7_86) (fun _ _ => ⟨rfl, e665, (by decide : 0 + 0 ≤ _), (by decide : 0 + 0 ≤ _)⟩)
    dsimp only [Pt.U, Pt.locs, Pt.cells, Pt.slots] at X666 l666 y666 z666 st666 hQ666
    rw [l666, y666, z666] at X666
    obtain ⟨hr666, N666q, eh666⟩ := hQ666
    rw [hr666] at st666
    rw [N666q, List.append_nil] at X666
    refine Go.via (st666) ?_
    clear st666
    have e666 : T666.heap = h0 := eh666
    clear X665 e665
    show Go p e below (T666.setTop (mkF m 89 #[vr th, vr a, vr o, vi (0 : Int32), vi (0 : Int32), .unset, .unset] [(.int (icF (1 : Int32) (0 : Int32)))])) _
    exact Go.fin X666 hlk (v := some (.int (icF (1 : Int32) (0 : Int32)))) (fun h => by rw [Bd.returns] at h; cases h) (fun fs hr => OwnKit.retI X666 hx Bd.returns (hb hby d7_89) hr) (by rw [e666]; exact ⟨(congrArg (fun qq => some (Value.int qq)) (show (icF (1 : Int32) (0 : Int32)) = cmF [y0] [] by unfold cmF; rw [show cpL [y0] = [y0] from rfl, show cpL [] = [] from rfl]; first | done | rfl | decide)), rfl, rfl⟩) (by decide) (by decide)
  · show Go p e below (s₁.setTop (mkF m 0 #[vr th, vr a, vr o, .unset, .unset, .unset, .unset] [])) _
    refine Go.via (fun _ => XS.iconst X0.here hx rfl (hb hby d7_0)) ?_
    refine Go.via (fun _ => XS.istoreN X0.here hx rfl (hb hby d7_1) rfl (l' := #[vr th, vr a, vr o, vi (0 : Int32), .unset, .unset, .unset]) rfl) ?_
    refine Go.via (fun _ => XS.iconst X0.here hx rfl (hb hby d7_2)) ?_
    refine Go.via (fun _ => XS.istore X0.here hx rfl (hb hby d7_3) rfl (l' := #[vr th, vr a, vr o, vi (0 : Int32), vi (0 : Int32), .unset, .unset]) rfl) ?_
    refine Go.via (fun _ => XS.iloadN X0.here hx rfl (hb hby d7_5) rfl) ?_
    refine Go.via (fun _ => XS.aloadN X0.here hx rfl (hb hby d7_6) rfl rfl) ?_
    obtain ⟨cq667, kq667, q667a, q667b, q667c⟩ := isOf hZ e0 P0
    obtain ⟨r667, _, ⟨T667, L667, k667, n667⟩, -, X667, ⟨Lc667, hQ667, l667, y667, z667⟩, st667⟩ := X0.virtualBack hx (y := (⟨cST, "length", "()I"⟩ : MethodName)) (z := (⟨cST, "length", "()I"⟩ : MethodName)) hown (mvT hZ (tw hw 46 rfl)) (mvT hZ (tw hw 47 rfl)) (notFace_of_selects (args := #[]) (mvT hZ (tw hw 49 rfl))) (mvT hZ (tw hw 49 rfl)) (mvT hZ (tw hw 48 rfl)) (by decide) (backOf (W := 1) (rmLn l Z a0 hw [] a cs b_1 co1 ys1 [y0] h0 n0 Z0 P0 P1 P2 P3 P8 zCS hcs hR1) hZ (tw hw 50 rfl) (tw hw 14 rfl) (by decide) (by decide)) q667a q667c (g := (mkF m 7 #[vr th, vr a, vr o, vi (0 : Int32), vi (0 : Int32), .unset, .unset] [(.ref a), (.int (0 : Int32))])) rfl (by rw [hml]; rfl) (Steps.refl _) (argsL := []) (rest := [(.int (0 : Int32))]) (lenOf pd__28_29I rfl) rfl (by show 2 * 0 + _ ≤ _; exact Nat.le_of_eq rfl) (hb hby d7_7) (fun _ _ => ⟨rfl, e0, (by decide : 0 + 0 ≤ _), (by decide : 0 + 0 ≤ _)⟩)
    dsimp only [Pt.U, Pt.locs, Pt.cells, Pt.slots] at X667 l667 y667 z667 st667 hQ667
    rw [l667, y667, z667] at X667
    obtain ⟨hr667, N667q, eh667⟩ := hQ667
    rw [hr667] at st667
    rw [N667q, List.append_nil] at X667
    refine Go.via (fun _ kQ => st667.trans kQ) ?_
    clear st667
    have e667 : T667.heap = h0 := eh667
    clear X0 e0
    show Go p e below (T667.setTop (mkF m 10 #[vr th, vr a, vr o, vi (0 : Int32), vi (0 : Int32), .unset, .unset] [(.int (1 : Int32)), (.int (0 : Int32))])) _
    refine Go.via (fun _ => XS.icmpNo X667.here hx rfl (hb hby d7_10) rfl (tlt ((by decide) : (0 : Int32) < (1 : Int32))).2.1) ?_
    refine Go.via (fun _ => XS.iload X667.here hx rfl (hb hby d7_13) rfl) ?_
    refine Go.via (fun _ => XS.aloadN X667.here hx rfl (hb hby d7_15) rfl rfl) ?_
    obtain ⟨cq668, kq668, q668a, q668b, q668c⟩ := isOf hZ e667 P4
    obtain ⟨r668, _, ⟨T668, L668, k668, n668⟩, -, X668, ⟨Lc668, hQ668, l668, y668, z668⟩, st668⟩ := X667.virtualBack hx (y := (⟨cST, "length", "()I"⟩ : MethodName)) (z := (⟨cST, "length", "()I"⟩ : MethodName)) hown (mvT hZ (tw hw 46 rfl)) (mvT hZ (tw hw 47 rfl)) (notFace_of_selects (args := #[]) (mvT hZ (tw hw 49 rfl))) (mvT hZ (tw hw 49 rfl)) (mvT hZ (tw hw 48 rfl)) (by decide) (backOf (W := 1) (rmLn l Z a0 hw [] o cs b_2 co2 ys2 [z0] h0 n0 Z0 P4 P5 P6 P7 P8 zCS hcs hR2) hZ (tw hw 50 rfl) (tw hw 14 rfl) (by decide) (by decide)) q668a q668c (g := (mkF m 16 #[vr th, vr a, vr o, vi (0 : Int32), vi (0 : Int32), .unset, .unset] [(.ref o), (.int (0 : Int32))])) rfl (by rw [hml]; rfl) (Steps.refl _) (argsL := []) (rest := [(.int (0 : Int32))]) (lenOf pd__28_29I rfl) rfl (by show 2 * 0 + _ ≤ _; exact Nat.le_of_eq rfl) (hb hby d7_16) (fun _ _ => ⟨rfl, e667, (by decide : 0 + 0 ≤ _), (by decide : 0 + 0 ≤ _)⟩)
    dsimp only [Pt.U, Pt.locs, Pt.cells, Pt.slots] at X668 l668 y668 z668 st668 hQ668
    rw [l668, y668, z668] at X668
    obtain ⟨hr668, N668q, eh668⟩ := hQ668
    rw [hr668] at st668
    rw [N668q, List.append_nil] at X668
    refine Go.via (fun _ kQ => st668.trans kQ) ?_
    clear st668
    have e668 : T668.heap = h0 := eh668
    clear X667 e667
    show Go p e below (T668.setTop (mkF m 19 #[vr th, vr a, vr o, vi (0 : Int32), vi (0 : Int32), .unset, .unset] [(.int (1 : Int32)), (.int (0 : Int32))])) _
    refine Go.via (fun _ => XS.icmpNo X668.here hx rfl (hb hby d7_19) rfl (tlt ((by decide) : (0 : Int32) < (1 : Int32))).2.1) ?_
    refine Go.via (fun _ => XS.aloadN X668.here hx rfl (hb hby d7_22) rfl rfl) ?_
    refine Go.via (fun _ => XS.iloadN X668.here hx rfl (hb hby d7_23) rfl) ?_
    obtain ⟨cq669, kq669, q669a, q669b, q669c⟩ := isOf hZ e668 P0
    obtain ⟨r669, _, ⟨T669, L669, k669, n669⟩, -, X669, ⟨Lc669, hQ669, l669, y669, z669⟩, st669⟩ := X668.virtualBack hx (y := (⟨cST, "codePointAt", "(I)I"⟩ : MethodName)) (z := (⟨cST, "codePointAt", "(I)I"⟩ : MethodName)) hown (mvT hZ (tw hw 97 rfl)) (mvT hZ (tw hw 98 rfl)) (notFace_of_selects (args := #[]) (mvT hZ (tw hw 100 rfl))) (mvT hZ (tw hw 100 rfl)) (mvT hZ (tw hw 99 rfl)) (by decide) (backOf (W := 0) (rmSc_10 l Z a0 hw [] a (0 : Int32) cs fv b_1 co1 ys1 y0 h0 n0 Z0 P0 P1 P2 P3 P8 zCS zF zAD zHI zLO hcs hfv rfl hR1) hZ (tw hw 101 rfl) (tw hw 14 rfl) (by decide) (by decide)) q669a q669c (g := (mkF m 24 #[vr th, vr a, vr o, vi (0 : Int32), vi (0 : Int32), .unset, .unset] [(.int (0 : Int32)), (.ref a)])) rfl (by rw [hml]; rfl) (Steps.refl _) (argsL := [(.int (0 : Int32))]) (rest := []) (lenOf pd__28I_29I rfl) rfl (by show 2 * 0 + _ ≤ _; exact Nat.le_of_eq rfl) (hb hby d7_24) (fun _ _ => ⟨rfl, e668, (by decide : 0 + 0 ≤ _), (by decide : 0 + 0 ≤ _)⟩)
    dsimp only [Pt.U, Pt.locs, Pt.cells, Pt.slots] at X669 l669 y669 z669 st669 hQ669
    rw [l669, y669, z669] at X669
    obtain ⟨hr669, N669q, eh669⟩ := hQ669
    rw [hr669] at st669
    rw [N669q, List.append_nil] at X669
    refine Go.via (fun _ kQ => st669.trans kQ) ?_
    clear st669
    have e669 : T669.heap = h0 := eh669
    clear X668 e668
    show Go p e below (T669.setTop (mkF m 27 #[vr th, vr a, vr o, vi (0 : Int32), vi (0 : Int32), .unset, .unset] [(.int y0)])) _
    · skip
      show Go p e below (T669.setTop (mkF m 27 #[vr th, vr a, vr o, vi (0 : Int32), vi (0 : Int32), .unset, .unset] [(.int y0)])) _
      refine Go.via (fun _ => XS.istore X669.here hx rfl (hb hby d7_27) rfl (l' := #[vr th, vr a, vr o, vi (0 : Int32), vi (0 : Int32), vi y0, .unset]) rfl) ?_
      refine Go.via (fun _ => XS.aloadN X669.here hx rfl (hb hby d7_29) rfl rfl) ?_
      refine Go.via (fun _ => XS.iload X669.here hx rfl (hb hby d7_30) rfl) ?_
      obtain ⟨cq670, kq670, q670a, q670b, q670c⟩ := isOf hZ e669 P4
      obtain ⟨r670, _, ⟨T670, L670, k670, n670⟩, -, X670, ⟨Lc670, hQ670, l670, y670, z670⟩, st670⟩ := X669.virtualBack hx (y := (⟨cST, "codePointAt", "(I)I"⟩ : MethodName)) (z := (⟨cST, "codePointAt", "(I)I"⟩ : MethodName)) hown (mvT hZ (tw hw 97 rfl)) (mvT hZ (tw hw 98 rfl)) (notFace_of_selects (args := #[]) (mvT hZ (tw hw 100 rfl))) (mvT hZ (tw hw 100 rfl)) (mvT hZ (tw hw 99 rfl)) (by decide) (backOf (W := 0) (rmSc_10 l Z a0 hw [] o (0 : Int32) cs fv b_2 co2 ys2 z0 h0 n0 Z0 P4 P5 P6 P7 P8 zCS zF zAD zHI zLO hcs hfv rfl hR2) hZ (tw hw 101 rfl) (tw hw 14 rfl) (by decide) (by decide)) q670a q670c (g := (mkF m 32 #[vr th, vr a, vr o, vi (0 : Int32), vi (0 : Int32), vi y0, .unset] [(.int (0 : Int32)), (.ref o)])) rfl (by rw [hml]; rfl) (Steps.refl _) (argsL := [(.int (0 : Int32))]) (rest := []) (lenOf pd__28I_29I rfl) rfl (by show 2 * 0 + _ ≤ _; exact Nat.le_of_eq rfl) (hb hby d7_32) (fun _ _ => ⟨rfl, e669, (by decide : 0 + 0 ≤ _), (by decide : 0 + 0 ≤ _)⟩)
      dsimp only [Pt.U, Pt.locs, Pt.cells, Pt.slots] at X670 l670 y670 z670 st670 hQ670
      rw [l670, y670, z670] at X670
      obtain ⟨hr670, N670q, eh670⟩ := hQ670
      rw [hr670] at st670
      rw [N670q, List.append_nil] at X670
      refine Go.via (fun _ kQ => st670.trans kQ) ?_
      clear st670
      have e670 : T670.heap = h0 := eh670
      clear X669 e669
      show Go p e below (T670.setTop (mkF m 35 #[vr th, vr a, vr o, vi (0 : Int32), vi (0 : Int32), vi y0, .unset] [(.int z0)])) _
      · skip
        show Go p e below (T670.setTop (mkF m 35 #[vr th, vr a, vr o, vi (0 : Int32), vi (0 : Int32), vi y0, .unset] [(.int z0)])) _
        refine Go.via (fun _ => XS.istore X670.here hx rfl (hb hby d7_35) rfl (l' := #[vr th, vr a, vr o, vi (0 : Int32), vi (0 : Int32), vi y0, vi z0]) rfl) ?_
        refine Go.via (fun _ => XS.iload X670.here hx rfl (hb hby d7_37) rfl) ?_
        refine Go.via (fun _ => XS.iload X670.here hx rfl (hb hby d7_39) rfl) ?_
        by_cases hc671 : y0 = z0
        · refine Go.via (fun _ => XS.icmpYes X670.here hx rfl (pc0 := 41) (pc' := 52) rfl (hb hby d7_41) rfl (teq (hc671 : y0 = z0)).1 (by decide) (by decide)) ?_
          refine Go.via (fun _ => XS.iloadN X670.here hx rfl (hb hby d7_52) rfl) ?_
          refine Go.via (fun _ => XS.iload X670.here hx rfl (hb hby d7_53) rfl) ?_
          obtain ⟨r672, _, ⟨T672, L672, k672, n672⟩, -, X672, ⟨Lc672, hQ672, l672, y672, z672⟩, st672⟩ := Jvm.LawKit.callS X670 hx (y := (⟨"java/lang/Character", "charCount", "(I)I"⟩ : MethodName)) hown (mvT hZ (tw hw 126 rfl)) (mvT hZ (tw hw 127 rfl)) (mvT hZ (tw hw 123 rfl)) (mvT hZ (tw hw 128 rfl)) (by decide) (backOf (W := 1) (rmCc l Z a0 hw [] y0  h0 n0 Z0) hZ (tw hw 128 rfl) (tw hw 123 rfl) (by decide) (by decide)) (g := (mkF m 55 #[vr th, vr a, vr o, vi (0 : Int32), vi (0 : Int32), vi y0, vi z0] [(.int y0), (.int (0 : Int32))])) rfl (by rw [hml]; rfl) (argsL := [(.int y0)]) (rest := [(.int (0 : Int32))]) (lenOf pd__28I_29I rfl) rfl (by show 2 * 0 + _ ≤ _; exact Nat.le_of_eq rfl) (hb hby d7_55) (fun _ _ => ⟨rfl, e670, (by decide : 0 + 0 ≤ _), (by decide : 0 + 0 ≤ _)⟩)
          dsimp only [Pt.U, Pt.locs, Pt.cells, Pt.slots] at X672 l672 y672 z672 st672 hQ672
          rw [l672, y672, z672] at X672
          obtain ⟨hr672, N672q, eh672⟩ := hQ672
          rw [hr672] at st672
          rw [N672q, List.append_nil] at X672
          refine Go.via (st672) ?_
          clear st672
          have e672 : T672.heap = h0 := eh672
          clear X670 e670
          show Go p e below (T672.setTop (mkF m 58 #[vr th, vr a, vr o, vi (0 : Int32), vi (0 : Int32), vi y0, vi z0] [(.int (ccF y0)), (.int (0 : Int32))])) _
          rw [own_cc1 hy0]
          show Go p e below (T672.setTop (mkF m 58 #[vr th, vr a, vr o, vi (0 : Int32), vi (0 : Int32), vi y0, vi z0] [(.int (1 : Int32)), (.int (0 : Int32))])) _
          refine Go.via (fun _ => XS.iadd X672.here hx rfl (hb hby d7_58) rfl) ?_
          refine Go.via (fun _ => XS.istoreN X672.here hx rfl (hb hby d7_59) rfl (l' := #[vr th, vr a, vr o, vi (1 : Int32), vi (0 : Int32), vi y0, vi z0]) rfl) ?_
          refine Go.via (fun _ => XS.iload X672.here hx rfl (hb hby d7_60) rfl) ?_
          refine Go.via (fun _ => XS.iload X672.here hx rfl (hb hby d7_62) rfl) ?_
          obtain ⟨r673, _, ⟨T673, L673, k673, n673⟩, -, X673, ⟨Lc673, hQ673, l673, y673, z673⟩, st673⟩ := Jvm.LawKit.callS X672 hx (y := (⟨"java/lang/Character", "charCount", "(I)I"⟩ : MethodName)) hown (mvT hZ (tw hw 126 rfl)) (mvT hZ (tw hw 127 rfl)) (mvT hZ (tw hw 123 rfl)) (mvT hZ (tw hw 128 rfl)) (by decide) (backOf (W := 1) (rmCc l Z a0 hw [] z0  h0 n0 Z0) hZ (tw hw 128 rfl) (tw hw 123 rfl) (by decide) (by decide)) (g := (mkF m 64 #[vr th, vr a, vr o, vi (1 : Int32), vi (0 : Int32), vi y0, vi z0] [(.int z0), (.int (0 : Int32))])) rfl (by rw [hml]; rfl) (argsL := [(.int z0)]) (rest := [(.int (0 : Int32))]) (lenOf pd__28I_29I rfl) rfl (by show 2 * 0 + _ ≤ _; exact Nat.le_of_eq rfl) (hb hby d7_64) (fun _ _ => ⟨rfl, e672, (by decide : 0 + 0 ≤ _), (by decide : 0 + 0 ≤ _)⟩)
          dsimp only [Pt.U, Pt.locs, Pt.cells, Pt.slots] at X673 l673 y673 z673 st673 hQ673
          rw [l673, y673, z673] at X673
          obtain ⟨hr673, N673q, eh673⟩ := hQ673
          rw [hr673] at st673
          rw [N673q, List.append_nil] at X673
          refine Go.via (st673) ?_
          clear st673
          have e673 : T673.heap = h0 := eh673
          clear X672 e672
          show Go p e below (T673.setTop (mkF m 67 #[vr th, vr a, vr o, vi (1 : Int32), vi (0 : Int32), vi y0, vi z0] [(.int (ccF z0)), (.int (0 : Int32))])) _
          rw [own_cc1 hz0]
          show Go p e below (T673.setTop (mkF m 67 #[vr th, vr a, vr o, vi (1 : Int32), vi (0 : Int32), vi y0, vi z0] [(.int (1 : Int32)), (.int (0 : Int32))])) _
          refine Go.via (fun _ => XS.iadd X673.here hx rfl (hb hby d7_67) rfl) ?_
          refine Go.via (fun _ => XS.istore X673.here hx rfl (hb hby d7_68) rfl (l' := #[vr th, vr a, vr o, vi (1 : Int32), vi (1 : Int32), vi y0, vi z0]) rfl) ?_
          refine Go.via (fun _ => XS.goto X673.here hx rfl (pc0 := 70) (pc' := 5) rfl (hb hby d7_70) (by decide) (by decide)) ?_
          refine Go.via (fun _ => XS.iloadN X673.here hx rfl (hb hby d7_5) rfl) ?_
          refine Go.via (fun _ => XS.aloadN X673.here hx rfl (hb hby d7_6) rfl rfl) ?_
          obtain ⟨cq674, kq674, q674a, q674b, q674c⟩ := isOf hZ e673 P0
          obtain ⟨r674, _, ⟨T674, L674, k674, n674⟩, -, X674, ⟨Lc674, hQ674, l674, y674, z674⟩, st674⟩ := X673.virtualBack hx (y := (⟨cST, "length", "()I"⟩ : MethodName)) (z := (⟨cST, "length", "()I"⟩ : MethodName)) hown (mvT hZ (tw hw 46 rfl)) (mvT hZ (tw hw 47 rfl)) (notFace_of_selects (args := #[]) (mvT hZ (tw hw 49 rfl))) (mvT hZ (tw hw 49 rfl)) (mvT hZ (tw hw 48 rfl)) (by decide) (backOf (W := 1) (rmLn l Z a0 hw [] a cs b_1 co1 ys1 [y0] h0 n0 Z0 P0 P1 P2 P3 P8 zCS hcs hR1) hZ (tw hw 50 rfl) (tw hw 14 rfl) (by decide) (by decide)) q674a q674c (g := (mkF m 7 #[vr th, vr a, vr o, vi (1 : Int32), vi (1 : Int32), vi y0, vi z0] [(.ref a), (.int (1 : Int32))])) rfl (by rw [hml]; rfl) (Steps.refl _) (argsL := []) (rest := [(.int (1 : Int32))]) (lenOf pd__28_29I rfl) rfl (by show 2 * 0 + _ ≤ _; exact Nat.le_of_eq rfl) (hb hby d7_7) (fun _ _ => ⟨rfl, e673, (by decide : 0 + 0 ≤ _), (by decide : 0 + 0 ≤ _)⟩)
          dsimp only [Pt.U, Pt.locs, Pt.cells, Pt.slots] at X674 l674 y674 z674 st674 hQ674
          rw [l674, y674, z674] at X674
          obtain ⟨hr674, N674q, eh674⟩ := hQ674
          rw [hr674] at st674
          rw [N674q, List.append_nil] at X674
          refine Go.via (fun _ kQ => st674.trans kQ) ?_
          clear st674
          have e674 : T674.heap = h0 := eh674
          clear X673 e673
          show Go p e below (T674.setTop (mkF m 10 #[vr th, vr a, vr o, vi (1 : Int32), vi (1 : Int32), vi y0, vi z0] [(.int (1 : Int32)), (.int (1 : Int32))])) _
          refine Go.via (fun _ => XS.icmpYes X674.here hx rfl (pc0 := 10) (pc' := 73) rfl (hb hby d7_10) rfl (flt ((by decide) : ¬ ((1 : Int32) < (1 : Int32)))).2.1 (by decide) (by decide)) ?_
          refine Go.via (fun _ => XS.aloadN X674.here hx rfl (hb hby d7_73) rfl rfl) ?_
          obtain ⟨cq675, kq675, q675a, q675b, q675c⟩ := isOf hZ e674 P0
          obtain ⟨r675, _, ⟨T675, L675, k675, n675⟩, -, X675, ⟨Lc675, hQ675, l675, y675, z675⟩, st675⟩ := X674.virtualBack hx (y := (⟨cST, "length", "()I"⟩ : MethodName)) (z := (⟨cST, "length", "()I"⟩ : MethodName)) hown (mvT hZ (tw hw 46 rfl)) (mvT hZ (tw hw 47 rfl)) (notFace_of_selects (args := #[]) (mvT hZ (tw hw 49 rfl))) (mvT hZ (tw hw 49 rfl)) (mvT hZ (tw hw 48 rfl)) (by decide) (backOf (W := 0) (rmLn l Z a0 hw [] a cs b_1 co1 ys1 [y0] h0 n0 Z0 P0 P1 P2 P3 P8 zCS hcs hR1) hZ (tw hw 50 rfl) (tw hw 14 rfl) (by decide) (by decide)) q675a q675c (g := (mkF m 74 #[vr th, vr a, vr o, vi (1 : Int32), vi (1 : Int32), vi y0, vi z0] [(.ref a)])) rfl (by rw [hml]; rfl) (Steps.refl _) (argsL := []) (rest := []) (lenOf pd__28_29I rfl) rfl (by show 2 * 0 + _ ≤ _; exact Nat.le_of_eq rfl) (hb hby d7_74) (fun _ _ => ⟨rfl, e674, (by decide : 0 + 0 ≤ _), (by decide : 0 + 0 ≤ _)⟩)
          dsimp only [Pt.U, Pt.locs, Pt.cells, Pt.slots] at X675 l675 y675 z675 st675 hQ675
          rw [l675, y675, z675] at X675
          obtain ⟨hr675, N675q, eh675⟩ := hQ675
          rw [hr675] at st675
          rw [N675q, List.append_nil] at X675
          refine Go.via (fun _ kQ => st675.trans kQ) ?_
          clear st675
          have e675 : T675.heap = h0 := eh675
          clear X674 e674
          show Go p e below (T675.setTop (mkF m 77 #[vr th, vr a, vr o, vi (1 : Int32), vi (1 : Int32), vi y0, vi z0] [(.int (1 : Int32))])) _
          refine Go.via (fun _ => XS.iloadN X675.here hx rfl (hb hby d7_77) rfl) ?_
          refine Go.via (fun _ => XS.isub X675.here hx rfl (hb hby d7_78) rfl) ?_
          refine Go.via (fun _ => XS.aloadN X675.here hx rfl (hb hby d7_79) rfl rfl) ?_
          obtain ⟨cq676, kq676, q676a, q676b, q676c⟩ := isOf hZ e675 P4
          obtain ⟨r676, _, ⟨T676, L676, k676, n676⟩, -, X676, ⟨Lc676, hQ676, l676, y676, z676⟩, st676⟩ := X675.virtualBack hx (y := (⟨cST, "length", "()I"⟩ : MethodName)) (z := (⟨cST, "length", "()I"⟩ : MethodName)) hown (mvT hZ (tw hw 46 rfl)) (mvT hZ (tw hw 47 rfl)) (notFace_of_selects (args := #[]) (mvT hZ (tw hw 49 rfl))) (mvT hZ (tw hw 49 rfl)) (mvT hZ (tw hw 48 rfl)) (by decide) (backOf (W := 1) (rmLn l Z a0 hw [] o cs b_2 co2 ys2 [z0] h0 n0 Z0 P4 P5 P6 P7 P8 zCS hcs hR2) hZ (tw hw 50 rfl) (tw hw 14 rfl) (by decide) (by decide)) q676a q676c (g := (mkF m 80 #[vr th, vr a, vr o, vi (1 : Int32), vi (1 : Int32), vi y0, vi z0] [(.ref o), (.int (0 : Int32))])) rfl (by rw [hml]; rfl) (Steps.refl _) (argsL := []) (rest := [(.int (0 : Int32))]) (lenOf pd__28_29I rfl) rfl (by show 2 * 0 + _ ≤ _; exact Nat.le_of_eq rfl) (hb hby d7_80) (fun _ _ => ⟨rfl, e675, (by decide : 0 + 0 ≤ _), (by decide : 0 + 0 ≤ _)⟩)
          dsimp only [Pt.U, Pt.locs, Pt.cells, Pt.slots] at X676 l676 y676 z676 st676 hQ676
          rw [l676, y676, z676] at X676
          obtain ⟨hr676, N676q, eh676⟩ := hQ676
          rw [hr676] at st676
          rw [N676q, List.append_nil] at X676
          refine Go.via (fun _ kQ => st676.trans kQ) ?_
          clear st676
          have e676 : T676.heap = h0 := eh676
          clear X675 e675
          show Go p e below (T676.setTop (mkF m 83 #[vr th, vr a, vr o, vi (1 : Int32), vi (1 : Int32), vi y0, vi z0] [(.int (1 : Int32)), (.int (0 : Int32))])) _
          refine Go.via (fun _ => XS.iload X676.here hx rfl (hb hby d7_83) rfl) ?_
          refine Go.via (fun _ => XS.isub X676.here hx rfl (hb hby d7_85) rfl) ?_
          obtain ⟨r677, _, ⟨T677, L677, k677, n677⟩, -, X677, ⟨Lc677, hQ677, l677, y677, z677⟩, st677⟩ := Jvm.LawKit.callS X676 hx (y := (⟨"java/lang/Integer", "compare", "(II)I"⟩ : MethodName)) hown (mvT hZ (tw hw 57 rfl)) (mvT hZ (tw hw 58 rfl)) (mvT hZ (tw hw 59 rfl)) (mvT hZ (tw hw 60 rfl)) (by decide) (backOf (W := 0) (rmIc l Z a0 hw [] (0 : Int32) (0 : Int32)  h0 n0 Z0) hZ (tw hw 60 rfl) (tw hw 59 rfl) (by decide) (by decide)) (g := (mkF m 86 #[vr th, vr a, vr o, vi (1 : Int32), vi (1 : Int32), vi y0, vi z0] [(.int (0 : Int32)), (.int (0 : Int32))])) rfl (by rw [hml]; rfl) (argsL := [(.int (0 : Int32)), (.int (0 : Int32))]) (rest := []) (lenOf pd__28II_29I rfl) rfl (by show 2 * 0 + _ ≤ _; exact Nat.le_of_eq rfl) (hb hby d7_86) (fun _ _ => ⟨rfl, e676, (by decide : 0 + 0 ≤ _), (by decide : 0 + 0 ≤ _)⟩)
          dsimp only [Pt.U, Pt.locs, Pt.cells, Pt.slots] at X677 l677 y677 z677 st677 hQ677
          rw [l677, y677, z677] at X677
          obtain ⟨hr677, N677q, eh677⟩ := hQ677
          rw [hr677] at st677
          rw [N677q, List.append_nil] at X677
          refine Go.via (st677) ?_
          clear st677
          have e677 : T677.heap = h0 := eh677
          clear X676 e676
          show Go p e below (T677.setTop (mkF m 89 #[vr th, vr a, vr o, vi (1 : Int32), vi (1 : Int32), vi y0, vi z0] [(.int (icF (0 : Int32) (0 : Int32)))])) _
          exact Go.fin X677 hlk (v := some (.int (icF (0 : Int32) (0 : Int32)))) (fun h => by rw [Bd.returns] at h; cases h) (fun fs hr => OwnKit.retI X677 hx Bd.returns (hb hby d7_89) hr) (by rw [e677]; exact ⟨(congrArg (fun qq => some (Value.int qq)) (show (icF (0 : Int32) (0 : Int32)) = cmF [y0] [z0] by unfold cmF; rw [show cpL [y0] = [y0] from rfl, show cpL [z0] = [z0] from rfl, own_cmq hc671]; first | done | rfl | decide)), rfl, rfl⟩) (by decide) (by decide)
        · refine Go.via (fun _ => XS.icmpNo X670.here hx rfl (hb hby d7_41) rfl (feq (hc671 : ¬ (y0 = z0))).1) ?_
          refine Go.via (fun _ => XS.iload X670.here hx rfl (hb hby d7_44) rfl) ?_
          refine Go.via (fun _ => XS.iload X670.here hx rfl (hb hby d7_46) rfl) ?_
          obtain ⟨r678, _, ⟨T678, L678, k678, n678⟩, -, X678, ⟨Lc678, hQ678, l678, y678, z678⟩, st678⟩ := Jvm.LawKit.callS X670 hx (y := (⟨"java/lang/Integer", "compare", "(II)I"⟩ : MethodName)) hown (mvT hZ (tw hw 57 rfl)) (mvT hZ (tw hw 58 rfl)) (mvT hZ (tw hw 59 rfl)) (mvT hZ (tw hw 60 rfl)) (by decide) (backOf (W := 0) (rmIc l Z a0 hw [] y0 z0  h0 n0 Z0) hZ (tw hw 60 rfl) (tw hw 59 rfl) (by decide) (by decide)) (g := (mkF m 48 #[vr th, vr a, vr o, vi (0 : Int32), vi (0 : Int32), vi y0, vi z0] [(.int z0), (.int y0)])) rfl (by rw [hml]; rfl) (argsL := [(.int y0), (.int z0)]) (rest := []) (lenOf pd__28II_29I rfl) rfl (by show 2 * 0 + _ ≤ _; exact Nat.le_of_eq rfl) (hb hby d7_48) (fun _ _ => ⟨rfl, e670, (by decide : 0 + 0 ≤ _), (by decide : 0 + 0 ≤ _)⟩)
          dsimp only [Pt.U, Pt.locs, Pt.cells, Pt.slots] at X678 l678 y678 z678 st678 hQ678
          rw [l678, y678, z678] at X678
          obtain ⟨hr678, N678q, eh678⟩ := hQ678
          rw [hr678] at st678
          rw [N678q, List.append_nil] at X678
          refine Go.via (st678) ?_
          clear st678
          have e678 : T678.heap = h0 := eh678
          clear X670 e670
          show Go p e below (T678.setTop (mkF m 51 #[vr th, vr a, vr o, vi (0 : Int32), vi (0 : Int32), vi y0, vi z0] [(.int (icF y0 z0))])) _
          exact Go.fin X678 hlk (v := some (.int (icF y0 z0))) (fun h => by rw [Bd.returns] at h; cases h) (fun fs hr => OwnKit.retI X678 hx Bd.returns (hb hby d7_51) hr) (by rw [e678]; exact ⟨(congrArg (fun qq => some (Value.int qq)) (show (icF y0 z0) = cmF [y0] [z0] by unfold cmF; rw [show cpL [y0] = [y0] from rfl, show cpL [z0] = [z0] from rfl, own_cmn hc671])), rfl, rfl⟩) (by decide) (by decide)
  · show Go p e below (s₁.setTop (mkF m 0 #[vr th, vr a, vr o, .unset, .unset, .unset, .unset] [])) _
    refine Go.via (fun _ => XS.iconst X0.here hx rfl (hb hby d7_0)) ?_
    refine Go.via (fun _ => XS.istoreN X0.here hx rfl (hb hby d7_1) rfl (l' := #[vr th, vr a, vr o, vi (0 : Int32), .unset, .unset, .unset]) rfl) ?_
    refine Go.via (fun _ => XS.iconst X0.here hx rfl (hb hby d7_2)) ?_
    refine Go.via (fun _ => XS.istore X0.here hx rfl (hb hby d7_3) rfl (l' := #[vr th, vr a, vr o, vi (0 : Int32), vi (0 : Int32), .unset, .unset]) rfl) ?_
    refine Go.via (fun _ => XS.iloadN X0.here hx rfl (hb hby d7_5) rfl) ?_
    refine Go.via (fun _ => XS.aloadN X0.here hx rfl (hb hby d7_6) rfl rfl) ?_
    obtain ⟨cq679, kq679, q679a, q679b, q679c⟩ := isOf hZ e0 P0
    obtain ⟨r679, _, ⟨T679, L679, k679, n679⟩, -, X679, ⟨Lc679, hQ679, l679, y679, z679⟩, st679⟩ := X0.virtualBack hx (y := (⟨cST, "length", "()I"⟩ : MethodName)) (z := (⟨cST, "length", "()I"⟩ : MethodName)) hown (mvT hZ (tw hw 46 rfl)) (mvT hZ (tw hw 47 rfl)) (notFace_of_selects (args := #[]) (mvT hZ (tw hw 49 rfl))) (mvT hZ (tw hw 49 rfl)) (mvT hZ (tw hw 48 rfl)) (by decide) (backOf (W := 1) (rmLn l Z a0 hw [] a cs b_1 co1 ys1 [y0] h0 n0 Z0 P0 P1 P2 P3 P8 zCS hcs hR1) hZ (tw hw 50 rfl) (tw hw 14 rfl) (by decide) (by decide)) q679a q679c (g := (mkF m 7 #[vr th, vr a, vr o, vi (0 : Int32), vi (0 : Int32), .unset, .unset] [(.ref a), (.int (0 : Int32))])) rfl (by rw [hml]; rfl) (Steps.refl _) (argsL := []) (rest := [(.int (0 : Int32))]) (lenOf pd__28_29I rfl) rfl (by show 2 * 0 + _ ≤ _; exact Nat.le_of_eq rfl) (hb hby d7_7) (fun _ _ => ⟨rfl, e0, (by decide : 0 + 0 ≤ _), (by decide : 0 + 0 ≤ _)⟩)
    dsimp only [Pt.U, Pt.locs, Pt.cells, Pt.slots] at X679 l679 y679 z679 st679 hQ679
    rw [l679, y679, z679] at X679
    obtain ⟨hr679, N679q, eh679⟩ := hQ679
    rw [hr679] at st679
    rw [N679q, List.append_nil] at X679
    refine Go.via (fun _ kQ => st679.trans kQ) ?_
    clear st679
    have e679 : T679.heap = h0 := eh679
    clear X0 e0
    show Go p e below (T679.setTop (mkF m 10 #[vr th, vr a, vr o, vi (0 : Int32), vi (0 : Int32), .unset, .unset] [(.int (1 : Int32)), (.int (0 : Int32))])) _
    refine Go.via (fun _ => XS.icmpNo X679.here hx rfl (hb hby d7_10) rfl (tlt ((by decide) : (0 : Int32) < (1 : Int32))).2.1) ?_
    refine Go.via (fun _ => XS.iload X679.here hx rfl (hb hby d7_13) rfl) ?_
    refine Go.via (fun _ => XS.aloadN X679.here hx rfl (hb hby d7_15) rfl rfl) ?_
    obtain ⟨cq680, kq680, q680a, q680b, q680c⟩ := isOf hZ e679 P4
    obtain ⟨r680, _, ⟨T680, L680, k680, n680⟩, -, X680, ⟨Lc680, hQ680, l680, y680, z680⟩, st680⟩ := X679.virtualBack hx (y := (⟨cST, "length", "()I"⟩ : MethodName)) (z := (⟨cST, "length", "()I"⟩ : MethodName)) hown (mvT hZ (tw hw 46 rfl)) (mvT hZ (tw hw 47 rfl)) (notFace_of_selects (args := #[]) (mvT hZ (tw hw 49 rfl))) (mvT hZ (tw hw 49 rfl)) (mvT hZ (tw hw 48 rfl)) (by decide) (backOf (W := 1) (rmLn l Z a0 hw [] o cs b_2 co2 ys2 [z0, z1] h0 n0 Z0 P4 P5 P6 P7 P8 zCS hcs hR2) hZ (tw hw 50 rfl) (tw hw 14 rfl) (by decide) (by decide)) q680a q680c (g := (mkF m 16 #[vr th, vr a, vr o, vi (0 : Int32), vi (0 : Int32), .unset, .unset] [(.ref o), (.int (0 : Int32))])) rfl (by rw [hml]; rfl) (Steps.refl _) (argsL := []) (rest := [(.int (0 : Int32))]) (lenOf pd__28_29I rfl) rfl (by show 2 * 0 + _ ≤ _; exact Nat.le_of_eq rfl) (hb hby d7_16) (fun _ _ => ⟨rfl, e679, (by decide : 0 + 0 ≤ _), (by decide : 0 + 0 ≤ _)⟩)
    dsimp only [Pt.U, Pt.locs, Pt.cells, Pt.slots] at X680 l680 y680 z680 st680 hQ680
    rw [l680, y680, z680] at X680
    obtain ⟨hr680, N680q, eh680⟩ := hQ680
    rw [hr680] at st680
    rw [N680q, List.append_nil] at X680
    refine Go.via (fun _ kQ => st680.trans kQ) ?_
    clear st680
    have e680 : T680.heap = h0 := eh680
    clear X679 e679
    show Go p e below (T680.setTop (mkF m 19 #[vr th, vr a, vr o, vi (0 : Int32), vi (0 : Int32), .unset, .unset] [(.int (2 : Int32)), (.int (0 : Int32))])) _
    refine Go.via (fun _ => XS.icmpNo X680.here hx rfl (hb hby d7_19) rfl (tlt ((by decide) : (0 : Int32) < (2 : Int32))).2.1) ?_
    refine Go.via (fun _ => XS.aloadN X680.here hx rfl (hb hby d7_22) rfl rfl) ?_
    refine Go.via (fun _ => XS.iloadN X680.here hx rfl (hb hby d7_23) rfl) ?_
    obtain ⟨cq681, kq681, q681a, q681b, q681c⟩ := isOf hZ e680 P0
    obtain ⟨r681, _, ⟨T681, L681, k681, n681⟩, -, X681, ⟨Lc681, hQ681, l681, y681, z681⟩, st681⟩ := X680.virtualBack hx (y := (⟨cST, "codePointAt", "(I)I"⟩ : MethodName)) (z := (⟨cST, "codePointAt", "(I)I"⟩ : MethodName)) hown (mvT hZ (tw hw 97 rfl)) (mvT hZ (tw hw 98 rfl)) (notFace_of_selects (args := #[]) (mvT hZ (tw hw 100 rfl))) (mvT hZ (tw hw 100 rfl)) (mvT hZ (tw hw 99 rfl)) (by decide) (backOf (W := 0) (rmSc_10 l Z a0 hw [] a (0 : Int32) cs fv b_1 co1 ys1 y0 h0 n0 Z0 P0 P1 P2 P3 P8 zCS zF zAD zHI zLO hcs hfv rfl hR1) hZ (tw hw 101 rfl) (tw hw 14 rfl) (by decide) (by decide)) q681a q681c (g := (mkF m 24 #[vr th, vr a, vr o, vi (0 : Int32), vi (0 : Int32), .unset, .unset] [(.int (0 : Int32)), (.ref a)])) rfl (by rw [hml]; rfl) (Steps.refl _) (argsL := [(.int (0 : Int32))]) (rest := []) (lenOf pd__28I_29I rfl) rfl (by show 2 * 0 + _ ≤ _; exact Nat.le_of_eq rfl) (hb hby d7_24) (fun _ _ => ⟨rfl, e680, (by decide : 0 + 0 ≤ _), (by decide : 0 + 0 ≤ _)⟩)
    dsimp only [Pt.U, Pt.locs, Pt.cells, Pt.slots] at X681 l681 y681 z681 st681 hQ681
    rw [l681, y681, z681] at X681
    obtain ⟨hr681, N681q, eh681⟩ := hQ681
    rw [hr681] at st681
    rw [N681q, List.append_nil] at X681
    refine Go.via (fun _ kQ => st681.trans kQ) ?_
    clear st681
    have e681 : T681.heap = h0 := eh681
    clear X680 e680
    show Go p e below (T681.setTop (mkF m 27 #[vr th, vr a, vr o, vi (0 : Int32), vi (0 : Int32), .unset, .unset] [(.int y0)])) _
    · skip
      show Go p e below (T681.setTop (mkF m 27 #[vr th, vr a, vr o, vi (0 : Int32), vi (0 : Int32), .unset, .unset] [(.int y0)])) _
      refine Go.via (fun _ => XS.istore X681.here hx rfl (hb hby d7_27) rfl (l' := #[vr th, vr a, vr o, vi (0 : Int32), vi (0 : Int32), vi y0, .unset]) rfl) ?_
      refine Go.via (fun _ => XS.aloadN X681.here hx rfl (hb hby d7_29) rfl rfl) ?_
      refine Go.via (fun _ => XS.iload X681.here hx rfl (hb hby d7_30) rfl) ?_
      obtain ⟨cq682, kq682, q682a, q682b, q682c⟩ := isOf hZ e681 P4
      obtain ⟨r682, _, ⟨T682, L682, k682, n682⟩, -, X682, ⟨Lc682, hQ682, l682, y682, z682⟩, st682⟩ := X681.virtualBack hx (y := (⟨cST, "codePointAt", "(I)I"⟩ : MethodName)) (z := (⟨cST, "codePointAt", "(I)I"⟩ : MethodName)) hown (mvT hZ (tw hw 97 rfl)) (mvT hZ (tw hw 98 rfl)) (notFace_of_selects (args := #[]) (mvT hZ (tw hw 100 rfl))) (mvT hZ (tw hw 100 rfl)) (mvT hZ (tw hw 99 rfl)) (by decide) (backOf (W := 0) (rmSc_20 l Z a0 hw [] o (0 : Int32) cs fv b_2 co2 ys2 z0 z1 h0 n0 Z0 P4 P5 P6 P7 P8 zCS zF zAD zHI zLO hcs hfv rfl hR2) hZ (tw hw 101 rfl) (tw hw 14 rfl) (by decide) (by decide)) q682a q682c (g := (mkF m 32 #[vr th, vr a, vr o, vi (0 : Int32), vi (0 : Int32), vi y0, .unset] [(.int (0 : Int32)), (.ref o)])) rfl (by rw [hml]; rfl) (Steps.refl _) (argsL := [(.int (0 : Int32))]) (rest := []) (lenOf pd__28I_29I rfl) rfl (by show 2 * 0 + _ ≤ _; exact Nat.le_of_eq rfl) (hb hby d7_32) (fun _ _ => ⟨rfl, e681, (by decide : 0 + 0 ≤ _), (by decide : 0 + 0 ≤ _)⟩)
      dsimp only [Pt.U, Pt.locs, Pt.cells, Pt.slots] at X682 l682 y682 z682 st682 hQ682
      rw [l682, y682, z682] at X682
      obtain ⟨hr682, N682q, eh682⟩ := hQ682
      rw [hr682] at st682
      rw [N682q, List.append_nil] at X682
      refine Go.via (fun _ kQ => st682.trans kQ) ?_
      clear st682
      have e682 : T682.heap = h0 := eh682
      clear X681 e681
      show Go p e below (T682.setTop (mkF m 35 #[vr th, vr a, vr o, vi (0 : Int32), vi (0 : Int32), vi y0, .unset] [(.int (cp2 z0 z1))])) _
      rcases own_cp2 z0 z1 with ⟨hp_z, hq_z⟩ | ⟨hp_z, hq_z, hr_z⟩
      · rw [hp_z]
        show Go p e below (T682.setTop (mkF m 35 #[vr th, vr a, vr o, vi (0 : Int32), vi (0 : Int32), vi y0, .unset] [(.int z0)])) _
        refine Go.via (fun _ => XS.istore X682.here hx rfl (hb hby d7_35) rfl (l' := #[vr th, vr a, vr o, vi (0 : Int32), vi (0 : Int32), vi y0, vi z0]) rfl) ?_
        refine Go.via (fun _ => XS.iload X682.here hx rfl (hb hby d7_37) rfl) ?_
        refine Go.via (fun _ => XS.iload X682.here hx rfl (hb hby d7_39) rfl) ?_
        by_cases hc683 : y0 = z0
        · refine Go.via (fun _ => XS.icmpYes X682.here hx rfl (pc0 := 41) (pc' := 52) rfl (hb hby d7_41) rfl (teq (hc683 : y0 = z0)).1 (by decide) (by decide)) ?_
          refine Go.via (fun _ => XS.iloadN X682.here hx rfl (hb hby d7_52) rfl) ?_
          refine Go.via (fun _ => XS.iload X682.here hx rfl (hb hby d7_53) rfl) ?_
          obtain ⟨r684, _, ⟨T684, L684, k684, n684⟩, -, X684, ⟨Lc684, hQ684, l684, y684, z684⟩, st684⟩ := Jvm.LawKit.callS X682 hx (y := (⟨"java/lang/Character", "charCount", "(I)I"⟩ : MethodName)) hown (mvT hZ (tw hw 126 rfl)) (mvT hZ (tw hw 127 rfl)) (mvT hZ (tw hw 123 rfl)) (mvT hZ (tw hw 128 rfl)) (by decide) (backOf (W := 1) (rmCc l Z a0 hw [] y0  h0 n0 Z0) hZ (tw hw 128 rfl) (tw hw 123 rfl) (by decide) (by decide)) (g := (mkF m 55 #[vr th, vr a, vr o, vi (0 : Int32), vi (0 : Int32), vi y0, vi z0] [(.int y0), (.int (0 : Int32))])) rfl (by rw [hml]; rfl) (argsL := [(.int y0)]) (rest := [(.int (0 : Int32))]) (lenOf pd__28I_29I rfl) rfl (by show 2 * 0 + _ ≤ _; exact Nat.le_of_eq rfl) (hb hby d7_55) (fun _ _ => ⟨rfl, e682, (by decide : 0 + 0 ≤ _), (by decide : 0 + 0 ≤ _)⟩)
          dsimp only [Pt.U, Pt.locs, Pt.cells, Pt.slots] at X684 l684 y684 z684 st684 hQ684
          rw [l684, y684, z684] at X684
          obtain ⟨hr684, N684q, eh684⟩ := hQ684
          rw [hr684] at st684
          rw [N684q, List.append_nil] at X684
          refine Go.via (st684) ?_
          clear st684
          have e684 : T684.heap = h0 := eh684
          clear X682 e682
          show Go p e below (T684.setTop (mkF m 58 #[vr th, vr a, vr o, vi (0 : Int32), vi (0 : Int32), vi y0, vi z0] [(.int (ccF y0)), (.int (0 : Int32))])) _
          rw [own_cc1 hy0]
          show Go p e below (T684.setTop (mkF m 58 #[vr th, vr a, vr o, vi (0 : Int32), vi (0 : Int32), vi y0, vi z0] [(.int (1 : Int32)), (.int (0 : Int32))])) _
          refine Go.via (fun _ => XS.iadd X684.here hx rfl (hb hby d7_58) rfl) ?_
          refine Go.via (fun _ => XS.istoreN X684.here hx rfl (hb hby d7_59) rfl (l' := #[vr th, vr a, vr o, vi (1 : Int32), vi (0 : Int32), vi y0, vi z0]) rfl) ?_
          refine Go.via (fun _ => XS.iload X684.here hx rfl (hb hby d7_60) rfl) ?_
          refine Go.via (fun _ => XS.iload X684.here hx rfl (hb hby d7_62) rfl) ?_
          obtain ⟨r685, _, ⟨T685, L685, k685, n685⟩, -, X685, ⟨Lc685, hQ685, l685, y685, z685⟩, st685⟩ := Jvm.LawKit.callS X684 hx (y := (⟨"java/lang/Character", "charCount", "(I)I"⟩ : MethodName)) hown (mvT hZ (tw hw 126 rfl)) (mvT hZ (tw hw 127 rfl)) (mvT hZ (tw hw 123 rfl)) (mvT hZ (tw hw 128 rfl)) (by decide) (backOf (W := 1) (rmCc l Z a0 hw [] z0  h0 n0 Z0) hZ (tw hw 128 rfl) (tw hw 123 rfl) (by decide) (by decide)) (g := (mkF m 64 #[vr th, vr a, vr o, vi (1 : Int32), vi (0 : Int32), vi y0, vi z0] [(.int z0), (.int (0 : Int32))])) rfl (by rw [hml]; rfl) (argsL := [(.int z0)]) (rest := [(.int (0 : Int32))]) (lenOf pd__28I_29I rfl) rfl (by show 2 * 0 + _ ≤ _; exact Nat.le_of_eq rfl) (hb hby d7_64) (fun _ _ => ⟨rfl, e684, (by decide : 0 + 0 ≤ _), (by decide : 0 + 0 ≤ _)⟩)
          dsimp only [Pt.U, Pt.locs, Pt.cells, Pt.slots] at X685 l685 y685 z685 st685 hQ685
          rw [l685, y685, z685] at X685
          obtain ⟨hr685, N685q, eh685⟩ := hQ685
          rw [hr685] at st685
          rw [N685q, List.append_nil] at X685
          refine Go.via (st685) ?_
          clear st685
          have e685 : T685.heap = h0 := eh685
          clear X684 e684
          show Go p e below (T685.setTop (mkF m 67 #[vr th, vr a, vr o, vi (1 : Int32), vi (0 : Int32), vi y0, vi z0] [(.int (ccF z0)), (.int (0 : Int32))])) _
          rw [own_cc1 hz0]
          show Go p e below (T685.setTop (mkF m 67 #[vr th, vr a, vr o, vi (1 : Int32), vi (0 : Int32), vi y0, vi z0] [(.int (1 : Int32)), (.int (0 : Int32))])) _
          refine Go.via (fun _ => XS.iadd X685.here hx rfl (hb hby d7_67) rfl) ?_
          refine Go.via (fun _ => XS.istore X685.here hx rfl (hb hby d7_68) rfl (l' := #[vr th, vr a, vr o, vi (1 : Int32), vi (1 : Int32), vi y0, vi z0]) rfl) ?_
          refine Go.via (fun _ => XS.goto X685.here hx rfl (pc0 := 70) (pc' := 5) rfl (hb hby d7_70) (by decide) (by decide)) ?_
          refine Go.via (fun _ => XS.iloadN X685.here hx rfl (hb hby d7_5) rfl) ?_
          refine Go.via (fun _ => XS.aloadN X685.here hx rfl (hb hby d7_6) rfl rfl) ?_
          obtain ⟨cq686, kq686, q686a, q686b, q686c⟩ := isOf hZ e685 P0
          obtain ⟨r686, _, ⟨T686, L686, k686, n686⟩, -, X686, ⟨Lc686, hQ686, l686, y686, z686⟩, st686⟩ := X685.virtualBack hx (y := (⟨cST, "length", "()I"⟩ : MethodName)) (z := (⟨cST, "length", "()I"⟩ : MethodName)) hown (mvT hZ (tw hw 46 rfl)) (mvT hZ (tw hw 47 rfl)) (notFace_of_selects (args := #[]) (mvT hZ (tw hw 49 rfl))) (mvT hZ (tw hw 49 rfl)) (mvT hZ (tw hw 48 rfl)) (by decide) (backOf (W := 1) (rmLn l Z a0 hw [] a cs b_1 co1 ys1 [y0] h0 n0 Z0 P0 P1 P2 P3 P8 zCS hcs hR1) hZ (tw hw 50 rfl) (tw hw 14 rfl) (by decide) (by decide)) q686a q686c (g := (mkF m 7 #[vr th, vr a, vr o, vi (1 : Int32), vi (1 : Int32), vi y0, vi z0] [(.ref a), (.int (1 : Int32))])) rfl (by rw [hml]; rfl) (Steps.refl _) (argsL := []) (rest := [(.int (1 : Int32))]) (lenOf pd__28_29I rfl) rfl (by show 2 * 0 + _ ≤ _; exact Nat.le_of_eq rfl) (hb hby d7_7) (fun _ _ => ⟨rfl, e685, (by decide : 0 + 0 ≤ _), (by decide : 0 + 0 ≤ _)⟩)
          dsimp only [Pt.U, Pt.locs, Pt.cells, Pt.slots] at X686 l686 y686 z686 st686 hQ686
          rw [l686, y686, z686] at X686
          obtain ⟨hr686, N686q, eh686⟩ := hQ686
          rw [hr686] at st686
          rw [N686q, List.append_nil] at X686
          refine Go.via (fun _ kQ => st686.trans kQ) ?_
          clear st686
          have e686 : T686.heap = h0 := eh686
          clear X685 e685
          show Go p e below (T686.setTop (mkF m 10 #[vr th, vr a, vr o, vi (1 : Int32), vi (1 : Int32), vi y0, vi z0] [(.int (1 : Int32)), (.int (1 : Int32))])) _
          refine Go.via (fun _ => XS.icmpYes X686.here hx rfl (pc0 := 10) (pc' := 73) rfl (hb hby d7_10) rfl (flt ((by decide) : ¬ ((1 : Int32) < (1 : Int32)))).2.1 (by decide) (by decide)) ?_
          refine Go.via (fun _ => XS.aloadN X686.here hx rfl (hb hby d7_73) rfl rfl) ?_
          obtain ⟨cq687, kq687, q687a, q687b, q687c⟩ := isOf hZ e686 P0
          obtain ⟨r687, _, ⟨T687, L687, k687, n687⟩, -, X687, ⟨Lc687, hQ687, l687, y687, z687⟩, st687⟩ := X686.virtualBack hx (y := (⟨cST, "length", "()I"⟩ : MethodName)) (z := (⟨cST, "length", "()I"⟩ : MethodName)) hown (mvT hZ (tw hw 46 rfl)) (mvT hZ (tw hw 47 rfl)) (notFace_of_selects (args := #[]) (mvT hZ (tw hw 49 rfl))) (mvT hZ (tw hw 49 rfl)) (mvT hZ (tw hw 48 rfl)) (by decide) (backOf (W := 0) (rmLn l Z a0 hw [] a cs b_1 co1 ys1 [y0] h0 n0 Z0 P0 P1 P2 P3 P8 zCS hcs hR1) hZ (tw hw 50 rfl) (tw hw 14 rfl) (by decide) (by decide)) q687a q687c (g := (mkF m 74 #[vr th, vr a, vr o, vi (1 : Int32), vi (1 : Int32), vi y0, vi z0] [(.ref a)])) rfl (by rw [hml]; rfl) (Steps.refl _) (argsL := []) (rest := []) (lenOf pd__28_29I rfl) rfl (by show 2 * 0 + _ ≤ _; exact Nat.le_of_eq rfl) (hb hby d7_74) (fun _ _ => ⟨rfl, e686, (by decide : 0 + 0 ≤ _), (by decide : 0 + 0 ≤ _)⟩)
          dsimp only [Pt.U, Pt.locs, Pt.cells, Pt.slots] at X687 l687 y687 z687 st687 hQ687
          rw [l687, y687, z687] at X687
          obtain ⟨hr687, N687q, eh687⟩ := hQ687
          rw [hr687] at st687
          rw [N687q, List.append_nil] at X687
          refine Go.via (fun _ kQ => st687.trans kQ) ?_
          clear st687
          have e687 : T687.heap = h0 := eh687
          clear X686 e686
          show Go p e below (T687.setTop (mkF m 77 #[vr th, vr a, vr o, vi (1 : Int32), vi (1 : Int32), vi y0, vi z0] [(.int (1 : Int32))])) _
          refine Go.via (fun _ => XS.iloadN X687.here hx rfl (hb hby d7_77) rfl) ?_
          refine Go.via (fun _ => XS.isub X687.here hx rfl (hb hby d7_78) rfl) ?_
          refine Go.via (fun _ => XS.aloadN X687.here hx rfl (hb hby d7_79) rfl rfl) ?_
          obtain ⟨cq688, kq688, q688a, q688b, q688c⟩ := isOf hZ e687 P4
          obtain ⟨r688, _, ⟨T688, L688, k688, n688⟩, -, X688, ⟨Lc688, hQ688, l688, y688, z688⟩, st688⟩ := X687.virtualBack hx (y := (⟨cST, "length", "()I"⟩ : MethodName)) (z := (⟨cST, "length", "()I"⟩ : MethodName)) hown (mvT hZ (tw hw 46 rfl)) (mvT hZ (tw hw 47 rfl)) (notFace_of_selects (args := #[]) (mvT hZ (tw hw 49 rfl))) (mvT hZ (tw hw 49 rfl)) (mvT hZ (tw hw 48 rfl)) (by decide) (backOf (W := 1) (rmLn l Z a0 hw [] o cs b_2 co2 ys2 [z0, z1] h0 n0 Z0 P4 P5 P6 P7 P8 zCS hcs hR2) hZ (tw hw 50 rfl) (tw hw 14 rfl) (by decide) (by decide)) q688a q688c (g := (mkF m 80 #[vr th, vr a, vr o, vi (1 : Int32), vi (1 : Int32), vi y0, vi z0] [(.ref o), (.int (0 : Int32))])) rfl (by rw [hml]; rfl) (Steps.refl _) (argsL := []) (rest := [(.int (0 : Int32))]) (lenOf pd__28_29I rfl) rfl (by show 2 * 0 + _ ≤ _; exact Nat.le_of_eq rfl) (hb hby d7_80) (fun _ _ => ⟨rfl, e687, (by decide : 0 + 0 ≤ _), (by decide : 0 + 0 ≤ _)⟩)
          dsimp only [Pt.U, Pt.locs, Pt.cells, Pt.slots] at X688 l688 y688 z688 st688 hQ688
          rw [l688, y688, z688] at X688
          obtain ⟨hr688, N688q, eh688⟩ := hQ688
          rw [hr688] at st688
          rw [N688q, List.append_nil] at X688
          refine Go.via (fun _ kQ => st688.trans kQ) ?_
          clear st688
          have e688 : T688.heap = h0 := eh688
          clear X687 e687
          show Go p e below (T688.setTop (mkF m 83 #[vr th, vr a, vr o, vi (1 : Int32), vi (1 : Int32), vi y0, vi z0] [(.int (2 : Int32)), (.int (0 : Int32))])) _
          refine Go.via (fun _ => XS.iload X688.here hx rfl (hb hby d7_83) rfl) ?_
          refine Go.via (fun _ => XS.isub X688.here hx rfl (hb hby d7_85) rfl) ?_
          obtain ⟨r689, _, ⟨T689, L689, k689, n689⟩, -, X689, ⟨Lc689, hQ689, l689, y689, z689⟩, st689⟩ := Jvm.LawKit.callS X688 hx (y := (⟨"java/lang/Integer", "compare", "(II)I"⟩ : MethodName)) hown (mvT hZ (tw hw 57 rfl)) (mvT hZ (tw hw 58 rfl)) (mvT hZ (tw hw 59 rfl)) (mvT hZ (tw hw 60 rfl)) (by decide) (backOf (W := 0) (rmIc l Z a0 hw [] (0 : Int32) (1 : Int32)  h0 n0 Z0) hZ (tw hw 60 rfl) (tw hw 59 rfl) (by decide) (by decide)) (g := (mkF m 86 #[vr th, vr a, vr o, vi (1 : Int32), vi (1 : Int32), vi y0, vi z0] [(.int (1 : Int32)), (.int (0 : Int32))])) rfl (by rw [hml]; rfl) (argsL := [(.int (0 : Int32)), (.int (1 : Int32))]) (rest := []) (lenOf pd__28II_29I rfl) rfl (by show 2 * 0 + _ ≤ _; exact Nat.le_of_eq rfl) (hb hby d7_86) (fun _ _ => ⟨rfl, e688, (by decide : 0 + 0 ≤ _), (by decide : 0 + 0 ≤ _)⟩)
          dsimp only [Pt.U, Pt.locs, Pt.cells, Pt.slots] at X689 l689 y689 z689 st689 hQ689
          rw [l689, y689, z689] at X689
          obtain ⟨hr689, N689q, eh689⟩ := hQ689
          rw [hr689] at st689
          rw [N689q, List.append_nil] at X689
          refine Go.via (st689) ?_
          clear st689
          have e689 : T689.heap = h0 := eh689
          clear X688 e688
          show Go p e below (T689.setTop (mkF m 89 #[vr th, vr a, vr o, vi (1 : Int32), vi (1 : Int32), vi y0, vi z0] [(.int (icF (0 : Int32) (1 : Int32)))])) _
          exact Go.fin X689 hlk (v := some (.int (icF (0 : Int32) (1 : Int32)))) (fun h => by rw [Bd.returns] at h; cases h) (fun fs hr => OwnKit.retI X689 hx Bd.returns (hb hby d7_89) hr) (by rw [e689]; exact ⟨(congrArg (fun qq => some (Value.int qq)) (show (icF (0 : Int32) (1 : Int32)) = cmF [y0] [z0, z1] by unfold cmF; rw [show cpL [y0] = [y0] from rfl, own_cpn hq_z, own_cmq hc683]; first | done | rfl | decide)), rfl, rfl⟩) (by decide) (by decide)
        · refine Go.via (fun _ => XS.icmpNo X682.here hx rfl (hb hby d7_41) rfl (feq (hc683 : ¬ (y0 = z0))).1) ?_
          refine Go.via (fun _ => XS.iload X682.here hx rfl (hb hby d7_44) rfl) ?_
          refine Go.via (fun _ => XS.iload X682.here hx rfl (hb hby d7_46) rfl) ?_
          obtain ⟨r690, _, ⟨T690, L690, k690, n690⟩, -, X690, ⟨Lc690, hQ690, l690, y690, z690⟩, st690⟩ := Jvm.LawKit.callS X682 hx (y := (⟨"java/lang/Integer", "compare", "(II)I"⟩ : MethodName)) hown (mvT hZ (tw hw 57 rfl)) (mvT hZ (tw hw 58 rfl)) (mvT hZ (tw hw 59 rfl)) (mvT hZ (tw hw 60 rfl)) (by decide) (backOf (W := 0) (rmIc l Z a0 hw [] y0 z0  h0 n0 Z0) hZ (tw hw 60 rfl) (tw hw 59 rfl) (by decide) (by decide)) (g := (mkF m 48 #[vr th, vr a, vr o, vi (0 : Int32), vi (0 : Int32), vi y0, vi z0] [(.int z0), (.int y0)])) rfl (by rw [hml]; rfl) (argsL := [(.int y0), (.int z0)]) (rest := []) (lenOf pd__28II_29I rfl) rfl (by show 2 * 0 + _ ≤ _; exact Nat.le_of_eq rfl) (hb hby d7_48) (fun _ _ => ⟨rfl, e682, (by decide : 0 + 0 ≤ _), (by decide : 0 + 0 ≤ _)⟩)
          dsimp only [Pt.U, Pt.locs, Pt.cells, Pt.slots] at X690 l690 y690 z690 st690 hQ690
          rw [l690, y690, z690] at X690
          obtain ⟨hr690, N690q, eh690⟩ := hQ690
          rw [hr690] at st690
          rw [N690q, List.append_nil] at X690
          refine Go.via (st690) ?_
          clear st690
          have e690 : T690.heap = h0 := eh690
          clear X682 e682
          show Go p e below (T690.setTop (mkF m 51 #[vr th, vr a, vr o, vi (0 : Int32), vi (0 : Int32), vi y0, vi z0] [(.int (icF y0 z0))])) _
          exact Go.fin X690 hlk (v := some (.int (icF y0 z0))) (fun h => by rw [Bd.returns] at h; cases h) (fun fs hr => OwnKit.retI X690 hx Bd.returns (hb hby d7_51) hr) (by rw [e690]; exact ⟨(congrArg (fun qq => some (Value.int qq)) (show (icF y0 z0) = cmF [y0] [z0, z1] by unfold cmF; rw [show cpL [y0] = [y0] from rfl, own_cpn hq_z, own_cmn hc683])), rfl, rfl⟩) (by decide) (by decide)
      · rw [hp_z]
        show Go p e below (T682.setTop (mkF m 35 #[vr th, vr a, vr o, vi (0 : Int32), vi (0 : Int32), vi y0, .unset] [(.int (tcF z0 z1))])) _
        refine Go.via (fun _ => XS.istore X682.here hx rfl (hb hby d7_35) rfl (l' := #[vr th, vr a, vr o, vi (0 : Int32), vi (0 : Int32), vi y0, vi (tcF z0 z1)]) rfl) ?_
        refine Go.via (fun _ => XS.iload X682.here hx rfl (hb hby d7_37) rfl) ?_
        refine Go.via (fun _ => XS.iload X682.here hx rfl (hb hby d7_39) rfl) ?_
        refine Go.via (fun _ => XS.icmpNo X682.here hx rfl (hb hby d7_41) rfl (feq ((Ne.symm (own_tne hq_z hr_z hy0)) : ¬ (y0 = (tcF z0 z1)))).1) ?_
        refine Go.via (fun _ => XS.iload X682.here hx rfl (hb hby d7_44) rfl) ?_
        refine Go.via (fun _ => XS.iload X682.here hx rfl (hb hby d7_46) rfl) ?_
        obtain ⟨r691, _, ⟨T691, L691, k691, n691⟩, -, X691, ⟨Lc691, hQ691, l691, y691, z691⟩, st691⟩ := Jvm.LawKit.callS X682 hx (y := (⟨"java/lang/Integer", "compare", "(II)I"⟩ : MethodName)) hown (mvT hZ (tw hw 57 rfl)) (mvT hZ (tw hw 58 rfl)) (mvT hZ (tw hw 59 rfl)) (mvT hZ (tw hw 60 rfl)) (by decide) (backOf (W := 0) (rmIc l Z a0 hw [] y0 (tcF z0 z1)  h0 n0 Z0) hZ (tw hw 60 rfl) (tw hw 59 rfl) (by decide) (by decide)) (g := (mkF m 48 #[vr th, vr a, vr o, vi (0 : Int32), vi (0 : Int32), vi y0, vi (tcF z0 z1)] [(.int (tcF z0 z1)), (.int y0)])) rfl (by rw [hml]; rfl) (argsL := [(.int y0), (.int (tcF z0 z1))]) (rest := []) (lenOf pd__28II_29I rfl) rfl (by show 2 * 0 + _ ≤ _; exact Nat.le_of_eq rfl) (hb hby d7_48) (fun _ _ => ⟨rfl, e682, (by decide : 0 + 0 ≤ _), (by decide : 0 + 0 ≤ _)⟩)
        dsimp only [Pt.U, Pt.locs, Pt.cells, Pt.slots] at X691 l691 y691 z691 st691 hQ691
        rw [l691, y691, z691] at X691
        obtain ⟨hr691, N691q, eh691⟩ := hQ691
        rw [hr691] at st691
        rw [N691q, List.append_nil] at X691
        refine Go.via (st691) ?_
        clear st691
        have e691 : T691.heap = h0 := eh691
        clear X682 e682
        show Go p e below (T691.setTop (mkF m 51 #[vr th, vr a, vr o, vi (0 : Int32), vi (0 : Int32), vi y0, vi (tcF z0 z1)] [(.int (icF y0 (tcF z0 z1)))])) _
        exact Go.fin X691 hlk (v := some (.int (icF y0 (tcF z0 z1)))) (fun h => by rw [Bd.returns] at h; cases h) (fun fs hr => OwnKit.retI X691 hx Bd.returns (hb hby d7_51) hr) (by rw [e691]; exact ⟨(congrArg (fun qq => some (Value.int qq)) (show (icF y0 (tcF z0 z1)) = cmF [y0] [z0, z1] by unfold cmF; rw [show cpL [y0] = [y0] from rfl, own_cpp hq_z hr_z, own_cmn (Ne.symm (own_tne hq_z hr_z hy0))])), rfl, rfl⟩) (by decide) (by decide)
  · show Go p e below (s₁.setTop (mkF m 0 #[vr th, vr a, vr o, .unset, .unset, .unset, .unset] [])) _
    refine Go.via (fun _ => XS.iconst X0.here hx rfl (hb hby d7_0)) ?_
    refine Go.via (fun _ => XS.istoreN X0.here hx rfl (hb hby d7_1) rfl (l' := #[vr th, vr a, vr o, vi (0 : Int32), .unset, .unset, .unset]) rfl) ?_
    refine Go.via (fun _ => XS.iconst X0.here hx rfl (hb hby d7_2)) ?_
    refine Go.via (fun _ => XS.istore X0.here hx rfl (hb hby d7_3) rfl (l' := #[vr th, vr a, vr o, vi (0 : Int32), vi (0 : Int32), .unset, .unset]) rfl) ?_
    refine Go.via (fun _ => XS.iloadN X0.here hx rfl (hb hby d7_5) rfl) ?_
    refine Go.via (fun _ => XS.aloadN X0.here hx rfl (hb hby d7_6) rfl rfl) ?_
    obtain ⟨cq692, kq692, q692a, q692b, q692c⟩ := isOf hZ e0 P0
    obtain ⟨r692, _, ⟨T692, L692, k692, n692⟩, -, X692, ⟨Lc692, hQ692, l692, y692, z692⟩, st692⟩ := X0.virtualBack hx (y := (⟨cST, "length", "()I"⟩ : MethodName)) (z := (⟨cST, "length", "()I"⟩ : MethodName)) hown (mvT hZ (tw hw 46 rfl)) (mvT hZ (tw hw 47 rfl)) (notFace_of_selects (args := #[]) (mvT hZ (tw hw 49 rfl))) (mvT hZ (tw hw 49 rfl)) (mvT hZ (tw hw 48 rfl)) (by decide) (backOf (W := 1) (rmLn l Z a0 hw [] a cs b_1 co1 ys1 [y0, y1] h0 n0 Z0 P0 P1 P2 P3 P8 zCS hcs hR1) hZ (tw hw 50 rfl) (tw hw 14 rfl) (by decide) (by decide)) q692a q692c (g := (mkF m 7 #[vr th, vr a, vr o, vi (0 : Int32), vi (0 : Int32), .unset, .unset] [(.ref a), (.int (0 : Int32))])) rfl (by rw [hml]; rfl) (Steps.refl _) (argsL := []) (rest := [(.int (0 : Int32))]) (lenOf pd__28_29I rfl) rfl (by show 2 * 0 + _ ≤ _; exact Nat.le_of_eq rfl) (hb hby d7_7) (fun _ _ => ⟨rfl, e0, (by decide : 0 + 0 ≤ _), (by decide : 0 + 0 ≤ _)⟩)
    dsimp only [Pt.U, Pt.locs, Pt.cells, Pt.slots] at X692 l692 y692 z692 st692 hQ692
    rw [l692, y692, z692] at X692
    obtain ⟨hr692, N692q, eh692⟩ := hQ692
    rw [hr692] at st692
    rw [N692q, List.append_nil] at X692
    refine Go.via (fun _ kQ => st692.trans kQ) ?_
    clear st692
    have e692 : T692.heap = h0 := eh692
    clear X0 e0
    show Go p e below (T692.setTop (mkF m 10 #[vr th, vr a, vr o, vi (0 : Int32), vi (0 : Int32), .unset, .unset] [(.int (2 : Int32)), (.int (0 : Int32))])) _
    refine Go.via (fun _ => XS.icmpNo X692.here hx rfl (hb hby d7_10) rfl (tlt ((by decide) : (0 : Int32) < (2 : Int32))).2.1) ?_
    refine Go.via (fun _ => XS.iload X692.here hx rfl (hb hby d7_13) rfl) ?_
    refine Go.via (fun _ => XS.aloadN X692.here hx rfl (hb hby d7_15) rfl rfl) ?_
    obtain ⟨cq693, kq693, q693a, q693b, q693c⟩ := isOf hZ e692 P4
    obtain ⟨r693, _, ⟨T693, L693, k693, n693⟩, -, X693, ⟨Lc693, hQ693, l693, y693, z693⟩, st693⟩ := X692.virtualBack hx (y := (⟨cST, "length", "()I"⟩ : MethodName)) (z := (⟨cST, "length", "()I"⟩ : MethodName)) hown (mvT hZ (tw hw 46 rfl)) (mvT hZ (tw hw 47 rfl)) (notFace_of_selects (args := #[]) (mvT hZ (tw hw 49 rfl))) (mvT hZ (tw hw 49 rfl)) (mvT hZ (tw hw 48 rfl)) (by decide) (backOf (W := 1) (rmLn l Z a0 hw [] o cs b_2 co2 ys2 [] h0 n0 Z0 P4 P5 P6 P7 P8 zCS hcs hR2) hZ (tw hw 50 rfl) (tw hw 14 rfl) (by decide) (by decide)) q693a q693c (g := (mkF m 16 #[vr th, vr a, vr o, vi (0 : Int32), vi (0 : Int32), .unset, .unset] [(.ref o), (.int (0 : Int32))])) rfl (by rw [hml]; rfl) (Steps.refl _) (argsL := []) (rest := [(.int (0 : Int32))]) (lenOf pd__28_29I rfl) rfl (by show 2 * 0 + _ ≤ _; exact Nat.le_of_eq rfl) (hb hby d7_16) (fun _ _ => ⟨rfl, e692, (by decide : 0 + 0 ≤ _), (by decide : 0 + 0 ≤ _)⟩)
    dsimp only [Pt.U, Pt.locs, Pt.cells, Pt.slots] at X693 l693 y693 z693 st693 hQ693
    rw [l693, y693, z693] at X693
    obtain ⟨hr693, N693q, eh693⟩ := hQ693
    rw [hr693] at st693
    rw [N693q, List.append_nil] at X693
    refine Go.via (fun _ kQ => st693.trans kQ) ?_
    clear st693
    have e693 : T693.heap = h0 := eh693
    clear X692 e692
    show Go p e below (T693.setTop (mkF m 19 #[vr th, vr a, vr o, vi (0 : Int32), vi (0 : Int32), .unset, .unset] [(.int (0 : Int32)), (.int (0 : Int32))])) _
    refine Go.via (fun _ => XS.icmpYes X693.here hx rfl (pc0 := 19) (pc' := 73) rfl (hb hby d7_19) rfl (flt ((by decide) : ¬ ((0 : Int32) < (0 : Int32)))).2.1 (by decide) (by decide)) ?_
    refine Go.via (fun _ => XS.aloadN X693.here hx rfl (hb hby d7_73) rfl rfl) ?_
    obtain ⟨cq694, kq694, q694a, q694b, q694c⟩ := isOf hZ e693 P0
    obtain ⟨r694, _, ⟨T694, L694, k694, n694⟩, -, X694, ⟨Lc694, hQ694, l694, y694, z694⟩, st694⟩ := X693.virtualBack hx (y := (⟨cST, "length", "()I"⟩ : MethodName)) (z := (⟨cST, "length", "()I"⟩ : MethodName)) hown (mvT hZ (tw hw 46 rfl)) (mvT hZ (tw hw 47 rfl)) (notFace_of_selects (args := #[]) (mvT hZ (tw hw 49 rfl))) (mvT hZ (tw hw 49 rfl)) (mvT hZ (tw hw 48 rfl)) (by decide) (backOf (W := 0) (rmLn l Z a0 hw [] a cs b_1 co1 ys1 [y0, y1] h0 n0 Z0 P0 P1 P2 P3 P8 zCS hcs hR1) hZ (tw hw 50 rfl) (tw hw 14 rfl) (by decide) (by decide)) q694a q694c (g := (mkF m 74 #[vr th, vr a, vr o, vi (0 : Int32), vi (0 : Int32), .unset, .unset] [(.ref a)])) rfl (by rw [hml]; rfl) (Steps.refl _) (argsL := []) (rest := []) (lenOf pd__28_29I rfl) rfl (by show 2 * 0 + _ ≤ _; exact Nat.le_of_eq rfl) (hb hby d7_74) (fun _ _ => ⟨rfl, e693, (by decide : 0 + 0 ≤ _), (by decide : 0 + 0 ≤ _)⟩)
    dsimp only [Pt.U, Pt.locs, Pt.cells, Pt.slots] at X694 l694 y694 z694 st694 hQ694
    rw [l694, y694, z694] at X694
    obtain ⟨hr694, N694q, eh694⟩ := hQ694
    rw [hr694] at st694
    rw [N694q, List.append_nil] at X694
    refine Go.via (fun _ kQ => st694.trans kQ) ?_
    clear st694
    have e694 : T694.heap = h0 := eh694
    clear X693 e693
    show Go p e below (T694.setTop (mkF m 77 #[vr th, vr a, vr o, vi (0 : Int32), vi (0 : Int32), .unset, .unset] [(.int (2 : Int32))])) _
    refine Go.via (fun _ => XS.iloadN X694.here hx rfl (hb hby d7_77) rfl) ?_
    refine Go.via (fun _ => XS.isub X694.here hx rfl (hb hby d7_78) rfl) ?_
    refine Go.via (fun _ => XS.aloadN X694.here hx rfl (hb hby d7_79) rfl rfl) ?_
    obtain ⟨cq695, kq695, q695a, q695b, q695c⟩ := isOf hZ e694 P4
    obtain ⟨r695, _, ⟨T695, L695, k695, n695⟩, -, X695, ⟨Lc695, hQ695, l695, y695, z695⟩, st695⟩ := X694.virtualBack hx (y := (⟨cST, "length", "()I"⟩ : MethodName)) (z := (⟨cST, "length", "()I"⟩ : MethodName)) hown (mvT hZ (tw hw 46 rfl)) (mvT hZ (tw hw 47 rfl)) (notFace_of_selects (args := #[]) (mvT hZ (tw hw 49 rfl))) (mvT hZ (tw hw 49 rfl)) (mvT hZ (tw hw 48 rfl)) (by decide) (backOf (W := 1) (rmLn l Z a0 hw [] o cs b_2 co2 ys2 [] h0 n0 Z0 P4 P5 P6 P7 P8 zCS hcs hR2) hZ (tw hw 50 rfl) (tw hw 14 rfl) (by decide) (by decide)) q695a q695c (g := (mkF m 80 #[vr th, vr a, vr o, vi (0 : Int32), vi (0 : Int32), .unset, .unset] [(.ref o), (.int (2 : Int32))])) rfl (by rw [hml]; rfl) (Steps.refl _) (argsL := []) (rest := [(.int (2 : Int32))]) (lenOf pd__28_29I rfl) rfl (by show 2 * 0 + _ ≤ _; exact Nat.le_of_eq rfl) (hb hby d7_80) (fun _ _ => ⟨rfl, e694, (by decide : 0 + 0 ≤ _), (by decide : 0 + 0 ≤ _)⟩)
    dsimp only [Pt.U, Pt.locs, Pt.cells, Pt.slots] at X695 l695 y695 z695 st695 hQ695
    rw [l695, y695, z695] at X695
    obtain ⟨hr695, N695q, eh695⟩ := hQ695
    rw [hr695] at st695
    rw [N695q, List.append_nil] at X695
    refine Go.via (fun _ kQ => st695.trans kQ) ?_
    clear st695
    have e695 : T695.heap = h0 := eh695
    clear X694 e694
    show Go p e below (T695.setTop (mkF m 83 #[vr th, vr a, vr o, vi (0 : Int32), vi (0 : Int32), .unset, .unset] [(.int (0 : Int32)), (.int (2 : Int32))])) _
    refine Go.via (fun _ => XS.iload X695.here hx rfl (hb hby d7_83) rfl) ?_
    refine Go.via (fun _ => XS.isub X695.here hx rfl (hb hby d7_85) rfl) ?_
    obtain ⟨r696, _, ⟨T696, L696, k696, n696⟩, -, X696, ⟨Lc696, hQ696, l696, y696, z696⟩, st696⟩ := Jvm.LawKit.callS X695 hx (y := (⟨"java/lang/Integer", "compare", "(II)I"⟩ : MethodName)) hown (mvT hZ (tw hw 57 rfl)) (mvT hZ (tw hw 58 rfl)) (mvT hZ (tw hw 59 rfl)) (mvT hZ (tw hw 60 rfl)) (by decide) (backOf (W := 0) (rmIc l Z a0 hw [] (2 : Int32) (0 : Int32)  h0 n0 Z0) hZ (tw hw 60 rfl) (tw hw 59 rfl) (by decide) (by decide)) (g := (mkF m 86 #[vr th, vr a, vr o, vi (0 : Int32), vi (0 : Int32), .unset, .unset] [(.int (0 : Int32)), (.int (2 : Int32))])) rfl (by rw [hml]; rfl) (argsL := [(.int (2 : Int32)), (.int (0 : Int32))]) (rest := []) (lenOf pd__28II_29I rfl) rfl (by show 2 * 0 + _ ≤ _; exact Nat.le_of_eq rfl) (hb hby d7_86) (fun _ _ => ⟨rfl, e695, (by decide : 0 + 0 ≤ _), (by decide : 0 + 0 ≤ _)⟩)
    dsimp only [Pt.U, Pt.locs, Pt.cells, Pt.slots] at X696 l696 y696 z696 st696 hQ696
    rw [l696, y696, z696] at X696
    obtain ⟨hr696, N696q, eh696⟩ := hQ696
    rw [hr696] at st696
    rw [N696q, List.append_nil] at X696
    refine Go.via (st696) ?_
    clear st696
    have e696 : T696.heap = h0 := eh696
    clear X695 e695
    show Go p e below (T696.setTop (mkF m 89 #[vr th, vr a, vr o, vi (0 : Int32), vi (0 : Int32), .unset, .unset] [(.int (icF (2 : Int32) (0 : Int32)))])) _
    exact Go.fin X696 hlk (v := some (.int (icF (2 : Int32) (0 : Int32)))) (fun h => by rw [Bd.returns] at h; cases h) (fun fs hr => OwnKit.retI X696 hx Bd.returns (hb hby d7_89) hr) (by rw [e696]; exact ⟨(congrArg (fun qq => some (Value.int qq)) (own_cm0b)), rfl, rfl⟩) (by decide) (by decide)
  · show Go p e below (s₁.setTop (mkF m 0 #[vr th, vr a, vr o, .unset, .unset, .unset, .unset] [])) _
    refine Go.via (fun _ => XS.iconst X0.here hx rfl (hb hby d7_0)) ?_
    refine Go.via (fun _ => XS.istoreN X0.here hx rfl (hb hby d7_1) rfl (l' := #[vr th, vr a, vr o, vi (0 : Int32), .unset, .unset, .unset]) rfl) ?_
    refine Go.via (fun _ => XS.iconst X0.here hx rfl (hb hby d7_2)) ?_
    refine Go.via (fun _ => XS.istore X0.here hx rfl (hb hby d7_3) rfl (l' := #[vr th, vr a, vr o, vi (0 : Int32), vi (0 : Int32), .unset, .unset]) rfl) ?_
    refine Go.via (fun _ => XS.iloadN X0.here hx rfl (hb hby d7_5) rfl) ?_
    refine Go.via (fun _ => XS.aloadN X0.here hx rfl (hb hby d7_6) rfl rfl) ?_
    obtain ⟨cq697, kq697, q697a, q697b, q697c⟩ := isOf hZ e0 P0
    obtain ⟨r697, _, ⟨T697, L697, k697, n697⟩, -, X697, ⟨Lc697, hQ697, l697, y697, z697⟩, st697⟩ := X0.virtualBack hx (y := (⟨cST, "length", "()I"⟩ : MethodName)) (z := (⟨cST, "length", "()I"⟩ : MethodName)) hown (mvT hZ (tw hw 46 rfl)) (mvT hZ (tw hw 47 rfl)) (notFace_of_selects (args := #[]) (mvT hZ (tw hw 49 rfl))) (mvT hZ (tw hw 49 rfl)) (mvT hZ (tw hw 48 rfl)) (by decide) (backOf (W := 1) (rmLn l Z a0 hw [] a cs b_1 co1 ys1 [y0, y1] h0 n0 Z0 P0 P1 P2 P3 P8 zCS hcs hR1) hZ (tw hw 50 rfl) (tw hw 14 rfl) (by decide) (by decide)) q697a q697c (g := (mkF m 7 #[vr th, vr a, vr o, vi (0 : Int32), vi (0 : Int32), .unset, .unset] [(.ref a), (.int (0 : Int32))])) rfl (by rw [hml]; rfl) (Steps.refl _) (argsL := []) (rest := [(.int (0 : Int32))]) (lenOf pd__28_29I rfl) rfl (by show 2 * 0 + _ ≤ _; exact Nat.le_of_eq rfl) (hb hby d7_7) (fun _ _ => ⟨rfl, e0, (by decide : 0 + 0 ≤ _), (by decide : 0 + 0 ≤ _)⟩)
    dsimp only [Pt.U, Pt.locs, Pt.cells, Pt.slots] at X697 l697 y697 z697 st697 hQ697
    rw [l697, y697, z697] at X697
    obtain ⟨hr697, N697q, eh697⟩ := hQ697
    rw [hr697] at st697
    rw [N697q, List.append_nil] at X697
    refine Go.via (fun _ kQ => st697.trans kQ) ?_
    clear st697
    have e697 : T697.heap = h0 := eh697
    clear X0 e0
    show Go p e below (T697.setTop (mkF m 10 #[vr th, vr a, vr o, vi (0 : Int32), vi (0 : Int32), .unset, .unset] [(.int (2 : Int32)), (.int (0 : Int32))])) _
    refine Go.via (fun _ => XS.icmpNo X697.here hx rfl (hb hby d7_10) rfl (tlt ((by decide) : (0 : Int32) < (2 : Int32))).2.1) ?_
    refine Go.via (fun _ => XS.iload X697.here hx rfl (hb hby d7_13) rfl) ?_
    refine Go.via (fun _ => XS.aloadN X697.here hx rfl (hb hby d7_15) rfl rfl) ?_
    obtain ⟨cq698, kq698, q698a, q698b, q698c⟩ := isOf hZ e697 P4
    obtain ⟨r698, _, ⟨T698, L698, k698, n698⟩, -, X698, ⟨Lc698, hQ698, l698, y698, z698⟩, st698⟩ := X697.virtualBack hx (y := (⟨cST, "length", "()I"⟩ : MethodName)) (z := (⟨cST, "length", "()I"⟩ : MethodName)) hown (mvT hZ (tw hw 46 rfl)) (mvT hZ (tw hw 47 rfl)) (notFace_of_selects (args := #[]) (mvT hZ (tw hw 49 rfl))) (mvT hZ (tw hw 49 rfl)) (mvT hZ (tw hw 48 rfl)) (by decide) (backOf (W := 1) (rmLn l Z a0 hw [] o cs b_2 co2 ys2 [z0] h0 n0 Z0 P4 P5 P6 P7 P8 zCS hcs hR2) hZ (tw hw 50 rfl) (tw hw 14 rfl) (by decide) (by decide)) q698a q698c (g := (mkF m 16 #[vr th, vr a, vr o, vi (0 : Int32), vi (0 : Int32), .unset, .unset] [(.ref o), (.int (0 : Int32))])) rfl (by rw [hml]; rfl) (Steps.refl _) (argsL := []) (rest := [(.int (0 : Int32))]) (lenOf pd__28_29I rfl) rfl (by show 2 * 0 + _ ≤ _; exact Nat.le_of_eq rfl) (hb hby d7_16) (fun _ _ => ⟨rfl, e697, (by decide : 0 + 0 ≤ _), (by decide : 0 + 0 ≤ _)⟩)
    dsimp only [Pt.U, Pt.locs, Pt.cells, Pt.slots] at X698 l698 y698 z698 st698 hQ698
    rw [l698, y698, z698] at X698
    obtain ⟨hr698, N698q, eh698⟩ := hQ698
    rw [hr698] at st698
    rw [N698q, List.append_nil] at X698
    refine Go.via (fun _ kQ => st698.trans kQ) ?_
    clear st698
    have e698 : T698.heap = h0 := eh698
    clear X697 e697
    show Go p e below (T698.setTop (mkF m 19 #[vr th, vr a, vr o, vi (0 : Int32), vi (0 : Int32), .unset, .unset] [(.int (1 : Int32)), (.int (0 : Int32))])) _
    refine Go.via (fun _ => XS.icmpNo X698.here hx rfl (hb hby d7_19) rfl (tlt ((by decide) : (0 : Int32) < (1 : Int32))).2.1) ?_
    refine Go.via (fun _ => XS.aloadN X698.here hx rfl (hb hby d7_22) rfl rfl) ?_
    refine Go.via (fun _ => XS.iloadN X698.here hx rfl (hb hby d7_23) rfl) ?_
    obtain ⟨cq699, kq699, q699a, q699b, q699c⟩ := isOf hZ e698 P0
    obtain ⟨r699, _, ⟨T699, L699, k699, n699⟩, -, X699, ⟨Lc699, hQ699, l699, y699, z699⟩, st699⟩ := X698.virtualBack hx (y := (⟨cST, "codePointAt", "(I)I"⟩ : MethodName)) (z := (⟨cST, "codePointAt", "(I)I"⟩ : MethodName)) hown (mvT hZ (tw hw 97 rfl)) (mvT hZ (tw hw 98 rfl)) (notFace_of_selects (args := #[]) (mvT hZ (tw hw 100 rfl))) (mvT hZ (tw hw 100 rfl)) (mvT hZ (tw hw 99 rfl)) (by decide) (backOf (W := 0) (rmSc_20 l Z a0 hw [] a (0 : Int32) cs fv b_1 co1 ys1 y0 y1 h0 n0 Z0 P0 P1 P2 P3 P8 zCS zF zAD zHI zLO hcs hfv rfl hR1) hZ (tw hw 101 rfl) (tw hw 14 rfl) (by decide) (by decide)) q699a q699c (g := (mkF m 24 #[vr th, vr a, vr o, vi (0 : Int32), vi (0 : Int32), .unset, .unset] [(.int (0 : Int32)), (.ref a)])) rfl (by rw [hml]; rfl) (Steps.refl _) (argsL := [(.int (0 : Int32))]) (rest := []) (lenOf pd__28I_29I rfl) rfl (by show 2 * 0 + _ ≤ _; exact Nat.le_of_eq rfl) (hb hby d7_24) (fun _ _ => ⟨rfl, e698, (by decide : 0 + 0 ≤ _), (by decide : 0 + 0 ≤ _)⟩)
    dsimp only [Pt.U, Pt.locs, Pt.cells, Pt.slots] at X699 l699 y699 z699 st699 hQ699
    rw [l699, y699, z699] at X699
    obtain ⟨hr699, N699q, eh699⟩ := hQ699
    rw [hr699] at st699
    rw [N699q, List.append_nil] at X699
    refine Go.via (fun _ kQ => st699.trans kQ) ?_
    clear st699
    have e699 : T699.heap = h0 := eh699
    clear X698 e698
    show Go p e below (T699.setTop (mkF m 27 #[vr th, vr a, vr o, vi (0 : Int32), vi (0 : Int32), .unset, .unset] [(.int (cp2 y0 y1))])) _
    rcases own_cp2 y0 y1 with ⟨hp_y, hq_y⟩ | ⟨hp_y, hq_y, hr_y⟩
    · rw [hp_y]
      show Go p e below (T699.setTop (mkF m 27 #[vr th, vr a, vr o, vi (0 : Int32), vi (0 : Int32), .unset, .unset] [(.int y0)])) _
      refine Go.via (fun _ => XS.istore X699.here hx rfl (hb hby d7_27) rfl (l' := #[vr th, vr a, vr o, vi (0 : Int32), vi (0 : Int32), vi y0, .unset]) rfl) ?_
      refine Go.via (fun _ => XS.aloadN X699.here hx rfl (hb hby d7_29) rfl rfl) ?_
      refine Go.via (fun _ => XS.iload X699.here hx rfl (hb hby d7_30) rfl) ?_
      obtain ⟨cq700, kq700, q700a, q700b, q700c⟩ := isOf hZ e699 P4
      obtain ⟨r700, _, ⟨T700, L700, k700, n700⟩, -, X700, ⟨Lc700, hQ700, l700, y700, z700⟩, st700⟩ := X699.virtualBack hx (y := (⟨cST, "codePointAt", "(I)I"⟩ : MethodName)) (z := (⟨cST, "codePointAt", "(I)I"⟩ : MethodName)) hown (mvT hZ (tw hw 97 rfl)) (mvT hZ (tw hw 98 rfl)) (notFace_of_selects (args := #[]) (mvT hZ (tw hw 100 rfl))) (mvT hZ (tw hw 100 rfl)) (mvT hZ (tw hw 99 rfl)) (by decide) (backOf (W := 0) (rmSc_10 l Z a0 hw [] o (0 : Int32) cs fv b_2 co2 ys2 z0 h0 n0 Z0 P4 P5 P6 P7 P8 zCS zF zAD zHI zLO hcs hfv rfl hR2) hZ (tw hw 101 rfl) (tw hw 14 rfl) (by decide) (by decide)) q700a q700c (g := (mkF m 32 #[vr th, vr a, vr o, vi (0 : Int32), vi (0 : Int32), vi y0, .unset] [(.int (0 : Int32)), (.ref o)])) rfl (by rw [hml]; rfl) (Steps.refl _) (argsL := [(.int (0 : Int32))]) (rest := []) (lenOf pd__28I_29I rfl) rfl (by show 2 * 0 + _ ≤ _; exact Nat.le_of_eq rfl) (hb hby d7_32) (fun _ _ => ⟨rfl, e699, (by decide : 0 + 0 ≤ _), (by decide : 0 + 0 ≤ _)⟩)
      dsimp only [Pt.U, Pt.locs, Pt.cells, Pt.slots] at X700 l700 y700 z700 st700 hQ700
      rw [l700, y700, z700] at X700
      obtain ⟨hr700, N700q, eh700⟩ := hQ700
      rw [hr700] at st700
      rw [N700q, List.append_nil] at X700
      refine Go.via (fun _ kQ => st700.trans kQ) ?_
      clear st700
      have e700 : T700.heap = h0 := eh700
      clear X699 e699
      show Go p e below (T700.setTop (mkF m 35 #[vr th, vr a, vr o, vi (0 : Int32), vi (0 : Int32), vi y0, .unset] [(.int z0)])) _
      · skip
        show Go p e below (T700.setTop (mkF m 35 #[vr th, vr a, vr o, vi (0 : Int32), vi (0 : Int32), vi y0, .unset] [(.int z0)])) _
        refine Go.via (fun _ => XS.istore X700.here hx rfl (hb hby d7_35) rfl (l' := #[vr th, vr a, vr o, vi (0 : Int32), vi (0 : Int32), vi y0, vi z0]) rfl) ?_
        refine Go.via (fun _ => XS.iload X700.here hx rfl (hb hby d7_37) rfl) ?_
        refine Go.via (fun _ => XS.iload X700.here hx rfl (hb hby d7_39) rfl) ?_
        by_cases hc701 : y0 = z0
        · refine Go.via (fun _ => XS.icmpYes X700.here hx rfl (pc0 := 41) (pc' := 52) rfl (hb hby d7_41) rfl (teq (hc701 : y0 = z0)).1 (by decide) (by decide)) ?_
          refine Go.via (fun _ => XS.iloadN X700.here hx rfl (hb hby d7_52) rfl) ?_
          refine Go.via (fun _ => XS.iload X700.here hx rfl (hb hby d7_53) rfl) ?_
          obtain ⟨r702, _, ⟨T702, L702, k702, n702⟩, -, X702, ⟨Lc702, hQ702, l702, y702, z702⟩, st702⟩ := Jvm.LawKit.callS X700 hx (y := (⟨"java/lang/Character", "charCount", "(I)I"⟩ : MethodName)) hown (mvT hZ (tw hw 126 rfl)) (mvT hZ (tw hw 127 rfl)) (mvT hZ (tw hw 123 rfl)) (mvT hZ (tw hw 128 rfl)) (by decide) (backOf (W := 1) (rmCc l Z a0 hw [] y0  h0 n0 Z0) hZ (tw hw 128 rfl) (tw hw 123 rfl) (by decide) (by decide)) (g := (mkF m 55 #[vr th, vr a, vr o, vi (0 : Int32), vi (0 : Int32), vi y0, vi z0] [(.int y0), (.int (0 : Int32))])) rfl (by rw [hml]; rfl) (argsL := [(.int y0)]) (rest := [(.int (0 : Int32))]) (lenOf pd__28I_29I rfl) rfl (by show 2 * 0 + _ ≤ _; exact Nat.le_of_eq rfl) (hb hby d7_55) (fun _ _ => ⟨rfl, e700, (by decide : 0 + 0 ≤ _), (by decide : 0 + 0 ≤ _)⟩)
          dsimp only [Pt.U, Pt.locs, Pt.cells, Pt.slots] at X702 l702 y702 z702 st702 hQ702
          rw [l702, y702, z702] at X702
          obtain ⟨hr702, N702q, eh702⟩ := hQ702
          rw [hr702] at st702
          rw [N702q, List.append_nil] at X702
          refine Go.via (st702) ?_
          clear st702
          have e702 : T702.heap = h0 := eh702
          clear X700 e700
          show Go p e below (T702.setTop (mkF m 58 #[vr th, vr a, vr o, vi (0 : Int32), vi (0 : Int32), vi y0, vi z0] [(.int (ccF y0)), (.int (0 : Int32))])) _
          rw [own_cc1 hy0]
          show Go p e below (T702.setTop (mkF m 58 #[vr th, vr a, vr o, vi (0 : Int32), vi (0 : Int32), vi y0, vi z0] [(.int (1 : Int32)), (.int (0 : Int32))])) _
          refine Go.via (fun _ => XS.iadd X702.here hx rfl (hb hby d7_58) rfl) ?_
          refine Go.via (fun _ => XS.istoreN X702.here hx rfl (hb hby d7_59) rfl (l' := #[vr th, vr a, vr o, vi (1 : Int32), vi (0 : Int32), vi y0, vi z0]) rfl) ?_
          refine Go.via (fun _ => XS.iload X702.here hx rfl (hb hby d7_60) rfl) ?_
          refine Go.via (fun _ => XS.iload X702.here hx rfl (hb hby d7_62) rfl) ?_
          obtain ⟨r703, _, ⟨T703, L703, k703, n703⟩, -, X703, ⟨Lc703, hQ703, l703, y703, z703⟩, st703⟩ := Jvm.LawKit.callS X702 hx (y := (⟨"java/lang/Character", "charCount", "(I)I"⟩ : MethodName)) hown (mvT hZ (tw hw 126 rfl)) (mvT hZ (tw hw 127 rfl)) (mvT hZ (tw hw 123 rfl)) (mvT hZ (tw hw 128 rfl)) (by decide) (backOf (W := 1) (rmCc l Z a0 hw [] z0  h0 n0 Z0) hZ (tw hw 128 rfl) (tw hw 123 rfl) (by decide) (by decide)) (g := (mkF m 64 #[vr th, vr a, vr o, vi (1 : Int32), vi (0 : Int32), vi y0, vi z0] [(.int z0), (.int (0 : Int32))])) rfl (by rw [hml]; rfl) (argsL := [(.int z0)]) (rest := [(.int (0 : Int32))]) (lenOf pd__28I_29I rfl) rfl (by show 2 * 0 + _ ≤ _; exact Nat.le_of_eq rfl) (hb hby d7_64) (fun _ _ => ⟨rfl, e702, (by decide : 0 + 0 ≤ _), (by decide : 0 + 0 ≤ _)⟩)
          dsimp only [Pt.U, Pt.locs, Pt.cells, Pt.slots] at X703 l703 y703 z703 st703 hQ703
          rw [l703, y703, z703] at X703
          obtain ⟨hr703, N703q, eh703⟩ := hQ703
          rw [hr703] at st703
          rw [N703q, List.append_nil] at X703
          refine Go.via (st703) ?_
          clear st703
          have e703 : T703.heap = h0 := eh703
          clear X702 e702
          show Go p e below (T703.setTop (mkF m 67 #[vr th, vr a, vr o, vi (1 : Int32), vi (0 : Int32), vi y0, vi z0] [(.int (ccF z0)), (.int (0 : Int32))])) _
          rw [own_cc1 hz0]
          show Go p e below (T703.setTop (mkF m 67 #[vr th, vr a, vr o, vi (1 : Int32), vi (0 : Int32), vi y0, vi z0] [(.int (1 : Int32)), (.int (0 : Int32))])) _
          refine Go.via (fun _ => XS.iadd X703.here hx rfl (hb hby d7_67) rfl) ?_
          refine Go.via (fun _ => XS.istore X703.here hx rfl (hb hby d7_68) rfl (l' := #[vr th, vr a, vr o, vi (1 : Int32), vi (1 : Int32), vi y0, vi z0]) rfl) ?_
          refine Go.via (fun _ => XS.goto X703.here hx rfl (pc0 := 70) (pc' := 5) rfl (hb hby d7_70) (by decide) (by decide)) ?_
          refine Go.via (fun _ => XS.iloadN X703.here hx rfl (hb hby d7_5) rfl) ?_
          refine Go.via (fun _ => XS.aloadN X703.here hx rfl (hb hby d7_6) rfl rfl) ?_
          obtain ⟨cq704, kq704, q704a, q704b, q704c⟩ := isOf hZ e703 P0
          obtain ⟨r704, _, ⟨T704, L704, k704, n704⟩, -, X704, ⟨Lc704, hQ704, l704, y704, z704⟩, st704⟩ := X703.virtualBack hx (y := (⟨cST, "length", "()I"⟩ : MethodName)) (z := (⟨cST, "length", "()I"⟩ : MethodName)) hown (mvT hZ (tw hw 46 rfl)) (mvT hZ (tw hw 47 rfl)) (notFace_of_selects (args := #[]) (mvT hZ (tw hw 49 rfl))) (mvT hZ (tw hw 49 rfl)) (mvT hZ (tw hw 48 rfl)) (by decide) (backOf (W := 1) (rmLn l Z a0 hw [] a cs b_1 co1 ys1 [y0, y1] h0 n0 Z0 P0 P1 P2 P3 P8 zCS hcs hR1) hZ (tw hw 50 rfl) (tw hw 14 rfl) (by decide) (by decide)) q704a q704c (g := (mkF m 7 #[vr th, vr a, vr o, vi (1 : Int32), vi (1 : Int32), vi y0, vi z0] [(.ref a), (.int (1 : Int32))])) rfl (by rw [hml]; rfl) (Steps.refl _) (argsL := []) (rest := [(.int (1 : Int32))]) (lenOf pd__28_29I rfl) rfl (by show 2 * 0 + _ ≤ _; exact Nat.le_of_eq rfl) (hb hby d7_7) (fun _ _ => ⟨rfl, e703, (by decide : 0 + 0 ≤ _), (by decide : 0 + 0 ≤ _)⟩)
          dsimp only [Pt.U, Pt.locs, Pt.cells, Pt.slots] at X704 l704 y704 z704 st704 hQ704
          rw [l704, y704, z704] at X704
          obtain ⟨hr704, N704q, eh704⟩ := hQ704
          rw [hr704] at st704
          rw [N704q, List.append_nil] at X704
          refine Go.via (fun _ kQ => st704.trans kQ) ?_
          clear st704
          have e704 : T704.heap = h0 := eh704
          clear X703 e703
          show Go p e below (T704.setTop (mkF m 10 #[vr th, vr a, vr o, vi (1 : Int32), vi (1 : Int32), vi y0, vi z0] [(.int (2 : Int32)), (.int (1 : Int32))])) _
          refine Go.via (fun _ => XS.icmpNo X704.here hx rfl (hb hby d7_10) rfl (tlt ((by decide) : (1 : Int32) < (2 : Int32))).2.1) ?_
          refine Go.via (fun _ => XS.iload X704.here hx rfl (hb hby d7_13) rfl) ?_
          refine Go.via (fun _ => XS.aloadN X704.here hx rfl (hb hby d7_15) rfl rfl) ?_
          obtain ⟨cq705, kq705, q705a, q705b, q705c⟩ := isOf hZ e704 P4
          obtain ⟨r705, _, ⟨T705, L705, k705, n705⟩, -, X705, ⟨Lc705, hQ705, l705, y705, z705⟩, st705⟩ := X704.virtualBack hx (y := (⟨cST, "length", "()I"⟩ : MethodName)) (z := (⟨cST, "length", "()I"⟩ : MethodName)) hown (mvT hZ (tw hw 46 rfl)) (mvT hZ (tw hw 47 rfl)) (notFace_of_selects (args := #[]) (mvT hZ (tw hw 49 rfl))) (mvT hZ (tw hw 49 rfl)) (mvT hZ (tw hw 48 rfl)) (by decide) (backOf (W := 1) (rmLn l Z a0 hw [] o cs b_2 co2 ys2 [z0] h0 n0 Z0 P4 P5 P6 P7 P8 zCS hcs hR2) hZ (tw hw 50 rfl) (tw hw 14 rfl) (by decide) (by decide)) q705a q705c (g := (mkF m 16 #[vr th, vr a, vr o, vi (1 : Int32), vi (1 : Int32), vi y0, vi z0] [(.ref o), (.int (1 : Int32))])) rfl (by rw [hml]; rfl) (Steps.refl _) (argsL := []) (rest := [(.int (1 : Int32))]) (lenOf pd__28_29I rfl) rfl (by show 2 * 0 + _ ≤ _; exact Nat.le_of_eq rfl) (hb hby d7_16) (fun _ _ => ⟨rfl, e704, (by decide : 0 + 0 ≤ _), (by decide : 0 + 0 ≤ _)⟩)
          dsimp only [Pt.U, Pt.locs, Pt.cells, Pt.slots] at X705 l705 y705 z705 st705 hQ705
          rw [l705, y705, z705] at X705
          obtain ⟨hr705, N705q, eh705⟩ := hQ705
          rw [hr705] at st705
          rw [N705q, List.append_nil] at X705
          refine Go.via (fun _ kQ => st705.trans kQ) ?_
          clear st705
          have e705 : T705.heap = h0 := eh705
          clear X704 e704
          show Go p e below (T705.setTop (mkF m 19 #[vr th, vr a, vr o, vi (1 : Int32), vi (1 : Int32), vi y0, vi z0] [(.int (1 : Int32)), (.int (1 : Int32))])) _
          refine Go.via (fun _ => XS.icmpYes X705.here hx rfl (pc0 := 19) (pc' := 73) rfl (hb hby d7_19) rfl (flt ((by decide) : ¬ ((1 : Int32) < (1 : Int32)))).2.1 (by decide) (by decide)) ?_
          refine Go.via (fun _ => XS.aloadN X705.here hx rfl (hb hby d7_73) rfl rfl) ?_
          obtain ⟨cq706, kq706, q706a, q706b, q706c⟩ := isOf hZ e705 P0
          obtain ⟨r706, _, ⟨T706, L706, k706, n706⟩, -, X706, ⟨Lc706, hQ706, l706, y706, z706⟩, st706⟩ := X705.virtualBack hx (y := (⟨cST, "length", "()I"⟩ : MethodName)) (z := (⟨cST, "length", "()I"⟩ : MethodName)) hown (mvT hZ (tw hw 46 rfl)) (mvT hZ (tw hw 47 rfl)) (notFace_of_selects (args := #[]) (mvT hZ (tw hw 49 rfl))) (mvT hZ (tw hw 49 rfl)) (mvT hZ (tw hw 48 rfl)) (by decide) (backOf (W := 0) (rmLn l Z a0 hw [] a cs b_1 co1 ys1 [y0, y1] h0 n0 Z0 P0 P1 P2 P3 P8 zCS hcs hR1) hZ (tw hw 50 rfl) (tw hw 14 rfl) (by decide) (by decide)) q706a q706c (g := (mkF m 74 #[vr th, vr a, vr o, vi (1 : Int32), vi (1 : Int32), vi y0, vi z0] [(.ref a)])) rfl (by rw [hml]; rfl) (Steps.refl _) (argsL := []) (rest := []) (lenOf pd__28_29I rfl) rfl (by show 2 * 0 + _ ≤ _; exact Nat.le_of_eq rfl) (hb hby d7_74) (fun _ _ => ⟨rfl, e705, (by decide : 0 + 0 ≤ _), (by decide : 0 + 0 ≤ _)⟩)
          dsimp only [Pt.U, Pt.locs, Pt.cells, Pt.slots] at X706 l706 y706 z706 st706 hQ706
          rw [l706, y706, z706] at X706
          obtain ⟨hr706, N706q, eh706⟩ := hQ706
          rw [hr706] at st706
          rw [N706q, List.append_nil] at X706
          refine Go.via (fun _ kQ => st706.trans kQ) ?_
          clear st706
          have e706 : T706.heap = h0 := eh706
          clear X705 e705
          show Go p e below (T706.setTop (mkF m 77 #[vr th, vr a, vr o, vi (1 : Int32), vi (1 : Int32), vi y0, vi z0] [(.int (2 : Int32))])) _
          refine Go.via (fun _ => XS.iloadN X706.here hx rfl (hb hby d7_77) rfl) ?_
          refine Go.via (fun _ => XS.isub X706.here hx rfl (hb hby d7_78) rfl) ?_
          refine Go.via (fun _ => XS.aloadN X706.here hx rfl (hb hby d7_79) rfl rfl) ?_
          obtain ⟨cq707, kq707, q707a, q707b, q707c⟩ := isOf hZ e706 P4
          obtain ⟨r707, _, ⟨T707, L707, k707, n707⟩, -, X707, ⟨Lc707, hQ707, l707, y707, z707⟩, st707⟩ := X706.virtualBack hx (y := (⟨cST, "length", "()I"⟩ : MethodName)) (z := (⟨cST, "length", "()I"⟩ : MethodName)) hown (mvT hZ (tw hw 46 rfl)) (mvT hZ (tw hw 47 rfl)) (notFace_of_selects (args := #[]) (mvT hZ (tw hw 49 rfl))) (mvT hZ (tw hw 49 rfl)) (mvT hZ (tw hw 48 rfl)) (by decide) (backOf (W := 1) (rmLn l Z a0 hw [] o cs b_2 co2 ys2 [z0] h0 n0 Z0 P4 P5 P6 P7 P8 zCS hcs hR2) hZ (tw hw 50 rfl) (tw hw 14 rfl) (by decide) (by decide)) q707a q707c (g := (mkF m 80 #[vr th, vr a, vr o, vi (1 : Int32), vi (1 : Int32), vi y0, vi z0] [(.ref o), (.int (1 : Int32))])) rfl (by rw [hml]; rfl) (Steps.refl _) (argsL := []) (rest := [(.int (1 : Int32))]) (lenOf pd__28_29I rfl) rfl (by show 2 * 0 + _ ≤ _; exact Nat.le_of_eq rfl) (hb hby d7_80) (fun _ _ => ⟨rfl, e706, (by decide : 0 + 0 ≤ _), (by decide : 0 + 0 ≤ _)⟩)
          dsimp only [Pt.U, Pt.locs, Pt.cells, Pt.slots] at X707 l707 y707 z707 st707 hQ707
          rw [l707, y707, z707] at X707
          obtain ⟨hr707, N707q, eh707⟩ := hQ707
          rw [hr707] at st707
          rw [N707q, List.append_nil] at X707
          refine Go.via (fun _ kQ => st707.trans kQ) ?_
          clear st707
          have e707 : T707.heap = h0 := eh707
          clear X706 e706
          show Go p e below (T707.setTop (mkF m 83 #[vr th, vr a, vr o, vi (1 : Int32), vi (1 : Int32), vi y0, vi z0] [(.int (1 : Int32)), (.int (1 : Int32))])) _
          refine Go.via (fun _ => XS.iload X707.here hx rfl (hb hby d7_83) rfl) ?_
          refine Go.via (fun _ => XS.isub X707.here hx rfl (hb hby d7_85) rfl) ?_
          obtain ⟨r708, _, ⟨T708, L708, k708, n708⟩, -, X708, ⟨Lc708, hQ708, l708, y708, z708⟩, st708⟩ := Jvm.LawKit.callS X707 hx (y := (⟨"java/lang/Integer", "compare", "(II)I"⟩ : MethodName)) hown (mvT hZ (tw hw 57 rfl)) (mvT hZ (tw hw 58 rfl)) (mvT hZ (tw hw 59 rfl)) (mvT hZ (tw hw 60 rfl)) (by decide) (backOf (W := 0) (rmIc l Z a0 hw [] (1 : Int32) (0 : Int32)  h0 n0 Z0) hZ (tw hw 60 rfl) (tw hw 59 rfl) (by decide) (by decide)) (g := (mkF m 86 #[vr th, vr a, vr o, vi (1 : Int32), vi (1 : Int32), vi y0, vi z0] [(.int (0 : Int32)), (.int (1 : Int32))])) rfl (by rw [hml]; rfl) (argsL := [(.int (1 : Int32)), (.int (0 : Int32))]) (rest := []) (lenOf pd__28II_29I rfl) rfl (by show 2 * 0 + _ ≤ _; exact Nat.le_of_eq rfl) (hb hby d7_86) (fun _ _ => ⟨rfl, e707, (by decide : 0 + 0 ≤ _), (by decide : 0 + 0 ≤ _)⟩)
          dsimp only [Pt.U, Pt.locs, Pt.cells, Pt.slots] at X708 l708 y708 z708 st708 hQ708
          rw [l708, y708, z708] at X708
          obtain ⟨hr708, N708q, eh708⟩ := hQ708
          rw [hr708] at st708
          rw [N708q, List.append_nil] at X708
          refine Go.via (st708) ?_
          clear st708
          have e708 : T708.heap = h0 := eh708
          clear X707 e707
          show Go p e below (T708.setTop (mkF m 89 #[vr th, vr a, vr o, vi (1 : Int32), vi (1 : Int32), vi y0, vi z0] [(.int (icF (1 : Int32) (0 : Int32)))])) _
          exact Go.fin X708 hlk (v := some (.int (icF (1 : Int32) (0 : Int32)))) (fun h => by rw [Bd.returns] at h; cases h) (fun fs hr => OwnKit.retI X708 hx Bd.returns (hb hby d7_89) hr) (by rw [e708]; exact ⟨(congrArg (fun qq => some (Value.int qq)) (show (icF (1 : Int32) (0 : Int32)) = cmF [y0, y1] [z0] by unfold cmF; rw [own_cpn hq_y, show cpL [z0] = [z0] from rfl, own_cmq hc701]; first | done | rfl | decide)), rfl, rfl⟩) (by decide) (by decide)
        · refine Go.via (fun _ => XS.icmpNo X700.here hx rfl (hb hby d7_41) rfl (feq (hc701 : ¬ (y0 = z0))).1) ?_
          refine Go.via (fun _ => XS.iload X700.here hx rfl (hb hby d7_44) rfl) ?_
          refine Go.via (fun _ => XS.iload X700.here hx rfl (hb hby d7_46) rfl) ?_
          obtain ⟨r709, _, ⟨T709, L709, k709, n709⟩, -, X709, ⟨Lc709, hQ709, l709, y709, z709⟩, st709⟩ := Jvm.LawKit.callS X700 hx (y := (⟨"java/lang/Integer", "compare", "(II)I"⟩ : MethodName)) hown (mvT hZ (tw hw 57 rfl)) (mvT hZ (tw hw 58 rfl)) (mvT hZ (tw hw 59 rfl)) (mvT hZ (tw hw 60 rfl)) (by decide) (backOf (W := 0) (rmIc l Z a0 hw [] y0 z0  h0 n0 Z0) hZ (tw hw 60 rfl) (tw hw 59 rfl) (by decide) (by decide)) (g := (mkF m 48 #[vr th, vr a, vr o, vi (0 : Int32), vi (0 : Int32), vi y0, vi z0] [(.int z0), (.int y0)])) rfl (by rw [hml]; rfl) (argsL := [(.int y0), (.int z0)]) (rest := []) (lenOf pd__28II_29I rfl) rfl (by show 2 * 0 + _ ≤ _; exact Nat.le_of_eq rfl) (hb hby d7_48) (fun _ _ => ⟨rfl, e700, (by decide : 0 + 0 ≤ _), (by decide : 0 + 0 ≤ _)⟩)
          dsimp only [Pt.U, Pt.locs, Pt.cells, Pt.slots] at X709 l709 y709 z709 st709 hQ709
          rw [l709, y709, z709] at X709
          obtain ⟨hr709, N709q, eh709⟩ := hQ709
          rw [hr709] at st709
          rw [N709q, List.append_nil] at X709
          refine Go.via (st709) ?_
          clear st709
          have e709 : T709.heap = h0 := eh709
          clear X700 e700
          show Go p e below (T709.setTop (mkF m 51 #[vr th, vr a, vr o, vi (0 : Int32), vi (0 : Int32), vi y0, vi z0] [(.int (icF y0 z0))])) _
          exact Go.fin X709 hlk (v := some (.int (icF y0 z0))) (fun h => by rw [Bd.returns] at h; cases h) (fun fs hr => OwnKit.retI X709 hx Bd.returns (hb hby d7_51) hr) (by rw [e709]; exact ⟨(congrArg (fun qq => some (Value.int qq)) (show (icF y0 z0) = cmF [y0, y1] [z0] by unfold cmF; rw [own_cpn hq_y, show cpL [z0] = [z0] from rfl, own_cmn hc701])), rfl, rfl⟩) (by decide) (by decide)
    · rw [hp_y]
      show Go p e below (T699.setTop (mkF m 27 #[vr th, vr a, vr o, vi (0 : Int32), vi (0 : Int32), .unset, .unset] [(.int (tcF y0 y1))])) _
      refine Go.via (fun _ => XS.istore X699.here hx rfl (hb hby d7_27) rfl (l' := #[vr th, vr a, vr o, vi (0 : Int32), vi (0 : Int32), vi (tcF y0 y1), .unset]) rfl) ?_
      refine Go.via (fun _ => XS.aloadN X699.here hx rfl (hb hby d7_29) rfl rfl) ?_
      refine Go.via (fun _ => XS.iload X699.here hx rfl (hb hby d7_30) rfl) ?_
      obtain ⟨cq710, kq710, q710a, q710b, q710c⟩ := isOf hZ e699 P4
      obtain ⟨r710, _, ⟨T710, L710, k710, n710⟩, -, X710, ⟨Lc710, hQ710, l710, y710, z710⟩, st710⟩ := X699.virtualBack hx (y := (⟨cST, "codePointAt", "(I)I"⟩ : MethodName)) (z := (⟨cST, "codePointAt", "(I)I"⟩ : MethodName)) hown (mvT hZ (tw hw 97 rfl)) (mvT hZ (tw hw 98 rfl)) (notFace_of_selects (args := #[]) (mvT hZ (tw hw 100 rfl))) (mvT hZ (tw hw 100 rfl)) (mvT hZ (tw hw 99 rfl)) (by decide) (backOf (W := 0) (rmSc_10 l Z a0 hw [] o (0 : Int32) cs fv b_2 co2 ys2 z0 h0 n0 Z0 P4 P5 P6 P7 P8 zCS zF zAD zHI zLO hcs hfv rfl hR2) hZ (tw hw 101 rfl) (tw hw 14 rfl) (by decide) (by decide)) q710a q710c (g := (mkF m 32 #[vr th, vr a, vr o, vi (0 : Int32), vi (0 : Int32), vi (tcF y0 y1), .unset] [(.int (0 : Int32)), (.ref o)])) rfl (by rw [hml]; rfl) (Steps.refl _) (argsL := [(.int (0 : Int32))]) (rest := []) (lenOf pd__28I_29I rfl) rfl (by show 2 * 0 + _ ≤ _; exact Nat.le_of_eq rfl) (hb hby d7_32) (fun _ _ => ⟨rfl, e699, (by decide : 0 + 0 ≤ _), (by decide : 0 + 0 ≤ _)⟩)
      dsimp only [Pt.U, Pt.locs, Pt.cells, Pt.slots] at X710 l710 y710 z710 st710 hQ710
      rw [l710, y710, z710] at X710
      obtain ⟨hr710, N710q, eh710⟩ := hQ710
      rw [hr710] at st710
      rw [N710q, List.append_nil] at X710
      refine Go.via (fun _ kQ => st710.trans kQ) ?_
      clear st710
      have e710 : T710.heap = h0 := eh710
      clear X699 e699
      show Go p e below (T710.setTop (mkF m 35 #[vr th, vr a, vr o, vi (0 : Int32), vi (0 : Int32), vi (tcF y0 y1), .unset] [(.int z0)])) _
      · skip
        show Go p e below (T710.setTop (mkF m 35 #[vr th, vr a, vr o, vi (0 : Int32), vi (0 : Int32), vi (tcF y0 y1), .unset] [(.int z0)])) _
        refine Go.via (fun _ => XS.istore X710.here hx rfl (hb hby d7_35) rfl (l' := #[vr th, vr a, vr o, vi (0 : Int32), vi (0 : Int32), vi (tcF y0 y1), vi z0]) rfl) ?_
        refine Go.via (fun _ => XS.iload X710.here hx rfl (hb hby d7_37) rfl) ?_
        refine Go.via (fun _ => XS.iload X710.here hx rfl (hb hby d7_39) rfl) ?_
        refine Go.via (fun _ => XS.icmpNo X710.here hx rfl (hb hby d7_41) rfl (feq ((own_tne hq_y hr_y hz0) : ¬ ((tcF y0 y1) = z0))).1) ?_
        refine Go.via (fun _ => XS.iload X710.here hx rfl (hb hby d7_44) rfl) ?_
        refine Go.via (fun _ => XS.iload X710.here hx rfl (hb hby d7_46) rfl) ?_
        obtain ⟨r711, _, ⟨T711, L711, k711, n711⟩, -, X711, ⟨Lc711, hQ711, l711, y711, z711⟩, st711⟩ := Jvm.LawKit.callS X710 hx (y := (⟨"java/lang/Integer", "compare", "(II)I"⟩ : MethodName)) hown (mvT hZ (tw hw 57 rfl)) (mvT hZ (tw hw 58 rfl)) (mvT hZ (tw hw 59 rfl)) (mvT hZ (tw hw 60 rfl)) (by decide) (backOf (W := 0) (rmIc l Z a0 hw [] (tcF y0 y1) z0  h0 n0 Z0) hZ (tw hw 60 rfl) (tw hw 59 rfl) (by decide) (by decide)) (g := (mkF m 48 #[vr th, vr a, vr o, vi (0 : Int32), vi (0 : Int32), vi (tcF y0 y1), vi z0] [(.int z0), (.int (tcF y0 y1))])) rfl (by rw [hml]; rfl) (argsL := [(.int (tcF y0 y1)), (.int z0)]) (rest := []) (lenOf pd__28II_29I rfl) rfl (by show 2 * 0 + _ ≤ _; exact Nat.le_of_eq rfl) (hb hby d7_48) (fun _ _ => ⟨rfl, e710, (by decide : 0 + 0 ≤ _), (by decide : 0 + 0 ≤ _)⟩)
        dsimp only [Pt.U, Pt.locs, Pt.cells, Pt.slots] at X711 l711 y711 z711 st711 hQ711
        rw [l711, y711, z711] at X711
        obtain ⟨hr711, N711q, eh711⟩ := hQ711
        rw [hr711] at st711
        rw [N711q, List.append_nil] at X711
        refine Go.via (st711) ?_
        clear st711
        have e711 : T711.heap = h0 := eh711
        clear X710 e710
        show Go p e below (T711.setTop (mkF m 51 #[vr th, vr a, vr o, vi (0 : Int32), vi (0 : Int32), vi (tcF y0 y1), vi z0] [(.int (icF (tcF y0 y1) z0))])) _
        exact Go.fin X711 hlk (v := some (.int (icF (tcF y0 y1) z0))) (fun h => by rw [Bd.returns] at h; cases h) (fun fs hr => OwnKit.retI X711 hx Bd.returns (hb hby d7_51) hr) (by rw [e711]; exact ⟨(congrArg (fun qq => some (Value.int qq)) (show (icF (tcF y0 y1) z0) = cmF [y0, y1] [z0] by unfold cmF; rw [own_cpp hq_y hr_y, show cpL [z0] = [z0] from rfl, own_cmn (own_tne hq_y hr_y hz0)])), rfl, rfl⟩) (by decide) (by decide)
  · show Go p e below (s₁.setTop (mkF m 0 #[vr th, vr a, vr o, .unset, .unset, .unset, .unset] [])) _
    refine Go.via (fun _ => XS.iconst X0.here hx rfl (hb hby d7_0)) ?_
    refine Go.via (fun _ => XS.istoreN X0.here hx rfl (hb hby d7_1) rfl (l' := #[vr th, vr a, vr o, vi (0 : Int32), .unset, .unset, .unset]) rfl) ?_
    refine Go.via (fun _ => XS.iconst X0.here hx rfl (hb hby d7_2)) ?_
    refine Go.via (fun _ => XS.istore X0.here hx rfl (hb hby d7_3) rfl (l' := #[vr th, vr a, vr o, vi (0 : Int32), vi (0 : Int32), .unset, .unset]) rfl) ?_
    refine Go.via (fun _ => XS.iloadN X0.here hx rfl (hb hby d7_5) rfl) ?_
    refine Go.via (fun _ => XS.aloadN X0.here hx rfl (hb hby d7_6) rfl rfl) ?_
    obtain ⟨cq712, kq712, q712a, q712b, q712c⟩ := isOf hZ e0 P0
    obtain ⟨r712, _, ⟨T712, L712, k712, n712⟩, -, X712, ⟨Lc712, hQ712, l712, y712, z712⟩, st712⟩ := X0.virtualBack hx (y := (⟨cST, "length", "()I"⟩ : MethodName)) (z := (⟨cST, "length", "()I"⟩ : MethodName)) hown (mvT hZ (tw hw 46 rfl)) (mvT hZ (tw hw 47 rfl)) (notFace_of_selects (args := #[]) (mvT hZ (tw hw 49 rfl))) (mvT hZ (tw hw 49 rfl)) (mvT hZ (tw hw 48 rfl)) (by decide) (backOf (W := 1) (rmLn l Z a0 hw [] a cs b_1 co1 ys1 [y0, y1] h0 n0 Z0 P0 P1 P2 P3 P8 zCS hcs hR1) hZ (tw hw 50 rfl) (tw hw 14 rfl) (by decide) (by decide)) q712a q712c (g := (mkF m 7 #[vr th, vr a, vr o, vi (0 : Int32), vi (0 : Int32), .unset, .unset] [(.ref a), (.int (0 : Int32))])) rfl (by rw [hml]; rfl) (Steps.refl _) (argsL := []) (rest := [(.int (0 : Int32))]) (lenOf pd__28_29I rfl) rfl (by show 2 * 0 + _ ≤ _; exact Nat.le_of_eq rfl) (hb hby d7_7) (fun _ _ => ⟨rfl, e0, (by decide : 0 + 0 ≤ _), (by decide : 0 + 0 ≤ _)⟩)
    dsimp only [Pt.U, Pt.locs, Pt.cells, Pt.slots] at X712 l712 y712 z712 st712 hQ712
    rw [l712, y712, z712] at X712
    obtain ⟨hr712, N712q, eh712⟩ := hQ712
    rw [hr712] at st712
    rw [N712q, List.append_nil] at X712
    refine Go.via (fun _ kQ => st712.trans kQ) ?_
    clear st712
    have e712 : T712.heap = h0 := eh712
    clear X0 e0
    show Go p e below (T712.setTop (mkF m 10 #[vr th, vr a, vr o, vi (0 : Int32), vi (0 : Int32), .unset, .unset] [(.int (2 : Int32)), (.int (0 : Int32))])) _
    refine Go.via (fun _ => XS.icmpNo X712.here hx rfl (hb hby d7_10) rfl (tlt ((by decide) : (0 : Int32) < (2 : Int32))).2.1) ?_
    refine Go.via (fun _ => XS.iload X712.here hx rfl (hb hby d7_13) rfl) ?_
    refine Go.via (fun _ => XS.aloadN X712.here hx rfl (hb hby d7_15) rfl rfl) ?_
    obtain ⟨cq713, kq713, q713a, q713b, q713c⟩ := isOf hZ e712 P4
    obtain ⟨r713, _, ⟨T713, L713, k713, n713⟩, -, X713, ⟨Lc713, hQ713, l713, y713, z713⟩, st713⟩ := X712.virtualBack hx (y := (⟨cST, "length", "()I"⟩ : MethodName)) (z := (⟨cST, "length", "()I"⟩ : MethodName)) hown (mvT hZ (tw hw 46 rfl)) (mvT hZ (tw hw 47 rfl)) (notFace_of_selects (args := #[]) (mvT hZ (tw hw 49 rfl))) (mvT hZ (tw hw 49 rfl)) (mvT hZ (tw hw 48 rfl)) (by decide) (backOf (W := 1) (rmLn l Z a0 hw [] o cs b_2 co2 ys2 [z0, z1] h0 n0 Z0 P4 P5 P6 P7 P8 zCS hcs hR2) hZ (tw hw 50 rfl) (tw hw 14 rfl) (by decide) (by decide)) q713a q713c (g := (mkF m 16 #[vr th, vr a, vr o, vi (0 : Int32), vi (0 : Int32), .unset, .unset] [(.ref o), (.int (0 : Int32))])) rfl (by rw [hml]; rfl) (Steps.refl _) (argsL := []) (rest := [(.int (0 : Int32))]) (lenOf pd__28_29I rfl) rfl (by show 2 * 0 + _ ≤ _; exact Nat.le_of_eq rfl) (hb hby d7_16) (fun _ _ => ⟨rfl, e712, (by decide : 0 + 0 ≤ _), (by decide : 0 + 0 ≤ _)⟩)
    dsimp only [Pt.U, Pt.locs, Pt.cells, Pt.slots] at X713 l713 y713 z713 st713 hQ713
    rw [l713, y713, z713] at X713
    obtain ⟨hr713, N713q, eh713⟩ := hQ713
    rw [hr713] at st713
    rw [N713q, List.append_nil] at X713
    refine Go.via (fun _ kQ => st713.trans kQ) ?_
    clear st713
    have e713 : T713.heap = h0 := eh713
    clear X712 e712
    show Go p e below (T713.setTop (mkF m 19 #[vr th, vr a, vr o, vi (0 : Int32), vi (0 : Int32), .unset, .unset] [(.int (2 : Int32)), (.int (0 : Int32))])) _
    refine Go.via (fun _ => XS.icmpNo X713.here hx rfl (hb hby d7_19) rfl (tlt ((by decide) : (0 : Int32) < (2 : Int32))).2.1) ?_
    refine Go.via (fun _ => XS.aloadN X713.here hx rfl (hb hby d7_22) rfl rfl) ?_
    refine Go.via (fun _ => XS.iloadN X713.here hx rfl (hb hby d7_23) rfl) ?_
    obtain ⟨cq714, kq714, q714a, q714b, q714c⟩ := isOf hZ e713 P0
    obtain ⟨r714, _, ⟨T714, L714, k714, n714⟩, -, X714, ⟨Lc714, hQ714, l714, y714, z714⟩, st714⟩ := X713.virtualBack hx (y := (⟨cST, "codePointAt", "(I)I"⟩ : MethodName)) (z := (⟨cST, "codePointAt", "(I)I"⟩ : MethodName)) hown (mvT hZ (tw hw 97 rfl)) (mvT hZ (tw hw 98 rfl)) (notFace_of_selects (args := #[]) (mvT hZ (tw hw 100 rfl))) (mvT hZ (tw hw 100 rfl)) (mvT hZ (tw hw 99 rfl)) (by decide) (backOf (W := 0) (rmSc_20 l Z a0 hw [] a (0 : Int32) cs fv b_1 co1 ys1 y0 y1 h0 n0 Z0 P0 P1 P2 P3 P8 zCS zF zAD zHI zLO hcs hfv rfl hR1) hZ (tw hw 101 rfl) (tw hw 14 rfl) (by decide) (by decide)) q714a q714c (g := (mkF m 24 #[vr th, vr a, vr o, vi (0 : Int32), vi (0 : Int32), .unset, .unset] [(.int (0 : Int32)), (.ref a)])) rfl (by rw [hml]; rfl) (Steps.refl _) (argsL := [(.int (0 : Int32))]) (rest := []) (lenOf pd__28I_29I rfl) rfl (by show 2 * 0 + _ ≤ _; exact Nat.le_of_eq rfl) (hb hby d7_24) (fun _ _ => ⟨rfl, e713, (by decide : 0 + 0 ≤ _), (by decide : 0 + 0 ≤ _)⟩)
    dsimp only [Pt.U, Pt.locs, Pt.cells, Pt.slots] at X714 l714 y714 z714 st714 hQ714
    rw [l714, y714, z714] at X714
    obtain ⟨hr714, N714q, eh714⟩ := hQ714
    rw [hr714] at st714
    rw [N714q, List.append_nil] at X714
    refine Go.via (fun _ kQ => st714.trans kQ) ?_
    clear st714
    have e714 : T714.heap = h0 := eh714
    clear X713 e713
    show Go p e below (T714.setTop (mkF m 27 #[vr th, vr a, vr o, vi (0 : Int32), vi (0 : Int32), .unset, .unset] [(.int (cp2 y0 y1))])) _
    rcases own_cp2 y0 y1 with ⟨hp_y, hq_y⟩ | ⟨hp_y, hq_y, hr_y⟩
    · rw [hp_y]
      show Go p e below (T714.setTop (mkF m 27 #[vr th, vr a, vr o, vi (0 : Int32), vi (0 : Int32), .unset, .unset] [(.int y0)])) _
      refine Go.via (fun _ => XS.istore X714.here hx rfl (hb hby d7_27) rfl (l' := #[vr th, vr a, vr o, vi (0 : Int32), vi (0 : Int32), vi y0, .unset]) rfl) ?_
      refine Go.via (fun _ => XS.aloadN X714.here hx rfl (hb hby d7_29) rfl rfl) ?_
      refine Go.via (fun _ => XS.iload X714.here hx rfl (hb hby d7_30) rfl) ?_
      obtain ⟨cq715, kq715, q715a, q715b, q715c⟩ := isOf hZ e714 P4
      obtain ⟨r715, _, ⟨T715, L715, k715, n715⟩, -, X715, ⟨Lc715, hQ715, l715, y715, z715⟩, st715⟩ := X714.virtualBack hx (y := (⟨cST, "codePointAt", "(I)I"⟩ : MethodName)) (z := (⟨cST, "codePointAt", "(I)I"⟩ : MethodName)) hown (mvT hZ (tw hw 97 rfl)) (mvT hZ (tw hw 98 rfl)) (notFace_of_selects (args := #[]) (mvT hZ (tw hw 100 rfl))) (mvT hZ (tw hw 100 rfl)) (mvT hZ (tw hw 99 rfl)) (by decide) (backOf (W := 0) (rmSc_20 l Z a0 hw [] o (0 : Int32) cs fv b_2 co2 ys2 z0 z1 h0 n0 Z0 P4 P5 P6 P7 P8 zCS zF zAD zHI zLO hcs hfv rfl hR2) hZ (tw hw 101 rfl) (tw hw 14 rfl) (by decide) (by decide)) q715a q715c (g := (mkF m 32 #[vr th, vr a, vr o, vi (0 : Int32), vi (0 : Int32), vi y0, .unset] [(.int (0 : Int32)), (.ref o)])) rfl (by rw [hml]; rfl) (Steps.refl _) (argsL := [(.int (0 : Int32))]) (rest := []) (lenOf pd__28I_29I rfl) rfl (by show 2 * 0 + _ ≤ _; exact Nat.le_of_eq rfl) (hb hby d7_32) (fun _ _ => ⟨rfl, e714, (by decide : 0 + 0 ≤ _), (by decide : 0 + 0 ≤ _)⟩)
      dsimp only [Pt.U, Pt.locs, Pt.cells, Pt.slots] at X715 l715 y715 z715 st715 hQ715
      rw [l715, y715, z715] at X715
      obtain ⟨hr715, N715q, eh715⟩ := hQ715
      rw [hr715] at st715
      rw [N715q, List.append_nil] at X715
      refine Go.via (fun _ kQ => st715.trans kQ) ?_
      clear st715
      have e715 : T715.heap = h0 := eh715
      clear X714 e714
      show Go p e below (T715.setTop (mkF m 35 #[vr th, vr a, vr o, vi (0 : Int32), vi (0 : Int32), vi y0, .unset] [(.int (cp2 z0 z1))])) _
      rcases own_cp2 z0 z1 with ⟨hp_z, hq_z⟩ | ⟨hp_z, hq_z, hr_z⟩
      · rw [hp_z]
        show Go p e below (T715.setTop (mkF m 35 #[vr th, vr a, vr o, vi (0 : Int32), vi (0 : Int32), vi y0, .unset] [(.int z0)])) _
        refine Go.via (fun _ => XS.istore X715.here hx rfl (hb hby d7_35) rfl (l' := #[vr th, vr a, vr o, vi (0 : Int32), vi (0 : Int32), vi y0, vi z0]) rfl) ?_
        refine Go.via (fun _ => XS.iload X715.here hx rfl (hb hby d7_37) rfl) ?_
        refine Go.via (fun _ => XS.iload X715.here hx rfl (hb hby d7_39) rfl) ?_
        by_cases hc716 : y0 = z0
        · refine Go.via (fun _ => XS.icmpYes X715.here hx rfl (pc0 := 41) (pc' := 52) rfl (hb hby d7_41) rfl (teq (hc716 : y0 = z0)).1 (by decide) (by decide)) ?_
          refine Go.via (fun _ => XS.iloadN X715.here hx rfl (hb hby d7_52) rfl) ?_
          refine Go.via (fun _ => XS.iload X715.here hx rfl (hb hby d7_53) rfl) ?_
          obtain ⟨r717, _, ⟨T717, L717, k717, n717⟩, -, X717, ⟨Lc717, hQ717, l717, y717, z717⟩, st717⟩ := Jvm.LawKit.callS X715 hx (y := (⟨"java/lang/Character", "charCount", "(I)I"⟩ : MethodName)) hown (mvT hZ (tw hw 126 rfl)) (mvT hZ (tw hw 127 rfl)) (mvT hZ (tw hw 123 rfl)) (mvT hZ (tw hw 128 rfl)) (by decide) (backOf (W := 1) (rmCc l Z a0 hw [] y0  h0 n0 Z0) hZ (tw hw 128 rfl) (tw hw 123 rfl) (by decide) (by decide)) (g := (mkF m 55 #[vr th, vr a, vr o, vi (0 : Int32), vi (0 : Int32), vi y0, vi z0] [(.int y0), (.int (0 : Int32))])) rfl (by rw [hml]; rfl) (argsL := [(.int y0)]) (rest := [(.int (0 : Int32))]) (lenOf pd__28I_29I rfl) rfl (by show 2 * 0 + _ ≤ _; exact Nat.le_of_eq rfl) (hb hby d7_55) (fun _ _ => ⟨rfl, e715, (by decide : 0 + 0 ≤ _), (by decide : 0 + 0 ≤ _)⟩)
          dsimp only [Pt.U, Pt.locs, Pt.cells, Pt.slots] at X717 l717 y717 z717 st717 hQ717
          rw [l717, y717, z717] at X717
          obtain ⟨hr717, N717q, eh717⟩ := hQ717
          rw [hr717] at st717
          rw [N717q, List.append_nil] at X717
          refine Go.via (st717) ?_
          clear st717
          have e717 : T717.heap = h0 := eh717
          clear X715 e715
          show Go p e below (T717.setTop (mkF m 58 #[vr th, vr a, vr o, vi (0 : Int32), vi (0 : Int32), vi y0, vi z0] [(.int (ccF y0)), (.int (0 : Int32))])) _
          rw [own_cc1 hy0]
          show Go p e below (T717.setTop (mkF m 58 #[vr th, vr a, vr o, vi (0 : Int32), vi (0 : Int32), vi y0, vi z0] [(.int (1 : Int32)), (.int (0 : Int32))])) _
          refine Go.via (fun _ => XS.iadd X717.here hx rfl (hb hby d7_58) rfl) ?_
          refine Go.via (fun _ => XS.istoreN X717.here hx rfl (hb hby d7_59) rfl (l' := #[vr th, vr a, vr o, vi (1 : Int32), vi (0 : Int32), vi y0, vi z0]) rfl) ?_
          refine Go.via (fun _ => XS.iload X717.here hx rfl (hb hby d7_60) rfl) ?_
          refine Go.via (fun _ => XS.iload X717.here hx rfl (hb hby d7_62) rfl) ?_
          obtain ⟨r718, _, ⟨T718, L718, k718, n718⟩, -, X718, ⟨Lc718, hQ718, l718, y718, z718⟩, st718⟩ := Jvm.LawKit.callS X717 hx (y := (⟨"java/lang/Character", "charCount", "(I)I"⟩ : MethodName)) hown (mvT hZ (tw hw 126 rfl)) (mvT hZ (tw hw 127 rfl)) (mvT hZ (tw hw 123 rfl)) (mvT hZ (tw hw 128 rfl)) (by decide) (backOf (W := 1) (rmCc l Z a0 hw [] z0  h0 n0 Z0) hZ (tw hw 128 rfl) (tw hw 123 rfl) (by decide) (by decide)) (g := (mkF m 64 #[vr th, vr a, vr o, vi (1 : Int32), vi (0 : Int32), vi y0, vi z0] [(.int z0), (.int (0 : Int32))])) rfl (by rw [hml]; rfl) (argsL := [(.int z0)]) (rest := [(.int (0 : Int32))]) (lenOf pd__28I_29I rfl) rfl (by show 2 * 0 + _ ≤ _; exact Nat.le_of_eq rfl) (hb hby d7_64) (fun _ _ => ⟨rfl, e717, (by decide : 0 + 0 ≤ _), (by decide : 0 + 0 ≤ _)⟩)
          dsimp only [Pt.U, Pt.locs, Pt.cells, Pt.slots] at X718 l718 y718 z718 st718 hQ718
          rw [l718, y718, z718] at X718
          obtain ⟨hr718, N718q, eh718⟩ := hQ718
          rw [hr718] at st718
          rw [N718q, List.append_nil] at X718
          refine Go.via (st718) ?_
          clear st718
          have e718 : T718.heap = h0 := eh718
          clear X717 e717
          show Go p e below (T718.setTop (mkF m 67 #[vr th, vr a, vr o, vi (1 : Int32), vi (0 : Int32), vi y0, vi z0] [(.int (ccF z0)), (.int (0 : Int32))])) _
          rw [own_cc1 hz0]
          show Go p e below (T718.setTop (mkF m 67 #[vr th, vr a, vr o, vi (1 : Int32), vi (0 : Int32), vi y0, vi z0] [(.int (1 : Int32)), (.int (0 : Int32))])) _
          refine Go.via (fun _ => XS.iadd X718.here hx rfl (hb hby d7_67) rfl) ?_
          refine Go.via (fun _ => XS.istore X718.here hx rfl (hb hby d7_68) rfl (l' := #[vr th, vr a, vr o, vi (1 : Int32), vi (1 : Int32), vi y0, vi z0]) rfl) ?_
          refine Go.via (fun _ => XS.goto X718.here hx rfl (pc0 := 70) (pc' := 5) rfl (hb hby d7_70) (by decide) (by decide)) ?_
          refine Go.via (fun _ => XS.iloadN X718.here hx rfl (hb hby d7_5) rfl) ?_
          refine Go.via (fun _ => XS.aloadN X718.here hx rfl (hb hby d7_6) rfl rfl) ?_
          obtain ⟨cq719, kq719, q719a, q719b, q719c⟩ := isOf hZ e718 P0
          obtain ⟨r719, _, ⟨T719, L719, k719, n719⟩, -, X719, ⟨Lc719, hQ719, l719, y719, z719⟩, st719⟩ := X718.virtualBack hx (y := (⟨cST, "length", "()I"⟩ : MethodName)) (z := (⟨cST, "length", "()I"⟩ : MethodName)) hown (mvT hZ (tw hw 46 rfl)) (mvT hZ (tw hw 47 rfl)) (notFace_of_selects (args := #[]) (mvT hZ (tw hw 49 rfl))) (mvT hZ (tw hw 49 rfl)) (mvT hZ (tw hw 48 rfl)) (by decide) (backOf (W := 1) (rmLn l Z a0 hw [] a cs b_1 co1 ys1 [y0, y1] h0 n0 Z0 P0 P1 P2 P3 P8 zCS hcs hR1) hZ (tw hw 50 rfl) (tw hw 14 rfl) (by decide) (by decide)) q719a q719c (g := (mkF m 7 #[vr th, vr a, vr o, vi (1 : Int32), vi (1 : Int32), vi y0, vi z0] [(.ref a), (.int (1 : Int32))])) rfl (by rw [hml]; rfl) (Steps.refl _) (argsL := []) (rest := [(.int (1 : Int32))]) (lenOf pd__28_29I rfl) rfl (by show 2 * 0 + _ ≤ _; exact Nat.le_of_eq rfl) (hb hby d7_7) (fun _ _ => ⟨rfl, e718, (by decide : 0 + 0 ≤ _), (by decide : 0 + 0 ≤ _)⟩)
          dsimp only [Pt.U, Pt.locs, Pt.cells, Pt.slots] at X719 l719 y719 z719 st719 hQ719
          rw [l719, y719, z719] at X719
          obtain ⟨hr719, N719q, eh719⟩ := hQ719
          rw [hr719] at st719
          rw [N719q, List.append_nil] at X719
          refine Go.via (fun _ kQ => st719.trans kQ) ?_
          clear st719
          have e719 : T719.heap = h0 := eh719
          clear X718 e718
          show Go p e below (T719.setTop (mkF m 10 #[vr th, vr a, vr o, vi (1 : Int32), vi (1 : Int32), vi y0, vi z0] [(.int (2 : Int32)), (.int (1 : Int32))])) _
          refine Go.via (fun _ => XS.icmpNo X719.here hx rfl (hb hby d7_10) rfl (tlt ((by decide) : (1 : Int32) < (2 : Int32))).2.1) ?_
          refine Go.via (fun _ => XS.iload X719.here hx rfl (hb hby d7_13) rfl) ?_
          refine Go.via (fun _ => XS.aloadN X719.here hx rfl (hb hby d7_15) rfl rfl) ?_
          obtain ⟨cq720, kq720, q720a, q720b, q720c⟩ := isOf hZ e719 P4
          obtain ⟨r720, _, ⟨T720, L720, k720, n720⟩, -, X720, ⟨Lc720, hQ720, l720, y720, z720⟩, st720⟩ := X719.virtualBack hx (y := (⟨cST, "length", "()I"⟩ : MethodName)) (z := (⟨cST, "length", "()I"⟩ : MethodName)) hown (mvT hZ (tw hw 46 rfl)) (mvT hZ (tw hw 47 rfl)) (notFace_of_selects (args := #[]) (mvT hZ (tw hw 49 rfl))) (mvT hZ (tw hw 49 rfl)) (mvT hZ (tw hw 48 rfl)) (by decide) (backOf (W := 1) (rmLn l Z a0 hw [] o cs b_2 co2 ys2 [z0, z1] h0 n0 Z0 P4 P5 P6 P7 P8 zCS hcs hR2) hZ (tw hw 50 rfl) (tw hw 14 rfl) (by decide) (by decide)) q720a q720c (g := (mkF m 16 #[vr th, vr a, vr o, vi (1 : Int32), vi (1 : Int32), vi y0, vi z0] [(.ref o), (.int (1 : Int32))])) rfl (by rw [hml]; rfl) (Steps.refl _) (argsL := []) (rest := [(.int (1 : Int32))]) (lenOf pd__28_29I rfl) rfl (by show 2 * 0 + _ ≤ _; exact Nat.le_of_eq rfl) (hb hby d7_16) (fun _ _ => ⟨rfl, e719, (by decide : 0 + 0 ≤ _), (by decide : 0 + 0 ≤ _)⟩)
          dsimp only [Pt.U, Pt.locs, Pt.cells, Pt.slots] at X720 l720 y720 z720 st720 hQ720
          rw [l720, y720, z720] at X720
          obtain ⟨hr720, N720q, eh720⟩ := hQ720
          rw [hr720] at st720
          rw [N720q, List.append_nil] at X720
          refine Go.via (fun _ kQ => st720.trans kQ) ?_
          clear st720
          have e720 : T720.heap = h0 := eh720
          clear X719 e719
          show Go p e below (T720.setTop (mkF m 19 #[vr th, vr a, vr o, vi (1 : Int32), vi (1 : Int32), vi y0, vi z0] [(.int (2 : Int32)), (.int (1 : Int32))])) _
          refine Go.via (fun _ => XS.icmpNo X720.here hx rfl (hb hby d7_19) rfl (tlt ((by decide) : (1 : Int32) < (2 : Int32))).2.1) ?_
          refine Go.via (fun _ => XS.aloadN X720.here hx rfl (hb hby d7_22) rfl rfl) ?_
          refine Go.via (fun _ => XS.iloadN X720.here hx rfl (hb hby d7_23) rfl) ?_
          obtain ⟨cq721, kq721, q721a, q721b, q721c⟩ := isOf hZ e720 P0
          obtain ⟨r721, _, ⟨T721, L721, k721, n721⟩, -, X721, ⟨Lc721, hQ721, l721, y721, z721⟩, st721⟩ := X720.virtualBack hx (y := (⟨cST, "codePointAt", "(I)I"⟩ : MethodName)) (z := (⟨cST, "codePointAt", "(I)I"⟩ : MethodName)) hown (mvT hZ (tw hw 97 rfl)) (mvT hZ (tw hw 98 rfl)) (notFace_of_selects (args := #[]) (mvT hZ (tw hw 100 rfl))) (mvT hZ (tw hw 100 rfl)) (mvT hZ (tw hw 99 rfl)) (by decide) (backOf (W := 0) (rmSc_21 l Z a0 hw [] a (1 : Int32) cs fv b_1 co1 ys1 y0 y1 h0 n0 Z0 P0 P1 P2 P3 P8 zCS zF zAD zHI zLO hcs hfv rfl hR1) hZ (tw hw 101 rfl) (tw hw 14 rfl) (by decide) (by decide)) q721a q721c (g := (mkF m 24 #[vr th, vr a, vr o, vi (1 : Int32), vi (1 : Int32), vi y0, vi z0] [(.int (1 : Int32)), (.ref a)])) rfl (by rw [hml]; rfl) (Steps.refl _) (argsL := [(.int (1 : Int32))]) (rest := []) (lenOf pd__28I_29I rfl) rfl (by show 2 * 0 + _ ≤ _; exact Nat.le_of_eq rfl) (hb hby d7_24) (fun _ _ => ⟨rfl, e720, (by decide : 0 + 0 ≤ _), (by decide : 0 + 0 ≤ _)⟩)
          dsimp only [Pt.U, Pt.locs, Pt.cells, Pt.slots] at X721 l721 y721 z721 st721 hQ721
          rw [l721, y721, z721] at X721
          obtain ⟨hr721, N721q, eh721⟩ := hQ721
          rw [hr721] at st721
          rw [N721q, List.append_nil] at X721
          refine Go.via (fun _ kQ => st721.trans kQ) ?_
          clear st721
          have e721 : T721.heap = h0 := eh721
          clear X720 e720
          show Go p e below (T721.setTop (mkF m 27 #[vr th, vr a, vr o, vi (1 : Int32), vi (1 : Int32), vi y0, vi z0] [(.int y1)])) _
          refine Go.via (fun _ => XS.istore X721.here hx rfl (hb hby d7_27) rfl (l' := #[vr th, vr a, vr o, vi (1 : Int32), vi (1 : Int32), vi y1, vi z0]) rfl) ?_
          refine Go.via (fun _ => XS.aloadN X721.here hx rfl (hb hby d7_29) rfl rfl) ?_
          refine Go.via (fun _ => XS.iload X721.here hx rfl (hb hby d7_30) rfl) ?_
          obtain ⟨cq722, kq722, q722a, q722b, q722c⟩ := isOf hZ e721 P4
          obtain ⟨r722, _, ⟨T722, L722, k722, n722⟩, -, X722, ⟨Lc722, hQ722, l722, y722, z722⟩, st722⟩ := X721.virtualBack hx (y := (⟨cST, "codePointAt", "(I)I"⟩ : MethodName)) (z := (⟨cST, "codePointAt", "(I)I"⟩ : MethodName)) hown (mvT hZ (tw hw 97 rfl)) (mvT hZ (tw hw 98 rfl)) (notFace_of_selects (args := #[]) (mvT hZ (tw hw 100 rfl))) (mvT hZ (tw hw 100 rfl)) (mvT hZ (tw hw 99 rfl)) (by decide) (backOf (W := 0) (rmSc_21 l Z a0 hw [] o (1 : Int32) cs fv b_2 co2 ys2 z0 z1 h0 n0 Z0 P4 P5 P6 P7 P8 zCS zF zAD zHI zLO hcs hfv rfl hR2) hZ (tw hw 101 rfl) (tw hw 14 rfl) (by decide) (by decide)) q722a q722c (g := (mkF m 32 #[vr th, vr a, vr o, vi (1 : Int32), vi (1 : Int32), vi y1, vi z0] [(.int (1 : Int32)), (.ref o)])) rfl (by rw [hml]; rfl) (Steps.refl _) (argsL := [(.int (1 : Int32))]) (rest := []) (lenOf pd__28I_29I rfl) rfl (by show 2 * 0 + _ ≤ _; exact Nat.le_of_eq rfl) (hb hby d7_32) (fun _ _ => ⟨rfl, e721, (by decide : 0 + 0 ≤ _), (by decide : 0 + 0 ≤ _)⟩)
          dsimp only [Pt.U, Pt.locs, Pt.cells, Pt.slots] at X722 l722 y722 z722 st722 hQ722
          rw [l722, y722, z722] at X722
          obtain ⟨hr722, N722q, eh722⟩ := hQ722
          rw [hr722] at st722
          rw [N722q, List.append_nil] at X722
          refine Go.via (fun _ kQ => st722.trans kQ) ?_
          clear st722
          have e722 : T722.heap = h0 := eh722
          clear X721 e721
          show Go p e below (T722.setTop (mkF m 35 #[vr th, vr a, vr o, vi (1 : Int32), vi (1 : Int32), vi y1, vi z0] [(.int z1)])) _
          refine Go.via (fun _ => XS.istore X722.here hx rfl (hb hby d7_35) rfl (l' := #[vr th, vr a, vr o, vi (1 : Int32), vi (1 : Int32), vi y1, vi z1]) rfl) ?_
          refine Go.via (fun _ => XS.iload X722.here hx rfl (hb hby d7_37) rfl) ?_
          refine Go.via (fun _ => XS.iload X722.here hx rfl (hb hby d7_39) rfl) ?_
          by_cases hc723 : y1 = z1
          · refine Go.via (fun _ => XS.icmpYes X722.here hx rfl (pc0 := 41) (pc' := 52) rfl (hb hby d7_41) rfl (teq (hc723 : y1 = z1)).1 (by decide) (by decide)) ?_
            refine Go.via (fun _ => XS.iloadN X722.here hx rfl (hb hby d7_52) rfl) ?_
            refine Go.via (fun _ => XS.iload X722.here hx rfl (hb hby d7_53) rfl) ?_
            obtain ⟨r724, _, ⟨T724, L724, k724, n724⟩, -, X724, ⟨Lc724, hQ724, l724, y724, z724⟩, st724⟩ := Jvm.LawKit.callS X722 hx (y := (⟨"java/lang/Character", "charCount", "(I)I"⟩ : MethodName)) hown (mvT hZ (tw hw 126 rfl)) (mvT hZ (tw hw 127 rfl)) (mvT hZ (tw hw 123 rfl)) (mvT hZ (tw hw 128 rfl)) (by decide) (backOf (W := 1) (rmCc l Z a0 hw [] y1  h0 n0 Z0) hZ (tw hw 128 rfl) (tw hw 123 rfl) (by decide) (by decide)) (g := (mkF m 55 #[vr th, vr a, vr o, vi (1 : Int32), vi (1 : Int32), vi y1, vi z1] [(.int y1), (.int (1 : Int32))])) rfl (by rw [hml]; rfl) (argsL := [(.int y1)]) (rest := [(.int (1 : Int32))]) (lenOf pd__28I_29I rfl) rfl (by show 2 * 0 + _ ≤ _; exact Nat.le_of_eq rfl) (hb hby d7_55) (fun _ _ => ⟨rfl, e722, (by decide : 0 + 0 ≤ _), (by decide : 0 + 0 ≤ _)⟩)
            dsimp only [Pt.U, Pt.locs, Pt.cells, Pt.slots] at X724 l724 y724 z724 st724 hQ724
            rw [l724, y724, z724] at X724
            obtain ⟨hr724, N724q, eh724⟩ := hQ724
            rw [hr724] at st724
            rw [N724q, List.append_nil] at X724
            refine Go.via (st724) ?_
            clear st724
            have e724 : T724.heap = h0 := eh724
            clear X722 e722
            show Go p e below (T724.setTop (mkF m 58 #[vr th, vr a, vr o, vi (1 : Int32), vi (1 : Int32), vi y1, vi z1] [(.int (ccF y1)), (.int (1 : Int32))])) _
            rw [own_cc1 hy1]
            show Go p e below (T724.setTop (mkF m 58 #[vr th, vr a, vr o, vi (1 : Int32), vi (1 : Int32), vi y1, vi z1] [(.int (1 : Int32)), (.int (1 : Int32))])) _
            refine Go.via (fun _ => XS.iadd X724.here hx rfl (hb hby d7_58) rfl) ?_
            refine Go.via (fun _ => XS.istoreN X724.here hx rfl (hb hby d7_59) rfl (l' := #[vr th, vr a, vr o, vi (2 : Int32), vi (1 : Int32), vi y1, vi z1]) rfl) ?_
            refine Go.via (fun _ => XS.iload X724.here hx rfl (hb hby d7_60) rfl) ?_
            refine Go.via (fun _ => XS.iload X724.here hx rfl (hb hby d7_62) rfl) ?_
            obtain ⟨r725, _, ⟨T725, L725, k725, n725⟩, -, X725, ⟨Lc725, hQ725, l725, y725, z725⟩, st725⟩ := Jvm.LawKit.callS X724 hx (y := (⟨"java/lang/Character", "charCount", "(I)I"⟩ : MethodName)) hown (mvT hZ (tw hw 126 rfl)) (mvT hZ (tw hw 127 rfl)) (mvT hZ (tw hw 123 rfl)) (mvT hZ (tw hw 128 rfl)) (by decide) (backOf (W := 1) (rmCc l Z a0 hw [] z1  h0 n0 Z0) hZ (tw hw 128 rfl) (tw hw 123 rfl) (by decide) (by decide)) (g := (mkF m 64 #[vr th, vr a, vr o, vi (2 : Int32), vi (1 : Int32), vi y1, vi z1] [(.int z1), (.int (1 : Int32))])) rfl (by rw [hml]; rfl) (argsL := [(.int z1)]) (rest := [(.int (1 : Int32))]) (lenOf pd__28I_29I rfl) rfl (by show 2 * 0 + _ ≤ _; exact Nat.le_of_eq rfl) (hb hby d7_64) (fun _ _ => ⟨rfl, e724, (by decide : 0 + 0 ≤ _), (by decide : 0 + 0 ≤ _)⟩)
            dsimp only [Pt.U, Pt.locs, Pt.cells, Pt.slots] at X725 l725 y725 z725 st725 hQ725
            rw [l725, y725, z725] at X725
            obtain ⟨hr725, N725q, eh725⟩ := hQ725
            rw [hr725] at st725
            rw [N725q, List.append_nil] at X725
            refine Go.via (st725) ?_
            clear st725
            have e725 : T725.heap = h0 := eh725
            clear X724 e724
            show Go p e below (T725.setTop (mkF m 67 #[vr th, vr a, vr o, vi (2 : Int32), vi (1 : Int32), vi y1, vi z1] [(.int (ccF z1)), (.int (1 : Int32))])) _
            rw [own_cc1 hz1]
            show Go p e below (T725.setTop (mkF m 67 #[vr th, vr a, vr o, vi (2 : Int32), vi (1 : Int32), vi y1, vi z1] [(.int (1 : Int32)), (.int (1 : Int32))])) _
            refine Go.via (fun _ => XS.iadd X725.here hx rfl (hb hby d7_67) rfl) ?_
            refine Go.via (fun _ => XS.istore X725.here hx rfl (hb hby d7_68) rfl (l' := #[vr th, vr a, vr o, vi (2 : Int32), vi (2 : Int32), vi y1, vi z1]) rfl) ?_
            refine Go.via (fun _ => XS.goto X725.here hx rfl (pc0 := 70) (pc' := 5) rfl (hb hby d7_70) (by decide) (by decide)) ?_
            refine Go.via (fun _ => XS.iloadN X725.here hx rfl (hb hby d7_5) rfl) ?_
            refine Go.via (fun _ => XS.aloadN X725.here hx rfl (hb hby d7_6) rfl rfl) ?_
            obtain ⟨cq726, kq726, q726a, q726b, q726c⟩ := isOf hZ e725 P0
            obtain ⟨r726, _, ⟨T726, L726, k726, n726⟩, -, X726, ⟨Lc726, hQ726, l726, y726, z726⟩, st726⟩ := X725.virtualBack hx (y := (⟨cST, "length", "()I"⟩ : MethodName)) (z := (⟨cST, "length", "()I"⟩ : MethodName)) hown (mvT hZ (tw hw 46 rfl)) (mvT hZ (tw hw 47 rfl)) (notFace_of_selects (args := #[]) (mvT hZ (tw hw 49 rfl))) (mvT hZ (tw hw 49 rfl)) (mvT hZ (tw hw 48 rfl)) (by decide) (backOf (W := 1) (rmLn l Z a0 hw [] a cs b_1 co1 ys1 [y0, y1] h0 n0 Z0 P0 P1 P2 P3 P8 zCS hcs hR1) hZ (tw hw 50 rfl) (tw hw 14 rfl) (by decide) (by decide)) q726a q726c (g := (mkF m 7 #[vr th, vr a, vr o, vi (2 : Int32), vi (2 : Int32), vi y1, vi z1] [(.ref a), (.int (2 : Int32))])) rfl (by rw [hml]; rfl) (Steps.refl _) (argsL := []) (rest := [(.int (2 : Int32))]) (lenOf pd__28_29I rfl) rfl (by show 2 * 0 + _ ≤ _; exact Nat.le_of_eq rfl) (hb hby d7_7) (fun _ _ => ⟨rfl, e725, (by decide : 0 + 0 ≤ _), (by decide : 0 + 0 ≤ _)⟩)
            dsimp only [Pt.U, Pt.locs, Pt.cells, Pt.slots] at X726 l726 y726 z726 st726 hQ726
            rw [l726, y726, z726] at X726
            obtain ⟨hr726, N726q, eh726⟩ := hQ726
            rw [hr726] at st726
            rw [N726q, List.append_nil] at X726
            refine Go.via (fun _ kQ => st726.trans kQ) ?_
            clear st726
            have e726 : T726.heap = h0 := eh726
            clear X725 e725
            show Go p e below (T726.setTop (mkF m 10 #[vr th, vr a, vr o, vi (2 : Int32), vi (2 : Int32), vi y1, vi z1] [(.int (2 : Int32)), (.int (2 : Int32))])) _
            refine Go.via (fun _ => XS.icmpYes X726.here hx rfl (pc0 := 10) (pc' := 73) rfl (hb hby d7_10) rfl (flt ((by decide) : ¬ ((2 : Int32) < (2 : Int32)))).2.1 (by decide) (by decide)) ?_
            refine Go.via (fun _ => XS.aloadN X726.here hx rfl (hb hby d7_73) rfl rfl) ?_
            obtain ⟨cq727, kq727, q727a, q727b, q727c⟩ := isOf hZ e726 P0
            obtain ⟨r727, _, ⟨T727, L727, k727, n727⟩, -, X727, ⟨Lc727, hQ727, l727, y727, z727⟩, st727⟩ := X726.virtualBack hx (y := (⟨cST, "length", "()I"⟩ : MethodName)) (z := (⟨cST, "length", "()I"⟩ : MethodName)) hown (mvT hZ (tw hw 46 rfl)) (mvT hZ (tw hw 47 rfl)) (notFace_of_selects (args := #[]) (mvT hZ (tw hw 49 rfl))) (mvT hZ (tw hw 49 rfl)) (mvT hZ (tw hw 48 rfl)) (by decide) (backOf (W := 0) (rmLn l Z a0 hw [] a cs b_1 co1 ys1 [y0, y1] h0 n0 Z0 P0 P1 P2 P3 P8 zCS hcs hR1) hZ (tw hw 50 rfl) (tw hw 14 rfl) (by decide) (by decide)) q727a q727c (g := (mkF m 74 #[vr th, vr a, vr o, vi (2 : Int32), vi (2 : Int32), vi y1, vi z1] [(.ref a)])) rfl (by rw [hml]; rfl) (Steps.refl _) (argsL := []) (rest := []) (lenOf pd__28_29I rfl) rfl (by show 2 * 0 + _ ≤ _; exact Nat.le_of_eq rfl) (hb hby d7_74) (fun _ _ => ⟨rfl, e726, (by decide : 0 + 0 ≤ _), (by decide : 0 + 0 ≤ _)⟩)
            dsimp only [Pt.U, Pt.locs, Pt.cells, Pt.slots] at X727 l727 y727 z727 st727 hQ727
            rw [l727, y727, z727] at X727
            obtain ⟨hr727, N727q, eh727⟩ := hQ727
            rw [hr727] at st727
            rw [N727q, List.append_nil] at X727
            refine Go.via (fun _ kQ => st727.trans kQ) ?_
            clear st727
            have e727 : T727.heap = h0 := eh727
            clear X726 e726
            show Go p e below (T727.setTop (mkF m 77 #[vr th, vr a, vr o, vi (2 : Int32), vi (2 : Int32), vi y1, vi z1] [(.int (2 : Int32))])) _
            refine Go.via (fun _ => XS.iloadN X727.here hx rfl (hb hby d7_77) rfl) ?_
            refine Go.via (fun _ => XS.isub X727.here hx rfl (hb hby d7_78) rfl) ?_
            refine Go.via (fun _ => XS.aloadN X727.here hx rfl (hb hby d7_79) rfl rfl) ?_
            obtain ⟨cq728, kq728, q728a, q728b, q728c⟩ := isOf hZ e727 P4
            obtain ⟨r728, _, ⟨T728, L728, k728, n728⟩, -, X728, ⟨Lc728, hQ728, l728, y728, z728⟩, st728⟩ := X727.virtualBack hx (y := (⟨cST, "length", "()I"⟩ : MethodName)) (z := (⟨cST, "length", "()I"⟩ : MethodName)) hown (mvT hZ (tw hw 46 rfl)) (mvT hZ (tw hw 47 rfl)) (notFace_of_selects (args := #[]) (mvT hZ (tw hw 49 rfl))) (mvT hZ (tw hw 49 rfl)) (mvT hZ (tw hw 48 rfl)) (by decide) (backOf (W := 1) (rmLn l Z a0 hw [] o cs b_2 co2 ys2 [z0, z1] h0 n0 Z0 P4 P5 P6 P7 P8 zCS hcs hR2) hZ (tw hw 50 rfl) (tw hw 14 rfl) (by decide) (by decide)) q728a q728c (g := (mkF m 80 #[vr th, vr a, vr o, vi (2 : Int32), vi (2 : Int32), vi y1, vi z1] [(.ref o), (.int (0 : Int32))])) rfl (by rw [hml]; rfl) (Steps.refl _) (argsL := []) (rest := [(.int (0 : Int32))]) (lenOf pd__28_29I rfl) rfl (by show 2 * 0 + _ ≤ _; exact Nat.le_of_eq rfl) (hb hby d7_80) (fun _ _ => ⟨rfl, e727, (by decide : 0 + 0 ≤ _), (by decide : 0 + 0 ≤ _)⟩)
            dsimp only [Pt.U, Pt.locs, Pt.cells, Pt.slots] at X728 l728 y728 z728 st728 hQ728
            rw [l728, y728, z728] at X728
            obtain ⟨hr728, N728q, eh728⟩ := hQ728
            rw [hr728] at st728
            rw [N728q, List.append_nil] at X728
            refine Go.via (fun _ kQ => st728.trans kQ) ?_
            clear st728
            have e728 : T728.heap = h0 := eh728
            clear X727 e727
            show Go p e below (T728.setTop (mkF m 83 #[vr th, vr a, vr o, vi (2 : Int32), vi (2 : Int32), vi y1, vi z1] [(.int (2 : Int32)), (.int (0 : Int32))])) _
            refine Go.via (fun _ => XS.iload X728.here hx rfl (hb hby d7_83) rfl) ?_
            refine Go.via (fun _ => XS.isub X728.here hx rfl (hb hby d7_85) rfl) ?_
            obtain ⟨r729, _, ⟨T729, L729, k729, n729⟩, -, X729, ⟨Lc729, hQ729, l729, y729, z729⟩, st729⟩ := Jvm.LawKit.callS X728 hx (y := (⟨"java/lang/Integer", "compare", "(II)I"⟩ : MethodName)) hown (mvT hZ (tw hw 57 rfl)) (mvT hZ (tw hw 58 rfl)) (mvT hZ (tw hw 59 rfl)) (mvT hZ (tw hw 60 rfl)) (by decide) (backOf (W := 0) (rmIc l Z a0 hw [] (0 : Int32) (0 : Int32)  h0 n0 Z0) hZ (tw hw 60 rfl) (tw hw 59 rfl) (by decide) (by decide)) (g := (mkF m 86 #[vr th, vr a, vr o, vi (2 : Int32), vi (2 : Int32), vi y1, vi z1] [(.int (0 : Int32)), (.int (0 : Int32))])) rfl (by rw [hml]; rfl) (argsL := [(.int (0 : Int32)), (.int (0 : Int32))]) (rest := []) (lenOf pd__28II_29I rfl) rfl (by show 2 * 0 + _ ≤ _; exact Nat.le_of_eq rfl) (hb hby d7_86) (fun _ _ => ⟨rfl, e728, (by decide : 0 + 0 ≤ _), (by decide : 0 + 0 ≤ _)⟩)
            dsimp only [Pt.U, Pt.locs, Pt.cells, Pt.slots] at X729 l729 y729 z729 st729 hQ729
            rw [l729, y729, z729] at X729
            obtain ⟨hr729, N729q, eh729⟩ := hQ729
            rw [hr729] at st729
            rw [N729q, List.append_nil] at X729
            refine Go.via (st729) ?_
            clear st729
            have e729 : T729.heap = h0 := eh729
            clear X728 e728
            show Go p e below (T729.setTop (mkF m 89 #[vr th, vr a, vr o, vi (2 : Int32), vi (2 : Int32), vi y1, vi z1] [(.int (icF (0 : Int32) (0 : Int32)))])) _
            exact Go.fin X729 hlk (v := some (.int (icF (0 : Int32) (0 : Int32)))) (fun h => by rw [Bd.returns] at h; cases h) (fun fs hr => OwnKit.retI X729 hx Bd.returns (hb hby d7_89) hr) (by rw [e729]; exact ⟨(congrArg (fun qq => some (Value.int qq)) (show (icF (0 : Int32) (0 : Int32)) = cmF [y0, y1] [z0, z1] by unfold cmF; rw [own_cpn hq_y, own_cpn hq_z, own_cmq hc716, own_cmq hc723]; first | done | rfl | decide)), rfl, rfl⟩) (by decide) (by decide)
          · refine Go.via (fun _ => XS.icmpNo X722.here hx rfl (hb hby d7_41) rfl (feq (hc723 : ¬ (y1 = z1))).1) ?_
            refine Go.via (fun _ => XS.iload X722.here hx rfl (hb hby d7_44) rfl) ?_
            refine Go.via (fun _ => XS.iload X722.here hx rfl (hb hby d7_46) rfl) ?_
            obtain ⟨r730, _, ⟨T730, L730, k730, n730⟩, -, X730, ⟨Lc730, hQ730, l730, y730, z730⟩, st730⟩ := Jvm.LawKit.callS X722 hx (y := (⟨"java/lang/Integer", "compare", "(II)I"⟩ : MethodName)) hown (mvT hZ (tw hw 57 rfl)) (mvT hZ (tw hw 58 rfl)) (mvT hZ (tw hw 59 rfl)) (mvT hZ (tw hw 60 rfl)) (by decide) (backOf (W := 0) (rmIc l Z a0 hw [] y1 z1  h0 n0 Z0) hZ (tw hw 60 rfl) (tw hw 59 rfl) (by decide) (by decide)) (g := (mkF m 48 #[vr th, vr a, vr o, vi (1 : Int32), vi (1 : Int32), vi y1, vi z1] [(.int z1), (.int y1)])) rfl (by rw [hml]; rfl) (argsL := [(.int y1), (.int z1)]) (rest := []) (lenOf pd__28II_29I rfl) rfl (by show 2 * 0 + _ ≤ _; exact Nat.le_of_eq rfl) (hb hby d7_48) (fun _ _ => ⟨rfl, e722, (by decide : 0 + 0 ≤ _), (by decide : 0 + 0 ≤ _)⟩)
            dsimp only [Pt.U, Pt.locs, Pt.cells, Pt.slots] at X730 l730 y730 z730 st730 hQ730
            rw [l730, y730, z730] at X730
            obtain ⟨hr730, N730q, eh730⟩ := hQ730
            rw [hr730] at st730
            rw [N730q, List.append_nil] at X730
            refine Go.via (st730) ?_
            clear st730
            have e730 : T730.heap = h0 := eh730
            clear X722 e722
            show Go p e below (T730.setTop (mkF m 51 #[vr th, vr a, vr o, vi (1 : Int32), vi (1 : Int32), vi y1, vi z1] [(.int (icF y1 z1))])) _
            exact Go.fin X730 hlk (v := some (.int (icF y1 z1))) (fun h => by rw [Bd.returns] at h; cases h) (fun fs hr => OwnKit.retI X730 hx Bd.returns (hb hby d7_51) hr) (by rw [e730]; exact ⟨(congrArg (fun qq => some (Value.int qq)) (show (icF y1 z1) = cmF [y0, y1] [z0, z1] by unfold cmF; rw [own_cpn hq_y, own_cpn hq_z, own_cmq hc716, own_cmn hc723])), rfl, rfl⟩) (by decide) (by decide)
        · refine Go.via (fun _ => XS.icmpNo X715.here hx rfl (hb hby d7_41) rfl (feq (hc716 : ¬ (y0 = z0))).1) ?_
          refine Go.via (fun _ => XS.iload X715.here hx rfl (hb hby d7_44) rfl) ?_
          refine Go.via (fun _ => XS.iload X715.here hx rfl (hb hby d7_46) rfl) ?_
          obtain ⟨r731, _, ⟨T731, L731, k731, n731⟩, -, X731, ⟨Lc731, hQ731, l731, y731, z731⟩, st731⟩ := Jvm.LawKit.callS X715 hx (y := (⟨"java/lang/Integer", "compare", "(II)I"⟩ : MethodName)) hown (mvT hZ (tw hw 57 rfl)) (mvT hZ (tw hw 58 rfl)) (mvT hZ (tw hw 59 rfl)) (mvT hZ (tw hw 60 rfl)) (by decide) (backOf (W := 0) (rmIc l Z a0 hw [] y0 z0  h0 n0 Z0) hZ (tw hw 60 rfl) (tw hw 59 rfl) (by decide) (by decide)) (g := (mkF m 48 #[vr th, vr a, vr o, vi (0 : Int32), vi (0 : Int32), vi y0, vi z0] [(.int z0), (.int y0)])) rfl (by rw [hml]; rfl) (argsL := [(.int y0), (.int z0)]) (rest := []) (lenOf pd__28II_29I rfl) rfl (by show 2 * 0 + _ ≤ _; exact Nat.le_of_eq rfl) (hb hby d7_48) (fun _ _ => ⟨rfl, e715, (by decide : 0 + 0 ≤ _), (by decide : 0 + 0 ≤ _)⟩)
          dsimp only [Pt.U, Pt.locs, Pt.cells, Pt.slots] at X731 l731 y731 z731 st731 hQ731
          rw [l731, y731, z731] at X731
          obtain ⟨hr731, N731q, eh731⟩ := hQ731
          rw [hr731] at st731
          rw [N731q, List.append_nil] at X731
          refine Go.via (st731) ?_
          clear st731
          have e731 : T731.heap = h0 := eh731
          clear X715 e715
          show Go p e below (T731.setTop (mkF m 51 #[vr th, vr a, vr o, vi (0 : Int32), vi (0 : Int32), vi y0, vi z0] [(.int (icF y0 z0))])) _
          exact Go.fin X731 hlk (v := some (.int (icF y0 z0))) (fun h => by rw [Bd.returns] at h; cases h) (fun fs hr => OwnKit.retI X731 hx Bd.returns (hb hby d7_51) hr) (by rw [e731]; exact ⟨(congrArg (fun qq => some (Value.int qq)) (show (icF y0 z0) = cmF [y0, y1] [z0, z1] by unfold cmF; rw [own_cpn hq_y, own_cpn hq_z, own_cmn hc716])), rfl, rfl⟩) (by decide) (by decide)
      · rw [hp_z]
        show Go p e below (T715.setTop (mkF m 35 #[vr th, vr a, vr o, vi (0 : Int32), vi (0 : Int32), vi y0, .unset] [(.int (tcF z0 z1))])) _
        refine Go.via (fun _ => XS.istore X715.here hx rfl (hb hby d7_35) rfl (l' := #[vr th, vr a, vr o, vi (0 : Int32), vi (0 : Int32), vi y0, vi (tcF z0 z1)]) rfl) ?_
        refine Go.via (fun _ => XS.iload X715.here hx rfl (hb hby d7_37) rfl) ?_
        refine Go.via (fun _ => XS.iload X715.here hx rfl (hb hby d7_39) rfl) ?_
        refine Go.via (fun _ => XS.icmpNo X715.here hx rfl (hb hby d7_41) rfl (feq ((Ne.symm (own_tne hq_z hr_z hy0)) : ¬ (y0 = (tcF z0 z1)))).1) ?_
        refine Go.via (fun _ => XS.iload X715.here hx rfl (hb hby d7_44) rfl) ?_
        refine Go.via (fun _ => XS.iload X715.here hx rfl (hb hby d7_46) rfl) ?_
        obtain ⟨r732, _, ⟨T732, L732, k732, n732⟩, -, X732, ⟨Lc732, hQ732, l732, y732, z732⟩, st732⟩ := Jvm.LawKit.callS X715 hx (y := (⟨"java/lang/Integer", "compare", "(II)I"⟩ : MethodName)) hown (mvT hZ (tw hw 57 rfl)) (mvT hZ (tw hw 58 rfl)) (mvT hZ (tw hw 59 rfl)) (mvT hZ (tw hw 60 rfl)) (by decide) (backOf (W := 0) (rmIc l Z a0 hw [] y0 (tcF z0 z1)  h0 n0 Z0) hZ (tw hw 60 rfl) (tw hw 59 rfl) (by decide) (by decide)) (g := (mkF m 48 #[vr th, vr a, vr o, vi (0 : Int32), vi (0 : Int32), vi y0, vi (tcF z0 z1)] [(.int (tcF z0 z1)), (.int y0)])) rfl (by rw [hml]; rfl) (argsL := [(.int y0), (.int (tcF z0 z1))]) (rest := []) (lenOf pd__28II_29I rfl) rfl (by show 2 * 0 + _ ≤ _; exact Nat.le_of_eq rfl) (hb hby d7_48) (fun _ _ => ⟨rfl, e715, (by decide : 0 + 0 ≤ _), (by decide : 0 + 0 ≤ _)⟩)
        dsimp only [Pt.U, Pt.locs, Pt.cells, Pt.slots] at X732 l732 y732 z732 st732 hQ732
        rw [l732, y732, z732] at X732
        obtain ⟨hr732, N732q, eh732⟩ := hQ732
        rw [hr732] at st732
        rw [N732q, List.append_nil] at X732
        refine Go.via (st732) ?_
        clear st732
        have e732 : T732.heap = h0 := eh732
        clear X715 e715
        show Go p e below (T732.setTop (mkF m 51 #[vr th, vr a, vr o, vi (0 : Int32), vi (0 : Int32), vi y0, vi (tcF z0 z1)] [(.int (icF y0 (tcF z0 z1)))])) _
        exact Go.fin X732 hlk (v := some (.int (icF y0 (tcF z0 z1)))) (fun h => by rw [Bd.returns] at h; cases h) (fun fs hr => OwnKit.retI X732 hx Bd.returns (hb hby d7_51) hr) (by rw [e732]; exact ⟨(congrArg (fun qq => some (Value.int qq)) (show (icF y0 (tcF z0 z1)) = cmF [y0, y1] [z0, z1] by unfold cmF; rw [own_cpn hq_y, own_cpp hq_z hr_z, own_cmn (Ne.symm (own_tne hq_z hr_z hy0))])), rfl, rfl⟩) (by decide) (by decide)
    · rw [hp_y]
      show Go p e below (T714.setTop (mkF m 27 #[vr th, vr a, vr o, vi (0 : Int32), vi (0 : Int32), .unset, .unset] [(.int (tcF y0 y1))])) _
      refine Go.via (fun _ => XS.istore X714.here hx rfl (hb hby d7_27) rfl (l' := #[vr th, vr a, vr o, vi (0 : Int32), vi (0 : Int32), vi (tcF y0 y1), .unset]) rfl) ?_
      refine Go.via (fun _ => XS.aloadN X714.here hx rfl (hb hby d7_29) rfl rfl) ?_
      refine Go.via (fun _ => XS.iload X714.here hx rfl (hb hby d7_30) rfl) ?_
      obtain ⟨cq733, kq733, q733a, q733b, q733c⟩ := isOf hZ e714 P4
      obtain ⟨r733, _, ⟨T733, L733, k733, n733⟩, -, X733, ⟨Lc733, hQ733, l733, y733, z733⟩, st733⟩ := X714.virtualBack hx (y := (⟨cST, "codePointAt", "(I)I"⟩ : MethodName)) (z := (⟨cST, "codePointAt", "(I)I"⟩ : MethodName)) hown (mvT hZ (tw hw 97 rfl)) (mvT hZ (tw hw 98 rfl)) (notFace_of_selects (args := #[]) (mvT hZ (tw hw 100 rfl))) (mvT hZ (tw hw 100 rfl)) (mvT hZ (tw hw 99 rfl)) (by decide) (backOf (W := 0) (rmSc_20 l Z a0 hw [] o (0 : Int32) cs fv b_2 co2 ys2 z0 z1 h0 n0 Z0 P4 P5 P6 P7 P8 zCS zF zAD zHI zLO hcs hfv rfl hR2) hZ (tw hw 101 rfl) (tw hw 14 rfl) (by decide) (by decide)) q733a q733c (g := (mkF m 32 #[vr th, vr a, vr o, vi (0 : Int32), vi (0 : Int32), vi (tcF y0 y1), .unset] [(.int (0 : Int32)), (.ref o)])) rfl (by rw [hml]; rfl) (Steps.refl _) (argsL := [(.int (0 : Int32))]) (rest := []) (lenOf pd__28I_29I rfl) rfl (by show 2 * 0 + _ ≤ _; exact Nat.le_of_eq rfl) (hb hby d7_32) (fun _ _ => ⟨rfl, e714, (by decide : 0 + 0 ≤ _), (by decide : 0 + 0 ≤ _)⟩)
      dsimp only [Pt.U, Pt.locs, Pt.cells, Pt.slots] at X733 l733 y733 z733 st733 hQ733
      rw [l733, y733, z733] at X733
      obtain ⟨hr733, N733q, eh733⟩ := hQ733
      rw [hr733] at st733
      rw [N733q, List.append_nil] at X733
      refine Go.via (fun _ kQ => st733.trans kQ) ?_
      clear st733
      have e733 : T733.heap = h0 := eh733
      clear X714 e714
      show Go p e below (T733.setTop (mkF m 35 #[vr th, vr a, vr o, vi (0 : Int32), vi (0 : Int32), vi (tcF y0 y1), .unset] [(.int (cp2 z0 z1))])) _
      rcases own_cp2 z0 z1 with ⟨hp_z, hq_z⟩ | ⟨hp_z, hq_z, hr_z⟩
      · rw [hp_z]
        show Go p e below (T733.setTop (mkF m 35 #[vr th, vr a, vr o, vi (0 : Int32), vi (0 : Int32), vi (tcF y0 y1), .unset] [(.int z0)])) _
        refine Go.via (fun _ => XS.istore X733.here hx rfl (hb hby d7_35) rfl (l' := #[vr th, vr a, vr o, vi (0 : Int32), vi (0 : Int32), vi (tcF y0 y1), vi z0]) rfl) ?_
        refine Go.via (fun _ => XS.iload X733.here hx rfl (hb hby d7_37) rfl) ?_
        refine Go.via (fun _ => XS.iload X733.here hx rfl (hb hby d7_39) rfl) ?_
        refine Go.via (fun _ => XS.icmpNo X733.here hx rfl (hb hby d7_41) rfl (feq ((own_tne hq_y hr_y hz0) : ¬ ((tcF y0 y1) = z0))).1) ?_
        refine Go.via (fun _ => XS.iload X733.here hx rfl (hb hby d7_44) rfl) ?_
        refine Go.via (fun _ => XS.iload X733.here hx rfl (hb hby d7_46) rfl) ?_
        obtain ⟨r734, _, ⟨T734, L734, k734, n734⟩, -, X734, ⟨Lc734, hQ734, l734, y734, z734⟩, st734⟩ := Jvm.LawKit.callS X733 hx (y := (⟨"java/lang/Integer", "compare", "(II)I"⟩ : MethodName)) hown (mvT hZ (tw hw 57 rfl)) (mvT hZ (tw hw 58 rfl)) (mvT hZ (tw hw 59 rfl)) (mvT hZ (tw hw 60 rfl)) (by decide) (backOf (W := 0) (rmIc l Z a0 hw [] (tcF y0 y1) z0  h0 n0 Z0) hZ (tw hw 60 rfl) (tw hw 59 rfl) (by decide) (by decide)) (g := (mkF m 48 #[vr th, vr a, vr o, vi (0 : Int32), vi (0 : Int32), vi (tcF y0 y1), vi z0] [(.int z0), (.int (tcF y0 y1))])) rfl (by rw [hml]; rfl) (argsL := [(.int (tcF y0 y1)), (.int z0)]) (rest := []) (lenOf pd__28II_29I rfl) rfl (by show 2 * 0 + _ ≤ _; exact Nat.le_of_eq rfl) (hb hby d7_48) (fun _ _ => ⟨rfl, e733, (by decide : 0 + 0 ≤ _), (by decide : 0 + 0 ≤ _)⟩)
        dsimp only [Pt.U, Pt.locs, Pt.cells, Pt.slots] at X734 l734 y734 z734 st734 hQ734
        rw [l734, y734, z734] at X734
        obtain ⟨hr734, N734q, eh734⟩ := hQ734
        rw [hr734] at st734
        rw [N734q, List.append_nil] at X734
        refine Go.via (st734) ?_
        clear st734
        have e734 : T734.heap = h0 := eh734
        clear X733 e733
        show Go p e below (T734.setTop (mkF m 51 #[vr th, vr a, vr o, vi (0 : Int32), vi (0 : Int32), vi (tcF y0 y1), vi z0] [(.int (icF (tcF y0 y1) z0))])) _
        exact Go.fin X734 hlk (v := some (.int (icF (tcF y0 y1) z0))) (fun h => by rw [Bd.returns] at h; cases h) (fun fs hr => OwnKit.retI X734 hx Bd.returns (hb hby d7_51) hr) (by rw [e734]; exact ⟨(congrArg (fun qq => some (Value.int qq)) (show (icF (tcF y0 y1) z0) = cmF [y0, y1] [z0, z1] by unfold cmF; rw [own_cpp hq_y hr_y, own_cpn hq_z, own_cmn (own_tne hq_y hr_y hz0)])), rfl, rfl⟩) (by decide) (by decide)
      · rw [hp_z]
        show Go p e below (T733.setTop (mkF m 35 #[vr th, vr a, vr o, vi (0 : Int32), vi (0 : Int32), vi (tcF y0 y1), .unset] [(.int (tcF z0 z1))])) _
        refine Go.via (fun _ => XS.istore X733.here hx rfl (hb hby d7_35) rfl (l' := #[vr th, vr a, vr o, vi (0 : Int32), vi (0 : Int32), vi (tcF y0 y1), vi (tcF z0 z1)]) rfl) ?_
        refine Go.via (fun _ => XS.iload X733.here hx rfl (hb hby d7_37) rfl) ?_
        refine Go.via (fun _ => XS.iload X733.here hx rfl (hb hby d7_39) rfl) ?_
        by_cases hc735 : (tcF y0 y1) = (tcF z0 z1)
        · refine Go.via (fun _ => XS.icmpYes X733.here hx rfl (pc0 := 41) (pc' := 52) rfl (hb hby d7_41) rfl (teq (hc735 : (tcF y0 y1) = (tcF z0 z1))).1 (by decide) (by decide)) ?_
          refine Go.via (fun _ => XS.iloadN X733.here hx rfl (hb hby d7_52) rfl) ?_
          refine Go.via (fun _ => XS.iload X733.here hx rfl (hb hby d7_53) rfl) ?_
          obtain ⟨r736, _, ⟨T736, L736, k736, n736⟩, -, X736, ⟨Lc736, hQ736, l736, y736, z736⟩, st736⟩ := Jvm.LawKit.callS X733 hx (y := (⟨"java/lang/Character", "charCount", "(I)I"⟩ : MethodName)) hown (mvT hZ (tw hw 126 rfl)) (mvT hZ (tw hw 127 rfl)) (mvT hZ (tw hw 123 rfl)) (mvT hZ (tw hw 128 rfl)) (by decide) (backOf (W := 1) (rmCc l Z a0 hw [] (tcF y0 y1)  h0 n0 Z0) hZ (tw hw 128 rfl) (tw hw 123 rfl) (by decide) (by decide)) (g := (mkF m 55 #[vr th, vr a, vr o, vi (0 : Int32), vi (0 : Int32), vi (tcF y0 y1), vi (tcF z0 z1)] [(.int (tcF y0 y1)), (.int (0 : Int32))])) rfl (by rw [hml]; rfl) (argsL := [(.int (tcF y0 y1))]) (rest := [(.int (0 : Int32))]) (lenOf pd__28I_29I rfl) rfl (by show 2 * 0 + _ ≤ _; exact Nat.le_of_eq rfl) (hb hby d7_55) (fun _ _ => ⟨rfl, e733, (by decide : 0 + 0 ≤ _), (by decide : 0 + 0 ≤ _)⟩)
          dsimp only [Pt.U, Pt.locs, Pt.cells, Pt.slots] at X736 l736 y736 z736 st736 hQ736
          rw [l736, y736, z736] at X736
          obtain ⟨hr736, N736q, eh736⟩ := hQ736
          rw [hr736] at st736
          rw [N736q, List.append_nil] at X736
          refine Go.via (st736) ?_
          clear st736
          have e736 : T736.heap = h0 := eh736
          clear X733 e733
          show Go p e below (T736.setTop (mkF m 58 #[vr th, vr a, vr o, vi (0 : Int32), vi (0 : Int32), vi (tcF y0 y1), vi (tcF z0 z1)] [(.int (ccF (tcF y0 y1))), (.int (0 : Int32))])) _
          rw [own_cct hq_y hr_y]
          show Go p e below (T736.setTop (mkF m 58 #[vr th, vr a, vr o, vi (0 : Int32), vi (0 : Int32), vi (tcF y0 y1), vi (tcF z0 z1)] [(.int (2 : Int32)), (.int (0 : Int32))])) _
          refine Go.via (fun _ => XS.iadd X736.here hx rfl (hb hby d7_58) rfl) ?_
          refine Go.via (fun _ => XS.istoreN X736.here hx rfl (hb hby d7_59) rfl (l' := #[vr th, vr a, vr o, vi (2 : Int32), vi (0 : Int32), vi (tcF y0 y1), vi (tcF z0 z1)]) rfl) ?_
          refine Go.via (fun _ => XS.iload X736.here hx rfl (hb hby d7_60) rfl) ?_
          refine Go.via (fun _ => XS.iload X736.here hx rfl (hb hby d7_62) rfl) ?_
          obtain ⟨r737, _, ⟨T737, L737, k737, n737⟩, -, X737, ⟨Lc737, hQ737, l737, y737, z737⟩, st737⟩ := Jvm.LawKit.callS X736 hx (y := (⟨"java/lang/Character", "charCount", "(I)I"⟩ : MethodName)) hown (mvT hZ (tw hw 126 rfl)) (mvT hZ (tw hw 127 rfl)) (mvT hZ (tw hw 123 rfl)) (mvT hZ (tw hw 128 rfl)) (by decide) (backOf (W := 1) (rmCc l Z a0 hw [] (tcF z0 z1)  h0 n0 Z0) hZ (tw hw 128 rfl) (tw hw 123 rfl) (by decide) (by decide)) (g := (mkF m 64 #[vr th, vr a, vr o, vi (2 : Int32), vi (0 : Int32), vi (tcF y0 y1), vi (tcF z0 z1)] [(.int (tcF z0 z1)), (.int (0 : Int32))])) rfl (by rw [hml]; rfl) (argsL := [(.int (tcF z0 z1))]) (rest := [(.int (0 : Int32))]) (lenOf pd__28I_29I rfl) rfl (by show 2 * 0 + _ ≤ _; exact Nat.le_of_eq rfl) (hb hby d7_64) (fun _ _ => ⟨rfl, e736, (by decide : 0 + 0 ≤ _), (by decide : 0 + 0 ≤ _)⟩)
          dsimp only [Pt.U, Pt.locs, Pt.cells, Pt.slots] at X737 l737 y737 z737 st737 hQ737
          rw [l737, y737, z737] at X737
          obtain ⟨hr737, N737q, eh737⟩ := hQ737
          rw [hr737] at st737
          rw [N737q, List.append_nil] at X737
          refine Go.via (st737) ?_
          clear st737
          have e737 : T737.heap = h0 := eh737
          clear X736 e736
          show Go p e below (T737.setTop (mkF m 67 #[vr th, vr a, vr o, vi (2 : Int32), vi (0 : Int32), vi (tcF y0 y1), vi (tcF z0 z1)] [(.int (ccF (tcF z0 z1))), (.int (0 : Int32))])) _
          rw [own_cct hq_z hr_z]
          show Go p e below (T737.setTop (mkF m 67 #[vr th, vr a, vr o, vi (2 : Int32), vi (0 : Int32), vi (tcF y0 y1), vi (tcF z0 z1)] [(.int (2 : Int32)), (.int (0 : Int32))])) _
          refine Go.via (fun _ => XS.iadd X737.here hx rfl (hb hby d7_67) rfl) ?_
          refine Go.via (fun _ => XS.istore X737.here hx rfl (hb hby d7_68) rfl (l' := #[vr th, vr a, vr o, vi (2 : Int32), vi (2 : Int32), vi (tcF y0 y1), vi (tcF z0 z1)]) rfl) ?_
          refine Go.via (fun _ => XS.goto X737.here hx rfl (pc0 := 70) (pc' := 5) rfl (hb hby d7_70) (by decide) (by decide)) ?_
          refine Go.via (fun _ => XS.iloadN X737.here hx rfl (hb hby d7_5) rfl) ?_
          refine Go.via (fun _ => XS.aloadN X737.here hx rfl (hb hby d7_6) rfl rfl) ?_
          obtain ⟨cq738, kq738, q738a, q738b, q738c⟩ := isOf hZ e737 P0
          obtain ⟨r738, _, ⟨T738, L738, k738, n738⟩, -, X738, ⟨Lc738, hQ738, l738, y738, z738⟩, st738⟩ := X737.virtualBack hx (y := (⟨cST, "length", "()I"⟩ : MethodName)) (z := (⟨cST, "length", "()I"⟩ : MethodName)) hown (mvT hZ (tw hw 46 rfl)) (mvT hZ (tw hw 47 rfl)) (notFace_of_selects (args := #[]) (mvT hZ (tw hw 49 rfl))) (mvT hZ (tw hw 49 rfl)) (mvT hZ (tw hw 48 rfl)) (by decide) (backOf (W := 1) (rmLn l Z a0 hw [] a cs b_1 co1 ys1 [y0, y1] h0 n0 Z0 P0 P1 P2 P3 P8 zCS hcs hR1) hZ (tw hw 50 rfl) (tw hw 14 rfl) (by decide) (by decide)) q738a q738c (g := (mkF m 7 #[vr th, vr a, vr o, vi (2 : Int32), vi (2 : Int32), vi (tcF y0 y1), vi (tcF z0 z1)] [(.ref a), (.int (2 : Int32))])) rfl (by rw [hml]; rfl) (Steps.refl _) (argsL := []) (rest := [(.int (2 : Int32))]) (lenOf pd__28_29I rfl) rfl (by show 2 * 0 + _ ≤ _; exact Nat.le_of_eq rfl) (hb hby d7_7) (fun _ _ => ⟨rfl, e737, (by decide : 0 + 0 ≤ _), (by decide : 0 + 0 ≤ _)⟩)
          dsimp only [Pt.U, Pt.locs, Pt.cells, Pt.slots] at X738 l738 y738 z738 st738 hQ738
          rw [l738, y738, z738] at X738
          obtain ⟨hr738, N738q, eh738⟩ := hQ738
          rw [hr738] at st738
          rw [N738q, List.append_nil] at X738
          refine Go.via (fun _ kQ => st738.trans kQ) ?_
          clear st738
          have e738 : T738.heap = h0 := eh738
          clear X737 e737
          show Go p e below (T738.setTop (mkF m 10 #[vr th, vr a, vr o, vi (2 : Int32), vi (2 : Int32), vi (tcF y0 y1), vi (tcF z0 z1)] [(.int (2 : Int32)), (.int (2 : Int32))])) _
          refine Go.via (fun _ => XS.icmpYes X738.here hx rfl (pc0 := 10) (pc' := 73) rfl (hb hby d7_10) rfl (flt ((by decide) : ¬ ((2 : Int32) < (2 : Int32)))).2.1 (by decide) (by decide)) ?_
          refine Go.via (fun _ => XS.aloadN X738.here hx rfl (hb hby d7_73) rfl rfl) ?_
          obtain ⟨cq739, kq739, q739a, q739b, q739c⟩ := isOf hZ e738 P0
          obtain ⟨r739, _, ⟨T739, L739, k739, n739⟩, -, X739, ⟨Lc739, hQ739, l739, y739, z739⟩, st739⟩ := X738.virtualBack hx (y := (⟨cST, "length", "()I"⟩ : MethodName)) (z := (⟨cST, "length", "()I"⟩ : MethodName)) hown (mvT hZ (tw hw 46 rfl)) (mvT hZ (tw hw 47 rfl)) (notFace_of_selects (args := #[]) (mvT hZ (tw hw 49 rfl))) (mvT hZ (tw hw 49 rfl)) (mvT hZ (tw hw 48 rfl)) (by decide) (backOf (W := 0) (rmLn l Z a0 hw [] a cs b_1 co1 ys1 [y0, y1] h0 n0 Z0 P0 P1 P2 P3 P8 zCS hcs hR1) hZ (tw hw 50 rfl) (tw hw 14 rfl) (by decide) (by decide)) q739a q739c (g := (mkF m 74 #[vr th, vr a, vr o, vi (2 : Int32), vi (2 : Int32), vi (tcF y0 y1), vi (tcF z0 z1)] [(.ref a)])) rfl (by rw [hml]; rfl) (Steps.refl _) (argsL := []) (rest := []) (lenOf pd__28_29I rfl) rfl (by show 2 * 0 + _ ≤ _; exact Nat.le_of_eq rfl) (hb hby d7_74) (fun _ _ => ⟨rfl, e738, (by decide : 0 + 0 ≤ _), (by decide : 0 + 0 ≤ _)⟩)
          dsimp only [Pt.U, Pt.locs, Pt.cells, Pt.slots] at X739 l739 y739 z739 st739 hQ739
          rw [l739, y739, z739] at X739
          obtain ⟨hr739, N739q, eh739⟩ := hQ739
          rw [hr739] at st739
          rw [N739q, List.append_nil] at X739
          refine Go.via (fun _ kQ => st739.trans kQ) ?_
          clear st739
          have e739 : T739.heap = h0 := eh739
          clear X738 e738
          show Go p e below (T739.setTop (mkF m 77 #[vr th, vr a, vr o, vi (2 : Int32), vi (2 : Int32), vi (tcF y0 y1), vi (tcF z0 z1)] [(.int (2 : Int32))])) _
          refine Go.via (fun _ => XS.iloadN X739.here hx rfl (hb hby d7_77) rfl) ?_
          refine Go.via (fun _ => XS.isub X739.here hx rfl (hb hby d7_78) rfl) ?_
          refine Go.via (fun _ => XS.aloadN X739.here hx rfl (hb hby d7_79) rfl rfl) ?_
          obtain ⟨cq740, kq740, q740a, q740b, q740c⟩ := isOf hZ e739 P4
          obtain ⟨r740, _, ⟨T740, L740, k740, n740⟩, -, X740, ⟨Lc740, hQ740, l740, y740, z740⟩, st740⟩ := X739.virtualBack hx (y := (⟨cST, "length", "()I"⟩ : MethodName)) (z := (⟨cST, "length", "()I"⟩ : MethodName)) hown (mvT hZ (tw hw 46 rfl)) (mvT hZ (tw hw 47 rfl)) (notFace_of_selects (args := #[]) (mvT hZ (tw hw 49 rfl))) (mvT hZ (tw hw 49 rfl)) (mvT hZ (tw hw 48 rfl)) (by decide) (backOf (W := 1) (rmLn l Z a0 hw [] o cs b_2 co2 ys2 [z0, z1] h0 n0 Z0 P4 P5 P6 P7 P8 zCS hcs hR2) hZ (tw hw 50 rfl) (tw hw 14 rfl) (by decide) (by decide)) q740a q740c (g := (mkF m 80 #[vr th, vr a, vr o, vi (2 : Int32), vi (2 : Int32), vi (tcF y0 y1), vi (tcF z0 z1)] [(.ref o), (.int (0 : Int32))])) rfl (by rw [hml]; rfl) (Steps.refl _) (argsL := []) (rest := [(.int (0 : Int32))]) (lenOf pd__28_29I rfl) rfl (by show 2 * 0 + _ ≤ _; exact Nat.le_of_eq rfl) (hb hby d7_80) (fun _ _ => ⟨rfl, e739, (by decide : 0 + 0 ≤ _), (by decide : 0 + 0 ≤ _)⟩)
          dsimp only [Pt.U, Pt.locs, Pt.cells, Pt.slots] at X740 l740 y740 z740 st740 hQ740
          rw [l740, y740, z740] at X740
          obtain ⟨hr740, N740q, eh740⟩ := hQ740
          rw [hr740] at st740
          rw [N740q, List.append_nil] at X740
          refine Go.via (fun _ kQ => st740.trans kQ) ?_
          clear st740
          have e740 : T740.heap = h0 := eh740
          clear X739 e739
          show Go p e below (T740.setTop (mkF m 83 #[vr th, vr a, vr o, vi (2 : Int32), vi (2 : Int32), vi (tcF y0 y1), vi (tcF z0 z1)] [(.int (2 : Int32)), (.int (0 : Int32))])) _
          refine Go.via (fun _ => XS.iload X740.here hx rfl (hb hby d7_83) rfl) ?_
          refine Go.via (fun _ => XS.isub X740.here hx rfl (hb hby d7_85) rfl) ?_
          obtain ⟨r741, _, ⟨T741, L741, k741, n741⟩, -, X741, ⟨Lc741, hQ741, l741, y741, z741⟩, st741⟩ := Jvm.LawKit.callS X740 hx (y := (⟨"java/lang/Integer", "compare", "(II)I"⟩ : MethodName)) hown (mvT hZ (tw hw 57 rfl)) (mvT hZ (tw hw 58 rfl)) (mvT hZ (tw hw 59 rfl)) (mvT hZ (tw hw 60 rfl)) (by decide) (backOf (W := 0) (rmIc l Z a0 hw [] (0 : Int32) (0 : Int32)  h0 n0 Z0) hZ (tw hw 60 rfl) (tw hw 59 rfl) (by decide) (by decide)) (g := (mkF m 86 #[vr th, vr a, vr o, vi (2 : Int32), vi (2 : Int32), vi (tcF y0 y1), vi (tcF z0 z1)] [(.int (0 : Int32)), (.int (0 : Int32))])) rfl (by rw [hml]; rfl) (argsL := [(.int (0 : Int32)), (.int (0 : Int32))]) (rest := []) (lenOf pd__28II_29I rfl) rfl (by show 2 * 0 + _ ≤ _; exact Nat.le_of_eq rfl) (hb hby d7_86) (fun _ _ => ⟨rfl, e740, (by decide : 0 + 0 ≤ _), (by decide : 0 + 0 ≤ _)⟩)
          dsimp only [Pt.U, Pt.locs, Pt.cells, Pt.slots] at X741 l741 y741 z741 st741 hQ741
          rw [l741, y741, z741] at X741
          obtain ⟨hr741, N741q, eh741⟩ := hQ741
          rw [hr741] at st741
          rw [N741q, List.append_nil] at X741
          refine Go.via (st741) ?_
          clear st741
          have e741 : T741.heap = h0 := eh741
          clear X740 e740
          show Go p e below (T741.setTop (mkF m 89 #[vr th, vr a, vr o, vi (2 : Int32), vi (2 : Int32), vi (tcF y0 y1), vi (tcF z0 z1)] [(.int (icF (0 : Int32) (0 : Int32)))])) _
          exact Go.fin X741 hlk (v := some (.int (icF (0 : Int32) (0 : Int32)))) (fun h => by rw [Bd.returns] at h; cases h) (fun fs hr => OwnKit.retI X741 hx Bd.returns (hb hby d7_89) hr) (by rw [e741]; exact ⟨(congrArg (fun qq => some (Value.int qq)) (show (icF (0 : Int32) (0 : Int32)) = cmF [y0, y1] [z0, z1] by unfold cmF; rw [own_cpp hq_y hr_y, own_cpp hq_z hr_z, own_cmq hc735]; first | done | rfl | decide)), rfl, rfl⟩) (by decide) (by decide)
        · refine Go.via (fun _ => XS.icmpNo X733.here hx rfl (hb hby d7_41) rfl (feq (hc735 : ¬ ((tcF y0 y1) = (tcF z0 z1)))).1) ?_
          refine Go.via (fun _ => XS.iload X733.here hx rfl (hb hby d7_44) rfl) ?_
          refine Go.via (fun _ => XS.iload X733.here hx rfl (hb hby d7_46) rfl) ?_
          obtain ⟨r742, _, ⟨T742, L742, k742, n742⟩, -, X742, ⟨Lc742, hQ742, l742, y742, z742⟩, st742⟩ := Jvm.LawKit.callS X733 hx (y := (⟨"java/lang/Integer", "compare", "(II)I"⟩ : MethodName)) hown (mvT hZ (tw hw 57 rfl)) (mvT hZ (tw hw 58 rfl)) (mvT hZ (tw hw 59 rfl)) (mvT hZ (tw hw 60 rfl)) (by decide) (backOf (W := 0) (rmIc l Z a0 hw [] (tcF y0 y1) (tcF z0 z1)  h0 n0 Z0) hZ (tw hw 60 rfl) (tw hw 59 rfl) (by decide) (by decide)) (g := (mkF m 48 #[vr th, vr a, vr o, vi (0 : Int32), vi (0 : Int32), vi (tcF y0 y1), vi (tcF z0 z1)] [(.int (tcF z0 z1)), (.int (tcF y0 y1))])) rfl (by rw [hml]; rfl) (argsL := [(.int (tcF y0 y1)), (.int (tcF z0 z1))]) (rest := []) (lenOf pd__28II_29I rfl) rfl (by show 2 * 0 + _ ≤ _; exact Nat.le_of_eq rfl) (hb hby d7_48) (fun _ _ => ⟨rfl, e733, (by decide : 0 + 0 ≤ _), (by decide : 0 + 0 ≤ _)⟩)
          dsimp only [Pt.U, Pt.locs, Pt.cells, Pt.slots] at X742 l742 y742 z742 st742 hQ742
          rw [l742, y742, z742] at X742
          obtain ⟨hr742, N742q, eh742⟩ := hQ742
          rw [hr742] at st742
          rw [N742q, List.append_nil] at X742
          refine Go.via (st742) ?_
          clear st742
          have e742 : T742.heap = h0 := eh742
          clear X733 e733
          show Go p e below (T742.setTop (mkF m 51 #[vr th, vr a, vr o, vi (0 : Int32), vi (0 : Int32), vi (tcF y0 y1), vi (tcF z0 z1)] [(.int (icF (tcF y0 y1) (tcF z0 z1)))])) _
          exact Go.fin X742 hlk (v := some (.int (icF (tcF y0 y1) (tcF z0 z1)))) (fun h => by rw [Bd.returns] at h; cases h) (fun fs hr => OwnKit.retI X742 hx Bd.returns (hb hby d7_51) hr) (by rw [e742]; exact ⟨(congrArg (fun qq => some (Value.int qq)) (show (icF (tcF y0 y1) (tcF z0 z1)) = cmF [y0, y1] [z0, z1] by unfold cmF; rw [own_cpp hq_y hr_y, own_cpp hq_z hr_z, own_cmn hc735])), rfl, rfl⟩) (by decide) (by decide)
def exF (na nb x0 z0 x1 z1 : Int32) : Int32 := if (0 : Int32) < na then (if (0 : Int32) < nb then (if x0 = z0 then (if (1 : Int32) < na then (if (1 : Int32) < nb then (if x1 = z1 then (if na < nb then -1 else if nb < na then 1 else 0) else if x1 < z1 then -1 else 1) else if na < nb then -1 else if nb < na then 1 else 0) else if na < nb then -1 else if nb < na then 1 else 0) else if x0 < z0 then -1 else 1) else if (1 : Int32) < na then (if (1 : Int32) < nb then (if x1 = z1 then (if na < nb then -1 else if nb < na then 1 else 0) else if x1 < z1 then -1 else 1) else if na < nb then -1 else if nb < na then 1 else 0) else if na < nb then -1 else if nb < na then 1 else 0) else if (1 : Int32) < na then (if (1 : Int32) < nb then (if x1 = z1 then (if na < nb then -1 else if nb < na then 1 else 0) else if x1 < z1 then -1 else 1) else if na < nb then -1 else if nb < na then 1 else 0) else if na < nb then -1 else if nb < na then 1 else 0
theorem own_sic (u v : Int32) (h : ¬ u = v) : sgnF (icF u v) = if u < v then -1 else 1 := by
  unfold icF; by_cases q : u < v
  · rw [if_pos q, if_pos q]; rfl
  · rw [if_neg q, if_neg h, if_neg q]; rfl
theorem own_l3 {y k : Int32} (h : ((y &&& (2147483647 : Int32)) % (3 : Int32)) = k) : k = 0 ∨ k = 1 ∨ k = 2 := by
  have q := c_and y 2147483647 (by decide)
  have e1 : ((y &&& (2147483647 : Int32)) % (3 : Int32)).toInt = (y &&& (2147483647 : Int32)).toInt % 3 := by
    rw [Int32.toInt_mod]; exact Int.tmod_eq_emod_of_nonneg q.1
  rw [h] at e1
  have : k.toInt = 0 ∨ k.toInt = 1 ∨ k.toInt = 2 := by omega
  rcases this with t | t | t
  · exact Or.inl (Int32.toInt_inj.mp t)
  · exact Or.inr (Or.inl (Int32.toInt_inj.mp t))
  · exact Or.inr (Or.inr (Int32.toInt_inj.mp t))
def cpT (n y z : Int32) : List Int32 := if (cpN n y z) = (0 : Int32) then [] else if (cpN n y z) = (1 : Int32) then [cpX n y z] else [cpX n y z, cpY n y z]
theorem own_cpT {n y z : Int32} (h : n = 0 ∨ n = 1 ∨ n = 2) : cpL (csF n y z) = cpT n y z ∧ (cpN n y z = 0 ∨ cpN n y z = 1 ∨ cpN n y z = 2) := by
  have t0 : ∀ {N X Y : Int32}, N = 0 → (if N = (0 : Int32) then ([] : List Int32) else if N = (1 : Int32) then [X] else [X, Y]) = [] := fun h => if_pos h
  have t1 : ∀ {N X Y : Int32}, N = 1 → (if N = (0 : Int32) then ([] : List Int32) else if N = (1 : Int32) then [X] else [X, Y]) = [X] := fun h => (if_neg (by rw [h]; decide)).trans (if_pos h)
  have t2 : ∀ {N X Y : Int32}, N = 2 → (if N = (0 : Int32) then ([] : List Int32) else if N = (1 : Int32) then [X] else [X, Y]) = [X, Y] := fun h => (if_neg (by rw [h]; decide)).trans (if_neg (by rw [h]; decide))
  unfold cpT
  rcases h with h | h | h
  · have e : csF n y z = [] := if_pos h
    have f : cpN n y z = 0 := if_pos h
    rw [e, t0 f]; exact ⟨rfl, Or.inl f⟩
  · have n0 : ¬ n = (0 : Int32) := by rw [h]; decide
    have e : csF n y z = [y] := (if_neg n0).trans (if_pos h)
    have f : cpN n y z = 1 := (if_neg n0).trans (if_pos h)
    have g : cpX n y z = y := (if_neg n0).trans (if_pos h)
    rw [e, t1 f, g]; exact ⟨rfl, Or.inr (Or.inl f)⟩
  · have n0 : ¬ n = (0 : Int32) := by rw [h]; decide
    have n1 : ¬ n = (1 : Int32) := by rw [h]; decide
    have e : csF n y z = [y, z] := (if_neg n0).trans (if_neg n1)
    have f : cpN n y z = if (ihL y) = (0 : Int32) then 2 else if (ilL z) = (0 : Int32) then 2 else 1 := (if_neg n0).trans (if_neg n1)
    have g : cpX n y z = if (ihL y) = (0 : Int32) then y else if (ilL z) = (0 : Int32) then y else tpF y z := (if_neg n0).trans (if_neg n1)
    have k : cpY n y z = if (ihL y) = (0 : Int32) then z else if (ilL z) = (0 : Int32) then z else 0 := (if_neg n0).trans (if_neg n1)
    rw [own_ihE, own_ilE] at f g k
    rw [own_tp] at g
    by_cases a : (ihF y) = (0 : Int32)
    · rw [if_pos a] at f g k
      rw [e, t2 f, g, k, own_cpn (Or.inl a)]; exact ⟨rfl, Or.inr (Or.inr f)⟩
    · by_cases b : (ilF z) = (0 : Int32)
      · rw [if_neg a, if_pos b] at f g k
        rw [e, t2 f, g, k, own_cpn (Or.inr b)]; exact ⟨rfl, Or.inr (Or.inr f)⟩
      · rw [if_neg a, if_neg b] at f g k
        rw [e, t1 f, g, own_cpp a b]; exact ⟨rfl, Or.inr (Or.inl f)⟩
theorem own_ex0 {na nb x0 z0 x1 z1 : Int32} (h : na = 0 ∨ na = 1 ∨ na = 2) (q : nb = 0 ∨ nb = 1 ∨ nb = 2) : sgnF (cmP (if na = (0 : Int32) then [] else if na = (1 : Int32) then [x0] else [x0, x1]) (if nb = (0 : Int32) then [] else if nb = (1 : Int32) then [z0] else [z0, z1])) = exF na nb x0 z0 x1 z1 := by
  rcases h with rfl | rfl | rfl <;> rcases q with rfl | rfl | rfl
  · rfl
  · rfl
  · rfl
  · rfl
  · show sgnF (if x0 = z0 then 0 else icF x0 z0) = if x0 = z0 then 0 else if x0 < z0 then -1 else 1
    by_cases a : x0 = z0
    · rw [if_pos a, if_pos a]; rfl
    · rw [if_neg a, if_neg a, own_sic _ _ a]
  · show sgnF (if x0 = z0 then -1 else icF x0 z0) = if x0 = z0 then -1 else if x0 < z0 then -1 else 1
    by_cases a : x0 = z0
    · rw [if_pos a, if_pos a]; rfl
    · rw [if_neg a, if_neg a, own_sic _ _ a]
  · rfl
  · show sgnF (if x0 = z0 then 1 else icF x0 z0) = if x0 = z0 then 1 else if x0 < z0 then -1 else 1
    by_cases a : x0 = z0
    · rw [if_pos a, if_pos a]; rfl
    · rw [if_neg a, if_neg a, own_sic _ _ a]
  · show sgnF (if x0 = z0 then (if x1 = z1 then 0 else icF x1 z1) else icF x0 z0) = if x0 = z0 then (if x1 = z1 then 0 else if x1 < z1 then -1 else 1) else if x0 < z0 then -1 else 1
    by_cases a : x0 = z0
    · rw [if_pos a, if_pos a]
      by_cases b : x1 = z1
      · rw [if_pos b, if_pos b]; rfl
      · rw [if_neg b, if_neg b, own_sic _ _ b]
    · rw [if_neg a, if_neg a, own_sic _ _ a]
theorem own_law {m n y z u v : Int32} (h : m = 0 ∨ m = 1 ∨ m = 2) (q : n = 0 ∨ n = 1 ∨ n = 2) : sgnF (cmF (csF m y z) (csF n u v)) = exF (cpN m y z) (cpN n u v) (cpX m y z) (cpX n u v) (cpY m y z) (cpY n u v) := by
  obtain ⟨a1, a2⟩ := own_cpT (y := y) (z := z) h
  obtain ⟨b1, b2⟩ := own_cpT (y := u) (z := v) q
  unfold cmF; rw [a1, b1]; exact own_ex0 a2 b2
theorem pd__28I_29C : parseMethodDescriptor "(I)C" = some ⟨[.int], some .char⟩ := by decide +kernel
theorem pd__28ICC_29Ljava_2flang_2fString_3b : parseMethodDescriptor "(ICC)Ljava/lang/String;" = some ⟨[.int, .char, .char], some (.object cST)⟩ := by decide +kernel
theorem pd__28ICC_5bI_29I : parseMethodDescriptor "(ICC[I)I" = some ⟨[.int, .char, .char, (.array .int)], some .int⟩ := by decide +kernel
theorem pd__28Ljava_2flang_2fString_3bLjava_2flang_2fString_3b_29I : parseMethodDescriptor "(Ljava/lang/String;Ljava/lang/String;)I" = some ⟨[(.object cST), (.object cST)], some .int⟩ := by decide +kernel
def Q_rm0 (Z : State) (p0 : Int32) (p1 : Int32) (p2 : Int32) (p3 : Int32) (p4 : Int32) (cs : Int32) (fv : Value) (ins : Addr) (h0 : Heap) (n0 : Nat) (vQ : Option Value) (hQ : Heap) (vmQ : Vm) (LQ : List Loc) : Prop := vQ = some (.int (1 : Int32)) ∧ Fr n0 LQ ∧ Keep h0 hQ []
def V_rm0 (Z : State) (p0 : Int32) (p1 : Int32) (p2 : Int32) (p3 : Int32) (p4 : Int32) (cs : Int32) (fv : Value) (ins : Addr) (h0 : Heap) (vmV : Vm) : Prop := Em Z vmV h0 [] ∧ True
set_option maxRecDepth 65536 in
set_option maxHeartbeats 40000000 in
theorem rm_rm0_l130_2 (l : Launch) (Z : State) (a0 : Array Value) (hw : ∀ d ∈ tables_1, d.before a0 Z = true) (p0 : Int32) (p1 : Int32) (p2 : Int32) (p3 : Int32) (p4 : Int32) (cs : Int32) (fv : Value) (ins : Addr) (h0 : Heap) (n0 : Nat) (zCS : Sta Z Z.heap cST "COMPACT_STRINGS" "Z" (.int cs)) (zF : Sta Z Z.heap cPR "SIOOBE_FORMATTER" "Ljava/util/function/BiFunction;" fv) (zAD : Sta Z Z.heap cU6 "$assertionsDisabled" "Z" (.int (1 : Int32))) (zHI : Sta Z Z.heap cU6 "HI_BYTE_SHIFT" "I" (.int (0 : Int32))) (zLO : Sta Z Z.heap cU6 "LO_BYTE_SHIFT" "I" (.int (8 : Int32))) (zIN : Sta Z Z.heap cCP "INSTANCE" "Lcom/example/acquaint/acquaint/store/CodePointOrder;" (.ref ins)) (zIE : Exa Z Z.heap ins cCP) (hcs : ¬ (cs = (0 : Int32))) (hfv : fv = .null ∨ ∃ fa : Addr, fv = .ref fa) (hh7 : Jvm.Lit.constHeld Z cST 7) (hcw : Jvm.Lit.compactW.before a0 Z = true) {p : Program} {e : Env} {s : State} {m : MethodId} {below : List Frame} {meth : Method} {c : Code} (hx : p.tables.exec = Jvm.exec) (hby : c.code = code) (hlk : meth.locks = false) (hml : c.maxLocals = 19) (hret : meth.sig.returnType = ret) :
    ∀ (T828 : State) (L828 : List Loc) (h828 : Heap) (vm828 : Vm) (K828 : Nat) (la : Int32) (lb : Int32) (b0 : Int32) (b1 : Int32) (v756 : Int32) (v757 : List Int32) (v775 : Int32) (v776 : List Int32) (b754 : Addr) (b773 : Addr) (b795 : Addr) (b803 : Addr) (v755 : Addr) (v774 : Addr), Stand p l e room_1 (s.setVm vm828) m #[(.int p0), (.int p1), (.int p2), (.int p3), (.int p4)] below meth c T828 L828 10 28 → T828.heap = h828 → Fr n0 L828 → n0 ≤ h828.size → Keep h0 h828 [] → Z.Warmed39 (s.setVm vm828).vm → (s.setVm vm828).vm.findClass cLAW = some m.cls → s.Since vm828 K828 → K828 ≤ h828.size → Old Z n0 h828 → Exa Z h828 b754 cST → Fld Z h828 b754 cST "coder" "B" (.int v756) → Fld Z h828 b754 cST "value" "[B" (.ref v755) → Ia Z h828 v755 .byte v757 → Exa Z h828 b773 cST → Fld Z h828 b773 cST "coder" "B" (.int v775) → Fld Z h828 b773 cST "value" "[B" (.ref v774) → Ia Z h828 v774 .byte v776 → Ia Z h828 b795 .int [(cpX la (drF p1) (drF p2)), (cpY la (drF p1) (drF p2))] → Ia Z h828 b803 .int [(cpX lb b0 b1), (cpY lb b0 b1)] → ((p0 &&& (2147483647 : Int32)) % (3 : Int32)) = la → ((((p0.toUInt32 >>> ((8 : Int32) &&& 31).toUInt32).toInt32) &&& (2147483647 : Int32)) % (3 : Int32)) = lb → Rep (csF la (drF p1) (drF p2)) v756 v757 → Rep (csF lb b0 b1) v775 v776 → Go p e below (T828.setTop (mkF m 130 #[vi p0, vi p1, vi p2, vi p3, vi p4, vi la, vi lb, vi (drF p1), vi (drF p2), vi b0, vi b1, vr b754, vr b773, vr b795, vr b803, vi (cpN la (drF p1) (drF p2)), vi (cpN lb b0 b1), .unset, .unset] [])) (DoneW s (Q_rm0 Z p0 p1 p2 p3 p4 cs fv ins h0 n0) room_1.cells room_1.slots) := by
  intro T828 L828 h828 vm828 K828 la lb b0 b1 v756 v757 v775 v776 b754 b773 b795 b803 v755 v774 X828 e828 N828 z828 k828 hZ hown hS828 hk828 lf0_828 lf1_828 lf2_828 lf3_828 lf4_828 lf5_828 lf6_828 lf7_828 lf8_828 lf9_828 lf11_828 hv_la hv_lb qp762 qp781
  show Go p e below (T828.setTop (mkF m 130 #[vi p0, vi p1, vi p2, vi p3, vi p4, vi la, vi lb, vi (drF p1), vi (drF p2), vi b0, vi b1, vr b754, vr b773, vr b795, vr b803, vi (cpN la (drF p1) (drF p2)), vi (cpN lb b0 b1), .unset, .unset] [])) _
  have J : ∀ ev : Int32, (exF (cpN la (drF p1) (drF p2)) (cpN lb b0 b1) (cpX la (drF p1) (drF p2)) (cpX lb b0 b1) (cpY la (drF p1) (drF p2)) (cpY lb b0 b1)) = ev → Go p e below (T828.setTop (mkF m 241 #[vi p0, vi p1, vi p2, vi p3, vi p4, vi la, vi lb, vi (drF p1), vi (drF p2), vi b0, vi b1, vr b754, vr b773, vr b795, vr b803, vi (cpN la (drF p1) (drF p2)), vi (cpN lb b0 b1), vi ev, .unset] [])) (DoneW s (Q_rm0 Z p0 p1 p2 p3 p4 cs fv ins h0 n0) room_1.cells room_1.slots) := by
    intro ev hev
    show Go p e below (T828.setTop (mkF m 241 #[vi p0, vi p1, vi p2, vi p3, vi p4, vi la, vi lb, vi (drF p1), vi (drF p2), vi b0, vi b1, vr b754, vr b773, vr b795, vr b803, vi (cpN la (drF p1) (drF p2)), vi (cpN lb b0 b1), vi ev, .unset] [])) _
    have f829 : Sta Z h828 cCP "INSTANCE" "Lcom/example/acquaint/acquaint/store/CodePointOrder;" (.ref ins) := zIN.ext lf0_828.2
    obtain ⟨T830, X830, e830, st830⟩ := getS2 X828 hx hZ hown (host := "") (Or.inl (tw hw 38 rfl)) Via.refl e828 f829 (g := (mkF m 241 #[vi p0, vi p1, vi p2, vi p3, vi p4, vi la, vi lb, vi (drF p1), vi (drF p2), vi b0, vi b1, vr b754, vr b773, vr b795, vr b803, vi (cpN la (drF p1) (drF p2)), vi (cpN lb b0 b1), vi ev, .unset] [])) rfl (hb hby at_241)
    refine Go.via (st830) ?_
    clear st830
    clear X828 e828
    show Go p e below (T830.setTop (mkF m 244 #[vi p0, vi p1, vi p2, vi p3, vi p4, vi la, vi lb, vi (drF p1), vi (drF p2), vi b0, vi b1, vr b754, vr b773, vr b795, vr b803, vi (cpN la (drF p1) (drF p2)), vi (cpN lb b0 b1), vi ev, .unset] [(.ref ins)])) _
    refine Go.via (fun _ => XS.aload X830.here hx rfl (hb hby at_244) rfl rfl) ?_
    refine Go.via (fun _ => XS.aload X830.here hx rfl (hb hby at_246) rfl rfl) ?_
    have f832 : Exa Z h828 ins cCP := zIE.ext lf0_828.2
    obtain ⟨cq831, kq831, q831a, q831b, q831c⟩ := isOf hZ e830 f832
    obtain ⟨r831, _, ⟨T831, L831, k831, n831⟩, -, X831, ⟨Lc831, hQ831, l831, y831, z831⟩, st831⟩ := X830.virtualBack hx (y := (⟨cCP, "compare", "(Ljava/lang/String;Ljava/lang/String;)I"⟩ : MethodName)) (z := (⟨cCP, "compare", "(Ljava/lang/String;Ljava/lang/String;)I"⟩ : MethodName)) hown (mvT hZ (tw hw 41 rfl)) (mvT hZ (tw hw 42 rfl)) (notFace_of_selects (args := #[]) (mvT hZ (tw hw 44 rfl))) (mvT hZ (tw hw 44 rfl)) (mvT hZ (tw hw 43 rfl)) (by decide) (backOf (W := 0) (rmCm l Z a0 hw [] ins b754 b773 cs fv v755 v756 v757 (csF la (drF p1) (drF p2)) v774 v775 v776 (csF lb b0 b1) h828 n0 z828 lf1_828 lf2_828 lf3_828 lf4_828 lf5_828 lf6_828 lf7_828 lf8_828 lf0_828 zCS zF zAD zHI zLO hcs hfv qp762 qp781) hZ (tw hw 45 rfl) (tw hw 39 rfl) (by decide) (by decide)) q831a q831c (g := (mkF m 248 #[vi p0, vi p1, vi p2, vi p3, vi p4, vi la, vi lb, vi (drF p1), vi (drF p2), vi b0, vi b1, vr b754, vr b773, vr b795, vr b803, vi (cpN la (drF p1) (drF p2)), vi (cpN lb b0 b1), vi ev, .unset] [(.ref b773), (.ref b754), (.ref ins)])) rfl (by rw [hml]; rfl) (Steps.refl _) (argsL := [(.ref b754), (.ref b773)]) (rest := []) (lenOf pd__28Ljava_2flang_2fString_3bLjava_2flang_2fString_3b_29I rfl) rfl (by show 2 * 0 + _ ≤ _; exact Nat.le_of_eq rfl) (hb hby at_248) (fun _ _ => ⟨rfl, e830, (by decide : 10 + 0 ≤ _), (by decide : 28 + 0 ≤ _)⟩)
    dsimp only [Pt.U, Pt.locs, Pt.cells, Pt.slots] at X831 l831 y831 z831 st831 hQ831
    rw [l831, y831, z831] at X831
    obtain ⟨hr831, N831q, eh831⟩ := hQ831
    rw [hr831] at st831
    rw [N831q, List.append_nil] at X831
    refine Go.via (fun _ kQ => st831.trans kQ) ?_
    clear st831
    have e831 : T831.heap = h828 := eh831
    clear X830 e830
    show Go p e below (T831.setTop (mkF m 251 #[vi p0, vi p1, vi p2, vi p3, vi p4, vi la, vi lb, vi (drF p1), vi (drF p2), vi b0, vi b1, vr b754, vr b773, vr b795, vr b803, vi (cpN la (drF p1) (drF p2)), vi (cpN lb b0 b1), vi ev, .unset] [(.int (cmF (csF la (drF p1) (drF p2)) (csF lb b0 b1)))])) _
    refine Go.via (fun _ => XS.istore X831.here hx rfl (hb hby at_251) rfl (l' := #[vi p0, vi p1, vi p2, vi p3, vi p4, vi la, vi lb, vi (drF p1), vi (drF p2), vi b0, vi b1, vr b754, vr b773, vr b795, vr b803, vi (cpN la (drF p1) (drF p2)), vi (cpN lb b0 b1), vi ev, vi (cmF (csF la (drF p1) (drF p2)) (csF lb b0 b1))]) rfl) ?_
    refine Go.via (fun _ => XS.iload X831.here hx rfl (hb hby at_253) rfl) ?_
    obtain ⟨r833, _, ⟨T833, L833, k833, n833⟩, -, X833, ⟨Lc833, hQ833, l833, y833, z833⟩, st833⟩ := Jvm.LawKit.callS X831 hx (y := (⟨cLAW, "sign", "(I)I"⟩ : MethodName)) hown (mvT hZ (tw hw 61 rfl)) (mvT hZ (tw hw 62 rfl)) (mvT hZ (tw hw 3 rfl)) (mvT hZ (tw hw 63 rfl)) (by decide) (backOf (W := 0) (rmSn l Z a0 hw [] (cmF (csF la (drF p1) (drF p2)) (csF lb b0 b1))  h828 n0 z828) hZ (tw hw 63 rfl) (tw hw 3 rfl) (by decide) (by decide)) (g := (mkF m 255 #[vi p0, vi p1, vi p2, vi p3, vi p4, vi la, vi lb, vi (drF p1), vi (drF p2), vi b0, vi b1, vr b754, vr b773, vr b795, vr b803, vi (cpN la (drF p1) (drF p2)), vi (cpN lb b0 b1), vi ev, vi (cmF (csF la (drF p1) (drF p2)) (csF lb b0 b1))] [(.int (cmF (csF la (drF p1) (drF p2)) (csF lb b0 b1)))])) rfl (by rw [hml]; rfl) (argsL := [(.int (cmF (csF la (drF p1) (drF p2)) (csF lb b0 b1)))]) (rest := []) (lenOf pd__28I_29I rfl) rfl (by show 2 * 0 + _ ≤ _; exact Nat.le_of_eq rfl) (hb hby at_255) (fun _ _ => ⟨rfl, e831, (by decide : 10 + 0 ≤ _), (by decide : 28 + 0 ≤ _)⟩)
    dsimp only [Pt.U, Pt.locs, Pt.cells, Pt.slots] at X833 l833 y833 z833 st833 hQ833
    rw [l833, y833, z833] at X833
    obtain ⟨hr833, N833q, eh833⟩ := hQ833
    rw [hr833] at st833
    rw [N833q, List.append_nil] at X833
    refine Go.via (st833) ?_
    clear st833
    have e833 : T833.heap = h828 := eh833
    clear X831 e831
    show Go p e below (T833.setTop (mkF m 258 #[vi p0, vi p1, vi p2, vi p3, vi p4, vi la, vi lb, vi (drF p1), vi (drF p2), vi b0, vi b1, vr b754, vr b773, vr b795, vr b803, vi (cpN la (drF p1) (drF p2)), vi (cpN lb b0 b1), vi ev, vi (cmF (csF la (drF p1) (drF p2)) (csF lb b0 b1))] [(.int (sgnF (cmF (csF la (drF p1) (drF p2)) (csF lb b0 b1))))])) _
    refine Go.via (fun _ => XS.iload X833.here hx rfl (hb hby at_258) rfl) ?_
    refine Go.via (fun _ => XS.icmpNo X833.here hx rfl (hb hby at_260) rfl (teq (((own_law (own_l3 hv_la) (own_l3 hv_lb)).trans hev) : (sgnF (cmF (csF la (drF p1) (drF p2)) (csF lb b0 b1))) = ev)).2) ?_
    refine Go.via (fun _ => XS.iconst X833.here hx rfl (hb hby at_263)) ?_
    refine Go.via (fun _ => XS.goto X833.here hx rfl (pc0 := 264) (pc' := 268) rfl (hb hby at_264) (by decide) (by decide)) ?_
    exact Go.finW X833 hS828 (Nat.le_trans hk828 (Nat.le_of_eq (congrArg Array.size (Eq.symm e833)))) hlk (v := some (.int (1 : Int32))) (fun h => by rw [hret] at h; cases h) (fun fs hr => retN X833 hx (t := .boolean) hret (by simp) (hb hby at_268) hr) (by rw [e833]; exact ⟨rfl, N828, k828⟩) (by decide) (by decide)
  refine Go.via (fun _ => XS.iload X828.here hx rfl (hb hby at_130) rfl) ?_
  by_cases hc834 : (0 : Int32) < (cpN la (drF p1) (drF p2))
  · refine Go.via (fun _ => XS.ifNo X828.here hx rfl (hb hby at_132) rfl ((if0 _ _).trans (tlt (hc834 : (0 : Int32) < (cpN la (drF p1) (drF p2)))).2.2.2)) ?_
    refine Go.via (fun _ => XS.iload X828.here hx rfl (hb hby at_135) rfl) ?_
    by_cases hc835 : (0 : Int32) < (cpN lb b0 b1)
    · refine Go.via (fun _ => XS.ifNo X828.here hx rfl (hb hby at_137) rfl ((if0 _ _).trans (tlt (hc835 : (0 : Int32) < (cpN lb b0 b1))).2.2.2)) ?_
      refine Go.via (fun _ => XS.aload X828.here hx rfl (hb hby at_140) rfl rfl) ?_
      refine Go.via (fun _ => XS.iconst X828.here hx rfl (hb hby at_142)) ?_
      refine Go.via (ldI X828 hx hZ e828 lf9_828 (v := (cpX la (drF p1) (drF p2))) (by decide) rfl (g := (mkF m 143 #[vi p0, vi p1, vi p2, vi p3, vi p4, vi la, vi lb, vi (drF p1), vi (drF p2), vi b0, vi b1, vr b754, vr b773, vr b795, vr b803, vi (cpN la (drF p1) (drF p2)), vi (cpN lb b0 b1), .unset, .unset] [(.int (0 : Int32)), (.ref b795)])) rfl rfl (hb hby at_143)) ?_
      show Go p e below (T828.setTop (mkF m 144 #[vi p0, vi p1, vi p2, vi p3, vi p4, vi la, vi lb, vi (drF p1), vi (drF p2), vi b0, vi b1, vr b754, vr b773, vr b795, vr b803, vi (cpN la (drF p1) (drF p2)), vi (cpN lb b0 b1), .unset, .unset] [(.int (cpX la (drF p1) (drF p2)))])) _
      refine Go.via (fun _ => XS.aload X828.here hx rfl (hb hby at_144) rfl rfl) ?_
      refine Go.via (fun _ => XS.iconst X828.here hx rfl (hb hby at_146)) ?_
      refine Go.via (ldI X828 hx hZ e828 lf11_828 (v := (cpX lb b0 b1)) (by decide) rfl (g := (mkF m 147 #[vi p0, vi p1, vi p2, vi p3, vi p4, vi la, vi lb, vi (drF p1), vi (drF p2), vi b0, vi b1, vr b754, vr b773, vr b795, vr b803, vi (cpN la (drF p1) (drF p2)), vi (cpN lb b0 b1), .unset, .unset] [(.int (0 : Int32)), (.ref b803), (.int (cpX la (drF p1) (drF p2)))])) rfl rfl (hb hby at_147)) ?_
      show Go p e below (T828.setTop (mkF m 148 #[vi p0, vi p1, vi p2, vi p3, vi p4, vi la, vi lb, vi (drF p1), vi (drF p2), vi b0, vi b1, vr b754, vr b773, vr b795, vr b803, vi (cpN la (drF p1) (drF p2)), vi (cpN lb b0 b1), .unset, .unset] [(.int (cpX lb b0 b1)), (.int (cpX la (drF p1) (drF p2)))])) _
      by_cases hc836 : (cpX la (drF p1) (drF p2)) = (cpX lb b0 b1)
      · refine Go.via (fun _ => XS.icmpYes X828.here hx rfl (pc0 := 148) (pc' := 172) rfl (hb hby at_148) rfl (teq (hc836 : (cpX la (drF p1) (drF p2)) = (cpX lb b0 b1))).1 (by decide) (by decide)) ?_
        show Go p e below (T828.setTop (mkF m 172 #[vi p0, vi p1, vi p2, vi p3, vi p4, vi la, vi lb, vi (drF p1), vi (drF p2), vi b0, vi b1, vr b754, vr b773, vr b795, vr b803, vi (cpN la (drF p1) (drF p2)), vi (cpN lb b0 b1), .unset, .unset] [])) _
        refine Go.via (fun _ => XS.iload X828.here hx rfl (hb hby at_172) rfl) ?_
        refine Go.via (fun _ => XS.iconst X828.here hx rfl (hb hby at_174)) ?_
        by_cases hc837 : (1 : Int32) < (cpN la (drF p1) (drF p2))
        · refine Go.via (fun _ => XS.icmpNo X828.here hx rfl (hb hby at_175) rfl (tlt (hc837 : (1 : Int32) < (cpN la (drF p1) (drF p2)))).2.2.2) ?_
          refine Go.via (fun _ => XS.iload X828.here hx rfl (hb hby at_178) rfl) ?_
          refine Go.via (fun _ => XS.iconst X828.here hx rfl (hb hby at_180)) ?_
          by_cases hc838 : (1 : Int32) < (cpN lb b0 b1)
          · refine Go.via (fun _ => XS.icmpNo X828.here hx rfl (hb hby at_181) rfl (tlt (hc838 : (1 : Int32) < (cpN lb b0 b1))).2.2.2) ?_
            refine Go.via (fun _ => XS.aload X828.here hx rfl (hb hby at_184) rfl rfl) ?_
            refine Go.via (fun _ => XS.iconst X828.here hx rfl (hb hby at_186)) ?_
            refine Go.via (ldI X828 hx hZ e828 lf9_828 (v := (cpY la (drF p1) (drF p2))) (by decide) rfl (g := (mkF m 187 #[vi p0, vi p1, vi p2, vi p3, vi p4, vi la, vi lb, vi (drF p1), vi (drF p2), vi b0, vi b1, vr b754, vr b773, vr b795, vr b803, vi (cpN la (drF p1) (drF p2)), vi (cpN lb b0 b1), .unset, .unset] [(.int (1 : Int32)), (.ref b795)])) rfl rfl (hb hby at_187)) ?_
            show Go p e below (T828.setTop (mkF m 188 #[vi p0, vi p1, vi p2, vi p3, vi p4, vi la, vi lb, vi (drF p1), vi (drF p2), vi b0, vi b1, vr b754, vr b773, vr b795, vr b803, vi (cpN la (drF p1) (drF p2)), vi (cpN lb b0 b1), .unset, .unset] [(.int (cpY la (drF p1) (drF p2)))])) _
            refine Go.via (fun _ => XS.aload X828.here hx rfl (hb hby at_188) rfl rfl) ?_
            refine Go.via (fun _ => XS.iconst X828.here hx rfl (hb hby at_190)) ?_
            refine Go.via (ldI X828 hx hZ e828 lf11_828 (v := (cpY lb b0 b1)) (by decide) rfl (g := (mkF m 191 #[vi p0, vi p1, vi p2, vi p3, vi p4, vi la, vi lb, vi (drF p1), vi (drF p2), vi b0, vi b1, vr b754, vr b773, vr b795, vr b803, vi (cpN la (drF p1) (drF p2)), vi (cpN lb b0 b1), .unset, .unset] [(.int (1 : Int32)), (.ref b803), (.int (cpY la (drF p1) (drF p2)))])) rfl rfl (hb hby at_191)) ?_
            show Go p e below (T828.setTop (mkF m 192 #[vi p0, vi p1, vi p2, vi p3, vi p4, vi la, vi lb, vi (drF p1), vi (drF p2), vi b0, vi b1, vr b754, vr b773, vr b795, vr b803, vi (cpN la (drF p1) (drF p2)), vi (cpN lb b0 b1), .unset, .unset] [(.int (cpY lb b0 b1)), (.int (cpY la (drF p1) (drF p2)))])) _
            by_cases hc839 : (cpY la (drF p1) (drF p2)) = (cpY lb b0 b1)
            · refine Go.via (fun _ => XS.icmpYes X828.here hx rfl (pc0 := 192) (pc' := 216) rfl (hb hby at_192) rfl (teq (hc839 : (cpY la (drF p1) (drF p2)) = (cpY lb b0 b1))).1 (by decide) (by decide)) ?_
              show Go p e below (T828.setTop (mkF m 216 #[vi p0, vi p1, vi p2, vi p3, vi p4, vi la, vi lb, vi (drF p1), vi (drF p2), vi b0, vi b1, vr b754, vr b773, vr b795, vr b803, vi (cpN la (drF p1) (drF p2)), vi (cpN lb b0 b1), .unset, .unset] [])) _
              refine Go.via (fun _ => XS.iload X828.here hx rfl (hb hby at_216) rfl) ?_
              refine Go.via (fun _ => XS.iload X828.here hx rfl (hb hby at_218) rfl) ?_
              by_cases hc840 : (cpN la (drF p1) (drF p2)) < (cpN lb b0 b1)
              · refine Go.via (fun _ => XS.icmpNo X828.here hx rfl (hb hby at_220) rfl (tlt (hc840 : (cpN la (drF p1) (drF p2)) < (cpN lb b0 b1))).2.1) ?_
                refine Go.via (fun _ => XS.iconst X828.here hx rfl (hb hby at_223)) ?_
                refine Go.via (fun _ => XS.goto X828.here hx rfl (pc0 := 224) (pc' := 239) rfl (hb hby at_224) (by decide) (by decide)) ?_
                refine Go.via (fun _ => XS.istore X828.here hx rfl (hb hby at_239) rfl (l' := #[vi p0, vi p1, vi p2, vi p3, vi p4, vi la, vi lb, vi (drF p1), vi (drF p2), vi b0, vi b1, vr b754, vr b773, vr b795, vr b803, vi (cpN la (drF p1) (drF p2)), vi (cpN lb b0 b1), vi (-1 : Int32), .unset]) rfl) ?_
                exact J (-1 : Int32) ((if_pos hc834).trans ((if_pos hc835).trans ((if_pos hc836).trans ((if_pos hc837).trans ((if_pos hc838).trans ((if_pos hc839).trans ((if_pos hc840).trans rfl)))))))
              · refine Go.via (fun _ => XS.icmpYes X828.here hx rfl (pc0 := 220) (pc' := 227) rfl (hb hby at_220) rfl (flt (hc840 : ¬ ((cpN la (drF p1) (drF p2)) < (cpN lb b0 b1)))).2.1 (by decide) (by decide)) ?_
                refine Go.via (fun _ => XS.iload X828.here hx rfl (hb hby at_227) rfl) ?_
                refine Go.via (fun _ => XS.iload X828.here hx rfl (hb hby at_229) rfl) ?_
                by_cases hc841 : (cpN lb b0 b1) < (cpN la (drF p1) (drF p2))
                · refine Go.via (fun _ => XS.icmpNo X828.here hx rfl (hb hby at_231) rfl (tlt (hc841 : (cpN lb b0 b1) < (cpN la (drF p1) (drF p2)))).2.2.2) ?_
                  refine Go.via (fun _ => XS.iconst X828.here hx rfl (hb hby at_234)) ?_
                  refine Go.via (fun _ => XS.goto X828.here hx rfl (pc0 := 235) (pc' := 239) rfl (hb hby at_235) (by decide) (by decide)) ?_
                  refine Go.via (fun _ => XS.istore X828.here hx rfl (hb hby at_239) rfl (l' := #[vi p0, vi p1, vi p2, vi p3, vi p4, vi la, vi lb, vi (drF p1), vi (drF p2), vi b0, vi b1, vr b754, vr b773, vr b795, vr b803, vi (cpN la (drF p1) (drF p2)), vi (cpN lb b0 b1), vi (1 : Int32), .unset]) rfl) ?_
                  exact J (1 : Int32) ((if_pos hc834).trans ((if_pos hc835).trans ((if_pos hc836).trans ((if_pos hc837).trans ((if_pos hc838).trans ((if_pos hc839).trans ((if_neg hc840).trans ((if_pos hc841).trans rfl))))))))
                · refine Go.via (fun _ => XS.icmpYes X828.here hx rfl (pc0 := 231) (pc' := 238) rfl (hb hby at_231) rfl (flt (hc841 : ¬ ((cpN lb b0 b1) < (cpN la (drF p1) (drF p2))))).2.2.2 (by decide) (by decide)) ?_
                  refine Go.via (fun _ => XS.iconst X828.here hx rfl (hb hby at_238)) ?_
                  refine Go.via (fun _ => XS.istore X828.here hx rfl (hb hby at_239) rfl (l' := #[vi p0, vi p1, vi p2, vi p3, vi p4, vi la, vi lb, vi (drF p1), vi (drF p2), vi b0, vi b1, vr b754, vr b773, vr b795, vr b803, vi (cpN la (drF p1) (drF p2)), vi (cpN lb b0 b1), vi (0 : Int32), .unset]) rfl) ?_
                  exact J (0 : Int32) ((if_pos hc834).trans ((if_pos hc835).trans ((if_pos hc836).trans ((if_pos hc837).trans ((if_pos hc838).trans ((if_pos hc839).trans ((if_neg hc840).trans ((if_neg hc841).trans rfl))))))))
            · refine Go.via (fun _ => XS.icmpNo X828.here hx rfl (hb hby at_192) rfl (feq (hc839 : ¬ ((cpY la (drF p1) (drF p2)) = (cpY lb b0 b1)))).1) ?_
              show Go p e below (T828.setTop (mkF m 195 #[vi p0, vi p1, vi p2, vi p3, vi p4, vi la, vi lb, vi (drF p1), vi (drF p2), vi b0, vi b1, vr b754, vr b773, vr b795, vr b803, vi (cpN la (drF p1) (drF p2)), vi (cpN lb b0 b1), .unset, .unset] [])) _
              refine Go.via (fun _ => XS.aload X828.here hx rfl (hb hby at_195) rfl rfl) ?_
              refine Go.via (fun _ => XS.iconst X828.here hx rfl (hb hby at_197)) ?_
              refine Go.via (ldI X828 hx hZ e828 lf9_828 (v := (cpY la (drF p1) (drF p2))) (by decide) rfl (g := (mkF m 198 #[vi p0, vi p1, vi p2, vi p3, vi p4, vi la, vi lb, vi (drF p1), vi (drF p2), vi b0, vi b1, vr b754, vr b773, vr b795, vr b803, vi (cpN la (drF p1) (drF p2)), vi (cpN lb b0 b1), .unset, .unset] [(.int (1 : Int32)), (.ref b795)])) rfl rfl (hb hby at_198)) ?_
              show Go p e below (T828.setTop (mkF m 199 #[vi p0, vi p1, vi p2, vi p3, vi p4, vi la, vi lb, vi (drF p1), vi (drF p2), vi b0, vi b1, vr b754, vr b773, vr b795, vr b803, vi (cpN la (drF p1) (drF p2)), vi (cpN lb b0 b1), .unset, .unset] [(.int (cpY la (drF p1) (drF p2)))])) _
              refine Go.via (fun _ => XS.aload X828.here hx rfl (hb hby at_199) rfl rfl) ?_
              refine Go.via (fun _ => XS.iconst X828.here hx rfl (hb hby at_201)) ?_
              refine Go.via (ldI X828 hx hZ e828 lf11_828 (v := (cpY lb b0 b1)) (by decide) rfl (g := (mkF m 202 #[vi p0, vi p1, vi p2, vi p3, vi p4, vi la, vi lb, vi (drF p1), vi (drF p2), vi b0, vi b1, vr b754, vr b773, vr b795, vr b803, vi (cpN la (drF p1) (drF p2)), vi (cpN lb b0 b1), .unset, .unset] [(.int (1 : Int32)), (.ref b803), (.int (cpY la (drF p1) (drF p2)))])) rfl rfl (hb hby at_202)) ?_
              show Go p e below (T828.setTop (mkF m 203 #[vi p0, vi p1, vi p2, vi p3, vi p4, vi la, vi lb, vi (drF p1), vi (drF p2), vi b0, vi b1, vr b754, vr b773, vr b795, vr b803, vi (cpN la (drF p1) (drF p2)), vi (cpN lb b0 b1), .unset, .unset] [(.int (cpY lb b0 b1)), (.int (cpY la (drF p1) (drF p2)))])) _
              by_cases hc842 : (cpY la (drF p1) (drF p2)) < (cpY lb b0 b1)
              · refine Go.via (fun _ => XS.icmpNo X828.here hx rfl (hb hby at_203) rfl (tlt (hc842 : (cpY la (drF p1) (drF p2)) < (cpY lb b0 b1))).2.1) ?_
                show Go p e below (T828.setTop (mkF m 206 #[vi p0, vi p1, vi p2, vi p3, vi p4, vi la, vi lb, vi (drF p1), vi (drF p2), vi b0, vi b1, vr b754, vr b773, vr b795, vr b803, vi (cpN la (drF p1) (drF p2)), vi (cpN lb b0 b1), .unset, .unset] [])) _
                refine Go.via (fun _ => XS.iconst X828.here hx rfl (hb hby at_206)) ?_
                refine Go.via (fun _ => XS.goto X828.here hx rfl (pc0 := 207) (pc' := 211) rfl (hb hby at_207) (by decide) (by decide)) ?_
                refine Go.via (fun _ => XS.istore X828.here hx rfl (hb hby at_211) rfl (l' := #[vi p0, vi p1, vi p2, vi p3, vi p4, vi la, vi lb, vi (drF p1), vi (drF p2), vi b0, vi b1, vr b754, vr b773, vr b795, vr b803, vi (cpN la (drF p1) (drF p2)), vi (cpN lb b0 b1), vi (-1 : Int32), .unset]) rfl) ?_
                refine Go.via (fun _ => XS.goto X828.here hx rfl (pc0 := 213) (pc' := 241) rfl (hb hby at_213) (by decide) (by decide)) ?_
                exact J (-1 : Int32) ((if_pos hc834).trans ((if_pos hc835).trans ((if_pos hc836).trans ((if_pos hc837).trans ((if_pos hc838).trans ((if_neg hc839).trans ((if_pos hc842).trans rfl)))))))
              · refine Go.via (fun _ => XS.icmpYes X828.here hx rfl (pc0 := 203) (pc' := 210) rfl (hb hby at_203) rfl (flt (hc842 : ¬ ((cpY la (drF p1) (drF p2)) < (cpY lb b0 b1)))).2.1 (by decide) (by decide)) ?_
                show Go p e below (T828.setTop (mkF m 210 #[vi p0, vi p1, vi p2, vi p3, vi p4, vi la, vi lb, vi (drF p1), vi (drF p2), vi b0, vi b1, vr b754, vr b773, vr b795, vr b803, vi (cpN la (drF p1) (drF p2)), vi (cpN lb b0 b1), .unset, .unset] [])) _
                refine Go.via (fun _ => XS.iconst X828.here hx rfl (hb hby at_210)) ?_
                refine Go.via (fun _ => XS.istore X828.here hx rfl (hb hby at_211) rfl (l' := #[vi p0, vi p1, vi p2, vi p3, vi p4, vi la, vi lb, vi (drF p1), vi (drF p2), vi b0, vi b1, vr b754, vr b773, vr b795, vr b803, vi (cpN la (drF p1) (drF p2)), vi (cpN lb b0 b1), vi (1 : Int32), .unset]) rfl) ?_
                refine Go.via (fun _ => XS.goto X828.here hx rfl (pc0 := 213) (pc' := 241) rfl (hb hby at_213) (by decide) (by decide)) ?_
                exact J (1 : Int32) ((if_pos hc834).trans ((if_pos hc835).trans ((if_pos hc836).trans ((if_pos hc837).trans ((if_pos hc838).trans ((if_neg hc839).trans ((if_neg hc842).trans rfl)))))))
          · refine Go.via (fun _ => XS.icmpYes X828.here hx rfl (pc0 := 181) (pc' := 216) rfl (hb hby at_181) rfl (flt (hc838 : ¬ ((1 : Int32) < (cpN lb b0 b1)))).2.2.2 (by decide) (by decide)) ?_
            refine Go.via (fun _ => XS.iload X828.here hx rfl (hb hby at_216) rfl) ?_
            refine Go.via (fun _ => XS.iload X828.here hx rfl (hb hby at_218) rfl) ?_
            by_cases hc843 : (cpN la (drF p1) (drF p2)) < (cpN lb b0 b1)
            · refine Go.via (fun _ => XS.icmpNo X828.here hx rfl (hb hby at_220) rfl (tlt (hc843 : (cpN la (drF p1) (drF p2)) < (cpN lb b0 b1))).2.1) ?_
              refine Go.via (fun _ => XS.iconst X828.here hx rfl (hb hby at_223)) ?_
              show Go p e below (T828.setTop (mkF m 224 #[vi p0, vi p1, vi p2, vi p3, vi p4, vi la, vi lb, vi (drF p1), vi (drF p2), vi b0, vi b1, vr b754, vr b773, vr b795, vr b803, vi (cpN la (drF p1) (drF p2)), vi (cpN lb b0 b1), .unset, .unset] [(.int (-1 : Int32))])) _
              refine Go.via (fun _ => XS.goto X828.here hx rfl (pc0 := 224) (pc' := 239) rfl (hb hby at_224) (by decide) (by decide)) ?_
              refine Go.via (fun _ => XS.istore X828.here hx rfl (hb hby at_239) rfl (l' := #[vi p0, vi p1, vi p2, vi p3, vi p4, vi la, vi lb, vi (drF p1), vi (drF p2), vi b0, vi b1, vr b754, vr b773, vr b795, vr b803, vi (cpN la (drF p1) (drF p2)), vi (cpN lb b0 b1), vi (-1 : Int32), .unset]) rfl) ?_
              exact J (-1 : Int32) ((if_pos hc834).trans ((if_pos hc835).trans ((if_pos hc836).trans ((if_pos hc837).trans ((if_neg hc838).trans ((if_pos hc843).trans rfl))))))
            · refine Go.via (fun _ => XS.icmpYes X828.here hx rfl (pc0 := 220) (pc' := 227) rfl (hb hby at_220) rfl (flt (hc843 : ¬ ((cpN la (drF p1) (drF p2)) < (cpN lb b0 b1)))).2.1 (by decide) (by decide)) ?_
              refine Go.via (fun _ => XS.iload X828.here hx rfl (hb hby at_227) rfl) ?_
              show Go p e below (T828.setTop (mkF m 229 #[vi p0, vi p1, vi p2, vi p3, vi p4, vi la, vi lb, vi (drF p1), vi (drF p2), vi b0, vi b1, vr b754, vr b773, vr b795, vr b803, vi (cpN la (drF p1) (drF p2)), vi (cpN lb b0 b1), .unset, .unset] [(.int (cpN la (drF p1) (drF p2)))])) _
              refine Go.via (fun _ => XS.iload X828.here hx rfl (hb hby at_229) rfl) ?_
              by_cases hc844 : (cpN lb b0 b1) < (cpN la (drF p1) (drF p2))
              · refine Go.via (fun _ => XS.icmpNo X828.here hx rfl (hb hby at_231) rfl (tlt (hc844 : (cpN lb b0 b1) < (cpN la (drF p1) (drF p2)))).2.2.2) ?_
                refine Go.via (fun _ => XS.iconst X828.here hx rfl (hb hby at_234)) ?_
                refine Go.via (fun _ => XS.goto X828.here hx rfl (pc0 := 235) (pc' := 239) rfl (hb hby at_235) (by decide) (by decide)) ?_
                refine Go.via (fun _ => XS.istore X828.here hx rfl (hb hby at_239) rfl (l' := #[vi p0, vi p1, vi p2, vi p3, vi p4, vi la, vi lb, vi (drF p1), vi (drF p2), vi b0, vi b1, vr b754, vr b773, vr b795, vr b803, vi (cpN la (drF p1) (drF p2)), vi (cpN lb b0 b1), vi (1 : Int32), .unset]) rfl) ?_
                exact J (1 : Int32) ((if_pos hc834).trans ((if_pos hc835).trans ((if_pos hc836).trans ((if_pos hc837).trans ((if_neg hc838).trans ((if_neg hc843).trans ((if_pos hc844).trans rfl)))))))
              · refine Go.via (fun _ => XS.icmpYes X828.here hx rfl (pc0 := 231) (pc' := 238) rfl (hb hby at_231) rfl (flt (hc844 : ¬ ((cpN lb b0 b1) < (cpN la (drF p1) (drF p2))))).2.2.2 (by decide) (by decide)) ?_
                refine Go.via (fun _ => XS.iconst X828.here hx rfl (hb hby at_238)) ?_
                refine Go.via (fun _ => XS.istore X828.here hx rfl (hb hby at_239) rfl (l' := #[vi p0, vi p1, vi p2, vi p3, vi p4, vi la, vi lb, vi (drF p1), vi (drF p2), vi b0, vi b1, vr b754, vr b773, vr b795, vr b803, vi (cpN la (drF p1) (drF p2)), vi (cpN lb b0 b1), vi (0 : Int32), .unset]) rfl) ?_
                exact J (0 : Int32) ((if_pos hc834).trans ((if_pos hc835).trans ((if_pos hc836).trans ((if_pos hc837).trans ((if_neg hc838).trans ((if_neg hc843).trans ((if_neg hc844).trans rfl)))))))
        · refine Go.via (fun _ => XS.icmpYes X828.here hx rfl (pc0 := 175) (pc' := 216) rfl (hb hby at_175) rfl (flt (hc837 : ¬ ((1 : Int32) < (cpN la (drF p1) (drF p2))))).2.2.2 (by decide) (by decide)) ?_
          refine Go.via (fun _ => XS.iload X828.here hx rfl (hb hby at_216) rfl) ?_
          refine Go.via (fun _ => XS.iload X828.here hx rfl (hb hby at_218) rfl) ?_
          by_cases hc845 : (cpN la (drF p1) (drF p2)) < (cpN lb b0 b1)
          · refine Go.via (fun _ => XS.icmpNo X828.here hx rfl (hb hby at_220) rfl (tlt (hc845 : (cpN la (drF p1) (drF p2)) < (cpN lb b0 b1))).2.1) ?_
            refine Go.via (fun _ => XS.iconst X828.here hx rfl (hb hby at_223)) ?_
            refine Go.via (fun _ => XS.goto X828.here hx rfl (pc0 := 224) (pc' := 239) rfl (hb hby at_224) (by decide) (by decide)) ?_
            refine Go.via (fun _ => XS.istore X828.here hx rfl (hb hby at_239) rfl (l' := #[vi p0, vi p1, vi p2, vi p3, vi p4, vi la, vi lb, vi (drF p1), vi (drF p2), vi b0, vi b1, vr b754, vr b773, vr b795, vr b803, vi (cpN la (drF p1) (drF p2)), vi (cpN lb b0 b1), vi (-1 : Int32), .unset]) rfl) ?_
            exact J (-1 : Int32) ((if_pos hc834).trans ((if_pos hc835).trans ((if_pos hc836).trans ((if_neg hc837).trans ((if_pos hc845).trans rfl)))))
          · refine Go.via (fun _ => XS.icmpYes X828.here hx rfl (pc0 := 220) (pc' := 227) rfl (hb hby at_220) rfl (flt (hc845 : ¬ ((cpN la (drF p1) (drF p2)) < (cpN lb b0 b1)))).2.1 (by decide) (by decide)) ?_
            refine Go.via (fun _ => XS.iload X828.here hx rfl (hb hby at_227) rfl) ?_
            refine Go.via (fun _ => XS.iload X828.here hx rfl (hb hby at_229) rfl) ?_
            by_cases hc846 : (cpN lb b0 b1) < (cpN la (drF p1) (drF p2))
            · refine Go.via (fun _ => XS.icmpNo X828.here hx rfl (hb hby at_231) rfl (tlt (hc846 : (cpN lb b0 b1) < (cpN la (drF p1) (drF p2)))).2.2.2) ?_
              refine Go.via (fun _ => XS.iconst X828.here hx rfl (hb hby at_234)) ?_
              show Go p e below (T828.setTop (mkF m 235 #[vi p0, vi p1, vi p2, vi p3, vi p4, vi la, vi lb, vi (drF p1), vi (drF p2), vi b0, vi b1, vr b754, vr b773, vr b795, vr b803, vi (cpN la (drF p1) (drF p2)), vi (cpN lb b0 b1), .unset, .unset] [(.int (1 : Int32))])) _
              refine Go.via (fun _ => XS.goto X828.here hx rfl (pc0 := 235) (pc' := 239) rfl (hb hby at_235) (by decide) (by decide)) ?_
              refine Go.via (fun _ => XS.istore X828.here hx rfl (hb hby at_239) rfl (l' := #[vi p0, vi p1, vi p2, vi p3, vi p4, vi la, vi lb, vi (drF p1), vi (drF p2), vi b0, vi b1, vr b754, vr b773, vr b795, vr b803, vi (cpN la (drF p1) (drF p2)), vi (cpN lb b0 b1), vi (1 : Int32), .unset]) rfl) ?_
              exact J (1 : Int32) ((if_pos hc834).trans ((if_pos hc835).trans ((if_pos hc836).trans ((if_neg hc837).trans ((if_neg hc845).trans ((if_pos hc846).trans rfl))))))
            · refine Go.via (fun _ => XS.icmpYes X828.here hx rfl (pc0 := 231) (pc' := 238) rfl (hb hby at_231) rfl (flt (hc846 : ¬ ((cpN lb b0 b1) < (cpN la (drF p1) (drF p2))))).2.2.2 (by decide) (by decide)) ?_
              refine Go.via (fun _ => XS.iconst X828.here hx rfl (hb hby at_238)) ?_
              show Go p e below (T828.setTop (mkF m 239 #[vi p0, vi p1, vi p2, vi p3, vi p4, vi la, vi lb, vi (drF p1), vi (drF p2), vi b0, vi b1, vr b754, vr b773, vr b795, vr b803, vi (cpN la (drF p1) (drF p2)), vi (cpN lb b0 b1), .unset, .unset] [(.int (0 : Int32))])) _
              refine Go.via (fun _ => XS.istore X828.here hx rfl (hb hby at_239) rfl (l' := #[vi p0, vi p1, vi p2, vi p3, vi p4, vi la, vi lb, vi (drF p1), vi (drF p2), vi b0, vi b1, vr b754, vr b773, vr b795, vr b803, vi (cpN la (drF p1) (drF p2)), vi (cpN lb b0 b1), vi (0 : Int32), .unset]) rfl) ?_
              exact J (0 : Int32) ((if_pos hc834).trans ((if_pos hc835).trans ((if_pos hc836).trans ((if_neg hc837).trans ((if_neg hc845).trans ((if_neg hc846).trans rfl))))))
      · refine Go.via (fun _ => XS.icmpNo X828.here hx rfl (hb hby at_148) rfl (feq (hc836 : ¬ ((cpX la (drF p1) (drF p2)) = (cpX lb b0 b1)))).1) ?_
        show Go p e below (T828.setTop (mkF m 151 #[vi p0, vi p1, vi p2, vi p3, vi p4, vi la, vi lb, vi (drF p1), vi (drF p2), vi b0, vi b1, vr b754, vr b773, vr b795, vr b803, vi (cpN la (drF p1) (drF p2)), vi (cpN lb b0 b1), .unset, .unset] [])) _
        refine Go.via (fun _ => XS.aload X828.here hx rfl (hb hby at_151) rfl rfl) ?_
        refine Go.via (fun _ => XS.iconst X828.here hx rfl (hb hby at_153)) ?_
        refine Go.via (ldI X828 hx hZ e828 lf9_828 (v := (cpX la (drF p1) (drF p2))) (by decide) rfl (g := (mkF m 154 #[vi p0, vi p1, vi p2, vi p3, vi p4, vi la, vi lb, vi (drF p1), vi (drF p2), vi b0, vi b1, vr b754, vr b773, vr b795, vr b803, vi (cpN la (drF p1) (drF p2)), vi (cpN lb b0 b1), .unset, .unset] [(.int (0 : Int32)), (.ref b795)])) rfl rfl (hb hby at_154)) ?_
        show Go p e below (T828.setTop (mkF m 155 #[vi p0, vi p1, vi p2, vi p3, vi p4, vi la, vi lb, vi (drF p1), vi (drF p2), vi b0, vi b1, vr b754, vr b773, vr b795, vr b803, vi (cpN la (drF p1) (drF p2)), vi (cpN lb b0 b1), .unset, .unset] [(.int (cpX la (drF p1) (drF p2)))])) _
        refine Go.via (fun _ => XS.aload X828.here hx rfl (hb hby at_155) rfl rfl) ?_
        refine Go.via (fun _ => XS.iconst X828.here hx rfl (hb hby at_157)) ?_
        refine Go.via (ldI X828 hx hZ e828 lf11_828 (v := (cpX lb b0 b1)) (by decide) rfl (g := (mkF m 158 #[vi p0, vi p1, vi p2, vi p3, vi p4, vi la, vi lb, vi (drF p1), vi (drF p2), vi b0, vi b1, vr b754, vr b773, vr b795, vr b803, vi (cpN la (drF p1) (drF p2)), vi (cpN lb b0 b1), .unset, .unset] [(.int (0 : Int32)), (.ref b803), (.int (cpX la (drF p1) (drF p2)))])) rfl rfl (hb hby at_158)) ?_
        show Go p e below (T828.setTop (mkF m 159 #[vi p0, vi p1, vi p2, vi p3, vi p4, vi la, vi lb, vi (drF p1), vi (drF p2), vi b0, vi b1, vr b754, vr b773, vr b795, vr b803, vi (cpN la (drF p1) (drF p2)), vi (cpN lb b0 b1), .unset, .unset] [(.int (cpX lb b0 b1)), (.int (cpX la (drF p1) (drF p2)))])) _
        by_cases hc847 : (cpX la (drF p1) (drF p2)) < (cpX lb b0 b1)
        · refine Go.via (fun _ => XS.icmpNo X828.here hx rfl (hb hby at_159) rfl (tlt (hc847 : (cpX la (drF p1) (drF p2)) < (cpX lb b0 b1))).2.1) ?_
          show Go p e below (T828.setTop (mkF m 162 #[vi p0, vi p1, vi p2, vi p3, vi p4, vi la, vi lb, vi (drF p1), vi (drF p2), vi b0, vi b1, vr b754, vr b773, vr b795, vr b803, vi (cpN la (drF p1) (drF p2)), vi (cpN lb b0 b1), .unset, .unset] [])) _
          refine Go.via (fun _ => XS.iconst X828.here hx rfl (hb hby at_162)) ?_
          refine Go.via (fun _ => XS.goto X828.here hx rfl (pc0 := 163) (pc' := 167) rfl (hb hby at_163) (by decide) (by decide)) ?_
          refine Go.via (fun _ => XS.istore X828.here hx rfl (hb hby at_167) rfl (l' := #[vi p0, vi p1, vi p2, vi p3, vi p4, vi la, vi lb, vi (drF p1), vi (drF p2), vi b0, vi b1, vr b754, vr b773, vr b795, vr b803, vi (cpN la (drF p1) (drF p2)), vi (cpN lb b0 b1), vi (-1 : Int32), .unset]) rfl) ?_
          refine Go.via (fun _ => XS.goto X828.here hx rfl (pc0 := 169) (pc' := 241) rfl (hb hby at_169) (by decide) (by decide)) ?_
          exact J (-1 : Int32) ((if_pos hc834).trans ((if_pos hc835).trans ((if_neg hc836).trans ((if_pos hc847).trans rfl))))
        · refine Go.via (fun _ => XS.icmpYes X828.here hx rfl (pc0 := 159) (pc' := 166) rfl (hb hby at_159) rfl (flt (hc847 : ¬ ((cpX la (drF p1) (drF p2)) < (cpX lb b0 b1)))).2.1 (by decide) (by decide)) ?_
          show Go p e below (T828.setTop (mkF m 166 #[vi p0, vi p1, vi p2, vi p3, vi p4, vi la, vi lb, vi (drF p1), vi (drF p2), vi b0, vi b1, vr b754, vr b773, vr b795, vr b803, vi (cpN la (drF p1) (drF p2)), vi (cpN lb b0 b1), .unset, .unset] [])) _
          refine Go.via (fun _ => XS.iconst X828.here hx rfl (hb hby at_166)) ?_
          refine Go.via (fun _ => XS.istore X828.here hx rfl (hb hby at_167) rfl (l' := #[vi p0, vi p1, vi p2, vi p3, vi p4, vi la, vi lb, vi (drF p1), vi (drF p2), vi b0, vi b1, vr b754, vr b773, vr b795, vr b803, vi (cpN la (drF p1) (drF p2)), vi (cpN lb b0 b1), vi (1 : Int32), .unset]) rfl) ?_
          refine Go.via (fun _ => XS.goto X828.here hx rfl (pc0 := 169) (pc' := 241) rfl (hb hby at_169) (by decide) (by decide)) ?_
          exact J (1 : Int32) ((if_pos hc834).trans ((if_pos hc835).trans ((if_neg hc836).trans ((if_neg hc847).trans rfl))))
    · refine Go.via (fun _ => XS.ifYes X828.here hx rfl (pc0 := 137) (pc' := 172) rfl (hb hby at_137) rfl ((if0 _ _).trans (flt (hc835 : ¬ ((0 : Int32) < (cpN lb b0 b1)))).2.2.2) (by decide) (by decide)) ?_
      refine Go.via (fun _ => XS.iload X828.here hx rfl (hb hby at_172) rfl) ?_
      refine Go.via (fun _ => XS.iconst X828.here hx rfl (hb hby at_174)) ?_
      by_cases hc848 : (1 : Int32) < (cpN la (drF p1) (drF p2))
      · refine Go.via (fun _ => XS.icmpNo X828.here hx rfl (hb hby at_175) rfl (tlt (hc848 : (1 : Int32) < (cpN la (drF p1) (drF p2)))).2.2.2) ?_
        refine Go.via (fun _ => XS.iload X828.here hx rfl (hb hby at_178) rfl) ?_
        refine Go.via (fun _ => XS.iconst X828.here hx rfl (hb hby at_180)) ?_
        show Go p e below (T828.setTop (mkF m 181 #[vi p0, vi p1, vi p2, vi p3, vi p4, vi la, vi lb, vi (drF p1), vi (drF p2), vi b0, vi b1, vr b754, vr b773, vr b795, vr b803, vi (cpN la (drF p1) (drF p2)), vi (cpN lb b0 b1), .unset, .unset] [(.int (1 : Int32)), (.int (cpN lb b0 b1))])) _
        by_cases hc849 : (1 : Int32) < (cpN lb b0 b1)
        · refine Go.via (fun _ => XS.icmpNo X828.here hx rfl (hb hby at_181) rfl (tlt (hc849 : (1 : Int32) < (cpN lb b0 b1))).2.2.2) ?_
          show Go p e below (T828.setTop (mkF m 184 #[vi p0, vi p1, vi p2, vi p3, vi p4, vi la, vi lb, vi (drF p1), vi (drF p2), vi b0, vi b1, vr b754, vr b773, vr b795, vr b803, vi (cpN la (drF p1) (drF p2)), vi (cpN lb b0 b1), .unset, .unset] [])) _
          refine Go.via (fun _ => XS.aload X828.here hx rfl (hb hby at_184) rfl rfl) ?_
          refine Go.via (fun _ => XS.iconst X828.here hx rfl (hb hby at_186)) ?_
          refine Go.via (ldI X828 hx hZ e828 lf9_828 (v := (cpY la (drF p1) (drF p2))) (by decide) rfl (g := (mkF m 187 #[vi p0, vi p1, vi p2, vi p3, vi p4, vi la, vi lb, vi (drF p1), vi (drF p2), vi b0, vi b1, vr b754, vr b773, vr b795, vr b803, vi (cpN la (drF p1) (drF p2)), vi (cpN lb b0 b1), .unset, .unset] [(.int (1 : Int32)), (.ref b795)])) rfl rfl (hb hby at_187)) ?_
          show Go p e below (T828.setTop (mkF m 188 #[vi p0, vi p1, vi p2, vi p3, vi p4, vi la, vi lb, vi (drF p1), vi (drF p2), vi b0, vi b1, vr b754, vr b773, vr b795, vr b803, vi (cpN la (drF p1) (drF p2)), vi (cpN lb b0 b1), .unset, .unset] [(.int (cpY la (drF p1) (drF p2)))])) _
          refine Go.via (fun _ => XS.aload X828.here hx rfl (hb hby at_188) rfl rfl) ?_
          refine Go.via (fun _ => XS.iconst X828.here hx rfl (hb hby at_190)) ?_
          refine Go.via (ldI X828 hx hZ e828 lf11_828 (v := (cpY lb b0 b1)) (by decide) rfl (g := (mkF m 191 #[vi p0, vi p1, vi p2, vi p3, vi p4, vi la, vi lb, vi (drF p1), vi (drF p2), vi b0, vi b1, vr b754, vr b773, vr b795, vr b803, vi (cpN la (drF p1) (drF p2)), vi (cpN lb b0 b1), .unset, .unset] [(.int (1 : Int32)), (.ref b803), (.int (cpY la (drF p1) (drF p2)))])) rfl rfl (hb hby at_191)) ?_
          show Go p e below (T828.setTop (mkF m 192 #[vi p0, vi p1, vi p2, vi p3, vi p4, vi la, vi lb, vi (drF p1), vi (drF p2), vi b0, vi b1, vr b754, vr b773, vr b795, vr b803, vi (cpN la (drF p1) (drF p2)), vi (cpN lb b0 b1), .unset, .unset] [(.int (cpY lb b0 b1)), (.int (cpY la (drF p1) (drF p2)))])) _
          by_cases hc850 : (cpY la (drF p1) (drF p2)) = (cpY lb b0 b1)
          · refine Go.via (fun _ => XS.icmpYes X828.here hx rfl (pc0 := 192) (pc' := 216) rfl (hb hby at_192) rfl (teq (hc850 : (cpY la (drF p1) (drF p2)) = (cpY lb b0 b1))).1 (by decide) (by decide)) ?_
            show Go p e below (T828.setTop (mkF m 216 #[vi p0, vi p1, vi p2, vi p3, vi p4, vi la, vi lb, vi (drF p1), vi (drF p2), vi b0, vi b1, vr b754, vr b773, vr b795, vr b803, vi (cpN la (drF p1) (drF p2)), vi (cpN lb b0 b1), .unset, .unset] [])) _
            refine Go.via (fun _ => XS.iload X828.here hx rfl (hb hby at_216) rfl) ?_
            refine Go.via (fun _ => XS.iload X828.here hx rfl (hb hby at_218) rfl) ?_
            by_cases hc851 : (cpN la (drF p1) (drF p2)) < (cpN lb b0 b1)
            · refine Go.via (fun _ => XS.icmpNo X828.here hx rfl (hb hby at_220) rfl (tlt (hc851 : (cpN la (drF p1) (drF p2)) < (cpN lb b0 b1))).2.1) ?_
              refine Go.via (fun _ => XS.iconst X828.here hx rfl (hb hby at_223)) ?_
              refine Go.via (fun _ => XS.goto X828.here hx rfl (pc0 := 224) (pc' := 239) rfl (hb hby at_224) (by decide) (by decide)) ?_
              refine Go.via (fun _ => XS.istore X828.here hx rfl (hb hby at_239) rfl (l' := #[vi p0, vi p1, vi p2, vi p3, vi p4, vi la, vi lb, vi (drF p1), vi (drF p2), vi b0, vi b1, vr b754, vr b773, vr b795, vr b803, vi (cpN la (drF p1) (drF p2)), vi (cpN lb b0 b1), vi (-1 : Int32), .unset]) rfl) ?_
              exact J (-1 : Int32) ((if_pos hc834).trans ((if_neg hc835).trans ((if_pos hc848).trans ((if_pos hc849).trans ((if_pos hc850).trans ((if_pos hc851).trans rfl))))))
            · refine Go.via (fun _ => XS.icmpYes X828.here hx rfl (pc0 := 220) (pc' := 227) rfl (hb hby at_220) rfl (flt (hc851 : ¬ ((cpN la (drF p1) (drF p2)) < (cpN lb b0 b1)))).2.1 (by decide) (by decide)) ?_
              refine Go.via (fun _ => XS.iload X828.here hx rfl (hb hby at_227) rfl) ?_
              refine Go.via (fun _ => XS.iload X828.here hx rfl (hb hby at_229) rfl) ?_
              by_cases hc852 : (cpN lb b0 b1) < (cpN la (drF p1) (drF p2))
              · refine Go.via (fun _ => XS.icmpNo X828.here hx rfl (hb hby at_231) rfl (tlt (hc852 : (cpN lb b0 b1) < (cpN la (drF p1) (drF p2)))).2.2.2) ?_
                refine Go.via (fun _ => XS.iconst X828.here hx rfl (hb hby at_234)) ?_
                refine Go.via (fun _ => XS.goto X828.here hx rfl (pc0 := 235) (pc' := 239) rfl (hb hby at_235) (by decide) (by decide)) ?_
                refine Go.via (fun _ => XS.istore X828.here hx rfl (hb hby at_239) rfl (l' := #[vi p0, vi p1, vi p2, vi p3, vi p4, vi la, vi lb, vi (drF p1), vi (drF p2), vi b0, vi b1, vr b754, vr b773, vr b795, vr b803, vi (cpN la (drF p1) (drF p2)), vi (cpN lb b0 b1), vi (1 : Int32), .unset]) rfl) ?_
                exact J (1 : Int32) ((if_pos hc834).trans ((if_neg hc835).trans ((if_pos hc848).trans ((if_pos hc849).trans ((if_pos hc850).trans ((if_neg hc851).trans ((if_pos hc852).trans rfl)))))))
              · refine Go.via (fun _ => XS.icmpYes X828.here hx rfl (pc0 := 231) (pc' := 238) rfl (hb hby at_231) rfl (flt (hc852 : ¬ ((cpN lb b0 b1) < (cpN la (drF p1) (drF p2))))).2.2.2 (by decide) (by decide)) ?_
                refine Go.via (fun _ => XS.iconst X828.here hx rfl (hb hby at_238)) ?_
                refine Go.via (fun _ => XS.istore X828.here hx rfl (hb hby at_239) rfl (l' := #[vi p0, vi p1, vi p2, vi p3, vi p4, vi la, vi lb, vi (drF p1), vi (drF p2), vi b0, vi b1, vr b754, vr b773, vr b795, vr b803, vi (cpN la (drF p1) (drF p2)), vi (cpN lb b0 b1), vi (0 : Int32), .unset]) rfl) ?_
                exact J (0 : Int32) ((if_pos hc834).trans ((if_neg hc835).trans ((if_pos hc848).trans ((if_pos hc849).trans ((if_pos hc850).trans ((if_neg hc851).trans ((if_neg hc852).trans rfl)))))))
          · refine Go.via (fun _ => XS.icmpNo X828.here hx rfl (hb hby at_192) rfl (feq (hc850 : ¬ ((cpY la (drF p1) (drF p2)) = (cpY lb b0 b1)))).1) ?_
            show Go p e below (T828.setTop (mkF m 195 #[vi p0, vi p1, vi p2, vi p3, vi p4, vi la, vi lb, vi (drF p1), vi (drF p2), vi b0, vi b1, vr b754, vr b773, vr b795, vr b803, vi (cpN la (drF p1) (drF p2)), vi (cpN lb b0 b1), .unset, .unset] [])) _
            refine Go.via (fun _ => XS.aload X828.here hx rfl (hb hby at_195) rfl rfl) ?_
            refine Go.via (fun _ => XS.iconst X828.here hx rfl (hb hby at_197)) ?_
            refine Go.via (ldI X828 hx hZ e828 lf9_828 (v := (cpY la (drF p1) (drF p2))) (by decide) rfl (g := (mkF m 198 #[vi p0, vi p1, vi p2, vi p3, vi p4, vi la, vi lb, vi (drF p1), vi (drF p2), vi b0, vi b1, vr b754, vr b773, vr b795, vr b803, vi (cpN la (drF p1) (drF p2)), vi (cpN lb b0 b1), .unset, .unset] [(.int (1 : Int32)), (.ref b795)])) rfl rfl (hb hby at_198)) ?_
            show Go p e below (T828.setTop (mkF m 199 #[vi p0, vi p1, vi p2, vi p3, vi p4, vi la, vi lb, vi (drF p1), vi (drF p2), vi b0, vi b1, vr b754, vr b773, vr b795, vr b803, vi (cpN la (drF p1) (drF p2)), vi (cpN lb b0 b1), .unset, .unset] [(.int (cpY la (drF p1) (drF p2)))])) _
            refine Go.via (fun _ => XS.aload X828.here hx rfl (hb hby at_199) rfl rfl) ?_
            refine Go.via (fun _ => XS.iconst X828.here hx rfl (hb hby at_201)) ?_
            refine Go.via (ldI X828 hx hZ e828 lf11_828 (v := (cpY lb b0 b1)) (by decide) rfl (g := (mkF m 202 #[vi p0, vi p1, vi p2, vi p3, vi p4, vi la, vi lb, vi (drF p1), vi (drF p2), vi b0, vi b1, vr b754, vr b773, vr b795, vr b803, vi (cpN la (drF p1) (drF p2)), vi (cpN lb b0 b1), .unset, .unset] [(.int (1 : Int32)), (.ref b803), (.int (cpY la (drF p1) (drF p2)))])) rfl rfl (hb hby at_202)) ?_
            show Go p e below (T828.setTop (mkF m 203 #[vi p0, vi p1, vi p2, vi p3, vi p4, vi la, vi lb, vi (drF p1), vi (drF p2), vi b0, vi b1, vr b754, vr b773, vr b795, vr b803, vi (cpN la (drF p1) (drF p2)), vi (cpN lb b0 b1), .unset, .unset] [(.int (cpY lb b0 b1)), (.int (cpY la (drF p1) (drF p2)))])) _
            by_cases hc853 : (cpY la (drF p1) (drF p2)) < (cpY lb b0 b1)
            · refine Go.via (fun _ => XS.icmpNo X828.here hx rfl (hb hby at_203) rfl (tlt (hc853 : (cpY la (drF p1) (drF p2)) < (cpY lb b0 b1))).2.1) ?_
              show Go p e below (T828.setTop (mkF m 206 #[vi p0, vi p1, vi p2, vi p3, vi p4, vi la, vi lb, vi (drF p1), vi (drF p2), vi b0, vi b1, vr b754, vr b773, vr b795, vr b803, vi (cpN la (drF p1) (drF p2)), vi (cpN lb b0 b1), .unset, .unset] [])) _
              refine Go.via (fun _ => XS.iconst X828.here hx rfl (hb hby at_206)) ?_
              refine Go.via (fun _ => XS.goto X828.here hx rfl (pc0 := 207) (pc' := 211) rfl (hb hby at_207) (by decide) (by decide)) ?_
              refine Go.via (fun _ => XS.istore X828.here hx rfl (hb hby at_211) rfl (l' := #[vi p0, vi p1, vi p2, vi p3, vi p4, vi la, vi lb, vi (drF p1), vi (drF p2), vi b0, vi b1, vr b754, vr b773, vr b795, vr b803, vi (cpN la (drF p1) (drF p2)), vi (cpN lb b0 b1), vi (-1 : Int32), .unset]) rfl) ?_
              refine Go.via (fun _ => XS.goto X828.here hx rfl (pc0 := 213) (pc' := 241) rfl (hb hby at_213) (by decide) (by decide)) ?_
              exact J (-1 : Int32) ((if_pos hc834).trans ((if_neg hc835).trans ((if_pos hc848).trans ((if_pos hc849).trans ((if_neg hc850).trans ((if_pos hc853).trans rfl))))))
            · refine Go.via (fun _ => XS.icmpYes X828.here hx rfl (pc0 := 203) (pc' := 210) rfl (hb hby at_203) rfl (flt (hc853 : ¬ ((cpY la (drF p1) (drF p2)) < (cpY lb b0 b1)))).2.1 (by decide) (by decide)) ?_
              show Go p e below (T828.setTop (mkF m 210 #[vi p0, vi p1, vi p2, vi p3, vi p4, vi la, vi lb, vi (drF p1), vi (drF p2), vi b0, vi b1, vr b754, vr b773, vr b795, vr b803, vi (cpN la (drF p1) (drF p2)), vi (cpN lb b0 b1), .unset, .unset] [])) _
              refine Go.via (fun _ => XS.iconst X828.here hx rfl (hb hby at_210)) ?_
              refine Go.via (fun _ => XS.istore X828.here hx rfl (hb hby at_211) rfl (l' := #[vi p0, vi p1, vi p2, vi p3, vi p4, vi la, vi lb, vi (drF p1), vi (drF p2), vi b0, vi b1, vr b754, vr b773, vr b795, vr b803, vi (cpN la (drF p1) (drF p2)), vi (cpN lb b0 b1), vi (1 : Int32), .unset]) rfl) ?_
              refine Go.via (fun _ => XS.goto X828.here hx rfl (pc0 := 213) (pc' := 241) rfl (hb hby at_213) (by decide) (by decide)) ?_
              exact J (1 : Int32) ((if_pos hc834).trans ((if_neg hc835).trans ((if_pos hc848).trans ((if_pos hc849).trans ((if_neg hc850).trans ((if_neg hc853).trans rfl))))))
        · refine Go.via (fun _ => XS.icmpYes X828.here hx rfl (pc0 := 181) (pc' := 216) rfl (hb hby at_181) rfl (flt (hc849 : ¬ ((1 : Int32) < (cpN lb b0 b1)))).2.2.2 (by decide) (by decide)) ?_
          show Go p e below (T828.setTop (mkF m 216 #[vi p0, vi p1, vi p2, vi p3, vi p4, vi la, vi lb, vi (drF p1), vi (drF p2), vi b0, vi b1, vr b754, vr b773, vr b795, vr b803, vi (cpN la (drF p1) (drF p2)), vi (cpN lb b0 b1), .unset, .unset] [])) _
          refine Go.via (fun _ => XS.iload X828.here hx rfl (hb hby at_216) rfl) ?_
          refine Go.via (fun _ => XS.iload X828.here hx rfl (hb hby at_218) rfl) ?_
          by_cases hc854 : (cpN la (drF p1) (drF p2)) < (cpN lb b0 b1)
          · refine Go.via (fun _ => XS.icmpNo X828.here hx rfl (hb hby at_220) rfl (tlt (hc854 : (cpN la (drF p1) (drF p2)) < (cpN lb b0 b1))).2.1) ?_
            refine Go.via (fun _ => XS.iconst X828.here hx rfl (hb hby at_223)) ?_
            refine Go.via (fun _ => XS.goto X828.here hx rfl (pc0 := 224) (pc' := 239) rfl (hb hby at_224) (by decide) (by decide)) ?_
            refine Go.via (fun _ => XS.istore X828.here hx rfl (hb hby at_239) rfl (l' := #[vi p0, vi p1, vi p2, vi p3, vi p4, vi la, vi lb, vi (drF p1), vi (drF p2), vi b0, vi b1, vr b754, vr b773, vr b795, vr b803, vi (cpN la (drF p1) (drF p2)), vi (cpN lb b0 b1), vi (-1 : Int32), .unset]) rfl) ?_
            exact J (-1 : Int32) ((if_pos hc834).trans ((if_neg hc835).trans ((if_pos hc848).trans ((if_neg hc849).trans ((if_pos hc854).trans rfl)))))
          · refine Go.via (fun _ => XS.icmpYes X828.here hx rfl (pc0 := 220) (pc' := 227) rfl (hb hby at_220) rfl (flt (hc854 : ¬ ((cpN la (drF p1) (drF p2)) < (cpN lb b0 b1)))).2.1 (by decide) (by decide)) ?_
            refine Go.via (fun _ => XS.iload X828.here hx rfl (hb hby at_227) rfl) ?_
            refine Go.via (fun _ => XS.iload X828.here hx rfl (hb hby at_229) rfl) ?_
            by_cases hc855 : (cpN lb b0 b1) < (cpN la (drF p1) (drF p2))
            · refine Go.via (fun _ => XS.icmpNo X828.here hx rfl (hb hby at_231) rfl (tlt (hc855 : (cpN lb b0 b1) < (cpN la (drF p1) (drF p2)))).2.2.2) ?_
              refine Go.via (fun _ => XS.iconst X828.here hx rfl (hb hby at_234)) ?_
              refine Go.via (fun _ => XS.goto X828.here hx rfl (pc0 := 235) (pc' := 239) rfl (hb hby at_235) (by decide) (by decide)) ?_
              refine Go.via (fun _ => XS.istore X828.here hx rfl (hb hby at_239) rfl (l' := #[vi p0, vi p1, vi p2, vi p3, vi p4, vi la, vi lb, vi (drF p1), vi (drF p2), vi b0, vi b1, vr b754, vr b773, vr b795, vr b803, vi (cpN la (drF p1) (drF p2)), vi (cpN lb b0 b1), vi (1 : Int32), .unset]) rfl) ?_
              exact J (1 : Int32) ((if_pos hc834).trans ((if_neg hc835).trans ((if_pos hc848).trans ((if_neg hc849).trans ((if_neg hc854).trans ((if_pos hc855).trans rfl))))))
            · refine Go.via (fun _ => XS.icmpYes X828.here hx rfl (pc0 := 231) (pc' := 238) rfl (hb hby at_231) rfl (flt (hc855 : ¬ ((cpN lb b0 b1) < (cpN la (drF p1) (drF p2))))).2.2.2 (by decide) (by decide)) ?_
              refine Go.via (fun _ => XS.iconst X828.here hx rfl (hb hby at_238)) ?_
              refine Go.via (fun _ => XS.istore X828.here hx rfl (hb hby at_239) rfl (l' := #[vi p0, vi p1, vi p2, vi p3, vi p4, vi la, vi lb, vi (drF p1), vi (drF p2), vi b0, vi b1, vr b754, vr b773, vr b795, vr b803, vi (cpN la (drF p1) (drF p2)), vi (cpN lb b0 b1), vi (0 : Int32), .unset]) rfl) ?_
              exact J (0 : Int32) ((if_pos hc834).trans ((if_neg hc835).trans ((if_pos hc848).trans ((if_neg hc849).trans ((if_neg hc854).trans ((if_neg hc855).trans rfl))))))
      · refine Go.via (fun _ => XS.icmpYes X828.here hx rfl (pc0 := 175) (pc' := 216) rfl (hb hby at_175) rfl (flt (hc848 : ¬ ((1 : Int32) < (cpN la (drF p1) (drF p2))))).2.2.2 (by decide) (by decide)) ?_
        refine Go.via (fun _ => XS.iload X828.here hx rfl (hb hby at_216) rfl) ?_
        refine Go.via (fun _ => XS.iload X828.here hx rfl (hb hby at_218) rfl) ?_
        show Go p e below (T828.setTop (mkF m 220 #[vi p0, vi p1, vi p2, vi p3, vi p4, vi la, vi lb, vi (drF p1), vi (drF p2), vi b0, vi b1, vr b754, vr b773, vr b795, vr b803, vi (cpN la (drF p1) (drF p2)), vi (cpN lb b0 b1), .unset, .unset] [(.int (cpN lb b0 b1)), (.int (cpN la (drF p1) (drF p2)))])) _
        by_cases hc856 : (cpN la (drF p1) (drF p2)) < (cpN lb b0 b1)
        · refine Go.via (fun _ => XS.icmpNo X828.here hx rfl (hb hby at_220) rfl (tlt (hc856 : (cpN la (drF p1) (drF p2)) < (cpN lb b0 b1))).2.1) ?_
          show Go p e below (T828.setTop (mkF m 223 #[vi p0, vi p1, vi p2, vi p3, vi p4, vi la, vi lb, vi (drF p1), vi (drF p2), vi b0, vi b1, vr b754, vr b773, vr b795, vr b803, vi (cpN la (drF p1) (drF p2)), vi (cpN lb b0 b1), .unset, .unset] [])) _
          refine Go.via (fun _ => XS.iconst X828.here hx rfl (hb hby at_223)) ?_
          refine Go.via (fun _ => XS.goto X828.here hx rfl (pc0 := 224) (pc' := 239) rfl (hb hby at_224) (by decide) (by decide)) ?_
          refine Go.via (fun _ => XS.istore X828.here hx rfl (hb hby at_239) rfl (l' := #[vi p0, vi p1, vi p2, vi p3, vi p4, vi la, vi lb, vi (drF p1), vi (drF p2), vi b0, vi b1, vr b754, vr b773, vr b795, vr b803, vi (cpN la (drF p1) (drF p2)), vi (cpN lb b0 b1), vi (-1 : Int32), .unset]) rfl) ?_
          exact J (-1 : Int32) ((if_pos hc834).trans ((if_neg hc835).trans ((if_neg hc848).trans ((if_pos hc856).trans rfl))))
        · refine Go.via (fun _ => XS.icmpYes X828.here hx rfl (pc0 := 220) (pc' := 227) rfl (hb hby at_220) rfl (flt (hc856 : ¬ ((cpN la (drF p1) (drF p2)) < (cpN lb b0 b1)))).2.1 (by decide) (by decide)) ?_
          show Go p e below (T828.setTop (mkF m 227 #[vi p0, vi p1, vi p2, vi p3, vi p4, vi la, vi lb, vi (drF p1), vi (drF p2), vi b0, vi b1, vr b754, vr b773, vr b795, vr b803, vi (cpN la (drF p1) (drF p2)), vi (cpN lb b0 b1), .unset, .unset] [])) _
          refine Go.via (fun _ => XS.iload X828.here hx rfl (hb hby at_227) rfl) ?_
          refine Go.via (fun _ => XS.iload X828.here hx rfl (hb hby at_229) rfl) ?_
          by_cases hc857 : (cpN lb b0 b1) < (cpN la (drF p1) (drF p2))
          · refine Go.via (fun _ => XS.icmpNo X828.here hx rfl (hb hby at_231) rfl (tlt (hc857 : (cpN lb b0 b1) < (cpN la (drF p1) (drF p2)))).2.2.2) ?_
            refine Go.via (fun _ => XS.iconst X828.here hx rfl (hb hby at_234)) ?_
            refine Go.via (fun _ => XS.goto X828.here hx rfl (pc0 := 235) (pc' := 239) rfl (hb hby at_235) (by decide) (by decide)) ?_
            refine Go.via (fun _ => XS.istore X828.here hx rfl (hb hby at_239) rfl (l' := #[vi p0, vi p1, vi p2, vi p3, vi p4, vi la, vi lb, vi (drF p1), vi (drF p2), vi b0, vi b1, vr b754, vr b773, vr b795, vr b803, vi (cpN la (drF p1) (drF p2)), vi (cpN lb b0 b1), vi (1 : Int32), .unset]) rfl) ?_
            exact J (1 : Int32) ((if_pos hc834).trans ((if_neg hc835).trans ((if_neg hc848).trans ((if_neg hc856).trans ((if_pos hc857).trans rfl)))))
          · refine Go.via (fun _ => XS.icmpYes X828.here hx rfl (pc0 := 231) (pc' := 238) rfl (hb hby at_231) rfl (flt (hc857 : ¬ ((cpN lb b0 b1) < (cpN la (drF p1) (drF p2))))).2.2.2 (by decide) (by decide)) ?_
            refine Go.via (fun _ => XS.iconst X828.here hx rfl (hb hby at_238)) ?_
            refine Go.via (fun _ => XS.istore X828.here hx rfl (hb hby at_239) rfl (l' := #[vi p0, vi p1, vi p2, vi p3, vi p4, vi la, vi lb, vi (drF p1), vi (drF p2), vi b0, vi b1, vr b754, vr b773, vr b795, vr b803, vi (cpN la (drF p1) (drF p2)), vi (cpN lb b0 b1), vi (0 : Int32), .unset]) rfl) ?_
            exact J (0 : Int32) ((if_pos hc834).trans ((if_neg hc835).trans ((if_neg hc848).trans ((if_neg hc856).trans ((if_neg hc857).trans rfl)))))
  · refine Go.via (fun _ => XS.ifYes X828.here hx rfl (pc0 := 132) (pc' := 172) rfl (hb hby at_132) rfl ((if0 _ _).trans (flt (hc834 : ¬ ((0 : Int32) < (cpN la (drF p1) (drF p2))))).2.2.2) (by decide) (by decide)) ?_
    refine Go.via (fun _ => XS.iload X828.here hx rfl (hb hby at_172) rfl) ?_
    refine Go.via (fun _ => XS.iconst X828.here hx rfl (hb hby at_174)) ?_
    by_cases hc858 : (1 : Int32) < (cpN la (drF p1) (drF p2))
    · refine Go.via (fun _ => XS.icmpNo X828.here hx rfl (hb hby at_175) rfl (tlt (hc858 : (1 : Int32) < (cpN la (drF p1) (drF p2)))).2.2.2) ?_
      refine Go.via (fun _ => XS.iload X828.here hx rfl (hb hby at_178) rfl) ?_
      refine Go.via (fun _ => XS.iconst X828.here hx rfl (hb hby at_180)) ?_
      by_cases hc859 : (1 : Int32) < (cpN lb b0 b1)
      · refine Go.via (fun _ => XS.icmpNo X828.here hx rfl (hb hby at_181) rfl (tlt (hc859 : (1 : Int32) < (cpN lb b0 b1))).2.2.2) ?_
        refine Go.via (fun _ => XS.aload X828.here hx rfl (hb hby at_184) rfl rfl) ?_
        show Go p e below (T828.setTop (mkF m 186 #[vi p0, vi p1, vi p2, vi p3, vi p4, vi la, vi lb, vi (drF p1), vi (drF p2), vi b0, vi b1, vr b754, vr b773, vr b795, vr b803, vi (cpN la (drF p1) (drF p2)), vi (cpN lb b0 b1), .unset, .unset] [(.ref b795)])) _
        refine Go.via (fun _ => XS.iconst X828.here hx rfl (hb hby at_186)) ?_
        refine Go.via (ldI X828 hx hZ e828 lf9_828 (v := (cpY la (drF p1) (drF p2))) (by decide) rfl (g := (mkF m 187 #[vi p0, vi p1, vi p2, vi p3, vi p4, vi la, vi lb, vi (drF p1), vi (drF p2), vi b0, vi b1, vr b754, vr b773, vr b795, vr b803, vi (cpN la (drF p1) (drF p2)), vi (cpN lb b0 b1), .unset, .unset] [(.int (1 : Int32)), (.ref b795)])) rfl rfl (hb hby at_187)) ?_
        show Go p e below (T828.setTop (mkF m 188 #[vi p0, vi p1, vi p2, vi p3, vi p4, vi la, vi lb, vi (drF p1), vi (drF p2), vi b0, vi b1, vr b754, vr b773, vr b795, vr b803, vi (cpN la (drF p1) (drF p2)), vi (cpN lb b0 b1), .unset, .unset] [(.int (cpY la (drF p1) (drF p2)))])) _
        refine Go.via (fun _ => XS.aload X828.here hx rfl (hb hby at_188) rfl rfl) ?_
        refine Go.via (fun _ => XS.iconst X828.here hx rfl (hb hby at_190)) ?_
        refine Go.via (ldI X828 hx hZ e828 lf11_828 (v := (cpY lb b0 b1)) (by decide) rfl (g := (mkF m 191 #[vi p0, vi p1, vi p2, vi p3, vi p4, vi la, vi lb, vi (drF p1), vi (drF p2), vi b0, vi b1, vr b754, vr b773, vr b795, vr b803, vi (cpN la (drF p1) (drF p2)), vi (cpN lb b0 b1), .unset, .unset] [(.int (1 : Int32)), (.ref b803), (.int (cpY la (drF p1) (drF p2)))])) rfl rfl (hb hby at_191)) ?_
        show Go p e below (T828.setTop (mkF m 192 #[vi p0, vi p1, vi p2, vi p3, vi p4, vi la, vi lb, vi (drF p1), vi (drF p2), vi b0, vi b1, vr b754, vr b773, vr b795, vr b803, vi (cpN la (drF p1) (drF p2)), vi (cpN lb b0 b1), .unset, .unset] [(.int (cpY lb b0 b1)), (.int (cpY la (drF p1) (drF p2)))])) _
        by_cases hc860 : (cpY la (drF p1) (drF p2)) = (cpY lb b0 b1)
        · refine Go.via (fun _ => XS.icmpYes X828.here hx rfl (pc0 := 192) (pc' := 216) rfl (hb hby at_192) rfl (teq (hc860 : (cpY la (drF p1) (drF p2)) = (cpY lb b0 b1))).1 (by decide) (by decide)) ?_
          show Go p e below (T828.setTop (mkF m 216 #[vi p0, vi p1, vi p2, vi p3, vi p4, vi la, vi lb, vi (drF p1), vi (drF p2), vi b0, vi b1, vr b754, vr b773, vr b795, vr b803, vi (cpN la (drF p1) (drF p2)), vi (cpN lb b0 b1), .unset, .unset] [])) _
          refine Go.via (fun _ => XS.iload X828.here hx rfl (hb hby at_216) rfl) ?_
          refine Go.via (fun _ => XS.iload X828.here hx rfl (hb hby at_218) rfl) ?_
          by_cases hc861 : (cpN la (drF p1) (drF p2)) < (cpN lb b0 b1)
          · refine Go.via (fun _ => XS.icmpNo X828.here hx rfl (hb hby at_220) rfl (tlt (hc861 : (cpN la (drF p1) (drF p2)) < (cpN lb b0 b1))).2.1) ?_
            refine Go.via (fun _ => XS.iconst X828.here hx rfl (hb hby at_223)) ?_
            refine Go.via (fun _ => XS.goto X828.here hx rfl (pc0 := 224) (pc' := 239) rfl (hb hby at_224) (by decide) (by decide)) ?_
            refine Go.via (fun _ => XS.istore X828.here hx rfl (hb hby at_239) rfl (l' := #[vi p0, vi p1, vi p2, vi p3, vi p4, vi la, vi lb, vi (drF p1), vi (drF p2), vi b0, vi b1, vr b754, vr b773, vr b795, vr b803, vi (cpN la (drF p1) (drF p2)), vi (cpN lb b0 b1), vi (-1 : Int32), .unset]) rfl) ?_
            exact J (-1 : Int32) ((if_neg hc834).trans ((if_pos hc858).trans ((if_pos hc859).trans ((if_pos hc860).trans ((if_pos hc861).trans rfl)))))
          · refine Go.via (fun _ => XS.icmpYes X828.here hx rfl (pc0 := 220) (pc' := 227) rfl (hb hby at_220) rfl (flt (hc861 : ¬ ((cpN la (drF p1) (drF p2)) < (cpN lb b0 b1)))).2.1 (by decide) (by decide)) ?_
            refine Go.via (fun _ => XS.iload X828.here hx rfl (hb hby at_227) rfl) ?_
            refine Go.via (fun _ => XS.iload X828.here hx rfl (hb hby at_229) rfl) ?_
            by_cases hc862 : (cpN lb b0 b1) < (cpN la (drF p1) (drF p2))
            · refine Go.via (fun _ => XS.icmpNo X828.here hx rfl (hb hby at_231) rfl (tlt (hc862 : (cpN lb b0 b1) < (cpN la (drF p1) (drF p2)))).2.2.2) ?_
              refine Go.via (fun _ => XS.iconst X828.here hx rfl (hb hby at_234)) ?_
              refine Go.via (fun _ => XS.goto X828.here hx rfl (pc0 := 235) (pc' := 239) rfl (hb hby at_235) (by decide) (by decide)) ?_
              refine Go.via (fun _ => XS.istore X828.here hx rfl (hb hby at_239) rfl (l' := #[vi p0, vi p1, vi p2, vi p3, vi p4, vi la, vi lb, vi (drF p1), vi (drF p2), vi b0, vi b1, vr b754, vr b773, vr b795, vr b803, vi (cpN la (drF p1) (drF p2)), vi (cpN lb b0 b1), vi (1 : Int32), .unset]) rfl) ?_
              exact J (1 : Int32) ((if_neg hc834).trans ((if_pos hc858).trans ((if_pos hc859).trans ((if_pos hc860).trans ((if_neg hc861).trans ((if_pos hc862).trans rfl))))))
            · refine Go.via (fun _ => XS.icmpYes X828.here hx rfl (pc0 := 231) (pc' := 238) rfl (hb hby at_231) rfl (flt (hc862 : ¬ ((cpN lb b0 b1) < (cpN la (drF p1) (drF p2))))).2.2.2 (by decide) (by decide)) ?_
              refine Go.via (fun _ => XS.iconst X828.here hx rfl (hb hby at_238)) ?_
              refine Go.via (fun _ => XS.istore X828.here hx rfl (hb hby at_239) rfl (l' := #[vi p0, vi p1, vi p2, vi p3, vi p4, vi la, vi lb, vi (drF p1), vi (drF p2), vi b0, vi b1, vr b754, vr b773, vr b795, vr b803, vi (cpN la (drF p1) (drF p2)), vi (cpN lb b0 b1), vi (0 : Int32), .unset]) rfl) ?_
              exact J (0 : Int32) ((if_neg hc834).trans ((if_pos hc858).trans ((if_pos hc859).trans ((if_pos hc860).trans ((if_neg hc861).trans ((if_neg hc862).trans rfl))))))
        · refine Go.via (fun _ => XS.icmpNo X828.here hx rfl (hb hby at_192) rfl (feq (hc860 : ¬ ((cpY la (drF p1) (drF p2)) = (cpY lb b0 b1)))).1) ?_
          show Go p e below (T828.setTop (mkF m 195 #[vi p0, vi p1, vi p2, vi p3, vi p4, vi la, vi lb, vi (drF p1), vi (drF p2), vi b0, vi b1, vr b754, vr b773, vr b795, vr b803, vi (cpN la (drF p1) (drF p2)), vi (cpN lb b0 b1), .unset, .unset] [])) _
          refine Go.via (fun _ => XS.aload X828.here hx rfl (hb hby at_195) rfl rfl) ?_
          refine Go.via (fun _ => XS.iconst X828.here hx rfl (hb hby at_197)) ?_
          refine Go.via (ldI X828 hx hZ e828 lf9_828 (v := (cpY la (drF p1) (drF p2))) (by decide) rfl (g := (mkF m 198 #[vi p0, vi p1, vi p2, vi p3, vi p4, vi la, vi lb, vi (drF p1), vi (drF p2), vi b0, vi b1, vr b754, vr b773, vr b795, vr b803, vi (cpN la (drF p1) (drF p2)), vi (cpN lb b0 b1), .unset, .unset] [(.int (1 : Int32)), (.ref b795)])) rfl rfl (hb hby at_198)) ?_
          show Go p e below (T828.setTop (mkF m 199 #[vi p0, vi p1, vi p2, vi p3, vi p4, vi la, vi lb, vi (drF p1), vi (drF p2), vi b0, vi b1, vr b754, vr b773, vr b795, vr b803, vi (cpN la (drF p1) (drF p2)), vi (cpN lb b0 b1), .unset, .unset] [(.int (cpY la (drF p1) (drF p2)))])) _
          refine Go.via (fun _ => XS.aload X828.here hx rfl (hb hby at_199) rfl rfl) ?_
          refine Go.via (fun _ => XS.iconst X828.here hx rfl (hb hby at_201)) ?_
          refine Go.via (ldI X828 hx hZ e828 lf11_828 (v := (cpY lb b0 b1)) (by decide) rfl (g := (mkF m 202 #[vi p0, vi p1, vi p2, vi p3, vi p4, vi la, vi lb, vi (drF p1), vi (drF p2), vi b0, vi b1, vr b754, vr b773, vr b795, vr b803, vi (cpN la (drF p1) (drF p2)), vi (cpN lb b0 b1), .unset, .unset] [(.int (1 : Int32)), (.ref b803), (.int (cpY la (drF p1) (drF p2)))])) rfl rfl (hb hby at_202)) ?_
          show Go p e below (T828.setTop (mkF m 203 #[vi p0, vi p1, vi p2, vi p3, vi p4, vi la, vi lb, vi (drF p1), vi (drF p2), vi b0, vi b1, vr b754, vr b773, vr b795, vr b803, vi (cpN la (drF p1) (drF p2)), vi (cpN lb b0 b1), .unset, .unset] [(.int (cpY lb b0 b1)), (.int (cpY la (drF p1) (drF p2)))])) _
          by_cases hc863 : (cpY la (drF p1) (drF p2)) < (cpY lb b0 b1)
          · refine Go.via (fun _ => XS.icmpNo X828.here hx rfl (hb hby at_203) rfl (tlt (hc863 : (cpY la (drF p1) (drF p2)) < (cpY lb b0 b1))).2.1) ?_
            show Go p e below (T828.setTop (mkF m 206 #[vi p0, vi p1, vi p2, vi p3, vi p4, vi la, vi lb, vi (drF p1), vi (drF p2), vi b0, vi b1, vr b754, vr b773, vr b795, vr b803, vi (cpN la (drF p1) (drF p2)), vi (cpN lb b0 b1), .unset, .unset] [])) _
            refine Go.via (fun _ => XS.iconst X828.here hx rfl (hb hby at_206)) ?_
            refine Go.via (fun _ => XS.goto X828.here hx rfl (pc0 := 207) (pc' := 211) rfl (hb hby at_207) (by decide) (by decide)) ?_
            refine Go.via (fun _ => XS.istore X828.here hx rfl (hb hby at_211) rfl (l' := #[vi p0, vi p1, vi p2, vi p3, vi p4, vi la, vi lb, vi (drF p1), vi (drF p2), vi b0, vi b1, vr b754, vr b773, vr b795, vr b803, vi (cpN la (drF p1) (drF p2)), vi (cpN lb b0 b1), vi (-1 : Int32), .unset]) rfl) ?_
            refine Go.via (fun _ => XS.goto X828.here hx rfl (pc0 := 213) (pc' := 241) rfl (hb hby at_213) (by decide) (by decide)) ?_
            exact J (-1 : Int32) ((if_neg hc834).trans ((if_pos hc858).trans ((if_pos hc859).trans ((if_neg hc860).trans ((if_pos hc863).trans rfl)))))
          · refine Go.via (fun _ => XS.icmpYes X828.here hx rfl (pc0 := 203) (pc' := 210) rfl (hb hby at_203) rfl (flt (hc863 : ¬ ((cpY la (drF p1) (drF p2)) < (cpY lb b0 b1)))).2.1 (by decide) (by decide)) ?_
            show Go p e below (T828.setTop (mkF m 210 #[vi p0, vi p1, vi p2, vi p3, vi p4, vi la, vi lb, vi (drF p1), vi (drF p2), vi b0, vi b1, vr b754, vr b773, vr b795, vr b803, vi (cpN la (drF p1) (drF p2)), vi (cpN lb b0 b1), .unset, .unset] [])) _
            refine Go.via (fun _ => XS.iconst X828.here hx rfl (hb hby at_210)) ?_
            refine Go.via (fun _ => XS.istore X828.here hx rfl (hb hby at_211) rfl (l' := #[vi p0, vi p1, vi p2, vi p3, vi p4, vi la, vi lb, vi (drF p1), vi (drF p2), vi b0, vi b1, vr b754, vr b773, vr b795, vr b803, vi (cpN la (drF p1) (drF p2)), vi (cpN lb b0 b1), vi (1 : Int32), .unset]) rfl) ?_
            refine Go.via (fun _ => XS.goto X828.here hx rfl (pc0 := 213) (pc' := 241) rfl (hb hby at_213) (by decide) (by decide)) ?_
            exact J (1 : Int32) ((if_neg hc834).trans ((if_pos hc858).trans ((if_pos hc859).trans ((if_neg hc860).trans ((if_neg hc863).trans rfl)))))
      · refine Go.via (fun _ => XS.icmpYes X828.here hx rfl (pc0 := 181) (pc' := 216) rfl (hb hby at_181) rfl (flt (hc859 : ¬ ((1 : Int32) < (cpN lb b0 b1)))).2.2.2 (by decide) (by decide)) ?_
        refine Go.via (fun _ => XS.iload X828.here hx rfl (hb hby at_216) rfl) ?_
        show Go p e below (T828.setTop (mkF m 218 #[vi p0, vi p1, vi p2, vi p3, vi p4, vi la, vi lb, vi (drF p1), vi (drF p2), vi b0, vi b1, vr b754, vr b773, vr b795, vr b803, vi (cpN la (drF p1) (drF p2)), vi (cpN lb b0 b1), .unset, .unset] [(.int (cpN la (drF p1) (drF p2)))])) _
        refine Go.via (fun _ => XS.iload X828.here hx rfl (hb hby at_218) rfl) ?_
        by_cases hc864 : (cpN la (drF p1) (drF p2)) < (cpN lb b0 b1)
        · refine Go.via (fun _ => XS.icmpNo X828.here hx rfl (hb hby at_220) rfl (tlt (hc864 : (cpN la (drF p1) (drF p2)) < (cpN lb b0 b1))).2.1) ?_
          refine Go.via (fun _ => XS.iconst X828.here hx rfl (hb hby at_223)) ?_
          refine Go.via (fun _ => XS.goto X828.here hx rfl (pc0 := 224) (pc' := 239) rfl (hb hby at_224) (by decide) (by decide)) ?_
          refine Go.via (fun _ => XS.istore X828.here hx rfl (hb hby at_239) rfl (l' := #[vi p0, vi p1, vi p2, vi p3, vi p4, vi la, vi lb, vi (drF p1), vi (drF p2), vi b0, vi b1, vr b754, vr b773, vr b795, vr b803, vi (cpN la (drF p1) (drF p2)), vi (cpN lb b0 b1), vi (-1 : Int32), .unset]) rfl) ?_
          exact J (-1 : Int32) ((if_neg hc834).trans ((if_pos hc858).trans ((if_neg hc859).trans ((if_pos hc864).trans rfl))))
        · refine Go.via (fun _ => XS.icmpYes X828.here hx rfl (pc0 := 220) (pc' := 227) rfl (hb hby at_220) rfl (flt (hc864 : ¬ ((cpN la (drF p1) (drF p2)) < (cpN lb b0 b1)))).2.1 (by decide) (by decide)) ?_
          refine Go.via (fun _ => XS.iload X828.here hx rfl (hb hby at_227) rfl) ?_
          refine Go.via (fun _ => XS.iload X828.here hx rfl (hb hby at_229) rfl) ?_
          by_cases hc865 : (cpN lb b0 b1) < (cpN la (drF p1) (drF p2))
          · refine Go.via (fun _ => XS.icmpNo X828.here hx rfl (hb hby at_231) rfl (tlt (hc865 : (cpN lb b0 b1) < (cpN la (drF p1) (drF p2)))).2.2.2) ?_
            refine Go.via (fun _ => XS.iconst X828.here hx rfl (hb hby at_234)) ?_
            refine Go.via (fun _ => XS.goto X828.here hx rfl (pc0 := 235) (pc' := 239) rfl (hb hby at_235) (by decide) (by decide)) ?_
            refine Go.via (fun _ => XS.istore X828.here hx rfl (hb hby at_239) rfl (l' := #[vi p0, vi p1, vi p2, vi p3, vi p4, vi la, vi lb, vi (drF p1), vi (drF p2), vi b0, vi b1, vr b754, vr b773, vr b795, vr b803, vi (cpN la (drF p1) (drF p2)), vi (cpN lb b0 b1), vi (1 : Int32), .unset]) rfl) ?_
            exact J (1 : Int32) ((if_neg hc834).trans ((if_pos hc858).trans ((if_neg hc859).trans ((if_neg hc864).trans ((if_pos hc865).trans rfl)))))
          · refine Go.via (fun _ => XS.icmpYes X828.here hx rfl (pc0 := 231) (pc' := 238) rfl (hb hby at_231) rfl (flt (hc865 : ¬ ((cpN lb b0 b1) < (cpN la (drF p1) (drF p2))))).2.2.2 (by decide) (by decide)) ?_
            refine Go.via (fun _ => XS.iconst X828.here hx rfl (hb hby at_238)) ?_
            refine Go.via (fun _ => XS.istore X828.here hx rfl (hb hby at_239) rfl (l' := #[vi p0, vi p1, vi p2, vi p3, vi p4, vi la, vi lb, vi (drF p1), vi (drF p2), vi b0, vi b1, vr b754, vr b773, vr b795, vr b803, vi (cpN la (drF p1) (drF p2)), vi (cpN lb b0 b1), vi (0 : Int32), .unset]) rfl) ?_
            exact J (0 : Int32) ((if_neg hc834).trans ((if_pos hc858).trans ((if_neg hc859).trans ((if_neg hc864).trans ((if_neg hc865).trans rfl)))))
    · refine Go.via (fun _ => XS.icmpYes X828.here hx rfl (pc0 := 175) (pc' := 216) rfl (hb hby at_175) rfl (flt (hc858 : ¬ ((1 : Int32) < (cpN la (drF p1) (drF p2))))).2.2.2 (by decide) (by decide)) ?_
      refine Go.via (fun _ => XS.iload X828.here hx rfl (hb hby at_216) rfl) ?_
      refine Go.via (fun _ => XS.iload X828.here hx rfl (hb hby at_218) rfl) ?_
      by_cases hc866 : (cpN la (drF p1) (drF p2)) < (cpN lb b0 b1)
      · refine Go.via (fun _ => XS.icmpNo X828.here hx rfl (hb hby at_220) rfl (tlt (hc866 : (cpN la (drF p1) (drF p2)) < (cpN lb b0 b1))).2.1) ?_
        refine Go.via (fun _ => XS.iconst X828.here hx rfl (hb hby at_223)) ?_
        show Go p e below (T828.setTop (mkF m 224 #[vi p0, vi p1, vi p2, vi p3, vi p4, vi la, vi lb, vi (drF p1), vi (drF p2), vi b0, vi b1, vr b754, vr b773, vr b795, vr b803, vi (cpN la (drF p1) (drF p2)), vi (cpN lb b0 b1), .unset, .unset] [(.int (-1 : Int32))])) _
        refine Go.via (fun _ => XS.goto X828.here hx rfl (pc0 := 224) (pc' := 239) rfl (hb hby at_224) (by decide) (by decide)) ?_
        refine Go.via (fun _ => XS.istore X828.here hx rfl (hb hby at_239) rfl (l' := #[vi p0, vi p1, vi p2, vi p3, vi p4, vi la, vi lb, vi (drF p1), vi (drF p2), vi b0, vi b1, vr b754, vr b773, vr b795, vr b803, vi (cpN la (drF p1) (drF p2)), vi (cpN lb b0 b1), vi (-1 : Int32), .unset]) rfl) ?_
        exact J (-1 : Int32) ((if_neg hc834).trans ((if_neg hc858).trans ((if_pos hc866).trans rfl)))
      · refine Go.via (fun _ => XS.icmpYes X828.here hx rfl (pc0 := 220) (pc' := 227) rfl (hb hby at_220) rfl (flt (hc866 : ¬ ((cpN la (drF p1) (drF p2)) < (cpN lb b0 b1)))).2.1 (by decide) (by decide)) ?_
        refine Go.via (fun _ => XS.iload X828.here hx rfl (hb hby at_227) rfl) ?_
        show Go p e below (T828.setTop (mkF m 229 #[vi p0, vi p1, vi p2, vi p3, vi p4, vi la, vi lb, vi (drF p1), vi (drF p2), vi b0, vi b1, vr b754, vr b773, vr b795, vr b803, vi (cpN la (drF p1) (drF p2)), vi (cpN lb b0 b1), .unset, .unset] [(.int (cpN la (drF p1) (drF p2)))])) _
        refine Go.via (fun _ => XS.iload X828.here hx rfl (hb hby at_229) rfl) ?_
        by_cases hc867 : (cpN lb b0 b1) < (cpN la (drF p1) (drF p2))
        · refine Go.via (fun _ => XS.icmpNo X828.here hx rfl (hb hby at_231) rfl (tlt (hc867 : (cpN lb b0 b1) < (cpN la (drF p1) (drF p2)))).2.2.2) ?_
          refine Go.via (fun _ => XS.iconst X828.here hx rfl (hb hby at_234)) ?_
          refine Go.via (fun _ => XS.goto X828.here hx rfl (pc0 := 235) (pc' := 239) rfl (hb hby at_235) (by decide) (by decide)) ?_
          refine Go.via (fun _ => XS.istore X828.here hx rfl (hb hby at_239) rfl (l' := #[vi p0, vi p1, vi p2, vi p3, vi p4, vi la, vi lb, vi (drF p1), vi (drF p2), vi b0, vi b1, vr b754, vr b773, vr b795, vr b803, vi (cpN la (drF p1) (drF p2)), vi (cpN lb b0 b1), vi (1 : Int32), .unset]) rfl) ?_
          exact J (1 : Int32) ((if_neg hc834).trans ((if_neg hc858).trans ((if_neg hc866).trans ((if_pos hc867).trans rfl))))
        · refine Go.via (fun _ => XS.icmpYes X828.here hx rfl (pc0 := 231) (pc' := 238) rfl (hb hby at_231) rfl (flt (hc867 : ¬ ((cpN lb b0 b1) < (cpN la (drF p1) (drF p2))))).2.2.2 (by decide) (by decide)) ?_
          refine Go.via (fun _ => XS.iconst X828.here hx rfl (hb hby at_238)) ?_
          refine Go.via (fun _ => XS.istore X828.here hx rfl (hb hby at_239) rfl (l' := #[vi p0, vi p1, vi p2, vi p3, vi p4, vi la, vi lb, vi (drF p1), vi (drF p2), vi b0, vi b1, vr b754, vr b773, vr b795, vr b803, vi (cpN la (drF p1) (drF p2)), vi (cpN lb b0 b1), vi (0 : Int32), .unset]) rfl) ?_
          exact J (0 : Int32) ((if_neg hc834).trans ((if_neg hc858).trans ((if_neg hc866).trans ((if_neg hc867).trans rfl))))
set_option maxRecDepth 65536 in
set_option maxHeartbeats 40000000 in
theorem rm_rm0_l94_1 (l : Launch) (Z : State) (a0 : Array Value) (hw : ∀ d ∈ tables_1, d.before a0 Z = true) (p0 : Int32) (p1 : Int32) (p2 : Int32) (p3 : Int32) (p4 : Int32) (cs : Int32) (fv : Value) (ins : Addr) (h0 : Heap) (n0 : Nat) (zCS : Sta Z Z.heap cST "COMPACT_STRINGS" "Z" (.int cs)) (zF : Sta Z Z.heap cPR "SIOOBE_FORMATTER" "Ljava/util/function/BiFunction;" fv) (zAD : Sta Z Z.heap cU6 "$assertionsDisabled" "Z" (.int (1 : Int32))) (zHI : Sta Z Z.heap cU6 "HI_BYTE_SHIFT" "I" (.int (0 : Int32))) (zLO : Sta Z Z.heap cU6 "LO_BYTE_SHIFT" "I" (.int (8 : Int32))) (zIN : Sta Z Z.heap cCP "INSTANCE" "Lcom/example/acquaint/acquaint/store/CodePointOrder;" (.ref ins)) (zIE : Exa Z Z.heap ins cCP) (hcs : ¬ (cs = (0 : Int32))) (hfv : fv = .null ∨ ∃ fa : Addr, fv = .ref fa) (hh7 : Jvm.Lit.constHeld Z cST 7) (hcw : Jvm.Lit.compactW.before a0 Z = true) {p : Program} {e : Env} {s : State} {m : MethodId} {below : List Frame} {meth : Method} {c : Code} (hx : p.tables.exec = Jvm.exec) (hby : c.code = code) (hlk : meth.locks = false) (hml : c.maxLocals = 19) (hret : meth.sig.returnType = ret) :
    ∀ (T794 : State) (L794 : List Loc) (h794 : Heap) (vm794 : Vm) (K794 : Nat) (la : Int32) (lb : Int32) (b0 : Int32) (b1 : Int32) (v756 : Int32) (v757 : List Int32) (v775 : Int32) (v776 : List Int32) (b754 : Addr) (b773 : Addr) (v755 : Addr) (v774 : Addr), Stand p l e room_1 (s.setVm vm794) m #[(.int p0), (.int p1), (.int p2), (.int p3), (.int p4)] below meth c T794 L794 8 24 → T794.heap = h794 → Fr n0 L794 → n0 ≤ h794.size → Keep h0 h794 [] → Z.Warmed39 (s.setVm vm794).vm → (s.setVm vm794).vm.findClass cLAW = some m.cls → s.Since vm794 K794 → K794 ≤ h794.size → Old Z n0 h794 → Exa Z h794 b754 cST → Fld Z h794 b754 cST "coder" "B" (.int v756) → Fld Z h794 b754 cST "value" "[B" (.ref v755) → Ia Z h794 v755 .byte v757 → Exa Z h794 b773 cST → Fld Z h794 b773 cST "coder" "B" (.int v775) → Fld Z h794 b773 cST "value" "[B" (.ref v774) → Ia Z h794 v774 .byte v776 → ((p0 &&& (2147483647 : Int32)) % (3 : Int32)) = la → ((((p0.toUInt32 >>> ((8 : Int32) &&& 31).toUInt32).toInt32) &&& (2147483647 : Int32)) % (3 : Int32)) = lb → Rep (csF la (drF p1) (drF p2)) v756 v757 → Rep (csF lb b0 b1) v775 v776 → Go p e below (T794.setTop (mkF m 94 #[vi p0, vi p1, vi p2, vi p3, vi p4, vi la, vi lb, vi (drF p1), vi (drF p2), vi b0, vi b1, vr b754, vr b773, .unset, .unset, .unset, .unset, .unset, .unset] [])) (DoneW s (Q_rm0 Z p0 p1 p2 p3 p4 cs fv ins h0 n0) room_1.cells room_1.slots) := by
  intro T794 L794 h794 vm794 K794 la lb b0 b1 v756 v757 v775 v776 b754 b773 v755 v774 X794 e794 N794 z794 k794 hZ hown hS794 hk794 lf0_794 lf1_794 lf2_794 lf3_794 lf4_794 lf5_794 lf6_794 lf7_794 lf8_794 hv_la hv_lb qp762 qp781
  show Go p e below (T794.setTop (mkF m 94 #[vi p0, vi p1, vi p2, vi p3, vi p4, vi la, vi lb, vi (drF p1), vi (drF p2), vi b0, vi b1, vr b754, vr b773, .unset, .unset, .unset, .unset, .unset, .unset] [])) _
  refine Go.via (fun _ => XS.iconst X794.here hx rfl (hb hby at_94)) ?_
  obtain ⟨T795, h795, k795, X795, e795, E795, A795, B795, st795⟩ := newPE X794 hx hZ (tw hw 34 rfl) e794 (g := (mkF m 95 #[vi p0, vi p1, vi p2, vi p3, vi p4, vi la, vi lb, vi (drF p1), vi (drF p2), vi b0, vi b1, vr b754, vr b773, .unset, .unset, .unset, .unset, .unset, .unset] [(.int (2 : Int32))])) rfl (hb hby at_95) rfl (by decide) (cap := 2) (by decide) (by decide) (by decide) (by decide) (ad := "[I") (by decide)
  obtain ⟨b795, g795⟩ : ∃ z, z = h794.size := ⟨_, rfl⟩
  rw [← g795] at A795 B795 st795
  have ne796 : b754 ≠ b795 := Nat.ne_of_lt (Nat.lt_of_lt_of_le lf1_794.lt (Nat.le_of_eq g795.symm))
  have ne797 : b773 ≠ b795 := Nat.ne_of_lt (Nat.lt_of_lt_of_le lf5_794.lt (Nat.le_of_eq g795.symm))
  have ne798 : v755 ≠ b795 := Nat.ne_of_lt (Nat.lt_of_lt_of_le lf4_794.lt (Nat.le_of_eq g795.symm))
  have ne799 : v774 ≠ b795 := Nat.ne_of_lt (Nat.lt_of_lt_of_le lf8_794.lt (Nat.le_of_eq g795.symm))
  have ge800 : n0 ≤ b795 := Nat.le_trans z794 (Nat.le_of_eq g795.symm)
  have sz801 : h0.size ≤ b795 := Nat.le_trans k794.1 (Nat.le_of_eq g795.symm)
  refine Go.via (st795) ?_
  clear st795
  have f802 : Ia Z h795 b795 .int [(0 : Int32), (0 : Int32)] := Ia.new A795 rfl
  clear X794 e794
  show Go p e below (T795.setTop (mkF m 97 #[vi p0, vi p1, vi p2, vi p3, vi p4, vi la, vi lb, vi (drF p1), vi (drF p2), vi b0, vi b1, vr b754, vr b773, .unset, .unset, .unset, .unset, .unset, .unset] [(.ref b795)])) _
  refine Go.via (fun _ => XS.astore X795.here hx rfl (hb hby at_97) rfl rfl (l' := #[vi p0, vi p1, vi p2, vi p3, vi p4, vi la, vi lb, vi (drF p1), vi (drF p2), vi b0, vi b1, vr b754, vr b773, vr b795, .unset, .unset, .unset, .unset, .unset]) rfl) ?_
  refine Go.via (fun _ => XS.iconst X795.here hx rfl (hb hby at_99)) ?_
  have k804 : Keep h0 h795 [] := (k794.ext E795)
  have z805 : n0 ≤ h795.size := (Nat.le_trans z794 E795.1)
  obtain ⟨T803, h803, k803, X803, e803, E803, A803, B803, st803⟩ := newPE X795 hx hZ (tw hw 34 rfl) e795 (g := (mkF m 100 #[vi p0, vi p1, vi p2, vi p3, vi p4, vi la, vi lb, vi (drF p1), vi (drF p2), vi b0, vi b1, vr b754, vr b773, vr b795, .unset, .unset, .unset, .unset, .unset] [(.int (2 : Int32))])) rfl (hb hby at_100) rfl (by decide) (cap := 2) (by decide) (by decide) (by decide) (by decide) (ad := "[I") (by decide)
  obtain ⟨b803, g803⟩ : ∃ z, z = h795.size := ⟨_, rfl⟩
  rw [← g803] at A803 B803 st803
  have f807 : Exa Z h795 b754 cST := (lf1_794.ext E795)
  have ne806 : b754 ≠ b803 := Nat.ne_of_lt (Nat.lt_of_lt_of_le f807.lt (Nat.le_of_eq g803.symm))
  have f809 : Exa Z h795 b773 cST := (lf5_794.ext E795)
  have ne808 : b773 ≠ b803 := Nat.ne_of_lt (Nat.lt_of_lt_of_le f809.lt (Nat.le_of_eq g803.symm))
  have ne810 : b795 ≠ b803 := Nat.ne_of_lt (Nat.lt_of_lt_of_le f802.lt (Nat.le_of_eq g803.symm))
  have f812 : Ia Z h795 v755 .byte v757 := (lf4_794.ext E795)
  have ne811 : v755 ≠ b803 := Nat.ne_of_lt (Nat.lt_of_lt_of_le f812.lt (Nat.le_of_eq g803.symm))
  have f814 : Ia Z h795 v774 .byte v776 := (lf8_794.ext E795)
  have ne813 : v774 ≠ b803 := Nat.ne_of_lt (Nat.lt_of_lt_of_le f814.lt (Nat.le_of_eq g803.symm))
  have ge815 : n0 ≤ b803 := Nat.le_trans z805 (Nat.le_of_eq g803.symm)
  have sz816 : h0.size ≤ b803 := Nat.le_trans k804.1 (Nat.le_of_eq g803.symm)
  refine Go.via (st803) ?_
  clear st803
  have f817 : Ia Z h803 b803 .int [(0 : Int32), (0 : Int32)] := Ia.new A803 rfl
  clear X795 e795
  show Go p e below (T803.setTop (mkF m 102 #[vi p0, vi p1, vi p2, vi p3, vi p4, vi la, vi lb, vi (drF p1), vi (drF p2), vi b0, vi b1, vr b754, vr b773, vr b795, .unset, .unset, .unset, .unset, .unset] [(.ref b803)])) _
  refine Go.via (fun _ => XS.astore X803.here hx rfl (hb hby at_102) rfl rfl (l' := #[vi p0, vi p1, vi p2, vi p3, vi p4, vi la, vi lb, vi (drF p1), vi (drF p2), vi b0, vi b1, vr b754, vr b773, vr b795, vr b803, .unset, .unset, .unset, .unset]) rfl) ?_
  refine Go.via (fun _ => XS.iload X803.here hx rfl (hb hby at_104) rfl) ?_
  refine Go.via (fun _ => XS.iload X803.here hx rfl (hb hby at_106) rfl) ?_
  refine Go.via (fun _ => XS.iload X803.here hx rfl (hb hby at_108) rfl) ?_
  refine Go.via (fun _ => XS.aload X803.here hx rfl (hb hby at_110) rfl rfl) ?_
  have f818 : Ia Z h803 b795 .int [(0 : Int32), (0 : Int32)] := (f802.ext E803)
  have z820 : n0 ≤ h803.size := (Nat.le_trans z805 E803.1)
  obtain ⟨r819, _, ⟨T819, L819, k819, n819⟩, -, X819, ⟨Lc819, hQ819, l819, y819, z819⟩, st819⟩ := Jvm.LawKit.callS X803 hx (y := (⟨cLAW, "cps", "(ICC[I)I"⟩ : MethodName)) hown (mvT hZ (tw hw 35 rfl)) (mvT hZ (tw hw 36 rfl)) (mvT hZ (tw hw 3 rfl)) (mvT hZ (tw hw 37 rfl)) (by decide) (backOf (W := 0) (rmCp l Z a0 hw [] la (drF p1) (drF p2) b795  h803 n0 z820 f818 ge800) hZ (tw hw 37 rfl) (tw hw 3 rfl) (by decide) (by decide)) (g := (mkF m 112 #[vi p0, vi p1, vi p2, vi p3, vi p4, vi la, vi lb, vi (drF p1), vi (drF p2), vi b0, vi b1, vr b754, vr b773, vr b795, vr b803, .unset, .unset, .unset, .unset] [(.ref b795), (.int (drF p2)), (.int (drF p1)), (.int la)])) rfl (by rw [hml]; rfl) (argsL := [(.int la), (.int (drF p1)), (.int (drF p2)), (.ref b795)]) (rest := []) (lenOf pd__28ICC_5bI_29I rfl) rfl (by show 2 * 0 + _ ≤ _; exact Nat.le_of_eq rfl) (hb hby at_112) (fun _ _ => ⟨rfl, e803, (by decide : 10 + 0 ≤ _), (by decide : 28 + 0 ≤ _)⟩)
  dsimp only [Pt.U, Pt.locs, Pt.cells, Pt.slots] at X819 l819 y819 z819 st819 hQ819
  rw [l819, y819, z819] at X819
  obtain ⟨hr819, N819q, K819q, f821⟩ := hQ819
  rw [hr819] at st819
  have N819 := Fr.app N794 N819q
  refine Go.via (st819) ?_
  clear st819
  have e819 : T819.heap = T819.heap := rfl
  have f822 : Ia Z T819.heap b795 .int [(cpX la (drF p1) (drF p2)), (cpY la (drF p1) (drF p2))] := f821
  clear X803 e803
  show Go p e below (T819.setTop (mkF m 115 #[vi p0, vi p1, vi p2, vi p3, vi p4, vi la, vi lb, vi (drF p1), vi (drF p2), vi b0, vi b1, vr b754, vr b773, vr b795, vr b803, .unset, .unset, .unset, .unset] [(.int (cpN la (drF p1) (drF p2)))])) _
  refine Go.via (fun _ => XS.istore X819.here hx rfl (hb hby at_115) rfl (l' := #[vi p0, vi p1, vi p2, vi p3, vi p4, vi la, vi lb, vi (drF p1), vi (drF p2), vi b0, vi b1, vr b754, vr b773, vr b795, vr b803, vi (cpN la (drF p1) (drF p2)), .unset, .unset, .unset]) rfl) ?_
  refine Go.via (fun _ => XS.iload X819.here hx rfl (hb hby at_117) rfl) ?_
  refine Go.via (fun _ => XS.iload X819.here hx rfl (hb hby at_119) rfl) ?_
  refine Go.via (fun _ => XS.iload X819.here hx rfl (hb hby at_121) rfl) ?_
  refine Go.via (fun _ => XS.aload X819.here hx rfl (hb hby at_123) rfl rfl) ?_
  have f823 : Ia Z T819.heap b803 .int [(0 : Int32), (0 : Int32)] := (f817.keep K819q (ninS (Ne.symm ne810) nin0))
  have z825 : n0 ≤ T819.heap.size := (Nat.le_trans z820 K819q.1)
  obtain ⟨r824, _, ⟨T824, L824, k824, n824⟩, -, X824, ⟨Lc824, hQ824, l824, y824, z824⟩, st824⟩ := Jvm.LawKit.callS X819 hx (y := (⟨cLAW, "cps", "(ICC[I)I"⟩ : MethodName)) hown (mvT hZ (tw hw 35 rfl)) (mvT hZ (tw hw 36 rfl)) (mvT hZ (tw hw 3 rfl)) (mvT hZ (tw hw 37 rfl)) (by decide) (backOf (W := 0) (rmCp l Z a0 hw [] lb b0 b1 b803  T819.heap n0 z825 f823 ge815) hZ (tw hw 37 rfl) (tw hw 3 rfl) (by decide) (by decide)) (g := (mkF m 125 #[vi p0, vi p1, vi p2, vi p3, vi p4, vi la, vi lb, vi (drF p1), vi (drF p2), vi b0, vi b1, vr b754, vr b773, vr b795, vr b803, vi (cpN la (drF p1) (drF p2)), .unset, .unset, .unset] [(.ref b803), (.int b1), (.int b0), (.int lb)])) rfl (by rw [hml]; rfl) (argsL := [(.int lb), (.int b0), (.int b1), (.ref b803)]) (rest := []) (lenOf pd__28ICC_5bI_29I rfl) rfl (by show 2 * 0 + _ ≤ _; exact Nat.le_of_eq rfl) (hb hby at_125) (fun _ _ => ⟨rfl, e819, (by decide : 10 + 0 ≤ _), (by decide : 28 + 0 ≤ _)⟩)
  dsimp only [Pt.U, Pt.locs, Pt.cells, Pt.slots] at X824 l824 y824 z824 st824 hQ824
  rw [l824, y824, z824] at X824
  obtain ⟨hr824, N824q, K824q, f826⟩ := hQ824
  rw [hr824] at st824
  have N824 := Fr.app N819 N824q
  refine Go.via (st824) ?_
  clear st824
  have e824 : T824.heap = T824.heap := rfl
  have f827 : Ia Z T824.heap b803 .int [(cpX lb b0 b1), (cpY lb b0 b1)] := f826
  clear X819 e819
  show Go p e below (T824.setTop (mkF m 128 #[vi p0, vi p1, vi p2, vi p3, vi p4, vi la, vi lb, vi (drF p1), vi (drF p2), vi b0, vi b1, vr b754, vr b773, vr b795, vr b803, vi (cpN la (drF p1) (drF p2)), .unset, .unset, .unset] [(.int (cpN lb b0 b1))])) _
  refine Go.via (fun _ => XS.istore X824.here hx rfl (hb hby at_128) rfl (l' := #[vi p0, vi p1, vi p2, vi p3, vi p4, vi la, vi lb, vi (drF p1), vi (drF p2), vi b0, vi b1, vr b754, vr b773, vr b795, vr b803, vi (cpN la (drF p1) (drF p2)), vi (cpN lb b0 b1), .unset, .unset]) rfl) ?_
  have z868 : n0 ≤ T824.heap.size := (Nat.le_trans z825 K824q.1)
  have k869 : Keep h0 T824.heap [] := (((k804.ext E803).trans K819q (allS (Or.inr sz801) all0)).trans K824q (allS (Or.inr sz816) all0))
  have o870 : Old Z n0 T824.heap := ((((lf0_794.ext E795).ext E803).keep K819q (allS ge800 all0)).keep K824q (allS ge815 all0))
  have f871 : Exa Z T824.heap b754 cST := (((f807.ext E803).keep K819q).keep K824q)
  have f872 : Fld Z T824.heap b754 cST "coder" "B" (.int v756) := ((((lf2_794.ext E795).ext E803).keep K819q (ninS ne796 nin0)).keep K824q (ninS ne806 nin0))
  have f873 : Fld Z T824.heap b754 cST "value" "[B" (.ref v755) := ((((lf3_794.ext E795).ext E803).keep K819q (ninS ne796 nin0)).keep K824q (ninS ne806 nin0))
  have f874 : Ia Z T824.heap v755 .byte v757 := (((f812.ext E803).keep K819q (ninS ne798 nin0)).keep K824q (ninS ne811 nin0))
  have f875 : Exa Z T824.heap b773 cST := (((f809.ext E803).keep K819q).keep K824q)
  have f876 : Fld Z T824.heap b773 cST "coder" "B" (.int v775) := ((((lf6_794.ext E795).ext E803).keep K819q (ninS ne797 nin0)).keep K824q (ninS ne808 nin0))
  have f877 : Fld Z T824.heap b773 cST "value" "[B" (.ref v774) := ((((lf7_794.ext E795).ext E803).keep K819q (ninS ne797 nin0)).keep K824q (ninS ne808 nin0))
  have f878 : Ia Z T824.heap v774 .byte v776 := (((f814.ext E803).keep K819q (ninS ne799 nin0)).keep K824q (ninS ne813 nin0))
  have f879 : Ia Z T824.heap b795 .int [(cpX la (drF p1) (drF p2)), (cpY la (drF p1) (drF p2))] := (f822.keep K824q (ninS ne810 nin0))
  have hk880 : _ ≤ T824.heap.size := (Nat.le_trans (Nat.le_trans (Nat.le_trans (Nat.le_trans hk794 E795.1) E803.1) K819q.1) K824q.1)
  exact rm_rm0_l130_2 l Z a0 hw p0 p1 p2 p3 p4 cs fv ins h0 n0 zCS zF zAD zHI zLO zIN zIE hcs hfv hh7 hcw hx hby hlk hml hret T824 _ T824.heap vm794 _ la lb b0 b1 v756 v757 v775 v776 b754 b773 b795 b803 v755 v774 X824 e824 N824 z868 k869 hZ hown hS794 hk880 o870 f871 f872 f873 f874 f875 f876 f877 f878 f879 f827 hv_la hv_lb qp762 qp781
theorem pn_0 : plainName cLAW = true := by first | (simp [plainName, overriddenIn]; done) | decide +kernel
theorem ef_0 (m : MethodId) (x0 : Int32) (x1 : Int32) (x2 : Int32) (x3 : Int32) (x4 : Int32) : entryFrame m #[(.int x0), (.int x1), (.int x2), (.int x3), (.int x4)] maxLocals = mkF m 0 #[.val (.int x0), .val (.int x1), .val (.int x2), .val (.int x3), .val (.int x4), .unset, .unset, .unset, .unset, .unset, .unset, .unset, .unset, .unset, .unset, .unset, .unset, .unset, .unset] [] := by first | (simp [entryFrame, mkF, argsToLocals, Value.category, maxLocals]; done) | rfl
set_option maxRecDepth 65536 in
set_option maxHeartbeats 40000000 in
theorem rm0 (l : Launch) (Z : State) (a0 : Array Value) (hw : ∀ d ∈ tables_1, d.before a0 Z = true) (ws : List Jvm.Cond) (p0 : Int32) (p1 : Int32) (p2 : Int32) (p3 : Int32) (p4 : Int32) (cs : Int32) (fv : Value) (ins : Addr) (h0 : Heap) (n0 : Nat) (Z0 : n0 ≤ h0.size) (P0 : Old Z n0 h0) (zCS : Sta Z Z.heap cST "COMPACT_STRINGS" "Z" (.int cs)) (zF : Sta Z Z.heap cPR "SIOOBE_FORMATTER" "Ljava/util/function/BiFunction;" fv) (zAD : Sta Z Z.heap cU6 "$assertionsDisabled" "Z" (.int (1 : Int32))) (zHI : Sta Z Z.heap cU6 "HI_BYTE_SHIFT" "I" (.int (0 : Int32))) (zLO : Sta Z Z.heap cU6 "LO_BYTE_SHIFT" "I" (.int (8 : Int32))) (zIN : Sta Z Z.heap cCP "INSTANCE" "Lcom/example/acquaint/acquaint/store/CodePointOrder;" (.ref ins)) (zIE : Exa Z Z.heap ins cCP) (hcs : ¬ (cs = (0 : Int32))) (hfv : fv = .null ∨ ∃ fa : Addr, fv = .ref fa) (hh7 : Jvm.Lit.constHeld Z cST 7) (hcw : Jvm.Lit.compactW.before a0 Z = true) :
    MetFree l x (head1 (Jvm.Cond.code x code maxLocals ret :: ws) room_1) (fun aQ UQ => aQ = #[(.int p0), (.int p1), (.int p2), (.int p3), (.int p4)] ∧ Z.Warmed39 UQ.vm ∧ UQ.heap = h0 ∧ V_rm0 Z p0 p1 p2 p3 p4 cs fv ins h0 UQ.vm) (fun _ _ _ _ _ => True) (fun _ UQ oQ UR => ∃ vQ LQ, oQ = .returned vQ ∧ Q_rm0 Z p0 p1 p2 p3 p4 cs fv ins h0 n0 vQ UR.heap UR.vm LQ ∧ ReturnedEndW UQ oQ UR LQ room_1.cells room_1.slots) := by
  refine MetFree.of_bodySF (plainFor_of_name pn_0) hisR ?_
  intro p e s m args below meth c s₁ Bd hml0 hP hK
  obtain ⟨rfl, hZ0, hh, hV⟩ := hP
  obtain ⟨I0, -⟩ := hV
  have hx := Bd.exec
  have hby := Bd.bytes
  have hlk := Bd.notSynchronized
  have hml : c.maxLocals = 19 := hml0
  have hnm := (name_of_methodNamed Bd.named Bd.method).1
  have e0 : s₁.heap = h0 := by rw [← hh, Bd.state]; rfl
  have N0 := Fr.nil n0
  have hZ : Z.Warmed39 (s.setVm s.vm).vm := hZ0
  have hown : (s.setVm s.vm).vm.findClass cLAW = some m.cls := findClass_of_methodNamed Bd.named
  have X0 : Stand p l e room_1 (s.setVm s.vm) m #[(.int p0), (.int p1), (.int p2), (.int p3), (.int p4)] below meth c s₁ [] 0 0 := Stand.of_body Bd
  have hS0 : s.Since s.vm s.heap.size := (State.WarmedH.refl _).since _
  have hk0 : s.heap.size ≤ h0.size := Nat.le_of_eq (congrArg Array.size hh)
  show Go p e below _ (DoneW s (Q_rm0 Z p0 p1 p2 p3 p4 cs fv ins h0 n0) room_1.cells room_1.slots)
  refine Go.via (fun tQ kQ => castTop (ef_0 m p0 p1 p2 p3 p4) kQ) ?_
  show Go p e below (s₁.setTop (mkF m 0 #[vi p0, vi p1, vi p2, vi p3, vi p4, .unset, .unset, .unset, .unset, .unset, .unset, .unset, .unset, .unset, .unset, .unset, .unset, .unset, .unset] [])) _
  refine Go.via (fun _ => XS.iloadN X0.here hx rfl (hb hby at_0) rfl) ?_
  refine Go.via (X0.ldcInt hx hown (mvT hZ (tw hw 0 rfl)) (g := (mkF m 1 #[vi p0, vi p1, vi p2, vi p3, vi p4, .unset, .unset, .unset, .unset, .unset, .unset, .unset, .unset, .unset, .unset, .unset, .unset, .unset, .unset] [(.int p0)])) rfl (hb hby at_1)) ?_
  show Go p e below (s₁.setTop (mkF m 3 #[vi p0, vi p1, vi p2, vi p3, vi p4, .unset, .unset, .unset, .unset, .unset, .unset, .unset, .unset, .unset, .unset, .unset, .unset, .unset, .unset] [(.int (2147483647 : Int32)), (.int p0)])) _
  refine Go.via (fun _ => XS.iand X0.here hx rfl (hb hby at_3) rfl) ?_
  refine Go.via (fun _ => XS.iconst X0.here hx rfl (hb hby at_4)) ?_
  refine Go.via (fun _ => iremM X0 hx rfl (hb hby at_5) rfl (by decide)) ?_
  show Go p e below (s₁.setTop (mkF m 6 #[vi p0, vi p1, vi p2, vi p3, vi p4, .unset, .unset, .unset, .unset, .unset, .unset, .unset, .unset, .unset, .unset, .unset, .unset, .unset, .unset] [(.int ((p0 &&& (2147483647 : Int32)) % (3 : Int32)))])) _
  generalize hv_la : ((p0 &&& (2147483647 : Int32)) % (3 : Int32)) = la
  show Go p e below (s₁.setTop (mkF m 6 #[vi p0, vi p1, vi p2, vi p3, vi p4, .unset, .unset, .unset, .unset, .unset, .unset, .unset, .unset, .unset, .unset, .unset, .unset, .unset, .unset] [(.int la)])) _
  refine Go.via (fun _ => XS.istore X0.here hx rfl (hb hby at_6) rfl (l' := #[vi p0, vi p1, vi p2, vi p3, vi p4, vi la, .unset, .unset, .unset, .unset, .unset, .unset, .unset, .unset, .unset, .unset, .unset, .unset, .unset]) rfl) ?_
  refine Go.via (fun _ => XS.iloadN X0.here hx rfl (hb hby at_8) rfl) ?_
  refine Go.via (fun _ => XS.bipush X0.here hx rfl (hb hby at_9)) ?_
  refine Go.via (fun _ => XS.iushr X0.here hx rfl (hb hby at_11) rfl) ?_
  refine Go.via (X0.ldcInt hx hown (mvT hZ (tw hw 0 rfl)) (g := (mkF m 12 #[vi p0, vi p1, vi p2, vi p3, vi p4, vi la, .unset, .unset, .unset, .unset, .unset, .unset, .unset, .unset, .unset, .unset, .unset, .unset, .unset] [(.int ((p0.toUInt32 >>> ((8 : Int32) &&& 31).toUInt32).toInt32))])) rfl (hb hby at_12)) ?_
  show Go p e below (s₁.setTop (mkF m 14 #[vi p0, vi p1, vi p2, vi p3, vi p4, vi la, .unset, .unset, .unset, .unset, .unset, .unset, .unset, .unset, .unset, .unset, .unset, .unset, .unset] [(.int (2147483647 : Int32)), (.int ((p0.toUInt32 >>> ((8 : Int32) &&& 31).toUInt32).toInt32))])) _
  refine Go.via (fun _ => XS.iand X0.here hx rfl (hb hby at_14) rfl) ?_
  refine Go.via (fun _ => XS.iconst X0.here hx rfl (hb hby at_15)) ?_
  refine Go.via (fun _ => iremM X0 hx rfl (hb hby at_16) rfl (by decide)) ?_
  show Go p e below (s₁.setTop (mkF m 17 #[vi p0, vi p1, vi p2, vi p3, vi p4, vi la, .unset, .unset, .unset, .unset, .unset, .unset, .unset, .unset, .unset, .unset, .unset, .unset, .unset] [(.int ((((p0.toUInt32 >>> ((8 : Int32) &&& 31).toUInt32).toInt32) &&& (2147483647 : Int32)) % (3 : Int32)))])) _
  generalize hv_lb : ((((p0.toUInt32 >>> ((8 : Int32) &&& 31).toUInt32).toInt32) &&& (2147483647 : Int32)) % (3 : Int32)) = lb
  show Go p e below (s₁.setTop (mkF m 17 #[vi p0, vi p1, vi p2, vi p3, vi p4, vi la, .unset, .unset, .unset, .unset, .unset, .unset, .unset, .unset, .unset, .unset, .unset, .unset, .unset] [(.int lb)])) _
  refine Go.via (fun _ => XS.istore X0.here hx rfl (hb hby at_17) rfl (l' := #[vi p0, vi p1, vi p2, vi p3, vi p4, vi la, vi lb, .unset, .unset, .unset, .unset, .unset, .unset, .unset, .unset, .unset, .unset, .unset, .unset]) rfl) ?_
  refine Go.via (fun _ => XS.iloadN X0.here hx rfl (hb hby at_19) rfl) ?_
  obtain ⟨r743, _, ⟨T743, L743, k743, n743⟩, -, X743, ⟨Lc743, hQ743, l743, y743, z743⟩, st743⟩ := Jvm.LawKit.callS X0 hx (y := (⟨cLAW, "draw", "(I)C"⟩ : MethodName)) hown (mvT hZ (tw hw 1 rfl)) (mvT hZ (tw hw 2 rfl)) (mvT hZ (tw hw 3 rfl)) (mvT hZ (tw hw 4 rfl)) (by decide) (backOf (W := 0) (rmDr l Z a0 hw [] p1  h0 n0 Z0) hZ (tw hw 4 rfl) (tw hw 3 rfl) (by decide) (by decide)) (g := (mkF m 20 #[vi p0, vi p1, vi p2, vi p3, vi p4, vi la, vi lb, .unset, .unset, .unset, .unset, .unset, .unset, .unset, .unset, .unset, .unset, .unset, .unset] [(.int p1)])) rfl (by rw [hml]; rfl) (argsL := [(.int p1)]) (rest := []) (lenOf pd__28I_29C rfl) rfl (by show 2 * 0 + _ ≤ _; exact Nat.le_of_eq rfl) (hb hby at_20) (fun _ _ => ⟨rfl, e0, (by decide : 0 + 0 ≤ _), (by decide : 0 + 0 ≤ _)⟩)
  dsimp only [Pt.U, Pt.locs, Pt.cells, Pt.slots] at X743 l743 y743 z743 st743 hQ743
  rw [l743, y743, z743] at X743
  obtain ⟨hr743, N743q, eh743⟩ := hQ743
  rw [hr743] at st743
  rw [N743q, List.append_nil] at X743
  refine Go.via (st743) ?_
  clear st743
  have e743 : T743.heap = h0 := eh743
  clear X0 e0
  show Go p e below (T743.setTop (mkF m 23 #[vi p0, vi p1, vi p2, vi p3, vi p4, vi la, vi lb, .unset, .unset, .unset, .unset, .unset, .unset, .unset, .unset, .unset, .unset, .unset, .unset] [(.int (drF p1))])) _
  refine Go.via (fun _ => XS.istore X743.here hx rfl (hb hby at_23) rfl (l' := #[vi p0, vi p1, vi p2, vi p3, vi p4, vi la, vi lb, vi (drF p1), .unset, .unset, .unset, .unset, .unset, .unset, .unset, .unset, .unset, .unset, .unset]) rfl) ?_
  refine Go.via (fun _ => XS.iloadN X743.here hx rfl (hb hby at_25) rfl) ?_
  obtain ⟨r744, _, ⟨T744, L744, k744, n744⟩, -, X744, ⟨Lc744, hQ744, l744, y744, z744⟩, st744⟩ := Jvm.LawKit.callS X743 hx (y := (⟨cLAW, "draw", "(I)C"⟩ : MethodName)) hown (mvT hZ (tw hw 1 rfl)) (mvT hZ (tw hw 2 rfl)) (mvT hZ (tw hw 3 rfl)) (mvT hZ (tw hw 4 rfl)) (by decide) (backOf (W := 0) (rmDr l Z a0 hw [] p2  h0 n0 Z0) hZ (tw hw 4 rfl) (tw hw 3 rfl) (by decide) (by decide)) (g := (mkF m 26 #[vi p0, vi p1, vi p2, vi p3, vi p4, vi la, vi lb, vi (drF p1), .unset, .unset, .unset, .unset, .unset, .unset, .unset, .unset, .unset, .unset, .unset] [(.int p2)])) rfl (by rw [hml]; rfl) (argsL := [(.int p2)]) (rest := []) (lenOf pd__28I_29C rfl) rfl (by show 2 * 0 + _ ≤ _; exact Nat.le_of_eq rfl) (hb hby at_26) (fun _ _ => ⟨rfl, e743, (by decide : 0 + 0 ≤ _), (by decide : 0 + 0 ≤ _)⟩)
  dsimp only [Pt.U, Pt.locs, Pt.cells, Pt.slots] at X744 l744 y744 z744 st744 hQ744
  rw [l744, y744, z744] at X744
  obtain ⟨hr744, N744q, eh744⟩ := hQ744
  rw [hr744] at st744
  rw [N744q, List.append_nil] at X744
  refine Go.via (st744) ?_
  clear st744
  have e744 : T744.heap = h0 := eh744
  clear X743 e743
  show Go p e below (T744.setTop (mkF m 29 #[vi p0, vi p1, vi p2, vi p3, vi p4, vi la, vi lb, vi (drF p1), .unset, .unset, .unset, .unset, .unset, .unset, .unset, .unset, .unset, .unset, .unset] [(.int (drF p2))])) _
  refine Go.via (fun _ => XS.istore X744.here hx rfl (hb hby at_29) rfl (l' := #[vi p0, vi p1, vi p2, vi p3, vi p4, vi la, vi lb, vi (drF p1), vi (drF p2), .unset, .unset, .unset, .unset, .unset, .unset, .unset, .unset, .unset, .unset]) rfl) ?_
  refine Go.via (fun _ => XS.iloadN X744.here hx rfl (hb hby at_31) rfl) ?_
  refine Go.via (fun _ => XS.bipush X744.here hx rfl (hb hby at_32)) ?_
  refine Go.via (fun _ => XS.iushr X744.here hx rfl (hb hby at_34) rfl) ?_
  refine Go.via (fun _ => XS.iconst X744.here hx rfl (hb hby at_35)) ?_
  refine Go.via (fun _ => XS.iand X744.here hx rfl (hb hby at_36) rfl) ?_
  suffices hm746 : ∀ (T748 : State), Stand p l e room_1 (s.setVm s.vm) m #[(.int p0), (.int p1), (.int p2), (.int p3), (.int p4)] below meth c T748 [] 0 0 → T748.heap = h0 → Go p e below (T748.setTop (mkF m 49 #[vi p0, vi p1, vi p2, vi p3, vi p4, vi la, vi lb, vi (drF p1), vi (drF p2), .unset, .unset, .unset, .unset, .unset, .unset, .unset, .unset, .unset, .unset] [(.int (if (((p0.toUInt32 >>> ((16 : Int32) &&& 31).toUInt32).toInt32) &&& (1 : Int32)) = (0 : Int32) then (drF p3) else (drF p1)))])) (DoneW s (Q_rm0 Z p0 p1 p2 p3 p4 cs fv ins h0 n0) room_1.cells room_1.slots) by
    by_cases hc745 : (((p0.toUInt32 >>> ((16 : Int32) &&& 31).toUInt32).toInt32) &&& (1 : Int32)) = (0 : Int32)
    · rw [if_pos hc745] at hm746
      refine Go.via (fun _ => XS.ifYes X744.here hx rfl (pc0 := 37) (pc' := 45) rfl (hb hby at_37) rfl ((if0 _ _).trans (teq (hc745 : (((p0.toUInt32 >>> ((16 : Int32) &&& 31).toUInt32).toInt32) &&& (1 : Int32)) = (0 : Int32))).1) (by decide) (by decide)) ?_
      refine Go.via (fun _ => XS.iloadN X744.here hx rfl (hb hby at_45) rfl) ?_
      show Go p e below (T744.setTop (mkF m 46 #[vi p0, vi p1, vi p2, vi p3, vi p4, vi la, vi lb, vi (drF p1), vi (drF p2), .unset, .unset, .unset, .unset, .unset, .unset, .unset, .unset, .unset, .unset] [(.int p3)])) _
      obtain ⟨r747, _, ⟨T747, L747, k747, n747⟩, -, X747, ⟨Lc747, hQ747, l747, y747, z747⟩, st747⟩ := Jvm.LawKit.callS X744 hx (y := (⟨cLAW, "draw", "(I)C"⟩ : MethodName)) hown (mvT hZ (tw hw 1 rfl)) (mvT hZ (tw hw 2 rfl)) (mvT hZ (tw hw 3 rfl)) (mvT hZ (tw hw 4 rfl)) (by decide) (backOf (W := 0) (rmDr l Z a0 hw [] p3  h0 n0 Z0) hZ (tw hw 4 rfl) (tw hw 3 rfl) (by decide) (by decide)) (g := (mkF m 46 #[vi p0, vi p1, vi p2, vi p3, vi p4, vi la, vi lb, vi (drF p1), vi (drF p2), .unset, .unset, .unset, .unset, .unset, .unset, .unset, .unset, .unset, .unset] [(.int p3)])) rfl (by rw [hml]; rfl) (argsL := [(.int p3)]) (rest := []) (lenOf pd__28I_29C rfl) rfl (by show 2 * 0 + _ ≤ _; exact Nat.le_of_eq rfl) (hb hby at_46) (fun _ _ => ⟨rfl, e744, (by decide : 0 + 0 ≤ _), (by decide : 0 + 0 ≤ _)⟩)
      dsimp only [Pt.U, Pt.locs, Pt.cells, Pt.slots] at X747 l747 y747 z747 st747 hQ747
      rw [l747, y747, z747] at X747
      obtain ⟨hr747, N747q, eh747⟩ := hQ747
      rw [hr747] at st747
      rw [N747q, List.append_nil] at X747
      refine Go.via (st747) ?_
      clear st747
      have e747 : T747.heap = h0 := eh747
      clear X744 e744
      exact hm746 T747 X747 e747
    · rw [if_neg hc745] at hm746
      refine Go.via (fun _ => XS.ifNo X744.here hx rfl (hb hby at_37) rfl ((if0 _ _).trans (feq (hc745 : ¬ ((((p0.toUInt32 >>> ((16 : Int32) &&& 31).toUInt32).toInt32) &&& (1 : Int32)) = (0 : Int32)))).1)) ?_
      refine Go.via (fun _ => XS.iload X744.here hx rfl (hb hby at_40) rfl) ?_
      show Go p e below (T744.setTop (mkF m 42 #[vi p0, vi p1, vi p2, vi p3, vi p4, vi la, vi lb, vi (drF p1), vi (drF p2), .unset, .unset, .unset, .unset, .unset, .unset, .unset, .unset, .unset, .unset] [(.int (drF p1))])) _
      refine Go.via (fun _ => XS.goto X744.here hx rfl (pc0 := 42) (pc' := 49) rfl (hb hby at_42) (by decide) (by decide)) ?_
      exact hm746 T744 X744 e744
  intro T748 X748 e748
  clear X744 e744
  show Go p e below (T748.setTop (mkF m 49 #[vi p0, vi p1, vi p2, vi p3, vi p4, vi la, vi lb, vi (drF p1), vi (drF p2), .unset, .unset, .unset, .unset, .unset, .unset, .unset, .unset, .unset, .unset] [(.int (if (((p0.toUInt32 >>> ((16 : Int32) &&& 31).toUInt32).toInt32) &&& (1 : Int32)) = (0 : Int32) then (drF p3) else (drF p1)))])) _
  generalize hv_b0 : (if (((p0.toUInt32 >>> ((16 : Int32) &&& 31).toUInt32).toInt32) &&& (1 : Int32)) = (0 : Int32) then (drF p3) else (drF p1)) = b0
  show Go p e below (T748.setTop (mkF m 49 #[vi p0, vi p1, vi p2, vi p3, vi p4, vi la, vi lb, vi (drF p1), vi (drF p2), .unset, .unset, .unset, .unset, .unset, .unset, .unset, .unset, .unset, .unset] [(.int b0)])) _
  refine Go.via (fun _ => XS.istore X748.here hx rfl (hb hby at_49) rfl (l' := #[vi p0, vi p1, vi p2, vi p3, vi p4, vi la, vi lb, vi (drF p1), vi (drF p2), vi b0, .unset, .unset, .unset, .unset, .unset, .unset, .unset, .unset, .unset]) rfl) ?_
  refine Go.via (fun _ => XS.iloadN X748.here hx rfl (hb hby at_51) rfl) ?_
  refine Go.via (fun _ => XS.bipush X748.here hx rfl (hb hby at_52)) ?_
  refine Go.via (fun _ => XS.iushr X748.here hx rfl (hb hby at_54) rfl) ?_
  refine Go.via (fun _ => XS.iconst X748.here hx rfl (hb hby at_55)) ?_
  refine Go.via (fun _ => XS.iand X748.here hx rfl (hb hby at_56) rfl) ?_
  suffices hm750 : ∀ (T752 : State), Stand p l e room_1 (s.setVm s.vm) m #[(.int p0), (.int p1), (.int p2), (.int p3), (.int p4)] below meth c T752 [] 0 0 → T752.heap = h0 → Go p e below (T752.setTop (mkF m 70 #[vi p0, vi p1, vi p2, vi p3, vi p4, vi la, vi lb, vi (drF p1), vi (drF p2), vi b0, .unset, .unset, .unset, .unset, .unset, .unset, .unset, .unset, .unset] [(.int (if (((p0.toUInt32 >>> ((17 : Int32) &&& 31).toUInt32).toInt32) &&& (1 : Int32)) = (0 : Int32) then (drF p4) else (drF p2)))])) (DoneW s (Q_rm0 Z p0 p1 p2 p3 p4 cs fv ins h0 n0) room_1.cells room_1.slots) by
    by_cases hc749 : (((p0.toUInt32 >>> ((17 : Int32) &&& 31).toUInt32).toInt32) &&& (1 : Int32)) = (0 : Int32)
    · rw [if_pos hc749] at hm750
      refine Go.via (fun _ => XS.ifYes X748.here hx rfl (pc0 := 57) (pc' := 65) rfl (hb hby at_57) rfl ((if0 _ _).trans (teq (hc749 : (((p0.toUInt32 >>> ((17 : Int32) &&& 31).toUInt32).toInt32) &&& (1 : Int32)) = (0 : Int32))).1) (by decide) (by decide)) ?_
      refine Go.via (fun _ => XS.iload X748.here hx rfl (hb hby at_65) rfl) ?_
      show Go p e below (T748.setTop (mkF m 67 #[vi p0, vi p1, vi p2, vi p3, vi p4, vi la, vi lb, vi (drF p1), vi (drF p2), vi b0, .unset, .unset, .unset, .unset, .unset, .unset, .unset, .unset, .unset] [(.int p4)])) _
      obtain ⟨r751, _, ⟨T751, L751, k751, n751⟩, -, X751, ⟨Lc751, hQ751, l751, y751, z751⟩, st751⟩ := Jvm.LawKit.callS X748 hx (y := (⟨cLAW, "draw", "(I)C"⟩ : MethodName)) hown (mvT hZ (tw hw 1 rfl)) (mvT hZ (tw hw 2 rfl)) (mvT hZ (tw hw 3 rfl)) (mvT hZ (tw hw 4 rfl)) (by decide) (backOf (W := 0) (rmDr l Z a0 hw [] p4  h0 n0 Z0) hZ (tw hw 4 rfl) (tw hw 3 rfl) (by decide) (by decide)) (g := (mkF m 67 #[vi p0, vi p1, vi p2, vi p3, vi p4, vi la, vi lb, vi (drF p1), vi (drF p2), vi b0, .unset, .unset, .unset, .unset, .unset, .unset, .unset, .unset, .unset] [(.int p4)])) rfl (by rw [hml]; rfl) (argsL := [(.int p4)]) (rest := []) (lenOf pd__28I_29C rfl) rfl (by show 2 * 0 + _ ≤ _; exact Nat.le_of_eq rfl) (hb hby at_67) (fun _ _ => ⟨rfl, e748, (by decide : 0 + 0 ≤ _), (by decide : 0 + 0 ≤ _)⟩)
      dsimp only [Pt.U, Pt.locs, Pt.cells, Pt.slots] at X751 l751 y751 z751 st751 hQ751
      rw [l751, y751, z751] at X751
      obtain ⟨hr751, N751q, eh751⟩ := hQ751
      rw [hr751] at st751
      rw [N751q, List.append_nil] at X751
      refine Go.via (st751) ?_
      clear st751
      have e751 : T751.heap = h0 := eh751
      clear X748 e748
      exact hm750 T751 X751 e751
    · rw [if_neg hc749] at hm750
      refine Go.via (fun _ => XS.ifNo X748.here hx rfl (hb hby at_57) rfl ((if0 _ _).trans (feq (hc749 : ¬ ((((p0.toUInt32 >>> ((17 : Int32) &&& 31).toUInt32).toInt32) &&& (1 : Int32)) = (0 : Int32)))).1)) ?_
      refine Go.via (fun _ => XS.iload X748.here hx rfl (hb hby at_60) rfl) ?_
      show Go p e below (T748.setTop (mkF m 62 #[vi p0, vi p1, vi p2, vi p3, vi p4, vi la, vi lb, vi (drF p1), vi (drF p2), vi b0, .unset, .unset, .unset, .unset, .unset, .unset, .unset, .unset, .unset] [(.int (drF p2))])) _
      refine Go.via (fun _ => XS.goto X748.here hx rfl (pc0 := 62) (pc' := 70) rfl (hb hby at_62) (by decide) (by decide)) ?_
      exact hm750 T748 X748 e748
  intro T752 X752 e752
  clear X748 e748
  show Go p e below (T752.setTop (mkF m 70 #[vi p0, vi p1, vi p2, vi p3, vi p4, vi la, vi lb, vi (drF p1), vi (drF p2), vi b0, .unset, .unset, .unset, .unset, .unset, .unset, .unset, .unset, .unset] [(.int (if (((p0.toUInt32 >>> ((17 : Int32) &&& 31).toUInt32).toInt32) &&& (1 : Int32)) = (0 : Int32) then (drF p4) else (drF p2)))])) _
  generalize hv_b1 : (if (((p0.toUInt32 >>> ((17 : Int32) &&& 31).toUInt32).toInt32) &&& (1 : Int32)) = (0 : Int32) then (drF p4) else (drF p2)) = b1
  show Go p e below (T752.setTop (mkF m 70 #[vi p0, vi p1, vi p2, vi p3, vi p4, vi la, vi lb, vi (drF p1), vi (drF p2), vi b0, .unset, .unset, .unset, .unset, .unset, .unset, .unset, .unset, .unset] [(.int b1)])) _
  refine Go.via (fun _ => XS.istore X752.here hx rfl (hb hby at_70) rfl (l' := #[vi p0, vi p1, vi p2, vi p3, vi p4, vi la, vi lb, vi (drF p1), vi (drF p2), vi b0, vi b1, .unset, .unset, .unset, .unset, .unset, .unset, .unset, .unset]) rfl) ?_
  refine Go.via (fun _ => XS.iload X752.here hx rfl (hb hby at_72) rfl) ?_
  refine Go.via (fun _ => XS.iload X752.here hx rfl (hb hby at_74) rfl) ?_
  refine Go.via (fun _ => XS.iload X752.here hx rfl (hb hby at_76) rfl) ?_
  obtain ⟨r753, _, ⟨T753, L753, k753, n753⟩, -, X753, h2753, gS753, ⟨Lc753, hQ753, l753, y753, z753⟩, st753⟩ := Jvm.RoadKit.callSS X752 hx (y := (⟨cLAW, "mk", "(ICC)Ljava/lang/String;"⟩ : MethodName)) hown (mvT hZ (tw hw 9 rfl)) (mvT hZ (tw hw 10 rfl)) (mvT hZ (tw hw 3 rfl)) (mvT hZ (tw hw 11 rfl)) (by decide) (backOfV (W := 0) (V := V_rmMk Z la (drF p1) (drF p2) cs h0) (rmMk l Z a0 hw [] la (drF p1) (drF p2) cs h0 n0 Z0 P0 zCS zAD zHI zLO hcs hh7 hcw (own_dr _) (own_dr _)) hZ (tw hw 11 rfl) (tw hw 3 rfl) (by decide) (by decide) (fun vm' hW => ⟨Em.still I0 hW.interned_eq (w39 hW.wide), trivial⟩)) (g := (mkF m 78 #[vi p0, vi p1, vi p2, vi p3, vi p4, vi la, vi lb, vi (drF p1), vi (drF p2), vi b0, vi b1, .unset, .unset, .unset, .unset, .unset, .unset, .unset, .unset] [(.int (drF p2)), (.int (drF p1)), (.int la)])) rfl (by rw [hml]; rfl) (argsL := [(.int la), (.int (drF p1)), (.int (drF p2))]) (rest := []) (lenOf pd__28ICC_29Ljava_2flang_2fString_3b rfl) rfl (by show 2 * 0 + _ ≤ _; exact Nat.le_of_eq rfl) (hb hby at_78) (fun _ _ => ⟨rfl, e752, (by decide : 0 + 4 ≤ _), (by decide : 0 + 12 ≤ _)⟩)
  dsimp only [Pt.U, Pt.locs, Pt.cells, Pt.slots] at X753 l753 y753 z753 st753 hQ753 h2753 gS753
  rw [l753, y753, z753] at X753
  obtain ⟨b754, v755, v756, v757, hr753, N753q, K753q, fz_b754, f758, f759, f760, f761, I753, qp762⟩ := hQ753
  rw [hr753] at st753
  have N753 := Fr.app N0 N753q
  refine Go.via (fun _ kQ => st753.trans kQ) ?_
  clear st753
  have ge763 : n0 ≤ b754 := Nat.le_trans Z0 fz_b754
  have sz764 : h0.size ≤ b754 := Nat.le_trans (Keep.refl h0 []).1 fz_b754
  have e753 : T753.heap = T753.heap := rfl
  have f765 : Exa Z T753.heap b754 cST := f758
  have f766 : Fld Z T753.heap b754 cST "coder" "B" (.int v756) := f759
  have f767 : Fld Z T753.heap b754 cST "value" "[B" (.ref v755) := f760
  have f768 : Ia Z T753.heap v755 .byte v757 := f761
  have ne769 : v755 ≠ b754 := Ia.neE (a0 := a0) f768 f765 (tw hw 13 rfl)
  obtain ⟨X753r, hS753, hZ, hown⟩ := rebS hS0 (Nat.le_trans hk0 (Nat.le_of_eq (congrArg Array.size (Eq.symm e752)))) X753 h2753 gS753 hZ hown
  clear X753 h2753 gS753
  clear X752 e752
  show Go p e below (T753.setTop (mkF m 81 #[vi p0, vi p1, vi p2, vi p3, vi p4, vi la, vi lb, vi (drF p1), vi (drF p2), vi b0, vi b1, .unset, .unset, .unset, .unset, .unset, .unset, .unset, .unset] [(.ref b754)])) _
  refine Go.via (fun _ => XS.astore X753r.here hx rfl (hb hby at_81) rfl rfl (l' := #[vi p0, vi p1, vi p2, vi p3, vi p4, vi la, vi lb, vi (drF p1), vi (drF p2), vi b0, vi b1, vr b754, .unset, .unset, .unset, .unset, .unset, .unset, .unset]) rfl) ?_
  refine Go.via (fun _ => XS.iload X753r.here hx rfl (hb hby at_83) rfl) ?_
  refine Go.via (fun _ => XS.iload X753r.here hx rfl (hb hby at_85) rfl) ?_
  refine Go.via (fun _ => XS.iload X753r.here hx rfl (hb hby at_87) rfl) ?_
  have o770 : Old Z n0 T753.heap := (P0.keep K753q all0)
  have z772 : n0 ≤ T753.heap.size := (Nat.le_trans Z0 K753q.1)
  obtain ⟨r771, _, ⟨T771, L771, k771, n771⟩, -, X771, h2771, gS771, ⟨Lc771, hQ771, l771, y771, z771⟩, st771⟩ := Jvm.RoadKit.callSS X753r hx (y := (⟨cLAW, "mk", "(ICC)Ljava/lang/String;"⟩ : MethodName)) hown (mvT hZ (tw hw 9 rfl)) (mvT hZ (tw hw 10 rfl)) (mvT hZ (tw hw 3 rfl)) (mvT hZ (tw hw 11 rfl)) (by decide) (backOfV (W := 0) (V := V_rmMk Z lb b0 b1 cs T753.heap) (rmMk l Z a0 hw [] lb b0 b1 cs T753.heap n0 z772 o770 zCS zAD zHI zLO hcs hh7 hcw (own_chif hv_b0 (own_dr _) (own_dr _)) (own_chif hv_b1 (own_dr _) (own_dr _))) hZ (tw hw 11 rfl) (tw hw 3 rfl) (by decide) (by decide) (fun vm' hW => ⟨Em.still I753 hW.interned_eq (w39 hW.wide), trivial⟩)) (g := (mkF m 89 #[vi p0, vi p1, vi p2, vi p3, vi p4, vi la, vi lb, vi (drF p1), vi (drF p2), vi b0, vi b1, vr b754, .unset, .unset, .unset, .unset, .unset, .unset, .unset] [(.int b1), (.int b0), (.int lb)])) rfl (by rw [hml]; rfl) (argsL := [(.int lb), (.int b0), (.int b1)]) (rest := []) (lenOf pd__28ICC_29Ljava_2flang_2fString_3b rfl) rfl (by show 2 * 0 + _ ≤ _; exact Nat.le_of_eq rfl) (hb hby at_89) (fun _ _ => ⟨rfl, e753, (by decide : 4 + 4 ≤ _), (by decide : 12 + 12 ≤ _)⟩)
  dsimp only [Pt.U, Pt.locs, Pt.cells, Pt.slots] at X771 l771 y771 z771 st771 hQ771 h2771 gS771
  rw [l771, y771, z771] at X771
  obtain ⟨b773, v774, v775, v776, hr771, N771q, K771q, fz_b773, f777, f778, f779, f780, I771, qp781⟩ := hQ771
  rw [hr771] at st771
  have N771 := Fr.app N753 N771q
  refine Go.via (fun _ kQ => st771.trans kQ) ?_
  clear st771
  have ne782 : b754 ≠ b773 := Nat.ne_of_lt (Nat.lt_of_lt_of_le f765.lt fz_b773)
  have ne783 : v755 ≠ b773 := Nat.ne_of_lt (Nat.lt_of_lt_of_le f768.lt fz_b773)
  have ge784 : n0 ≤ b773 := Nat.le_trans z772 fz_b773
  have k786 : Keep h0 T753.heap [] := ((Keep.refl h0 []).trans K753q all0)
  have sz785 : h0.size ≤ b773 := Nat.le_trans k786.1 fz_b773
  have e771 : T771.heap = T771.heap := rfl
  have f787 : Exa Z T771.heap b773 cST := f777
  have f788 : Fld Z T771.heap b773 cST "coder" "B" (.int v775) := f778
  have f789 : Fld Z T771.heap b773 cST "value" "[B" (.ref v774) := f779
  have f790 : Ia Z T771.heap v774 .byte v776 := f780
  have f791 : Exa Z T771.heap b754 cST := (f765.keep K771q)
  have ne792 : v774 ≠ b754 := Ia.neE (a0 := a0) f790 f791 (tw hw 13 rfl)
  have ne793 : v774 ≠ b773 := Ia.neE (a0 := a0) f790 f787 (tw hw 13 rfl)
  obtain ⟨X771r, hS771, hZ, hown⟩ := rebS hS753 (Nat.le_trans (Nat.le_refl _) (Nat.le_of_eq (congrArg Array.size (Eq.symm e753)))) X771 h2771 gS771 hZ hown
  clear X771 h2771 gS771
  clear X753r e753
  show Go p e below (T771.setTop (mkF m 92 #[vi p0, vi p1, vi p2, vi p3, vi p4, vi la, vi lb, vi (drF p1), vi (drF p2), vi b0, vi b1, vr b754, .unset, .unset, .unset, .unset, .unset, .unset, .unset] [(.ref b773)])) _
  refine Go.via (fun _ => XS.astore X771r.here hx rfl (hb hby at_92) rfl rfl (l' := #[vi p0, vi p1, vi p2, vi p3, vi p4, vi la, vi lb, vi (drF p1), vi (drF p2), vi b0, vi b1, vr b754, vr b773, .unset, .unset, .unset, .unset, .unset, .unset]) rfl) ?_
  have z881 : n0 ≤ T771.heap.size := (Nat.le_trans z772 K771q.1)
  have k882 : Keep h0 T771.heap [] := (k786.trans K771q all0)
  have o883 : Old Z n0 T771.heap := (o770.keep K771q all0)
  have f884 : Fld Z T771.heap b754 cST "coder" "B" (.int v756) := (f766.keep K771q nin0)
  have f885 : Fld Z T771.heap b754 cST "value" "[B" (.ref v755) := (f767.keep K771q nin0)
  have f886 : Ia Z T771.heap v755 .byte v757 := (f768.keep K771q nin0)
  exact rm_rm0_l94_1 l Z a0 hw p0 p1 p2 p3 p4 cs fv ins h0 n0 zCS zF zAD zHI zLO zIN zIE hcs hfv hh7 hcw hx hby hlk hml Bd.returns T771 _ T771.heap T771.vm _ la lb b0 b1 v756 v757 v775 v776 b754 b773 v755 v774 X771r e771 N771 z881 k882 hZ hown hS771 (Nat.le_refl _) o883 f791 f884 f885 f886 f787 f788 f789 f790 hv_la hv_lb qp762 qp781
theorem own_isr {args : Array Value} {s : State} {t : Term} (h : (Jvm.Cond.isRef t).value args s none s [] = some true) : ∃ v, t.eval args s none [] s = some v ∧ (v = .null ∨ ∃ a : Addr, v = .ref a) := by
  cases ev : t.eval args s none [] s with
  | none => simp [Cond.value, ev] at h
  | some v => cases v <;> simp [Cond.value, ev] at h ⊢
theorem own_isi {args : Array Value} {s : State} {t : Term} (h : (Jvm.Cond.isInt t).value args s none s [] = some true) : ∃ v, t.eval args s none [] s = some (.int v) := by
  cases ev : t.eval args s none [] s with
  | none => simp [Cond.value, ev] at h
  | some v => cases v <;> simp [Cond.value, ev] at h ⊢
theorem own_nz {args : Array Value} {s : State} {t : Term} {n : Int32} (ev : t.eval args s none [] s = some (.int n)) (h : (Jvm.Cond.not (Jvm.Cond.eq t (.int 0))).value args s none s [] = some true) : ¬ (n = (0 : Int32)) := by
  intro q; subst q; simp [Cond.value, ev, Term.eval] at h
theorem own_ei {args : Array Value} {s : State} {idx : List Nat} {t : Term} {n : Int32} (h : (Jvm.Cond.eq t (.int n)).value args s none s idx = some true) : t.eval args s none idx s = some (.int n) := by
  obtain ⟨x, y, h1, h2, k1, k2⟩ := cmp_v (Or.inl h)
  have e : y = .int n := Option.some.inj (h2.symm.trans (Term.int_eval n))
  subst e
  obtain ⟨z, rfl⟩ : ∃ z, x = .int z := k2
  have q := gotT (P := z = n) (by simp [Cond.value, h1, h2]) h
  rw [h1, q]
set_option maxRecDepth 65536 in
set_option maxHeartbeats 40000000 in
theorem comes_1 {Post : Tables → Env → Array Value → State → Outcome → State → Prop} (hpost : ∀ tb e args s v u, (limb_1_1.after args s (.returned v) u = true ∧ limb_1_2.after args s (.returned v) u = true ∧ True) → FramedW s (.returned v) u (Jvm.fieldLocs frame_1_writes args s ++ Jvm.arrayLocs frame_1_arrays args s ++ Jvm.staticLocs frame_1_statics s) 32 1152 → Post tb e args s (.returned v) u) :
    ArmFor flags0 classFile x code maxLocals ret World_1 tables_1 room_1 Calls_1 rest_1 Pre_1 Post := by
  intro l hfl _ _ p e ha hc hk s m args below hf hA hF happ hP
  obtain ⟨hcalls, hrest, hpre⟩ := hP
  obtain ⟨-, -, -, hnamed, -, -, -, hat⟩ := (Spec.applies_iff hf).mp happ
  obtain ⟨hg, hn⟩ := and_e (Cond.before_iff.mp (show (Jvm.Cond.and given_1 narrow_1).before args s = true from hpre))
  obtain ⟨g0, r0⟩ := and_e hg
  obtain ⟨q0, r1⟩ := and_e r0
  obtain ⟨q1, r2⟩ := and_e r1
  obtain ⟨q2, r3⟩ := and_e r2
  obtain ⟨q3, r4⟩ := and_e r3
  have q4 := r4
  obtain ⟨w0, w1, w2, w3, w4, rfl⟩ : ∃ w0 w1 w2 w3 w4 : Value, args = #[w0, w1, w2, w3, w4] := by
    have hs : args.size = 5 := by simpa [Cond.value, given_1] using g0
    obtain ⟨L⟩ := args
    match L, hs with
    | [w0, w1, w2, w3, w4], _ => exact ⟨w0, w1, w2, w3, w4, rfl⟩
  have hw := fun d (hd : d ∈ tables_1) => atoms_spec (ws := Jvm.Cond.code x code maxLocals ret :: tables_1) hat d (List.mem_cons_of_mem _ hd)
  have hfit : Fit s := fun {y c} hc i hi => by
    obtain ⟨ha, rfl⟩ := Array.getElem?_eq_some_iff.mp hc
    have q := List.all_eq_true.mp ((Array.all_eq_true_iff_forall_mem.mp hF) _ (Array.getElem_mem ha)) i (List.mem_range.mpr hi)
    simpa [Array.getElem?_eq_getElem hi] using q
  obtain ⟨i0, ei0⟩ := is_v q0
  obtain rfl : w0 = (.int i0) := Option.some.inj ei0
  obtain ⟨i1, ei1⟩ := is_v q1
  obtain rfl : w1 = (.int i1) := Option.some.inj ei1
  obtain ⟨i2, ei2⟩ := is_v q2
  obtain rfl : w2 = (.int i2) := Option.some.inj ei2
  obtain ⟨i3, ei3⟩ := is_v q3
  obtain rfl : w3 = (.int i3) := Option.some.inj ei3
  obtain ⟨i4, ei4⟩ := is_v q4
  obtain rfl : w4 = (.int i4) := Option.some.inj ei4
  obtain ⟨hsets, hown0⟩ := atoms_of _ (rest_1_c_eq ▸ (show rest_1_c.before _ s = true from hrest))
  obtain ⟨cs, ecs⟩ := own_isi (Cond.before_iff.mp (hsets _ (List.mem_of_getElem? (i := 1) rfl)))
  have zCS := Sta.start ecs (Or.inl (hsets _ (List.mem_of_getElem? (i := 0) rfl)))
  have hcs := own_nz ecs (Cond.before_iff.mp (hsets _ (List.mem_of_getElem? (i := 2) rfl)))
  have hcw : Jvm.Lit.compactW.before _ s = true := (hsets _ (List.mem_of_getElem? (i := 2) rfl))
  obtain ⟨fv, efv, hfv⟩ := own_isr (Cond.before_iff.mp (hsets _ (List.mem_of_getElem? (i := 8) rfl)))
  have zF := Sta.start efv (Or.inl (hsets _ (List.mem_of_getElem? (i := 7) rfl)))
  have zAD := Sta.start (own_ei (Cond.before_iff.mp (hsets _ (List.mem_of_getElem? (i := 12) rfl)))) (Or.inl (hsets _ (List.mem_of_getElem? (i := 11) rfl)))
  have zHI := Sta.start (own_ei (Cond.before_iff.mp (hsets _ (List.mem_of_getElem? (i := 15) rfl)))) (Or.inl (hsets _ (List.mem_of_getElem? (i := 14) rfl)))
  have zLO := Sta.start (own_ei (Cond.before_iff.mp (hsets _ (List.mem_of_getElem? (i := 18) rfl)))) (Or.inl (hsets _ (List.mem_of_getElem? (i := 17) rfl)))
  obtain ⟨ins, eins⟩ := exa_v hn
  have zIE := Exa.start eins hn
  have zIN := Sta.start eins (Or.inr ⟨(hw _ (List.mem_of_getElem? (i := 39) rfl)), (hw _ (List.mem_of_getElem? (i := 40) rfl))⟩)
  obtain ⟨n, o, h1, h2, h3, _, L, rfl, ⟨rfl, N, -⟩, hq⟩ := rm0 l s _ hw tables_1 i0 i1 i2 i3 i4 cs fv ins s.heap s.heap.size (Nat.le_refl _) (Old.start s) zCS zF zAD zHI zLO zIN zIE hcs hfv (hcalls.1 _ (List.mem_of_getElem? (i := 0) rfl)) hcw p e ha hc hk s m _ below hf ((Spec.applies_iff_loose hf).mp happ).1 ⟨rfl, State.Warmed39.refl s, rfl, ⟨Em.begin, trivial⟩⟩ trivial
  refine ⟨n, _, h1, h2, h3, hpost _ _ _ _ _ _ ⟨Cond.after_iff.mpr rfl, Cond.after_iff.mpr (eq_i res_at (Term.int_eval (1)) rfl), trivial⟩ ⟨hq.1, hq.2.1, hq.2.2.1, (hq.2.2.2.sift fun y hy => Or.inr (N y hy)).mono (by decide) (by decide)⟩⟩
theorem main_1_1 : Claimed_1_1 := comes_1 fun _ _ _ _ _ _ h hF => ⟨h.1, hF⟩
theorem main_1_2 : Claimed_1_2 := comes_1 fun _ _ _ _ _ _ h hF => ⟨h.2.1, hF⟩
end Jvm.Pilot.@@N@@
namespace Jvm.Pilot.@@N@@
open Jvm Jvm.ClassFile Sem Op Lib Jvm.Free Jvm.Stand Jvm.Pilot.@@N@@.Jvm.D
/-! MADE BY PROGRAM (witnessworld.py) out of the Statement's table words and the real class files: 25 classes; the members and pool entries that the words name. The judged class is class 1, her method 7. -/
namespace start1
open Jvm.ClassFile
def u (s : String) : CpInfo := .utf8 (stringToUtf16 s)
/-- a pool by its gaps: so many unusable entries, then the entry; so many at the end -/
def gap : Nat → List CpInfo → List CpInfo
  | 0, r => r
  | n + 1, r => .unusable :: gap n r
def poolList (es : List (Nat × CpInfo)) (last : Nat) : List CpInfo := es.foldr (fun e r => gap e.1 (e.2 :: r)) (gap last [])
def pool (es : List (Nat × CpInfo)) (last : Nat) : Array CpInfo := ⟨poolList es last⟩
def fileOf (pool : Array CpInfo) (this : Nat) (attrs : Array Attribute := #[]) (ms : Array MethodInfo := #[]) (fl : Nat := 33) (sup : Nat := 0) (ifs : Array Nat := #[]) (fds : Array FieldInfo := #[]) : ClassFile where
  minorVersion := 0
  majorVersion := 65
  constantPool := pool
  accessFlags := fl
  thisClass := this
  superClass := sup
  interfaces := ifs
  fields := fds
  methods := ms
  attributes := attrs
def plain (name : String) (sup : Option ClassId) : Class where
  name := name
  kind := .ordinary
  loader := none
  accessFlags := 33
  super := sup
  interfaces := #[]
  cf := none
  fields := #[]
  methods := #[]
  instanceTypes := #[]
  staticTypes := #[]
  resolved := #[]
  callSites := []
  init := .initialized
  statics := none
  mirror := none

def pool0 : Array CpInfo := pool [(5, u "<init>"), (0, u "()V"), (1, .class_ 10), (1, u "java/lang/Object")] 113

def k0c0 : Code := { maxStack := 0, maxLocals := 1, code := object_method_1_code, exceptionTable := #[], attributes := #[] }
def k0m0 : Method := { name := "<init>", desc := "()V", sig := { parameters := [], returnType := none }, accessFlags := 1, code := some k0c0 }
/-- java/lang/Object -/
def k0 : Class := { plain "java/lang/Object" none with
  accessFlags := 33
  interfaces := #[]
  cf := some (fileOf pool0 8 #[] #[{ accessFlags := 1, nameIndex := 5, descriptorIndex := 6, attributes := #[] }] 33 0 #[] #[])
  fields := #[]
  methods := #[k0m0]
  instanceTypes := #[]
  staticTypes := #[]
  resolved := Array.replicate 124 none
  statics := none }

def pool1 : Array CpInfo := pool [(2, .class_ 4), (1, u "java/lang/Object"), (0, u "<init>"), (0, u "()V"), (0, .integer 65535), (0, .integer 55296), (0, .integer 56320), (0, .integer 57344), (0, .integer 56319), (0, .integer 57343), (0, .class_ 14), (0, u "java/lang/String"), (0, .methodref 13 16), (0, .nameAndType 5 17), (0, u "([C)V"), (0, .methodref 19 20), (0, .class_ 21), (0, .nameAndType 22 23), (0, u "com/example/acquaint/acquaint/store/CodePointOrderComparePinLaw"), (0, u "isHigh"), (0, u "(C)Z"), (0, .methodref 19 25), (0, .nameAndType 26 23), (0, u "isLow"), (0, .integer 65536), (0, .integer 2147483647), (0, .methodref 19 30), (0, .nameAndType 31 32), (0, u "draw"), (0, u "(I)C"), (0, .methodref 19 34), (0, .nameAndType 35 36), (0, u "mk"), (0, u "(ICC)Ljava/lang/String;"), (0, .methodref 19 38), (0, .nameAndType 39 40), (0, u "cps"), (0, u "(ICC[I)I"), (0, .fieldref 42 43), (0, .class_ 44), (0, .nameAndType 45 46), (0, u "com/example/acquaint/acquaint/store/CodePointOrder"), (0, u "INSTANCE"), (0, u "Lcom/example/acquaint/acquaint/store/CodePointOrder;"), (0, .methodref 42 48), (0, .nameAndType 49 50), (0, u "compare"), (0, u "(Ljava/lang/String;Ljava/lang/String;)I"), (0, .methodref 19 52), (0, .nameAndType 53 54), (0, u "sign"), (0, u "(I)I"), (3, u "law"), (0, u "(IIIII)Z")] 4

def k1m0 : Method := { name := "<init>", desc := "()V", sig := { parameters := [], returnType := none }, accessFlags := 1, code := none }
def k1c1 : Code := { maxStack := 3, maxLocals := 3, code := method_2_code, exceptionTable := #[], attributes := #[] }
def k1m1 : Method := { name := "draw", desc := "(I)C", sig := { parameters := [.int], returnType := some .char }, accessFlags := 10, code := some k1c1 }
def k1c2 : Code := { maxStack := 2, maxLocals := 1, code := method_3_code, exceptionTable := #[], attributes := #[] }
def k1m2 : Method := { name := "isHigh", desc := "(C)Z", sig := { parameters := [.char], returnType := some .boolean }, accessFlags := 10, code := some k1c2 }
def k1c3 : Code := { maxStack := 2, maxLocals := 1, code := method_4_code, exceptionTable := #[], attributes := #[] }
def k1m3 : Method := { name := "isLow", desc := "(C)Z", sig := { parameters := [.char], returnType := some .boolean }, accessFlags := 10, code := some k1c3 }
def k1c4 : Code := { maxStack := 6, maxLocals := 3, code := method_5_code, exceptionTable := #[], attributes := #[] }
def k1m4 : Method := { name := "mk", desc := "(ICC)Ljava/lang/String;", sig := { parameters := [.int, .char, .char], returnType := some (.object "java/lang/String") }, accessFlags := 10, code := some k1c4 }
def k1c5 : Code := { maxStack := 5, maxLocals := 4, code := method_6_code, exceptionTable := #[], attributes := #[] }
def k1m5 : Method := { name := "cps", desc := "(ICC[I)I", sig := { parameters := [.int, .char, .char, (.array .int)], returnType := some .int }, accessFlags := 10, code := some k1c5 }
def k1c6 : Code := { maxStack := 1, maxLocals := 1, code := method_7_code, exceptionTable := #[], attributes := #[] }
def k1m6 : Method := { name := "sign", desc := "(I)I", sig := { parameters := [.int], returnType := some .int }, accessFlags := 10, code := some k1c6 }
def k1c7 : Code := { maxStack := 4, maxLocals := 19, code := code, exceptionTable := #[], attributes := #[] }
def k1m7 : Method := { name := "law", desc := "(IIIII)Z", sig := { parameters := [.int, .int, .int, .int, .int], returnType := some .boolean }, accessFlags := 9, code := some k1c7 }
/-- com/example/acquaint/acquaint/store/CodePointOrderComparePinLaw -/
def k1 : Class := { plain "com/example/acquaint/acquaint/store/CodePointOrderComparePinLaw" (some 0) with
  accessFlags := 49
  interfaces := #[]
  cf := some (fileOf pool1 19 #[] #[{ accessFlags := 1, nameIndex := 5, descriptorIndex := 6, attributes := #[] }, { accessFlags := 10, nameIndex := 31, descriptorIndex := 32, attributes := #[] }, { accessFlags := 10, nameIndex := 22, descriptorIndex := 23, attributes := #[] }, { accessFlags := 10, nameIndex := 26, descriptorIndex := 23, attributes := #[] }, { accessFlags := 10, nameIndex := 35, descriptorIndex := 36, attributes := #[] }, { accessFlags := 10, nameIndex := 39, descriptorIndex := 40, attributes := #[] }, { accessFlags := 10, nameIndex := 53, descriptorIndex := 54, attributes := #[] }, { accessFlags := 9, nameIndex := 58, descriptorIndex := 59, attributes := #[] }] 49 2 #[] #[])
  fields := #[]
  methods := #[k1m0, k1m1, k1m2, k1m3, k1m4, k1m5, k1m6, k1m7]
  instanceTypes := #[]
  staticTypes := #[]
  resolved := Array.replicate 64 none
  statics := none }

def pool2 : Array CpInfo := pool [(1, .class_ 2), (0, u "java/io/Serializable"), (0, .class_ 4), (0, u "java/lang/Object")] 2

/-- java/io/Serializable -/
def k2 : Class := { plain "java/io/Serializable" (some 0) with
  accessFlags := 1537
  interfaces := #[]
  cf := some (fileOf pool2 1 #[] #[] 1537 3 #[] #[])
  fields := #[]
  methods := #[]
  instanceTypes := #[]
  staticTypes := #[]
  resolved := Array.replicate 7 none
  statics := none }

def pool3 : Array CpInfo := pool [(1, .class_ 2), (0, u "java/lang/Comparable"), (0, .class_ 4), (0, u "java/lang/Object")] 7

/-- java/lang/Comparable -/
def k3 : Class := { plain "java/lang/Comparable" (some 0) with
  accessFlags := 1537
  interfaces := #[]
  cf := some (fileOf pool3 1 #[] #[] 1537 3 #[] #[])
  fields := #[]
  methods := #[]
  instanceTypes := #[]
  staticTypes := #[]
  resolved := Array.replicate 12 none
  statics := none }

def pool4 : Array CpInfo := pool [(2, .class_ 4), (1, u "java/lang/CharSequence"), (42, .class_ 48), (0, u "java/lang/CharSequence$1CodePointIterator"), (10, .class_ 60), (0, u "java/lang/CharSequence$1CharIterator"), (5, .class_ 67), (0, u "java/lang/Object")] 63

/-- java/lang/CharSequence -/
def k4 : Class := { plain "java/lang/CharSequence" (some 0) with
  accessFlags := 1537
  interfaces := #[]
  cf := some (fileOf pool4 2 #[.nestMembers #[47, 59]] #[] 1537 66 #[] #[])
  fields := #[]
  methods := #[]
  instanceTypes := #[]
  staticTypes := #[]
  resolved := Array.replicate 131 none
  statics := none }

def pool5 : Array CpInfo := pool [(1, .class_ 2), (0, u "java/lang/constant/Constable"), (0, .class_ 4), (0, u "java/lang/Object")] 6

/-- java/lang/constant/Constable -/
def k5 : Class := { plain "java/lang/constant/Constable" (some 0) with
  accessFlags := 1537
  interfaces := #[]
  cf := some (fileOf pool5 1 #[] #[] 1537 3 #[] #[])
  fields := #[]
  methods := #[]
  instanceTypes := #[]
  staticTypes := #[]
  resolved := Array.replicate 11 none
  statics := none }

def pool6 : Array CpInfo := pool [(1, .class_ 2), (0, u "java/lang/constant/ConstantDesc"), (0, .class_ 4), (0, u "java/lang/Object")] 32

/-- java/lang/constant/ConstantDesc -/
def k6 : Class := { plain "java/lang/constant/ConstantDesc" (some 0) with
  accessFlags := 1537
  interfaces := #[]
  cf := some (fileOf pool6 1 #[] #[] 1537 3 #[] #[])
  fields := #[]
  methods := #[]
  instanceTypes := #[]
  staticTypes := #[]
  resolved := Array.replicate 37 none
  statics := none }

def pool7 : Array CpInfo := pool [(1, .methodref 2 3), (0, .class_ 4), (0, .nameAndType 5 6), (0, u "java/lang/Object"), (0, u "<init>"), (0, u "()V"), (0, .string 8), (0, u ""), (0, .fieldref 10 11), (0, .class_ 12), (0, .nameAndType 13 14), (0, u "java/lang/String"), (0, u "value"), (0, u "[B"), (0, .fieldref 10 16), (0, .nameAndType 17 18), (0, u "coder"), (0, u "B"), (2, u "hash"), (0, u "I"), (2, u "hashIsZero"), (0, u "Z"), (0, .methodref 10 28), (0, .nameAndType 5 29), (0, u "([CIILjava/lang/Void;)V"), (8, .fieldref 10 39), (0, .nameAndType 40 26), (0, u "COMPACT_STRINGS"), (1, .class_ 44), (1, u "java/lang/StringUTF16"), (0, u "compress"), (1, .methodref 42 48), (0, .nameAndType 49 50), (0, u "coderFromArrayLen"), (0, u "([BI)B"), (46, u "([BII)I"), (44, u "()Z"), (34, .methodref 42 178), (0, .nameAndType 45 179), (0, u "([CII)[B"), (154, u "()I"), (0, .methodref 10 336), (0, .nameAndType 17 337), (0, u "()B"), (53, u "(II)V"), (100, .methodref 10 493), (0, .nameAndType 494 142), (0, u "isLatin1"), (4, .methodref 10 500), (0, .nameAndType 501 391), (0, u "checkIndex"), (0, .methodref 42 503), (0, .nameAndType 504 97), (0, u "codePointAt"), (2, u "length"), (67, .class_ 576), (0, u "java/lang/CharSequence"), (22, u "CASE_INSENSITIVE_ORDER"), (0, u "Ljava/util/Comparator;"), (164, u "(I)I"), (244, u "([C)V"), (42, .fieldref 1054 1055), (0, .class_ 1056), (0, .nameAndType 1057 1058), (0, u "jdk/internal/util/Preconditions"), (0, u "SIOOBE_FORMATTER"), (0, u "Ljava/util/function/BiFunction;"), (0, .methodref 1054 1060), (0, .nameAndType 501 1061), (0, u "(IILjava/util/function/BiFunction;)I"), (39, u "serialPersistentFields"), (0, u "[Ljava/io/ObjectStreamField;"), (0, .class_ 1104), (0, u "java/lang/String$CaseInsensitiveComparator"), (1, .class_ 1107), (0, u "java/io/Serializable"), (0, .class_ 1109), (0, u "java/lang/Comparable"), (0, .class_ 1111), (0, u "java/lang/constant/Constable"), (0, .class_ 1113), (0, u "java/lang/constant/ConstantDesc"), (2, u "serialVersionUID"), (0, u "J"), (3, u "REPL"), (0, u "C"), (2, u "LATIN1"), (1, u "UTF16")] 323

def k7m0 : Method := { name := "<init>", desc := "()V", sig := { parameters := [], returnType := none }, accessFlags := 1, code := none }
def k7c1 : Code := { maxStack := 5, maxLocals := 2, code := jdk_42_method_3_code, exceptionTable := #[], attributes := #[] }
def k7m1 : Method := { name := "<init>", desc := "([C)V", sig := { parameters := [(.array .char)], returnType := none }, accessFlags := 1, code := some k7c1 }
def k7c2 : Code := { maxStack := 2, maxLocals := 1, code := jdk_42_method_54_code, exceptionTable := #[], attributes := #[] }
def k7m2 : Method := { name := "length", desc := "()I", sig := { parameters := [], returnType := some .int }, accessFlags := 1, code := some k7c2 }
def k7c3 : Code := { maxStack := 3, maxLocals := 3, code := jdk_42_method_57_code, exceptionTable := #[], attributes := #[] }
def k7m3 : Method := { name := "codePointAt", desc := "(I)I", sig := { parameters := [.int], returnType := some .int }, accessFlags := 1, code := some k7c3 }
def k7c4 : Code := { maxStack := 4, maxLocals := 6, code := jdk_42_method_149_code, exceptionTable := #[], attributes := #[] }
def k7m4 : Method := { name := "<init>", desc := "([CIILjava/lang/Void;)V", sig := { parameters := [(.array .char), .int, .int, (.object "java/lang/Void")], returnType := none }, accessFlags := 2, code := some k7c4 }
def k7c5 : Code := { maxStack := 1, maxLocals := 1, code := jdk_42_method_152_code, exceptionTable := #[], attributes := #[] }
def k7m5 : Method := { name := "coder", desc := "()B", sig := { parameters := [], returnType := some .byte }, accessFlags := 0, code := some k7c5 }
def k7c6 : Code := { maxStack := 1, maxLocals := 1, code := jdk_42_method_154_code, exceptionTable := #[], attributes := #[] }
def k7m6 : Method := { name := "isLatin1", desc := "()Z", sig := { parameters := [], returnType := some .boolean }, accessFlags := 0, code := some k7c6 }
def k7c7 : Code := { maxStack := 3, maxLocals := 2, code := jdk_42_method_155_code, exceptionTable := #[], attributes := #[] }
def k7m7 : Method := { name := "checkIndex", desc := "(II)V", sig := { parameters := [.int, .int], returnType := none }, accessFlags := 8, code := some k7c7 }
/-- java/lang/String -/
def k7 : Class := { plain "java/lang/String" (some 0) with
  accessFlags := 49
  interfaces := #[2, 3, 4, 5, 6]
  cf := some (fileOf pool7 10 #[.nestMembers #[1103]] #[{ accessFlags := 1, nameIndex := 5, descriptorIndex := 6, attributes := #[] }, { accessFlags := 1, nameIndex := 5, descriptorIndex := 1010, attributes := #[] }, { accessFlags := 1, nameIndex := 507, descriptorIndex := 334, attributes := #[] }, { accessFlags := 1, nameIndex := 504, descriptorIndex := 765, attributes := #[] }, { accessFlags := 2, nameIndex := 5, descriptorIndex := 29, attributes := #[] }, { accessFlags := 0, nameIndex := 17, descriptorIndex := 337, attributes := #[] }, { accessFlags := 0, nameIndex := 494, descriptorIndex := 142, attributes := #[] }, { accessFlags := 8, nameIndex := 501, descriptorIndex := 391, attributes := #[] }] 49 2 #[1106, 1108, 575, 1110, 1112] #[{ accessFlags := 18, nameIndex := 13, descriptorIndex := 14, attributes := #[] }, { accessFlags := 18, nameIndex := 17, descriptorIndex := 18, attributes := #[] }, { accessFlags := 2, nameIndex := 21, descriptorIndex := 22, attributes := #[] }, { accessFlags := 2, nameIndex := 25, descriptorIndex := 26, attributes := #[] }, { accessFlags := 26, nameIndex := 1116, descriptorIndex := 1117, attributes := #[] }, { accessFlags := 24, nameIndex := 40, descriptorIndex := 26, attributes := #[] }, { accessFlags := 26, nameIndex := 1101, descriptorIndex := 1102, attributes := #[] }, { accessFlags := 26, nameIndex := 1121, descriptorIndex := 1122, attributes := #[] }, { accessFlags := 25, nameIndex := 599, descriptorIndex := 600, attributes := #[] }, { accessFlags := 24, nameIndex := 1125, descriptorIndex := 18, attributes := #[] }, { accessFlags := 24, nameIndex := 1127, descriptorIndex := 18, attributes := #[] }])
  fields := #[{ name := "value", type := (.array .byte), accessFlags := 18, slot := 0, constantValue := 0 }, { name := "coder", type := .byte, accessFlags := 18, slot := 1, constantValue := 0 }, { name := "hash", type := .int, accessFlags := 2, slot := 2, constantValue := 0 }, { name := "hashIsZero", type := .boolean, accessFlags := 2, slot := 3, constantValue := 0 }, { name := "serialVersionUID", type := .long, accessFlags := 26, slot := 0, constantValue := 0 }, { name := "COMPACT_STRINGS", type := .boolean, accessFlags := 24, slot := 1, constantValue := 0 }, { name := "serialPersistentFields", type := (.array (.object "java/io/ObjectStreamField")), accessFlags := 26, slot := 2, constantValue := 0 }, { name := "REPL", type := .char, accessFlags := 26, slot := 3, constantValue := 0 }, { name := "CASE_INSENSITIVE_ORDER", type := (.object "java/util/Comparator"), accessFlags := 25, slot := 4, constantValue := 0 }, { name := "LATIN1", type := .byte, accessFlags := 24, slot := 5, constantValue := 0 }, { name := "UTF16", type := .byte, accessFlags := 24, slot := 6, constantValue := 0 }]
  methods := #[k7m0, k7m1, k7m2, k7m3, k7m4, k7m5, k7m6, k7m7]
  instanceTypes := #[(.array .byte), .byte, .int, .boolean]
  staticTypes := #[.long, .boolean, (.array (.object "java/io/ObjectStreamField")), .char, (.object "java/util/Comparator"), .byte, .byte]
  resolved := Array.replicate 1451 none
  statics := some 0 }

def pool8 : Array CpInfo := pool [(2, .class_ 4), (1, u "java/lang/Enum"), (0, u "name"), (0, u "Ljava/lang/String;"), (2, u "ordinal"), (0, u "I"), (1, .class_ 14), (1, u "java/lang/Object"), (4, u "hash"), (86, .class_ 108), (1, u "java/lang/Enum$EnumDesc"), (2, .class_ 112), (0, u "java/lang/constant/Constable"), (0, .class_ 114), (0, u "java/lang/Comparable"), (0, .class_ 116), (0, u "java/io/Serializable")] 87

/-- java/lang/Enum -/
def k8 : Class := { plain "java/lang/Enum" (some 0) with
  accessFlags := 1057
  interfaces := #[5, 3, 2]
  cf := some (fileOf pool8 2 #[.nestMembers #[106]] #[] 1057 12 #[111, 113, 115] #[{ accessFlags := 18, nameIndex := 5, descriptorIndex := 6, attributes := #[] }, { accessFlags := 18, nameIndex := 9, descriptorIndex := 10, attributes := #[] }, { accessFlags := 2, nameIndex := 19, descriptorIndex := 10, attributes := #[] }])
  fields := #[{ name := "name", type := (.object "java/lang/String"), accessFlags := 18, slot := 0, constantValue := 0 }, { name := "ordinal", type := .int, accessFlags := 18, slot := 1, constantValue := 0 }, { name := "hash", type := .int, accessFlags := 2, slot := 2, constantValue := 0 }]
  methods := #[]
  instanceTypes := #[(.object "java/lang/String"), .int, .int]
  staticTypes := #[]
  resolved := Array.replicate 204 none
  statics := none }

def pool9 : Array CpInfo := pool [(19, .class_ 20), (0, u "java/util/Comparator"), (84, .class_ 106), (0, u "java/lang/Object")] 181

/-- java/util/Comparator -/
def k9 : Class := { plain "java/util/Comparator" (some 0) with
  accessFlags := 1537
  interfaces := #[]
  cf := some (fileOf pool9 19 #[] #[] 1537 105 #[] #[])
  fields := #[]
  methods := #[]
  instanceTypes := #[]
  staticTypes := #[]
  resolved := Array.replicate 288 none
  statics := none }

def pool10 : Array CpInfo := pool [(1, .class_ 2), (0, u "com/example/acquaint/acquaint/store/CodePointOrder"), (2, u "INSTANCE"), (0, u "Lcom/example/acquaint/acquaint/store/CodePointOrder;"), (2, u "$VALUES"), (0, u "[Lcom/example/acquaint/acquaint/store/CodePointOrder;"), (6, .class_ 19), (1, u "java/lang/Enum"), (6, .methodref 27 28), (0, .class_ 29), (0, .nameAndType 30 31), (0, u "java/lang/String"), (0, u "length"), (0, u "()I"), (0, .methodref 27 33), (0, .nameAndType 34 35), (0, u "codePointAt"), (0, u "(I)I"), (0, .methodref 37 38), (0, .class_ 39), (0, .nameAndType 40 41), (0, u "java/lang/Integer"), (0, u "compare"), (0, u "(II)I"), (0, .methodref 43 44), (0, .class_ 45), (0, .nameAndType 46 35), (0, u "java/lang/Character"), (0, u "charCount"), (2, u "(Ljava/lang/String;Ljava/lang/String;)I"), (6, .class_ 57), (0, u "java/util/Comparator")] 13

def k10c0 : Code := { maxStack := 3, maxLocals := 7, code := prog_42_method_4_code, exceptionTable := #[], attributes := #[] }
def k10m0 : Method := { name := "compare", desc := "(Ljava/lang/String;Ljava/lang/String;)I", sig := { parameters := [(.object "java/lang/String"), (.object "java/lang/String")], returnType := some .int }, accessFlags := 1, code := some k10c0 }
/-- com/example/acquaint/acquaint/store/CodePointOrder -/
def k10 : Class := { plain "com/example/acquaint/acquaint/store/CodePointOrder" (some 8) with
  accessFlags := 16433
  interfaces := #[9]
  cf := some (fileOf pool10 1 #[] #[{ accessFlags := 1, nameIndex := 40, descriptorIndex := 49, attributes := #[] }] 16433 17 #[56] #[{ accessFlags := 16409, nameIndex := 5, descriptorIndex := 6, attributes := #[] }, { accessFlags := 4122, nameIndex := 9, descriptorIndex := 10, attributes := #[] }])
  fields := #[{ name := "INSTANCE", type := (.object "com/example/acquaint/acquaint/store/CodePointOrder"), accessFlags := 16409, slot := 0, constantValue := 0 }, { name := "$VALUES", type := (.array (.object "com/example/acquaint/acquaint/store/CodePointOrder")), accessFlags := 4122, slot := 1, constantValue := 0 }]
  methods := #[k10m0]
  instanceTypes := #[(.object "java/lang/String"), .int, .int]
  staticTypes := #[(.object "com/example/acquaint/acquaint/store/CodePointOrder"), (.array (.object "com/example/acquaint/acquaint/store/CodePointOrder"))]
  resolved := Array.replicate 71 none
  statics := some 1 }

def pool11 : Array CpInfo := pool [(2, .class_ 4), (1, u "java/lang/Object"), (0, u "<init>"), (0, u "()V"), (1, .class_ 10), (1, u "java/lang/Number"), (2, .class_ 14), (0, u "java/io/Serializable"), (0, u "serialVersionUID"), (0, u "J")] 20

def k11m0 : Method := { name := "<init>", desc := "()V", sig := { parameters := [], returnType := none }, accessFlags := 1, code := none }
/-- java/lang/Number -/
def k11 : Class := { plain "java/lang/Number" (some 0) with
  accessFlags := 1057
  interfaces := #[2]
  cf := some (fileOf pool11 8 #[] #[{ accessFlags := 1, nameIndex := 5, descriptorIndex := 6, attributes := #[] }] 1057 2 #[13] #[{ accessFlags := 26, nameIndex := 15, descriptorIndex := 16, attributes := #[] }])
  fields := #[{ name := "serialVersionUID", type := .long, accessFlags := 26, slot := 0, constantValue := 0 }]
  methods := #[k11m0]
  instanceTypes := #[]
  staticTypes := #[.long]
  resolved := Array.replicate 37 none
  statics := none }

def pool12 : Array CpInfo := pool [(1, .class_ 2), (0, u "java/lang/Integer"), (16, u "digits"), (0, u "[C"), (39, u "(II)I"), (24, u "DigitOnes"), (0, u "[B"), (2, u "DigitTens"), (99, .class_ 190), (0, u "java/lang/Integer$IntegerCache"), (3, u "I"), (8, .class_ 204), (0, u "java/lang/Number"), (2, u "value"), (53, u "compare"), (40, u "TYPE"), (0, u "Ljava/lang/Class;"), (0, .class_ 305), (0, u "java/lang/Comparable"), (0, .class_ 307), (0, u "java/lang/constant/Constable"), (0, .class_ 309), (0, u "java/lang/constant/ConstantDesc"), (0, u "MIN_VALUE"), (1, u "MAX_VALUE"), (3, u "SIZE"), (1, u "BYTES"), (1, u "serialVersionUID"), (0, u "J")] 131

def k12c0 : Code := { maxStack := 2, maxLocals := 2, code := jdk_33_method_40_code, exceptionTable := #[], attributes := #[] }
def k12m0 : Method := { name := "compare", desc := "(II)I", sig := { parameters := [.int, .int], returnType := some .int }, accessFlags := 9, code := some k12c0 }
/-- java/lang/Integer -/
def k12 : Class := { plain "java/lang/Integer" (some 11) with
  accessFlags := 49
  interfaces := #[3, 5, 6]
  cf := some (fileOf pool12 1 #[.nestMembers #[189]] #[{ accessFlags := 9, nameIndex := 261, descriptorIndex := 60, attributes := #[] }] 49 203 #[304, 306, 308] #[{ accessFlags := 25, nameIndex := 310, descriptorIndex := 194, attributes := #[] }, { accessFlags := 25, nameIndex := 312, descriptorIndex := 194, attributes := #[] }, { accessFlags := 25, nameIndex := 302, descriptorIndex := 303, attributes := #[] }, { accessFlags := 24, nameIndex := 19, descriptorIndex := 20, attributes := #[] }, { accessFlags := 24, nameIndex := 89, descriptorIndex := 86, attributes := #[] }, { accessFlags := 24, nameIndex := 85, descriptorIndex := 86, attributes := #[] }, { accessFlags := 18, nameIndex := 207, descriptorIndex := 194, attributes := #[] }, { accessFlags := 25, nameIndex := 316, descriptorIndex := 194, attributes := #[] }, { accessFlags := 25, nameIndex := 318, descriptorIndex := 194, attributes := #[] }, { accessFlags := 26, nameIndex := 320, descriptorIndex := 321, attributes := #[] }])
  fields := #[{ name := "MIN_VALUE", type := .int, accessFlags := 25, slot := 0, constantValue := 0 }, { name := "MAX_VALUE", type := .int, accessFlags := 25, slot := 1, constantValue := 0 }, { name := "TYPE", type := (.object "java/lang/Class"), accessFlags := 25, slot := 2, constantValue := 0 }, { name := "digits", type := (.array .char), accessFlags := 24, slot := 3, constantValue := 0 }, { name := "DigitTens", type := (.array .byte), accessFlags := 24, slot := 4, constantValue := 0 }, { name := "DigitOnes", type := (.array .byte), accessFlags := 24, slot := 5, constantValue := 0 }, { name := "value", type := .int, accessFlags := 18, slot := 0, constantValue := 0 }, { name := "SIZE", type := .int, accessFlags := 25, slot := 6, constantValue := 0 }, { name := "BYTES", type := .int, accessFlags := 25, slot := 7, constantValue := 0 }, { name := "serialVersionUID", type := .long, accessFlags := 26, slot := 8, constantValue := 0 }]
  methods := #[k12m0]
  instanceTypes := #[.int]
  staticTypes := #[.int, .int, (.object "java/lang/Class"), (.array .char), (.array .byte), (.array .byte), .int, .int, .long]
  resolved := Array.replicate 453 none
  statics := none }

def pool13 : Array CpInfo := pool [(6, .class_ 8), (1, u "java/lang/Object"), (0, u "<init>"), (0, u "()V"), (0, .methodref 12 13), (0, .class_ 14), (0, .nameAndType 15 16), (0, u "java/lang/StringUTF16"), (0, u "newBytesLength"), (0, u "(I)I"), (3, .integer 1073741823), (23, .fieldref 12 45), (0, .nameAndType 46 47), (0, u "$assertionsDisabled"), (0, u "Z"), (11, .fieldref 12 60), (0, .nameAndType 61 62), (0, u "HI_BYTE_SHIFT"), (0, u "I"), (0, .fieldref 12 64), (0, .nameAndType 65 62), (0, u "LO_BYTE_SHIFT"), (5, .methodref 12 72), (0, .nameAndType 73 74), (0, u "getChar"), (0, u "([BI)C"), (0, .methodref 76 77), (0, .class_ 78), (0, .nameAndType 79 80), (0, u "java/lang/Character"), (0, u "isHighSurrogate"), (0, u "(C)Z"), (0, .methodref 76 82), (0, .nameAndType 83 80), (0, u "isLowSurrogate"), (0, .methodref 76 85), (0, .nameAndType 86 87), (0, u "toCodePoint"), (0, u "(CC)I"), (0, .methodref 12 89), (0, .nameAndType 90 91), (0, u "codePointAt"), (0, u "([BIIZ)I"), (15, .methodref 12 108), (0, .nameAndType 109 110), (0, u "newBytesFor"), (0, u "(I)[B"), (0, .methodref 12 112), (0, .nameAndType 113 114), (0, u "putChar"), (0, u "([BII)V"), (0, .methodref 12 116), (0, .nameAndType 117 118), (0, u "compress"), (0, u "([CI[BII)I"), (0, .methodref 12 120), (0, .nameAndType 121 122), (0, u "toBytes"), (0, u "([CII)[B"), (127, u "([BII)I"), (10, u "coderFromArrayLen"), (0, u "([BI)B"), (106, .class_ 371), (1, u "java/lang/StringUTF16$LinesSpliterator"), (58, u "MAX_LENGTH"), (196, .class_ 628), (0, u "java/lang/StringUTF16$CodePointsSpliterator"), (0, .class_ 630), (0, u "java/lang/StringUTF16$CharsSpliterator")] 4

def k13m0 : Method := { name := "<init>", desc := "()V", sig := { parameters := [], returnType := none }, accessFlags := 0, code := none }
def k13c1 : Code := { maxStack := 1, maxLocals := 1, code := jdk_52_method_2_code, exceptionTable := #[], attributes := #[] }
def k13m1 : Method := { name := "newBytesFor", desc := "(I)[B", sig := { parameters := [.int], returnType := some (.array .byte) }, accessFlags := 9, code := some k13c1 }
def k13c2 : Code := { maxStack := 4, maxLocals := 1, code := jdk_52_method_3_code, exceptionTable := #[], attributes := #[] }
def k13m2 : Method := { name := "newBytesLength", desc := "(I)I", sig := { parameters := [.int], returnType := some .int }, accessFlags := 9, code := some k13c2 }
def k13c3 : Code := { maxStack := 4, maxLocals := 3, code := jdk_52_method_4_code, exceptionTable := #[], attributes := #[] }
def k13m3 : Method := { name := "putChar", desc := "([BII)V", sig := { parameters := [(.array .byte), .int, .int], returnType := none }, accessFlags := 8, code := some k13c3 }
def k13c4 : Code := { maxStack := 3, maxLocals := 2, code := jdk_52_method_5_code, exceptionTable := #[], attributes := #[] }
def k13m4 : Method := { name := "getChar", desc := "([BI)C", sig := { parameters := [(.array .byte), .int], returnType := some .char }, accessFlags := 8, code := some k13c4 }
def k13c5 : Code := { maxStack := 2, maxLocals := 6, code := jdk_52_method_7_code, exceptionTable := #[], attributes := #[] }
def k13m5 : Method := { name := "codePointAt", desc := "([BIIZ)I", sig := { parameters := [(.array .byte), .int, .int, .boolean], returnType := some .int }, accessFlags := 10, code := some k13c5 }
def k13c6 : Code := { maxStack := 4, maxLocals := 3, code := jdk_52_method_8_code, exceptionTable := #[], attributes := #[] }
def k13m6 : Method := { name := "codePointAt", desc := "([BII)I", sig := { parameters := [(.array .byte), .int, .int], returnType := some .int }, accessFlags := 9, code := some k13c6 }
def k13c7 : Code := { maxStack := 4, maxLocals := 5, code := jdk_52_method_14_code, exceptionTable := #[], attributes := #[] }
def k13m7 : Method := { name := "toBytes", desc := "([CII)[B", sig := { parameters := [(.array .char), .int, .int], returnType := some (.array .byte) }, accessFlags := 9, code := some k13c7 }
def k13c8 : Code := { maxStack := 2, maxLocals := 2, code := jdk_52_method_15_code, exceptionTable := #[], attributes := #[] }
def k13m8 : Method := { name := "coderFromArrayLen", desc := "([BI)B", sig := { parameters := [(.array .byte), .int], returnType := some .byte }, accessFlags := 8, code := some k13c8 }
def k13c9 : Code := { maxStack := 5, maxLocals := 6, code := jdk_52_method_16_code, exceptionTable := #[], attributes := #[] }
def k13m9 : Method := { name := "compress", desc := "([CII)[B", sig := { parameters := [(.array .char), .int, .int], returnType := some (.array .byte) }, accessFlags := 9, code := some k13c9 }
def k13c10 : Code := { maxStack := 3, maxLocals := 7, code := jdk_52_method_21_code, exceptionTable := #[], attributes := #[] }
def k13m10 : Method := { name := "compress", desc := "([CI[BII)I", sig := { parameters := [(.array .char), .int, (.array .byte), .int, .int], returnType := some .int }, accessFlags := 9, code := some k13c10 }
/-- java/lang/StringUTF16 -/
def k13 : Class := { plain "java/lang/StringUTF16" (some 0) with
  accessFlags := 48
  interfaces := #[]
  cf := some (fileOf pool13 12 #[.nestMembers #[627, 629, 369]] #[{ accessFlags := 0, nameIndex := 9, descriptorIndex := 10, attributes := #[] }, { accessFlags := 9, nameIndex := 109, descriptorIndex := 110, attributes := #[] }, { accessFlags := 9, nameIndex := 15, descriptorIndex := 16, attributes := #[] }, { accessFlags := 8, nameIndex := 113, descriptorIndex := 114, attributes := #[] }, { accessFlags := 8, nameIndex := 73, descriptorIndex := 74, attributes := #[] }, { accessFlags := 10, nameIndex := 90, descriptorIndex := 91, attributes := #[] }, { accessFlags := 9, nameIndex := 90, descriptorIndex := 250, attributes := #[] }, { accessFlags := 9, nameIndex := 121, descriptorIndex := 122, attributes := #[] }, { accessFlags := 8, nameIndex := 261, descriptorIndex := 262, attributes := #[] }, { accessFlags := 9, nameIndex := 117, descriptorIndex := 122, attributes := #[] }, { accessFlags := 9, nameIndex := 117, descriptorIndex := 118, attributes := #[] }] 48 6 #[] #[{ accessFlags := 26, nameIndex := 61, descriptorIndex := 62, attributes := #[] }, { accessFlags := 26, nameIndex := 65, descriptorIndex := 62, attributes := #[] }, { accessFlags := 24, nameIndex := 430, descriptorIndex := 62, attributes := #[] }, { accessFlags := 4120, nameIndex := 46, descriptorIndex := 47, attributes := #[] }])
  fields := #[{ name := "HI_BYTE_SHIFT", type := .int, accessFlags := 26, slot := 0, constantValue := 0 }, { name := "LO_BYTE_SHIFT", type := .int, accessFlags := 26, slot := 1, constantValue := 0 }, { name := "MAX_LENGTH", type := .int, accessFlags := 24, slot := 2, constantValue := 0 }, { name := "$assertionsDisabled", type := .boolean, accessFlags := 4120, slot := 3, constantValue := 0 }]
  methods := #[k13m0, k13m1, k13m2, k13m3, k13m4, k13m5, k13m6, k13m7, k13m8, k13m9, k13m10]
  instanceTypes := #[]
  staticTypes := #[.int, .int, .int, .boolean]
  resolved := Array.replicate 635 none
  statics := some 2 }

def pool14 : Array CpInfo := pool [(2, .class_ 4), (1, u "java/lang/Object"), (0, u "<init>"), (0, u "()V"), (17, .class_ 26), (1, u "jdk/internal/util/Preconditions"), (6, u "checkIndex"), (21, .class_ 56), (0, u "jdk/internal/util/Preconditions$4"), (57, .class_ 115), (0, u "jdk/internal/util/Preconditions$1"), (7, u "SIOOBE_FORMATTER"), (0, u "Ljava/util/function/BiFunction;"), (0, .class_ 126), (0, u "jdk/internal/util/Preconditions$2"), (3, u "AIOOBE_FORMATTER"), (0, .class_ 132), (0, u "jdk/internal/util/Preconditions$3"), (3, u "IOOBE_FORMATTER"), (41, u "(IILjava/util/function/BiFunction;)I")] 15

def k14m0 : Method := { name := "<init>", desc := "()V", sig := { parameters := [], returnType := none }, accessFlags := 1, code := none }
def k14c1 : Code := { maxStack := 3, maxLocals := 3, code := jdk_41_method_11_code, exceptionTable := #[], attributes := #[] }
def k14m1 : Method := { name := "checkIndex", desc := "(IILjava/util/function/BiFunction;)I", sig := { parameters := [.int, .int, (.object "java/util/function/BiFunction")], returnType := some .int }, accessFlags := 9, code := some k14c1 }
/-- jdk/internal/util/Preconditions -/
def k14 : Class := { plain "jdk/internal/util/Preconditions" (some 0) with
  accessFlags := 33
  interfaces := #[]
  cf := some (fileOf pool14 24 #[.nestMembers #[55, 131, 125, 114]] #[{ accessFlags := 1, nameIndex := 5, descriptorIndex := 6, attributes := #[] }, { accessFlags := 9, nameIndex := 33, descriptorIndex := 178, attributes := #[] }] 33 2 #[] #[{ accessFlags := 25, nameIndex := 123, descriptorIndex := 124, attributes := #[] }, { accessFlags := 25, nameIndex := 130, descriptorIndex := 124, attributes := #[] }, { accessFlags := 25, nameIndex := 136, descriptorIndex := 124, attributes := #[] }])
  fields := #[{ name := "SIOOBE_FORMATTER", type := (.object "java/util/function/BiFunction"), accessFlags := 25, slot := 0, constantValue := 0 }, { name := "AIOOBE_FORMATTER", type := (.object "java/util/function/BiFunction"), accessFlags := 25, slot := 1, constantValue := 0 }, { name := "IOOBE_FORMATTER", type := (.object "java/util/function/BiFunction"), accessFlags := 25, slot := 2, constantValue := 0 }]
  methods := #[k14m0, k14m1]
  instanceTypes := #[]
  staticTypes := #[(.object "java/util/function/BiFunction"), (.object "java/util/function/BiFunction"), (.object "java/util/function/BiFunction")]
  resolved := Array.replicate 194 none
  statics := some 3 }

def pool15 : Array CpInfo := pool [(1, .class_ 2), (0, u "java/lang/Character"), (18, u "value"), (0, u "C"), (19, .class_ 44), (1, u "java/lang/Object"), (3, .class_ 50), (1, u "java/lang/Character$CharacterCache"), (22, .integer 65536), (1, .integer 55296), (0, .integer 56320), (0, .integer 57344), (2, u "isHighSurrogate"), (0, u "(C)Z"), (2, u "isLowSurrogate"), (0, .integer 4238353408), (12, u "toCodePoint"), (0, u "(CC)I"), (74, u "(I)I"), (109, u "$assertionsDisabled"), (0, u "Z"), (21, .class_ 309), (1, u "java/lang/Character$UnicodeBlock"), (73, u "TYPE"), (0, u "Ljava/lang/Class;"), (0, .class_ 386), (0, u "java/io/Serializable"), (0, .class_ 388), (0, u "java/lang/Comparable"), (0, .class_ 390), (0, u "java/lang/constant/Constable"), (0, u "MIN_RADIX"), (0, u "I"), (2, u "MAX_RADIX"), (1, u "MIN_VALUE"), (1, u "MAX_VALUE"), (3, u "UNASSIGNED"), (0, u "B"), (0, u "UPPERCASE_LETTER"), (1, u "LOWERCASE_LETTER"), (0, u "TITLECASE_LETTER"), (1, u "MODIFIER_LETTER"), (1, u "OTHER_LETTER"), (1, u "NON_SPACING_MARK"), (1, u "ENCLOSING_MARK"), (1, u "COMBINING_SPACING_MARK"), (1, u "DECIMAL_DIGIT_NUMBER"), (1, u "LETTER_NUMBER"), (1, u "OTHER_NUMBER"), (1, u "SPACE_SEPARATOR"), (1, u "LINE_SEPARATOR"), (1, u "PARAGRAPH_SEPARATOR"), (1, u "CONTROL"), (1, u "FORMAT"), (1, u "PRIVATE_USE"), (1, u "SURROGATE"), (1, u "DASH_PUNCTUATION"), (1, u "START_PUNCTUATION"), (1, u "END_PUNCTUATION"), (1, u "CONNECTOR_PUNCTUATION"), (1, u "OTHER_PUNCTUATION"), (1, u "MATH_SYMBOL"), (1, u "CURRENCY_SYMBOL"), (1, u "MODIFIER_SYMBOL"), (1, u "OTHER_SYMBOL"), (1, u "INITIAL_QUOTE_PUNCTUATION"), (1, u "FINAL_QUOTE_PUNCTUATION"), (1, u "ERROR"), (1, u "DIRECTIONALITY_UNDEFINED"), (0, u "DIRECTIONALITY_LEFT_TO_RIGHT"), (0, u "DIRECTIONALITY_RIGHT_TO_LEFT"), (0, u "DIRECTIONALITY_RIGHT_TO_LEFT_ARABIC"), (0, u "DIRECTIONALITY_EUROPEAN_NUMBER"), (0, u "DIRECTIONALITY_EUROPEAN_NUMBER_SEPARATOR"), (0, u "DIRECTIONALITY_EUROPEAN_NUMBER_TERMINATOR"), (0, u "DIRECTIONALITY_ARABIC_NUMBER"), (0, u "DIRECTIONALITY_COMMON_NUMBER_SEPARATOR"), (0, u "DIRECTIONALITY_NONSPACING_MARK"), (0, u "DIRECTIONALITY_BOUNDARY_NEUTRAL"), (0, u "DIRECTIONALITY_PARAGRAPH_SEPARATOR"), (0, u "DIRECTIONALITY_SEGMENT_SEPARATOR"), (0, u "DIRECTIONALITY_WHITESPACE"), (0, u "DIRECTIONALITY_OTHER_NEUTRALS"), (0, u "DIRECTIONALITY_LEFT_TO_RIGHT_EMBEDDING"), (0, u "DIRECTIONALITY_LEFT_TO_RIGHT_OVERRIDE"), (0, u "DIRECTIONALITY_RIGHT_TO_LEFT_EMBEDDING"), (0, u "DIRECTIONALITY_RIGHT_TO_LEFT_OVERRIDE"), (1, u "DIRECTIONALITY_POP_DIRECTIONAL_FORMAT"), (0, u "DIRECTIONALITY_LEFT_TO_RIGHT_ISOLATE"), (0, u "DIRECTIONALITY_RIGHT_TO_LEFT_ISOLATE"), (0, u "DIRECTIONALITY_FIRST_STRONG_ISOLATE"), (0, u "DIRECTIONALITY_POP_DIRECTIONAL_ISOLATE"), (0, u "MIN_HIGH_SURROGATE"), (0, u "MAX_HIGH_SURROGATE"), (1, u "MIN_LOW_SURROGATE"), (0, u "MAX_LOW_SURROGATE"), (1, u "MIN_SURROGATE"), (0, u "MAX_SURROGATE"), (0, u "MIN_SUPPLEMENTARY_CODE_POINT"), (0, u "MIN_CODE_POINT"), (0, u "MAX_CODE_POINT"), (1, u "serialVersionUID"), (0, u "J"), (2, u "SIZE"), (0, u "BYTES"), (29, u "charCount"), (58, .class_ 596), (0, u "java/lang/Character$UnicodeScript"), (0, .class_ 598), (0, u "java/lang/Character$Subset")] 5

def k15c0 : Code := { maxStack := 2, maxLocals := 1, code := jdk_89_method_14_code, exceptionTable := #[], attributes := #[] }
def k15m0 : Method := { name := "isHighSurrogate", desc := "(C)Z", sig := { parameters := [.char], returnType := some .boolean }, accessFlags := 9, code := some k15c0 }
def k15c1 : Code := { maxStack := 2, maxLocals := 1, code := jdk_89_method_15_code, exceptionTable := #[], attributes := #[] }
def k15m1 : Method := { name := "isLowSurrogate", desc := "(C)Z", sig := { parameters := [.char], returnType := some .boolean }, accessFlags := 9, code := some k15c1 }
def k15c2 : Code := { maxStack := 2, maxLocals := 1, code := jdk_89_method_18_code, exceptionTable := #[], attributes := #[] }
def k15m2 : Method := { name := "charCount", desc := "(I)I", sig := { parameters := [.int], returnType := some .int }, accessFlags := 9, code := some k15c2 }
def k15c3 : Code := { maxStack := 2, maxLocals := 2, code := jdk_89_method_19_code, exceptionTable := #[], attributes := #[] }
def k15m3 : Method := { name := "toCodePoint", desc := "(CC)I", sig := { parameters := [.char, .char], returnType := some .int }, accessFlags := 9, code := some k15c3 }
/-- java/lang/Character -/
def k15 : Class := { plain "java/lang/Character" (some 0) with
  accessFlags := 49
  interfaces := #[2, 3, 5]
  cf := some (fileOf pool15 1 #[.nestMembers #[48, 595, 307, 597]] #[{ accessFlags := 9, nameIndex := 80, descriptorIndex := 81, attributes := #[] }, { accessFlags := 9, nameIndex := 84, descriptorIndex := 81, attributes := #[] }, { accessFlags := 9, nameIndex := 536, descriptorIndex := 174, attributes := #[] }, { accessFlags := 9, nameIndex := 98, descriptorIndex := 99, attributes := #[] }] 49 42 #[385, 387, 389] #[{ accessFlags := 25, nameIndex := 391, descriptorIndex := 392, attributes := #[] }, { accessFlags := 25, nameIndex := 395, descriptorIndex := 392, attributes := #[] }, { accessFlags := 25, nameIndex := 397, descriptorIndex := 22, attributes := #[] }, { accessFlags := 25, nameIndex := 399, descriptorIndex := 22, attributes := #[] }, { accessFlags := 25, nameIndex := 383, descriptorIndex := 384, attributes := #[] }, { accessFlags := 25, nameIndex := 403, descriptorIndex := 404, attributes := #[] }, { accessFlags := 25, nameIndex := 405, descriptorIndex := 404, attributes := #[] }, { accessFlags := 25, nameIndex := 407, descriptorIndex := 404, attributes := #[] }, { accessFlags := 25, nameIndex := 408, descriptorIndex := 404, attributes := #[] }, { accessFlags := 25, nameIndex := 410, descriptorIndex := 404, attributes := #[] }, { accessFlags := 25, nameIndex := 412, descriptorIndex := 404, attributes := #[] }, { accessFlags := 25, nameIndex := 414, descriptorIndex := 404, attributes := #[] }, { accessFlags := 25, nameIndex := 416, descriptorIndex := 404, attributes := #[] }, { accessFlags := 25, nameIndex := 418, descriptorIndex := 404, attributes := #[] }, { accessFlags := 25, nameIndex := 420, descriptorIndex := 404, attributes := #[] }, { accessFlags := 25, nameIndex := 422, descriptorIndex := 404, attributes := #[] }, { accessFlags := 25, nameIndex := 424, descriptorIndex := 404, attributes := #[] }, { accessFlags := 25, nameIndex := 426, descriptorIndex := 404, attributes := #[] }, { accessFlags := 25, nameIndex := 428, descriptorIndex := 404, attributes := #[] }, { accessFlags := 25, nameIndex := 430, descriptorIndex := 404, attributes := #[] }, { accessFlags := 25, nameIndex := 432, descriptorIndex := 404, attributes := #[] }, { accessFlags := 25, nameIndex := 434, descriptorIndex := 404, attributes := #[] }, { accessFlags := 25, nameIndex := 436, descriptorIndex := 404, attributes := #[] }, { accessFlags := 25, nameIndex := 438, descriptorIndex := 404, attributes := #[] }, { accessFlags := 25, nameIndex := 440, descriptorIndex := 404, attributes := #[] }, { accessFlags := 25, nameIndex := 442, descriptorIndex := 404, attributes := #[] }, { accessFlags := 25, nameIndex := 444, descriptorIndex := 404, attributes := #[] }, { accessFlags := 25, nameIndex := 446, descriptorIndex := 404, attributes := #[] }, { accessFlags := 25, nameIndex := 448, descriptorIndex := 404, attributes := #[] }, { accessFlags := 25, nameIndex := 450, descriptorIndex := 404, attributes := #[] }, { accessFlags := 25, nameIndex := 452, descriptorIndex := 404, attributes := #[] }, { accessFlags := 25, nameIndex := 454, descriptorIndex := 404, attributes := #[] }, { accessFlags := 25, nameIndex := 456, descriptorIndex := 404, attributes := #[] }, { accessFlags := 25, nameIndex := 458, descriptorIndex := 404, attributes := #[] }, { accessFlags := 25, nameIndex := 460, descriptorIndex := 404, attributes := #[] }, { accessFlags := 24, nameIndex := 462, descriptorIndex := 392, attributes := #[] }, { accessFlags := 25, nameIndex := 464, descriptorIndex := 404, attributes := #[] }, { accessFlags := 25, nameIndex := 465, descriptorIndex := 404, attributes := #[] }, { accessFlags := 25, nameIndex := 466, descriptorIndex := 404, attributes := #[] }, { accessFlags := 25, nameIndex := 467, descriptorIndex := 404, attributes := #[] }, { accessFlags := 25, nameIndex := 468, descriptorIndex := 404, attributes := #[] }, { accessFlags := 25, nameIndex := 469, descriptorIndex := 404, attributes := #[] }, { accessFlags := 25, nameIndex := 470, descriptorIndex := 404, attributes := #[] }, { accessFlags := 25, nameIndex := 471, descriptorIndex := 404, attributes := #[] }, { accessFlags := 25, nameIndex := 472, descriptorIndex := 404, attributes := #[] }, { accessFlags := 25, nameIndex := 473, descriptorIndex := 404, attributes := #[] }, { accessFlags := 25, nameIndex := 474, descriptorIndex := 404, attributes := #[] }, { accessFlags := 25, nameIndex := 475, descriptorIndex := 404, attributes := #[] }, { accessFlags := 25, nameIndex := 476, descriptorIndex := 404, attributes := #[] }, { accessFlags := 25, nameIndex := 477, descriptorIndex := 404, attributes := #[] }, { accessFlags := 25, nameIndex := 478, descriptorIndex := 404, attributes := #[] }, { accessFlags := 25, nameIndex := 479, descriptorIndex := 404, attributes := #[] }, { accessFlags := 25, nameIndex := 480, descriptorIndex := 404, attributes := #[] }, { accessFlags := 25, nameIndex := 481, descriptorIndex := 404, attributes := #[] }, { accessFlags := 25, nameIndex := 482, descriptorIndex := 404, attributes := #[] }, { accessFlags := 25, nameIndex := 484, descriptorIndex := 404, attributes := #[] }, { accessFlags := 25, nameIndex := 485, descriptorIndex := 404, attributes := #[] }, { accessFlags := 25, nameIndex := 486, descriptorIndex := 404, attributes := #[] }, { accessFlags := 25, nameIndex := 487, descriptorIndex := 404, attributes := #[] }, { accessFlags := 25, nameIndex := 488, descriptorIndex := 404, attributes := #[] }, { accessFlags := 25, nameIndex := 489, descriptorIndex := 22, attributes := #[] }, { accessFlags := 25, nameIndex := 490, descriptorIndex := 22, attributes := #[] }, { accessFlags := 25, nameIndex := 492, descriptorIndex := 22, attributes := #[] }, { accessFlags := 25, nameIndex := 493, descriptorIndex := 22, attributes := #[] }, { accessFlags := 25, nameIndex := 495, descriptorIndex := 22, attributes := #[] }, { accessFlags := 25, nameIndex := 496, descriptorIndex := 22, attributes := #[] }, { accessFlags := 25, nameIndex := 497, descriptorIndex := 392, attributes := #[] }, { accessFlags := 25, nameIndex := 498, descriptorIndex := 392, attributes := #[] }, { accessFlags := 25, nameIndex := 499, descriptorIndex := 392, attributes := #[] }, { accessFlags := 18, nameIndex := 21, descriptorIndex := 22, attributes := #[] }, { accessFlags := 26, nameIndex := 501, descriptorIndex := 502, attributes := #[] }, { accessFlags := 25, nameIndex := 505, descriptorIndex := 392, attributes := #[] }, { accessFlags := 25, nameIndex := 506, descriptorIndex := 392, attributes := #[] }, { accessFlags := 4120, nameIndex := 284, descriptorIndex := 285, attributes := #[] }])
  fields := #[{ name := "MIN_RADIX", type := .int, accessFlags := 25, slot := 0, constantValue := 0 }, { name := "MAX_RADIX", type := .int, accessFlags := 25, slot := 1, constantValue := 0 }, { name := "MIN_VALUE", type := .char, accessFlags := 25, slot := 2, constantValue := 0 }, { name := "MAX_VALUE", type := .char, accessFlags := 25, slot := 3, constantValue := 0 }, { name := "TYPE", type := (.object "java/lang/Class"), accessFlags := 25, slot := 4, constantValue := 0 }, { name := "UNASSIGNED", type := .byte, accessFlags := 25, slot := 5, constantValue := 0 }, { name := "UPPERCASE_LETTER", type := .byte, accessFlags := 25, slot := 6, constantValue := 0 }, { name := "LOWERCASE_LETTER", type := .byte, accessFlags := 25, slot := 7, constantValue := 0 }, { name := "TITLECASE_LETTER", type := .byte, accessFlags := 25, slot := 8, constantValue := 0 }, { name := "MODIFIER_LETTER", type := .byte, accessFlags := 25, slot := 9, constantValue := 0 }, { name := "OTHER_LETTER", type := .byte, accessFlags := 25, slot := 10, constantValue := 0 }, { name := "NON_SPACING_MARK", type := .byte, accessFlags := 25, slot := 11, constantValue := 0 }, { name := "ENCLOSING_MARK", type := .byte, accessFlags := 25, slot := 12, constantValue := 0 }, { name := "COMBINING_SPACING_MARK", type := .byte, accessFlags := 25, slot := 13, constantValue := 0 }, { name := "DECIMAL_DIGIT_NUMBER", type := .byte, accessFlags := 25, slot := 14, constantValue := 0 }, { name := "LETTER_NUMBER", type := .byte, accessFlags := 25, slot := 15, constantValue := 0 }, { name := "OTHER_NUMBER", type := .byte, accessFlags := 25, slot := 16, constantValue := 0 }, { name := "SPACE_SEPARATOR", type := .byte, accessFlags := 25, slot := 17, constantValue := 0 }, { name := "LINE_SEPARATOR", type := .byte, accessFlags := 25, slot := 18, constantValue := 0 }, { name := "PARAGRAPH_SEPARATOR", type := .byte, accessFlags := 25, slot := 19, constantValue := 0 }, { name := "CONTROL", type := .byte, accessFlags := 25, slot := 20, constantValue := 0 }, { name := "FORMAT", type := .byte, accessFlags := 25, slot := 21, constantValue := 0 }, { name := "PRIVATE_USE", type := .byte, accessFlags := 25, slot := 22, constantValue := 0 }, { name := "SURROGATE", type := .byte, accessFlags := 25, slot := 23, constantValue := 0 }, { name := "DASH_PUNCTUATION", type := .byte, accessFlags := 25, slot := 24, constantValue := 0 }, { name := "START_PUNCTUATION", type := .byte, accessFlags := 25, slot := 25, constantValue := 0 }, { name := "END_PUNCTUATION", type := .byte, accessFlags := 25, slot := 26, constantValue := 0 }, { name := "CONNECTOR_PUNCTUATION", type := .byte, accessFlags := 25, slot := 27, constantValue := 0 }, { name := "OTHER_PUNCTUATION", type := .byte, accessFlags := 25, slot := 28, constantValue := 0 }, { name := "MATH_SYMBOL", type := .byte, accessFlags := 25, slot := 29, constantValue := 0 }, { name := "CURRENCY_SYMBOL", type := .byte, accessFlags := 25, slot := 30, constantValue := 0 }, { name := "MODIFIER_SYMBOL", type := .byte, accessFlags := 25, slot := 31, constantValue := 0 }, { name := "OTHER_SYMBOL", type := .byte, accessFlags := 25, slot := 32, constantValue := 0 }, { name := "INITIAL_QUOTE_PUNCTUATION", type := .byte, accessFlags := 25, slot := 33, constantValue := 0 }, { name := "FINAL_QUOTE_PUNCTUATION", type := .byte, accessFlags := 25, slot := 34, constantValue := 0 }, { name := "ERROR", type := .int, accessFlags := 24, slot := 35, constantValue := 0 }, { name := "DIRECTIONALITY_UNDEFINED", type := .byte, accessFlags := 25, slot := 36, constantValue := 0 }, { name := "DIRECTIONALITY_LEFT_TO_RIGHT", type := .byte, accessFlags := 25, slot := 37, constantValue := 0 }, { name := "DIRECTIONALITY_RIGHT_TO_LEFT", type := .byte, accessFlags := 25, slot := 38, constantValue := 0 }, { name := "DIRECTIONALITY_RIGHT_TO_LEFT_ARABIC", type := .byte, accessFlags := 25, slot := 39, constantValue := 0 }, { name := "DIRECTIONALITY_EUROPEAN_NUMBER", type := .byte, accessFlags := 25, slot := 40, constantValue := 0 }, { name := "DIRECTIONALITY_EUROPEAN_NUMBER_SEPARATOR", type := .byte, accessFlags := 25, slot := 41, constantValue := 0 }, { name := "DIRECTIONALITY_EUROPEAN_NUMBER_TERMINATOR", type := .byte, accessFlags := 25, slot := 42, constantValue := 0 }, { name := "DIRECTIONALITY_ARABIC_NUMBER", type := .byte, accessFlags := 25, slot := 43, constantValue := 0 }, { name := "DIRECTIONALITY_COMMON_NUMBER_SEPARATOR", type := .byte, accessFlags := 25, slot := 44, constantValue := 0 }, { name := "DIRECTIONALITY_NONSPACING_MARK", type := .byte, accessFlags := 25, slot := 45, constantValue := 0 }, { name := "DIRECTIONALITY_BOUNDARY_NEUTRAL", type := .byte, accessFlags := 25, slot := 46, constantValue := 0 }, { name := "DIRECTIONALITY_PARAGRAPH_SEPARATOR", type := .byte, accessFlags := 25, slot := 47, constantValue := 0 }, { name := "DIRECTIONALITY_SEGMENT_SEPARATOR", type := .byte, accessFlags := 25, slot := 48, constantValue := 0 }, { name := "DIRECTIONALITY_WHITESPACE", type := .byte, accessFlags := 25, slot := 49, constantValue := 0 }, { name := "DIRECTIONALITY_OTHER_NEUTRALS", type := .byte, accessFlags := 25, slot := 50, constantValue := 0 }, { name := "DIRECTIONALITY_LEFT_TO_RIGHT_EMBEDDING", type := .byte, accessFlags := 25, slot := 51, constantValue := 0 }, { name := "DIRECTIONALITY_LEFT_TO_RIGHT_OVERRIDE", type := .byte, accessFlags := 25, slot := 52, constantValue := 0 }, { name := "DIRECTIONALITY_RIGHT_TO_LEFT_EMBEDDING", type := .byte, accessFlags := 25, slot := 53, constantValue := 0 }, { name := "DIRECTIONALITY_RIGHT_TO_LEFT_OVERRIDE", type := .byte, accessFlags := 25, slot := 54, constantValue := 0 }, { name := "DIRECTIONALITY_POP_DIRECTIONAL_FORMAT", type := .byte, accessFlags := 25, slot := 55, constantValue := 0 }, { name := "DIRECTIONALITY_LEFT_TO_RIGHT_ISOLATE", type := .byte, accessFlags := 25, slot := 56, constantValue := 0 }, { name := "DIRECTIONALITY_RIGHT_TO_LEFT_ISOLATE", type := .byte, accessFlags := 25, slot := 57, constantValue := 0 }, { name := "DIRECTIONALITY_FIRST_STRONG_ISOLATE", type := .byte, accessFlags := 25, slot := 58, constantValue := 0 }, { name := "DIRECTIONALITY_POP_DIRECTIONAL_ISOLATE", type := .byte, accessFlags := 25, slot := 59, constantValue := 0 }, { name := "MIN_HIGH_SURROGATE", type := .char, accessFlags := 25, slot := 60, constantValue := 0 }, { name := "MAX_HIGH_SURROGATE", type := .char, accessFlags := 25, slot := 61, constantValue := 0 }, { name := "MIN_LOW_SURROGATE", type := .char, accessFlags := 25, slot := 62, constantValue := 0 }, { name := "MAX_LOW_SURROGATE", type := .char, accessFlags := 25, slot := 63, constantValue := 0 }, { name := "MIN_SURROGATE", type := .char, accessFlags := 25, slot := 64, constantValue := 0 }, { name := "MAX_SURROGATE", type := .char, accessFlags := 25, slot := 65, constantValue := 0 }, { name := "MIN_SUPPLEMENTARY_CODE_POINT", type := .int, accessFlags := 25, slot := 66, constantValue := 0 }, { name := "MIN_CODE_POINT", type := .int, accessFlags := 25, slot := 67, constantValue := 0 }, { name := "MAX_CODE_POINT", type := .int, accessFlags := 25, slot := 68, constantValue := 0 }, { name := "value", type := .char, accessFlags := 18, slot := 0, constantValue := 0 }, { name := "serialVersionUID", type := .long, accessFlags := 26, slot := 69, constantValue := 0 }, { name := "SIZE", type := .int, accessFlags := 25, slot := 70, constantValue := 0 }, { name := "BYTES", type := .int, accessFlags := 25, slot := 71, constantValue := 0 }, { name := "$assertionsDisabled", type := .boolean, accessFlags := 4120, slot := 72, constantValue := 0 }]
  methods := #[k15m0, k15m1, k15m2, k15m3]
  instanceTypes := #[.char]
  staticTypes := #[.int, .int, .char, .char, (.object "java/lang/Class"), .byte, .byte, .byte, .byte, .byte, .byte, .byte, .byte, .byte, .byte, .byte, .byte, .byte, .byte, .byte, .byte, .byte, .byte, .byte, .byte, .byte, .byte, .byte, .byte, .byte, .byte, .byte, .byte, .byte, .byte, .int, .byte, .byte, .byte, .byte, .byte, .byte, .byte, .byte, .byte, .byte, .byte, .byte, .byte, .byte, .byte, .byte, .byte, .byte, .byte, .byte, .byte, .byte, .byte, .byte, .char, .char, .char, .char, .char, .char, .int, .int, .int, .long, .int, .int, .boolean]
  resolved := Array.replicate 604 none
  statics := none }

def pool16 : Array CpInfo := pool [(4, .class_ 6), (1, u "java/lang/Object"), (0, u "<init>"), (0, u "()V"), (5, .class_ 16), (1, u "java/lang/StringLatin1"), (104, u "$assertionsDisabled"), (0, u "Z"), (98, .class_ 223), (1, u "java/lang/StringLatin1$LinesSpliterator"), (166, .class_ 391), (0, u "java/lang/StringLatin1$CharsSpliterator")] 3

def k16m0 : Method := { name := "<init>", desc := "()V", sig := { parameters := [], returnType := none }, accessFlags := 0, code := none }
/-- java/lang/StringLatin1 -/
def k16 : Class := { plain "java/lang/StringLatin1" (some 0) with
  accessFlags := 48
  interfaces := #[]
  cf := some (fileOf pool16 14 #[.nestMembers #[390, 221]] #[{ accessFlags := 0, nameIndex := 7, descriptorIndex := 8, attributes := #[] }] 48 4 #[] #[{ accessFlags := 4120, nameIndex := 121, descriptorIndex := 122, attributes := #[] }])
  fields := #[{ name := "$assertionsDisabled", type := .boolean, accessFlags := 4120, slot := 0, constantValue := 0 }]
  methods := #[k16m0]
  instanceTypes := #[]
  staticTypes := #[.boolean]
  resolved := Array.replicate 395 none
  statics := none }

def pool17 : Array CpInfo := pool [(9, u "<init>"), (6, .class_ 18), (1, u "java/lang/Object"), (0, u "()V"), (1, .class_ 23), (1, u "jdk/internal/util/ArraysSupport"), (0, u "LOG2_ARRAY_LONG_INDEX_SCALE"), (0, u "I"), (2, u "U"), (0, u "Ljdk/internal/misc/Unsafe;"), (8, u "BIG_ENDIAN"), (0, u "Z"), (8, u "LOG2_BYTE_BIT_SIZE"), (4, u "LOG2_ARRAY_INT_INDEX_SCALE"), (54, u "JLA"), (0, u "Ljdk/internal/access/JavaLangAccess;"), (11, u "LOG2_ARRAY_BOOLEAN_INDEX_SCALE"), (9, u "LOG2_ARRAY_BYTE_INDEX_SCALE"), (5, u "LOG2_ARRAY_CHAR_INDEX_SCALE"), (5, u "LOG2_ARRAY_SHORT_INDEX_SCALE"), (18, u "LOG2_ARRAY_FLOAT_INDEX_SCALE"), (24, u "LOG2_ARRAY_DOUBLE_INDEX_SCALE"), (89, u "T_BOOLEAN"), (2, u "T_CHAR"), (1, u "T_FLOAT"), (1, u "T_DOUBLE"), (1, u "T_BYTE"), (1, u "T_SHORT"), (1, u "T_INT"), (1, u "T_LONG"), (1, u "SOFT_MAX_ARRAY_LENGTH")] 83

def k17m0 : Method := { name := "<init>", desc := "()V", sig := { parameters := [], returnType := none }, accessFlags := 2, code := none }
/-- jdk/internal/util/ArraysSupport -/
def k17 : Class := { plain "jdk/internal/util/ArraysSupport" (some 0) with
  accessFlags := 33
  interfaces := #[]
  cf := some (fileOf pool17 21 #[] #[{ accessFlags := 2, nameIndex := 9, descriptorIndex := 19, attributes := #[] }] 33 16 #[] #[{ accessFlags := 24, nameIndex := 28, descriptorIndex := 29, attributes := #[] }, { accessFlags := 26, nameIndex := 38, descriptorIndex := 39, attributes := #[] }, { accessFlags := 25, nameIndex := 121, descriptorIndex := 25, attributes := #[] }, { accessFlags := 25, nameIndex := 131, descriptorIndex := 25, attributes := #[] }, { accessFlags := 25, nameIndex := 137, descriptorIndex := 25, attributes := #[] }, { accessFlags := 25, nameIndex := 143, descriptorIndex := 25, attributes := #[] }, { accessFlags := 25, nameIndex := 53, descriptorIndex := 25, attributes := #[] }, { accessFlags := 25, nameIndex := 24, descriptorIndex := 25, attributes := #[] }, { accessFlags := 25, nameIndex := 162, descriptorIndex := 25, attributes := #[] }, { accessFlags := 25, nameIndex := 187, descriptorIndex := 25, attributes := #[] }, { accessFlags := 26, nameIndex := 48, descriptorIndex := 25, attributes := #[] }, { accessFlags := 25, nameIndex := 277, descriptorIndex := 25, attributes := #[] }, { accessFlags := 25, nameIndex := 280, descriptorIndex := 25, attributes := #[] }, { accessFlags := 25, nameIndex := 282, descriptorIndex := 25, attributes := #[] }, { accessFlags := 25, nameIndex := 284, descriptorIndex := 25, attributes := #[] }, { accessFlags := 25, nameIndex := 286, descriptorIndex := 25, attributes := #[] }, { accessFlags := 25, nameIndex := 288, descriptorIndex := 25, attributes := #[] }, { accessFlags := 25, nameIndex := 290, descriptorIndex := 25, attributes := #[] }, { accessFlags := 25, nameIndex := 292, descriptorIndex := 25, attributes := #[] }, { accessFlags := 26, nameIndex := 108, descriptorIndex := 109, attributes := #[] }, { accessFlags := 25, nameIndex := 294, descriptorIndex := 25, attributes := #[] }])
  fields := #[{ name := "U", type := (.object "jdk/internal/misc/Unsafe"), accessFlags := 24, slot := 0, constantValue := 0 }, { name := "BIG_ENDIAN", type := .boolean, accessFlags := 26, slot := 1, constantValue := 0 }, { name := "LOG2_ARRAY_BOOLEAN_INDEX_SCALE", type := .int, accessFlags := 25, slot := 2, constantValue := 0 }, { name := "LOG2_ARRAY_BYTE_INDEX_SCALE", type := .int, accessFlags := 25, slot := 3, constantValue := 0 }, { name := "LOG2_ARRAY_CHAR_INDEX_SCALE", type := .int, accessFlags := 25, slot := 4, constantValue := 0 }, { name := "LOG2_ARRAY_SHORT_INDEX_SCALE", type := .int, accessFlags := 25, slot := 5, constantValue := 0 }, { name := "LOG2_ARRAY_INT_INDEX_SCALE", type := .int, accessFlags := 25, slot := 6, constantValue := 0 }, { name := "LOG2_ARRAY_LONG_INDEX_SCALE", type := .int, accessFlags := 25, slot := 7, constantValue := 0 }, { name := "LOG2_ARRAY_FLOAT_INDEX_SCALE", type := .int, accessFlags := 25, slot := 8, constantValue := 0 }, { name := "LOG2_ARRAY_DOUBLE_INDEX_SCALE", type := .int, accessFlags := 25, slot := 9, constantValue := 0 }, { name := "LOG2_BYTE_BIT_SIZE", type := .int, accessFlags := 26, slot := 10, constantValue := 0 }, { name := "T_BOOLEAN", type := .int, accessFlags := 25, slot := 11, constantValue := 0 }, { name := "T_CHAR", type := .int, accessFlags := 25, slot := 12, constantValue := 0 }, { name := "T_FLOAT", type := .int, accessFlags := 25, slot := 13, constantValue := 0 }, { name := "T_DOUBLE", type := .int, accessFlags := 25, slot := 14, constantValue := 0 }, { name := "T_BYTE", type := .int, accessFlags := 25, slot := 15, constantValue := 0 }, { name := "T_SHORT", type := .int, accessFlags := 25, slot := 16, constantValue := 0 }, { name := "T_INT", type := .int, accessFlags := 25, slot := 17, constantValue := 0 }, { name := "T_LONG", type := .int, accessFlags := 25, slot := 18, constantValue := 0 }, { name := "JLA", type := (.object "jdk/internal/access/JavaLangAccess"), accessFlags := 26, slot := 19, constantValue := 0 }, { name := "SOFT_MAX_ARRAY_LENGTH", type := .int, accessFlags := 25, slot := 20, constantValue := 0 }]
  methods := #[k17m0]
  instanceTypes := #[]
  staticTypes := #[(.object "jdk/internal/misc/Unsafe"), .boolean, .int, .int, .int, .int, .int, .int, .int, .int, .int, .int, .int, .int, .int, .int, .int, .int, .int, (.object "jdk/internal/access/JavaLangAccess"), .int]
  resolved := Array.replicate 378 none
  statics := none }

def pool18 : Array CpInfo := pool [(1, u "java/lang/Cloneable"), (0, .class_ 1), (0, u "java/lang/Object"), (0, .class_ 3)] 3

/-- java/lang/Cloneable -/
def k18 : Class := { plain "java/lang/Cloneable" (some 0) with
  accessFlags := 1537
  interfaces := #[]
  cf := some (fileOf pool18 2 #[] #[] 1537 4 #[] #[])
  fields := #[]
  methods := #[]
  instanceTypes := #[]
  staticTypes := #[]
  resolved := Array.replicate 8 none
  statics := none }

/-- the primitive byte -/
def k19 : Class := { plain "byte" none with kind := .primitive 'B', accessFlags := 0x411 }
/-- [B -/
def k20 : Class := { plain "[B" (some 0) with kind := .array 19 .byte, interfaces := #[18, 2], accessFlags := 1041 }

/-- the primitive char -/
def k21 : Class := { plain "char" none with kind := .primitive 'C', accessFlags := 0x411 }
/-- [C -/
def k22 : Class := { plain "[C" (some 0) with kind := .array 21 .char, interfaces := #[18, 2], accessFlags := 1041 }

/-- the primitive int -/
def k23 : Class := { plain "int" none with kind := .primitive 'I', accessFlags := 0x411 }
/-- [I -/
def k24 : Class := { plain "[I" (some 0) with kind := .array 23 .int, interfaces := #[18, 2], accessFlags := 1041 }

def heap : Heap := #[{ cls := 7, slots := #[.long 0, .int 1, .null, .int 0, .null, .int 0, .int 0], vm := .statics 7 },
  { cls := 10, slots := #[.ref 4, .null], vm := .statics 10 },
  { cls := 13, slots := #[.int 0, .int 8, .int 0, .int 1], vm := .statics 13 },
  { cls := 14, slots := #[.null, .null, .null], vm := .statics 14 },
  { cls := 10, slots := #[.null, .int 0, .int 0], vm := .none }]
def classes : Array Class := #[k0, k1, k2, k3, k4, k5, k6, k7, k8, k9, k10, k11, k12, k13, k14, k15, k16, k17, k18, k19, k20, k21, k22, k23, k24]
def interned : List (Array UInt16 × Addr) := []
def slotsUsed : Nat := 19
def theMethod : MethodId := ⟨1, 7⟩
def args0 : Array Value := #[.int 3, .int 7, .int 5, .int 2, .int 9]
def aboutOver (below : List Frame) : State where
  vm := { classes := classes, interned := interned.toArray }
  heap := heap
  slotsUsed := slotsUsed
  threads := #[{ frames := .invoking theMethod args0 :: below }]
def below0 : List Frame := [.native { method := ⟨0, 0⟩, args := #[] }]
def about1 : State := aboutOver below0
def p0 : Program := .bare "" "" ""
def e0 : Env := launch0.env 0 0 0
theorem w_frames : about1.frames = Frame.invoking theMethod args0 :: below0 := rfl
set_option maxRecDepth 65536 in
theorem w_args : argsFit about1.vm theMethod args0 = true := by decide +kernel
set_option maxRecDepth 65536 in
theorem w_heap : heapFits about1 = true := by decide +kernel
set_option maxRecDepth 65536 in
theorem w_runnable : about1.curStatus? = some .runnable := by decide +kernel
set_option maxRecDepth 65536 in
theorem w_alone : about1.alone = true := by decide +kernel
set_option maxRecDepth 65536 in
theorem w_named : about1.methodNamed? x = some theMethod := by decide +kernel
set_option maxRecDepth 65536 in
theorem w_hears : about1.hears theMethod below0 = true := by decide +kernel
set_option maxRecDepth 65536 in
theorem w_ripe : about1.ripe theMethod args0 below0 = true := by decide +kernel
theorem w_running : about1.status = .running := rfl
set_option maxRecDepth 65536 in
theorem w_room : about1.hasRoom e0.platform room_1 = true :=
  launch0.hasRoom_least _ room_1 (by decide +kernel) (by decide +kernel) (by decide +kernel) (by decide +kernel) (by decide +kernel) (by decide +kernel)
theorem allAtoms_all (ts : List Jvm.Cond) (a : Array Jvm.Value) (st : Jvm.State) : (allAtoms ts).before a st = ts.all (fun c => c.before a st) := by
  induction ts with
  | nil => rfl
  | cons c t ih =>
    show (Jvm.Cond.and c (allAtoms t)).before a st = _
    rw [Jvm.Cond.before_and, ih, List.all_cons]
def words1 : List Jvm.Cond := Jvm.Cond.code x code maxLocals ret :: tables_1
/-- a 'code' word, met by the world's own term for the bytes: nothing is compared byte by byte -/
theorem code_word {y : MethodName} {bytes : ByteArray} {mx : Nat} {rt : Option FieldType} {a : Array Value} {s : State} {m : MethodId} {meth : Method} {c : Code} (h1 : s.methodNamed? y = some m) (h2 : s.vm.method? m = some meth) (h3 : meth.code = some c) (h4 : c.code = bytes)
    (h5 : (c.maxLocals == mx && c.exceptionTable.isEmpty && decide (c.maxStack ≤ mostOperands) && decide (meth.sig.returnType = rt) && !meth.locks && decide (parseMethodDescriptor y.desc = some meth.sig)) = true) : (Jvm.Cond.code y bytes mx rt).before a s = true := by
  simp only [Bool.and_eq_true, beq_iff_eq, Bool.not_eq_true', decide_eq_true_eq] at h5
  obtain ⟨⟨⟨⟨⟨g1, g2⟩, g3⟩, g4⟩, g5⟩, g6⟩ := h5
  simp [Cond.before, Cond.holds, Cond.value, h1, h2, h3, h4, g1, g2, g3, g4, g5, g6]
def isCode : Jvm.Cond → Bool
  | .code _ _ _ _ => true
  | _ => false
theorem all_split {L : List Jvm.Cond} {P : Jvm.Cond → Bool} (h1 : L.all (fun c => isCode c || P c) = true) (h2 : ∀ c ∈ L.filter isCode, P c = true) : L.all P = true := by
  refine List.all_eq_true.mpr fun c hc => ?_
  have h := List.all_eq_true.mp h1 c hc
  rcases Bool.eq_false_or_eq_true (isCode c) with hi | hi
  · exact h2 c (List.mem_filter.mpr ⟨hc, hi⟩)
  · simpa [hi] using h
set_option maxRecDepth 65536 in
theorem w_c0 : (Jvm.Cond.code x code maxLocals ret).before args0 about1 = true := code_word (m := ⟨1, 7⟩) (meth := k1m7) (c := k1c7) (by decide +kernel) rfl rfl rfl (by decide +kernel)
set_option maxRecDepth 65536 in
theorem w_c1 : (Jvm.Cond.code ({ cls := "com/example/acquaint/acquaint/store/CodePointOrderComparePinLaw", name := "draw", desc := "(I)C" } : Jvm.MethodName) method_2_code (3 : Nat) (Option.some Jvm.ClassFile.FieldType.char)).before args0 about1 = true := code_word (m := ⟨1, 1⟩) (meth := k1m1) (c := k1c1) (by decide +kernel) rfl rfl rfl (by decide +kernel)
set_option maxRecDepth 65536 in
theorem w_c2 : (Jvm.Cond.code ({ cls := "com/example/acquaint/acquaint/store/CodePointOrderComparePinLaw", name := "mk", desc := "(ICC)Ljava/lang/String;" } : Jvm.MethodName) method_5_code (3 : Nat) (Option.some (Jvm.ClassFile.FieldType.object "java/lang/String"))).before args0 about1 = true := code_word (m := ⟨1, 4⟩) (meth := k1m4) (c := k1c4) (by decide +kernel) rfl rfl rfl (by decide +kernel)
set_option maxRecDepth 65536 in
theorem w_c3 : (Jvm.Cond.code ({ cls := "java/lang/String", name := "<init>", desc := "([C)V" } : Jvm.MethodName) jdk_42_method_3_code (2 : Nat) (Option.none : Option Jvm.ClassFile.FieldType)).before args0 about1 = true := code_word (m := ⟨7, 1⟩) (meth := k7m1) (c := k7c1) (by decide +kernel) rfl rfl rfl (by decide +kernel)
set_option maxRecDepth 65536 in
theorem w_c4 : (Jvm.Cond.code ({ cls := "java/lang/String", name := "<init>", desc := "([CIILjava/lang/Void;)V" } : Jvm.MethodName) jdk_42_method_149_code (6 : Nat) (Option.none : Option Jvm.ClassFile.FieldType)).before args0 about1 = true := code_word (m := ⟨7, 4⟩) (meth := k7m4) (c := k7c4) (by decide +kernel) rfl rfl rfl (by decide +kernel)
set_option maxRecDepth 65536 in
theorem w_c5 : (Jvm.Cond.code ({ cls := "java/lang/Object", name := "<init>", desc := "()V" } : Jvm.MethodName) object_method_1_code (1 : Nat) (Option.none : Option Jvm.ClassFile.FieldType)).before args0 about1 = true := code_word (m := ⟨0, 0⟩) (meth := k0m0) (c := k0c0) (by decide +kernel) rfl rfl rfl (by decide +kernel)
set_option maxRecDepth 65536 in
theorem w_c6 : (Jvm.Cond.code ({ cls := "com/example/acquaint/acquaint/store/CodePointOrderComparePinLaw", name := "cps", desc := "(ICC[I)I" } : Jvm.MethodName) method_6_code (4 : Nat) (Option.some Jvm.ClassFile.FieldType.int)).before args0 about1 = true := code_word (m := ⟨1, 5⟩) (meth := k1m5) (c := k1c5) (by decide +kernel) rfl rfl rfl (by decide +kernel)
set_option maxRecDepth 65536 in
theorem w_c7 : (Jvm.Cond.code ({ cls := "com/example/acquaint/acquaint/store/CodePointOrder", name := "compare", desc := "(Ljava/lang/String;Ljava/lang/String;)I" } : Jvm.MethodName) prog_42_method_4_code (7 : Nat) (Option.some Jvm.ClassFile.FieldType.int)).before args0 about1 = true := code_word (m := ⟨10, 0⟩) (meth := k10m0) (c := k10c0) (by decide +kernel) rfl rfl rfl (by decide +kernel)
set_option maxRecDepth 65536 in
theorem w_c8 : (Jvm.Cond.code ({ cls := "java/lang/String", name := "length", desc := "()I" } : Jvm.MethodName) jdk_42_method_54_code (1 : Nat) (Option.some Jvm.ClassFile.FieldType.int)).before args0 about1 = true := code_word (m := ⟨7, 2⟩) (meth := k7m2) (c := k7c2) (by decide +kernel) rfl rfl rfl (by decide +kernel)
set_option maxRecDepth 65536 in
theorem w_c9 : (Jvm.Cond.code ({ cls := "java/lang/String", name := "coder", desc := "()B" } : Jvm.MethodName) jdk_42_method_152_code (1 : Nat) (Option.some Jvm.ClassFile.FieldType.byte)).before args0 about1 = true := code_word (m := ⟨7, 5⟩) (meth := k7m5) (c := k7c5) (by decide +kernel) rfl rfl rfl (by decide +kernel)
set_option maxRecDepth 65536 in
theorem w_c10 : (Jvm.Cond.code ({ cls := "java/lang/Integer", name := "compare", desc := "(II)I" } : Jvm.MethodName) jdk_33_method_40_code (2 : Nat) (Option.some Jvm.ClassFile.FieldType.int)).before args0 about1 = true := code_word (m := ⟨12, 0⟩) (meth := k12m0) (c := k12c0) (by decide +kernel) rfl rfl rfl (by decide +kernel)
set_option maxRecDepth 65536 in
theorem w_c11 : (Jvm.Cond.code ({ cls := "com/example/acquaint/acquaint/store/CodePointOrderComparePinLaw", name := "sign", desc := "(I)I" } : Jvm.MethodName) method_7_code (1 : Nat) (Option.some Jvm.ClassFile.FieldType.int)).before args0 about1 = true := code_word (m := ⟨1, 6⟩) (meth := k1m6) (c := k1c6) (by decide +kernel) rfl rfl rfl (by decide +kernel)
set_option maxRecDepth 65536 in
theorem w_c12 : (Jvm.Cond.code ({ cls := "java/lang/StringUTF16", name := "compress", desc := "([CII)[B" } : Jvm.MethodName) jdk_52_method_16_code (6 : Nat) (Option.some (Jvm.ClassFile.FieldType.array Jvm.ClassFile.FieldType.byte))).before args0 about1 = true := code_word (m := ⟨13, 9⟩) (meth := k13m9) (c := k13c9) (by decide +kernel) rfl rfl rfl (by decide +kernel)
set_option maxRecDepth 65536 in
theorem w_c13 : (Jvm.Cond.code ({ cls := "java/lang/StringUTF16", name := "compress", desc := "([CI[BII)I" } : Jvm.MethodName) jdk_52_method_21_code (7 : Nat) (Option.some Jvm.ClassFile.FieldType.int)).before args0 about1 = true := code_word (m := ⟨13, 10⟩) (meth := k13m10) (c := k13c10) (by decide +kernel) rfl rfl rfl (by decide +kernel)
set_option maxRecDepth 65536 in
theorem w_c14 : (Jvm.Cond.code ({ cls := "java/lang/StringUTF16", name := "toBytes", desc := "([CII)[B" } : Jvm.MethodName) jdk_52_method_14_code (5 : Nat) (Option.some (Jvm.ClassFile.FieldType.array Jvm.ClassFile.FieldType.byte))).before args0 about1 = true := code_word (m := ⟨13, 7⟩) (meth := k13m7) (c := k13c7) (by decide +kernel) rfl rfl rfl (by decide +kernel)
set_option maxRecDepth 65536 in
theorem w_c15 : (Jvm.Cond.code ({ cls := "java/lang/StringUTF16", name := "newBytesFor", desc := "(I)[B" } : Jvm.MethodName) jdk_52_method_2_code (1 : Nat) (Option.some (Jvm.ClassFile.FieldType.array Jvm.ClassFile.FieldType.byte))).before args0 about1 = true := code_word (m := ⟨13, 1⟩) (meth := k13m1) (c := k13c1) (by decide +kernel) rfl rfl rfl (by decide +kernel)
set_option maxRecDepth 65536 in
theorem w_c16 : (Jvm.Cond.code ({ cls := "java/lang/StringUTF16", name := "newBytesLength", desc := "(I)I" } : Jvm.MethodName) jdk_52_method_3_code (1 : Nat) (Option.some Jvm.ClassFile.FieldType.int)).before args0 about1 = true := code_word (m := ⟨13, 2⟩) (meth := k13m2) (c := k13c2) (by decide +kernel) rfl rfl rfl (by decide +kernel)
set_option maxRecDepth 65536 in
theorem w_c17 : (Jvm.Cond.code ({ cls := "java/lang/StringUTF16", name := "putChar", desc := "([BII)V" } : Jvm.MethodName) jdk_52_method_4_code (3 : Nat) (Option.none : Option Jvm.ClassFile.FieldType)).before args0 about1 = true := code_word (m := ⟨13, 3⟩) (meth := k13m3) (c := k13c3) (by decide +kernel) rfl rfl rfl (by decide +kernel)
set_option maxRecDepth 65536 in
theorem w_c18 : (Jvm.Cond.code ({ cls := "java/lang/StringUTF16", name := "getChar", desc := "([BI)C" } : Jvm.MethodName) jdk_52_method_5_code (2 : Nat) (Option.some Jvm.ClassFile.FieldType.char)).before args0 about1 = true := code_word (m := ⟨13, 4⟩) (meth := k13m4) (c := k13c4) (by decide +kernel) rfl rfl rfl (by decide +kernel)
set_option maxRecDepth 65536 in
theorem w_c19 : (Jvm.Cond.code ({ cls := "java/lang/StringUTF16", name := "coderFromArrayLen", desc := "([BI)B" } : Jvm.MethodName) jdk_52_method_15_code (2 : Nat) (Option.some Jvm.ClassFile.FieldType.byte)).before args0 about1 = true := code_word (m := ⟨13, 8⟩) (meth := k13m8) (c := k13c8) (by decide +kernel) rfl rfl rfl (by decide +kernel)
set_option maxRecDepth 65536 in
theorem w_c20 : (Jvm.Cond.code ({ cls := "com/example/acquaint/acquaint/store/CodePointOrderComparePinLaw", name := "isHigh", desc := "(C)Z" } : Jvm.MethodName) method_3_code (1 : Nat) (Option.some Jvm.ClassFile.FieldType.boolean)).before args0 about1 = true := code_word (m := ⟨1, 2⟩) (meth := k1m2) (c := k1c2) (by decide +kernel) rfl rfl rfl (by decide +kernel)
set_option maxRecDepth 65536 in
theorem w_c21 : (Jvm.Cond.code ({ cls := "java/lang/String", name := "codePointAt", desc := "(I)I" } : Jvm.MethodName) jdk_42_method_57_code (3 : Nat) (Option.some Jvm.ClassFile.FieldType.int)).before args0 about1 = true := code_word (m := ⟨7, 3⟩) (meth := k7m3) (c := k7c3) (by decide +kernel) rfl rfl rfl (by decide +kernel)
set_option maxRecDepth 65536 in
theorem w_c22 : (Jvm.Cond.code ({ cls := "java/lang/String", name := "isLatin1", desc := "()Z" } : Jvm.MethodName) jdk_42_method_154_code (1 : Nat) (Option.some Jvm.ClassFile.FieldType.boolean)).before args0 about1 = true := code_word (m := ⟨7, 6⟩) (meth := k7m6) (c := k7c6) (by decide +kernel) rfl rfl rfl (by decide +kernel)
set_option maxRecDepth 65536 in
theorem w_c23 : (Jvm.Cond.code ({ cls := "java/lang/String", name := "checkIndex", desc := "(II)V" } : Jvm.MethodName) jdk_42_method_155_code (2 : Nat) (Option.none : Option Jvm.ClassFile.FieldType)).before args0 about1 = true := code_word (m := ⟨7, 7⟩) (meth := k7m7) (c := k7c7) (by decide +kernel) rfl rfl rfl (by decide +kernel)
set_option maxRecDepth 65536 in
theorem w_c24 : (Jvm.Cond.code ({ cls := "jdk/internal/util/Preconditions", name := "checkIndex", desc := "(IILjava/util/function/BiFunction;)I" } : Jvm.MethodName) jdk_41_method_11_code (3 : Nat) (Option.some Jvm.ClassFile.FieldType.int)).before args0 about1 = true := code_word (m := ⟨14, 1⟩) (meth := k14m1) (c := k14c1) (by decide +kernel) rfl rfl rfl (by decide +kernel)
set_option maxRecDepth 65536 in
theorem w_c25 : (Jvm.Cond.code ({ cls := "java/lang/StringUTF16", name := "codePointAt", desc := "([BII)I" } : Jvm.MethodName) jdk_52_method_8_code (3 : Nat) (Option.some Jvm.ClassFile.FieldType.int)).before args0 about1 = true := code_word (m := ⟨13, 6⟩) (meth := k13m6) (c := k13c6) (by decide +kernel) rfl rfl rfl (by decide +kernel)
set_option maxRecDepth 65536 in
theorem w_c26 : (Jvm.Cond.code ({ cls := "java/lang/StringUTF16", name := "codePointAt", desc := "([BIIZ)I" } : Jvm.MethodName) jdk_52_method_7_code (6 : Nat) (Option.some Jvm.ClassFile.FieldType.int)).before args0 about1 = true := code_word (m := ⟨13, 5⟩) (meth := k13m5) (c := k13c5) (by decide +kernel) rfl rfl rfl (by decide +kernel)
set_option maxRecDepth 65536 in
theorem w_c27 : (Jvm.Cond.code ({ cls := "java/lang/Character", name := "isHighSurrogate", desc := "(C)Z" } : Jvm.MethodName) jdk_89_method_14_code (1 : Nat) (Option.some Jvm.ClassFile.FieldType.boolean)).before args0 about1 = true := code_word (m := ⟨15, 0⟩) (meth := k15m0) (c := k15c0) (by decide +kernel) rfl rfl rfl (by decide +kernel)
set_option maxRecDepth 65536 in
theorem w_c28 : (Jvm.Cond.code ({ cls := "java/lang/Character", name := "charCount", desc := "(I)I" } : Jvm.MethodName) jdk_89_method_18_code (1 : Nat) (Option.some Jvm.ClassFile.FieldType.int)).before args0 about1 = true := code_word (m := ⟨15, 2⟩) (meth := k15m2) (c := k15c2) (by decide +kernel) rfl rfl rfl (by decide +kernel)
set_option maxRecDepth 65536 in
theorem w_c29 : (Jvm.Cond.code ({ cls := "com/example/acquaint/acquaint/store/CodePointOrderComparePinLaw", name := "isLow", desc := "(C)Z" } : Jvm.MethodName) method_4_code (1 : Nat) (Option.some Jvm.ClassFile.FieldType.boolean)).before args0 about1 = true := code_word (m := ⟨1, 3⟩) (meth := k1m3) (c := k1c3) (by decide +kernel) rfl rfl rfl (by decide +kernel)
set_option maxRecDepth 65536 in
theorem w_c30 : (Jvm.Cond.code ({ cls := "java/lang/Character", name := "isLowSurrogate", desc := "(C)Z" } : Jvm.MethodName) jdk_89_method_15_code (1 : Nat) (Option.some Jvm.ClassFile.FieldType.boolean)).before args0 about1 = true := code_word (m := ⟨15, 1⟩) (meth := k15m1) (c := k15c1) (by decide +kernel) rfl rfl rfl (by decide +kernel)
set_option maxRecDepth 65536 in
theorem w_c31 : (Jvm.Cond.code ({ cls := "java/lang/Character", name := "toCodePoint", desc := "(CC)I" } : Jvm.MethodName) jdk_89_method_19_code (2 : Nat) (Option.some Jvm.ClassFile.FieldType.int)).before args0 about1 = true := code_word (m := ⟨15, 3⟩) (meth := k15m3) (c := k15c3) (by decide +kernel) rfl rfl rfl (by decide +kernel)
def codes1 : List Jvm.Cond := [Jvm.Cond.code x code maxLocals ret, Jvm.Cond.code ({ cls := "com/example/acquaint/acquaint/store/CodePointOrderComparePinLaw", name := "draw", desc := "(I)C" } : Jvm.MethodName) method_2_code (3 : Nat) (Option.some Jvm.ClassFile.FieldType.char), Jvm.Cond.code ({ cls := "com/example/acquaint/acquaint/store/CodePointOrderComparePinLaw", name := "mk", desc := "(ICC)Ljava/lang/String;" } : Jvm.MethodName) method_5_code (3 : Nat) (Option.some (Jvm.ClassFile.FieldType.object "java/lang/String")), Jvm.Cond.code ({ cls := "java/lang/String", name := "<init>", desc := "([C)V" } : Jvm.MethodName) jdk_42_method_3_code (2 : Nat) (Option.none : Option Jvm.ClassFile.FieldType), Jvm.Cond.code ({ cls := "java/lang/String", name := "<init>", desc := "([CIILjava/lang/Void;)V" } : Jvm.MethodName) jdk_42_method_149_code (6 : Nat) (Option.none : Option Jvm.ClassFile.FieldType), Jvm.Cond.code ({ cls := "java/lang/Object", name := "<init>", desc := "()V" } : Jvm.MethodName) object_method_1_code (1 : Nat) (Option.none : Option Jvm.ClassFile.FieldType), Jvm.Cond.code ({ cls := "com/example/acquaint/acquaint/store/CodePointOrderComparePinLaw", name := "cps", desc := "(ICC[I)I" } : Jvm.MethodName) method_6_code (4 : Nat) (Option.some Jvm.ClassFile.FieldType.int), Jvm.Cond.code ({ cls := "com/example/acquaint/acquaint/store/CodePointOrder", name := "compare", desc := "(Ljava/lang/String;Ljava/lang/String;)I" } : Jvm.MethodName) prog_42_method_4_code (7 : Nat) (Option.some Jvm.ClassFile.FieldType.int), Jvm.Cond.code ({ cls := "java/lang/String", name := "length", desc := "()I" } : Jvm.MethodName) jdk_42_method_54_code (1 : Nat) (Option.some Jvm.ClassFile.FieldType.int), Jvm.Cond.code ({ cls := "java/lang/String", name := "coder", desc := "()B" } : Jvm.MethodName) jdk_42_method_152_code (1 : Nat) (Option.some Jvm.ClassFile.FieldType.byte), Jvm.Cond.code ({ cls := "java/lang/Integer", name := "compare", desc := "(II)I" } : Jvm.MethodName) jdk_33_method_40_code (2 : Nat) (Option.some Jvm.ClassFile.FieldType.int), Jvm.Cond.code ({ cls := "com/example/acquaint/acquaint/store/CodePointOrderComparePinLaw", name := "sign", desc := "(I)I" } : Jvm.MethodName) method_7_code (1 : Nat) (Option.some Jvm.ClassFile.FieldType.int), Jvm.Cond.code ({ cls := "java/lang/StringUTF16", name := "compress", desc := "([CII)[B" } : Jvm.MethodName) jdk_52_method_16_code (6 : Nat) (Option.some (Jvm.ClassFile.FieldType.array Jvm.ClassFile.FieldType.byte)), Jvm.Cond.code ({ cls := "java/lang/StringUTF16", name := "compress", desc := "([CI[BII)I" } : Jvm.MethodName) jdk_52_method_21_code (7 : Nat) (Option.some Jvm.ClassFile.FieldType.int), Jvm.Cond.code ({ cls := "java/lang/StringUTF16", name := "toBytes", desc := "([CII)[B" } : Jvm.MethodName) jdk_52_method_14_code (5 : Nat) (Option.some (Jvm.ClassFile.FieldType.array Jvm.ClassFile.FieldType.byte)), Jvm.Cond.code ({ cls := "java/lang/StringUTF16", name := "newBytesFor", desc := "(I)[B" } : Jvm.MethodName) jdk_52_method_2_code (1 : Nat) (Option.some (Jvm.ClassFile.FieldType.array Jvm.ClassFile.FieldType.byte)), Jvm.Cond.code ({ cls := "java/lang/StringUTF16", name := "newBytesLength", desc := "(I)I" } : Jvm.MethodName) jdk_52_method_3_code (1 : Nat) (Option.some Jvm.ClassFile.FieldType.int), Jvm.Cond.code ({ cls := "java/lang/StringUTF16", name := "putChar", desc := "([BII)V" } : Jvm.MethodName) jdk_52_method_4_code (3 : Nat) (Option.none : Option Jvm.ClassFile.FieldType), Jvm.Cond.code ({ cls := "java/lang/StringUTF16", name := "getChar", desc := "([BI)C" } : Jvm.MethodName) jdk_52_method_5_code (2 : Nat) (Option.some Jvm.ClassFile.FieldType.char), Jvm.Cond.code ({ cls := "java/lang/StringUTF16", name := "coderFromArrayLen", desc := "([BI)B" } : Jvm.MethodName) jdk_52_method_15_code (2 : Nat) (Option.some Jvm.ClassFile.FieldType.byte), Jvm.Cond.code ({ cls := "com/example/acquaint/acquaint/store/CodePointOrderComparePinLaw", name := "isHigh", desc := "(C)Z" } : Jvm.MethodName) method_3_code (1 : Nat) (Option.some Jvm.ClassFile.FieldType.boolean), Jvm.Cond.code ({ cls := "java/lang/String", name := "codePointAt", desc := "(I)I" } : Jvm.MethodName) jdk_42_method_57_code (3 : Nat) (Option.some Jvm.ClassFile.FieldType.int), Jvm.Cond.code ({ cls := "java/lang/String", name := "isLatin1", desc := "()Z" } : Jvm.MethodName) jdk_42_method_154_code (1 : Nat) (Option.some Jvm.ClassFile.FieldType.boolean), Jvm.Cond.code ({ cls := "java/lang/String", name := "checkIndex", desc := "(II)V" } : Jvm.MethodName) jdk_42_method_155_code (2 : Nat) (Option.none : Option Jvm.ClassFile.FieldType), Jvm.Cond.code ({ cls := "jdk/internal/util/Preconditions", name := "checkIndex", desc := "(IILjava/util/function/BiFunction;)I" } : Jvm.MethodName) jdk_41_method_11_code (3 : Nat) (Option.some Jvm.ClassFile.FieldType.int), Jvm.Cond.code ({ cls := "java/lang/StringUTF16", name := "codePointAt", desc := "([BII)I" } : Jvm.MethodName) jdk_52_method_8_code (3 : Nat) (Option.some Jvm.ClassFile.FieldType.int), Jvm.Cond.code ({ cls := "java/lang/StringUTF16", name := "codePointAt", desc := "([BIIZ)I" } : Jvm.MethodName) jdk_52_method_7_code (6 : Nat) (Option.some Jvm.ClassFile.FieldType.int), Jvm.Cond.code ({ cls := "java/lang/Character", name := "isHighSurrogate", desc := "(C)Z" } : Jvm.MethodName) jdk_89_method_14_code (1 : Nat) (Option.some Jvm.ClassFile.FieldType.boolean), Jvm.Cond.code ({ cls := "java/lang/Character", name := "charCount", desc := "(I)I" } : Jvm.MethodName) jdk_89_method_18_code (1 : Nat) (Option.some Jvm.ClassFile.FieldType.int), Jvm.Cond.code ({ cls := "com/example/acquaint/acquaint/store/CodePointOrderComparePinLaw", name := "isLow", desc := "(C)Z" } : Jvm.MethodName) method_4_code (1 : Nat) (Option.some Jvm.ClassFile.FieldType.boolean), Jvm.Cond.code ({ cls := "java/lang/Character", name := "isLowSurrogate", desc := "(C)Z" } : Jvm.MethodName) jdk_89_method_15_code (1 : Nat) (Option.some Jvm.ClassFile.FieldType.boolean), Jvm.Cond.code ({ cls := "java/lang/Character", name := "toCodePoint", desc := "(CC)I" } : Jvm.MethodName) jdk_89_method_19_code (2 : Nat) (Option.some Jvm.ClassFile.FieldType.int)]
set_option maxRecDepth 65536 in
theorem codes_eq : words1.filter isCode = codes1 := rfl
theorem w_codes : ∀ c ∈ words1.filter isCode, c.before args0 about1 = true := by
  rw [codes_eq]
  intro c hc
  simp only [codes1, List.mem_cons, List.not_mem_nil, or_false] at hc
  rcases hc with rfl | rfl | rfl | rfl | rfl | rfl | rfl | rfl | rfl | rfl | rfl | rfl | rfl | rfl | rfl | rfl | rfl | rfl | rfl | rfl | rfl | rfl | rfl | rfl | rfl | rfl | rfl | rfl | rfl | rfl | rfl | rfl
  · exact w_c0
  · exact w_c1
  · exact w_c2
  · exact w_c3
  · exact w_c4
  · exact w_c5
  · exact w_c6
  · exact w_c7
  · exact w_c8
  · exact w_c9
  · exact w_c10
  · exact w_c11
  · exact w_c12
  · exact w_c13
  · exact w_c14
  · exact w_c15
  · exact w_c16
  · exact w_c17
  · exact w_c18
  · exact w_c19
  · exact w_c20
  · exact w_c21
  · exact w_c22
  · exact w_c23
  · exact w_c24
  · exact w_c25
  · exact w_c26
  · exact w_c27
  · exact w_c28
  · exact w_c29
  · exact w_c30
  · exact w_c31
set_option maxRecDepth 65536 in
theorem w_t1 : (words1.take 24).all (fun c => isCode c || c.before args0 about1) = true := by decide +kernel
set_option maxRecDepth 65536 in
theorem w_t2 : ((words1.drop 24).take 24).all (fun c => isCode c || c.before args0 about1) = true := by decide +kernel
set_option maxRecDepth 65536 in
theorem w_t3 : (((words1.drop 24).drop 24).take 24).all (fun c => isCode c || c.before args0 about1) = true := by decide +kernel
set_option maxRecDepth 65536 in
theorem w_t4 : ((((words1.drop 24).drop 24).drop 24).take 24).all (fun c => isCode c || c.before args0 about1) = true := by decide +kernel
set_option maxRecDepth 65536 in
theorem w_t5 : (((((words1.drop 24).drop 24).drop 24).drop 24).take 24).all (fun c => isCode c || c.before args0 about1) = true := by decide +kernel
set_option maxRecDepth 65536 in
theorem w_t6 : ((((((words1.drop 24).drop 24).drop 24).drop 24).drop 24).take 24).all (fun c => isCode c || c.before args0 about1) = true := by decide +kernel
set_option maxRecDepth 65536 in
theorem w_t7 : ((((((words1.drop 24).drop 24).drop 24).drop 24).drop 24).drop 24).all (fun c => isCode c || c.before args0 about1) = true := by decide +kernel
theorem w_tables : (allAtoms (Jvm.Cond.code x code maxLocals ret :: tables_1)).before args0 about1 = true := by
  rw [allAtoms_all]
  show words1.all (fun c => c.before args0 about1) = true
  refine all_split ?_ w_codes
  rw [← List.take_append_drop 24 words1, List.all_append, w_t1, ← List.take_append_drop 24 (words1.drop 24), List.all_append, w_t2, ← List.take_append_drop 24 ((words1.drop 24).drop 24), List.all_append, w_t3, ← List.take_append_drop 24 (((words1.drop 24).drop 24).drop 24), List.all_append, w_t4, ← List.take_append_drop 24 ((((words1.drop 24).drop 24).drop 24).drop 24), List.all_append, w_t5, ← List.take_append_drop 24 (((((words1.drop 24).drop 24).drop 24).drop 24).drop 24), List.all_append, w_t6, w_t7]
  rfl
set_option maxRecDepth 65536 in
theorem w_rest : rest_1_c.before args0 about1 = true := by decide +kernel
set_option maxRecDepth 65536 in
theorem w_case : (Jvm.Cond.and given_1 narrow_1).before args0 about1 = true := by decide +kernel
set_option maxRecDepth 65536 in
theorem w_consts : constsHeld consts_1 about1 := Jvm.Lit.constsHeldB_iff.mp (by decide +kernel)
theorem w_applies : (headSpec (Jvm.Cond.code x code maxLocals ret :: tables_1) room_1).applies x e0.platform about1 = true :=
  (Spec.applies_iff w_frames).mpr ⟨w_running, w_runnable, w_alone, w_named, w_hears, w_ripe, w_room, w_tables⟩
theorem atStart : AtStart classFile x code maxLocals ret World_1 tables_1 room_1 Calls_1 rest_1 Pre_1 launch0 p0 e0 about1 theMethod args0 below0 :=
  ⟨lists_1, trivial, launch0.admits_env _ _ _, launch0.least_env, fairChoices_fair.cas, fairChoices_fair.clock, w_frames, w_args, w_heap, w_applies, ⟨w_consts, trivial⟩, w_rest, w_case⟩
end start1
theorem witness_1 : WitnessClaimed_1 := ⟨start1.p0, start1.e0, start1.about1, start1.theMethod, start1.args0, start1.below0, start1.atStart⟩
end Jvm.Pilot.@@N@@
