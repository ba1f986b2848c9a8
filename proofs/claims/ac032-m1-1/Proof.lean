import JvmDerived
import JvmDerived.Pilot.@@N@@Statement
import JvmDerived.Pilot.@@N@@Code
set_option linter.unusedVariables false
set_option linter.unusedSimpArgs false
namespace Jvm.Pilot.@@N@@
open Jvm Jvm.ClassFile Sem Op Lib Jvm.Free Jvm.Stand Jvm.LawKit Jvm.RoadKit Bundle Jvm.Pilot.@@N@@.Jvm.D
section OwnLayer
/-- where the walk of the body y stands: after k cells and n slots made, with the heap h and the top frame g -/
def Rch (p : Program) (l : Launch) (e : Env) (R : Room) (s : State) (m : MethodId) (args : Array Value) (below : List Frame) (meth : Method) (c : Code) (Z : State) (y : MethodName) (bc : ByteArray) (ml : Nat) (rt : Option FieldType) (n0 : Nat) (T0 : State) (g0 : JFrame) (k n : Nat) (h : Heap) (g : JFrame) : Prop :=
  (p.tables.exec = Jvm.exec ∧ c.code = bc ∧ c.maxLocals = ml ∧ s.vm.findClass y.cls = some m.cls ∧ Z.Warmed39 s.vm ∧ meth.sig.returnType = rt ∧ meth.locks = false ∧ meth.name = y.name) ∧
  ∃ T locs, Stand p l e R s m args below meth c T locs k n ∧ T.heap = h ∧ Fr n0 locs ∧ ∀ target, Steps p.tables e below (T.setTop g) target → Steps p.tables e below (T0.setTop g0) target
/-- the body has returned v, with the heap h -/
def Don (p : Program) (l : Launch) (e : Env) (R : Room) (s : State) (m : MethodId) (args : Array Value) (below : List Frame) (meth : Method) (c : Code) (rt : Option FieldType) (n0 : Nat) (T0 : State) (g0 : JFrame) (v : Option Value) (h : Heap) : Prop :=
  ∃ T locs k n, Stand p l e R s m args below meth c T locs k n ∧ k ≤ R.cells ∧ n ≤ R.slots ∧ T.heap = h ∧ Fr n0 locs ∧ meth.locks = false ∧ (meth.sig.returnType = none → v = none) ∧
    ∀ fs, (∀ (f : JFrame) (acts : List Action), f.method = m → f.locked = none → f.entered = [] → (doReturn e (T.setTop f) acts v).1 = T.setFrames fs) → Steps p.tables e below (T0.setTop g0) (T.setFrames fs)
/-- a body's contract -/
def Ctr (l : Launch) (Z : State) (y : MethodName) (bc : ByteArray) (ml : Nat) (rt : Option FieldType) (rm : Room) (as : Array Value) (h0 : Heap) (n0 : Nat) (Q : Option Value → Heap → Prop) : Prop :=
  ∀ ws : List Jvm.Cond, MetFree l y (head1 (Jvm.Cond.code y bc ml rt :: ws) rm) (fun a U => a = as ∧ Z.Warmed39 U.vm ∧ U.heap = h0) (fun _ _ _ _ _ => True) (fun _ U o U' => ∃ v L, o = .returned v ∧ (Fr n0 L ∧ Q v U'.heap) ∧ FrameEnd U o U' L rm.cells rm.slots)
variable {p : Program} {l : Launch} {e : Env} {R : Room} {s : State} {m : MethodId} {args : Array Value} {below : List Frame} {meth : Method} {c : Code} {Z : State} {y : MethodName} {bc : ByteArray} {ml : Nat} {rt : Option FieldType} {n0 : Nat} {T0 : State} {g0 : JFrame} {k n : Nat} {h : Heap} {a0 : Array Value} {pc pc' : Nat} {L : Array Slot} {S : List Value}
theorem Rch.step {k' n' : Nat} {h' : Heap} {g g' : JFrame} (r : Rch p l e R s m args below meth c Z y bc ml rt n0 T0 g0 k n h g)
    (f : ∀ T locs, Stand p l e R s m args below meth c T locs k n → T.heap = h → Fr n0 locs → ∃ T' locs', Stand p l e R s m args below meth c T' locs' k' n' ∧ T'.heap = h' ∧ Fr n0 locs' ∧ ∀ target, Steps p.tables e below (T'.setTop g') target → Steps p.tables e below (T.setTop g) target) :
    Rch p l e R s m args below meth c Z y bc ml rt n0 T0 g0 k' n' h' g' := by
  obtain ⟨q, T, locs, X, eT, N, st⟩ := r
  obtain ⟨T', locs', X', eT', N', st'⟩ := f T locs X eT N
  exact ⟨q, T', locs', X', eT', N', fun t z => st t (st' t z)⟩
theorem Rch.pure {g g' : JFrame} (r : Rch p l e R s m args below meth c Z y bc ml rt n0 T0 g0 k n h g)
    (f : ∀ T locs, Stand p l e R s m args below meth c T locs k n → T.heap = h → ∀ target, Steps p.tables e below (T.setTop g') target → Steps p.tables e below (T.setTop g) target) :
    Rch p l e R s m args below meth c Z y bc ml rt n0 T0 g0 k n h g' :=
  r.step fun T locs X eT N => ⟨T, locs, X, eT, N, f T locs X eT⟩
theorem Rch.keep {g g' : JFrame} (r : Rch p l e R s m args below meth c Z y bc ml rt n0 T0 g0 k n h g)
    (f : ∀ T locs, Stand p l e R s m args below meth c T locs k n → T.heap = h → ∃ T', Stand p l e R s m args below meth c T' locs k n ∧ T'.heap = h ∧ ∀ target, Steps p.tables e below (T'.setTop g') target → Steps p.tables e below (T.setTop g) target) :
    Rch p l e R s m args below meth c Z y bc ml rt n0 T0 g0 k n h g' :=
  r.step fun T locs X eT N => by
    obtain ⟨T', X', e', st⟩ := f T locs X eT
    exact ⟨T', locs, X', e', N, st⟩
theorem Rch.widen {g : JFrame} {k' n' : Nat} (r : Rch p l e R s m args below meth c Z y bc ml rt n0 T0 g0 k n h g) (hk : k ≤ k') (hn : n ≤ n') : Rch p l e R s m args below meth c Z y bc ml rt n0 T0 g0 k' n' h g := by
  obtain ⟨q, T, locs, X, eT, N, st⟩ := r
  exact ⟨q, T, locs, ⟨X.admits, X.cas, X.clock, X.frames, X.room, X.hears, X.method, X.code, X.here, X.tail, X.warmed, X.limits, X.bytes, X.same.mono hk hn⟩, eT, N, st⟩
theorem Rch.eqh {g : JFrame} {h' : Heap} (r : Rch p l e R s m args below meth c Z y bc ml rt n0 T0 g0 k n h g) (q : h = h') : Rch p l e R s m args below meth c Z y bc ml rt n0 T0 g0 k n h' g := q ▸ r
theorem Rch.eqg {g g' : JFrame} (r : Rch p l e R s m args below meth c Z y bc ml rt n0 T0 g0 k n h g) (q : g = g') : Rch p l e R s m args below meth c Z y bc ml rt n0 T0 g0 k n h g' := q ▸ r
-- loads and stores
theorem Rch.iloadN (r : Rch p l e R s m args below meth c Z y bc ml rt n0 T0 g0 k n h (mkF m pc L S)) {i : Fin 4} {v : Int32} (hd : decode bc pc = .ok (.iload_n i, 1)) (hl : L[i.val]? = some (.val (.int v))) (hp : pc + 1 = pc') : Rch p l e R s m args below meth c Z y bc ml rt n0 T0 g0 k n h (mkF m pc' L (.int v :: S)) := by
  subst hp; exact r.pure fun T locs X eT t z => XS.iloadN X.here r.1.1 rfl (hb r.1.2.1 hd) hl z
theorem Rch.iload (r : Rch p l e R s m args below meth c Z y bc ml rt n0 T0 g0 k n h (mkF m pc L S)) {i : Nat} {v : Int32} (hd : decode bc pc = .ok (.iload i, 2)) (hl : L[i]? = some (.val (.int v))) (hp : pc + 2 = pc') : Rch p l e R s m args below meth c Z y bc ml rt n0 T0 g0 k n h (mkF m pc' L (.int v :: S)) := by
  subst hp; exact r.pure fun T locs X eT t z => XS.iload X.here r.1.1 rfl (hb r.1.2.1 hd) hl z
theorem Rch.lloadN (r : Rch p l e R s m args below meth c Z y bc ml rt n0 T0 g0 k n h (mkF m pc L S)) {i : Fin 4} {v : Int64} (hd : decode bc pc = .ok (.lload_n i, 1)) (hl : L[i.val]? = some (.val (.long v))) (hp : pc + 1 = pc') : Rch p l e R s m args below meth c Z y bc ml rt n0 T0 g0 k n h (mkF m pc' L (.long v :: S)) := by
  subst hp; exact r.pure fun T locs X eT t z => XS.lloadN X.here r.1.1 rfl (hb r.1.2.1 hd) hl z
theorem Rch.lload (r : Rch p l e R s m args below meth c Z y bc ml rt n0 T0 g0 k n h (mkF m pc L S)) {i : Nat} {v : Int64} (hd : decode bc pc = .ok (.lload i, 2)) (hl : L[i]? = some (.val (.long v))) (hp : pc + 2 = pc') : Rch p l e R s m args below meth c Z y bc ml rt n0 T0 g0 k n h (mkF m pc' L (.long v :: S)) := by
  subst hp; exact r.pure fun T locs X eT t z => XS.lload X.here r.1.1 rfl (hb r.1.2.1 hd) hl z
theorem Rch.aloadN (r : Rch p l e R s m args below meth c Z y bc ml rt n0 T0 g0 k n h (mkF m pc L S)) {i : Fin 4} {v : Value} (hd : decode bc pc = .ok (.aload_n i, 1)) (hl : L[i.val]? = some (.val v)) (hv : v.isRef = true) (hp : pc + 1 = pc') : Rch p l e R s m args below meth c Z y bc ml rt n0 T0 g0 k n h (mkF m pc' L (v :: S)) := by
  subst hp; exact r.pure fun T locs X eT t z => XS.aloadN X.here r.1.1 rfl (hb r.1.2.1 hd) hl hv z
theorem Rch.aload (r : Rch p l e R s m args below meth c Z y bc ml rt n0 T0 g0 k n h (mkF m pc L S)) {i : Nat} {v : Value} (hd : decode bc pc = .ok (.aload i, 2)) (hl : L[i]? = some (.val v)) (hv : v.isRef = true) (hp : pc + 2 = pc') : Rch p l e R s m args below meth c Z y bc ml rt n0 T0 g0 k n h (mkF m pc' L (v :: S)) := by
  subst hp; exact r.pure fun T locs X eT t z => XS.aload X.here r.1.1 rfl (hb r.1.2.1 hd) hl hv z
theorem Rch.istoreN {i : Fin 4} {v : Int32} {L' : Array Slot} (r : Rch p l e R s m args below meth c Z y bc ml rt n0 T0 g0 k n h (mkF m pc L (.int v :: S))) (hd : decode bc pc = .ok (.istore_n i, 1)) (hl : storeLocals L i.val (.int v) = some L') (hp : pc + 1 = pc') : Rch p l e R s m args below meth c Z y bc ml rt n0 T0 g0 k n h (mkF m pc' L' S) := by
  subst hp; exact r.pure fun T locs X eT t z => XS.istoreN X.here r.1.1 rfl (hb r.1.2.1 hd) rfl hl z
theorem Rch.istore {i : Nat} {v : Int32} {L' : Array Slot} (r : Rch p l e R s m args below meth c Z y bc ml rt n0 T0 g0 k n h (mkF m pc L (.int v :: S))) (hd : decode bc pc = .ok (.istore i, 2)) (hl : storeLocals L i (.int v) = some L') (hp : pc + 2 = pc') : Rch p l e R s m args below meth c Z y bc ml rt n0 T0 g0 k n h (mkF m pc' L' S) := by
  subst hp; exact r.pure fun T locs X eT t z => XS.istore X.here r.1.1 rfl (hb r.1.2.1 hd) rfl hl z
theorem Rch.lstoreN {i : Fin 4} {v : Int64} {L' : Array Slot} (r : Rch p l e R s m args below meth c Z y bc ml rt n0 T0 g0 k n h (mkF m pc L (.long v :: S))) (hd : decode bc pc = .ok (.lstore_n i, 1)) (hl : storeLocals L i.val (.long v) = some L') (hp : pc + 1 = pc') : Rch p l e R s m args below meth c Z y bc ml rt n0 T0 g0 k n h (mkF m pc' L' S) := by
  subst hp; exact r.pure fun T locs X eT t z => XS.lstoreN X.here r.1.1 rfl (hb r.1.2.1 hd) rfl hl z
theorem Rch.lstore {i : Nat} {v : Int64} {L' : Array Slot} (r : Rch p l e R s m args below meth c Z y bc ml rt n0 T0 g0 k n h (mkF m pc L (.long v :: S))) (hd : decode bc pc = .ok (.lstore i, 2)) (hl : storeLocals L i (.long v) = some L') (hp : pc + 2 = pc') : Rch p l e R s m args below meth c Z y bc ml rt n0 T0 g0 k n h (mkF m pc' L' S) := by
  subst hp; exact r.pure fun T locs X eT t z => XS.lstore X.here r.1.1 rfl (hb r.1.2.1 hd) rfl hl z
theorem Rch.astoreN {i : Fin 4} {v : Value} {L' : Array Slot} (r : Rch p l e R s m args below meth c Z y bc ml rt n0 T0 g0 k n h (mkF m pc L (v :: S))) (hd : decode bc pc = .ok (.astore_n i, 1)) (hv : v.isRef = true) (hl : storeLocals L i.val v = some L') (hp : pc + 1 = pc') : Rch p l e R s m args below meth c Z y bc ml rt n0 T0 g0 k n h (mkF m pc' L' S) := by
  subst hp; exact r.pure fun T locs X eT t z => XS.astoreN X.here r.1.1 rfl (hb r.1.2.1 hd) rfl hv hl z
theorem Rch.astore {i : Nat} {v : Value} {L' : Array Slot} (r : Rch p l e R s m args below meth c Z y bc ml rt n0 T0 g0 k n h (mkF m pc L (v :: S))) (hd : decode bc pc = .ok (.astore i, 2)) (hv : v.isRef = true) (hl : storeLocals L i v = some L') (hp : pc + 2 = pc') : Rch p l e R s m args below meth c Z y bc ml rt n0 T0 g0 k n h (mkF m pc' L' S) := by
  subst hp; exact r.pure fun T locs X eT t z => XS.astore X.here r.1.1 rfl (hb r.1.2.1 hd) rfl hv hl z
theorem Rch.iinc {i : Nat} {cst : Int} {v u : Int32} {L' : Array Slot} (r : Rch p l e R s m args below meth c Z y bc ml rt n0 T0 g0 k n h (mkF m pc L S)) (w : Int32) (hd : decode bc pc = .ok (.iinc i cst, 3)) (hw : Int32.ofInt cst = w) (hl : L[i]? = some (.val (.int v))) (hu : v + w = u) (hl' : storeLocals L i (.int u) = some L') (hp : pc + 3 = pc') : Rch p l e R s m args below meth c Z y bc ml rt n0 T0 g0 k n h (mkF m pc' L' S) := by
  subst hp hu hw; exact r.pure fun T locs X eT t z => XS.iinc X.here r.1.1 rfl (hb r.1.2.1 hd) hl hl' z
-- constants
theorem Rch.iconst (r : Rch p l e R s m args below meth c Z y bc ml rt n0 T0 g0 k n h (mkF m pc L S)) {i : Int} (w : Int32) (hd : decode bc pc = .ok (.iconst i, 1)) (hw : Int32.ofInt i = w) (hp : pc + 1 = pc') : Rch p l e R s m args below meth c Z y bc ml rt n0 T0 g0 k n h (mkF m pc' L (.int w :: S)) := by
  subst hp hw; exact r.pure fun T locs X eT t z => XS.iconst X.here r.1.1 rfl (hb r.1.2.1 hd) z
theorem Rch.bipush (r : Rch p l e R s m args below meth c Z y bc ml rt n0 T0 g0 k n h (mkF m pc L S)) {i : Int} (w : Int32) (hd : decode bc pc = .ok (.bipush i, 2)) (hw : (Int8.ofInt i).toInt32 = w) (hp : pc + 2 = pc') : Rch p l e R s m args below meth c Z y bc ml rt n0 T0 g0 k n h (mkF m pc' L (.int w :: S)) := by
  subst hp hw; exact r.pure fun T locs X eT t z => XS.bipush X.here r.1.1 rfl (hb r.1.2.1 hd) z
theorem Rch.sipush (r : Rch p l e R s m args below meth c Z y bc ml rt n0 T0 g0 k n h (mkF m pc L S)) {i : Int} (w : Int32) (hd : decode bc pc = .ok (.sipush i, 3)) (hw : (Int16.ofInt i).toInt32 = w) (hp : pc + 3 = pc') : Rch p l e R s m args below meth c Z y bc ml rt n0 T0 g0 k n h (mkF m pc' L (.int w :: S)) := by
  subst hp hw; exact r.pure fun T locs X eT t z => XS.sipush X.here r.1.1 rfl (hb r.1.2.1 hd) z
theorem Rch.lconst (r : Rch p l e R s m args below meth c Z y bc ml rt n0 T0 g0 k n h (mkF m pc L S)) {i : Fin 2} (w : Int64) (hd : decode bc pc = .ok (.lconst i, 1)) (hw : Int64.ofNat i = w) (hp : pc + 1 = pc') : Rch p l e R s m args below meth c Z y bc ml rt n0 T0 g0 k n h (mkF m pc' L (.long w :: S)) := by
  subst hp hw; exact r.pure fun T locs X eT t z => XS.lconst X.here r.1.1 rfl (hb r.1.2.1 hd) z
theorem Rch.anull (r : Rch p l e R s m args below meth c Z y bc ml rt n0 T0 g0 k n h (mkF m pc L S)) (hd : decode bc pc = .ok (.aconst_null, 1)) (hp : pc + 1 = pc') : Rch p l e R s m args below meth c Z y bc ml rt n0 T0 g0 k n h (mkF m pc' L (.null :: S)) := by
  subst hp; exact r.pure fun T locs X eT t z => XS.aconstNull X.here r.1.1 rfl (hb r.1.2.1 hd) z
theorem Rch.ldc (r : Rch p l e R s m args below meth c Z y bc ml rt n0 T0 g0 k n h (mkF m pc L S)) {i : Nat} {w : Int32} (hd : decode bc pc = .ok (.ldc i, 2)) (hc : (Jvm.Cond.constant y.cls i w).before a0 Z = true) (hp : pc + 2 = pc') : Rch p l e R s m args below meth c Z y bc ml rt n0 T0 g0 k n h (mkF m pc' L (.int w :: S)) := by
  subst hp; exact r.pure fun T locs X eT t z => X.ldcInt r.1.1 r.1.2.2.2.1 (mvT r.1.2.2.2.2.1 hc) (g := mkF m pc L S) rfl (hb r.1.2.1 hd) t z
theorem Rch.ldcw (r : Rch p l e R s m args below meth c Z y bc ml rt n0 T0 g0 k n h (mkF m pc L S)) {i : Nat} {w : Int32} (hd : decode bc pc = .ok (.ldc_w i, 3)) (hc : (Jvm.Cond.constant y.cls i w).before a0 Z = true) (hp : pc + 3 = pc') : Rch p l e R s m args below meth c Z y bc ml rt n0 T0 g0 k n h (mkF m pc' L (.int w :: S)) := by
  subst hp; exact r.pure fun T locs X eT t z => X.ldcwInt r.1.1 r.1.2.2.2.1 (mvT r.1.2.2.2.2.1 hc) (g := mkF m pc L S) rfl (hb r.1.2.1 hd) t z
theorem Rch.ldc2 (r : Rch p l e R s m args below meth c Z y bc ml rt n0 T0 g0 k n h (mkF m pc L S)) {i : Nat} {w : Int64} (hd : decode bc pc = .ok (.ldc2_w i, 3)) (hc : (Jvm.Cond.constantLong y.cls i w).before a0 Z = true) (hp : pc + 3 = pc') : Rch p l e R s m args below meth c Z y bc ml rt n0 T0 g0 k n h (mkF m pc' L (.long w :: S)) := by
  subst hp; exact r.pure fun T locs X eT t z => X.ldc2Long r.1.1 r.1.2.2.2.1 (mvT r.1.2.2.2.2.1 hc) (g := mkF m pc L S) rfl (hb r.1.2.1 hd) t z
-- sums and the like
theorem Rch.iadd {a : Int32} {b : Int32} {u : Int32} (r : Rch p l e R s m args below meth c Z y bc ml rt n0 T0 g0 k n h (mkF m pc L (.int b :: .int a :: S))) (hd : decode bc pc = .ok (.iadd, 1)) (hu : a + b = u) (hp : pc + 1 = pc') : Rch p l e R s m args below meth c Z y bc ml rt n0 T0 g0 k n h (mkF m pc' L (.int u :: S)) := by
  subst hp hu; exact r.pure fun T locs X eT t z => XS.iadd X.here r.1.1 rfl (hb r.1.2.1 hd) rfl z
theorem Rch.isub {a : Int32} {b : Int32} {u : Int32} (r : Rch p l e R s m args below meth c Z y bc ml rt n0 T0 g0 k n h (mkF m pc L (.int b :: .int a :: S))) (hd : decode bc pc = .ok (.isub, 1)) (hu : a - b = u) (hp : pc + 1 = pc') : Rch p l e R s m args below meth c Z y bc ml rt n0 T0 g0 k n h (mkF m pc' L (.int u :: S)) := by
  subst hp hu; exact r.pure fun T locs X eT t z => XS.isub X.here r.1.1 rfl (hb r.1.2.1 hd) rfl z
theorem Rch.imul {a : Int32} {b : Int32} {u : Int32} (r : Rch p l e R s m args below meth c Z y bc ml rt n0 T0 g0 k n h (mkF m pc L (.int b :: .int a :: S))) (hd : decode bc pc = .ok (.imul, 1)) (hu : a * b = u) (hp : pc + 1 = pc') : Rch p l e R s m args below meth c Z y bc ml rt n0 T0 g0 k n h (mkF m pc' L (.int u :: S)) := by
  subst hp hu; exact r.pure fun T locs X eT t z => XS.imul X.here r.1.1 rfl (hb r.1.2.1 hd) rfl z
theorem Rch.iand {a : Int32} {b : Int32} {u : Int32} (r : Rch p l e R s m args below meth c Z y bc ml rt n0 T0 g0 k n h (mkF m pc L (.int b :: .int a :: S))) (hd : decode bc pc = .ok (.iand, 1)) (hu : a &&& b = u) (hp : pc + 1 = pc') : Rch p l e R s m args below meth c Z y bc ml rt n0 T0 g0 k n h (mkF m pc' L (.int u :: S)) := by
  subst hp hu; exact r.pure fun T locs X eT t z => XS.iand X.here r.1.1 rfl (hb r.1.2.1 hd) rfl z
theorem Rch.ior {a : Int32} {b : Int32} {u : Int32} (r : Rch p l e R s m args below meth c Z y bc ml rt n0 T0 g0 k n h (mkF m pc L (.int b :: .int a :: S))) (hd : decode bc pc = .ok (.ior, 1)) (hu : a ||| b = u) (hp : pc + 1 = pc') : Rch p l e R s m args below meth c Z y bc ml rt n0 T0 g0 k n h (mkF m pc' L (.int u :: S)) := by
  subst hp hu; exact r.pure fun T locs X eT t z => XS.ior X.here r.1.1 rfl (hb r.1.2.1 hd) rfl z
theorem Rch.ixor {a : Int32} {b : Int32} {u : Int32} (r : Rch p l e R s m args below meth c Z y bc ml rt n0 T0 g0 k n h (mkF m pc L (.int b :: .int a :: S))) (hd : decode bc pc = .ok (.ixor, 1)) (hu : a ^^^ b = u) (hp : pc + 1 = pc') : Rch p l e R s m args below meth c Z y bc ml rt n0 T0 g0 k n h (mkF m pc' L (.int u :: S)) := by
  subst hp hu; exact r.pure fun T locs X eT t z => XS.ixor X.here r.1.1 rfl (hb r.1.2.1 hd) rfl z
theorem Rch.ladd {a : Int64} {b : Int64} {u : Int64} (r : Rch p l e R s m args below meth c Z y bc ml rt n0 T0 g0 k n h (mkF m pc L (.long b :: .long a :: S))) (hd : decode bc pc = .ok (.ladd, 1)) (hu : a + b = u) (hp : pc + 1 = pc') : Rch p l e R s m args below meth c Z y bc ml rt n0 T0 g0 k n h (mkF m pc' L (.long u :: S)) := by
  subst hp hu; exact r.pure fun T locs X eT t z => XS.ladd X.here r.1.1 rfl (hb r.1.2.1 hd) rfl z
theorem Rch.lsub {a : Int64} {b : Int64} {u : Int64} (r : Rch p l e R s m args below meth c Z y bc ml rt n0 T0 g0 k n h (mkF m pc L (.long b :: .long a :: S))) (hd : decode bc pc = .ok (.lsub, 1)) (hu : a - b = u) (hp : pc + 1 = pc') : Rch p l e R s m args below meth c Z y bc ml rt n0 T0 g0 k n h (mkF m pc' L (.long u :: S)) := by
  subst hp hu; exact r.pure fun T locs X eT t z => XS.lsub X.here r.1.1 rfl (hb r.1.2.1 hd) rfl z
theorem Rch.lmul {a : Int64} {b : Int64} {u : Int64} (r : Rch p l e R s m args below meth c Z y bc ml rt n0 T0 g0 k n h (mkF m pc L (.long b :: .long a :: S))) (hd : decode bc pc = .ok (.lmul, 1)) (hu : a * b = u) (hp : pc + 1 = pc') : Rch p l e R s m args below meth c Z y bc ml rt n0 T0 g0 k n h (mkF m pc' L (.long u :: S)) := by
  subst hp hu; exact r.pure fun T locs X eT t z => XS.lmul X.here r.1.1 rfl (hb r.1.2.1 hd) rfl z
theorem Rch.land {a : Int64} {b : Int64} {u : Int64} (r : Rch p l e R s m args below meth c Z y bc ml rt n0 T0 g0 k n h (mkF m pc L (.long b :: .long a :: S))) (hd : decode bc pc = .ok (.land, 1)) (hu : a &&& b = u) (hp : pc + 1 = pc') : Rch p l e R s m args below meth c Z y bc ml rt n0 T0 g0 k n h (mkF m pc' L (.long u :: S)) := by
  subst hp hu; exact r.pure fun T locs X eT t z => XS.land X.here r.1.1 rfl (hb r.1.2.1 hd) rfl z
theorem Rch.lor {a : Int64} {b : Int64} {u : Int64} (r : Rch p l e R s m args below meth c Z y bc ml rt n0 T0 g0 k n h (mkF m pc L (.long b :: .long a :: S))) (hd : decode bc pc = .ok (.lor, 1)) (hu : a ||| b = u) (hp : pc + 1 = pc') : Rch p l e R s m args below meth c Z y bc ml rt n0 T0 g0 k n h (mkF m pc' L (.long u :: S)) := by
  subst hp hu; exact r.pure fun T locs X eT t z => XS.lor X.here r.1.1 rfl (hb r.1.2.1 hd) rfl z
theorem Rch.lxor {a : Int64} {b : Int64} {u : Int64} (r : Rch p l e R s m args below meth c Z y bc ml rt n0 T0 g0 k n h (mkF m pc L (.long b :: .long a :: S))) (hd : decode bc pc = .ok (.lxor, 1)) (hu : a ^^^ b = u) (hp : pc + 1 = pc') : Rch p l e R s m args below meth c Z y bc ml rt n0 T0 g0 k n h (mkF m pc' L (.long u :: S)) := by
  subst hp hu; exact r.pure fun T locs X eT t z => XS.lxor X.here r.1.1 rfl (hb r.1.2.1 hd) rfl z
theorem Rch.ishl {a : Int32} {b : Int32} {u : Int32} (r : Rch p l e R s m args below meth c Z y bc ml rt n0 T0 g0 k n h (mkF m pc L (.int b :: .int a :: S))) (hd : decode bc pc = .ok (.ishl, 1)) (hu : a <<< (b &&& 31) = u) (hp : pc + 1 = pc') : Rch p l e R s m args below meth c Z y bc ml rt n0 T0 g0 k n h (mkF m pc' L (.int u :: S)) := by
  subst hp hu; exact r.pure fun T locs X eT t z => XS.ishl X.here r.1.1 rfl (hb r.1.2.1 hd) rfl z
theorem Rch.ishr {a : Int32} {b : Int32} {u : Int32} (r : Rch p l e R s m args below meth c Z y bc ml rt n0 T0 g0 k n h (mkF m pc L (.int b :: .int a :: S))) (hd : decode bc pc = .ok (.ishr, 1)) (hu : a >>> (b &&& 31) = u) (hp : pc + 1 = pc') : Rch p l e R s m args below meth c Z y bc ml rt n0 T0 g0 k n h (mkF m pc' L (.int u :: S)) := by
  subst hp hu; exact r.pure fun T locs X eT t z => XS.ishr X.here r.1.1 rfl (hb r.1.2.1 hd) rfl z
theorem Rch.iushr {a : Int32} {b : Int32} {u : Int32} (r : Rch p l e R s m args below meth c Z y bc ml rt n0 T0 g0 k n h (mkF m pc L (.int b :: .int a :: S))) (hd : decode bc pc = .ok (.iushr, 1)) (hu : (a.toUInt32 >>> (b &&& 31).toUInt32).toInt32 = u) (hp : pc + 1 = pc') : Rch p l e R s m args below meth c Z y bc ml rt n0 T0 g0 k n h (mkF m pc' L (.int u :: S)) := by
  subst hp hu; exact r.pure fun T locs X eT t z => XS.iushr X.here r.1.1 rfl (hb r.1.2.1 hd) rfl z
theorem Rch.lcmp {a : Int64} {b : Int64} {u : Int32} (r : Rch p l e R s m args below meth c Z y bc ml rt n0 T0 g0 k n h (mkF m pc L (.long b :: .long a :: S))) (hd : decode bc pc = .ok (.lcmp, 1)) (hu : lcmpW a b = u) (hp : pc + 1 = pc') : Rch p l e R s m args below meth c Z y bc ml rt n0 T0 g0 k n h (mkF m pc' L (.int u :: S)) := by
  subst hp hu; exact r.pure fun T locs X eT t z => XS.lcmp X.here r.1.1 rfl (hb r.1.2.1 hd) rfl z
theorem Rch.idiv {a : Int32} {b : Int32} {u : Int32} (r : Rch p l e R s m args below meth c Z y bc ml rt n0 T0 g0 k n h (mkF m pc L (.int b :: .int a :: S))) (hd : decode bc pc = .ok (.idiv, 1)) (h0 : b ≠ 0) (hu : a / b = u) (hp : pc + 1 = pc') : Rch p l e R s m args below meth c Z y bc ml rt n0 T0 g0 k n h (mkF m pc' L (.int u :: S)) := by
  subst hp hu; exact r.pure fun T locs X eT t z => XS.idiv X.here r.1.1 rfl (hb r.1.2.1 hd) rfl h0 z
theorem Rch.irem {a : Int32} {b : Int32} {u : Int32} (r : Rch p l e R s m args below meth c Z y bc ml rt n0 T0 g0 k n h (mkF m pc L (.int b :: .int a :: S))) (hd : decode bc pc = .ok (.irem, 1)) (h0 : b ≠ 0) (hu : a % b = u) (hp : pc + 1 = pc') : Rch p l e R s m args below meth c Z y bc ml rt n0 T0 g0 k n h (mkF m pc' L (.int u :: S)) := by
  subst hp hu; exact r.pure fun T locs X eT t z => iremM X r.1.1 rfl (hb r.1.2.1 hd) rfl h0 z
theorem Rch.ineg {a : Int32} {u : Int32} (r : Rch p l e R s m args below meth c Z y bc ml rt n0 T0 g0 k n h (mkF m pc L (.int a :: S))) (hd : decode bc pc = .ok (.ineg, 1)) (hu : -a = u) (hp : pc + 1 = pc') : Rch p l e R s m args below meth c Z y bc ml rt n0 T0 g0 k n h (mkF m pc' L (.int u :: S)) := by
  subst hp hu; exact r.pure fun T locs X eT t z => XS.ineg X.here r.1.1 rfl (hb r.1.2.1 hd) rfl z
theorem Rch.lneg {a : Int64} {u : Int64} (r : Rch p l e R s m args below meth c Z y bc ml rt n0 T0 g0 k n h (mkF m pc L (.long a :: S))) (hd : decode bc pc = .ok (.lneg, 1)) (hu : -a = u) (hp : pc + 1 = pc') : Rch p l e R s m args below meth c Z y bc ml rt n0 T0 g0 k n h (mkF m pc' L (.long u :: S)) := by
  subst hp hu; exact r.pure fun T locs X eT t z => XS.lneg X.here r.1.1 rfl (hb r.1.2.1 hd) rfl z
theorem Rch.i2l {a : Int32} {u : Int64} (r : Rch p l e R s m args below meth c Z y bc ml rt n0 T0 g0 k n h (mkF m pc L (.int a :: S))) (hd : decode bc pc = .ok (.i2l, 1)) (hu : a.toInt64 = u) (hp : pc + 1 = pc') : Rch p l e R s m args below meth c Z y bc ml rt n0 T0 g0 k n h (mkF m pc' L (.long u :: S)) := by
  subst hp hu; exact r.pure fun T locs X eT t z => XS.i2l X.here r.1.1 rfl (hb r.1.2.1 hd) rfl z
theorem Rch.l2i {a : Int64} {u : Int32} (r : Rch p l e R s m args below meth c Z y bc ml rt n0 T0 g0 k n h (mkF m pc L (.long a :: S))) (hd : decode bc pc = .ok (.l2i, 1)) (hu : a.toInt32 = u) (hp : pc + 1 = pc') : Rch p l e R s m args below meth c Z y bc ml rt n0 T0 g0 k n h (mkF m pc' L (.int u :: S)) := by
  subst hp hu; exact r.pure fun T locs X eT t z => XS.l2i X.here r.1.1 rfl (hb r.1.2.1 hd) rfl z
theorem Rch.i2b {a : Int32} {u : Int32} (r : Rch p l e R s m args below meth c Z y bc ml rt n0 T0 g0 k n h (mkF m pc L (.int a :: S))) (hd : decode bc pc = .ok (.i2b, 1)) (hu : a.toInt8.toInt32 = u) (hp : pc + 1 = pc') : Rch p l e R s m args below meth c Z y bc ml rt n0 T0 g0 k n h (mkF m pc' L (.int u :: S)) := by
  subst hp hu; exact r.pure fun T locs X eT t z => XS.i2b X.here r.1.1 rfl (hb r.1.2.1 hd) rfl z
theorem Rch.i2s {a : Int32} {u : Int32} (r : Rch p l e R s m args below meth c Z y bc ml rt n0 T0 g0 k n h (mkF m pc L (.int a :: S))) (hd : decode bc pc = .ok (.i2s, 1)) (hu : a.toInt16.toInt32 = u) (hp : pc + 1 = pc') : Rch p l e R s m args below meth c Z y bc ml rt n0 T0 g0 k n h (mkF m pc' L (.int u :: S)) := by
  subst hp hu; exact r.pure fun T locs X eT t z => XS.i2s X.here r.1.1 rfl (hb r.1.2.1 hd) rfl z
theorem Rch.i2c {a : Int32} {u : Int32} (r : Rch p l e R s m args below meth c Z y bc ml rt n0 T0 g0 k n h (mkF m pc L (.int a :: S))) (hd : decode bc pc = .ok (.i2c, 1)) (hu : a.toUInt32.toUInt16.toUInt32.toInt32 = u) (hp : pc + 1 = pc') : Rch p l e R s m args below meth c Z y bc ml rt n0 T0 g0 k n h (mkF m pc' L (.int u :: S)) := by
  subst hp hu; exact r.pure fun T locs X eT t z => XS.i2c X.here r.1.1 rfl (hb r.1.2.1 hd) rfl z
theorem Rch.lshl {a : Int64} {b : Int32} {u : Int64} (r : Rch p l e R s m args below meth c Z y bc ml rt n0 T0 g0 k n h (mkF m pc L (.int b :: .long a :: S))) (hd : decode bc pc = .ok (.lshl, 1)) (hu : a <<< (b &&& 0x3f).toInt64 = u) (hp : pc + 1 = pc') : Rch p l e R s m args below meth c Z y bc ml rt n0 T0 g0 k n h (mkF m pc' L (.long u :: S)) := by
  subst hp hu; exact r.pure fun T locs X eT t z => XS.lshl X.here r.1.1 rfl (hb r.1.2.1 hd) rfl z
theorem Rch.lshr {a : Int64} {b : Int32} {u : Int64} (r : Rch p l e R s m args below meth c Z y bc ml rt n0 T0 g0 k n h (mkF m pc L (.int b :: .long a :: S))) (hd : decode bc pc = .ok (.lshr, 1)) (hu : a >>> (b &&& 0x3f).toInt64 = u) (hp : pc + 1 = pc') : Rch p l e R s m args below meth c Z y bc ml rt n0 T0 g0 k n h (mkF m pc' L (.long u :: S)) := by
  subst hp hu; exact r.pure fun T locs X eT t z => XS.lshr X.here r.1.1 rfl (hb r.1.2.1 hd) rfl z
theorem Rch.lushr {a : Int64} {b : Int32} {u : Int64} (r : Rch p l e R s m args below meth c Z y bc ml rt n0 T0 g0 k n h (mkF m pc L (.int b :: .long a :: S))) (hd : decode bc pc = .ok (.lushr, 1)) (hu : (a.toUInt64 >>> (b &&& 0x3f).toInt64.toUInt64).toInt64 = u) (hp : pc + 1 = pc') : Rch p l e R s m args below meth c Z y bc ml rt n0 T0 g0 k n h (mkF m pc' L (.long u :: S)) := by
  subst hp hu; exact r.pure fun T locs X eT t z => XS.lushr X.here r.1.1 rfl (hb r.1.2.1 hd) rfl z
theorem Rch.dup {v : Value} (r : Rch p l e R s m args below meth c Z y bc ml rt n0 T0 g0 k n h (mkF m pc L (v :: S))) (hd : decode bc pc = .ok (.dup, 1)) (hv : v.category = 1) (hp : pc + 1 = pc') : Rch p l e R s m args below meth c Z y bc ml rt n0 T0 g0 k n h (mkF m pc' L (v :: v :: S)) := by
  subst hp; exact r.pure fun T locs X eT t z => XS.dup X.here r.1.1 rfl (hb r.1.2.1 hd) rfl hv z
theorem Rch.dupx1 {v w : Value} (r : Rch p l e R s m args below meth c Z y bc ml rt n0 T0 g0 k n h (mkF m pc L (v :: w :: S))) (hd : decode bc pc = .ok (.dup_x1, 1)) (hv : v.category = 1) (hw : w.category = 1) (hp : pc + 1 = pc') : Rch p l e R s m args below meth c Z y bc ml rt n0 T0 g0 k n h (mkF m pc' L (v :: w :: v :: S)) := by
  subst hp; exact r.pure fun T locs X eT t z => XS.dupX1 X.here r.1.1 rfl (hb r.1.2.1 hd) rfl hv hw z
theorem Rch.dup2 {v w : Value} (r : Rch p l e R s m args below meth c Z y bc ml rt n0 T0 g0 k n h (mkF m pc L (v :: w :: S))) (hd : decode bc pc = .ok (.dup2, 1)) (hv : v.category = 1) (hw : w.category = 1) (hp : pc + 1 = pc') : Rch p l e R s m args below meth c Z y bc ml rt n0 T0 g0 k n h (mkF m pc' L (v :: w :: v :: w :: S)) := by
  subst hp
  refine r.pure fun T locs X eT t z => ?_
  have hx := r.1.1
  have hd' := hb r.1.2.1 hd
  jvm_step X.here [X.here.top, hx, hd', hv, hw]
  exact z
theorem Rch.dupx2 {v w u : Value} (r : Rch p l e R s m args below meth c Z y bc ml rt n0 T0 g0 k n h (mkF m pc L (v :: w :: u :: S))) (hd : decode bc pc = .ok (.dup_x2, 1)) (hv : v.category = 1) (hw : w.category = 1) (hu : u.category = 1) (hp : pc + 1 = pc') : Rch p l e R s m args below meth c Z y bc ml rt n0 T0 g0 k n h (mkF m pc' L (v :: w :: u :: v :: S)) := by
  subst hp
  refine r.pure fun T locs X eT t z => ?_
  have hx := r.1.1
  have hd' := hb r.1.2.1 hd
  jvm_step X.here [X.here.top, hx, hd', hv, hw, hu]
  exact z
theorem Rch.pop {v : Value} (r : Rch p l e R s m args below meth c Z y bc ml rt n0 T0 g0 k n h (mkF m pc L (v :: S))) (hd : decode bc pc = .ok (.pop, 1)) (hv : v.category = 1) (hp : pc + 1 = pc') : Rch p l e R s m args below meth c Z y bc ml rt n0 T0 g0 k n h (mkF m pc' L S) := by
  subst hp; exact r.pure fun T locs X eT t z => XS.pop X.here r.1.1 rfl (hb r.1.2.1 hd) rfl hv z
-- branches
theorem Rch.goto {o : Int} (r : Rch p l e R s m args below meth c Z y bc ml rt n0 T0 g0 k n h (mkF m pc L S)) (hd : decode bc pc = .ok (.goto o, 3)) (ho : 0 ≤ (pc : Int) + o) (hp : ((pc : Int) + o).toNat = pc') : Rch p l e R s m args below meth c Z y bc ml rt n0 T0 g0 k n h (mkF m pc' L S) :=
  r.pure fun T locs X eT t z => XS.goto X.here r.1.1 rfl (pc0 := pc) rfl (hb r.1.2.1 hd) ho hp z
theorem Rch.icT {cd : ClassFile.Cond} {x w : Int32} {o : Int} (r : Rch p l e R s m args below meth c Z y bc ml rt n0 T0 g0 k n h (mkF m pc L (.int w :: .int x :: S))) (hd : decode bc pc = .ok (.if_icmp cd o, 3)) (hc : if_icmp.holds cd x w = true) (ho : 0 ≤ (pc : Int) + o) (hp : ((pc : Int) + o).toNat = pc') : Rch p l e R s m args below meth c Z y bc ml rt n0 T0 g0 k n h (mkF m pc' L S) :=
  r.pure fun T locs X eT t z => XS.icmpYes X.here r.1.1 rfl (pc0 := pc) rfl (hb r.1.2.1 hd) rfl hc ho hp z
theorem Rch.icF {cd : ClassFile.Cond} {x w : Int32} {o : Int} (r : Rch p l e R s m args below meth c Z y bc ml rt n0 T0 g0 k n h (mkF m pc L (.int w :: .int x :: S))) (hd : decode bc pc = .ok (.if_icmp cd o, 3)) (hc : if_icmp.holds cd x w = false) (hp : pc + 3 = pc') : Rch p l e R s m args below meth c Z y bc ml rt n0 T0 g0 k n h (mkF m pc' L S) := by
  subst hp; exact r.pure fun T locs X eT t z => XS.icmpNo X.here r.1.1 rfl (hb r.1.2.1 hd) rfl hc z
theorem Rch.ifT {cd : ClassFile.Cond} {x : Int32} {o : Int} (r : Rch p l e R s m args below meth c Z y bc ml rt n0 T0 g0 k n h (mkF m pc L (.int x :: S))) (hd : decode bc pc = .ok (.ifCond cd o, 3)) (hc : if_icmp.holds cd x 0 = true) (ho : 0 ≤ (pc : Int) + o) (hp : ((pc : Int) + o).toNat = pc') : Rch p l e R s m args below meth c Z y bc ml rt n0 T0 g0 k n h (mkF m pc' L S) :=
  r.pure fun T locs X eT t z => XS.ifYes X.here r.1.1 rfl (pc0 := pc) rfl (hb r.1.2.1 hd) rfl ((if0 _ _).trans hc) ho hp z
theorem Rch.ifF {cd : ClassFile.Cond} {x : Int32} {o : Int} (r : Rch p l e R s m args below meth c Z y bc ml rt n0 T0 g0 k n h (mkF m pc L (.int x :: S))) (hd : decode bc pc = .ok (.ifCond cd o, 3)) (hc : if_icmp.holds cd x 0 = false) (hp : pc + 3 = pc') : Rch p l e R s m args below meth c Z y bc ml rt n0 T0 g0 k n h (mkF m pc' L S) := by
  subst hp; exact r.pure fun T locs X eT t z => XS.ifNo X.here r.1.1 rfl (hb r.1.2.1 hd) rfl ((if0 _ _).trans hc) z
theorem Rch.acmp {cd : ACond} {v w : Value} {o : Int} {same : Bool} (r : Rch p l e R s m args below meth c Z y bc ml rt n0 T0 g0 k n h (mkF m pc L (w :: v :: S))) (hd : decode bc pc = .ok (.if_acmp cd o, 3)) (hv : v.isRef = true) (hw : w.isRef = true) (hq : decide (v = w) = same) (ho : 0 ≤ (pc : Int) + o) (hp : pc' = if acV cd same = true then ((pc : Int) + o).toNat else pc + 3) : Rch p l e R s m args below meth c Z y bc ml rt n0 T0 g0 k n h (mkF m pc' L S) :=
  r.pure fun T locs X eT t z => Jvm.RoadKit.acmp X r.1.1 rfl hv hw (pc0 := pc) rfl (hb r.1.2.1 hd) rfl hq ho hp z
theorem Rch.nullT {o : Int} (r : Rch p l e R s m args below meth c Z y bc ml rt n0 T0 g0 k n h (mkF m pc L (.null :: S))) (hd : decode bc pc = .ok (.ifnull o, 3)) (ho : 0 ≤ (pc : Int) + o) (hp : ((pc : Int) + o).toNat = pc') : Rch p l e R s m args below meth c Z y bc ml rt n0 T0 g0 k n h (mkF m pc' L S) :=
  r.pure fun T locs X eT t z => XS.ifnullYes X.here r.1.1 rfl (pc0 := pc) rfl (hb r.1.2.1 hd) rfl ho hp z
theorem Rch.nullF {a : Addr} {o : Int} (r : Rch p l e R s m args below meth c Z y bc ml rt n0 T0 g0 k n h (mkF m pc L (.ref a :: S))) (hd : decode bc pc = .ok (.ifnull o, 3)) (hp : pc + 3 = pc') : Rch p l e R s m args below meth c Z y bc ml rt n0 T0 g0 k n h (mkF m pc' L S) := by
  subst hp; exact r.pure fun T locs X eT t z => XS.ifnullNo X.here r.1.1 rfl (hb r.1.2.1 hd) rfl z
theorem Rch.nnT {a : Addr} {o : Int} (r : Rch p l e R s m args below meth c Z y bc ml rt n0 T0 g0 k n h (mkF m pc L (.ref a :: S))) (hd : decode bc pc = .ok (.ifnonnull o, 3)) (ho : 0 ≤ (pc : Int) + o) (hp : ((pc : Int) + o).toNat = pc') : Rch p l e R s m args below meth c Z y bc ml rt n0 T0 g0 k n h (mkF m pc' L S) :=
  r.pure fun T locs X eT t z => XS.ifnonnullYes X.here r.1.1 rfl (pc0 := pc) rfl (hb r.1.2.1 hd) rfl ho hp z
theorem Rch.nnF {o : Int} (r : Rch p l e R s m args below meth c Z y bc ml rt n0 T0 g0 k n h (mkF m pc L (.null :: S))) (hd : decode bc pc = .ok (.ifnonnull o, 3)) (hp : pc + 3 = pc') : Rch p l e R s m args below meth c Z y bc ml rt n0 T0 g0 k n h (mkF m pc' L S) := by
  subst hp; exact r.pure fun T locs X eT t z => XS.ifnonnullNo X.here r.1.1 rfl (hb r.1.2.1 hd) rfl z
-- fields
theorem Rch.getF {R0 O nm d host : String} {idx : Nat} {a : Addr} {v : Value} (r : Rch p l e R s m args below meth c Z y bc ml rt n0 T0 g0 k n h (mkF m pc L (.ref a :: S))) (hd : decode bc pc = .ok (.getfield idx, 3)) (w : (Jvm.Cond.fieldLink y.cls idx R0 nm d).before a0 Z = true ∨ (Jvm.Cond.fieldLinkNest y.cls idx R0 nm d host).before a0 Z = true) (via : Via Z R0 O nm d) (F : Fld Z h a O nm d v) (hp : pc + 3 = pc') :
    Rch p l e R s m args below meth c Z y bc ml rt n0 T0 g0 k n h (mkF m pc' L (v :: S)) := by
  subst hp; exact r.keep fun T locs X eT => getF X r.1.1 r.1.2.2.2.2.1 r.1.2.2.2.1 w via eT F (g := mkF m pc L (.ref a :: S)) rfl rfl (hb r.1.2.1 hd)
theorem Rch.getS {R0 O nm d host : String} {idx : Nat} {v : Value} (r : Rch p l e R s m args below meth c Z y bc ml rt n0 T0 g0 k n h (mkF m pc L S)) (hd : decode bc pc = .ok (.getstatic idx, 3)) (w : (Jvm.Cond.fieldLink y.cls idx R0 nm d).before a0 Z = true ∨ (Jvm.Cond.fieldLinkNest y.cls idx R0 nm d host).before a0 Z = true) (via : Via Z R0 O nm d) (F : Sta Z h O nm d v) (hp : pc + 3 = pc') :
    Rch p l e R s m args below meth c Z y bc ml rt n0 T0 g0 k n h (mkF m pc' L (v :: S)) := by
  subst hp; exact r.keep fun T locs X eT => getS2 X r.1.1 r.1.2.2.2.2.1 r.1.2.2.2.1 w via eT F (g := mkF m pc L S) rfl (hb r.1.2.1 hd)
theorem Rch.putF {R0 O nm d host C : String} {idx kk : Nat} {ty : FieldType} {a : Addr} {v old : Value} (r : Rch p l e R s m args below meth c Z y bc ml rt n0 T0 g0 k n h (mkF m pc L (v :: .ref a :: S))) (hd : decode bc pc = .ok (.putfield idx, 3)) (w : (Jvm.Cond.fieldLink y.cls idx R0 nm d).before a0 Z = true ∨ (Jvm.Cond.fieldLinkNest y.cls idx R0 nm d host).before a0 Z = true) (via : Via Z R0 O nm d) (F : Fld Z h a O nm d old) (E : Exa Z h a C)
    (lw : (Jvm.Cond.lays C O nm d).before a0 Z = true ∨ ((Jvm.Cond.laysFinal C O nm d).before a0 Z = true ∧ y.cls = O ∧ y.name = "<init>")) (wi : (Jvm.Cond.instantiable C kk).before a0 Z = true) (hty : parseFieldDescriptor d = some ty) (hn : narrow ty v = v) (hf : fits ty v = true) (hN : n0 ≤ a) (hp : pc + 3 = pc') :
    ∃ h', Wr h h' a (Jvm.RoadKit.slotOf Z O nm d) v ∧ Rch p l e R s m args below meth c Z y bc ml rt n0 T0 g0 k n h' (mkF m pc' L S) := by
  subst hp
  obtain ⟨q, T, locs, X, eT, N, st⟩ := r
  obtain ⟨T', h', X', e', W, st'⟩ := putF X q.1 q.2.2.2.2.1 q.2.2.2.1 w via eT F E (lw.imp id fun z => ⟨z.1, z.2.1, q.2.2.2.2.2.2.2.trans z.2.2⟩) wi hty hn hf (g := mkF m pc L (v :: .ref a :: S)) rfl rfl (hb q.2.1 hd)
  exact ⟨h', W, q, T', _, X', e', Fr.snoc X' N hN, fun t z => st t (st' t z)⟩
theorem Rch.putFN {R0 O nm d C : String} {idx kk : Nat} {ty : FieldType} {a : Addr} {v v' old : Value} (r : Rch p l e R s m args below meth c Z y bc ml rt n0 T0 g0 k n h (mkF m pc L (v :: .ref a :: S))) (hd : decode bc pc = .ok (.putfield idx, 3)) (w : (Jvm.Cond.fieldLink y.cls idx R0 nm d).before a0 Z = true) (via : Via Z R0 O nm d) (F : Fld Z h a O nm d old) (E : Exa Z h a C)
    (lw : (Jvm.Cond.lays C O nm d).before a0 Z = true ∨ ((Jvm.Cond.laysFinal C O nm d).before a0 Z = true ∧ y.cls = O ∧ y.name = "<init>")) (wi : (Jvm.Cond.instantiable C kk).before a0 Z = true) (hty : parseFieldDescriptor d = some ty) (hn : narrow ty v = v') (hf : fits ty v' = true) (hN : n0 ≤ a) (hp : pc + 3 = pc') :
    ∃ h', Wr h h' a (Jvm.RoadKit.slotOf Z O nm d) v' ∧ Rch p l e R s m args below meth c Z y bc ml rt n0 T0 g0 k n h' (mkF m pc' L S) := by
  subst hp
  obtain ⟨q, T, locs, X, eT, N, st⟩ := r
  obtain ⟨T', h', X', e', W, st'⟩ := putFN X q.1 q.2.2.2.2.1 q.2.2.2.1 w via eT F E (lw.imp id fun z => ⟨z.1, z.2.1, q.2.2.2.2.2.2.2.trans z.2.2⟩) wi hty hn hf (g := mkF m pc L (v :: .ref a :: S)) rfl rfl (hb q.2.1 hd)
  exact ⟨h', W, q, T', _, X', e', Fr.snoc X' N hN, fun t z => st t (st' t z)⟩
-- objects and arrays
theorem Rch.newO {C : String} {idx i : Nat} (r : Rch p l e R s m args below meth c Z y bc ml rt n0 T0 g0 k n h (mkF m pc L S)) (hd : decode bc pc = .ok (.new idx, 3)) (w : (Jvm.Cond.classLink y.cls idx C).before a0 Z = true) (wi : (Jvm.Cond.instantiable C i).before a0 Z = true) (wz : (Jvm.Cond.initialized C).before a0 Z = true) {k' n' : Nat} (hk : k + 1 = k') (hn' : n + i = n') (hc : k' ≤ R.cells) (hl : n' ≤ R.slots) (hp : pc + 3 = pc') :
    ∃ h' a, a = h.size ∧ Ext h h' ∧ Exa Z h' a C ∧ (∀ {O nm d : String} {ty : FieldType}, Laid Z a0 C O nm d → parseFieldDescriptor d = some ty → Fld Z h' a O nm d (defaultValue ty)) ∧ Rch p l e R s m args below meth c Z y bc ml rt n0 T0 g0 k' n' h' (mkF m pc' L (.ref a :: S)) := by
  subst hp hk hn'
  obtain ⟨q, T, locs, X, eT, N, st⟩ := r
  obtain ⟨T', h', X', e', E, A, D, -, st'⟩ := newO X q.1 q.2.2.2.2.1 q.2.2.2.1 w wi wz eT (g := mkF m pc L S) rfl (hb q.2.1 hd) hc hl
  exact ⟨h', h.size, rfl, E, A, D, q, T', locs, X', e', N, fun t z => st t (st' t z)⟩
theorem Rch.newP {aty : ArrayType} {i : Int32} (r : Rch p l e R s m args below meth c Z y bc ml rt n0 T0 g0 k n h (mkF m pc L (.int i :: S))) (hd : decode bc pc = .ok (.newarray aty, 2)) (w : (Jvm.Cond.arrayClass (newarray.typeOf aty)).before a0 Z = true) (hn : ¬ i < 0) {cap : Nat} (hcap : i.toNatClampNeg ≤ cap) (hbg : cap * 8 ≤ 536870912) {k' n' : Nat} (hk : k + 1 = k') (hn' : n + cap = n') (hc : k' ≤ R.cells) (hl : n' ≤ R.slots) (hp : pc + 2 = pc') :
    ∃ h' a cA, a = h.size ∧ Ext h h' ∧ Arv Z h' a cA (newarray.typeOf aty) i [] (defaultValue (newarray.typeOf aty)) ∧ Rch p l e R s m args below meth c Z y bc ml rt n0 T0 g0 k' n' h' (mkF m pc' L (.ref a :: S)) := by
  subst hp hk hn'
  obtain ⟨q, T, locs, X, eT, N, st⟩ := r
  obtain ⟨T', h', cA, X', e', E, A, st'⟩ := newP X q.1 q.2.2.2.2.1 w eT (g := mkF m pc L (.int i :: S)) rfl (hb q.2.1 hd) rfl hn hcap hbg hc hl
  exact ⟨h', h.size, cA, rfl, E, Arv.new A hn, q, T', locs, X', e', N, fun t z => st t (st' t z)⟩
theorem Rch.newR {C : String} {idx : Nat} {i : Int32} (r : Rch p l e R s m args below meth c Z y bc ml rt n0 T0 g0 k n h (mkF m pc L (.int i :: S))) (hd : decode bc pc = .ok (.anewarray idx, 3)) (w1 : (Jvm.Cond.classLink y.cls idx C).before a0 Z = true) (w2 : (Jvm.Cond.arrayOver (.object C)).before a0 Z = true) (hn : ¬ i < 0) {cap : Nat} (hcap : i.toNatClampNeg ≤ cap) (hbg : cap * 8 ≤ 536870912) {k' n' : Nat} (hk : k + 1 = k') (hn' : n + cap = n') (hc : k' ≤ R.cells) (hl : n' ≤ R.slots) (hp : pc + 3 = pc') :
    ∃ h' a cA, a = h.size ∧ Ext h h' ∧ Ovr Z cA C ∧ Arv Z h' a cA (.object C) i [] .null ∧ Rch p l e R s m args below meth c Z y bc ml rt n0 T0 g0 k' n' h' (mkF m pc' L (.ref a :: S)) := by
  subst hp hk hn'
  obtain ⟨q, T, locs, X, eT, N, st⟩ := r
  obtain ⟨T', h', cA, X', e', E, A, O, st'⟩ := newR X q.1 q.2.2.2.2.1 q.2.2.2.1 w1 w2 eT (g := mkF m pc L (.int i :: S)) rfl (hb q.2.1 hd) rfl hn hcap hbg hc hl
  exact ⟨h', h.size, cA, rfl, E, O, Arv.new A hn, q, T', locs, X', e', N, fun t z => st t (st' t z)⟩
theorem inbI {c : Cell} {z j : Int32} (S : c.slots.size = z.toNatClampNeg) (h1 : ¬ j < 0) (h2 : j < z) : ¬ (j < 0 ∨ c.slots.size ≤ j.toNatClampNeg) := inb_of S ⟨h1, h2⟩
theorem Rch.stI {a : Addr} {kc : ClassId} {z j : Int32} {x : Int32} {vs : List Value} {dv : Value} (r : Rch p l e R s m args below meth c Z y bc ml rt n0 T0 g0 k n h (mkF m pc L (.int x :: .int j :: .ref a :: S))) (hd : decode bc pc = .ok (.iastore, 1)) (V : Arv Z h a kc .int z vs dv) (h1 : ¬ j < 0) (h2 : j < z) (h3 : j.toNatClampNeg < vs.length) (hN : n0 ≤ a) (hp : pc + 1 = pc') :
    ∃ h', Wr h h' a j.toNatClampNeg (.int x) ∧ Arv Z h' a kc .int z (vs.set j.toNatClampNeg (.int x)) dv ∧ Rch p l e R s m args below meth c Z y bc ml rt n0 T0 g0 k n h' (mkF m pc' L S) := by
  subst hp
  obtain ⟨q, T, locs, X, eT, N, st⟩ := r
  obtain ⟨cl, A, q1, S1, q3, H, G⟩ := V
  obtain ⟨T', h', X', e', W, st'⟩ := stI X q.1 q.2.2.2.2.1 eT A (j := j) (inbI S1 h1 h2) (g := mkF m pc L (.int x :: .int j :: .ref a :: S)) rfl rfl (hb q.2.1 hd)
  exact ⟨h', W, Arv.set A q1 S1 q3 H G rfl W _ rfl h3, q, T', _, X', e', Fr.snoc X' N hN, fun t z => st t (st' t z)⟩
theorem Rch.stB {a : Addr} {kc : ClassId} {z j : Int32} {x : Int32} {vs : List Value} {dv : Value} (r : Rch p l e R s m args below meth c Z y bc ml rt n0 T0 g0 k n h (mkF m pc L (.int x :: .int j :: .ref a :: S))) (hd : decode bc pc = .ok (.bastore, 1)) (V : Arv Z h a kc .byte z vs dv) (h1 : ¬ j < 0) (h2 : j < z) (h3 : j.toNatClampNeg < vs.length) (hN : n0 ≤ a) (hp : pc + 1 = pc') :
    ∃ h', Wr h h' a j.toNatClampNeg (.int (nar .byte x)) ∧ Arv Z h' a kc .byte z (vs.set j.toNatClampNeg (.int (nar .byte x))) dv ∧ Rch p l e R s m args below meth c Z y bc ml rt n0 T0 g0 k n h' (mkF m pc' L S) := by
  subst hp
  obtain ⟨q, T, locs, X, eT, N, st⟩ := r
  obtain ⟨cl, A, q1, S1, q3, H, G⟩ := V
  obtain ⟨T', h', X', e', W, st'⟩ := stB X q.1 q.2.2.2.2.1 eT A (j := j) (inbI S1 h1 h2) (g := mkF m pc L (.int x :: .int j :: .ref a :: S)) rfl rfl (hb q.2.1 hd)
  exact ⟨h', W, Arv.set A q1 S1 q3 H G (fits_nar_byte _) W _ rfl h3, q, T', _, X', e', Fr.snoc X' N hN, fun t z => st t (st' t z)⟩
theorem Rch.stC {a : Addr} {kc : ClassId} {z j : Int32} {x : Int32} {vs : List Value} {dv : Value} (r : Rch p l e R s m args below meth c Z y bc ml rt n0 T0 g0 k n h (mkF m pc L (.int x :: .int j :: .ref a :: S))) (hd : decode bc pc = .ok (.castore, 1)) (V : Arv Z h a kc .char z vs dv) (h1 : ¬ j < 0) (h2 : j < z) (h3 : j.toNatClampNeg < vs.length) (hN : n0 ≤ a) (hp : pc + 1 = pc') :
    ∃ h', Wr h h' a j.toNatClampNeg (.int (nar .char x)) ∧ Arv Z h' a kc .char z (vs.set j.toNatClampNeg (.int (nar .char x))) dv ∧ Rch p l e R s m args below meth c Z y bc ml rt n0 T0 g0 k n h' (mkF m pc' L S) := by
  subst hp
  obtain ⟨q, T, locs, X, eT, N, st⟩ := r
  obtain ⟨cl, A, q1, S1, q3, H, G⟩ := V
  obtain ⟨T', h', X', e', W, st'⟩ := stC X q.1 q.2.2.2.2.1 eT A (j := j) (inbI S1 h1 h2) (g := mkF m pc L (.int x :: .int j :: .ref a :: S)) rfl rfl (hb q.2.1 hd)
  exact ⟨h', W, Arv.set A q1 S1 q3 H G (fits_nar_char _) W _ rfl h3, q, T', _, X', e', Fr.snoc X' N hN, fun t z => st t (st' t z)⟩
theorem Rch.stZ {a : Addr} {kc : ClassId} {z j : Int32} {x : Int32} {vs : List Value} {dv : Value} (r : Rch p l e R s m args below meth c Z y bc ml rt n0 T0 g0 k n h (mkF m pc L (.int x :: .int j :: .ref a :: S))) (hd : decode bc pc = .ok (.bastore, 1)) (V : Arv Z h a kc .boolean z vs dv) (h1 : ¬ j < 0) (h2 : j < z) (h3 : j.toNatClampNeg < vs.length) (hN : n0 ≤ a) (hp : pc + 1 = pc') :
    ∃ h', Wr h h' a j.toNatClampNeg (.int (nar .boolean x)) ∧ Arv Z h' a kc .boolean z (vs.set j.toNatClampNeg (.int (nar .boolean x))) dv ∧ Rch p l e R s m args below meth c Z y bc ml rt n0 T0 g0 k n h' (mkF m pc' L S) := by
  subst hp
  obtain ⟨q, T, locs, X, eT, N, st⟩ := r
  obtain ⟨cl, A, q1, S1, q3, H, G⟩ := V
  obtain ⟨T', h', X', e', W, st'⟩ := stZ X q.1 q.2.2.2.2.1 eT A (j := j) (inbI S1 h1 h2) (g := mkF m pc L (.int x :: .int j :: .ref a :: S)) rfl rfl (hb q.2.1 hd)
  exact ⟨h', W, Arv.set A q1 S1 q3 H G (fits_nar_bool _) W _ rfl h3, q, T', _, X', e', Fr.snoc X' N hN, fun t z => st t (st' t z)⟩
theorem Rch.stJ {a : Addr} {kc : ClassId} {z j : Int32} {x : Int64} {vs : List Value} {dv : Value} (r : Rch p l e R s m args below meth c Z y bc ml rt n0 T0 g0 k n h (mkF m pc L (.long x :: .int j :: .ref a :: S))) (hd : decode bc pc = .ok (.lastore, 1)) (V : Arv Z h a kc .long z vs dv) (h1 : ¬ j < 0) (h2 : j < z) (h3 : j.toNatClampNeg < vs.length) (hN : n0 ≤ a) (hp : pc + 1 = pc') :
    ∃ h', Wr h h' a j.toNatClampNeg (.long x) ∧ Arv Z h' a kc .long z (vs.set j.toNatClampNeg (.long x)) dv ∧ Rch p l e R s m args below meth c Z y bc ml rt n0 T0 g0 k n h' (mkF m pc' L S) := by
  subst hp
  obtain ⟨q, T, locs, X, eT, N, st⟩ := r
  obtain ⟨cl, A, q1, S1, q3, H, G⟩ := V
  obtain ⟨T', h', X', e', W, st'⟩ := stJ X q.1 q.2.2.2.2.1 eT A (j := j) (inbI S1 h1 h2) (g := mkF m pc L (.long x :: .int j :: .ref a :: S)) rfl rfl (hb q.2.1 hd)
  exact ⟨h', W, Arv.set A q1 S1 q3 H G rfl W _ rfl h3, q, T', _, X', e', Fr.snoc X' N hN, fun t z => st t (st' t z)⟩
theorem Rch.stR {C : String} {a : Addr} {kc : ClassId} {z j : Int32} {v : Value} {vs : List Value} {dv : Value} (r : Rch p l e R s m args below meth c Z y bc ml rt n0 T0 g0 k n h (mkF m pc L (v :: .int j :: .ref a :: S))) (hd : decode bc pc = .ok (.aastore, 1)) (V : Arv Z h a kc (.object C) z vs dv) (h1 : ¬ j < 0) (h2 : j < z) (h3 : j.toNatClampNeg < vs.length) (hs : Sto Z h a v) (hv : v.isRef = true) (hN : n0 ≤ a) (hp : pc + 1 = pc') :
    ∃ h', Wr h h' a j.toNatClampNeg v ∧ Arv Z h' a kc (.object C) z (vs.set j.toNatClampNeg v) dv ∧ Rch p l e R s m args below meth c Z y bc ml rt n0 T0 g0 k n h' (mkF m pc' L S) := by
  subst hp
  obtain ⟨q, T, locs, X, eT, N, st⟩ := r
  obtain ⟨cl, A, q1, S1, q3, H, G⟩ := V
  obtain ⟨T', h', X', e', W, st'⟩ := stR X q.1 q.2.2.2.2.1 eT A (j := j) (inbI S1 h1 h2) rfl hs (g := mkF m pc L (v :: .int j :: .ref a :: S)) rfl rfl (hb q.2.1 hd)
  have hf : fits (.object C) v = true := by cases v <;> first | rfl | (cases hv; done)
  exact ⟨h', W, Arv.set A q1 S1 q3 H G hf W _ rfl h3, q, T', _, X', e', Fr.snoc X' N hN, fun t z => st t (st' t z)⟩
theorem Rch.ldI {a : Addr} {kc : ClassId} {z j : Int32} {vs : List Value} {dv : Value} (v : Value) (r : Rch p l e R s m args below meth c Z y bc ml rt n0 T0 g0 k n h (mkF m pc L (.int j :: .ref a :: S))) (hd : decode bc pc = .ok (.iaload, 1)) (V : Arv Z h a kc .int z vs dv) (h1 : ¬ j < 0) (h2 : j < z) (hv : vs.getD j.toNatClampNeg dv = v) (hp : pc + 1 = pc') :
    Rch p l e R s m args below meth c Z y bc ml rt n0 T0 g0 k n h (mkF m pc' L (v :: S)) := by
  subst hp
  obtain ⟨cl, A, q1, S1, q3, H, G⟩ := V
  exact r.pure fun T locs X eT t w => X.iaload r.1.1 (j := j) (v := v) (by rw [eT]; exact A.1) (State.isArrayOf_alike r.1.2.2.2.2.1.alike A.2.1) A.2.2 (inbI S1 h1 h2) (Has.at H (inbI S1 h1 h2) hv) (g := mkF m pc L (.int j :: .ref a :: S)) rfl rfl (hb r.1.2.1 hd) _ w
theorem Rch.ldJ {a : Addr} {kc : ClassId} {z j : Int32} {vs : List Value} {dv : Value} (v : Value) (r : Rch p l e R s m args below meth c Z y bc ml rt n0 T0 g0 k n h (mkF m pc L (.int j :: .ref a :: S))) (hd : decode bc pc = .ok (.laload, 1)) (V : Arv Z h a kc .long z vs dv) (h1 : ¬ j < 0) (h2 : j < z) (hv : vs.getD j.toNatClampNeg dv = v) (hp : pc + 1 = pc') :
    Rch p l e R s m args below meth c Z y bc ml rt n0 T0 g0 k n h (mkF m pc' L (v :: S)) := by
  subst hp
  obtain ⟨cl, A, q1, S1, q3, H, G⟩ := V
  exact r.pure fun T locs X eT t w => X.laload r.1.1 (j := j) (v := v) (by rw [eT]; exact A.1) (State.isArrayOf_alike r.1.2.2.2.2.1.alike A.2.1) A.2.2 (inbI S1 h1 h2) (Has.at H (inbI S1 h1 h2) hv) (g := mkF m pc L (.int j :: .ref a :: S)) rfl rfl (hb r.1.2.1 hd) _ w
theorem Rch.ldB {a : Addr} {kc : ClassId} {z j : Int32} {vs : List Value} {dv : Value} (v : Value) (r : Rch p l e R s m args below meth c Z y bc ml rt n0 T0 g0 k n h (mkF m pc L (.int j :: .ref a :: S))) (hd : decode bc pc = .ok (.baload, 1)) (V : Arv Z h a kc .byte z vs dv) (h1 : ¬ j < 0) (h2 : j < z) (hv : vs.getD j.toNatClampNeg dv = v) (hp : pc + 1 = pc') :
    Rch p l e R s m args below meth c Z y bc ml rt n0 T0 g0 k n h (mkF m pc' L (v :: S)) := by
  subst hp
  obtain ⟨cl, A, q1, S1, q3, H, G⟩ := V
  exact r.pure fun T locs X eT t w => X.baloadBytes r.1.1 (j := j) (v := v) (by rw [eT]; exact A.1) (State.isArrayOf_alike r.1.2.2.2.2.1.alike A.2.1) A.2.2 (inbI S1 h1 h2) (Has.at H (inbI S1 h1 h2) hv) (g := mkF m pc L (.int j :: .ref a :: S)) rfl rfl (hb r.1.2.1 hd) _ w
theorem Rch.ldC {a : Addr} {kc : ClassId} {z j : Int32} {vs : List Value} {dv : Value} (v : Value) (r : Rch p l e R s m args below meth c Z y bc ml rt n0 T0 g0 k n h (mkF m pc L (.int j :: .ref a :: S))) (hd : decode bc pc = .ok (.caload, 1)) (V : Arv Z h a kc .char z vs dv) (h1 : ¬ j < 0) (h2 : j < z) (hv : vs.getD j.toNatClampNeg dv = v) (hp : pc + 1 = pc') :
    Rch p l e R s m args below meth c Z y bc ml rt n0 T0 g0 k n h (mkF m pc' L (v :: S)) := by
  subst hp
  obtain ⟨cl, A, q1, S1, q3, H, G⟩ := V
  exact r.pure fun T locs X eT t w => X.caload r.1.1 (j := j) (v := v) (by rw [eT]; exact A.1) (State.isArrayOf_alike r.1.2.2.2.2.1.alike A.2.1) A.2.2 (inbI S1 h1 h2) (Has.at H (inbI S1 h1 h2) hv) (g := mkF m pc L (.int j :: .ref a :: S)) rfl rfl (hb r.1.2.1 hd) _ w
theorem Rch.ldR {ty : FieldType} {a : Addr} {kc : ClassId} {z j : Int32} {vs : List Value} {dv : Value} (v : Value) (r : Rch p l e R s m args below meth c Z y bc ml rt n0 T0 g0 k n h (mkF m pc L (.int j :: .ref a :: S))) (hd : decode bc pc = .ok (.aaload, 1)) (V : Arv Z h a kc ty z vs dv) (hty : ty.isReference = true) (h1 : ¬ j < 0) (h2 : j < z) (hv : vs.getD j.toNatClampNeg dv = v) (hp : pc + 1 = pc') :
    Rch p l e R s m args below meth c Z y bc ml rt n0 T0 g0 k n h (mkF m pc' L (v :: S)) := by
  subst hp
  obtain ⟨cl, A, q1, S1, q3, H, G⟩ := V
  exact r.pure fun T locs X eT t w => X.aaload r.1.1 (j := j) (v := v) (by rw [eT]; exact A.1) (State.isArrayOf_alike r.1.2.2.2.2.1.alike A.2.1) hty A.2.2 (inbI S1 h1 h2) (Has.at H (inbI S1 h1 h2) hv) (g := mkF m pc L (.int j :: .ref a :: S)) rfl rfl (hb r.1.2.1 hd) _ w
theorem Rch.ldI0 {a : Addr} {kc : ClassId} {z j : Int32} {vs : List Value} {dv : Value} (r : Rch p l e R s m args below meth c Z y bc ml rt n0 T0 g0 k n h (mkF m pc L (.int j :: .ref a :: S))) (hd : decode bc pc = .ok (.iaload, 1)) (V : Arv Z h a kc .int z vs dv) (h1 : ¬ j < 0) (h2 : j < z) (hp : pc + 1 = pc') :
    ∃ x : Int32, vs.getD j.toNatClampNeg dv = .int x ∧ Rch p l e R s m args below meth c Z y bc ml rt n0 T0 g0 k n h (mkF m pc' L (.int x :: S)) := by
  have V0 := V
  obtain ⟨cl, A, q1, S1, q3, H, G⟩ := V0
  have hlt := Nat.lt_of_not_le fun q => inbI S1 h1 h2 (Or.inr q)
  obtain ⟨x, hx⟩ := fit_I (G _ hlt) (Or.inl rfl)
  exact ⟨x, hx, Rch.ldI (.int x) r hd V h1 h2 hx hp⟩
theorem Rch.stI0 {a : Addr} {kc : ClassId} {z j x : Int32} {vs : List Value} {dv : Value} (r : Rch p l e R s m args below meth c Z y bc ml rt n0 T0 g0 k n h (mkF m pc L (.int x :: .int j :: .ref a :: S))) (hd : decode bc pc = .ok (.iastore, 1)) (V : Arv Z h a kc .int z vs dv) (h1 : ¬ j < 0) (h2 : j < z) (hN : n0 ≤ a) (hp : pc + 1 = pc') :
    ∃ h' vs', Wr h h' a j.toNatClampNeg (.int x) ∧ Arv Z h' a kc .int z vs' dv ∧ Rch p l e R s m args below meth c Z y bc ml rt n0 T0 g0 k n h' (mkF m pc' L S) := by
  obtain ⟨h', W, V', r'⟩ := Rch.stI r hd (V.pad (pad_rep vs dv (j.toNatClampNeg + 1))) h1 h2 (by simp; omega) hN hp
  exact ⟨h', _, W, V', r'⟩
theorem Rch.alen {ty : FieldType} {a : Addr} {kc : ClassId} {z : Int32} {vs : List Value} {dv : Value} (r : Rch p l e R s m args below meth c Z y bc ml rt n0 T0 g0 k n h (mkF m pc L (.ref a :: S))) (hd : decode bc pc = .ok (.arraylength, 1)) (V : Arv Z h a kc ty z vs dv) (hp : pc + 1 = pc') :
    Rch p l e R s m args below meth c Z y bc ml rt n0 T0 g0 k n h (mkF m pc' L (.int z :: S)) := by
  subst hp
  obtain ⟨cl, A, -, S1, S2, -, -⟩ := V
  refine r.pure fun T locs X eT t w => X.arraylength r.1.1 (by rw [eT]; exact A.1) (State.isArrayOf_alike r.1.2.2.2.2.1.alike A.2.1) (g := mkF m pc L (.ref a :: S)) rfl rfl (hb r.1.2.1 hd) _ ?_
  rw [len_of S1 S2]
  exact w
-- returns
theorem Rch.retZ {z : Int32} {t : FieldType} (r : Rch p l e R s m args below meth c Z y bc ml rt n0 T0 g0 k n h (mkF m pc L (.int z :: S))) (hd : decode bc pc = .ok (.ireturn, 1)) (hrt : rt = some t) (ht : t = .boolean ∨ t = .byte ∨ t = .char ∨ t = .short) (w : Int32) (hw : nar t z = w) (hk : k ≤ R.cells) (hn : n ≤ R.slots) : Don p l e R s m args below meth c rt n0 T0 g0 (some (.int w)) h := by
  subst hw
  obtain ⟨q, T, locs, X, eT, N, st⟩ := r
  refine ⟨T, locs, k, n, X, hk, hn, eT, N, q.2.2.2.2.2.2.1, (fun z => ?_), fun fs hl => st _ (retN X q.1 (t := t) (q.2.2.2.2.2.1.trans hrt) ht (hb q.2.1 hd) hl)⟩
  rw [q.2.2.2.2.2.1, hrt] at z; cases z
theorem Rch.retI {z : Int32} (r : Rch p l e R s m args below meth c Z y bc ml rt n0 T0 g0 k n h (mkF m pc L (.int z :: S))) (hd : decode bc pc = .ok (.ireturn, 1)) (hrt : rt = some .int) (hk : k ≤ R.cells) (hn : n ≤ R.slots) : Don p l e R s m args below meth c rt n0 T0 g0 (some (.int z)) h := by
  obtain ⟨q, T, locs, X, eT, N, st⟩ := r
  refine ⟨T, locs, k, n, X, hk, hn, eT, N, q.2.2.2.2.2.2.1, (fun z => ?_), fun fs hl => st _ (retOut X q.1 (t := .int) (q.2.2.2.2.2.1.trans hrt) rfl (Or.inl ⟨rfl, Or.inl rfl, _, rfl⟩) (hb q.2.1 hd) hl)⟩
  rw [q.2.2.2.2.2.1, hrt] at z; cases z
theorem Rch.retJ {z : Int64} (r : Rch p l e R s m args below meth c Z y bc ml rt n0 T0 g0 k n h (mkF m pc L (.long z :: S))) (hd : decode bc pc = .ok (.lreturn, 1)) (hrt : rt = some .long) (hk : k ≤ R.cells) (hn : n ≤ R.slots) : Don p l e R s m args below meth c rt n0 T0 g0 (some (.long z)) h := by
  obtain ⟨q, T, locs, X, eT, N, st⟩ := r
  refine ⟨T, locs, k, n, X, hk, hn, eT, N, q.2.2.2.2.2.2.1, (fun z => ?_), fun fs hl => st _ (retOut X q.1 (t := .long) (q.2.2.2.2.2.1.trans hrt) rfl (Or.inr (Or.inl ⟨rfl, rfl, _, rfl⟩)) (hb q.2.1 hd) hl)⟩
  rw [q.2.2.2.2.2.1, hrt] at z; cases z
theorem Rch.retA {v : Value} {t : FieldType} (r : Rch p l e R s m args below meth c Z y bc ml rt n0 T0 g0 k n h (mkF m pc L (v :: S))) (hd : decode bc pc = .ok (.areturn, 1)) (hrt : rt = some t) (ht : t.isReference = true) (hv : v.isRef = true) (hk : k ≤ R.cells) (hn : n ≤ R.slots) : Don p l e R s m args below meth c rt n0 T0 g0 (some v) h := by
  obtain ⟨q, T, locs, X, eT, N, st⟩ := r
  have hnar : narrow t v = v := by cases v <;> first | (cases hv; done) | (cases t <;> rfl)
  refine ⟨T, locs, k, n, X, hk, hn, eT, N, q.2.2.2.2.2.2.1, (fun z => ?_), fun fs hl => st _ (retOut X q.1 (t := t) (q.2.2.2.2.2.1.trans hrt) hnar (Or.inr (Or.inr (Or.inr (Or.inr ⟨rfl, ht, hv⟩)))) (hb q.2.1 hd) hl)⟩
  rw [q.2.2.2.2.2.1, hrt] at z; cases z
theorem Rch.retV (r : Rch p l e R s m args below meth c Z y bc ml rt n0 T0 g0 k n h (mkF m pc L [])) (hd : decode bc pc = .ok (.return_, 1)) (hrt : rt = none) (hk : k ≤ R.cells) (hn : n ≤ R.slots) : Don p l e R s m args below meth c rt n0 T0 g0 none h := by
  obtain ⟨q, T, locs, X, eT, N, st⟩ := r
  exact ⟨T, locs, k, n, X, hk, hn, eT, N, q.2.2.2.2.2.2.1, fun _ => rfl, fun fs hl => st _ (X.returnOut q.1 (q.2.2.2.2.2.1.trans hrt) (hb q.2.1 hd) hl)⟩
-- entering a body
theorem ent {rm : Room} {as : Array Value} {h0 : Heap} {Q : Option Value → Heap → Prop} {L0 : Array Slot} (hpl : plainFor y = true) (hL : ∀ m, entryFrame m as ml = mkF m 0 L0 [])
    (H : ∀ p e s m below meth c T0, Rch p l e rm s m as below meth c Z y bc ml rt n0 T0 (mkF m 0 L0 []) 0 0 h0 (mkF m 0 L0 []) → ∃ v h, Don p l e rm s m as below meth c rt n0 T0 (mkF m 0 L0 []) v h ∧ Q v h) : Ctr l Z y bc ml rt rm as h0 n0 Q := by
  intro ws
  refine MetFree.of_bodySF hpl hisR ?_
  intro p e s m args below meth c s₁ Bd hml0 hP hK
  obtain ⟨rfl, hZ, hh⟩ := hP
  have hown : s.vm.findClass y.cls = some m.cls := findClass_of_methodNamed Bd.named
  have hnm := (name_of_methodNamed Bd.named Bd.method).1
  have X0 : Stand p l e rm s m args below meth c s₁ [] 0 0 := Stand.of_body Bd
  have e0 : s₁.heap = h0 := by rw [← hh, Bd.state]; rfl
  obtain ⟨v, h, ⟨T, locs, k, n, X, hk, hn, eT, N, hlk, hv, st⟩, hq⟩ := H p e s m below meth c s₁ ⟨⟨Bd.exec, Bd.bytes, hml0, hown, hZ, Bd.returns, Bd.notSynchronized, hnm⟩, s₁, [], X0, e0, Fr.nil n0, fun _ z => z⟩
  obtain ⟨fs, hr, hrun, hended, hW, hsame⟩ := X.leave (v := v) hv hlk
  refine ⟨_, _, castTop (hL m) (st fs hr), hrun, hended, v, locs, rfl, ⟨N, ?_⟩, ⟨_, rfl⟩, hW, hsame.mono hk hn⟩
  show Q v T.heap
  rw [eT]; exact hq
-- calls
theorem Rch.callS {z : MethodName} {bc' : ByteArray} {ml' : Nat} {rt' : Option FieldType} {rm : Room} {idx : Nat} {ps : List FieldType} {ro : Option FieldType} {Q : Option Value → Heap → Prop} (argsL : List Value) {rest : List Value} (W : Nat)
    (r : Rch p l e R s m args below meth c Z y bc ml rt n0 T0 g0 k n h (mkF m pc L S)) (hd : decode bc pc = .ok (.invokestatic idx, 3)) (w1 : (Jvm.Cond.methodLink y.cls idx z).before a0 Z = true) (w2 : (Jvm.Cond.static z).before a0 Z = true) (w3 : (Jvm.Cond.initialized z.cls).before a0 Z = true) (w4 : (Jvm.Cond.code z bc' ml' rt').before a0 Z = true)
    (hy : z.cls ≠ "java/lang/invoke/MethodHandle" ∧ z.cls ≠ "java/lang/invoke/VarHandle") (C : Ctr l Z z bc' ml' rt' rm argsL.toArray h n0 Q) (pd : parseMethodDescriptor z.desc = some ⟨ps, ro⟩) (hlen : argsL.length = ps.length) (hS : S = argsL.reverse ++ rest) (hml : L.size = ml)
    (hW : (rest.map fun v => v.category).sum ≤ W) (hf : rm.frames + 1 ≤ R.frames) (hlo : W + (ml' + 11) + rm.locals ≤ R.locals) {k' n' : Nat} (hk : k + rm.cells = k') (hn' : n + rm.slots = n') (hc : k' ≤ R.cells) (hl : n' ≤ R.slots) (hp : pc + 3 = pc') :
    ∃ v h', Q v h' ∧ Rch p l e R s m args below meth c Z y bc ml rt n0 T0 g0 k' n' h' (mkF m pc' L (v.toList ++ rest)) := by
  subst hp hS hk hn'
  obtain ⟨q, T, locs, X, eT, N, st⟩ := r
  obtain ⟨v, _, ⟨T', L', kk', nn'⟩, -, X', ⟨Lc, hQ, l1, y1, z1⟩, st'⟩ := Jvm.LawKit.callS X q.1 (y := z) q.2.2.2.1 (mvT q.2.2.2.2.1 w1) (mvT q.2.2.2.2.1 w2) (mvT q.2.2.2.2.1 w3) (mvT q.2.2.2.2.1 w4) hy (backOf (W := W) (Q := fun v h L => Fr n0 L ∧ Q v h) (C []) q.2.2.2.2.1 w4 w3 hf hlo) (g := mkF m pc L (argsL.reverse ++ rest)) rfl (by rw [q.2.2.1]; exact hml) (argsL := argsL) (rest := rest) (lenOf pd hlen) rfl (by simpa using hW) (hb q.2.1 hd) (fun _ _ => ⟨rfl, eT, hc, hl⟩)
  dsimp only [Pt.U, Pt.locs, Pt.cells, Pt.slots] at X' l1 y1 z1 st' hQ
  subst l1 y1 z1
  exact ⟨v, T'.heap, hQ.2, q, T', _, X', rfl, N.app hQ.1, fun t u => st t (st' t u)⟩
theorem Rch.callC {z : MethodName} {bc' : ByteArray} {ml' : Nat} {rm : Room} {idx : Nat} {ps : List FieldType} {ro : Option FieldType} {Q : Option Value → Heap → Prop} {a : Addr} (argsL : List Value) {rest : List Value} (W : Nat)
    (r : Rch p l e R s m args below meth c Z y bc ml rt n0 T0 g0 k n h (mkF m pc L S)) (hd : decode bc pc = .ok (.invokespecial idx, 3)) (hi : z.name = "<init>") (w1 : (Jvm.Cond.methodLink y.cls idx z).before a0 Z = true) (w2 : (Jvm.Cond.instanceMethod z).before a0 Z = true) (w3 : (Jvm.Cond.initialized z.cls).before a0 Z = true) (w4 : (Jvm.Cond.code z bc' ml' none).before a0 Z = true)
    (hy : z.cls ≠ "java/lang/invoke/MethodHandle" ∧ z.cls ≠ "java/lang/invoke/VarHandle") (C : Ctr l Z z bc' ml' none rm (.ref a :: argsL).toArray h n0 Q) (pd : parseMethodDescriptor z.desc = some ⟨ps, ro⟩) (hlen : argsL.length = ps.length) (hS : S = argsL.reverse ++ .ref a :: rest) (hml : L.size = ml)
    (hW : (rest.map fun v => v.category).sum ≤ W) (hf : rm.frames + 1 ≤ R.frames) (hlo : W + (ml' + 11) + rm.locals ≤ R.locals) {k' n' : Nat} (hk : k + rm.cells = k') (hn' : n + rm.slots = n') (hc : k' ≤ R.cells) (hl : n' ≤ R.slots) (hp : pc + 3 = pc') :
    ∃ v h', Q v h' ∧ Rch p l e R s m args below meth c Z y bc ml rt n0 T0 g0 k' n' h' (mkF m pc' L (v.toList ++ rest)) := by
  subst hp hS hk hn'
  obtain ⟨q, T, locs, X, eT, N, st⟩ := r
  obtain ⟨v, _, ⟨T', L', kk', nn'⟩, -, X', ⟨Lc, hQ, l1, y1, z1⟩, st'⟩ := X.specialBack q.1 (y := z) hi q.2.2.2.1 (mvT q.2.2.2.2.1 w1) (mvT q.2.2.2.2.1 w2) (mvT q.2.2.2.2.1 w4) hy (backOf (W := W) (Q := fun v h L => Fr n0 L ∧ Q v h) (C []) q.2.2.2.2.1 w4 w3 hf hlo) (g := mkF m pc L (argsL.reverse ++ .ref a :: rest)) rfl (by rw [q.2.2.1]; exact hml) (Steps.refl _) (a := a) (argsL := argsL) (rest := rest) (lenOf pd hlen) rfl (by simpa using hW) (hb q.2.1 hd) (fun _ _ => ⟨rfl, eT, hc, hl⟩)
  dsimp only [Pt.U, Pt.locs, Pt.cells, Pt.slots] at X' l1 y1 z1 st' hQ
  subst l1 y1 z1
  exact ⟨v, T'.heap, hQ.2, q, T', _, X', rfl, N.app hQ.1, fun t u => st t (st'.trans u)⟩
theorem Rch.callV {z z' : MethodName} {K : String} {bc' : ByteArray} {ml' : Nat} {rt' : Option FieldType} {rm : Room} {idx : Nat} {ps : List FieldType} {ro : Option FieldType} {Q : Option Value → Heap → Prop} {a : Addr} (argsL : List Value) {rest : List Value} (W : Nat)
    (r : Rch p l e R s m args below meth c Z y bc ml rt n0 T0 g0 k n h (mkF m pc L S)) (hd : decode bc pc = .ok (.invokevirtual idx, 3)) (w1 : (Jvm.Cond.methodLink y.cls idx z).before a0 Z = true) (w2 : (Jvm.Cond.declares z).before a0 Z = true) (nf : NotFace s z) (w5 : (Jvm.Cond.selects K z z').before a0 Z = true) (w6 : (Jvm.Cond.instanceMethod z').before a0 Z = true) (w3 : (Jvm.Cond.initialized z'.cls).before a0 Z = true) (w4 : (Jvm.Cond.code z' bc' ml' rt').before a0 Z = true)
    (hy : z.cls ≠ "java/lang/invoke/MethodHandle" ∧ z.cls ≠ "java/lang/invoke/VarHandle") (C : Ctr l Z z' bc' ml' rt' rm (.ref a :: argsL).toArray h n0 Q) (E : Exa Z h a K) (pd : parseMethodDescriptor z.desc = some ⟨ps, ro⟩) (hlen : argsL.length = ps.length) (hS : S = argsL.reverse ++ .ref a :: rest) (hml : L.size = ml)
    (hW : (rest.map fun v => v.category).sum ≤ W) (hf : rm.frames + 1 ≤ R.frames) (hlo : W + (ml' + 11) + rm.locals ≤ R.locals) {k' n' : Nat} (hk : k + rm.cells = k') (hn' : n + rm.slots = n') (hc : k' ≤ R.cells) (hl : n' ≤ R.slots) (hp : pc + 3 = pc') :
    ∃ v h', Q v h' ∧ Rch p l e R s m args below meth c Z y bc ml rt n0 T0 g0 k' n' h' (mkF m pc' L (v.toList ++ rest)) := by
  subst hp hS hk hn'
  obtain ⟨q, T, locs, X, eT, N, st⟩ := r
  obtain ⟨cq, kq, qa, qb, qc⟩ := isOf q.2.2.2.2.1 eT E
  obtain ⟨v, _, ⟨T', L', kk', nn'⟩, -, X', ⟨Lc, hQ, l1, y1, z1⟩, st'⟩ := X.virtualBack q.1 (y := z) (z := z') q.2.2.2.1 (mvT q.2.2.2.2.1 w1) (mvT q.2.2.2.2.1 w2) nf (mvT q.2.2.2.2.1 w5) (mvT q.2.2.2.2.1 w6) hy (backOf (W := W) (Q := fun v h L => Fr n0 L ∧ Q v h) (C []) q.2.2.2.2.1 w4 w3 hf hlo) qa qc (g := mkF m pc L (argsL.reverse ++ .ref a :: rest)) rfl (by rw [q.2.2.1]; exact hml) (Steps.refl _) (argsL := argsL) (rest := rest) (lenOf pd hlen) rfl (by simpa using hW) (hb q.2.1 hd) (fun _ _ => ⟨rfl, eT, hc, hl⟩)
  dsimp only [Pt.U, Pt.locs, Pt.cells, Pt.slots] at X' l1 y1 z1 st' hQ
  subst l1 y1 z1
  exact ⟨v, T'.heap, hQ.2, q, T', _, X', rfl, N.app hQ.1, fun t u => st t (st'.trans u)⟩
theorem Rch.nface {z z' : MethodName} {K : String} {g : JFrame} (r : Rch p l e R s m args below meth c Z y bc ml rt n0 T0 g0 k n h g) (w : (Jvm.Cond.selects K z z').before a0 Z = true) (hq : z = z') : NotFace s z := by
  subst hq; exact notFace_of_selects (args := #[]) (mvT r.1.2.2.2.2.1 w)
theorem Rch.initO {idx : Nat} {a : Addr} (W : Nat) (r : Rch p l e R s m args below meth c Z y bc ml rt n0 T0 g0 k n h (mkF m pc L (.ref a :: S))) (hd : decode bc pc = .ok (.invokespecial idx, 3)) (w1 : (Jvm.Cond.methodLink y.cls idx Lib.objectInit).before a0 Z = true) (w2 : (Jvm.Cond.instanceMethod Lib.objectInit).before a0 Z = true) (w3 : (Jvm.Cond.code Lib.objectInit ⟨#[0xb1]⟩ 1 none).before a0 Z = true) (hml : L.size = ml)
    (hf : 1 ≤ R.frames) (hW : (S.map fun v => v.category).sum ≤ W) (hl : W + 12 ≤ R.locals) (hp : pc + 3 = pc') : Rch p l e R s m args below meth c Z y bc ml rt n0 T0 g0 k n h (mkF m pc' L S) := by
  subst hp
  exact r.keep fun T locs X eT => initO X r.1.1 r.1.2.2.2.2.1 r.1.2.2.2.1 w1 w2 w3 eT (g := mkF m pc L (.ref a :: S)) rfl (by rw [r.1.2.2.1]; exact hml) rfl (hb r.1.2.1 hd) hf (W := W) (by simpa using hW) hl
end OwnLayer

/-- an XML character -/
abbrev okc (c : Int) : Prop := c = 9 ∨ c = 10 ∨ c = 13 ∨ (32 ≤ c ∧ c ≤ 55295) ∨ (57344 ≤ c ∧ c ≤ 65533) ∨ (65536 ≤ c ∧ c ≤ 1114111)
theorem pn_com_example_polypody_polypody_name_XmlSyntax : plainName "com/example/polypody/polypody/name/XmlSyntax" = true := by first | (simp [plainName, overriddenIn]; done) | decide +kernel
theorem d1_0 : decode prog_80_method_10_code 0 = .ok (.iload_n 0, 1) := by decide +kernel
theorem d1_1 : decode prog_80_method_10_code 1 = .ok (.bipush 9, 2) := by decide +kernel
theorem d1_3 : decode prog_80_method_10_code 3 = .ok (.if_icmp .eq 51, 3) := by decide +kernel
theorem d1_54 : decode prog_80_method_10_code 54 = .ok (.iconst 1, 1) := by decide +kernel
theorem d1_55 : decode prog_80_method_10_code 55 = .ok (.goto 4, 3) := by decide +kernel
theorem d1_59 : decode prog_80_method_10_code 59 = .ok (.ireturn, 1) := by decide +kernel
theorem d1_6 : decode prog_80_method_10_code 6 = .ok (.iload_n 0, 1) := by decide +kernel
theorem d1_7 : decode prog_80_method_10_code 7 = .ok (.bipush 10, 2) := by decide +kernel
theorem d1_9 : decode prog_80_method_10_code 9 = .ok (.if_icmp .eq 45, 3) := by decide +kernel
theorem d1_12 : decode prog_80_method_10_code 12 = .ok (.iload_n 0, 1) := by decide +kernel
theorem d1_13 : decode prog_80_method_10_code 13 = .ok (.bipush 13, 2) := by decide +kernel
theorem d1_15 : decode prog_80_method_10_code 15 = .ok (.if_icmp .eq 39, 3) := by decide +kernel
theorem d1_18 : decode prog_80_method_10_code 18 = .ok (.iload_n 0, 1) := by decide +kernel
theorem d1_19 : decode prog_80_method_10_code 19 = .ok (.bipush 32, 2) := by decide +kernel
theorem d1_21 : decode prog_80_method_10_code 21 = .ok (.if_icmp .lt 9, 3) := by decide +kernel
theorem d1_30 : decode prog_80_method_10_code 30 = .ok (.iload_n 0, 1) := by decide +kernel
theorem d1_31 : decode prog_80_method_10_code 31 = .ok (.ldc 72, 2) := by decide +kernel
theorem d1_33 : decode prog_80_method_10_code 33 = .ok (.if_icmp .lt 9, 3) := by decide +kernel
theorem d1_42 : decode prog_80_method_10_code 42 = .ok (.iload_n 0, 1) := by decide +kernel
theorem d1_43 : decode prog_80_method_10_code 43 = .ok (.ldc 74, 2) := by decide +kernel
theorem d1_45 : decode prog_80_method_10_code 45 = .ok (.if_icmp .lt 13, 3) := by decide +kernel
theorem d1_58 : decode prog_80_method_10_code 58 = .ok (.iconst 0, 1) := by decide +kernel
theorem d1_48 : decode prog_80_method_10_code 48 = .ok (.iload_n 0, 1) := by decide +kernel
theorem d1_49 : decode prog_80_method_10_code 49 = .ok (.ldc 75, 2) := by decide +kernel
theorem d1_51 : decode prog_80_method_10_code 51 = .ok (.if_icmp .gt 7, 3) := by decide +kernel
theorem d1_36 : decode prog_80_method_10_code 36 = .ok (.iload_n 0, 1) := by decide +kernel
theorem d1_37 : decode prog_80_method_10_code 37 = .ok (.ldc 73, 2) := by decide +kernel
theorem d1_39 : decode prog_80_method_10_code 39 = .ok (.if_icmp .le 15, 3) := by decide +kernel
theorem d1_24 : decode prog_80_method_10_code 24 = .ok (.iload_n 0, 1) := by decide +kernel
theorem d1_25 : decode prog_80_method_10_code 25 = .ok (.ldc 71, 2) := by decide +kernel
theorem d1_27 : decode prog_80_method_10_code 27 = .ok (.if_icmp .le 27, 3) := by decide +kernel
set_option maxRecDepth 65536 in
set_option maxHeartbeats 40000000 in
theorem c1 (l : Launch) (Z : State) (a0 : Array Value) (hw : ∀ d ∈ tables_1, d.before a0 Z = true) (x0 : Int32) (h0 : Heap) (n0 : Nat) :
    Ctr l Z (⟨"com/example/polypody/polypody/name/XmlSyntax", "isChar", "(I)Z"⟩ : MethodName) prog_80_method_10_code 1 (some .boolean) ({ frames := 0, cells := 0, slots := 0, locals := 0 } : Room) #[(.int x0)] h0 n0 (fun v h => v = some (.int (if okc x0.toInt then (1 : Int32) else (0 : Int32))) ∧ h0 = h) := by
  refine ent (plainFor_of_name pn_com_example_polypody_polypody_name_XmlSyntax) (L0 := #[.val (.int x0)]) (fun m => by first | (simp [entryFrame, mkF, argsToLocals, Value.category]; done) | rfl) ?_
  intro p e s m below meth c T0 r0
  have r1 := r0.iloadN (pc' := 1) d1_0 rfl rfl
  have r2 := r1.bipush (pc' := 3) (9 : Int32) d1_1 rfl rfl
  by_cases hc3 : x0 = (9 : Int32)
  · -- yes
    have r4 := r2.icT (pc' := 54) d1_3 (teq hc3).1 (by decide) (by decide)
    have r5 := r4.iconst (pc' := 55) (1 : Int32) d1_54 rfl rfl
    have r6 := r5.goto (pc' := 59) d1_55 (by decide) (by decide)
    have hP : okc x0.toInt := by
      simp only [Int32.lt_iff_toInt_lt, ← Int32.toInt_inj, Int32.reduceToInt] at hc3
      simp only [okc]; omega
    rw [if_pos hP]
    exact ⟨_, _, r6.retZ d1_59 rfl (t := .boolean) (by simp) (1 : Int32) rfl (by decide) (by decide), ⟨rfl, rfl⟩⟩
  · -- not no
    have r7 := r2.icF (pc' := 6) d1_3 (feq hc3).1 rfl
    have r8 := r7.iloadN (pc' := 7) d1_6 rfl rfl
    have r9 := r8.bipush (pc' := 9) (10 : Int32) d1_7 rfl rfl
    by_cases hc10 : x0 = (10 : Int32)
    · -- yes
      have r11 := r9.icT (pc' := 54) d1_9 (teq hc10).1 (by decide) (by decide)
      have r12 := r11.iconst (pc' := 55) (1 : Int32) d1_54 rfl rfl
      have r13 := r12.goto (pc' := 59) d1_55 (by decide) (by decide)
      have hP : okc x0.toInt := by
        simp only [Int32.lt_iff_toInt_lt, ← Int32.toInt_inj, Int32.reduceToInt] at hc3 hc10
        simp only [okc]; omega
      rw [if_pos hP]
      exact ⟨_, _, r13.retZ d1_59 rfl (t := .boolean) (by simp) (1 : Int32) rfl (by decide) (by decide), ⟨rfl, rfl⟩⟩
    · -- not no
      have r14 := r9.icF (pc' := 12) d1_9 (feq hc10).1 rfl
      have r15 := r14.iloadN (pc' := 13) d1_12 rfl rfl
      have r16 := r15.bipush (pc' := 15) (13 : Int32) d1_13 rfl rfl
      by_cases hc17 : x0 = (13 : Int32)
      · -- yes
        have r18 := r16.icT (pc' := 54) d1_15 (teq hc17).1 (by decide) (by decide)
        have r19 := r18.iconst (pc' := 55) (1 : Int32) d1_54 rfl rfl
        have r20 := r19.goto (pc' := 59) d1_55 (by decide) (by decide)
        have hP : okc x0.toInt := by
          simp only [Int32.lt_iff_toInt_lt, ← Int32.toInt_inj, Int32.reduceToInt] at hc3 hc10 hc17
          simp only [okc]; omega
        rw [if_pos hP]
        exact ⟨_, _, r20.retZ d1_59 rfl (t := .boolean) (by simp) (1 : Int32) rfl (by decide) (by decide), ⟨rfl, rfl⟩⟩
      · -- not no
        have r21 := r16.icF (pc' := 18) d1_15 (feq hc17).1 rfl
        have r22 := r21.iloadN (pc' := 19) d1_18 rfl rfl
        have r23 := r22.bipush (pc' := 21) (32 : Int32) d1_19 rfl rfl
        by_cases hc24 : x0 < (32 : Int32)
        · -- yes
          have r25 := r23.icT (pc' := 30) d1_21 (tlt hc24).1 (by decide) (by decide)
          have r26 := r25.iloadN (pc' := 31) d1_30 rfl rfl
          have r27 := r26.ldc (pc' := 33) d1_31 (hw _ (List.mem_of_getElem? (i := 12) rfl)) rfl
          by_cases hc28 : x0 < (57344 : Int32)
          · -- yes
            have r29 := r27.icT (pc' := 42) d1_33 (tlt hc28).1 (by decide) (by decide)
            have r30 := r29.iloadN (pc' := 43) d1_42 rfl rfl
            have r31 := r30.ldc (pc' := 45) d1_43 (hw _ (List.mem_of_getElem? (i := 13) rfl)) rfl
            by_cases hc32 : x0 < (65536 : Int32)
            · -- yes
              have r33 := r31.icT (pc' := 58) d1_45 (tlt hc32).1 (by decide) (by decide)
              have r34 := r33.iconst (pc' := 59) (0 : Int32) d1_58 rfl rfl
              have hP : ¬ (okc x0.toInt) := by
                simp only [Int32.lt_iff_toInt_lt, ← Int32.toInt_inj, Int32.reduceToInt] at hc3 hc10 hc17 hc24 hc28 hc32
                simp only [okc]; omega
              rw [if_neg hP]
              exact ⟨_, _, r34.retZ d1_59 rfl (t := .boolean) (by simp) (0 : Int32) rfl (by decide) (by decide), ⟨rfl, rfl⟩⟩
            · -- not no
              have r35 := r31.icF (pc' := 48) d1_45 (flt hc32).1 rfl
              have r36 := r35.iloadN (pc' := 49) d1_48 rfl rfl
              have r37 := r36.ldc (pc' := 51) d1_49 (hw _ (List.mem_of_getElem? (i := 24) rfl)) rfl
              by_cases hc38 : (1114111 : Int32) < x0
              · -- yes
                have r39 := r37.icT (pc' := 58) d1_51 (tlt hc38).2.2.1 (by decide) (by decide)
                have r40 := r39.iconst (pc' := 59) (0 : Int32) d1_58 rfl rfl
                have hP : ¬ (okc x0.toInt) := by
                  simp only [Int32.lt_iff_toInt_lt, ← Int32.toInt_inj, Int32.reduceToInt] at hc3 hc10 hc17 hc24 hc28 hc32 hc38
                  simp only [okc]; omega
                rw [if_neg hP]
                exact ⟨_, _, r40.retZ d1_59 rfl (t := .boolean) (by simp) (0 : Int32) rfl (by decide) (by decide), ⟨rfl, rfl⟩⟩
              · -- not no
                have r41 := r37.icF (pc' := 54) d1_51 (flt hc38).2.2.1 rfl
                have r42 := r41.iconst (pc' := 55) (1 : Int32) d1_54 rfl rfl
                have r43 := r42.goto (pc' := 59) d1_55 (by decide) (by decide)
                have hP : okc x0.toInt := by
                  simp only [Int32.lt_iff_toInt_lt, ← Int32.toInt_inj, Int32.reduceToInt] at hc3 hc10 hc17 hc24 hc28 hc32 hc38
                  simp only [okc]; omega
                rw [if_pos hP]
                exact ⟨_, _, r43.retZ d1_59 rfl (t := .boolean) (by simp) (1 : Int32) rfl (by decide) (by decide), ⟨rfl, rfl⟩⟩
          · -- not no
            have r44 := r27.icF (pc' := 36) d1_33 (flt hc28).1 rfl
            have r45 := r44.iloadN (pc' := 37) d1_36 rfl rfl
            have r46 := r45.ldc (pc' := 39) d1_37 (hw _ (List.mem_of_getElem? (i := 19) rfl)) rfl
            by_cases hc47 : (65533 : Int32) < x0
            · -- yes
              have r48 := r46.icF (pc' := 42) d1_39 (tlt hc47).2.2.2 rfl
              have r49 := r48.iloadN (pc' := 43) d1_42 rfl rfl
              have r50 := r49.ldc (pc' := 45) d1_43 (hw _ (List.mem_of_getElem? (i := 13) rfl)) rfl
              by_cases hc51 : x0 < (65536 : Int32)
              · -- yes
                have r52 := r50.icT (pc' := 58) d1_45 (tlt hc51).1 (by decide) (by decide)
                have r53 := r52.iconst (pc' := 59) (0 : Int32) d1_58 rfl rfl
                have hP : ¬ (okc x0.toInt) := by
                  simp only [Int32.lt_iff_toInt_lt, ← Int32.toInt_inj, Int32.reduceToInt] at hc3 hc10 hc17 hc24 hc28 hc47 hc51
                  simp only [okc]; omega
                rw [if_neg hP]
                exact ⟨_, _, r53.retZ d1_59 rfl (t := .boolean) (by simp) (0 : Int32) rfl (by decide) (by decide), ⟨rfl, rfl⟩⟩
              · -- not no
                have r54 := r50.icF (pc' := 48) d1_45 (flt hc51).1 rfl
                have r55 := r54.iloadN (pc' := 49) d1_48 rfl rfl
                have r56 := r55.ldc (pc' := 51) d1_49 (hw _ (List.mem_of_getElem? (i := 24) rfl)) rfl
                by_cases hc57 : (1114111 : Int32) < x0
                · -- yes
                  have r58 := r56.icT (pc' := 58) d1_51 (tlt hc57).2.2.1 (by decide) (by decide)
                  have r59 := r58.iconst (pc' := 59) (0 : Int32) d1_58 rfl rfl
                  have hP : ¬ (okc x0.toInt) := by
                    simp only [Int32.lt_iff_toInt_lt, ← Int32.toInt_inj, Int32.reduceToInt] at hc3 hc10 hc17 hc24 hc28 hc47 hc51 hc57
                    simp only [okc]; omega
                  rw [if_neg hP]
                  exact ⟨_, _, r59.retZ d1_59 rfl (t := .boolean) (by simp) (0 : Int32) rfl (by decide) (by decide), ⟨rfl, rfl⟩⟩
                · -- not no
                  have r60 := r56.icF (pc' := 54) d1_51 (flt hc57).2.2.1 rfl
                  have r61 := r60.iconst (pc' := 55) (1 : Int32) d1_54 rfl rfl
                  have r62 := r61.goto (pc' := 59) d1_55 (by decide) (by decide)
                  have hP : okc x0.toInt := by
                    simp only [Int32.lt_iff_toInt_lt, ← Int32.toInt_inj, Int32.reduceToInt] at hc3 hc10 hc17 hc24 hc28 hc47 hc51 hc57
                    simp only [okc]; omega
                  rw [if_pos hP]
                  exact ⟨_, _, r62.retZ d1_59 rfl (t := .boolean) (by simp) (1 : Int32) rfl (by decide) (by decide), ⟨rfl, rfl⟩⟩
            · -- not no
              have r63 := r46.icT (pc' := 54) d1_39 (flt hc47).2.2.2 (by decide) (by decide)
              have r64 := r63.iconst (pc' := 55) (1 : Int32) d1_54 rfl rfl
              have r65 := r64.goto (pc' := 59) d1_55 (by decide) (by decide)
              have hP : okc x0.toInt := by
                simp only [Int32.lt_iff_toInt_lt, ← Int32.toInt_inj, Int32.reduceToInt] at hc3 hc10 hc17 hc24 hc28 hc47
                simp only [okc]; omega
              rw [if_pos hP]
              exact ⟨_, _, r65.retZ d1_59 rfl (t := .boolean) (by simp) (1 : Int32) rfl (by decide) (by decide), ⟨rfl, rfl⟩⟩
        · -- not no
          have r66 := r23.icF (pc' := 24) d1_21 (flt hc24).1 rfl
          have r67 := r66.iloadN (pc' := 25) d1_24 rfl rfl
          have r68 := r67.ldc (pc' := 27) d1_25 (hw _ (List.mem_of_getElem? (i := 18) rfl)) rfl
          by_cases hc69 : (55295 : Int32) < x0
          · -- yes
            have r70 := r68.icF (pc' := 30) d1_27 (tlt hc69).2.2.2 rfl
            have r71 := r70.iloadN (pc' := 31) d1_30 rfl rfl
            have r72 := r71.ldc (pc' := 33) d1_31 (hw _ (List.mem_of_getElem? (i := 12) rfl)) rfl
            by_cases hc73 : x0 < (57344 : Int32)
            · -- yes
              have r74 := r72.icT (pc' := 42) d1_33 (tlt hc73).1 (by decide) (by decide)
              have r75 := r74.iloadN (pc' := 43) d1_42 rfl rfl
              have r76 := r75.ldc (pc' := 45) d1_43 (hw _ (List.mem_of_getElem? (i := 13) rfl)) rfl
              by_cases hc77 : x0 < (65536 : Int32)
              · -- yes
                have r78 := r76.icT (pc' := 58) d1_45 (tlt hc77).1 (by decide) (by decide)
                have r79 := r78.iconst (pc' := 59) (0 : Int32) d1_58 rfl rfl
                have hP : ¬ (okc x0.toInt) := by
                  simp only [Int32.lt_iff_toInt_lt, ← Int32.toInt_inj, Int32.reduceToInt] at hc3 hc10 hc17 hc24 hc69 hc73 hc77
                  simp only [okc]; omega
                rw [if_neg hP]
                exact ⟨_, _, r79.retZ d1_59 rfl (t := .boolean) (by simp) (0 : Int32) rfl (by decide) (by decide), ⟨rfl, rfl⟩⟩
              · -- not no
                have r80 := r76.icF (pc' := 48) d1_45 (flt hc77).1 rfl
                have r81 := r80.iloadN (pc' := 49) d1_48 rfl rfl
                have r82 := r81.ldc (pc' := 51) d1_49 (hw _ (List.mem_of_getElem? (i := 24) rfl)) rfl
                by_cases hc83 : (1114111 : Int32) < x0
                · -- yes
                  have r84 := r82.icT (pc' := 58) d1_51 (tlt hc83).2.2.1 (by decide) (by decide)
                  have r85 := r84.iconst (pc' := 59) (0 : Int32) d1_58 rfl rfl
                  have hP : ¬ (okc x0.toInt) := by
                    simp only [Int32.lt_iff_toInt_lt, ← Int32.toInt_inj, Int32.reduceToInt] at hc3 hc10 hc17 hc24 hc69 hc73 hc77 hc83
                    simp only [okc]; omega
                  rw [if_neg hP]
                  exact ⟨_, _, r85.retZ d1_59 rfl (t := .boolean) (by simp) (0 : Int32) rfl (by decide) (by decide), ⟨rfl, rfl⟩⟩
                · -- not no
                  have r86 := r82.icF (pc' := 54) d1_51 (flt hc83).2.2.1 rfl
                  have r87 := r86.iconst (pc' := 55) (1 : Int32) d1_54 rfl rfl
                  have r88 := r87.goto (pc' := 59) d1_55 (by decide) (by decide)
                  have hP : okc x0.toInt := by
                    simp only [Int32.lt_iff_toInt_lt, ← Int32.toInt_inj, Int32.reduceToInt] at hc3 hc10 hc17 hc24 hc69 hc73 hc77 hc83
                    simp only [okc]; omega
                  rw [if_pos hP]
                  exact ⟨_, _, r88.retZ d1_59 rfl (t := .boolean) (by simp) (1 : Int32) rfl (by decide) (by decide), ⟨rfl, rfl⟩⟩
            · -- not no
              have r89 := r72.icF (pc' := 36) d1_33 (flt hc73).1 rfl
              have r90 := r89.iloadN (pc' := 37) d1_36 rfl rfl
              have r91 := r90.ldc (pc' := 39) d1_37 (hw _ (List.mem_of_getElem? (i := 19) rfl)) rfl
              by_cases hc92 : (65533 : Int32) < x0
              · -- yes
                have r93 := r91.icF (pc' := 42) d1_39 (tlt hc92).2.2.2 rfl
                have r94 := r93.iloadN (pc' := 43) d1_42 rfl rfl
                have r95 := r94.ldc (pc' := 45) d1_43 (hw _ (List.mem_of_getElem? (i := 13) rfl)) rfl
                by_cases hc96 : x0 < (65536 : Int32)
                · -- yes
                  have r97 := r95.icT (pc' := 58) d1_45 (tlt hc96).1 (by decide) (by decide)
                  have r98 := r97.iconst (pc' := 59) (0 : Int32) d1_58 rfl rfl
                  have hP : ¬ (okc x0.toInt) := by
                    simp only [Int32.lt_iff_toInt_lt, ← Int32.toInt_inj, Int32.reduceToInt] at hc3 hc10 hc17 hc24 hc69 hc73 hc92 hc96
                    simp only [okc]; omega
                  rw [if_neg hP]
                  exact ⟨_, _, r98.retZ d1_59 rfl (t := .boolean) (by simp) (0 : Int32) rfl (by decide) (by decide), ⟨rfl, rfl⟩⟩
                · -- not no
                  have r99 := r95.icF (pc' := 48) d1_45 (flt hc96).1 rfl
                  have r100 := r99.iloadN (pc' := 49) d1_48 rfl rfl
                  have r101 := r100.ldc (pc' := 51) d1_49 (hw _ (List.mem_of_getElem? (i := 24) rfl)) rfl
                  by_cases hc102 : (1114111 : Int32) < x0
                  · -- yes
                    have r103 := r101.icT (pc' := 58) d1_51 (tlt hc102).2.2.1 (by decide) (by decide)
                    have r104 := r103.iconst (pc' := 59) (0 : Int32) d1_58 rfl rfl
                    have hP : ¬ (okc x0.toInt) := by
                      simp only [Int32.lt_iff_toInt_lt, ← Int32.toInt_inj, Int32.reduceToInt] at hc3 hc10 hc17 hc24 hc69 hc73 hc92 hc96 hc102
                      simp only [okc]; omega
                    rw [if_neg hP]
                    exact ⟨_, _, r104.retZ d1_59 rfl (t := .boolean) (by simp) (0 : Int32) rfl (by decide) (by decide), ⟨rfl, rfl⟩⟩
                  · -- not no
                    have r105 := r101.icF (pc' := 54) d1_51 (flt hc102).2.2.1 rfl
                    have r106 := r105.iconst (pc' := 55) (1 : Int32) d1_54 rfl rfl
                    have r107 := r106.goto (pc' := 59) d1_55 (by decide) (by decide)
                    have hP : okc x0.toInt := by
                      simp only [Int32.lt_iff_toInt_lt, ← Int32.toInt_inj, Int32.reduceToInt] at hc3 hc10 hc17 hc24 hc69 hc73 hc92 hc96 hc102
                      simp only [okc]; omega
                    rw [if_pos hP]
                    exact ⟨_, _, r107.retZ d1_59 rfl (t := .boolean) (by simp) (1 : Int32) rfl (by decide) (by decide), ⟨rfl, rfl⟩⟩
              · -- not no
                have r108 := r91.icT (pc' := 54) d1_39 (flt hc92).2.2.2 (by decide) (by decide)
                have r109 := r108.iconst (pc' := 55) (1 : Int32) d1_54 rfl rfl
                have r110 := r109.goto (pc' := 59) d1_55 (by decide) (by decide)
                have hP : okc x0.toInt := by
                  simp only [Int32.lt_iff_toInt_lt, ← Int32.toInt_inj, Int32.reduceToInt] at hc3 hc10 hc17 hc24 hc69 hc73 hc92
                  simp only [okc]; omega
                rw [if_pos hP]
                exact ⟨_, _, r110.retZ d1_59 rfl (t := .boolean) (by simp) (1 : Int32) rfl (by decide) (by decide), ⟨rfl, rfl⟩⟩
          · -- not no
            have r111 := r68.icT (pc' := 54) d1_27 (flt hc69).2.2.2 (by decide) (by decide)
            have r112 := r111.iconst (pc' := 55) (1 : Int32) d1_54 rfl rfl
            have r113 := r112.goto (pc' := 59) d1_55 (by decide) (by decide)
            have hP : okc x0.toInt := by
              simp only [Int32.lt_iff_toInt_lt, ← Int32.toInt_inj, Int32.reduceToInt] at hc3 hc10 hc17 hc24 hc69
              simp only [okc]; omega
            rw [if_pos hP]
            exact ⟨_, _, r113.retZ d1_59 rfl (t := .boolean) (by simp) (1 : Int32) rfl (by decide) (by decide), ⟨rfl, rfl⟩⟩
theorem pn_com_example_polypody_polypody_name_XmlSyntaxIsCharPinLaw : plainName "com/example/polypody/polypody/name/XmlSyntaxIsCharPinLaw" = true := by first | (simp [plainName, overriddenIn]; done) | decide +kernel
theorem d2_0 : decode method_3_code 0 = .ok (.iload_n 0, 1) := by decide +kernel
theorem d2_1 : decode method_3_code 1 = .ok (.ifCond .lt 9, 3) := by decide +kernel
theorem d2_10 : decode method_3_code 10 = .ok (.iconst 0, 1) := by decide +kernel
theorem d2_11 : decode method_3_code 11 = .ok (.ireturn, 1) := by decide +kernel
theorem d2_4 : decode method_3_code 4 = .ok (.iload_n 0, 1) := by decide +kernel
theorem d2_5 : decode method_3_code 5 = .ok (.ldc 11, 2) := by decide +kernel
theorem d2_7 : decode method_3_code 7 = .ok (.if_icmp .le 5, 3) := by decide +kernel
theorem d2_12 : decode method_3_code 12 = .ok (.iload_n 0, 1) := by decide +kernel
theorem d2_13 : decode method_3_code 13 = .ok (.bipush 32, 2) := by decide +kernel
theorem d2_15 : decode method_3_code 15 = .ok (.if_icmp .ge 27, 3) := by decide +kernel
theorem d2_18 : decode method_3_code 18 = .ok (.iload_n 0, 1) := by decide +kernel
theorem d2_19 : decode method_3_code 19 = .ok (.bipush 9, 2) := by decide +kernel
theorem d2_21 : decode method_3_code 21 = .ok (.if_icmp .eq 15, 3) := by decide +kernel
theorem d2_36 : decode method_3_code 36 = .ok (.iconst 1, 1) := by decide +kernel
theorem d2_37 : decode method_3_code 37 = .ok (.goto 4, 3) := by decide +kernel
theorem d2_41 : decode method_3_code 41 = .ok (.ireturn, 1) := by decide +kernel
theorem d2_24 : decode method_3_code 24 = .ok (.iload_n 0, 1) := by decide +kernel
theorem d2_25 : decode method_3_code 25 = .ok (.bipush 10, 2) := by decide +kernel
theorem d2_27 : decode method_3_code 27 = .ok (.if_icmp .eq 9, 3) := by decide +kernel
theorem d2_30 : decode method_3_code 30 = .ok (.iload_n 0, 1) := by decide +kernel
theorem d2_31 : decode method_3_code 31 = .ok (.bipush 13, 2) := by decide +kernel
theorem d2_33 : decode method_3_code 33 = .ok (.if_icmp .ne 7, 3) := by decide +kernel
theorem d2_40 : decode method_3_code 40 = .ok (.iconst 0, 1) := by decide +kernel
theorem d2_42 : decode method_3_code 42 = .ok (.iload_n 0, 1) := by decide +kernel
theorem d2_43 : decode method_3_code 43 = .ok (.ldc 27, 2) := by decide +kernel
theorem d2_45 : decode method_3_code 45 = .ok (.if_icmp .lt 11, 3) := by decide +kernel
theorem d2_56 : decode method_3_code 56 = .ok (.iload_n 0, 1) := by decide +kernel
theorem d2_57 : decode method_3_code 57 = .ok (.ldc 29, 2) := by decide +kernel
theorem d2_59 : decode method_3_code 59 = .ok (.if_icmp .eq 9, 3) := by decide +kernel
theorem d2_68 : decode method_3_code 68 = .ok (.iconst 0, 1) := by decide +kernel
theorem d2_69 : decode method_3_code 69 = .ok (.ireturn, 1) := by decide +kernel
theorem d2_62 : decode method_3_code 62 = .ok (.iload_n 0, 1) := by decide +kernel
theorem d2_63 : decode method_3_code 63 = .ok (.ldc 30, 2) := by decide +kernel
theorem d2_65 : decode method_3_code 65 = .ok (.if_icmp .ne 5, 3) := by decide +kernel
theorem d2_70 : decode method_3_code 70 = .ok (.iconst 1, 1) := by decide +kernel
theorem d2_71 : decode method_3_code 71 = .ok (.ireturn, 1) := by decide +kernel
theorem d2_48 : decode method_3_code 48 = .ok (.iload_n 0, 1) := by decide +kernel
theorem d2_49 : decode method_3_code 49 = .ok (.ldc 28, 2) := by decide +kernel
theorem d2_51 : decode method_3_code 51 = .ok (.if_icmp .gt 5, 3) := by decide +kernel
theorem d2_54 : decode method_3_code 54 = .ok (.iconst 0, 1) := by decide +kernel
theorem d2_55 : decode method_3_code 55 = .ok (.ireturn, 1) := by decide +kernel
set_option maxRecDepth 65536 in
set_option maxHeartbeats 40000000 in
theorem c2 (l : Launch) (Z : State) (a0 : Array Value) (hw : ∀ d ∈ tables_1, d.before a0 Z = true) (x0 : Int32) (h0 : Heap) (n0 : Nat) :
    Ctr l Z (⟨"com/example/polypody/polypody/name/XmlSyntaxIsCharPinLaw", "reference", "(I)Z"⟩ : MethodName) method_3_code 1 (some .boolean) ({ frames := 0, cells := 0, slots := 0, locals := 0 } : Room) #[(.int x0)] h0 n0 (fun v h => v = some (.int (if okc x0.toInt then (1 : Int32) else (0 : Int32))) ∧ h0 = h) := by
  refine ent (plainFor_of_name pn_com_example_polypody_polypody_name_XmlSyntaxIsCharPinLaw) (L0 := #[.val (.int x0)]) (fun m => by first | (simp [entryFrame, mkF, argsToLocals, Value.category]; done) | rfl) ?_
  intro p e s m below meth c T0 r0
  have r114 := r0.iloadN (pc' := 1) d2_0 rfl rfl
  by_cases hc115 : x0 < (0 : Int32)
  · -- yes
    have r116 := r114.ifT (pc' := 10) d2_1 (tlt hc115).1 (by decide) (by decide)
    have r117 := r116.iconst (pc' := 11) (0 : Int32) d2_10 rfl rfl
    have hP : ¬ (okc x0.toInt) := by
      simp only [Int32.lt_iff_toInt_lt, ← Int32.toInt_inj, Int32.reduceToInt] at hc115
      simp only [okc]; omega
    rw [if_neg hP]
    exact ⟨_, _, r117.retZ d2_11 rfl (t := .boolean) (by simp) (0 : Int32) rfl (by decide) (by decide), ⟨rfl, rfl⟩⟩
  · -- not no
    have r118 := r114.ifF (pc' := 4) d2_1 (flt hc115).1 rfl
    have r119 := r118.iloadN (pc' := 5) d2_4 rfl rfl
    have r120 := r119.ldc (pc' := 7) d2_5 (hw _ (List.mem_of_getElem? (i := 5) rfl)) rfl
    by_cases hc121 : (1114111 : Int32) < x0
    · -- yes
      have r122 := r120.icF (pc' := 10) d2_7 (tlt hc121).2.2.2 rfl
      have r123 := r122.iconst (pc' := 11) (0 : Int32) d2_10 rfl rfl
      have hP : ¬ (okc x0.toInt) := by
        simp only [Int32.lt_iff_toInt_lt, ← Int32.toInt_inj, Int32.reduceToInt] at hc115 hc121
        simp only [okc]; omega
      rw [if_neg hP]
      exact ⟨_, _, r123.retZ d2_11 rfl (t := .boolean) (by simp) (0 : Int32) rfl (by decide) (by decide), ⟨rfl, rfl⟩⟩
    · -- not no
      have r124 := r120.icT (pc' := 12) d2_7 (flt hc121).2.2.2 (by decide) (by decide)
      have r125 := r124.iloadN (pc' := 13) d2_12 rfl rfl
      have r126 := r125.bipush (pc' := 15) (32 : Int32) d2_13 rfl rfl
      by_cases hc127 : x0 < (32 : Int32)
      · -- yes
        have r128 := r126.icF (pc' := 18) d2_15 (tlt hc127).2.1 rfl
        have r129 := r128.iloadN (pc' := 19) d2_18 rfl rfl
        have r130 := r129.bipush (pc' := 21) (9 : Int32) d2_19 rfl rfl
        by_cases hc131 : x0 = (9 : Int32)
        · -- yes
          have r132 := r130.icT (pc' := 36) d2_21 (teq hc131).1 (by decide) (by decide)
          have r133 := r132.iconst (pc' := 37) (1 : Int32) d2_36 rfl rfl
          have r134 := r133.goto (pc' := 41) d2_37 (by decide) (by decide)
          have hP : okc x0.toInt := by
            simp only [Int32.lt_iff_toInt_lt, ← Int32.toInt_inj, Int32.reduceToInt] at hc115 hc121 hc127 hc131
            simp only [okc]; omega
          rw [if_pos hP]
          exact ⟨_, _, r134.retZ d2_41 rfl (t := .boolean) (by simp) (1 : Int32) rfl (by decide) (by decide), ⟨rfl, rfl⟩⟩
        · -- not no
          have r135 := r130.icF (pc' := 24) d2_21 (feq hc131).1 rfl
          have r136 := r135.iloadN (pc' := 25) d2_24 rfl rfl
          have r137 := r136.bipush (pc' := 27) (10 : Int32) d2_25 rfl rfl
          by_cases hc138 : x0 = (10 : Int32)
          · -- yes
            have r139 := r137.icT (pc' := 36) d2_27 (teq hc138).1 (by decide) (by decide)
            have r140 := r139.iconst (pc' := 37) (1 : Int32) d2_36 rfl rfl
            have r141 := r140.goto (pc' := 41) d2_37 (by decide) (by decide)
            have hP : okc x0.toInt := by
              simp only [Int32.lt_iff_toInt_lt, ← Int32.toInt_inj, Int32.reduceToInt] at hc115 hc121 hc127 hc131 hc138
              simp only [okc]; omega
            rw [if_pos hP]
            exact ⟨_, _, r141.retZ d2_41 rfl (t := .boolean) (by simp) (1 : Int32) rfl (by decide) (by decide), ⟨rfl, rfl⟩⟩
          · -- not no
            have r142 := r137.icF (pc' := 30) d2_27 (feq hc138).1 rfl
            have r143 := r142.iloadN (pc' := 31) d2_30 rfl rfl
            have r144 := r143.bipush (pc' := 33) (13 : Int32) d2_31 rfl rfl
            by_cases hc145 : x0 = (13 : Int32)
            · -- yes
              have r146 := r144.icF (pc' := 36) d2_33 (teq hc145).2 rfl
              have r147 := r146.iconst (pc' := 37) (1 : Int32) d2_36 rfl rfl
              have r148 := r147.goto (pc' := 41) d2_37 (by decide) (by decide)
              have hP : okc x0.toInt := by
                simp only [Int32.lt_iff_toInt_lt, ← Int32.toInt_inj, Int32.reduceToInt] at hc115 hc121 hc127 hc131 hc138 hc145
                simp only [okc]; omega
              rw [if_pos hP]
              exact ⟨_, _, r148.retZ d2_41 rfl (t := .boolean) (by simp) (1 : Int32) rfl (by decide) (by decide), ⟨rfl, rfl⟩⟩
            · -- not no
              have r149 := r144.icT (pc' := 40) d2_33 (feq hc145).2 (by decide) (by decide)
              have r150 := r149.iconst (pc' := 41) (0 : Int32) d2_40 rfl rfl
              have hP : ¬ (okc x0.toInt) := by
                simp only [Int32.lt_iff_toInt_lt, ← Int32.toInt_inj, Int32.reduceToInt] at hc115 hc121 hc127 hc131 hc138 hc145
                simp only [okc]; omega
              rw [if_neg hP]
              exact ⟨_, _, r150.retZ d2_41 rfl (t := .boolean) (by simp) (0 : Int32) rfl (by decide) (by decide), ⟨rfl, rfl⟩⟩
      · -- not no
        have r151 := r126.icT (pc' := 42) d2_15 (flt hc127).2.1 (by decide) (by decide)
        have r152 := r151.iloadN (pc' := 43) d2_42 rfl rfl
        have r153 := r152.ldc (pc' := 45) d2_43 (hw _ (List.mem_of_getElem? (i := 20) rfl)) rfl
        by_cases hc154 : x0 < (55296 : Int32)
        · -- yes
          have r155 := r153.icT (pc' := 56) d2_45 (tlt hc154).1 (by decide) (by decide)
          have r156 := r155.iloadN (pc' := 57) d2_56 rfl rfl
          have r157 := r156.ldc (pc' := 59) d2_57 (hw _ (List.mem_of_getElem? (i := 22) rfl)) rfl
          by_cases hc158 : x0 = (65534 : Int32)
          · -- yes
            have r159 := r157.icT (pc' := 68) d2_59 (teq hc158).1 (by decide) (by decide)
            have r160 := r159.iconst (pc' := 69) (0 : Int32) d2_68 rfl rfl
            have hP : ¬ (okc x0.toInt) := by
              simp only [Int32.lt_iff_toInt_lt, ← Int32.toInt_inj, Int32.reduceToInt] at hc115 hc121 hc127 hc154 hc158
              simp only [okc]; omega
            rw [if_neg hP]
            exact ⟨_, _, r160.retZ d2_69 rfl (t := .boolean) (by simp) (0 : Int32) rfl (by decide) (by decide), ⟨rfl, rfl⟩⟩
          · -- not no
            have r161 := r157.icF (pc' := 62) d2_59 (feq hc158).1 rfl
            have r162 := r161.iloadN (pc' := 63) d2_62 rfl rfl
            have r163 := r162.ldc (pc' := 65) d2_63 (hw _ (List.mem_of_getElem? (i := 23) rfl)) rfl
            by_cases hc164 : x0 = (65535 : Int32)
            · -- yes
              have r165 := r163.icF (pc' := 68) d2_65 (teq hc164).2 rfl
              have r166 := r165.iconst (pc' := 69) (0 : Int32) d2_68 rfl rfl
              have hP : ¬ (okc x0.toInt) := by
                simp only [Int32.lt_iff_toInt_lt, ← Int32.toInt_inj, Int32.reduceToInt] at hc115 hc121 hc127 hc154 hc158 hc164
                simp only [okc]; omega
              rw [if_neg hP]
              exact ⟨_, _, r166.retZ d2_69 rfl (t := .boolean) (by simp) (0 : Int32) rfl (by decide) (by decide), ⟨rfl, rfl⟩⟩
            · -- not no
              have r167 := r163.icT (pc' := 70) d2_65 (feq hc164).2 (by decide) (by decide)
              have r168 := r167.iconst (pc' := 71) (1 : Int32) d2_70 rfl rfl
              have hP : okc x0.toInt := by
                simp only [Int32.lt_iff_toInt_lt, ← Int32.toInt_inj, Int32.reduceToInt] at hc115 hc121 hc127 hc154 hc158 hc164
                simp only [okc]; omega
              rw [if_pos hP]
              exact ⟨_, _, r168.retZ d2_71 rfl (t := .boolean) (by simp) (1 : Int32) rfl (by decide) (by decide), ⟨rfl, rfl⟩⟩
        · -- not no
          have r169 := r153.icF (pc' := 48) d2_45 (flt hc154).1 rfl
          have r170 := r169.iloadN (pc' := 49) d2_48 rfl rfl
          have r171 := r170.ldc (pc' := 51) d2_49 (hw _ (List.mem_of_getElem? (i := 21) rfl)) rfl
          by_cases hc172 : (57343 : Int32) < x0
          · -- yes
            have r173 := r171.icT (pc' := 56) d2_51 (tlt hc172).2.2.1 (by decide) (by decide)
            have r174 := r173.iloadN (pc' := 57) d2_56 rfl rfl
            have r175 := r174.ldc (pc' := 59) d2_57 (hw _ (List.mem_of_getElem? (i := 22) rfl)) rfl
            by_cases hc176 : x0 = (65534 : Int32)
            · -- yes
              have r177 := r175.icT (pc' := 68) d2_59 (teq hc176).1 (by decide) (by decide)
              have r178 := r177.iconst (pc' := 69) (0 : Int32) d2_68 rfl rfl
              have hP : ¬ (okc x0.toInt) := by
                simp only [Int32.lt_iff_toInt_lt, ← Int32.toInt_inj, Int32.reduceToInt] at hc115 hc121 hc127 hc154 hc172 hc176
                simp only [okc]; omega
              rw [if_neg hP]
              exact ⟨_, _, r178.retZ d2_69 rfl (t := .boolean) (by simp) (0 : Int32) rfl (by decide) (by decide), ⟨rfl, rfl⟩⟩
            · -- not no
              have r179 := r175.icF (pc' := 62) d2_59 (feq hc176).1 rfl
              have r180 := r179.iloadN (pc' := 63) d2_62 rfl rfl
              have r181 := r180.ldc (pc' := 65) d2_63 (hw _ (List.mem_of_getElem? (i := 23) rfl)) rfl
              by_cases hc182 : x0 = (65535 : Int32)
              · -- yes
                have r183 := r181.icF (pc' := 68) d2_65 (teq hc182).2 rfl
                have r184 := r183.iconst (pc' := 69) (0 : Int32) d2_68 rfl rfl
                have hP : ¬ (okc x0.toInt) := by
                  simp only [Int32.lt_iff_toInt_lt, ← Int32.toInt_inj, Int32.reduceToInt] at hc115 hc121 hc127 hc154 hc172 hc176 hc182
                  simp only [okc]; omega
                rw [if_neg hP]
                exact ⟨_, _, r184.retZ d2_69 rfl (t := .boolean) (by simp) (0 : Int32) rfl (by decide) (by decide), ⟨rfl, rfl⟩⟩
              · -- not no
                have r185 := r181.icT (pc' := 70) d2_65 (feq hc182).2 (by decide) (by decide)
                have r186 := r185.iconst (pc' := 71) (1 : Int32) d2_70 rfl rfl
                have hP : okc x0.toInt := by
                  simp only [Int32.lt_iff_toInt_lt, ← Int32.toInt_inj, Int32.reduceToInt] at hc115 hc121 hc127 hc154 hc172 hc176 hc182
                  simp only [okc]; omega
                rw [if_pos hP]
                exact ⟨_, _, r186.retZ d2_71 rfl (t := .boolean) (by simp) (1 : Int32) rfl (by decide) (by decide), ⟨rfl, rfl⟩⟩
          · -- not no
            have r187 := r171.icF (pc' := 54) d2_51 (flt hc172).2.2.1 rfl
            have r188 := r187.iconst (pc' := 55) (0 : Int32) d2_54 rfl rfl
            have hP : ¬ (okc x0.toInt) := by
              simp only [Int32.lt_iff_toInt_lt, ← Int32.toInt_inj, Int32.reduceToInt] at hc115 hc121 hc127 hc154 hc172
              simp only [okc]; omega
            rw [if_neg hP]
            exact ⟨_, _, r188.retZ d2_55 rfl (t := .boolean) (by simp) (0 : Int32) rfl (by decide) (by decide), ⟨rfl, rfl⟩⟩
theorem idx12 (x : Int32) : ¬ (((x.toUInt32 >>> ((1 : Int32) &&& 31).toUInt32).toInt32) % (12 : Int32)) < 0 ∧ (((x.toUInt32 >>> ((1 : Int32) &&& 31).toUInt32).toInt32) % (12 : Int32)) < 12 := by
  have h1 := c_iushr x 1 1 (by decide) (by decide)
  have h2 := (c_irem ((x.toUInt32 >>> ((1 : Int32) &&& 31).toUInt32).toInt32) 12 12 (by decide)).1 (by omega)
  simp only [Int32.lt_iff_toInt_lt, Int32.reduceToInt]
  omega
theorem pd_0 : parseMethodDescriptor "(I)Z" = some ⟨[.int], some .boolean⟩ := by decide +kernel
set_option maxRecDepth 65536 in
set_option maxHeartbeats 40000000 in
theorem law (l : Launch) (Z : State) (a0 : Array Value) (hw : ∀ d ∈ tables_1, d.before a0 Z = true) (x0 x1 x2 : Int32) (h0 : Heap) (n0 : Nat) (Z0 : n0 ≤ h0.size) :
    Ctr l Z x code maxLocals ret room_1 #[(.int x0), (.int x1), (.int x2)] h0 n0 (fun v h => v = some (.int 1)) := by
  refine ent (plainFor_of_name pn_com_example_polypody_polypody_name_XmlSyntaxIsCharPinLaw) (L0 := #[.val (.int x0), .val (.int x1), .val (.int x2), .unset, .unset]) (fun m => by first | (simp [entryFrame, mkF, argsToLocals, Value.category, maxLocals]; done) | rfl) ?_
  intro p e s m below meth c T0 r0
  have r189 := r0.bipush (pc' := 2) (12 : Int32) at_0 rfl rfl
  obtain ⟨h190, b190, kc190, hb190, E190, V190, r190⟩ := r189.newP (pc' := 4) at_2 (hw _ (List.mem_of_getElem? (i := 0) rfl)) (by decide) (cap := 12) (by decide) (by decide) (k' := 1) (n' := 12) rfl rfl (by decide) (by decide) rfl
  have g190 : n0 ≤ b190 := hb190 ▸ Z0
  have zp190 : n0 ≤ h190.size := Nat.le_trans Z0 E190.1
  have r191 := r190.dup (pc' := 5) at_4 rfl rfl
  have r192 := r191.iconst (pc' := 6) (0 : Int32) at_5 rfl rfl
  have r193 := r192.bipush (pc' := 8) (9 : Int32) at_6 rfl rfl
  obtain ⟨h194, vs194, W194, V194, r194⟩ := r193.stI0 (pc' := 9) at_8 V190 (by decide) (by decide) g190 rfl
  have zp194 : n0 ≤ h194.size := Nat.le_trans zp190 (Nat.le_of_eq W194.size.symm)
  have r195 := r194.dup (pc' := 10) at_9 rfl rfl
  have r196 := r195.iconst (pc' := 11) (1 : Int32) at_10 rfl rfl
  have r197 := r196.bipush (pc' := 13) (10 : Int32) at_11 rfl rfl
  obtain ⟨h198, vs198, W198, V198, r198⟩ := r197.stI0 (pc' := 14) at_13 V194 (by decide) (by decide) g190 rfl
  have zp198 : n0 ≤ h198.size := Nat.le_trans zp194 (Nat.le_of_eq W198.size.symm)
  have r199 := r198.dup (pc' := 15) at_14 rfl rfl
  have r200 := r199.iconst (pc' := 16) (2 : Int32) at_15 rfl rfl
  have r201 := r200.bipush (pc' := 18) (13 : Int32) at_16 rfl rfl
  obtain ⟨h202, vs202, W202, V202, r202⟩ := r201.stI0 (pc' := 19) at_18 V198 (by decide) (by decide) g190 rfl
  have zp202 : n0 ≤ h202.size := Nat.le_trans zp198 (Nat.le_of_eq W202.size.symm)
  have r203 := r202.dup (pc' := 20) at_19 rfl rfl
  have r204 := r203.iconst (pc' := 21) (3 : Int32) at_20 rfl rfl
  have r205 := r204.bipush (pc' := 23) (32 : Int32) at_21 rfl rfl
  obtain ⟨h206, vs206, W206, V206, r206⟩ := r205.stI0 (pc' := 24) at_23 V202 (by decide) (by decide) g190 rfl
  have zp206 : n0 ≤ h206.size := Nat.le_trans zp202 (Nat.le_of_eq W206.size.symm)
  have r207 := r206.dup (pc' := 25) at_24 rfl rfl
  have r208 := r207.iconst (pc' := 26) (4 : Int32) at_25 rfl rfl
  have r209 := r208.ldc (pc' := 28) at_26 (hw _ (List.mem_of_getElem? (i := 1) rfl)) rfl
  obtain ⟨h210, vs210, W210, V210, r210⟩ := r209.stI0 (pc' := 29) at_28 V206 (by decide) (by decide) g190 rfl
  have zp210 : n0 ≤ h210.size := Nat.le_trans zp206 (Nat.le_of_eq W210.size.symm)
  have r211 := r210.dup (pc' := 30) at_29 rfl rfl
  have r212 := r211.iconst (pc' := 31) (5 : Int32) at_30 rfl rfl
  have r213 := r212.ldc (pc' := 33) at_31 (hw _ (List.mem_of_getElem? (i := 2) rfl)) rfl
  obtain ⟨h214, vs214, W214, V214, r214⟩ := r213.stI0 (pc' := 34) at_33 V210 (by decide) (by decide) g190 rfl
  have zp214 : n0 ≤ h214.size := Nat.le_trans zp210 (Nat.le_of_eq W214.size.symm)
  have r215 := r214.dup (pc' := 35) at_34 rfl rfl
  have r216 := r215.bipush (pc' := 37) (6 : Int32) at_35 rfl rfl
  have r217 := r216.ldc (pc' := 39) at_37 (hw _ (List.mem_of_getElem? (i := 3) rfl)) rfl
  obtain ⟨h218, vs218, W218, V218, r218⟩ := r217.stI0 (pc' := 40) at_39 V214 (by decide) (by decide) g190 rfl
  have zp218 : n0 ≤ h218.size := Nat.le_trans zp214 (Nat.le_of_eq W218.size.symm)
  have r219 := r218.dup (pc' := 41) at_40 rfl rfl
  have r220 := r219.bipush (pc' := 43) (7 : Int32) at_41 rfl rfl
  have r221 := r220.ldc (pc' := 45) at_43 (hw _ (List.mem_of_getElem? (i := 4) rfl)) rfl
  obtain ⟨h222, vs222, W222, V222, r222⟩ := r221.stI0 (pc' := 46) at_45 V218 (by decide) (by decide) g190 rfl
  have zp222 : n0 ≤ h222.size := Nat.le_trans zp218 (Nat.le_of_eq W222.size.symm)
  have r223 := r222.dup (pc' := 47) at_46 rfl rfl
  have r224 := r223.bipush (pc' := 49) (8 : Int32) at_47 rfl rfl
  have r225 := r224.ldc (pc' := 51) at_49 (hw _ (List.mem_of_getElem? (i := 5) rfl)) rfl
  obtain ⟨h226, vs226, W226, V226, r226⟩ := r225.stI0 (pc' := 52) at_51 V222 (by decide) (by decide) g190 rfl
  have zp226 : n0 ≤ h226.size := Nat.le_trans zp222 (Nat.le_of_eq W226.size.symm)
  have r227 := r226.dup (pc' := 53) at_52 rfl rfl
  have r228 := r227.bipush (pc' := 55) (9 : Int32) at_53 rfl rfl
  have r229 := r228.iconst (pc' := 56) (0 : Int32) at_55 rfl rfl
  obtain ⟨h230, vs230, W230, V230, r230⟩ := r229.stI0 (pc' := 57) at_56 V226 (by decide) (by decide) g190 rfl
  have zp230 : n0 ≤ h230.size := Nat.le_trans zp226 (Nat.le_of_eq W230.size.symm)
  have r231 := r230.dup (pc' := 58) at_57 rfl rfl
  have r232 := r231.bipush (pc' := 60) (10 : Int32) at_58 rfl rfl
  have r233 := r232.ldc (pc' := 62) at_60 (hw _ (List.mem_of_getElem? (i := 6) rfl)) rfl
  obtain ⟨h234, vs234, W234, V234, r234⟩ := r233.stI0 (pc' := 63) at_62 V230 (by decide) (by decide) g190 rfl
  have zp234 : n0 ≤ h234.size := Nat.le_trans zp230 (Nat.le_of_eq W234.size.symm)
  have r235 := r234.dup (pc' := 64) at_63 rfl rfl
  have r236 := r235.bipush (pc' := 66) (11 : Int32) at_64 rfl rfl
  have r237 := r236.ldc (pc' := 68) at_66 (hw _ (List.mem_of_getElem? (i := 7) rfl)) rfl
  obtain ⟨h238, vs238, W238, V238, r238⟩ := r237.stI0 (pc' := 69) at_68 V234 (by decide) (by decide) g190 rfl
  have zp238 : n0 ≤ h238.size := Nat.le_trans zp234 (Nat.le_of_eq W238.size.symm)
  have r239 := r238.astoreN (pc' := 70) (L' := #[.val (.int x0), .val (.int x1), .val (.int x2), .val (.ref b190), .unset]) at_69 rfl rfl rfl
  have r240 := r239.iloadN (pc' := 71) at_70 rfl rfl
  have r241 := r240.iconst (pc' := 72) (1 : Int32) at_71 rfl rfl
  have r242 := r241.iand (pc' := 73) at_72 rfl rfl
  obtain ⟨cc, r243⟩ : ∃ cc : Int32, Rch p l e room_1 s m #[(.int x0), (.int x1), (.int x2)] below meth c Z x code maxLocals ret n0 T0 (mkF m 0 #[.val (.int x0), .val (.int x1), .val (.int x2), .unset, .unset] []) 1 12 h238 (mkF m 101 #[.val (.int x0), .val (.int x1), .val (.int x2), .val (.ref b190), .val (.int cc)] []) := by
    by_cases hc244 : (x1 &&& (1 : Int32)) = (0 : Int32)
    · -- yes
      have r245 := r242.ifT (pc' := 82) at_73 (teq hc244).1 (by decide) (by decide)
      have r246 := r245.aloadN (pc' := 83) at_82 rfl rfl rfl
      have r247 := r246.iloadN (pc' := 84) at_83 rfl rfl
      have r248 := r247.iconst (pc' := 85) (1 : Int32) at_84 rfl rfl
      have r249 := r248.iushr (pc' := 86) at_85 rfl rfl
      have r250 := r249.bipush (pc' := 88) (12 : Int32) at_86 rfl rfl
      have r251 := r250.irem (pc' := 89) at_88 (by decide) rfl rfl
      obtain ⟨x252, -, r252⟩ := r251.ldI0 (pc' := 90) at_89 V238 (idx12 x1).1 (idx12 x1).2 rfl
      have r253 := r252.iloadN (pc' := 91) at_90 rfl rfl
      have r254 := r253.ldc (pc' := 93) at_91 (hw _ (List.mem_of_getElem? (i := 7) rfl)) rfl
      have r255 := r254.iand (pc' := 94) at_93 rfl rfl
      have r256 := r255.iconst (pc' := 95) (5 : Int32) at_94 rfl rfl
      have r257 := r256.irem (pc' := 96) at_95 (by decide) rfl rfl
      have r258 := r257.iadd (pc' := 97) at_96 rfl rfl
      have r259 := r258.iconst (pc' := 98) (2 : Int32) at_97 rfl rfl
      have r260 := r259.isub (pc' := 99) at_98 rfl rfl
      have r261 := r260.istore (pc' := 101) (L' := #[.val (.int x0), .val (.int x1), .val (.int x2), .val (.ref b190), .val (.int ((x252 + ((x2 &&& (2147483647 : Int32)) % (5 : Int32))) - (2 : Int32)))]) at_99 rfl rfl
      exact ⟨_, r261⟩
    · -- not no
      have r262 := r242.ifF (pc' := 76) at_73 (feq hc244).1 rfl
      have r263 := r262.iloadN (pc' := 77) at_76 rfl rfl
      have r264 := r263.istore (pc' := 79) (L' := #[.val (.int x0), .val (.int x1), .val (.int x2), .val (.ref b190), .val (.int x0)]) at_77 rfl rfl
      have r265 := r264.goto (pc' := 101) at_79 (by decide) (by decide)
      exact ⟨_, r265⟩
  have r266 := r243.iload (pc' := 103) at_101 rfl rfl
  obtain ⟨v269, h270, hq268, r267⟩ := r266.callS (pc' := 106) [(.int cc)] (rest := []) 0 at_103 (hw _ (List.mem_of_getElem? (i := 8) rfl)) (hw _ (List.mem_of_getElem? (i := 9) rfl)) (hw _ (List.mem_of_getElem? (i := 10) rfl)) (hw _ (List.mem_of_getElem? (i := 11) rfl)) (by decide) (c1 l Z a0 hw cc h238 n0) pd_0 rfl rfl rfl (Nat.le_of_ble_eq_true rfl) (by decide) (by decide) (k' := 1) (n' := 12) rfl rfl (by decide) (by decide) rfl
  obtain ⟨rfl, rfl⟩ := hq268
  dsimp only [Option.toList, List.cons_append, List.nil_append] at r267
  have r271 := r267.iload (pc' := 108) at_106 rfl rfl
  obtain ⟨v274, h275, hq273, r272⟩ := r271.callS (pc' := 111) [(.int cc)] (rest := [(.int (if okc cc.toInt then (1 : Int32) else (0 : Int32)))]) 1 at_108 (hw _ (List.mem_of_getElem? (i := 14) rfl)) (hw _ (List.mem_of_getElem? (i := 15) rfl)) (hw _ (List.mem_of_getElem? (i := 16) rfl)) (hw _ (List.mem_of_getElem? (i := 17) rfl)) (by decide) (c2 l Z a0 hw cc h238 n0) pd_0 rfl rfl rfl (Nat.le_of_ble_eq_true rfl) (by decide) (by decide) (k' := 1) (n' := 12) rfl rfl (by decide) (by decide) rfl
  obtain ⟨rfl, rfl⟩ := hq273
  dsimp only [Option.toList, List.cons_append, List.nil_append] at r272
  have r276 := r272.icF (pc' := 114) at_111 (teq (rfl : (if okc cc.toInt then (1 : Int32) else (0 : Int32)) = (if okc cc.toInt then (1 : Int32) else (0 : Int32)))).2 rfl
  have r277 := r276.iconst (pc' := 115) (1 : Int32) at_114 rfl rfl
  have r278 := r277.goto (pc' := 119) at_115 (by decide) (by decide)
  exact ⟨_, _, r278.retZ at_119 rfl (t := .boolean) (by simp) (1 : Int32) rfl (by decide) (by decide), rfl⟩
set_option maxRecDepth 65536 in
set_option maxHeartbeats 40000000 in
theorem comes_1 {Post : Tables → Env → Array Value → State → Outcome → State → Prop} (hpost : ∀ tb e args s v u, (limb_1_1.after args s (.returned v) u = true ∧ limb_1_2.after args s (.returned v) u = true ∧ True) → FrameEnd s (.returned v) u (Jvm.fieldLocs frame_1_writes args s ++ Jvm.arrayLocs frame_1_arrays args s ++ Jvm.staticLocs frame_1_statics s) 16 128 → Post tb e args s (.returned v) u) :
    ArmFor flags0 classFile x code maxLocals ret World_1 tables_1 room_1 Calls_1 rest_1 Pre_1 Post := by
  intro l hfl _ _ p e ha hc hk s m args below hf hA hF happ hP
  obtain ⟨hcalls, hrest, hpre⟩ := hP
  obtain ⟨-, -, -, hnamed, -, -, -, hat⟩ := (Spec.applies_iff hf).mp happ
  obtain ⟨hg, hn⟩ := and_e (Cond.before_iff.mp (show (Jvm.Cond.and given_1 narrow_1).before args s = true from hpre))
  obtain ⟨gg1, gg2⟩ := and_e hg
  obtain ⟨gg3, gg4⟩ := and_e gg2
  obtain ⟨gg5, gg6⟩ := and_e gg4
  obtain ⟨w0, w1, w2, rfl⟩ : ∃ w0 w1 w2 : Value, args = #[w0, w1, w2] := by
    have hs : args.size = 3 := by simpa [Cond.value, given_1] using gg1
    obtain ⟨L⟩ := args
    match L, hs with
    | [w0, w1, w2], _ => exact ⟨w0, w1, w2, rfl⟩
  have hw := fun d (hd : d ∈ tables_1) => atoms_spec (ws := Jvm.Cond.code x code maxLocals ret :: tables_1) hat d (List.mem_cons_of_mem _ hd)
  obtain ⟨i0, ei0⟩ := is_v gg3
  obtain rfl : w0 = (.int i0) := Option.some.inj ei0
  obtain ⟨i1, ei1⟩ := is_v gg5
  obtain rfl : w1 = (.int i1) := Option.some.inj ei1
  obtain ⟨i2, ei2⟩ := is_v gg6
  obtain rfl : w2 = (.int i2) := Option.some.inj ei2
  obtain ⟨n, o, h1, h2, h3, _, L, rfl, ⟨N, rfl⟩, hq⟩ := law l s _ hw i0 i1 i2 s.heap s.heap.size (Nat.le_refl _) tables_1 p e ha hc hk s m _ below hf ((Spec.applies_iff_loose hf).mp happ).1 ⟨rfl, State.Warmed39.refl s, rfl⟩ trivial
  refine ⟨n, _, h1, h2, h3, hpost _ _ _ _ _ _ ⟨Cond.after_iff.mpr rfl, Cond.after_iff.mpr (eq_i res_at (Term.int_eval (1)) rfl), trivial⟩ ⟨hq.1, hq.2.1, (hq.2.2.sift fun y hy => Or.inr (N y hy)).mono (by decide) (by decide)⟩⟩
theorem main_1_1 : Claimed_1_1 := comes_1 fun _ _ _ _ _ _ h hF => ⟨h.1, hF⟩
theorem main_1_2 : Claimed_1_2 := comes_1 fun _ _ _ _ _ _ h hF => ⟨h.2.1, hF⟩

end Jvm.Pilot.@@N@@
namespace Jvm.Pilot.@@N@@
open Jvm Jvm.ClassFile Sem Op Lib Jvm.Free Jvm.Stand Jvm.Pilot.@@N@@.Jvm.D
/-! MADE BY PROGRAM (witnessworld.py) out of the Statement's table words and the real class files: 9 classes; the members and pool entries that the words name. The judged class is class 1, her method 1. -/
namespace start1
open Jvm.ClassFile
def u (s : String) : CpInfo := .utf8 (stringToUtf16 s)
/-- a pool by its gaps: so many unusable entries, then the entry; so many at the end -/
def gap : Nat → List CpInfo → List CpInfo
  | 0, r => r
  | n + 1, r => .unusable :: gap n r
def poolList (es : List (Nat × CpInfo)) (last : Nat) : List CpInfo := es.foldr (fun e r => gap e.1 (e.2 :: r)) (gap last [])
def pool (es : List (Nat × CpInfo)) (last : Nat) : Array CpInfo := ⟨poolList es last⟩
def fileOf (pool : Array CpInfo) (this : Nat) (attrs : Array Attribute := #[]) (ms : Array MethodInfo := #[]) (fl : Nat := 33) (sup : Nat := 0) (ifs : Array Nat := #[]) (fds : Array FieldInfo := #[]) : ClassFile where
  minorVersion := 0
  majorVersion := 65
  constantPool := pool
  accessFlags := fl
  thisClass := this
  superClass := sup
  interfaces := ifs
  fields := fds
  methods := ms
  attributes := attrs
def plain (name : String) (sup : Option ClassId) : Class where
  name := name
  kind := .ordinary
  loader := none
  accessFlags := 33
  super := sup
  interfaces := #[]
  cf := none
  fields := #[]
  methods := #[]
  instanceTypes := #[]
  staticTypes := #[]
  resolved := #[]
  callSites := []
  init := .initialized
  statics := none
  mirror := none

def pool0 : Array CpInfo := pool [(5, u "<init>"), (0, u "()V"), (1, .class_ 10), (1, u "java/lang/Object")] 113

def k0m0 : Method := { name := "<init>", desc := "()V", sig := { parameters := [], returnType := none }, accessFlags := 1, code := none }
/-- java/lang/Object -/
def k0 : Class := { plain "java/lang/Object" none with
  accessFlags := 33
  interfaces := #[]
  cf := some (fileOf pool0 8 #[] #[{ accessFlags := 1, nameIndex := 5, descriptorIndex := 6, attributes := #[] }] 33 0 #[] #[])
  fields := #[]
  methods := #[k0m0]
  instanceTypes := #[]
  staticTypes := #[]
  resolved := Array.replicate 124 none
  statics := none }

def pool1 : Array CpInfo := pool [(2, .class_ 4), (1, u "java/lang/Object"), (0, u "<init>"), (0, u "()V"), (0, .integer 55295), (0, .integer 57344), (0, .integer 65533), (0, .integer 65536), (0, .integer 1114111), (2, .integer 2147483648), (0, .integer 2147483647), (0, .methodref 17 18), (0, .class_ 19), (0, .nameAndType 20 21), (0, u "com/example/polypody/polypody/name/XmlSyntax"), (0, u "isChar"), (0, u "(I)Z"), (0, .methodref 23 24), (0, .class_ 25), (0, .nameAndType 26 21), (0, u "com/example/polypody/polypody/name/XmlSyntaxIsCharPinLaw"), (0, u "reference"), (0, .integer 55296), (0, .integer 57343), (0, .integer 65534), (0, .integer 65535), (2, u "law"), (0, u "(III)Z")] 5

def k1m0 : Method := { name := "<init>", desc := "()V", sig := { parameters := [], returnType := none }, accessFlags := 2, code := none }
def k1c1 : Code := { maxStack := 4, maxLocals := 5, code := code, exceptionTable := #[], attributes := #[] }
def k1m1 : Method := { name := "law", desc := "(III)Z", sig := { parameters := [.int, .int, .int], returnType := some .boolean }, accessFlags := 9, code := some k1c1 }
def k1c2 : Code := { maxStack := 2, maxLocals := 1, code := method_3_code, exceptionTable := #[], attributes := #[] }
def k1m2 : Method := { name := "reference", desc := "(I)Z", sig := { parameters := [.int], returnType := some .boolean }, accessFlags := 10, code := some k1c2 }
/-- com/example/polypody/polypody/name/XmlSyntaxIsCharPinLaw -/
def k1 : Class := { plain "com/example/polypody/polypody/name/XmlSyntaxIsCharPinLaw" (some 0) with
  accessFlags := 49
  interfaces := #[]
  cf := some (fileOf pool1 23 #[] #[{ accessFlags := 2, nameIndex := 5, descriptorIndex := 6, attributes := #[] }, { accessFlags := 9, nameIndex := 33, descriptorIndex := 34, attributes := #[] }, { accessFlags := 10, nameIndex := 26, descriptorIndex := 21, attributes := #[] }] 49 2 #[] #[])
  fields := #[]
  methods := #[k1m0, k1m1, k1m2]
  instanceTypes := #[]
  staticTypes := #[]
  resolved := Array.replicate 40 none
  statics := none }

def pool2 : Array CpInfo := pool [(2, .class_ 4), (1, u "java/lang/Object"), (0, u "<init>"), (0, u "()V"), (11, .class_ 20), (1, u "com/example/polypody/polypody/name/XmlSyntax"), (1, u "(I)Z"), (48, .integer 55295), (0, .integer 57344), (0, .integer 65533), (0, .integer 65536), (0, .integer 1114111), (13, u "isChar")] 32

def k2m0 : Method := { name := "<init>", desc := "()V", sig := { parameters := [], returnType := none }, accessFlags := 2, code := none }
def k2c1 : Code := { maxStack := 2, maxLocals := 1, code := prog_80_method_10_code, exceptionTable := #[], attributes := #[] }
def k2m1 : Method := { name := "isChar", desc := "(I)Z", sig := { parameters := [.int], returnType := some .boolean }, accessFlags := 9, code := some k2c1 }
/-- com/example/polypody/polypody/name/XmlSyntax -/
def k2 : Class := { plain "com/example/polypody/polypody/name/XmlSyntax" (some 0) with
  accessFlags := 33
  interfaces := #[]
  cf := some (fileOf pool2 18 #[] #[{ accessFlags := 2, nameIndex := 5, descriptorIndex := 6, attributes := #[] }, { accessFlags := 9, nameIndex := 89, descriptorIndex := 22, attributes := #[] }] 33 2 #[] #[])
  fields := #[]
  methods := #[k2m0, k2m1]
  instanceTypes := #[]
  staticTypes := #[]
  resolved := Array.replicate 122 none
  statics := none }

def pool3 : Array CpInfo := pool [(1, u "java/lang/Cloneable"), (0, .class_ 1), (0, u "java/lang/Object"), (0, .class_ 3)] 3

/-- java/lang/Cloneable -/
def k3 : Class := { plain "java/lang/Cloneable" (some 0) with
  accessFlags := 1537
  interfaces := #[]
  cf := some (fileOf pool3 2 #[] #[] 1537 4 #[] #[])
  fields := #[]
  methods := #[]
  instanceTypes := #[]
  staticTypes := #[]
  resolved := Array.replicate 8 none
  statics := none }

def pool4 : Array CpInfo := pool [(1, u "java/io/Serializable"), (0, .class_ 1), (0, u "java/lang/Object"), (0, .class_ 3)] 3

/-- java/io/Serializable -/
def k4 : Class := { plain "java/io/Serializable" (some 0) with
  accessFlags := 1537
  interfaces := #[]
  cf := some (fileOf pool4 2 #[] #[] 1537 4 #[] #[])
  fields := #[]
  methods := #[]
  instanceTypes := #[]
  staticTypes := #[]
  resolved := Array.replicate 8 none
  statics := none }

/-- the primitive byte -/
def k5 : Class := { plain "byte" none with kind := .primitive 'B', accessFlags := 0x411 }
/-- [B -/
def k6 : Class := { plain "[B" (some 0) with kind := .array 5 .byte, interfaces := #[3, 4], accessFlags := 1041 }

/-- the primitive int -/
def k7 : Class := { plain "int" none with kind := .primitive 'I', accessFlags := 0x411 }
/-- [I -/
def k8 : Class := { plain "[I" (some 0) with kind := .array 7 .int, interfaces := #[3, 4], accessFlags := 1041 }

def heap : Heap := #[]
def classes : Array Class := #[k0, k1, k2, k3, k4, k5, k6, k7, k8]
def interned : List (Array UInt16 × Addr) := []
def slotsUsed : Nat := 0
def theMethod : MethodId := ⟨1, 1⟩
def args0 : Array Value := #[.int 5, .int 4, .int 7]
def aboutOver (below : List Frame) : State where
  vm := { classes := classes, interned := interned.toArray }
  heap := heap
  slotsUsed := slotsUsed
  threads := #[{ frames := .invoking theMethod args0 :: below }]
def below0 : List Frame := [.native { method := ⟨0, 0⟩, args := #[] }]
def about1 : State := aboutOver below0
def p0 : Program := .bare "" "" ""
def e0 : Env := launch0.env 0 0 0
theorem w_frames : about1.frames = Frame.invoking theMethod args0 :: below0 := rfl
set_option maxRecDepth 65536 in
theorem w_args : argsFit about1.vm theMethod args0 = true := by decide +kernel
set_option maxRecDepth 65536 in
theorem w_heap : heapFits about1 = true := by decide +kernel
set_option maxRecDepth 65536 in
theorem w_runnable : about1.curStatus? = some .runnable := by decide +kernel
set_option maxRecDepth 65536 in
theorem w_alone : about1.alone = true := by decide +kernel
set_option maxRecDepth 65536 in
theorem w_named : about1.methodNamed? x = some theMethod := by decide +kernel
set_option maxRecDepth 65536 in
theorem w_hears : about1.hears theMethod below0 = true := by decide +kernel
set_option maxRecDepth 65536 in
theorem w_ripe : about1.ripe theMethod args0 below0 = true := by decide +kernel
theorem w_running : about1.status = .running := rfl
set_option maxRecDepth 65536 in
theorem w_room : about1.hasRoom e0.platform room_1 = true :=
  launch0.hasRoom_least _ room_1 (by decide +kernel) (by decide +kernel) (by decide +kernel) (by decide +kernel) (by decide +kernel) (by decide +kernel)
theorem allAtoms_all (ts : List Jvm.Cond) (a : Array Jvm.Value) (st : Jvm.State) : (allAtoms ts).before a st = ts.all (fun c => c.before a st) := by
  induction ts with
  | nil => rfl
  | cons c t ih =>
    show (Jvm.Cond.and c (allAtoms t)).before a st = _
    rw [Jvm.Cond.before_and, ih, List.all_cons]
def words1 : List Jvm.Cond := Jvm.Cond.code x code maxLocals ret :: tables_1
/-- a 'code' word, met by the world's own term for the bytes: nothing is compared byte by byte -/
theorem code_word {y : MethodName} {bytes : ByteArray} {mx : Nat} {rt : Option FieldType} {a : Array Value} {s : State} {m : MethodId} {meth : Method} {c : Code} (h1 : s.methodNamed? y = some m) (h2 : s.vm.method? m = some meth) (h3 : meth.code = some c) (h4 : c.code = bytes)
    (h5 : (c.maxLocals == mx && c.exceptionTable.isEmpty && decide (c.maxStack ≤ mostOperands) && decide (meth.sig.returnType = rt) && !meth.locks && decide (parseMethodDescriptor y.desc = some meth.sig)) = true) : (Jvm.Cond.code y bytes mx rt).before a s = true := by
  simp only [Bool.and_eq_true, beq_iff_eq, Bool.not_eq_true', decide_eq_true_eq] at h5
  obtain ⟨⟨⟨⟨⟨g1, g2⟩, g3⟩, g4⟩, g5⟩, g6⟩ := h5
  simp [Cond.before, Cond.holds, Cond.value, h1, h2, h3, h4, g1, g2, g3, g4, g5, g6]
def isCode : Jvm.Cond → Bool
  | .code _ _ _ _ => true
  | _ => false
theorem all_split {L : List Jvm.Cond} {P : Jvm.Cond → Bool} (h1 : L.all (fun c => isCode c || P c) = true) (h2 : ∀ c ∈ L.filter isCode, P c = true) : L.all P = true := by
  refine List.all_eq_true.mpr fun c hc => ?_
  have h := List.all_eq_true.mp h1 c hc
  rcases Bool.eq_false_or_eq_true (isCode c) with hi | hi
  · exact h2 c (List.mem_filter.mpr ⟨hc, hi⟩)
  · simpa [hi] using h
set_option maxRecDepth 65536 in
theorem w_c0 : (Jvm.Cond.code x code maxLocals ret).before args0 about1 = true := code_word (m := ⟨1, 1⟩) (meth := k1m1) (c := k1c1) (by decide +kernel) rfl rfl rfl (by decide +kernel)
set_option maxRecDepth 65536 in
theorem w_c1 : (Jvm.Cond.code ({ cls := "com/example/polypody/polypody/name/XmlSyntax", name := "isChar", desc := "(I)Z" } : Jvm.MethodName) prog_80_method_10_code (1 : Nat) (Option.some Jvm.ClassFile.FieldType.boolean)).before args0 about1 = true := code_word (m := ⟨2, 1⟩) (meth := k2m1) (c := k2c1) (by decide +kernel) rfl rfl rfl (by decide +kernel)
set_option maxRecDepth 65536 in
theorem w_c2 : (Jvm.Cond.code ({ cls := "com/example/polypody/polypody/name/XmlSyntaxIsCharPinLaw", name := "reference", desc := "(I)Z" } : Jvm.MethodName) method_3_code (1 : Nat) (Option.some Jvm.ClassFile.FieldType.boolean)).before args0 about1 = true := code_word (m := ⟨1, 2⟩) (meth := k1m2) (c := k1c2) (by decide +kernel) rfl rfl rfl (by decide +kernel)
def codes1 : List Jvm.Cond := [Jvm.Cond.code x code maxLocals ret, Jvm.Cond.code ({ cls := "com/example/polypody/polypody/name/XmlSyntax", name := "isChar", desc := "(I)Z" } : Jvm.MethodName) prog_80_method_10_code (1 : Nat) (Option.some Jvm.ClassFile.FieldType.boolean), Jvm.Cond.code ({ cls := "com/example/polypody/polypody/name/XmlSyntaxIsCharPinLaw", name := "reference", desc := "(I)Z" } : Jvm.MethodName) method_3_code (1 : Nat) (Option.some Jvm.ClassFile.FieldType.boolean)]
set_option maxRecDepth 65536 in
theorem codes_eq : words1.filter isCode = codes1 := rfl
theorem w_codes : ∀ c ∈ words1.filter isCode, c.before args0 about1 = true := by
  rw [codes_eq]
  intro c hc
  simp only [codes1, List.mem_cons, List.not_mem_nil, or_false] at hc
  rcases hc with rfl | rfl | rfl
  · exact w_c0
  · exact w_c1
  · exact w_c2
set_option maxRecDepth 65536 in
theorem w_t1 : (words1.take 24).all (fun c => isCode c || c.before args0 about1) = true := by decide +kernel
set_option maxRecDepth 65536 in
theorem w_t2 : (words1.drop 24).all (fun c => isCode c || c.before args0 about1) = true := by decide +kernel
theorem w_tables : (allAtoms (Jvm.Cond.code x code maxLocals ret :: tables_1)).before args0 about1 = true := by
  rw [allAtoms_all]
  show words1.all (fun c => c.before args0 about1) = true
  refine all_split ?_ w_codes
  rw [← List.take_append_drop 24 words1, List.all_append, w_t1, w_t2]
  rfl
set_option maxRecDepth 65536 in
theorem w_case : (Jvm.Cond.and given_1 narrow_1).before args0 about1 = true := by decide +kernel
theorem w_applies : (headSpec (Jvm.Cond.code x code maxLocals ret :: tables_1) room_1).applies x e0.platform about1 = true :=
  (Spec.applies_iff w_frames).mpr ⟨w_running, w_runnable, w_alone, w_named, w_hears, w_ripe, w_room, w_tables⟩
theorem atStart : AtStart classFile x code maxLocals ret World_1 tables_1 room_1 Calls_1 rest_1 Pre_1 launch0 p0 e0 about1 theMethod args0 below0 :=
  ⟨lists_1, trivial, launch0.admits_env _ _ _, launch0.least_env, fairChoices_fair.cas, fairChoices_fair.clock, w_frames, w_args, w_heap, w_applies, trivial, trivial, w_case⟩
end start1
theorem witness_1 : WitnessClaimed_1 := ⟨start1.p0, start1.e0, start1.about1, start1.theMethod, start1.args0, start1.below0, start1.atStart⟩
end Jvm.Pilot.@@N@@
