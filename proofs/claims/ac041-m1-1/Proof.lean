import JvmDerived
import JvmDerived.Pilot.@@N@@Statement
import JvmDerived.Pilot.@@N@@Code
set_option linter.unusedVariables false
set_option linter.unusedSimpArgs false
namespace Jvm.Pilot.@@N@@
open Jvm Jvm.ClassFile Sem Op Lib Jvm.Free Jvm.Stand Jvm.LawKit Jvm.RoadKit Bundle Jvm.Pilot.@@N@@.Jvm.D
section OwnLayer
/-- where the walk of the body y stands: after k cells and n slots made, with the heap h and the top frame g -/
def Rch (p : Program) (l : Launch) (e : Env) (R : Room) (s : State) (m : MethodId) (args : Array Value) (below : List Frame) (meth : Method) (c : Code) (Z : State) (y : MethodName) (bc : ByteArray) (ml : Nat) (rt : Option FieldType) (n0 : Nat) (T0 : State) (g0 : JFrame) (k n : Nat) (h : Heap) (g : JFrame) : Prop :=
  (p.tables.exec = Jvm.exec ∧ c.code = bc ∧ c.maxLocals = ml ∧ s.vm.findClass y.cls = some m.cls ∧ Z.Warmed39 s.vm ∧ meth.sig.returnType = rt ∧ meth.locks = false ∧ meth.name = y.name) ∧
  ∃ T locs, Stand p l e R s m args below meth c T locs k n ∧ T.heap = h ∧ Fr n0 locs ∧ ∀ target, Steps p.tables e below (T.setTop g) target → Steps p.tables e below (T0.setTop g0) target
/-- the body has returned v, with the heap h -/
def Don (p : Program) (l : Launch) (e : Env) (R : Room) (s : State) (m : MethodId) (args : Array Value) (below : List Frame) (meth : Method) (c : Code) (rt : Option FieldType) (n0 : Nat) (T0 : State) (g0 : JFrame) (v : Option Value) (h : Heap) : Prop :=
  ∃ T locs k n, Stand p l e R s m args below meth c T locs k n ∧ k ≤ R.cells ∧ n ≤ R.slots ∧ T.heap = h ∧ Fr n0 locs ∧ meth.locks = false ∧ (meth.sig.returnType = none → v = none) ∧
    ∀ fs, (∀ (f : JFrame) (acts : List Action), f.method = m → f.locked = none → f.entered = [] → (doReturn e (T.setTop f) acts v).1 = T.setFrames fs) → Steps p.tables e below (T0.setTop g0) (T.setFrames fs)
/-- a body's contract -/
def Ctr (l : Launch) (Z : State) (y : MethodName) (bc : ByteArray) (ml : Nat) (rt : Option FieldType) (rm : Room) (as : Array Value) (h0 : Heap) (n0 : Nat) (Q : Option Value → Heap → Prop) : Prop :=
  ∀ ws : List Jvm.Cond, MetFree l y (head1 (Jvm.Cond.code y bc ml rt :: ws) rm) (fun a U => a = as ∧ Z.Warmed39 U.vm ∧ U.heap = h0) (fun _ _ _ _ _ => True) (fun _ U o U' => ∃ v L, o = .returned v ∧ (Fr n0 L ∧ Q v U'.heap) ∧ FrameEnd U o U' L rm.cells rm.slots)
variable {p : Program} {l : Launch} {e : Env} {R : Room} {s : State} {m : MethodId} {args : Array Value} {below : List Frame} {meth : Method} {c : Code} {Z : State} {y : MethodName} {bc : ByteArray} {ml : Nat} {rt : Option FieldType} {n0 : Nat} {T0 : State} {g0 : JFrame} {k n : Nat} {h : Heap} {a0 : Array Value} {pc pc' : Nat} {L : Array Slot} {S : List Value}
theorem Rch.step {k' n' : Nat} {h' : Heap} {g g' : JFrame} (r : Rch p l e R s m args below meth c Z y bc ml rt n0 T0 g0 k n h g)
    (f : ∀ T locs, Stand p l e R s m args below meth c T locs k n → T.heap = h → Fr n0 locs → ∃ T' locs', Stand p l e R s m args below meth c T' locs' k' n' ∧ T'.heap = h' ∧ Fr n0 locs' ∧ ∀ target, Steps p.tables e below (T'.setTop g') target → Steps p.tables e below (T.setTop g) target) :
    Rch p l e R s m args below meth c Z y bc ml rt n0 T0 g0 k' n' h' g' := by
  obtain ⟨q, T, locs, X, eT, N, st⟩ := r
  obtain ⟨T', locs', X', eT', N', st'⟩ := f T locs X eT N
  exact ⟨q, T', locs', X', eT', N', fun t z => st t (st' t z)⟩
theorem Rch.pure {g g' : JFrame} (r : Rch p l e R s m args below meth c Z y bc ml rt n0 T0 g0 k n h g)
    (f : ∀ T locs, Stand p l e R s m args below meth c T locs k n → T.heap = h → ∀ target, Steps p.tables e below (T.setTop g') target → Steps p.tables e below (T.setTop g) target) :
    Rch p l e R s m args below meth c Z y bc ml rt n0 T0 g0 k n h g' :=
  r.step fun T locs X eT N => ⟨T, locs, X, eT, N, f T locs X eT⟩
theorem Rch.keep {g g' : JFrame} (r : Rch p l e R s m args below meth c Z y bc ml rt n0 T0 g0 k n h g)
    (f : ∀ T locs, Stand p l e R s m args below meth c T locs k n → T.heap = h → ∃ T', Stand p l e R s m args below meth c T' locs k n ∧ T'.heap = h ∧ ∀ target, Steps p.tables e below (T'.setTop g') target → Steps p.tables e below (T.setTop g) target) :
    Rch p l e R s m args below meth c Z y bc ml rt n0 T0 g0 k n h g' :=
  r.step fun T locs X eT N => by
    obtain ⟨T', X', e', st⟩ := f T locs X eT
    exact ⟨T', locs, X', e', N, st⟩
theorem Rch.widen {g : JFrame} {k' n' : Nat} (r : Rch p l e R s m args below meth c Z y bc ml rt n0 T0 g0 k n h g) (hk : k ≤ k') (hn : n ≤ n') : Rch p l e R s m args below meth c Z y bc ml rt n0 T0 g0 k' n' h g := by
  obtain ⟨q, T, locs, X, eT, N, st⟩ := r
  exact ⟨q, T, locs, ⟨X.admits, X.cas, X.clock, X.frames, X.room, X.hears, X.method, X.code, X.here, X.tail, X.warmed, X.limits, X.bytes, X.same.mono hk hn⟩, eT, N, st⟩
theorem Rch.eqh {g : JFrame} {h' : Heap} (r : Rch p l e R s m args below meth c Z y bc ml rt n0 T0 g0 k n h g) (q : h = h') : Rch p l e R s m args below meth c Z y bc ml rt n0 T0 g0 k n h' g := q ▸ r
theorem Rch.eqg {g g' : JFrame} (r : Rch p l e R s m args below meth c Z y bc ml rt n0 T0 g0 k n h g) (q : g = g') : Rch p l e R s m args below meth c Z y bc ml rt n0 T0 g0 k n h g' := q ▸ r
-- loads and stores
theorem Rch.iloadN (r : Rch p l e R s m args below meth c Z y bc ml rt n0 T0 g0 k n h (mkF m pc L S)) {i : Fin 4} {v : Int32} (hd : decode bc pc = .ok (.iload_n i, 1)) (hl : L[i.val]? = some (.val (.int v))) (hp : pc + 1 = pc') : Rch p l e R s m args below meth c Z y bc ml rt n0 T0 g0 k n h (mkF m pc' L (.int v :: S)) := by
  subst hp; exact r.pure fun T locs X eT t z => XS.iloadN X.here r.1.1 rfl (hb r.1.2.1 hd) hl z
theorem Rch.iload (r : Rch p l e R s m args below meth c Z y bc ml rt n0 T0 g0 k n h (mkF m pc L S)) {i : Nat} {v : Int32} (hd : decode bc pc = .ok (.iload i, 2)) (hl : L[i]? = some (.val (.int v))) (hp : pc + 2 = pc') : Rch p l e R s m args below meth c Z y bc ml rt n0 T0 g0 k n h (mkF m pc' L (.int v :: S)) := by
  subst hp; exact r.pure fun T locs X eT t z => XS.iload X.here r.1.1 rfl (hb r.1.2.1 hd) hl z
theorem Rch.lloadN (r : Rch p l e R s m args below meth c Z y bc ml rt n0 T0 g0 k n h (mkF m pc L S)) {i : Fin 4} {v : Int64} (hd : decode bc pc = .ok (.lload_n i, 1)) (hl : L[i.val]? = some (.val (.long v))) (hp : pc + 1 = pc') : Rch p l e R s m args below meth c Z y bc ml rt n0 T0 g0 k n h (mkF m pc' L (.long v :: S)) := by
  subst hp; exact r.pure fun T locs X eT t z => XS.lloadN X.here r.1.1 rfl (hb r.1.2.1 hd) hl z
theorem Rch.lload (r : Rch p l e R s m args below meth c Z y bc ml rt n0 T0 g0 k n h (mkF m pc L S)) {i : Nat} {v : Int64} (hd : decode bc pc = .ok (.lload i, 2)) (hl : L[i]? = some (.val (.long v))) (hp : pc + 2 = pc') : Rch p l e R s m args below meth c Z y bc ml rt n0 T0 g0 k n h (mkF m pc' L (.long v :: S)) := by
  subst hp; exact r.pure fun T locs X eT t z => XS.lload X.here r.1.1 rfl (hb r.1.2.1 hd) hl z
theorem Rch.aloadN (r : Rch p l e R s m args below meth c Z y bc ml rt n0 T0 g0 k n h (mkF m pc L S)) {i : Fin 4} {v : Value} (hd : decode bc pc = .ok (.aload_n i, 1)) (hl : L[i.val]? = some (.val v)) (hv : v.isRef = true) (hp : pc + 1 = pc') : Rch p l e R s m args below meth c Z y bc ml rt n0 T0 g0 k n h (mkF m pc' L (v :: S)) := by
  subst hp; exact r.pure fun T locs X eT t z => XS.aloadN X.here r.1.1 rfl (hb r.1.2.1 hd) hl hv z
theorem Rch.aload (r : Rch p l e R s m args below meth c Z y bc ml rt n0 T0 g0 k n h (mkF m pc L S)) {i : Nat} {v : Value} (hd : decode bc pc = .ok (.aload i, 2)) (hl : L[i]? = some (.val v)) (hv : v.isRef = true) (hp : pc + 2 = pc') : Rch p l e R s m args below meth c Z y bc ml rt n0 T0 g0 k n h (mkF m pc' L (v :: S)) := by
  subst hp; exact r.pure fun T locs X eT t z => XS.aload X.here r.1.1 rfl (hb r.1.2.1 hd) hl hv z
theorem Rch.istoreN {i : Fin 4} {v : Int32} {L' : Array Slot} (r : Rch p l e R s m args below meth c Z y bc ml rt n0 T0 g0 k n h (mkF m pc L (.int v :: S))) (hd : decode bc pc = .ok (.istore_n i, 1)) (hl : storeLocals L i.val (.int v) = some L') (hp : pc + 1 = pc') : Rch p l e R s m args below meth c Z y bc ml rt n0 T0 g0 k n h (mkF m pc' L' S) := by
  subst hp; exact r.pure fun T locs X eT t z => XS.istoreN X.here r.1.1 rfl (hb r.1.2.1 hd) rfl hl z
theorem Rch.istore {i : Nat} {v : Int32} {L' : Array Slot} (r : Rch p l e R s m args below meth c Z y bc ml rt n0 T0 g0 k n h (mkF m pc L (.int v :: S))) (hd : decode bc pc = .ok (.istore i, 2)) (hl : storeLocals L i (.int v) = some L') (hp : pc + 2 = pc') : Rch p l e R s m args below meth c Z y bc ml rt n0 T0 g0 k n h (mkF m pc' L' S) := by
  subst hp; exact r.pure fun T locs X eT t z => XS.istore X.here r.1.1 rfl (hb r.1.2.1 hd) rfl hl z
theorem Rch.lstoreN {i : Fin 4} {v : Int64} {L' : Array Slot} (r : Rch p l e R s m args below meth c Z y bc ml rt n0 T0 g0 k n h (mkF m pc L (.long v :: S))) (hd : decode bc pc = .ok (.lstore_n i, 1)) (hl : storeLocals L i.val (.long v) = some L') (hp : pc + 1 = pc') : Rch p l e R s m args below meth c Z y bc ml rt n0 T0 g0 k n h (mkF m pc' L' S) := by
  subst hp; exact r.pure fun T locs X eT t z => XS.lstoreN X.here r.1.1 rfl (hb r.1.2.1 hd) rfl hl z
theorem Rch.lstore {i : Nat} {v : Int64} {L' : Array Slot} (r : Rch p l e R s m args below meth c Z y bc ml rt n0 T0 g0 k n h (mkF m pc L (.long v :: S))) (hd : decode bc pc = .ok (.lstore i, 2)) (hl : storeLocals L i (.long v) = some L') (hp : pc + 2 = pc') : Rch p l e R s m args below meth c Z y bc ml rt n0 T0 g0 k n h (mkF m pc' L' S) := by
  subst hp; exact r.pure fun T locs X eT t z => XS.lstore X.here r.1.1 rfl (hb r.1.2.1 hd) rfl hl z
theorem Rch.astoreN {i : Fin 4} {v : Value} {L' : Array Slot} (r : Rch p l e R s m args below meth c Z y bc ml rt n0 T0 g0 k n h (mkF m pc L (v :: S))) (hd : decode bc pc = .ok (.astore_n i, 1)) (hv : v.isRef = true) (hl : storeLocals L i.val v = some L') (hp : pc + 1 = pc') : Rch p l e R s m args below meth c Z y bc ml rt n0 T0 g0 k n h (mkF m pc' L' S) := by
  subst hp; exact r.pure fun T locs X eT t z => XS.astoreN X.here r.1.1 rfl (hb r.1.2.1 hd) rfl hv hl z
theorem Rch.astore {i : Nat} {v : Value} {L' : Array Slot} (r : Rch p l e R s m args below meth c Z y bc ml rt n0 T0 g0 k n h (mkF m pc L (v :: S))) (hd : decode bc pc = .ok (.astore i, 2)) (hv : v.isRef = true) (hl : storeLocals L i v = some L') (hp : pc + 2 = pc') : Rch p l e R s m args below meth c Z y bc ml rt n0 T0 g0 k n h (mkF m pc' L' S) := by
  subst hp; exact r.pure fun T locs X eT t z => XS.astore X.here r.1.1 rfl (hb r.1.2.1 hd) rfl hv hl z
theorem Rch.iinc {i : Nat} {cst : Int} {v u : Int32} {L' : Array Slot} (r : Rch p l e R s m args below meth c Z y bc ml rt n0 T0 g0 k n h (mkF m pc L S)) (w : Int32) (hd : decode bc pc = .ok (.iinc i cst, 3)) (hw : Int32.ofInt cst = w) (hl : L[i]? = some (.val (.int v))) (hu : v + w = u) (hl' : storeLocals L i (.int u) = some L') (hp : pc + 3 = pc') : Rch p l e R s m args below meth c Z y bc ml rt n0 T0 g0 k n h (mkF m pc' L' S) := by
  subst hp hu hw; exact r.pure fun T locs X eT t z => XS.iinc X.here r.1.1 rfl (hb r.1.2.1 hd) hl hl' z
-- constants
theorem Rch.iconst (r : Rch p l e R s m args below meth c Z y bc ml rt n0 T0 g0 k n h (mkF m pc L S)) {i : Int} (w : Int32) (hd : decode bc pc = .ok (.iconst i, 1)) (hw : Int32.ofInt i = w) (hp : pc + 1 = pc') : Rch p l e R s m args below meth c Z y bc ml rt n0 T0 g0 k n h (mkF m pc' L (.int w :: S)) := by
  subst hp hw; exact r.pure fun T locs X eT t z => XS.iconst X.here r.1.1 rfl (hb r.1.2.1 hd) z
theorem Rch.bipush (r : Rch p l e R s m args below meth c Z y bc ml rt n0 T0 g0 k n h (mkF m pc L S)) {i : Int} (w : Int32) (hd : decode bc pc = .ok (.bipush i, 2)) (hw : (Int8.ofInt i).toInt32 = w) (hp : pc + 2 = pc') : Rch p l e R s m args below meth c Z y bc ml rt n0 T0 g0 k n h (mkF m pc' L (.int w :: S)) := by
  subst hp hw; exact r.pure fun T locs X eT t z => XS.bipush X.here r.1.1 rfl (hb r.1.2.1 hd) z
theorem Rch.sipush (r : Rch p l e R s m args below meth c Z y bc ml rt n0 T0 g0 k n h (mkF m pc L S)) {i : Int} (w : Int32) (hd : decode bc pc = .ok (.sipush i, 3)) (hw : (Int16.ofInt i).toInt32 = w) (hp : pc + 3 = pc') : Rch p l e R s m args below meth c Z y bc ml rt n0 T0 g0 k n h (mkF m pc' L (.int w :: S)) := by
  subst hp hw; exact r.pure fun T locs X eT t z => XS.sipush X.here r.1.1 rfl (hb r.1.2.1 hd) z
theorem Rch.lconst (r : Rch p l e R s m args below meth c Z y bc ml rt n0 T0 g0 k n h (mkF m pc L S)) {i : Fin 2} (w : Int64) (hd : decode bc pc = .ok (.lconst i, 1)) (hw : Int64.ofNat i = w) (hp : pc + 1 = pc') : Rch p l e R s m args below meth c Z y bc ml rt n0 T0 g0 k n h (mkF m pc' L (.long w :: S)) := by
  subst hp hw; exact r.pure fun T locs X eT t z => XS.lconst X.here r.1.1 rfl (hb r.1.2.1 hd) z
theorem Rch.anull (r : Rch p l e R s m args below meth c Z y bc ml rt n0 T0 g0 k n h (mkF m pc L S)) (hd : decode bc pc = .ok (.aconst_null, 1)) (hp : pc + 1 = pc') : Rch p l e R s m args below meth c Z y bc ml rt n0 T0 g0 k n h (mkF m pc' L (.null :: S)) := by
  subst hp; exact r.pure fun T locs X eT t z => XS.aconstNull X.here r.1.1 rfl (hb r.1.2.1 hd) z
theorem Rch.ldc (r : Rch p l e R s m args below meth c Z y bc ml rt n0 T0 g0 k n h (mkF m pc L S)) {i : Nat} {w : Int32} (hd : decode bc pc = .ok (.ldc i, 2)) (hc : (Jvm.Cond.constant y.cls i w).before a0 Z = true) (hp : pc + 2 = pc') : Rch p l e R s m args below meth c Z y bc ml rt n0 T0 g0 k n h (mkF m pc' L (.int w :: S)) := by
  subst hp; exact r.pure fun T locs X eT t z => X.ldcInt r.1.1 r.1.2.2.2.1 (mvT r.1.2.2.2.2.1 hc) (g := mkF m pc L S) rfl (hb r.1.2.1 hd) t z
theorem Rch.ldcw (r : Rch p l e R s m args below meth c Z y bc ml rt n0 T0 g0 k n h (mkF m pc L S)) {i : Nat} {w : Int32} (hd : decode bc pc = .ok (.ldc_w i, 3)) (hc : (Jvm.Cond.constant y.cls i w).before a0 Z = true) (hp : pc + 3 = pc') : Rch p l e R s m args below meth c Z y bc ml rt n0 T0 g0 k n h (mkF m pc' L (.int w :: S)) := by
  subst hp; exact r.pure fun T locs X eT t z => X.ldcwInt r.1.1 r.1.2.2.2.1 (mvT r.1.2.2.2.2.1 hc) (g := mkF m pc L S) rfl (hb r.1.2.1 hd) t z
theorem Rch.ldc2 (r : Rch p l e R s m args below meth c Z y bc ml rt n0 T0 g0 k n h (mkF m pc L S)) {i : Nat} {w : Int64} (hd : decode bc pc = .ok (.ldc2_w i, 3)) (hc : (Jvm.Cond.constantLong y.cls i w).before a0 Z = true) (hp : pc + 3 = pc') : Rch p l e R s m args below meth c Z y bc ml rt n0 T0 g0 k n h (mkF m pc' L (.long w :: S)) := by
  subst hp; exact r.pure fun T locs X eT t z => X.ldc2Long r.1.1 r.1.2.2.2.1 (mvT r.1.2.2.2.2.1 hc) (g := mkF m pc L S) rfl (hb r.1.2.1 hd) t z
-- sums and the like
theorem Rch.iadd {a : Int32} {b : Int32} {u : Int32} (r : Rch p l e R s m args below meth c Z y bc ml rt n0 T0 g0 k n h (mkF m pc L (.int b :: .int a :: S))) (hd : decode bc pc = .ok (.iadd, 1)) (hu : a + b = u) (hp : pc + 1 = pc') : Rch p l e R s m args below meth c Z y bc ml rt n0 T0 g0 k n h (mkF m pc' L (.int u :: S)) := by
  subst hp hu; exact r.pure fun T locs X eT t z => XS.iadd X.here r.1.1 rfl (hb r.1.2.1 hd) rfl z
theorem Rch.isub {a : Int32} {b : Int32} {u : Int32} (r : Rch p l e R s m args below meth c Z y bc ml rt n0 T0 g0 k n h (mkF m pc L (.int b :: .int a :: S))) (hd : decode bc pc = .ok (.isub, 1)) (hu : a - b = u) (hp : pc + 1 = pc') : Rch p l e R s m args below meth c Z y bc ml rt n0 T0 g0 k n h (mkF m pc' L (.int u :: S)) := by
  subst hp hu; exact r.pure fun T locs X eT t z => XS.isub X.here r.1.1 rfl (hb r.1.2.1 hd) rfl z
theorem Rch.imul {a : Int32} {b : Int32} {u : Int32} (r : Rch p l e R s m args below meth c Z y bc ml rt n0 T0 g0 k n h (mkF m pc L (.int b :: .int a :: S))) (hd : decode bc pc = .ok (.imul, 1)) (hu : a * b = u) (hp : pc + 1 = pc') : Rch p l e R s m args below meth c Z y bc ml rt n0 T0 g0 k n h (mkF m pc' L (.int u :: S)) := by
  subst hp hu; exact r.pure fun T locs X eT t z => XS.imul X.here r.1.1 rfl (hb r.1.2.1 hd) rfl z
theorem Rch.iand {a : Int32} {b : Int32} {u : Int32} (r : Rch p l e R s m args below meth c Z y bc ml rt n0 T0 g0 k n h (mkF m pc L (.int b :: .int a :: S))) (hd : decode bc pc = .ok (.iand, 1)) (hu : a &&& b = u) (hp : pc + 1 = pc') : Rch p l e R s m args below meth c Z y bc ml rt n0 T0 g0 k n h (mkF m pc' L (.int u :: S)) := by
  subst hp hu; exact r.pure fun T locs X eT t z => XS.iand X.here r.1.1 rfl (hb r.1.2.1 hd) rfl z
theorem Rch.ior {a : Int32} {b : Int32} {u : Int32} (r : Rch p l e R s m args below meth c Z y bc ml rt n0 T0 g0 k n h (mkF m pc L (.int b :: .int a :: S))) (hd : decode bc pc = .ok (.ior, 1)) (hu : a ||| b = u) (hp : pc + 1 = pc') : Rch p l e R s m args below meth c Z y bc ml rt n0 T0 g0 k n h (mkF m pc' L (.int u :: S)) := by
  subst hp hu; exact r.pure fun T locs X eT t z => XS.ior X.here r.1.1 rfl (hb r.1.2.1 hd) rfl z
theorem Rch.ixor {a : Int32} {b : Int32} {u : Int32} (r : Rch p l e R s m args below meth c Z y bc ml rt n0 T0 g0 k n h (mkF m pc L (.int b :: .int a :: S))) (hd : decode bc pc = .ok (.ixor, 1)) (hu : a ^^^ b = u) (hp : pc + 1 = pc') : Rch p l e R s m args below meth c Z y bc ml rt n0 T0 g0 k n h (mkF m pc' L (.int u :: S)) := by
  subst hp hu; exact r.pure fun T locs X eT t z => XS.ixor X.here r.1.1 rfl (hb r.1.2.1 hd) rfl z
theorem Rch.ladd {a : Int64} {b : Int64} {u : Int64} (r : Rch p l e R s m args below meth c Z y bc ml rt n0 T0 g0 k n h (mkF m pc L (.long b :: .long a :: S))) (hd : decode bc pc = .ok (.ladd, 1)) (hu : a + b = u) (hp : pc + 1 = pc') : Rch p l e R s m args below meth c Z y bc ml rt n0 T0 g0 k n h (mkF m pc' L (.long u :: S)) := by
  subst hp hu; exact r.pure fun T locs X eT t z => XS.ladd X.here r.1.1 rfl (hb r.1.2.1 hd) rfl z
theorem Rch.lsub {a : Int64} {b : Int64} {u : Int64} (r : Rch p l e R s m args below meth c Z y bc ml rt n0 T0 g0 k n h (mkF m pc L (.long b :: .long a :: S))) (hd : decode bc pc = .ok (.lsub, 1)) (hu : a - b = u) (hp : pc + 1 = pc') : Rch p l e R s m args below meth c Z y bc ml rt n0 T0 g0 k n h (mkF m pc' L (.long u :: S)) := by
  subst hp hu; exact r.pure fun T locs X eT t z => XS.lsub X.here r.1.1 rfl (hb r.1.2.1 hd) rfl z
theorem Rch.lmul {a : Int64} {b : Int64} {u : Int64} (r : Rch p l e R s m args below meth c Z y bc ml rt n0 T0 g0 k n h (mkF m pc L (.long b :: .long a :: S))) (hd : decode bc pc = .ok (.lmul, 1)) (hu : a * b = u) (hp : pc + 1 = pc') : Rch p l e R s m args below meth c Z y bc ml rt n0 T0 g0 k n h (mkF m pc' L (.long u :: S)) := by
  subst hp hu; exact r.pure fun T locs X eT t z => XS.lmul X.here r.1.1 rfl (hb r.1.2.1 hd) rfl z
theorem Rch.land {a : Int64} {b : Int64} {u : Int64} (r : Rch p l e R s m args below meth c Z y bc ml rt n0 T0 g0 k n h (mkF m pc L (.long b :: .long a :: S))) (hd : decode bc pc = .ok (.land, 1)) (hu : a &&& b = u) (hp : pc + 1 = pc') : Rch p l e R s m args below meth c Z y bc ml rt n0 T0 g0 k n h (mkF m pc' L (.long u :: S)) := by
  subst hp hu; exact r.pure fun T locs X eT t z => XS.land X.here r.1.1 rfl (hb r.1.2.1 hd) rfl z
theorem Rch.lor {a : Int64} {b : Int64} {u : Int64} (r : Rch p l e R s m args below meth c Z y bc ml rt n0 T0 g0 k n h (mkF m pc L (.long b :: .long a :: S))) (hd : decode bc pc = .ok (.lor, 1)) (hu : a ||| b = u) (hp : pc + 1 = pc') : Rch p l e R s m args below meth c Z y bc ml rt n0 T0 g0 k n h (mkF m pc' L (.long u :: S)) := by
  subst hp hu; exact r.pure fun T locs X eT t z => XS.lor X.here r.1.1 rfl (hb r.1.2.1 hd) rfl z
theorem Rch.lxor {a : Int64} {b : Int64} {u : Int64} (r : Rch p l e R s m args below meth c Z y bc ml rt n0 T0 g0 k n h (mkF m pc L (.long b :: .long a :: S))) (hd : decode bc pc = .ok (.lxor, 1)) (hu : a ^^^ b = u) (hp : pc + 1 = pc') : Rch p l e R s m args below meth c Z y bc ml rt n0 T0 g0 k n h (mkF m pc' L (.long u :: S)) := by
  subst hp hu; exact r.pure fun T locs X eT t z => XS.lxor X.here r.1.1 rfl (hb r.1.2.1 hd) rfl z
theorem Rch.ishl {a : Int32} {b : Int32} {u : Int32} (r : Rch p l e R s m args below meth c Z y bc ml rt n0 T0 g0 k n h (mkF m pc L (.int b :: .int a :: S))) (hd : decode bc pc = .ok (.ishl, 1)) (hu : a <<< (b &&& 31) = u) (hp : pc + 1 = pc') : Rch p l e R s m args below meth c Z y bc ml rt n0 T0 g0 k n h (mkF m pc' L (.int u :: S)) := by
  subst hp hu; exact r.pure fun T locs X eT t z => XS.ishl X.here r.1.1 rfl (hb r.1.2.1 hd) rfl z
theorem Rch.ishr {a : Int32} {b : Int32} {u : Int32} (r : Rch p l e R s m args below meth c Z y bc ml rt n0 T0 g0 k n h (mkF m pc L (.int b :: .int a :: S))) (hd : decode bc pc = .ok (.ishr, 1)) (hu : a >>> (b &&& 31) = u) (hp : pc + 1 = pc') : Rch p l e R s m args below meth c Z y bc ml rt n0 T0 g0 k n h (mkF m pc' L (.int u :: S)) := by
  subst hp hu; exact r.pure fun T locs X eT t z => XS.ishr X.here r.1.1 rfl (hb r.1.2.1 hd) rfl z
theorem Rch.iushr {a : Int32} {b : Int32} {u : Int32} (r : Rch p l e R s m args below meth c Z y bc ml rt n0 T0 g0 k n h (mkF m pc L (.int b :: .int a :: S))) (hd : decode bc pc = .ok (.iushr, 1)) (hu : (a.toUInt32 >>> (b &&& 31).toUInt32).toInt32 = u) (hp : pc + 1 = pc') : Rch p l e R s m args below meth c Z y bc ml rt n0 T0 g0 k n h (mkF m pc' L (.int u :: S)) := by
  subst hp hu; exact r.pure fun T locs X eT t z => XS.iushr X.here r.1.1 rfl (hb r.1.2.1 hd) rfl z
theorem Rch.lcmp {a : Int64} {b : Int64} {u : Int32} (r : Rch p l e R s m args below meth c Z y bc ml rt n0 T0 g0 k n h (mkF m pc L (.long b :: .long a :: S))) (hd : decode bc pc = .ok (.lcmp, 1)) (hu : lcmpW a b = u) (hp : pc + 1 = pc') : Rch p l e R s m args below meth c Z y bc ml rt n0 T0 g0 k n h (mkF m pc' L (.int u :: S)) := by
  subst hp hu; exact r.pure fun T locs X eT t z => XS.lcmp X.here r.1.1 rfl (hb r.1.2.1 hd) rfl z
theorem Rch.idiv {a : Int32} {b : Int32} {u : Int32} (r : Rch p l e R s m args below meth c Z y bc ml rt n0 T0 g0 k n h (mkF m pc L (.int b :: .int a :: S))) (hd : decode bc pc = .ok (.idiv, 1)) (h0 : b ≠ 0) (hu : a / b = u) (hp : pc + 1 = pc') : Rch p l e R s m args below meth c Z y bc ml rt n0 T0 g0 k n h (mkF m pc' L (.int u :: S)) := by
  subst hp hu; exact r.pure fun T locs X eT t z => XS.idiv X.here r.1.1 rfl (hb r.1.2.1 hd) rfl h0 z
theorem Rch.irem {a : Int32} {b : Int32} {u : Int32} (r : Rch p l e R s m args below meth c Z y bc ml rt n0 T0 g0 k n h (mkF m pc L (.int b :: .int a :: S))) (hd : decode bc pc = .ok (.irem, 1)) (h0 : b ≠ 0) (hu : a % b = u) (hp : pc + 1 = pc') : Rch p l e R s m args below meth c Z y bc ml rt n0 T0 g0 k n h (mkF m pc' L (.int u :: S)) := by
  subst hp hu; exact r.pure fun T locs X eT t z => iremM X r.1.1 rfl (hb r.1.2.1 hd) rfl h0 z
theorem Rch.ineg {a : Int32} {u : Int32} (r : Rch p l e R s m args below meth c Z y bc ml rt n0 T0 g0 k n h (mkF m pc L (.int a :: S))) (hd : decode bc pc = .ok (.ineg, 1)) (hu : -a = u) (hp : pc + 1 = pc') : Rch p l e R s m args below meth c Z y bc ml rt n0 T0 g0 k n h (mkF m pc' L (.int u :: S)) := by
  subst hp hu; exact r.pure fun T locs X eT t z => XS.ineg X.here r.1.1 rfl (hb r.1.2.1 hd) rfl z
theorem Rch.lneg {a : Int64} {u : Int64} (r : Rch p l e R s m args below meth c Z y bc ml rt n0 T0 g0 k n h (mkF m pc L (.long a :: S))) (hd : decode bc pc = .ok (.lneg, 1)) (hu : -a = u) (hp : pc + 1 = pc') : Rch p l e R s m args below meth c Z y bc ml rt n0 T0 g0 k n h (mkF m pc' L (.long u :: S)) := by
  subst hp hu; exact r.pure fun T locs X eT t z => XS.lneg X.here r.1.1 rfl (hb r.1.2.1 hd) rfl z
theorem Rch.i2l {a : Int32} {u : Int64} (r : Rch p l e R s m args below meth c Z y bc ml rt n0 T0 g0 k n h (mkF m pc L (.int a :: S))) (hd : decode bc pc = .ok (.i2l, 1)) (hu : a.toInt64 = u) (hp : pc + 1 = pc') : Rch p l e R s m args below meth c Z y bc ml rt n0 T0 g0 k n h (mkF m pc' L (.long u :: S)) := by
  subst hp hu; exact r.pure fun T locs X eT t z => XS.i2l X.here r.1.1 rfl (hb r.1.2.1 hd) rfl z
theorem Rch.l2i {a : Int64} {u : Int32} (r : Rch p l e R s m args below meth c Z y bc ml rt n0 T0 g0 k n h (mkF m pc L (.long a :: S))) (hd : decode bc pc = .ok (.l2i, 1)) (hu : a.toInt32 = u) (hp : pc + 1 = pc') : Rch p l e R s m args below meth c Z y bc ml rt n0 T0 g0 k n h (mkF m pc' L (.int u :: S)) := by
  subst hp hu; exact r.pure fun T locs X eT t z => XS.l2i X.here r.1.1 rfl (hb r.1.2.1 hd) rfl z
theorem Rch.i2b {a : Int32} {u : Int32} (r : Rch p l e R s m args below meth c Z y bc ml rt n0 T0 g0 k n h (mkF m pc L (.int a :: S))) (hd : decode bc pc = .ok (.i2b, 1)) (hu : a.toInt8.toInt32 = u) (hp : pc + 1 = pc') : Rch p l e R s m args below meth c Z y bc ml rt n0 T0 g0 k n h (mkF m pc' L (.int u :: S)) := by
  subst hp hu; exact r.pure fun T locs X eT t z => XS.i2b X.here r.1.1 rfl (hb r.1.2.1 hd) rfl z
theorem Rch.i2s {a : Int32} {u : Int32} (r : Rch p l e R s m args below meth c Z y bc ml rt n0 T0 g0 k n h (mkF m pc L (.int a :: S))) (hd : decode bc pc = .ok (.i2s, 1)) (hu : a.toInt16.toInt32 = u) (hp : pc + 1 = pc') : Rch p l e R s m args below meth c Z y bc ml rt n0 T0 g0 k n h (mkF m pc' L (.int u :: S)) := by
  subst hp hu; exact r.pure fun T locs X eT t z => XS.i2s X.here r.1.1 rfl (hb r.1.2.1 hd) rfl z
theorem Rch.i2c {a : Int32} {u : Int32} (r : Rch p l e R s m args below meth c Z y bc ml rt n0 T0 g0 k n h (mkF m pc L (.int a :: S))) (hd : decode bc pc = .ok (.i2c, 1)) (hu : a.toUInt32.toUInt16.toUInt32.toInt32 = u) (hp : pc + 1 = pc') : Rch p l e R s m args below meth c Z y bc ml rt n0 T0 g0 k n h (mkF m pc' L (.int u :: S)) := by
  subst hp hu; exact r.pure fun T locs X eT t z => XS.i2c X.here r.1.1 rfl (hb r.1.2.1 hd) rfl z
theorem Rch.lshl {a : Int64} {b : Int32} {u : Int64} (r : Rch p l e R s m args below meth c Z y bc ml rt n0 T0 g0 k n h (mkF m pc L (.int b :: .long a :: S))) (hd : decode bc pc = .ok (.lshl, 1)) (hu : a <<< (b &&& 0x3f).toInt64 = u) (hp : pc + 1 = pc') : Rch p l e R s m args below meth c Z y bc ml rt n0 T0 g0 k n h (mkF m pc' L (.long u :: S)) := by
  subst hp hu; exact r.pure fun T locs X eT t z => XS.lshl X.here r.1.1 rfl (hb r.1.2.1 hd) rfl z
theorem Rch.lshr {a : Int64} {b : Int32} {u : Int64} (r : Rch p l e R s m args below meth c Z y bc ml rt n0 T0 g0 k n h (mkF m pc L (.int b :: .long a :: S))) (hd : decode bc pc = .ok (.lshr, 1)) (hu : a >>> (b &&& 0x3f).toInt64 = u) (hp : pc + 1 = pc') : Rch p l e R s m args below meth c Z y bc ml rt n0 T0 g0 k n h (mkF m pc' L (.long u :: S)) := by
  subst hp hu; exact r.pure fun T locs X eT t z => XS.lshr X.here r.1.1 rfl (hb r.1.2.1 hd) rfl z
theorem Rch.lushr {a : Int64} {b : Int32} {u : Int64} (r : Rch p l e R s m args below meth c Z y bc ml rt n0 T0 g0 k n h (mkF m pc L (.int b :: .long a :: S))) (hd : decode bc pc = .ok (.lushr, 1)) (hu : (a.toUInt64 >>> (b &&& 0x3f).toInt64.toUInt64).toInt64 = u) (hp : pc + 1 = pc') : Rch p l e R s m args below meth c Z y bc ml rt n0 T0 g0 k n h (mkF m pc' L (.long u :: S)) := by
  subst hp hu; exact r.pure fun T locs X eT t z => XS.lushr X.here r.1.1 rfl (hb r.1.2.1 hd) rfl z
theorem Rch.dup {v : Value} (r : Rch p l e R s m args below meth c Z y bc ml rt n0 T0 g0 k n h (mkF m pc L (v :: S))) (hd : decode bc pc = .ok (.dup, 1)) (hv : v.category = 1) (hp : pc + 1 = pc') : Rch p l e R s m args below meth c Z y bc ml rt n0 T0 g0 k n h (mkF m pc' L (v :: v :: S)) := by
  subst hp; exact r.pure fun T locs X eT t z => XS.dup X.here r.1.1 rfl (hb r.1.2.1 hd) rfl hv z
theorem Rch.dupx1 {v w : Value} (r : Rch p l e R s m args below meth c Z y bc ml rt n0 T0 g0 k n h (mkF m pc L (v :: w :: S))) (hd : decode bc pc = .ok (.dup_x1, 1)) (hv : v.category = 1) (hw : w.category = 1) (hp : pc + 1 = pc') : Rch p l e R s m args below meth c Z y bc ml rt n0 T0 g0 k n h (mkF m pc' L (v :: w :: v :: S)) := by
  subst hp; exact r.pure fun T locs X eT t z => XS.dupX1 X.here r.1.1 rfl (hb r.1.2.1 hd) rfl hv hw z
theorem Rch.dup2 {v w : Value} (r : Rch p l e R s m args below meth c Z y bc ml rt n0 T0 g0 k n h (mkF m pc L (v :: w :: S))) (hd : decode bc pc = .ok (.dup2, 1)) (hv : v.category = 1) (hw : w.category = 1) (hp : pc + 1 = pc') : Rch p l e R s m args below meth c Z y bc ml rt n0 T0 g0 k n h (mkF m pc' L (v :: w :: v :: w :: S)) := by
  subst hp
  refine r.pure fun T locs X eT t z => ?_
  have hx := r.1.1
  have hd' := hb r.1.2.1 hd
  jvm_step X.here [X.here.top, hx, hd', hv, hw]
  exact z
theorem Rch.dupx2 {v w u : Value} (r : Rch p l e R s m args below meth c Z y bc ml rt n0 T0 g0 k n h (mkF m pc L (v :: w :: u :: S))) (hd : decode bc pc = .ok (.dup_x2, 1)) (hv : v.category = 1) (hw : w.category = 1) (hu : u.category = 1) (hp : pc + 1 = pc') : Rch p l e R s m args below meth c Z y bc ml rt n0 T0 g0 k n h (mkF m pc' L (v :: w :: u :: v :: S)) := by
  subst hp
  refine r.pure fun T locs X eT t z => ?_
  have hx := r.1.1
  have hd' := hb r.1.2.1 hd
  jvm_step X.here [X.here.top, hx, hd', hv, hw, hu]
  exact z
theorem Rch.pop {v : Value} (r : Rch p l e R s m args below meth c Z y bc ml rt n0 T0 g0 k n h (mkF m pc L (v :: S))) (hd : decode bc pc = .ok (.pop, 1)) (hv : v.category = 1) (hp : pc + 1 = pc') : Rch p l e R s m args below meth c Z y bc ml rt n0 T0 g0 k n h (mkF m pc' L S) := by
  subst hp; exact r.pure fun T locs X eT t z => XS.pop X.here r.1.1 rfl (hb r.1.2.1 hd) rfl hv z
-- branches
theorem Rch.goto {o : Int} (r : Rch p l e R s m args below meth c Z y bc ml rt n0 T0 g0 k n h (mkF m pc L S)) (hd : decode bc pc = .ok (.goto o, 3)) (ho : 0 ≤ (pc : Int) + o) (hp : ((pc : Int) + o).toNat = pc') : Rch p l e R s m args below meth c Z y bc ml rt n0 T0 g0 k n h (mkF m pc' L S) :=
  r.pure fun T locs X eT t z => XS.goto X.here r.1.1 rfl (pc0 := pc) rfl (hb r.1.2.1 hd) ho hp z
theorem Rch.icT {cd : ClassFile.Cond} {x w : Int32} {o : Int} (r : Rch p l e R s m args below meth c Z y bc ml rt n0 T0 g0 k n h (mkF m pc L (.int w :: .int x :: S))) (hd : decode bc pc = .ok (.if_icmp cd o, 3)) (hc : if_icmp.holds cd x w = true) (ho : 0 ≤ (pc : Int) + o) (hp : ((pc : Int) + o).toNat = pc') : Rch p l e R s m args below meth c Z y bc ml rt n0 T0 g0 k n h (mkF m pc' L S) :=
  r.pure fun T locs X eT t z => XS.icmpYes X.here r.1.1 rfl (pc0 := pc) rfl (hb r.1.2.1 hd) rfl hc ho hp z
theorem Rch.icF {cd : ClassFile.Cond} {x w : Int32} {o : Int} (r : Rch p l e R s m args below meth c Z y bc ml rt n0 T0 g0 k n h (mkF m pc L (.int w :: .int x :: S))) (hd : decode bc pc = .ok (.if_icmp cd o, 3)) (hc : if_icmp.holds cd x w = false) (hp : pc + 3 = pc') : Rch p l e R s m args below meth c Z y bc ml rt n0 T0 g0 k n h (mkF m pc' L S) := by
  subst hp; exact r.pure fun T locs X eT t z => XS.icmpNo X.here r.1.1 rfl (hb r.1.2.1 hd) rfl hc z
theorem Rch.ifT {cd : ClassFile.Cond} {x : Int32} {o : Int} (r : Rch p l e R s m args below meth c Z y bc ml rt n0 T0 g0 k n h (mkF m pc L (.int x :: S))) (hd : decode bc pc = .ok (.ifCond cd o, 3)) (hc : if_icmp.holds cd x 0 = true) (ho : 0 ≤ (pc : Int) + o) (hp : ((pc : Int) + o).toNat = pc') : Rch p l e R s m args below meth c Z y bc ml rt n0 T0 g0 k n h (mkF m pc' L S) :=
  r.pure fun T locs X eT t z => XS.ifYes X.here r.1.1 rfl (pc0 := pc) rfl (hb r.1.2.1 hd) rfl ((if0 _ _).trans hc) ho hp z
theorem Rch.ifF {cd : ClassFile.Cond} {x : Int32} {o : Int} (r : Rch p l e R s m args below meth c Z y bc ml rt n0 T0 g0 k n h (mkF m pc L (.int x :: S))) (hd : decode bc pc = .ok (.ifCond cd o, 3)) (hc : if_icmp.holds cd x 0 = false) (hp : pc + 3 = pc') : Rch p l e R s m args below meth c Z y bc ml rt n0 T0 g0 k n h (mkF m pc' L S) := by
  subst hp; exact r.pure fun T locs X eT t z => XS.ifNo X.here r.1.1 rfl (hb r.1.2.1 hd) rfl ((if0 _ _).trans hc) z
theorem Rch.acmp {cd : ACond} {v w : Value} {o : Int} {same : Bool} (r : Rch p l e R s m args below meth c Z y bc ml rt n0 T0 g0 k n h (mkF m pc L (w :: v :: S))) (hd : decode bc pc = .ok (.if_acmp cd o, 3)) (hv : v.isRef = true) (hw : w.isRef = true) (hq : decide (v = w) = same) (ho : 0 ≤ (pc : Int) + o) (hp : pc' = if acV cd same = true then ((pc : Int) + o).toNat else pc + 3) : Rch p l e R s m args below meth c Z y bc ml rt n0 T0 g0 k n h (mkF m pc' L S) :=
  r.pure fun T locs X eT t z => Jvm.RoadKit.acmp X r.1.1 rfl hv hw (pc0 := pc) rfl (hb r.1.2.1 hd) rfl hq ho hp z
theorem Rch.nullT {o : Int} (r : Rch p l e R s m args below meth c Z y bc ml rt n0 T0 g0 k n h (mkF m pc L (.null :: S))) (hd : decode bc pc = .ok (.ifnull o, 3)) (ho : 0 ≤ (pc : Int) + o) (hp : ((pc : Int) + o).toNat = pc') : Rch p l e R s m args below meth c Z y bc ml rt n0 T0 g0 k n h (mkF m pc' L S) :=
  r.pure fun T locs X eT t z => XS.ifnullYes X.here r.1.1 rfl (pc0 := pc) rfl (hb r.1.2.1 hd) rfl ho hp z
theorem Rch.nullF {a : Addr} {o : Int} (r : Rch p l e R s m args below meth c Z y bc ml rt n0 T0 g0 k n h (mkF m pc L (.ref a :: S))) (hd : decode bc pc = .ok (.ifnull o, 3)) (hp : pc + 3 = pc') : Rch p l e R s m args below meth c Z y bc ml rt n0 T0 g0 k n h (mkF m pc' L S) := by
  subst hp; exact r.pure fun T locs X eT t z => XS.ifnullNo X.here r.1.1 rfl (hb r.1.2.1 hd) rfl z
theorem Rch.nnT {a : Addr} {o : Int} (r : Rch p l e R s m args below meth c Z y bc ml rt n0 T0 g0 k n h (mkF m pc L (.ref a :: S))) (hd : decode bc pc = .ok (.ifnonnull o, 3)) (ho : 0 ≤ (pc : Int) + o) (hp : ((pc : Int) + o).toNat = pc') : Rch p l e R s m args below meth c Z y bc ml rt n0 T0 g0 k n h (mkF m pc' L S) :=
  r.pure fun T locs X eT t z => XS.ifnonnullYes X.here r.1.1 rfl (pc0 := pc) rfl (hb r.1.2.1 hd) rfl ho hp z
theorem Rch.nnF {o : Int} (r : Rch p l e R s m args below meth c Z y bc ml rt n0 T0 g0 k n h (mkF m pc L (.null :: S))) (hd : decode bc pc = .ok (.ifnonnull o, 3)) (hp : pc + 3 = pc') : Rch p l e R s m args below meth c Z y bc ml rt n0 T0 g0 k n h (mkF m pc' L S) := by
  subst hp; exact r.pure fun T locs X eT t z => XS.ifnonnullNo X.here r.1.1 rfl (hb r.1.2.1 hd) rfl z
-- fields
theorem Rch.getF {R0 O nm d host : String} {idx : Nat} {a : Addr} {v : Value} (r : Rch p l e R s m args below meth c Z y bc ml rt n0 T0 g0 k n h (mkF m pc L (.ref a :: S))) (hd : decode bc pc = .ok (.getfield idx, 3)) (w : (Jvm.Cond.fieldLink y.cls idx R0 nm d).before a0 Z = true ∨ (Jvm.Cond.fieldLinkNest y.cls idx R0 nm d host).before a0 Z = true) (via : Via Z R0 O nm d) (F : Fld Z h a O nm d v) (hp : pc + 3 = pc') :
    Rch p l e R s m args below meth c Z y bc ml rt n0 T0 g0 k n h (mkF m pc' L (v :: S)) := by
  subst hp; exact r.keep fun T locs X eT => getF X r.1.1 r.1.2.2.2.2.1 r.1.2.2.2.1 w via eT F (g := mkF m pc L (.ref a :: S)) rfl rfl (hb r.1.2.1 hd)
theorem Rch.getS {R0 O nm d host : String} {idx : Nat} {v : Value} (r : Rch p l e R s m args below meth c Z y bc ml rt n0 T0 g0 k n h (mkF m pc L S)) (hd : decode bc pc = .ok (.getstatic idx, 3)) (w : (Jvm.Cond.fieldLink y.cls idx R0 nm d).before a0 Z = true ∨ (Jvm.Cond.fieldLinkNest y.cls idx R0 nm d host).before a0 Z = true) (via : Via Z R0 O nm d) (F : Sta Z h O nm d v) (hp : pc + 3 = pc') :
    Rch p l e R s m args below meth c Z y bc ml rt n0 T0 g0 k n h (mkF m pc' L (v :: S)) := by
  subst hp; exact r.keep fun T locs X eT => getS2 X r.1.1 r.1.2.2.2.2.1 r.1.2.2.2.1 w via eT F (g := mkF m pc L S) rfl (hb r.1.2.1 hd)
theorem Rch.putF {R0 O nm d host C : String} {idx kk : Nat} {ty : FieldType} {a : Addr} {v old : Value} (r : Rch p l e R s m args below meth c Z y bc ml rt n0 T0 g0 k n h (mkF m pc L (v :: .ref a :: S))) (hd : decode bc pc = .ok (.putfield idx, 3)) (w : (Jvm.Cond.fieldLink y.cls idx R0 nm d).before a0 Z = true ∨ (Jvm.Cond.fieldLinkNest y.cls idx R0 nm d host).before a0 Z = true) (via : Via Z R0 O nm d) (F : Fld Z h a O nm d old) (E : Exa Z h a C)
    (lw : (Jvm.Cond.lays C O nm d).before a0 Z = true ∨ ((Jvm.Cond.laysFinal C O nm d).before a0 Z = true ∧ y.cls = O ∧ y.name = "<init>")) (wi : (Jvm.Cond.instantiable C kk).before a0 Z = true) (hty : parseFieldDescriptor d = some ty) (hn : narrow ty v = v) (hf : fits ty v = true) (hN : n0 ≤ a) (hp : pc + 3 = pc') :
    ∃ h', Wr h h' a (Jvm.RoadKit.slotOf Z O nm d) v ∧ Rch p l e R s m args below meth c Z y bc ml rt n0 T0 g0 k n h' (mkF m pc' L S) := by
  subst hp
  obtain ⟨q, T, locs, X, eT, N, st⟩ := r
  obtain ⟨T', h', X', e', W, st'⟩ := putF X q.1 q.2.2.2.2.1 q.2.2.2.1 w via eT F E (lw.imp id fun z => ⟨z.1, z.2.1, q.2.2.2.2.2.2.2.trans z.2.2⟩) wi hty hn hf (g := mkF m pc L (v :: .ref a :: S)) rfl rfl (hb q.2.1 hd)
  exact ⟨h', W, q, T', _, X', e', Fr.snoc X' N hN, fun t z => st t (st' t z)⟩
theorem Rch.putFN {R0 O nm d C : String} {idx kk : Nat} {ty : FieldType} {a : Addr} {v v' old : Value} (r : Rch p l e R s m args below meth c Z y bc ml rt n0 T0 g0 k n h (mkF m pc L (v :: .ref a :: S))) (hd : decode bc pc = .ok (.putfield idx, 3)) (w : (Jvm.Cond.fieldLink y.cls idx R0 nm d).before a0 Z = true) (via : Via Z R0 O nm d) (F : Fld Z h a O nm d old) (E : Exa Z h a C)
    (lw : (Jvm.Cond.lays C O nm d).before a0 Z = true ∨ ((Jvm.Cond.laysFinal C O nm d).before a0 Z = true ∧ y.cls = O ∧ y.name = "<init>")) (wi : (Jvm.Cond.instantiable C kk).before a0 Z = true) (hty : parseFieldDescriptor d = some ty) (hn : narrow ty v = v') (hf : fits ty v' = true) (hN : n0 ≤ a) (hp : pc + 3 = pc') :
    ∃ h', Wr h h' a (Jvm.RoadKit.slotOf Z O nm d) v' ∧ Rch p l e R s m args below meth c Z y bc ml rt n0 T0 g0 k n h' (mkF m pc' L S) := by
  subst hp
  obtain ⟨q, T, locs, X, eT, N, st⟩ := r
  obtain ⟨T', h', X', e', W, st'⟩ := putFN X q.1 q.2.2.2.2.1 q.2.2.2.1 w via eT F E (lw.imp id fun z => ⟨z.1, z.2.1, q.2.2.2.2.2.2.2.trans z.2.2⟩) wi hty hn hf (g := mkF m pc L (v :: .ref a :: S)) rfl rfl (hb q.2.1 hd)
  exact ⟨h', W, q, T', _, X', e', Fr.snoc X' N hN, fun t z => st t (st' t z)⟩
-- objects and arrays
theorem Rch.newO {C : String} {idx i : Nat} (r : Rch p l e R s m args below meth c Z y bc ml rt n0 T0 g0 k n h (mkF m pc L S)) (hd : decode bc pc = .ok (.new idx, 3)) (w : (Jvm.Cond.classLink y.cls idx C).before a0 Z = true) (wi : (Jvm.Cond.instantiable C i).before a0 Z = true) (wz : (Jvm.Cond.initialized C).before a0 Z = true) {k' n' : Nat} (hk : k + 1 = k') (hn' : n + i = n') (hc : k' ≤ R.cells) (hl : n' ≤ R.slots) (hp : pc + 3 = pc') :
    ∃ h' a, a = h.size ∧ Ext h h' ∧ Exa Z h' a C ∧ (∀ {O nm d : String} {ty : FieldType}, Laid Z a0 C O nm d → parseFieldDescriptor d = some ty → Fld Z h' a O nm d (defaultValue ty)) ∧ Rch p l e R s m args below meth c Z y bc ml rt n0 T0 g0 k' n' h' (mkF m pc' L (.ref a :: S)) := by
  subst hp hk hn'
  obtain ⟨q, T, locs, X, eT, N, st⟩ := r
  obtain ⟨T', h', X', e', E, A, D, -, st'⟩ := newO X q.1 q.2.2.2.2.1 q.2.2.2.1 w wi wz eT (g := mkF m pc L S) rfl (hb q.2.1 hd) hc hl
  exact ⟨h', h.size, rfl, E, A, D, q, T', locs, X', e', N, fun t z => st t (st' t z)⟩
theorem Rch.newP {aty : ArrayType} {i : Int32} (r : Rch p l e R s m args below meth c Z y bc ml rt n0 T0 g0 k n h (mkF m pc L (.int i :: S))) (hd : decode bc pc = .ok (.newarray aty, 2)) (w : (Jvm.Cond.arrayClass (newarray.typeOf aty)).before a0 Z = true) (hn : ¬ i < 0) {cap : Nat} (hcap : i.toNatClampNeg ≤ cap) (hbg : cap * 8 ≤ 536870912) {k' n' : Nat} (hk : k + 1 = k') (hn' : n + cap = n') (hc : k' ≤ R.cells) (hl : n' ≤ R.slots) (hp : pc + 2 = pc') :
    ∃ h' a cA, a = h.size ∧ Ext h h' ∧ Arv Z h' a cA (newarray.typeOf aty) i [] (defaultValue (newarray.typeOf aty)) ∧ Rch p l e R s m args below meth c Z y bc ml rt n0 T0 g0 k' n' h' (mkF m pc' L (.ref a :: S)) := by
  subst hp hk hn'
  obtain ⟨q, T, locs, X, eT, N, st⟩ := r
  obtain ⟨T', h', cA, X', e', E, A, st'⟩ := newP X q.1 q.2.2.2.2.1 w eT (g := mkF m pc L (.int i :: S)) rfl (hb q.2.1 hd) rfl hn hcap hbg hc hl
  exact ⟨h', h.size, cA, rfl, E, Arv.new A hn, q, T', locs, X', e', N, fun t z => st t (st' t z)⟩
theorem Rch.newR {C : String} {idx : Nat} {i : Int32} (r : Rch p l e R s m args below meth c Z y bc ml rt n0 T0 g0 k n h (mkF m pc L (.int i :: S))) (hd : decode bc pc = .ok (.anewarray idx, 3)) (w1 : (Jvm.Cond.classLink y.cls idx C).before a0 Z = true) (w2 : (Jvm.Cond.arrayOver (.object C)).before a0 Z = true) (hn : ¬ i < 0) {cap : Nat} (hcap : i.toNatClampNeg ≤ cap) (hbg : cap * 8 ≤ 536870912) {k' n' : Nat} (hk : k + 1 = k') (hn' : n + cap = n') (hc : k' ≤ R.cells) (hl : n' ≤ R.slots) (hp : pc + 3 = pc') :
    ∃ h' a cA, a = h.size ∧ Ext h h' ∧ Ovr Z cA C ∧ Arv Z h' a cA (.object C) i [] .null ∧ Rch p l e R s m args below meth c Z y bc ml rt n0 T0 g0 k' n' h' (mkF m pc' L (.ref a :: S)) := by
  subst hp hk hn'
  obtain ⟨q, T, locs, X, eT, N, st⟩ := r
  obtain ⟨T', h', cA, X', e', E, A, O, st'⟩ := newR X q.1 q.2.2.2.2.1 q.2.2.2.1 w1 w2 eT (g := mkF m pc L (.int i :: S)) rfl (hb q.2.1 hd) rfl hn hcap hbg hc hl
  exact ⟨h', h.size, cA, rfl, E, O, Arv.new A hn, q, T', locs, X', e', N, fun t z => st t (st' t z)⟩
theorem inbI {c : Cell} {z j : Int32} (S : c.slots.size = z.toNatClampNeg) (h1 : ¬ j < 0) (h2 : j < z) : ¬ (j < 0 ∨ c.slots.size ≤ j.toNatClampNeg) := inb_of S ⟨h1, h2⟩
theorem Rch.stI {a : Addr} {kc : ClassId} {z j : Int32} {x : Int32} {vs : List Value} {dv : Value} (r : Rch p l e R s m args below meth c Z y bc ml rt n0 T0 g0 k n h (mkF m pc L (.int x :: .int j :: .ref a :: S))) (hd : decode bc pc = .ok (.iastore, 1)) (V : Arv Z h a kc .int z vs dv) (h1 : ¬ j < 0) (h2 : j < z) (h3 : j.toNatClampNeg < vs.length) (hN : n0 ≤ a) (hp : pc + 1 = pc') :
    ∃ h', Wr h h' a j.toNatClampNeg (.int x) ∧ Arv Z h' a kc .int z (vs.set j.toNatClampNeg (.int x)) dv ∧ Rch p l e R s m args below meth c Z y bc ml rt n0 T0 g0 k n h' (mkF m pc' L S) := by
  subst hp
  obtain ⟨q, T, locs, X, eT, N, st⟩ := r
  obtain ⟨cl, A, q1, S1, q3, H, G⟩ := V
  obtain ⟨T', h', X', e', W, st'⟩ := stI X q.1 q.2.2.2.2.1 eT A (j := j) (inbI S1 h1 h2) (g := mkF m pc L (.int x :: .int j :: .ref a :: S)) rfl rfl (hb q.2.1 hd)
  exact ⟨h', W, Arv.set A q1 S1 q3 H G rfl W _ rfl h3, q, T', _, X', e', Fr.snoc X' N hN, fun t z => st t (st' t z)⟩
theorem Rch.stB {a : Addr} {kc : ClassId} {z j : Int32} {x : Int32} {vs : List Value} {dv : Value} (r : Rch p l e R s m args below meth c Z y bc ml rt n0 T0 g0 k n h (mkF m pc L (.int x :: .int j :: .ref a :: S))) (hd : decode bc pc = .ok (.bastore, 1)) (V : Arv Z h a kc .byte z vs dv) (h1 : ¬ j < 0) (h2 : j < z) (h3 : j.toNatClampNeg < vs.length) (hN : n0 ≤ a) (hp : pc + 1 = pc') :
    ∃ h', Wr h h' a j.toNatClampNeg (.int (nar .byte x)) ∧ Arv Z h' a kc .byte z (vs.set j.toNatClampNeg (.int (nar .byte x))) dv ∧ Rch p l e R s m args below meth c Z y bc ml rt n0 T0 g0 k n h' (mkF m pc' L S) := by
  subst hp
  obtain ⟨q, T, locs, X, eT, N, st⟩ := r
  obtain ⟨cl, A, q1, S1, q3, H, G⟩ := V
  obtain ⟨T', h', X', e', W, st'⟩ := stB X q.1 q.2.2.2.2.1 eT A (j := j) (inbI S1 h1 h2) (g := mkF m pc L (.int x :: .int j :: .ref a :: S)) rfl rfl (hb q.2.1 hd)
  exact ⟨h', W, Arv.set A q1 S1 q3 H G (fits_nar_byte _) W _ rfl h3, q, T', _, X', e', Fr.snoc X' N hN, fun t z => st t (st' t z)⟩
theorem Rch.stC {a : Addr} {kc : ClassId} {z j : Int32} {x : Int32} {vs : List Value} {dv : Value} (r : Rch p l e R s m args below meth c Z y bc ml rt n0 T0 g0 k n h (mkF m pc L (.int x :: .int j :: .ref a :: S))) (hd : decode bc pc = .ok (.castore, 1)) (V : Arv Z h a kc .char z vs dv) (h1 : ¬ j < 0) (h2 : j < z) (h3 : j.toNatClampNeg < vs.length) (hN : n0 ≤ a) (hp : pc + 1 = pc') :
    ∃ h', Wr h h' a j.toNatClampNeg (.int (nar .char x)) ∧ Arv Z h' a kc .char z (vs.set j.toNatClampNeg (.int (nar .char x))) dv ∧ Rch p l e R s m args below meth c Z y bc ml rt n0 T0 g0 k n h' (mkF m pc' L S) := by
  subst hp
  obtain ⟨q, T, locs, X, eT, N, st⟩ := r
  obtain ⟨cl, A, q1, S1, q3, H, G⟩ := V
  obtain ⟨T', h', X', e', W, st'⟩ := stC X q.1 q.2.2.2.2.1 eT A (j := j) (inbI S1 h1 h2) (g := mkF m pc L (.int x :: .int j :: .ref a :: S)) rfl rfl (hb q.2.1 hd)
  exact ⟨h', W, Arv.set A q1 S1 q3 H G (fits_nar_char _) W _ rfl h3, q, T', _, X', e', Fr.snoc X' N hN, fun t z => st t (st' t z)⟩
theorem Rch.stZ {a : Addr} {kc : ClassId} {z j : Int32} {x : Int32} {vs : List Value} {dv : Value} (r : Rch p l e R s m args below meth c Z y bc ml rt n0 T0 g0 k n h (mkF m pc L (.int x :: .int j :: .ref a :: S))) (hd : decode bc pc = .ok (.bastore, 1)) (V : Arv Z h a kc .boolean z vs dv) (h1 : ¬ j < 0) (h2 : j < z) (h3 : j.toNatClampNeg < vs.length) (hN : n0 ≤ a) (hp : pc + 1 = pc') :
    ∃ h', Wr h h' a j.toNatClampNeg (.int (nar .boolean x)) ∧ Arv Z h' a kc .boolean z (vs.set j.toNatClampNeg (.int (nar .boolean x))) dv ∧ Rch p l e R s m args below meth c Z y bc ml rt n0 T0 g0 k n h' (mkF m pc' L S) := by
  subst hp
  obtain ⟨q, T, locs, X, eT, N, st⟩ := r
  obtain ⟨cl, A, q1, S1, q3, H, G⟩ := V
  obtain ⟨T', h', X', e', W, st'⟩ := stZ X q.1 q.2.2.2.2.1 eT A (j := j) (inbI S1 h1 h2) (g := mkF m pc L (.int x :: .int j :: .ref a :: S)) rfl rfl (hb q.2.1 hd)
  exact ⟨h', W, Arv.set A q1 S1 q3 H G (fits_nar_bool _) W _ rfl h3, q, T', _, X', e', Fr.snoc X' N hN, fun t z => st t (st' t z)⟩
theorem Rch.stJ {a : Addr} {kc : ClassId} {z j : Int32} {x : Int64} {vs : List Value} {dv : Value} (r : Rch p l e R s m args below meth c Z y bc ml rt n0 T0 g0 k n h (mkF m pc L (.long x :: .int j :: .ref a :: S))) (hd : decode bc pc = .ok (.lastore, 1)) (V : Arv Z h a kc .long z vs dv) (h1 : ¬ j < 0) (h2 : j < z) (h3 : j.toNatClampNeg < vs.length) (hN : n0 ≤ a) (hp : pc + 1 = pc') :
    ∃ h', Wr h h' a j.toNatClampNeg (.long x) ∧ Arv Z h' a kc .long z (vs.set j.toNatClampNeg (.long x)) dv ∧ Rch p l e R s m args below meth c Z y bc ml rt n0 T0 g0 k n h' (mkF m pc' L S) := by
  subst hp
  obtain ⟨q, T, locs, X, eT, N, st⟩ := r
  obtain ⟨cl, A, q1, S1, q3, H, G⟩ := V
  obtain ⟨T', h', X', e', W, st'⟩ := stJ X q.1 q.2.2.2.2.1 eT A (j := j) (inbI S1 h1 h2) (g := mkF m pc L (.long x :: .int j :: .ref a :: S)) rfl rfl (hb q.2.1 hd)
  exact ⟨h', W, Arv.set A q1 S1 q3 H G rfl W _ rfl h3, q, T', _, X', e', Fr.snoc X' N hN, fun t z => st t (st' t z)⟩
theorem Rch.stR {C : String} {a : Addr} {kc : ClassId} {z j : Int32} {v : Value} {vs : List Value} {dv : Value} (r : Rch p l e R s m args below meth c Z y bc ml rt n0 T0 g0 k n h (mkF m pc L (v :: .int j :: .ref a :: S))) (hd : decode bc pc = .ok (.aastore, 1)) (V : Arv Z h a kc (.object C) z vs dv) (h1 : ¬ j < 0) (h2 : j < z) (h3 : j.toNatClampNeg < vs.length) (hs : Sto Z h a v) (hv : v.isRef = true) (hN : n0 ≤ a) (hp : pc + 1 = pc') :
    ∃ h', Wr h h' a j.toNatClampNeg v ∧ Arv Z h' a kc (.object C) z (vs.set j.toNatClampNeg v) dv ∧ Rch p l e R s m args below meth c Z y bc ml rt n0 T0 g0 k n h' (mkF m pc' L S) := by
  subst hp
  obtain ⟨q, T, locs, X, eT, N, st⟩ := r
  obtain ⟨cl, A, q1, S1, q3, H, G⟩ := V
  obtain ⟨T', h', X', e', W, st'⟩ := stR X q.1 q.2.2.2.2.1 eT A (j := j) (inbI S1 h1 h2) rfl hs (g := mkF m pc L (v :: .int j :: .ref a :: S)) rfl rfl (hb q.2.1 hd)
  have hf : fits (.object C) v = true := by cases v <;> first | rfl | (cases hv; done)
  exact ⟨h', W, Arv.set A q1 S1 q3 H G hf W _ rfl h3, q, T', _, X', e', Fr.snoc X' N hN, fun t z => st t (st' t z)⟩
theorem Rch.ldI {a : Addr} {kc : ClassId} {z j : Int32} {vs : List Value} {dv : Value} (v : Value) (r : Rch p l e R s m args below meth c Z y bc ml rt n0 T0 g0 k n h (mkF m pc L (.int j :: .ref a :: S))) (hd : decode bc pc = .ok (.iaload, 1)) (V : Arv Z h a kc .int z vs dv) (h1 : ¬ j < 0) (h2 : j < z) (hv : vs.getD j.toNatClampNeg dv = v) (hp : pc + 1 = pc') :
    Rch p l e R s m args below meth c Z y bc ml rt n0 T0 g0 k n h (mkF m pc' L (v :: S)) := by
  subst hp
  obtain ⟨cl, A, q1, S1, q3, H, G⟩ := V
  exact r.pure fun T locs X eT t w => X.iaload r.1.1 (j := j) (v := v) (by rw [eT]; exact A.1) (State.isArrayOf_alike r.1.2.2.2.2.1.alike A.2.1) A.2.2 (inbI S1 h1 h2) (Has.at H (inbI S1 h1 h2) hv) (g := mkF m pc L (.int j :: .ref a :: S)) rfl rfl (hb r.1.2.1 hd) _ w
theorem Rch.ldJ {a : Addr} {kc : ClassId} {z j : Int32} {vs : List Value} {dv : Value} (v : Value) (r : Rch p l e R s m args below meth c Z y bc ml rt n0 T0 g0 k n h (mkF m pc L (.int j :: .ref a :: S))) (hd : decode bc pc = .ok (.laload, 1)) (V : Arv Z h a kc .long z vs dv) (h1 : ¬ j < 0) (h2 : j < z) (hv : vs.getD j.toNatClampNeg dv = v) (hp : pc + 1 = pc') :
    Rch p l e R s m args below meth c Z y bc ml rt n0 T0 g0 k n h (mkF m pc' L (v :: S)) := by
  subst hp
  obtain ⟨cl, A, q1, S1, q3, H, G⟩ := V
  exact r.pure fun T locs X eT t w => X.laload r.1.1 (j := j) (v := v) (by rw [eT]; exact A.1) (State.isArrayOf_alike r.1.2.2.2.2.1.alike A.2.1) A.2.2 (inbI S1 h1 h2) (Has.at H (inbI S1 h1 h2) hv) (g := mkF m pc L (.int j :: .ref a :: S)) rfl rfl (hb r.1.2.1 hd) _ w
theorem Rch.ldB {a : Addr} {kc : ClassId} {z j : Int32} {vs : List Value} {dv : Value} (v : Value) (r : Rch p l e R s m args below meth c Z y bc ml rt n0 T0 g0 k n h (mkF m pc L (.int j :: .ref a :: S))) (hd : decode bc pc = .ok (.baload, 1)) (V : Arv Z h a kc .byte z vs dv) (h1 : ¬ j < 0) (h2 : j < z) (hv : vs.getD j.toNatClampNeg dv = v) (hp : pc + 1 = pc') :
    Rch p l e R s m args below meth c Z y bc ml rt n0 T0 g0 k n h (mkF m pc' L (v :: S)) := by
  subst hp
  obtain ⟨cl, A, q1, S1, q3, H, G⟩ := V
  exact r.pure fun T locs X eT t w => X.baloadBytes r.1.1 (j := j) (v := v) (by rw [eT]; exact A.1) (State.isArrayOf_alike r.1.2.2.2.2.1.alike A.2.1) A.2.2 (inbI S1 h1 h2) (Has.at H (inbI S1 h1 h2) hv) (g := mkF m pc L (.int j :: .ref a :: S)) rfl rfl (hb r.1.2.1 hd) _ w
theorem Rch.ldC {a : Addr} {kc : ClassId} {z j : Int32} {vs : List Value} {dv : Value} (v : Value) (r : Rch p l e R s m args below meth c Z y bc ml rt n0 T0 g0 k n h (mkF m pc L (.int j :: .ref a :: S))) (hd : decode bc pc = .ok (.caload, 1)) (V : Arv Z h a kc .char z vs dv) (h1 : ¬ j < 0) (h2 : j < z) (hv : vs.getD j.toNatClampNeg dv = v) (hp : pc + 1 = pc') :
    Rch p l e R s m args below meth c Z y bc ml rt n0 T0 g0 k n h (mkF m pc' L (v :: S)) := by
  subst hp
  obtain ⟨cl, A, q1, S1, q3, H, G⟩ := V
  exact r.pure fun T locs X eT t w => X.caload r.1.1 (j := j) (v := v) (by rw [eT]; exact A.1) (State.isArrayOf_alike r.1.2.2.2.2.1.alike A.2.1) A.2.2 (inbI S1 h1 h2) (Has.at H (inbI S1 h1 h2) hv) (g := mkF m pc L (.int j :: .ref a :: S)) rfl rfl (hb r.1.2.1 hd) _ w
theorem Rch.ldR {ty : FieldType} {a : Addr} {kc : ClassId} {z j : Int32} {vs : List Value} {dv : Value} (v : Value) (r : Rch p l e R s m args below meth c Z y bc ml rt n0 T0 g0 k n h (mkF m pc L (.int j :: .ref a :: S))) (hd : decode bc pc = .ok (.aaload, 1)) (V : Arv Z h a kc ty z vs dv) (hty : ty.isReference = true) (h1 : ¬ j < 0) (h2 : j < z) (hv : vs.getD j.toNatClampNeg dv = v) (hp : pc + 1 = pc') :
    Rch p l e R s m args below meth c Z y bc ml rt n0 T0 g0 k n h (mkF m pc' L (v :: S)) := by
  subst hp
  obtain ⟨cl, A, q1, S1, q3, H, G⟩ := V
  exact r.pure fun T locs X eT t w => X.aaload r.1.1 (j := j) (v := v) (by rw [eT]; exact A.1) (State.isArrayOf_alike r.1.2.2.2.2.1.alike A.2.1) hty A.2.2 (inbI S1 h1 h2) (Has.at H (inbI S1 h1 h2) hv) (g := mkF m pc L (.int j :: .ref a :: S)) rfl rfl (hb r.1.2.1 hd) _ w
theorem Rch.ldI0 {a : Addr} {kc : ClassId} {z j : Int32} {vs : List Value} {dv : Value} (r : Rch p l e R s m args below meth c Z y bc ml rt n0 T0 g0 k n h (mkF m pc L (.int j :: .ref a :: S))) (hd : decode bc pc = .ok (.iaload, 1)) (V : Arv Z h a kc .int z vs dv) (h1 : ¬ j < 0) (h2 : j < z) (hp : pc + 1 = pc') :
    ∃ x : Int32, vs.getD j.toNatClampNeg dv = .int x ∧ Rch p l e R s m args below meth c Z y bc ml rt n0 T0 g0 k n h (mkF m pc' L (.int x :: S)) := by
  have V0 := V
  obtain ⟨cl, A, q1, S1, q3, H, G⟩ := V0
  have hlt := Nat.lt_of_not_le fun q => inbI S1 h1 h2 (Or.inr q)
  obtain ⟨x, hx⟩ := fit_I (G _ hlt) (Or.inl rfl)
  exact ⟨x, hx, Rch.ldI (.int x) r hd V h1 h2 hx hp⟩
theorem Rch.stI0 {a : Addr} {kc : ClassId} {z j x : Int32} {vs : List Value} {dv : Value} (r : Rch p l e R s m args below meth c Z y bc ml rt n0 T0 g0 k n h (mkF m pc L (.int x :: .int j :: .ref a :: S))) (hd : decode bc pc = .ok (.iastore, 1)) (V : Arv Z h a kc .int z vs dv) (h1 : ¬ j < 0) (h2 : j < z) (hN : n0 ≤ a) (hp : pc + 1 = pc') :
    ∃ h' vs', Wr h h' a j.toNatClampNeg (.int x) ∧ Arv Z h' a kc .int z vs' dv ∧ Rch p l e R s m args below meth c Z y bc ml rt n0 T0 g0 k n h' (mkF m pc' L S) := by
  obtain ⟨h', W, V', r'⟩ := Rch.stI r hd (V.pad (pad_rep vs dv (j.toNatClampNeg + 1))) h1 h2 (by simp; omega) hN hp
  exact ⟨h', _, W, V', r'⟩
theorem Rch.alen {ty : FieldType} {a : Addr} {kc : ClassId} {z : Int32} {vs : List Value} {dv : Value} (r : Rch p l e R s m args below meth c Z y bc ml rt n0 T0 g0 k n h (mkF m pc L (.ref a :: S))) (hd : decode bc pc = .ok (.arraylength, 1)) (V : Arv Z h a kc ty z vs dv) (hp : pc + 1 = pc') :
    Rch p l e R s m args below meth c Z y bc ml rt n0 T0 g0 k n h (mkF m pc' L (.int z :: S)) := by
  subst hp
  obtain ⟨cl, A, -, S1, S2, -, -⟩ := V
  refine r.pure fun T locs X eT t w => X.arraylength r.1.1 (by rw [eT]; exact A.1) (State.isArrayOf_alike r.1.2.2.2.2.1.alike A.2.1) (g := mkF m pc L (.ref a :: S)) rfl rfl (hb r.1.2.1 hd) _ ?_
  rw [len_of S1 S2]
  exact w
-- returns
theorem Rch.retZ {z : Int32} {t : FieldType} (r : Rch p l e R s m args below meth c Z y bc ml rt n0 T0 g0 k n h (mkF m pc L (.int z :: S))) (hd : decode bc pc = .ok (.ireturn, 1)) (hrt : rt = some t) (ht : t = .boolean ∨ t = .byte ∨ t = .char ∨ t = .short) (w : Int32) (hw : nar t z = w) (hk : k ≤ R.cells) (hn : n ≤ R.slots) : Don p l e R s m args below meth c rt n0 T0 g0 (some (.int w)) h := by
  subst hw
  obtain ⟨q, T, locs, X, eT, N, st⟩ := r
  refine ⟨T, locs, k, n, X, hk, hn, eT, N, q.2.2.2.2.2.2.1, (fun z => ?_), fun fs hl => st _ (retN X q.1 (t := t) (q.2.2.2.2.2.1.trans hrt) ht (hb q.2.1 hd) hl)⟩
  rw [q.2.2.2.2.2.1, hrt] at z; cases z
theorem Rch.retI {z : Int32} (r : Rch p l e R s m args below meth c Z y bc ml rt n0 T0 g0 k n h (mkF m pc L (.int z :: S))) (hd : decode bc pc = .ok (.ireturn, 1)) (hrt : rt = some .int) (hk : k ≤ R.cells) (hn : n ≤ R.slots) : Don p l e R s m args below meth c rt n0 T0 g0 (some (.int z)) h := by
  obtain ⟨q, T, locs, X, eT, N, st⟩ := r
  refine ⟨T, locs, k, n, X, hk, hn, eT, N, q.2.2.2.2.2.2.1, (fun z => ?_), fun fs hl => st _ (retOut X q.1 (t := .int) (q.2.2.2.2.2.1.trans hrt) rfl (Or.inl ⟨rfl, Or.inl rfl, _, rfl⟩) (hb q.2.1 hd) hl)⟩
  rw [q.2.2.2.2.2.1, hrt] at z; cases z
theorem Rch.retJ {z : Int64} (r : Rch p l e R s m args below meth c Z y bc ml rt n0 T0 g0 k n h (mkF m pc L (.long z :: S))) (hd : decode bc pc = .ok (.lreturn, 1)) (hrt : rt = some .long) (hk : k ≤ R.cells) (hn : n ≤ R.slots) : Don p l e R s m args below meth c rt n0 T0 g0 (some (.long z)) h := by
  obtain ⟨q, T, locs, X, eT, N, st⟩ := r
  refine ⟨T, locs, k, n, X, hk, hn, eT, N, q.2.2.2.2.2.2.1, (fun z => ?_), fun fs hl => st _ (retOut X q.1 (t := .long) (q.2.2.2.2.2.1.trans hrt) rfl (Or.inr (Or.inl ⟨rfl, rfl, _, rfl⟩)) (hb q.2.1 hd) hl)⟩
  rw [q.2.2.2.2.2.1, hrt] at z; cases z
theorem Rch.retA {v : Value} {t : FieldType} (r : Rch p l e R s m args below meth c Z y bc ml rt n0 T0 g0 k n h (mkF m pc L (v :: S))) (hd : decode bc pc = .ok (.areturn, 1)) (hrt : rt = some t) (ht : t.isReference = true) (hv : v.isRef = true) (hk : k ≤ R.cells) (hn : n ≤ R.slots) : Don p l e R s m args below meth c rt n0 T0 g0 (some v) h := by
  obtain ⟨q, T, locs, X, eT, N, st⟩ := r
  have hnar : narrow t v = v := by cases v <;> first | (cases hv; done) | (cases t <;> rfl)
  refine ⟨T, locs, k, n, X, hk, hn, eT, N, q.2.2.2.2.2.2.1, (fun z => ?_), fun fs hl => st _ (retOut X q.1 (t := t) (q.2.2.2.2.2.1.trans hrt) hnar (Or.inr (Or.inr (Or.inr (Or.inr ⟨rfl, ht, hv⟩)))) (hb q.2.1 hd) hl)⟩
  rw [q.2.2.2.2.2.1, hrt] at z; cases z
theorem Rch.retV (r : Rch p l e R s m args below meth c Z y bc ml rt n0 T0 g0 k n h (mkF m pc L [])) (hd : decode bc pc = .ok (.return_, 1)) (hrt : rt = none) (hk : k ≤ R.cells) (hn : n ≤ R.slots) : Don p l e R s m args below meth c rt n0 T0 g0 none h := by
  obtain ⟨q, T, locs, X, eT, N, st⟩ := r
  exact ⟨T, locs, k, n, X, hk, hn, eT, N, q.2.2.2.2.2.2.1, fun _ => rfl, fun fs hl => st _ (X.returnOut q.1 (q.2.2.2.2.2.1.trans hrt) (hb q.2.1 hd) hl)⟩
-- entering a body
theorem ent {rm : Room} {as : Array Value} {h0 : Heap} {Q : Option Value → Heap → Prop} {L0 : Array Slot} (hpl : plainFor y = true) (hL : ∀ m, entryFrame m as ml = mkF m 0 L0 [])
    (H : ∀ p e s m below meth c T0, Rch p l e rm s m as below meth c Z y bc ml rt n0 T0 (mkF m 0 L0 []) 0 0 h0 (mkF m 0 L0 []) → ∃ v h, Don p l e rm s m as below meth c rt n0 T0 (mkF m 0 L0 []) v h ∧ Q v h) : Ctr l Z y bc ml rt rm as h0 n0 Q := by
  intro ws
  refine MetFree.of_bodySF hpl hisR ?_
  intro p e s m args below meth c s₁ Bd hml0 hP hK
  obtain ⟨rfl, hZ, hh⟩ := hP
  have hown : s.vm.findClass y.cls = some m.cls := findClass_of_methodNamed Bd.named
  have hnm := (name_of_methodNamed Bd.named Bd.method).1
  have X0 : Stand p l e rm s m args below meth c s₁ [] 0 0 := Stand.of_body Bd
  have e0 : s₁.heap = h0 := by rw [← hh, Bd.state]; rfl
  obtain ⟨v, h, ⟨T, locs, k, n, X, hk, hn, eT, N, hlk, hv, st⟩, hq⟩ := H p e s m below meth c s₁ ⟨⟨Bd.exec, Bd.bytes, hml0, hown, hZ, Bd.returns, Bd.notSynchronized, hnm⟩, s₁, [], X0, e0, Fr.nil n0, fun _ z => z⟩
  obtain ⟨fs, hr, hrun, hended, hW, hsame⟩ := X.leave (v := v) hv hlk
  refine ⟨_, _, castTop (hL m) (st fs hr), hrun, hended, v, locs, rfl, ⟨N, ?_⟩, ⟨_, rfl⟩, hW, hsame.mono hk hn⟩
  show Q v T.heap
  rw [eT]; exact hq
-- calls
theorem Rch.callS {z : MethodName} {bc' : ByteArray} {ml' : Nat} {rt' : Option FieldType} {rm : Room} {idx : Nat} {ps : List FieldType} {ro : Option FieldType} {Q : Option Value → Heap → Prop} (argsL : List Value) {rest : List Value} (W : Nat)
    (r : Rch p l e R s m args below meth c Z y bc ml rt n0 T0 g0 k n h (mkF m pc L S)) (hd : decode bc pc = .ok (.invokestatic idx, 3)) (w1 : (Jvm.Cond.methodLink y.cls idx z).before a0 Z = true) (w2 : (Jvm.Cond.static z).before a0 Z = true) (w3 : (Jvm.Cond.initialized z.cls).before a0 Z = true) (w4 : (Jvm.Cond.code z bc' ml' rt').before a0 Z = true)
    (hy : z.cls ≠ "java/lang/invoke/MethodHandle" ∧ z.cls ≠ "java/lang/invoke/VarHandle") (C : Ctr l Z z bc' ml' rt' rm argsL.toArray h n0 Q) (pd : parseMethodDescriptor z.desc = some ⟨ps, ro⟩) (hlen : argsL.length = ps.length) (hS : S = argsL.reverse ++ rest) (hml : L.size = ml)
    (hW : (rest.map fun v => v.category).sum ≤ W) (hf : rm.frames + 1 ≤ R.frames) (hlo : W + (ml' + 11) + rm.locals ≤ R.locals) {k' n' : Nat} (hk : k + rm.cells = k') (hn' : n + rm.slots = n') (hc : k' ≤ R.cells) (hl : n' ≤ R.slots) (hp : pc + 3 = pc') :
    ∃ v h', Q v h' ∧ Rch p l e R s m args below meth c Z y bc ml rt n0 T0 g0 k' n' h' (mkF m pc' L (v.toList ++ rest)) := by
  subst hp hS hk hn'
  obtain ⟨q, T, locs, X, eT, N, st⟩ := r
  obtain ⟨v, _, ⟨T', L', kk', nn'⟩, -, X', ⟨Lc, hQ, l1, y1, z1⟩, st'⟩ := Jvm.LawKit.callS X q.1 (y := z) q.2.2.2.1 (mvT q.2.2.2.2.1 w1) (mvT q.2.2.2.2.1 w2) (mvT q.2.2.2.2.1 w3) (mvT q.2.2.2.2.1 w4) hy (backOf (W := W) (Q := fun v h L => Fr n0 L ∧ Q v h) (C []) q.2.2.2.2.1 w4 w3 hf hlo) (g := mkF m pc L (argsL.reverse ++ rest)) rfl (by rw [q.2.2.1]; exact hml) (argsL := argsL) (rest := rest) (lenOf pd hlen) rfl (by simpa using hW) (hb q.2.1 hd) (fun _ _ => ⟨rfl, eT, hc, hl⟩)
  dsimp only [Pt.U, Pt.locs, Pt.cells, Pt.slots] at X' l1 y1 z1 st' hQ
  subst l1 y1 z1
  exact ⟨v, T'.heap, hQ.2, q, T', _, X', rfl, N.app hQ.1, fun t u => st t (st' t u)⟩
theorem Rch.callC {z : MethodName} {bc' : ByteArray} {ml' : Nat} {rm : Room} {idx : Nat} {ps : List FieldType} {ro : Option FieldType} {Q : Option Value → Heap → Prop} {a : Addr} (argsL : List Value) {rest : List Value} (W : Nat)
    (r : Rch p l e R s m args below meth c Z y bc ml rt n0 T0 g0 k n h (mkF m pc L S)) (hd : decode bc pc = .ok (.invokespecial idx, 3)) (hi : z.name = "<init>") (w1 : (Jvm.Cond.methodLink y.cls idx z).before a0 Z = true) (w2 : (Jvm.Cond.instanceMethod z).before a0 Z = true) (w3 : (Jvm.Cond.initialized z.cls).before a0 Z = true) (w4 : (Jvm.Cond.code z bc' ml' none).before a0 Z = true)
    (hy : z.cls ≠ "java/lang/invoke/MethodHandle" ∧ z.cls ≠ "java/lang/invoke/VarHandle") (C : Ctr l Z z bc' ml' none rm (.ref a :: argsL).toArray h n0 Q) (pd : parseMethodDescriptor z.desc = some ⟨ps, ro⟩) (hlen : argsL.length = ps.length) (hS : S = argsL.reverse ++ .ref a :: rest) (hml : L.size = ml)
    (hW : (rest.map fun v => v.category).sum ≤ W) (hf : rm.frames + 1 ≤ R.frames) (hlo : W + (ml' + 11) + rm.locals ≤ R.locals) {k' n' : Nat} (hk : k + rm.cells = k') (hn' : n + rm.slots = n') (hc : k' ≤ R.cells) (hl : n' ≤ R.slots) (hp : pc + 3 = pc') :
    ∃ v h', Q v h' ∧ Rch p l e R s m args below meth c Z y bc ml rt n0 T0 g0 k' n' h' (mkF m pc' L (v.toList ++ rest)) := by
  subst hp hS hk hn'
  obtain ⟨q, T, locs, X, eT, N, st⟩ := r
  obtain ⟨v, _, ⟨T', L', kk', nn'⟩, -, X', ⟨Lc, hQ, l1, y1, z1⟩, st'⟩ := X.specialBack q.1 (y := z) hi q.2.2.2.1 (mvT q.2.2.2.2.1 w1) (mvT q.2.2.2.2.1 w2) (mvT q.2.2.2.2.1 w4) hy (backOf (W := W) (Q := fun v h L => Fr n0 L ∧ Q v h) (C []) q.2.2.2.2.1 w4 w3 hf hlo) (g := mkF m pc L (argsL.reverse ++ .ref a :: rest)) rfl (by rw [q.2.2.1]; exact hml) (Steps.refl _) (a := a) (argsL := argsL) (rest := rest) (lenOf pd hlen) rfl (by simpa using hW) (hb q.2.1 hd) (fun _ _ => ⟨rfl, eT, hc, hl⟩)
  dsimp only [Pt.U, Pt.locs, Pt.cells, Pt.slots] at X' l1 y1 z1 st' hQ
  subst l1 y1 z1
  exact ⟨v, T'.heap, hQ.2, q, T', _, X', rfl, N.app hQ.1, fun t u => st t (st'.trans u)⟩
theorem Rch.callV {z z' : MethodName} {K : String} {bc' : ByteArray} {ml' : Nat} {rt' : Option FieldType} {rm : Room} {idx : Nat} {ps : List FieldType} {ro : Option FieldType} {Q : Option Value → Heap → Prop} {a : Addr} (argsL : List Value) {rest : List Value} (W : Nat)
    (r : Rch p l e R s m args below meth c Z y bc ml rt n0 T0 g0 k n h (mkF m pc L S)) (hd : decode bc pc = .ok (.invokevirtual idx, 3)) (w1 : (Jvm.Cond.methodLink y.cls idx z).before a0 Z = true) (w2 : (Jvm.Cond.declares z).before a0 Z = true) (nf : NotFace s z) (w5 : (Jvm.Cond.selects K z z').before a0 Z = true) (w6 : (Jvm.Cond.instanceMethod z').before a0 Z = true) (w3 : (Jvm.Cond.initialized z'.cls).before a0 Z = true) (w4 : (Jvm.Cond.code z' bc' ml' rt').before a0 Z = true)
    (hy : z.cls ≠ "java/lang/invoke/MethodHandle" ∧ z.cls ≠ "java/lang/invoke/VarHandle") (C : Ctr l Z z' bc' ml' rt' rm (.ref a :: argsL).toArray h n0 Q) (E : Exa Z h a K) (pd : parseMethodDescriptor z.desc = some ⟨ps, ro⟩) (hlen : argsL.length = ps.length) (hS : S = argsL.reverse ++ .ref a :: rest) (hml : L.size = ml)
    (hW : (rest.map fun v => v.category).sum ≤ W) (hf : rm.frames + 1 ≤ R.frames) (hlo : W + (ml' + 11) + rm.locals ≤ R.locals) {k' n' : Nat} (hk : k + rm.cells = k') (hn' : n + rm.slots = n') (hc : k' ≤ R.cells) (hl : n' ≤ R.slots) (hp : pc + 3 = pc') :
    ∃ v h', Q v h' ∧ Rch p l e R s m args below meth c Z y bc ml rt n0 T0 g0 k' n' h' (mkF m pc' L (v.toList ++ rest)) := by
  subst hp hS hk hn'
  obtain ⟨q, T, locs, X, eT, N, st⟩ := r
  obtain ⟨cq, kq, qa, qb, qc⟩ := isOf q.2.2.2.2.1 eT E
  obtain ⟨v, _, ⟨T', L', kk', nn'⟩, -, X', ⟨Lc, hQ, l1, y1, z1⟩, st'⟩ := X.virtualBack q.1 (y := z) (z := z') q.2.2.2.1 (mvT q.2.2.2.2.1 w1) (mvT q.2.2.2.2.1 w2) nf (mvT q.2.2.2.2.1 w5) (mvT q.2.2.2.2.1 w6) hy (backOf (W := W) (Q := fun v h L => Fr n0 L ∧ Q v h) (C []) q.2.2.2.2.1 w4 w3 hf hlo) qa qc (g := mkF m pc L (argsL.reverse ++ .ref a :: rest)) rfl (by rw [q.2.2.1]; exact hml) (Steps.refl _) (argsL := argsL) (rest := rest) (lenOf pd hlen) rfl (by simpa using hW) (hb q.2.1 hd) (fun _ _ => ⟨rfl, eT, hc, hl⟩)
  dsimp only [Pt.U, Pt.locs, Pt.cells, Pt.slots] at X' l1 y1 z1 st' hQ
  subst l1 y1 z1
  exact ⟨v, T'.heap, hQ.2, q, T', _, X', rfl, N.app hQ.1, fun t u => st t (st'.trans u)⟩
theorem Rch.nface {z z' : MethodName} {K : String} {g : JFrame} (r : Rch p l e R s m args below meth c Z y bc ml rt n0 T0 g0 k n h g) (w : (Jvm.Cond.selects K z z').before a0 Z = true) (hq : z = z') : NotFace s z := by
  subst hq; exact notFace_of_selects (args := #[]) (mvT r.1.2.2.2.2.1 w)
theorem Rch.initO {idx : Nat} {a : Addr} (W : Nat) (r : Rch p l e R s m args below meth c Z y bc ml rt n0 T0 g0 k n h (mkF m pc L (.ref a :: S))) (hd : decode bc pc = .ok (.invokespecial idx, 3)) (w1 : (Jvm.Cond.methodLink y.cls idx Lib.objectInit).before a0 Z = true) (w2 : (Jvm.Cond.instanceMethod Lib.objectInit).before a0 Z = true) (w3 : (Jvm.Cond.code Lib.objectInit ⟨#[0xb1]⟩ 1 none).before a0 Z = true) (hml : L.size = ml)
    (hf : 1 ≤ R.frames) (hW : (S.map fun v => v.category).sum ≤ W) (hl : W + 12 ≤ R.locals) (hp : pc + 3 = pc') : Rch p l e R s m args below meth c Z y bc ml rt n0 T0 g0 k n h (mkF m pc' L S) := by
  subst hp
  exact r.keep fun T locs X eT => initO X r.1.1 r.1.2.2.2.2.1 r.1.2.2.2.1 w1 w2 w3 eT (g := mkF m pc L (.ref a :: S)) rfl (by rw [r.1.2.2.1]; exact hml) rfl (hb r.1.2.1 hd) hf (W := W) (by simpa using hW) hl
end OwnLayer

section OwnArrB
/-- a byte[] of the length z whose values are F (what F says beyond the length is free) -/
def ArB (Z : State) (h : Heap) (a : Addr) (z : Int32) (F : List Int32) : Prop := ∃ kc, Arv Z h a kc .byte z (F.map Value.int) (.int 0)
theorem getD_mapB (F : List Int32) (i : Nat) : (F.map Value.int).getD i (.int 0) = .int (F.getD i 0) := by
  simp only [List.getD_eq_getElem?_getD, List.getElem?_map]
  cases F[i]? <;> rfl
variable {p : Program} {l : Launch} {e : Env} {R : Room} {s : State} {m : MethodId} {args : Array Value} {below : List Frame} {meth : Method} {c : Code} {Z : State} {y : MethodName} {bc : ByteArray} {ml : Nat} {rt : Option FieldType} {n0 : Nat} {T0 : State} {g0 : JFrame} {k n : Nat} {h h' : Heap} {a0 : Array Value} {pc pc' : Nat} {L : Array Slot} {S : List Value} {a b : Addr} {z j x : Int32} {F : List Int32}
theorem ArB.lt (V : ArB Z h a z F) : a < h.size := by obtain ⟨_, V⟩ := V; exact Jvm.RoadKit.Arv.lt V
theorem ArB.ext (V : ArB Z h a z F) (E : Ext h h') : ArB Z h' a z F := by obtain ⟨kc, V⟩ := V; exact ⟨kc, Jvm.RoadKit.Arv.ext V E⟩
theorem ArB.other {sl : Nat} {v : Value} (V : ArB Z h b z F) (W : Wr h h' a sl v) (q : b ≠ a) : ArB Z h' b z F := by obtain ⟨kc, V⟩ := V; exact ⟨kc, Jvm.RoadKit.Arv.other V W q⟩
theorem ArB.keep {ws : List Addr} (V : ArB Z h a z F) (K : Keep h h' ws) (q : a ∉ ws) : ArB Z h' a z F := by obtain ⟨kc, V⟩ := V; exact ⟨kc, Jvm.RoadKit.Arv.keep V K q⟩
theorem ArB.new {kc : ClassId} (V : Arv Z h a kc .byte z [] (.int 0)) (i : Nat) : ArB Z h a z (List.replicate i 0) := ⟨kc, by
  have q := Jvm.RoadKit.Arv.pad V (pad_rep [] (.int 0) i)
  simpa using q⟩
theorem ArB.beyond (V : ArB Z h a z F) (i : Nat) (hi : z.toNatClampNeg ≤ i) : ArB Z h a z (F.set i x) := by
  obtain ⟨kc, cl, A, q1, S, q3, H, G⟩ := V
  have hne : ∀ k, k < cl.slots.size → ((F.set i x).map Value.int).getD k (.int 0) = (F.map Value.int).getD k (.int 0) := by
    intro k hk
    rw [getD_mapB, getD_mapB]
    have hki : i ≠ k := by omega
    simp [List.getD_eq_getElem?_getD, List.getElem?_set_ne hki]
  exact ⟨kc, cl, A, q1, S, q3, fun k hk => by rw [hne k hk]; exact H k hk, fun k hk => by rw [hne k hk]; exact G k hk⟩
theorem Rch.gB (r : Rch p l e R s m args below meth c Z y bc ml rt n0 T0 g0 k n h (mkF m pc L (.int j :: .ref a :: S))) (hd : decode bc pc = .ok (.baload, 1)) (V : ArB Z h a z F) (h1 : ¬ j < 0) (h2 : j < z) (hp : pc + 1 = pc') :
    Rch p l e R s m args below meth c Z y bc ml rt n0 T0 g0 k n h (mkF m pc' L (.int (F.getD j.toNatClampNeg 0) :: S)) := by
  obtain ⟨kc, V⟩ := V
  exact Rch.ldB (.int (F.getD j.toNatClampNeg 0)) r hd V h1 h2 (getD_mapB F _) hp
theorem Rch.sB (r : Rch p l e R s m args below meth c Z y bc ml rt n0 T0 g0 k n h (mkF m pc L (.int x :: .int j :: .ref a :: S))) (hd : decode bc pc = .ok (.bastore, 1)) (V : ArB Z h a z F) (h1 : ¬ j < 0) (h2 : j < z) (h3 : j.toNatClampNeg < F.length) (hN : n0 ≤ a) (hp : pc + 1 = pc') :
    ∃ h', Wr h h' a j.toNatClampNeg (.int (nar .byte x)) ∧ ArB Z h' a z (F.set j.toNatClampNeg (nar .byte x)) ∧ Rch p l e R s m args below meth c Z y bc ml rt n0 T0 g0 k n h' (mkF m pc' L S) := by
  obtain ⟨kc, V⟩ := V
  obtain ⟨h', W, V', r'⟩ := Rch.stB r hd V h1 h2 (by simpa using h3) hN hp
  exact ⟨h', W, ⟨kc, by rw [List.map_set]; exact V'⟩, r'⟩
theorem Rch.lenB (r : Rch p l e R s m args below meth c Z y bc ml rt n0 T0 g0 k n h (mkF m pc L (.ref a :: S))) (hd : decode bc pc = .ok (.arraylength, 1)) (V : ArB Z h a z F) (hp : pc + 1 = pc') :
    Rch p l e R s m args below meth c Z y bc ml rt n0 T0 g0 k n h (mkF m pc' L (.int z :: S)) := by
  obtain ⟨kc, V⟩ := V
  exact Rch.alen r hd V hp
end OwnArrB

/-- the i-th byte of x, as an int -/
def sh (x : Int64) (i : Int32) : Int32 := (((x.toUInt64 >>> (((8 : Int32) * i) &&& 0x3f).toInt64.toUInt64).toInt64).toInt32).toInt8.toInt32
def kbF (i p : Int32) (b d c : Int64) : Int32 := if i < p then sh (b ^^^ d) i else sh c i
def saF (i p : Int32) (d : Int64) : Int32 := if i < p then (if sh d i = 0 then 1 else 0) else 1
theorem sa01 (i p : Int32) (d : Int64) : saF i p d = 0 ∨ saF i p d = 1 := by
  unfold saF
  by_cases h1 : i < p
  · rw [if_pos h1]
    by_cases h2 : sh d i = 0
    · rw [if_pos h2]; exact Or.inr rfl
    · rw [if_neg h2]; exact Or.inl rfl
  · rw [if_neg h1]; exact Or.inr rfl
theorem nar_sh (x : Int64) (i : Int32) : nar .byte (sh x i) = sh x i := by simp [sh, nar]
theorem nar_b (x : Int32) : nar .byte (x.toInt8.toInt32) = x.toInt8.toInt32 := by simp [nar]
theorem nar_kb (i p : Int32) (b d c : Int64) : nar .byte (kbF i p b d c) = kbF i p b d c := by unfold kbF; split <;> exact nar_sh _ _
theorem sh_xor (b d : Int64) (i : Int32) : sh (b ^^^ d) i = sh b i ↔ sh d i = 0 := by
  obtain ⟨n, hn⟩ : ∃ n : UInt64, n = (((8 : Int32) * i) &&& 0x3f).toInt64.toUInt64 := ⟨_, rfl⟩
  have e0 : ∀ u : Int8, u.toInt32 = 0 ↔ u = 0 := fun u => by
    constructor
    · intro q
      apply Int8.toInt_inj.mp
      have := congrArg Int32.toInt q
      rw [Int8.toInt_toInt32] at this
      exact this
    · intro q; subst q; rfl
  have ei : ∀ u v : Int8, u.toInt32 = v.toInt32 ↔ u = v := fun u v => by
    constructor
    · intro q
      apply Int8.toInt_inj.mp
      have := congrArg Int32.toInt q
      rw [Int8.toInt_toInt32, Int8.toInt_toInt32] at this
      exact this
    · intro q; rw [q]
  have hx : (((b ^^^ d).toUInt64 >>> n).toInt64).toInt32.toInt8 = (((b.toUInt64 >>> n).toInt64).toInt32.toInt8) ^^^ (((d.toUInt64 >>> n).toInt64).toInt32.toInt8) := by
    apply Int8.toBitVec_inj.mp
    apply BitVec.eq_of_getLsbD_eq
    intro k hk
    have hk2 : k < 64 := by omega
    simp [BitVec.getLsbD_signExtend, BitVec.getElem_signExtend, hk, hk2, BitVec.getLsbD_xor, BitVec.getLsbD_ushiftRight]
  unfold sh
  rw [← hn, ei, e0, hx]
  constructor
  · intro q
    have := congrArg (fun z => (((b.toUInt64 >>> n).toInt64).toInt32.toInt8) ^^^ z) q
    simpa [← Int8.xor_assoc] using this
  · intro q; rw [q]; simp
theorem pn_com_example_hermod_hermod_store_EncodingIsOffsetKeyOfPinLaw : plainName "com/example/hermod/hermod/store/EncodingIsOffsetKeyOfPinLaw" = true := by first | (simp [plainName, overriddenIn]; done) | decide +kernel
theorem d1_0 : decode method_3_code 0 = .ok (.iload_n 1, 1) := by decide +kernel
theorem d1_1 : decode method_3_code 1 = .ok (.aload_n 0, 1) := by decide +kernel
theorem d1_2 : decode method_3_code 2 = .ok (.arraylength, 1) := by decide +kernel
theorem d1_3 : decode method_3_code 3 = .ok (.if_icmp .ge 7, 3) := by decide +kernel
theorem d1_6 : decode method_3_code 6 = .ok (.aload_n 0, 1) := by decide +kernel
theorem d1_7 : decode method_3_code 7 = .ok (.iload_n 1, 1) := by decide +kernel
theorem d1_8 : decode method_3_code 8 = .ok (.iload_n 2, 1) := by decide +kernel
theorem d1_9 : decode method_3_code 9 = .ok (.bastore, 1) := by decide +kernel
theorem d1_10 : decode method_3_code 10 = .ok (.return_, 1) := by decide +kernel
set_option maxRecDepth 65536 in
set_option maxHeartbeats 40000000 in
theorem c1 (l : Launch) (Z : State) (a0 : Array Value) (hw : ∀ d ∈ tables_1, d.before a0 Z = true) (a : Addr) (i x z : Int32) (F : List Int32) (h0 : Heap) (n0 : Nat) (V : ArB Z h0 a z F) (hi : ¬ i < 0) (hl : i.toNatClampNeg < F.length) (hx : nar .byte x = x) (hN : n0 ≤ a) :
    Ctr l Z (⟨"com/example/hermod/hermod/store/EncodingIsOffsetKeyOfPinLaw", "put", "([BIB)V"⟩ : MethodName) method_3_code 3 none ({ frames := 0, cells := 0, slots := 0, locals := 0 } : Room) #[(.ref a), (.int i), (.int x)] h0 n0 (fun v h => v = none ∧ ArB Z h a z (F.set i.toNatClampNeg x) ∧ Keep h0 h [a]) := by
  refine ent (plainFor_of_name pn_com_example_hermod_hermod_store_EncodingIsOffsetKeyOfPinLaw) (L0 := #[.val (.ref a), .val (.int i), .val (.int x)]) (fun m => by first | (simp [entryFrame, mkF, argsToLocals, Value.category]; done) | rfl) ?_
  intro p e s m below meth c T0 r0
  have r1 := r0.iloadN (pc' := 1) d1_0 rfl rfl
  have r2 := r1.aloadN (pc' := 2) d1_1 rfl rfl rfl
  have r3 := r2.lenB (pc' := 3) d1_2 V rfl
  by_cases hc4 : i < z
  · -- yes
    have r5 := r3.icF (pc' := 6) d1_3 (tlt hc4).2.1 rfl
    have r6 := r5.aloadN (pc' := 7) d1_6 rfl rfl rfl
    have r7 := r6.iloadN (pc' := 8) d1_7 rfl rfl
    have r8 := r7.iloadN (pc' := 9) d1_8 rfl rfl
    obtain ⟨h1, W1, V1, r1⟩ := r8.sB (pc' := 10) d1_9 V hi hc4 hl hN rfl
    rw [hx] at V1
    exact ⟨_, _, r1.retV d1_10 rfl (by decide) (by decide), ⟨rfl, V1, Keep.of_wr W1⟩⟩
  · -- not no
    have r9 := r3.icT (pc' := 10) d1_3 (flt hc4).2.1 (by decide) (by decide)
    have hge : z.toNatClampNeg ≤ i.toNatClampNeg := by
      simp only [Int32.lt_iff_toInt_lt] at hc4
      simp only [Int32.toNatClampNeg]; omega
    exact ⟨_, _, r9.retV d1_10 rfl (by decide) (by decide), ⟨rfl, V.beyond _ hge, Keep.refl _ _⟩⟩
theorem d2_0 : decode method_4_code 0 = .ok (.iload_n 0, 1) := by decide +kernel
theorem d2_1 : decode method_4_code 1 = .ok (.iload_n 1, 1) := by decide +kernel
theorem d2_2 : decode method_4_code 2 = .ok (.if_icmp .ge 15, 3) := by decide +kernel
theorem d2_5 : decode method_4_code 5 = .ok (.lload_n 2, 1) := by decide +kernel
theorem d2_6 : decode method_4_code 6 = .ok (.lload 4, 2) := by decide +kernel
theorem d2_8 : decode method_4_code 8 = .ok (.lxor, 1) := by decide +kernel
theorem d2_9 : decode method_4_code 9 = .ok (.bipush 8, 2) := by decide +kernel
theorem d2_11 : decode method_4_code 11 = .ok (.iload_n 0, 1) := by decide +kernel
theorem d2_12 : decode method_4_code 12 = .ok (.imul, 1) := by decide +kernel
theorem d2_13 : decode method_4_code 13 = .ok (.lushr, 1) := by decide +kernel
theorem d2_14 : decode method_4_code 14 = .ok (.l2i, 1) := by decide +kernel
theorem d2_15 : decode method_4_code 15 = .ok (.i2b, 1) := by decide +kernel
theorem d2_16 : decode method_4_code 16 = .ok (.ireturn, 1) := by decide +kernel
theorem d2_17 : decode method_4_code 17 = .ok (.lload 6, 2) := by decide +kernel
theorem d2_19 : decode method_4_code 19 = .ok (.bipush 8, 2) := by decide +kernel
theorem d2_21 : decode method_4_code 21 = .ok (.iload_n 0, 1) := by decide +kernel
theorem d2_22 : decode method_4_code 22 = .ok (.imul, 1) := by decide +kernel
theorem d2_23 : decode method_4_code 23 = .ok (.lushr, 1) := by decide +kernel
theorem d2_24 : decode method_4_code 24 = .ok (.l2i, 1) := by decide +kernel
theorem d2_25 : decode method_4_code 25 = .ok (.i2b, 1) := by decide +kernel
theorem d2_26 : decode method_4_code 26 = .ok (.ireturn, 1) := by decide +kernel
set_option maxRecDepth 65536 in
set_option maxHeartbeats 40000000 in
theorem c2 (l : Launch) (Z : State) (a0 : Array Value) (hw : ∀ d ∈ tables_1, d.before a0 Z = true) (i p' : Int32) (b d c' : Int64) (h0 : Heap) (n0 : Nat) :
    Ctr l Z (⟨"com/example/hermod/hermod/store/EncodingIsOffsetKeyOfPinLaw", "keyByte", "(IIJJJ)B"⟩ : MethodName) method_4_code 8 (some .byte) ({ frames := 0, cells := 0, slots := 0, locals := 0 } : Room) #[(.int i), (.int p'), (.long b), (.long d), (.long c')] h0 n0 (fun v h => v = some (.int (kbF i p' b d c')) ∧ h0 = h) := by
  refine ent (plainFor_of_name pn_com_example_hermod_hermod_store_EncodingIsOffsetKeyOfPinLaw) (L0 := #[.val (.int i), .val (.int p'), .val (.long b), .second, .val (.long d), .second, .val (.long c'), .second]) (fun m => by first | (simp [entryFrame, mkF, argsToLocals, Value.category]; done) | rfl) ?_
  intro p e s m below meth c T0 r0
  have r10 := r0.iloadN (pc' := 1) d2_0 rfl rfl
  have r11 := r10.iloadN (pc' := 2) d2_1 rfl rfl
  by_cases hc12 : i < p'
  · -- yes
    have r13 := r11.icF (pc' := 5) d2_2 (tlt hc12).2.1 rfl
    have r14 := r13.lloadN (pc' := 6) d2_5 rfl rfl
    have r15 := r14.lload (pc' := 8) d2_6 rfl rfl
    have r16 := r15.lxor (pc' := 9) d2_8 rfl rfl
    have r17 := r16.bipush (pc' := 11) (8 : Int32) d2_9 rfl rfl
    have r18 := r17.iloadN (pc' := 12) d2_11 rfl rfl
    have r19 := r18.imul (pc' := 13) d2_12 rfl rfl
    have r20 := r19.lushr (pc' := 14) d2_13 rfl rfl
    have r21 := r20.l2i (pc' := 15) d2_14 rfl rfl
    have r22 := r21.i2b (pc' := 16) d2_15 rfl rfl
    have hv : kbF i p' b d c' = (((((b ^^^ d).toUInt64 >>> (((8 : Int32) * i) &&& 0x3f).toInt64.toUInt64).toInt64).toInt32).toInt8.toInt32) := by unfold kbF; rw [if_pos hc12]; rfl
    rw [hv]
    exact ⟨_, _, r22.retZ d2_16 rfl (t := .byte) (by simp) (((((b ^^^ d).toUInt64 >>> (((8 : Int32) * i) &&& 0x3f).toInt64.toUInt64).toInt64).toInt32).toInt8.toInt32) (nar_b _) (by decide) (by decide), ⟨rfl, rfl⟩⟩
  · -- not no
    have r23 := r11.icT (pc' := 17) d2_2 (flt hc12).2.1 (by decide) (by decide)
    have r24 := r23.lload (pc' := 19) d2_17 rfl rfl
    have r25 := r24.bipush (pc' := 21) (8 : Int32) d2_19 rfl rfl
    have r26 := r25.iloadN (pc' := 22) d2_21 rfl rfl
    have r27 := r26.imul (pc' := 23) d2_22 rfl rfl
    have r28 := r27.lushr (pc' := 24) d2_23 rfl rfl
    have r29 := r28.l2i (pc' := 25) d2_24 rfl rfl
    have r30 := r29.i2b (pc' := 26) d2_25 rfl rfl
    have hv : kbF i p' b d c' = ((((c'.toUInt64 >>> (((8 : Int32) * i) &&& 0x3f).toInt64.toUInt64).toInt64).toInt32).toInt8.toInt32) := by unfold kbF; rw [if_neg hc12]; rfl
    rw [hv]
    exact ⟨_, _, r30.retZ d2_26 rfl (t := .byte) (by simp) ((((c'.toUInt64 >>> (((8 : Int32) * i) &&& 0x3f).toInt64.toUInt64).toInt64).toInt32).toInt8.toInt32) (nar_b _) (by decide) (by decide), ⟨rfl, rfl⟩⟩
theorem decAll (n : Int) (F G : List Int32) : (∀ j : Nat, (j : Int) < n → F.getD j 0 = G.getD j 0) ↔ ∀ j : Fin n.toNat, F.getD j.1 0 = G.getD j.1 0 := ⟨fun h j => h j.1 (by have := j.2; omega), fun h j hj => h ⟨j, by omega⟩⟩
/-- the answer of isOffsetKeyOf -/
def okF (zk zp : Int32) (FK FP : List Int32) : Int32 := if zk = zp + (8 : Int32) ∧ (∀ j : Fin zp.toInt.toNat, FK.getD j.1 0 = FP.getD j.1 0) then 1 else 0
theorem pn_com_example_hermod_hermod_store_Encoding : plainName "com/example/hermod/hermod/store/Encoding" = true := by first | (simp [plainName, overriddenIn]; done) | decide +kernel
theorem d3_0 : decode prog_34_method_6_code 0 = .ok (.aload_n 0, 1) := by decide +kernel
theorem d3_1 : decode prog_34_method_6_code 1 = .ok (.arraylength, 1) := by decide +kernel
theorem d3_2 : decode prog_34_method_6_code 2 = .ok (.aload_n 1, 1) := by decide +kernel
theorem d3_3 : decode prog_34_method_6_code 3 = .ok (.arraylength, 1) := by decide +kernel
theorem d3_4 : decode prog_34_method_6_code 4 = .ok (.bipush 8, 2) := by decide +kernel
theorem d3_6 : decode prog_34_method_6_code 6 = .ok (.iadd, 1) := by decide +kernel
theorem d3_7 : decode prog_34_method_6_code 7 = .ok (.if_icmp .eq 5, 3) := by decide +kernel
theorem d3_12 : decode prog_34_method_6_code 12 = .ok (.iconst 0, 1) := by decide +kernel
theorem d3_13 : decode prog_34_method_6_code 13 = .ok (.istore_n 2, 1) := by decide +kernel
theorem d3_14 : decode prog_34_method_6_code 14 = .ok (.iload_n 2, 1) := by decide +kernel
theorem d3_15 : decode prog_34_method_6_code 15 = .ok (.aload_n 1, 1) := by decide +kernel
theorem d3_16 : decode prog_34_method_6_code 16 = .ok (.arraylength, 1) := by decide +kernel
theorem d3_17 : decode prog_34_method_6_code 17 = .ok (.if_icmp .ge 20, 3) := by decide +kernel
theorem d3_37 : decode prog_34_method_6_code 37 = .ok (.iconst 1, 1) := by decide +kernel
theorem d3_38 : decode prog_34_method_6_code 38 = .ok (.ireturn, 1) := by decide +kernel
theorem d3_20 : decode prog_34_method_6_code 20 = .ok (.aload_n 0, 1) := by decide +kernel
theorem d3_21 : decode prog_34_method_6_code 21 = .ok (.iload_n 2, 1) := by decide +kernel
theorem d3_22 : decode prog_34_method_6_code 22 = .ok (.baload, 1) := by decide +kernel
theorem d3_23 : decode prog_34_method_6_code 23 = .ok (.aload_n 1, 1) := by decide +kernel
theorem d3_24 : decode prog_34_method_6_code 24 = .ok (.iload_n 2, 1) := by decide +kernel
theorem d3_25 : decode prog_34_method_6_code 25 = .ok (.baload, 1) := by decide +kernel
theorem d3_26 : decode prog_34_method_6_code 26 = .ok (.if_icmp .eq 5, 3) := by decide +kernel
theorem d3_31 : decode prog_34_method_6_code 31 = .ok (.iinc 2 1, 3) := by decide +kernel
theorem d3_34 : decode prog_34_method_6_code 34 = .ok (.goto (-20), 3) := by decide +kernel
theorem d3_29 : decode prog_34_method_6_code 29 = .ok (.iconst 0, 1) := by decide +kernel
theorem d3_30 : decode prog_34_method_6_code 30 = .ok (.ireturn, 1) := by decide +kernel
theorem d3_10 : decode prog_34_method_6_code 10 = .ok (.iconst 0, 1) := by decide +kernel
theorem d3_11 : decode prog_34_method_6_code 11 = .ok (.ireturn, 1) := by decide +kernel
set_option maxRecDepth 65536 in
set_option maxHeartbeats 40000000 in
theorem c3 (l : Launch) (Z : State) (a0 : Array Value) (hw : ∀ d ∈ tables_1, d.before a0 Z = true) (a b : Addr) (zk zp : Int32) (FK FP : List Int32) (h0 : Heap) (n0 : Nat) (VK : ArB Z h0 a zk FK) (VP : ArB Z h0 b zp FP) (hz : 0 ≤ zp.toInt) (hz4 : zp.toInt ≤ 4) :
    Ctr l Z (⟨"com/example/hermod/hermod/store/Encoding", "isOffsetKeyOf", "([B[B)Z"⟩ : MethodName) prog_34_method_6_code 3 (some .boolean) ({ frames := 0, cells := 0, slots := 0, locals := 0 } : Room) #[(.ref a), (.ref b)] h0 n0 (fun v h => v = some (.int (okF zk zp FK FP)) ∧ h0 = h) := by
  refine ent (plainFor_of_name pn_com_example_hermod_hermod_store_Encoding) (L0 := #[.val (.ref a), .val (.ref b), .unset]) (fun m => by first | (simp [entryFrame, mkF, argsToLocals, Value.category]; done) | rfl) ?_
  intro p e s m below meth c T0 r0
  have r31 := r0.aloadN (pc' := 1) d3_0 rfl rfl rfl
  have r32 := r31.lenB (pc' := 2) d3_1 VK rfl
  have r33 := r32.aloadN (pc' := 3) d3_2 rfl rfl rfl
  have r34 := r33.lenB (pc' := 4) d3_3 VP rfl
  have r35 := r34.bipush (pc' := 6) (8 : Int32) d3_4 rfl rfl
  have r36 := r35.iadd (pc' := 7) d3_6 rfl rfl
  by_cases hc37 : zk = (zp + (8 : Int32))
  · -- yes
    have r38 := r36.icT (pc' := 12) d3_7 (teq hc37).1 (by decide) (by decide)
    have r39 := r38.iconst (pc' := 13) (0 : Int32) d3_12 rfl rfl
    have r40 := r39.istoreN (pc' := 14) (L' := #[.val (.ref a), .val (.ref b), .val (.int (0 : Int32))]) d3_13 rfl rfl
    have loop : ∀ (t : Nat) (i : Int32), i.toInt + t = zp.toInt → 0 ≤ i.toInt → (∀ j : Nat, (j : Int) < i.toInt → FK.getD j 0 = FP.getD j 0) → Rch p l e ({ frames := 0, cells := 0, slots := 0, locals := 0 } : Room) s m #[(.ref a), (.ref b)] below meth c Z (⟨"com/example/hermod/hermod/store/Encoding", "isOffsetKeyOf", "([B[B)Z"⟩ : MethodName) prog_34_method_6_code 3 (some .boolean) n0 T0 (mkF m 0 #[.val (.ref a), .val (.ref b), .unset] []) 0 0 h0 (mkF m 14 #[.val (.ref a), .val (.ref b), .val (.int i)] []) → ∃ v h, Don p l e ({ frames := 0, cells := 0, slots := 0, locals := 0 } : Room) s m #[(.ref a), (.ref b)] below meth c (some .boolean) n0 T0 (mkF m 0 #[.val (.ref a), .val (.ref b), .unset] []) v h ∧ v = some (.int (okF zk zp FK FP)) ∧ h0 = h := by
      intro t
      induction t with
      | zero =>
        intro i h1 h2 h3 r
        have r41 := r.iloadN (pc' := 15) d3_14 rfl rfl
        have r42 := r41.aloadN (pc' := 16) d3_15 rfl rfl rfl
        have r43 := r42.lenB (pc' := 17) d3_16 VP rfl
        have hnl : ¬ i < zp := by rw [Int32.lt_iff_toInt_lt]; omega
        have r44 := r43.icT (pc' := 37) d3_17 (flt hnl).2.1 (by decide) (by decide)
        have r45 := r44.iconst (pc' := 38) (1 : Int32) d3_37 rfl rfl
        have hv : okF zk zp FK FP = 1 := if_pos ⟨hc37, fun j => h3 j.1 (by have := j.2; omega)⟩
        rw [hv]
        exact ⟨_, _, r45.retZ d3_38 rfl (t := .boolean) (by simp) (1 : Int32) rfl (by decide) (by decide), ⟨rfl, rfl⟩⟩
      | succ t ih =>
        intro i h1 h2 h3 r
        have r46 := r.iloadN (pc' := 15) d3_14 rfl rfl
        have r47 := r46.aloadN (pc' := 16) d3_15 rfl rfl rfl
        have r48 := r47.lenB (pc' := 17) d3_16 VP rfl
        have hl : i < zp := by rw [Int32.lt_iff_toInt_lt]; omega
        have hn0 : ¬ i < 0 := by rw [Int32.lt_iff_toInt_lt]; simp only [Int32.reduceToInt]; omega
        have hlk : i < zk := by
          rw [hc37, Int32.lt_iff_toInt_lt]
          have := c_iadd zp 8
          simp only [Int32.reduceToInt] at this
          have := rng32 (zp + 8)
          omega
        have r49 := r48.icF (pc' := 20) d3_17 (tlt hl).2.1 rfl
        have r50 := r49.aloadN (pc' := 21) d3_20 rfl rfl rfl
        have r51 := r50.iloadN (pc' := 22) d3_21 rfl rfl
        have r52 := r51.gB (pc' := 23) d3_22 VK hn0 hlk rfl
        have r53 := r52.aloadN (pc' := 24) d3_23 rfl rfl rfl
        have r54 := r53.iloadN (pc' := 25) d3_24 rfl rfl
        have r55 := r54.gB (pc' := 26) d3_25 VP hn0 hl rfl
        by_cases hc56 : (FK.getD i.toNatClampNeg 0) = (FP.getD i.toNatClampNeg 0)
        · -- yes
          have r57 := r55.icT (pc' := 31) d3_26 (teq hc56).1 (by decide) (by decide)
          have r58 := r57.iinc (pc' := 34) (L' := #[.val (.ref a), .val (.ref b), .val (.int (i + (1 : Int32)))]) (1 : Int32) d3_31 rfl rfl rfl rfl rfl
          have r59 := r58.goto (pc' := 14) d3_34 (by decide) (by decide)
          have hi1 : (i + (1 : Int32)).toInt = i.toInt + 1 := by
            have q1 := c_iadd i 1
            have q2 := rng32 (i + 1)
            have q3 := rng32 i
            simp only [Int32.reduceToInt] at q1
            omega
          refine ih (i + (1 : Int32)) (by omega) (by omega) (fun j hj => ?_) r59
          by_cases hji : (j : Int) < i.toInt
          · exact h3 j hji
          · have : j = i.toNatClampNeg := by simp only [Int32.toNatClampNeg]; omega
            rw [this]; exact hc56
        · -- not no
          have r60 := r55.icF (pc' := 29) d3_26 (feq hc56).1 rfl
          have r61 := r60.iconst (pc' := 30) (0 : Int32) d3_29 rfl rfl
          have hv : okF zk zp FK FP = 0 := if_neg fun q => hc56 (q.2 ⟨i.toNatClampNeg, by simp only [Int32.toNatClampNeg]; omega⟩)
          rw [hv]
          exact ⟨_, _, r61.retZ d3_30 rfl (t := .boolean) (by simp) (0 : Int32) rfl (by decide) (by decide), ⟨rfl, rfl⟩⟩
    exact loop zp.toInt.toNat 0 (by simp only [Int32.reduceToInt]; omega) (by decide) (fun j hj => absurd hj (by simp only [Int32.reduceToInt]; omega)) r40
  · -- not no
    have r62 := r36.icF (pc' := 10) d3_7 (feq hc37).1 rfl
    have r63 := r62.iconst (pc' := 11) (0 : Int32) d3_10 rfl rfl
    have hv : okF zk zp FK FP = 0 := if_neg fun q => hc37 q.1
    rw [hv]
    exact ⟨_, _, r63.retZ d3_11 rfl (t := .boolean) (by simp) (0 : Int32) rfl (by decide) (by decide), ⟨rfl, rfl⟩⟩
theorem d4_0 : decode method_5_code 0 = .ok (.iload_n 0, 1) := by decide +kernel
theorem d4_1 : decode method_5_code 1 = .ok (.iload_n 1, 1) := by decide +kernel
theorem d4_2 : decode method_5_code 2 = .ok (.if_icmp .ge 14, 3) := by decide +kernel
theorem d4_5 : decode method_5_code 5 = .ok (.lload_n 2, 1) := by decide +kernel
theorem d4_6 : decode method_5_code 6 = .ok (.bipush 8, 2) := by decide +kernel
theorem d4_8 : decode method_5_code 8 = .ok (.iload_n 0, 1) := by decide +kernel
theorem d4_9 : decode method_5_code 9 = .ok (.imul, 1) := by decide +kernel
theorem d4_10 : decode method_5_code 10 = .ok (.lushr, 1) := by decide +kernel
theorem d4_11 : decode method_5_code 11 = .ok (.l2i, 1) := by decide +kernel
theorem d4_12 : decode method_5_code 12 = .ok (.i2b, 1) := by decide +kernel
theorem d4_13 : decode method_5_code 13 = .ok (.ifCond .ne 7, 3) := by decide +kernel
theorem d4_16 : decode method_5_code 16 = .ok (.iconst 1, 1) := by decide +kernel
theorem d4_17 : decode method_5_code 17 = .ok (.goto 4, 3) := by decide +kernel
theorem d4_21 : decode method_5_code 21 = .ok (.ireturn, 1) := by decide +kernel
theorem d4_20 : decode method_5_code 20 = .ok (.iconst 0, 1) := by decide +kernel
set_option maxRecDepth 65536 in
set_option maxHeartbeats 40000000 in
theorem c4 (l : Launch) (Z : State) (a0 : Array Value) (hw : ∀ d ∈ tables_1, d.before a0 Z = true) (i p' : Int32) (d : Int64) (h0 : Heap) (n0 : Nat) :
    Ctr l Z (⟨"com/example/hermod/hermod/store/EncodingIsOffsetKeyOfPinLaw", "sameAt", "(IIJ)Z"⟩ : MethodName) method_5_code 4 (some .boolean) ({ frames := 0, cells := 0, slots := 0, locals := 0 } : Room) #[(.int i), (.int p'), (.long d)] h0 n0 (fun v h => v = some (.int (saF i p' d)) ∧ h0 = h) := by
  refine ent (plainFor_of_name pn_com_example_hermod_hermod_store_EncodingIsOffsetKeyOfPinLaw) (L0 := #[.val (.int i), .val (.int p'), .val (.long d), .second]) (fun m => by first | (simp [entryFrame, mkF, argsToLocals, Value.category]; done) | rfl) ?_
  intro p e s m below meth c T0 r0
  have r64 := r0.iloadN (pc' := 1) d4_0 rfl rfl
  have r65 := r64.iloadN (pc' := 2) d4_1 rfl rfl
  by_cases hc66 : i < p'
  · -- yes
    have r67 := r65.icF (pc' := 5) d4_2 (tlt hc66).2.1 rfl
    have r68 := r67.lloadN (pc' := 6) d4_5 rfl rfl
    have r69 := r68.bipush (pc' := 8) (8 : Int32) d4_6 rfl rfl
    have r70 := r69.iloadN (pc' := 9) d4_8 rfl rfl
    have r71 := r70.imul (pc' := 10) d4_9 rfl rfl
    have r72 := r71.lushr (pc' := 11) d4_10 rfl rfl
    have r73 := r72.l2i (pc' := 12) d4_11 rfl rfl
    have r74 := r73.i2b (pc' := 13) d4_12 rfl rfl
    by_cases hc75 : ((((d.toUInt64 >>> (((8 : Int32) * i) &&& 0x3f).toInt64.toUInt64).toInt64).toInt32).toInt8.toInt32) = (0 : Int32)
    · -- yes
      have r76 := r74.ifF (pc' := 16) d4_13 (teq hc75).2 rfl
      have r77 := r76.iconst (pc' := 17) (1 : Int32) d4_16 rfl rfl
      have r78 := r77.goto (pc' := 21) d4_17 (by decide) (by decide)
      have hv : saF i p' d = (1 : Int32) := by unfold saF; rw [if_pos hc66, if_pos (show sh d i = 0 from hc75)]
      rw [hv]
      exact ⟨_, _, r78.retZ d4_21 rfl (t := .boolean) (by simp) (1 : Int32) rfl (by decide) (by decide), ⟨rfl, rfl⟩⟩
    · -- not no
      have r79 := r74.ifT (pc' := 20) d4_13 (feq hc75).2 (by decide) (by decide)
      have r80 := r79.iconst (pc' := 21) (0 : Int32) d4_20 rfl rfl
      have hv : saF i p' d = (0 : Int32) := by unfold saF; rw [if_pos hc66, if_neg (show ¬ sh d i = 0 from hc75)]
      rw [hv]
      exact ⟨_, _, r80.retZ d4_21 rfl (t := .boolean) (by simp) (0 : Int32) rfl (by decide) (by decide), ⟨rfl, rfl⟩⟩
  · -- not no
    have r81 := r65.icT (pc' := 16) d4_2 (flt hc66).2.1 (by decide) (by decide)
    have r82 := r81.iconst (pc' := 17) (1 : Int32) d4_16 rfl rfl
    have r83 := r82.goto (pc' := 21) d4_17 (by decide) (by decide)
    have hv : saF i p' d = (1 : Int32) := by unfold saF; rw [if_neg hc66]
    rw [hv]
    exact ⟨_, _, r83.retZ d4_21 rfl (t := .boolean) (by simp) (1 : Int32) rfl (by decide) (by decide), ⟨rfl, rfl⟩⟩
theorem p_rng (a : Int32) : 0 ≤ ((a &&& (7 : Int32)) % (5 : Int32)).toInt ∧ ((a &&& (7 : Int32)) % (5 : Int32)).toInt ≤ 4 := by
  have h1 := c_and a 7 (by decide)
  have h2 := (c_irem (a &&& 7) 5 5 (by decide)).1 h1.1
  omega
theorem k_rng (a : Int32) : 0 ≤ (((a.toUInt32 >>> ((4 : Int32) &&& 31).toUInt32).toInt32) &&& (15 : Int32)).toInt ∧ (((a.toUInt32 >>> ((4 : Int32) &&& 31).toUInt32).toInt32) &&& (15 : Int32)).toInt ≤ 15 := by
  have h1 := c_and ((a.toUInt32 >>> ((4 : Int32) &&& 31).toUInt32).toInt32) 15 (by decide)
  simpa using h1
theorem sh0 (b : Int64) : (b.toInt32).toInt8.toInt32 = sh b 0 := by
  unfold sh
  have : (b.toUInt64 >>> (((8 : Int32) * 0) &&& 0x3f).toInt64.toUInt64).toInt64 = b := by
    have h0 : (((8 : Int32) * 0) &&& 0x3f).toInt64.toUInt64 = 0 := by decide
    rw [h0]; simp
  rw [this]
theorem i_lt (i p : Int32) : i < p ↔ i.toInt < p.toInt := Int32.lt_iff_toInt_lt
theorem plain (kl p : Int32) (b d c : Int64) (h0 : 0 ≤ p.toInt) (h4 : p.toInt ≤ 4) (K5 : List Int32) :
    okF kl p ([kbF 0 p b d c, kbF 1 p b d c, kbF 2 p b d c, kbF 3 p b d c] ++ K5) [sh b 0, sh b 1, sh b 2, sh b 3] = if kl = p + (8 : Int32) ∧ saF 0 p d = 1 ∧ saF 1 p d = 1 ∧ saF 2 p d = 1 ∧ saF 3 p d = 1 then (1 : Int32) else (0 : Int32) := by
  unfold okF
  have key : ∀ (i : Int32) (n : Nat), i.toInt = n → ((n < p.toInt.toNat → kbF i p b d c = sh b i) ↔ saF i p d = 1) := by
    intro i n hi
    unfold kbF saF
    by_cases hlt : i < p
    · have hn : n < p.toInt.toNat := by rw [i_lt] at hlt; omega
      rw [if_pos hlt, if_pos hlt]
      constructor
      · intro q; rw [if_pos ((sh_xor b d i).mp (q hn))]
      · intro q _
        by_cases hz : sh d i = 0
        · exact (sh_xor b d i).mpr hz
        · rw [if_neg hz] at q; exact absurd q (by decide)
    · have hn : ¬ n < p.toInt.toNat := by rw [i_lt] at hlt; omega
      rw [if_neg hlt, if_neg hlt]
      exact ⟨fun _ => rfl, fun _ q => absurd q hn⟩
  have k0 := key 0 0 rfl
  have k1 := key 1 1 rfl
  have k2 := key 2 2 rfl
  have k3 := key 3 3 rfl
  congr 1
  apply propext
  constructor
  · intro ⟨q1, q2⟩
    exact ⟨q1, k0.mp fun hn => q2 ⟨0, hn⟩, k1.mp fun hn => q2 ⟨1, hn⟩, k2.mp fun hn => q2 ⟨2, hn⟩, k3.mp fun hn => q2 ⟨3, hn⟩⟩
  · intro ⟨q1, a0, a1, a2, a3⟩
    refine ⟨q1, fun j => ?_⟩
    have hj := j.2
    obtain ⟨j, hj'⟩ := j
    have : j = 0 ∨ j = 1 ∨ j = 2 ∨ j = 3 := by omega
    rcases this with rfl | rfl | rfl | rfl
    · exact k0.mpr a0 hj'
    · exact k1.mpr a1 hj'
    · exact k2.mpr a2 hj'
    · exact k3.mpr a3 hj'
theorem pd_3 : parseMethodDescriptor "([BIB)V" = some ⟨[(.array .byte), .int, .byte], none⟩ := by decide +kernel
theorem pd_1 : parseMethodDescriptor "(IIJJJ)B" = some ⟨[.int, .int, .long, .long, .long], some .byte⟩ := by decide +kernel
theorem pd_0 : parseMethodDescriptor "(IIJ)Z" = some ⟨[.int, .int, .long], some .boolean⟩ := by decide +kernel
theorem pd_4 : parseMethodDescriptor "([B[B)Z" = some ⟨[(.array .byte), (.array .byte)], some .boolean⟩ := by decide +kernel
set_option maxRecDepth 65536 in
set_option maxHeartbeats 40000000 in
theorem law (l : Launch) (Z : State) (a0 : Array Value) (hw : ∀ d ∈ tables_1, d.before a0 Z = true) (x0 : Int32) (b c' mm : Int64) (h0 : Heap) (n0 : Nat) (Z0 : n0 ≤ h0.size) :
    Ctr l Z x code maxLocals ret room_1 #[(.int x0), (.long b), (.long c'), (.long mm)] h0 n0 (fun v h => v = some (.int 1)) := by
  refine ent (plainFor_of_name pn_com_example_hermod_hermod_store_EncodingIsOffsetKeyOfPinLaw) (L0 := #[.val (.int x0), .val (.long b), .second, .val (.long c'), .second, .val (.long mm), .second, .unset, .unset, .unset, .unset, .unset, .unset, .unset]) (fun m => by first | (simp [entryFrame, mkF, argsToLocals, Value.category, maxLocals]; done) | rfl) ?_
  intro p e s m below meth c T0 r0
  have r84 := r0.iloadN (pc' := 1) at_0 rfl rfl
  have r85 := r84.bipush (pc' := 3) (7 : Int32) at_1 rfl rfl
  have r86 := r85.iand (pc' := 4) at_3 rfl rfl
  have r87 := r86.iconst (pc' := 5) (5 : Int32) at_4 rfl rfl
  have r88 := r87.irem (pc' := 6) at_5 (by decide) rfl rfl
  have r89 := r88.istore (pc' := 8) (L' := #[.val (.int x0), .val (.long b), .second, .val (.long c'), .second, .val (.long mm), .second, .val (.int ((x0 &&& (7 : Int32)) % (5 : Int32))), .unset, .unset, .unset, .unset, .unset, .unset]) at_6 rfl rfl
  obtain ⟨pp, hpp⟩ : ∃ z, z = ((x0 &&& (7 : Int32)) % (5 : Int32)) := ⟨_, rfl⟩
  have hp0 := p_rng x0
  rw [← hpp] at r89 hp0
  have r90 := r89.iloadN (pc' := 9) at_8 rfl rfl
  have r91 := r90.iconst (pc' := 10) (3 : Int32) at_9 rfl rfl
  have r92 := r91.iushr (pc' := 11) at_10 rfl rfl
  have r93 := r92.iconst (pc' := 12) (1 : Int32) at_11 rfl rfl
  have r94 := r93.iand (pc' := 13) at_12 rfl rfl
  obtain ⟨kl, hkl, r95⟩ : ∃ kl : Int32, (0 ≤ kl.toInt ∧ kl.toInt ≤ 15) ∧ Rch p l e room_1 s m #[(.int x0), (.long b), (.long c'), (.long mm)] below meth c Z x code maxLocals ret n0 T0 (mkF m 0 #[.val (.int x0), .val (.long b), .second, .val (.long c'), .second, .val (.long mm), .second, .unset, .unset, .unset, .unset, .unset, .unset, .unset] []) 0 0 h0 (mkF m 30 #[.val (.int x0), .val (.long b), .second, .val (.long c'), .second, .val (.long mm), .second, .val (.int pp), .unset, .unset, .unset, .unset, .unset, .unset] [(.int kl)]) := by
    by_cases hc96 : (((x0.toUInt32 >>> ((3 : Int32) &&& 31).toUInt32).toInt32) &&& (1 : Int32)) = (0 : Int32)
    · -- yes
      have r97 := r94.ifT (pc' := 24) at_13 (teq hc96).1 (by decide) (by decide)
      have r98 := r97.iloadN (pc' := 25) at_24 rfl rfl
      have r99 := r98.iconst (pc' := 26) (4 : Int32) at_25 rfl rfl
      have r100 := r99.iushr (pc' := 27) at_26 rfl rfl
      have r101 := r100.bipush (pc' := 29) (15 : Int32) at_27 rfl rfl
      have r102 := r101.iand (pc' := 30) at_29 rfl rfl
      exact ⟨_, (k_rng x0), r102⟩
    · -- not no
      have r103 := r94.ifF (pc' := 16) at_13 (feq hc96).1 rfl
      have r104 := r103.iload (pc' := 18) at_16 rfl rfl
      have r105 := r104.bipush (pc' := 20) (8 : Int32) at_18 rfl rfl
      have r106 := r105.iadd (pc' := 21) at_20 rfl rfl
      have r107 := r106.goto (pc' := 30) at_21 (by decide) (by decide)
      exact ⟨_, (by have q1 := c_iadd pp 8; have q2 := rng32 (pp + 8); simp only [Int32.reduceToInt] at q1; omega), r107⟩
  have r108 := r95.istore (pc' := 32) (L' := #[.val (.int x0), .val (.long b), .second, .val (.long c'), .second, .val (.long mm), .second, .val (.int pp), .val (.int kl), .unset, .unset, .unset, .unset, .unset]) at_30 rfl rfl
  have r109 := r108.iloadN (pc' := 33) at_32 rfl rfl
  have r110 := r109.bipush (pc' := 35) (8 : Int32) at_33 rfl rfl
  have r111 := r110.iushr (pc' := 36) at_35 rfl rfl
  have r112 := r111.iconst (pc' := 37) (1 : Int32) at_36 rfl rfl
  have r113 := r112.iand (pc' := 38) at_37 rfl rfl
  obtain ⟨dd, r114⟩ : ∃ dd : Int64, Rch p l e room_1 s m #[(.int x0), (.long b), (.long c'), (.long mm)] below meth c Z x code maxLocals ret n0 T0 (mkF m 0 #[.val (.int x0), .val (.long b), .second, .val (.long c'), .second, .val (.long mm), .second, .unset, .unset, .unset, .unset, .unset, .unset, .unset] []) 0 0 h0 (mkF m 47 #[.val (.int x0), .val (.long b), .second, .val (.long c'), .second, .val (.long mm), .second, .val (.int pp), .val (.int kl), .unset, .unset, .unset, .unset, .unset] [(.long dd)]) := by
    by_cases hc115 : (((x0.toUInt32 >>> ((8 : Int32) &&& 31).toUInt32).toInt32) &&& (1 : Int32)) = (0 : Int32)
    · -- yes
      have r116 := r113.ifT (pc' := 46) at_38 (teq hc115).1 (by decide) (by decide)
      have r117 := r116.lconst (pc' := 47) (0 : Int64) at_46 rfl rfl
      exact ⟨_, r117⟩
    · -- not no
      have r118 := r113.ifF (pc' := 41) at_38 (feq hc115).1 rfl
      have r119 := r118.lload (pc' := 43) at_41 rfl rfl
      have r120 := r119.goto (pc' := 47) at_43 (by decide) (by decide)
      exact ⟨_, r120⟩
  have r121 := r114.lstore (pc' := 49) (L' := #[.val (.int x0), .val (.long b), .second, .val (.long c'), .second, .val (.long mm), .second, .val (.int pp), .val (.int kl), .val (.long dd), .second, .unset, .unset, .unset]) at_47 rfl rfl
  have r122 := r121.iload (pc' := 51) at_49 rfl rfl
  obtain ⟨h123, b123, kc123, hb123, E123, V123, r123⟩ := r122.newP (pc' := 53) at_51 (hw _ (List.mem_of_getElem? (i := 0) rfl)) (by rw [Int32.lt_iff_toInt_lt]; simp only [Int32.reduceToInt]; omega) (cap := 4) (by simp only [Int32.toNatClampNeg]; omega) (by decide) (k' := 1) (n' := 4) rfl rfl (by decide) (by decide) rfl
  have g123 : n0 ≤ b123 := hb123 ▸ Z0
  have zp123 : n0 ≤ h123.size := Nat.le_trans Z0 E123.1
  replace V123 := ArB.new V123 4
  have r124 := r123.astore (pc' := 55) (L' := #[.val (.int x0), .val (.long b), .second, .val (.long c'), .second, .val (.long mm), .second, .val (.int pp), .val (.int kl), .val (.long dd), .second, .val (.ref b123), .unset, .unset]) at_53 rfl rfl rfl
  have r125 := r124.aload (pc' := 57) at_55 rfl rfl rfl
  have r126 := r125.iconst (pc' := 58) (0 : Int32) at_57 rfl rfl
  have r127 := r126.lloadN (pc' := 59) at_58 rfl rfl
  have r128 := r127.l2i (pc' := 60) at_59 rfl rfl
  have r129 := r128.i2b (pc' := 61) at_60 rfl rfl
  obtain ⟨v133, h134, hq132, r131⟩ := r129.callS (pc' := 64) [(.ref b123), (.int (0 : Int32)), (.int ((b.toInt32).toInt8.toInt32))] (rest := []) 0 at_61 (hw _ (List.mem_of_getElem? (i := 1) rfl)) (hw _ (List.mem_of_getElem? (i := 2) rfl)) (hw _ (List.mem_of_getElem? (i := 3) rfl)) (hw _ (List.mem_of_getElem? (i := 4) rfl)) (by decide) (c1 l Z a0 hw b123 (0 : Int32) ((b.toInt32).toInt8.toInt32) pp [0, 0, 0, 0] h123 n0 V123 (by decide) (Nat.le_of_ble_eq_true rfl) (nar_b _) g123) pd_3 rfl rfl rfl (Nat.le_of_ble_eq_true rfl) (by decide) (by decide) (k' := 1) (n' := 4) rfl rfl (by decide) (by decide) rfl
  obtain ⟨rfl, V130, K130⟩ := hq132
  dsimp only [Option.toList, List.cons_append, List.nil_append] at r131
  replace V130 : ArB Z h134 b123 pp [((b.toInt32).toInt8.toInt32), 0, 0, 0] := V130
  have zp130 : n0 ≤ h134.size := Nat.le_trans zp123 K130.1
  have r135 := r131.aload (pc' := 66) at_64 rfl rfl rfl
  have r136 := r135.iconst (pc' := 67) (1 : Int32) at_66 rfl rfl
  have r137 := r136.lloadN (pc' := 68) at_67 rfl rfl
  have r138 := r137.bipush (pc' := 70) (8 : Int32) at_68 rfl rfl
  have r139 := r138.lushr (pc' := 71) at_70 rfl rfl
  have r140 := r139.l2i (pc' := 72) at_71 rfl rfl
  have r141 := r140.i2b (pc' := 73) at_72 rfl rfl
  obtain ⟨v145, h146, hq144, r143⟩ := r141.callS (pc' := 76) [(.ref b123), (.int (1 : Int32)), (.int ((((b.toUInt64 >>> ((8 : Int32) &&& 0x3f).toInt64.toUInt64).toInt64).toInt32).toInt8.toInt32))] (rest := []) 0 at_73 (hw _ (List.mem_of_getElem? (i := 1) rfl)) (hw _ (List.mem_of_getElem? (i := 2) rfl)) (hw _ (List.mem_of_getElem? (i := 3) rfl)) (hw _ (List.mem_of_getElem? (i := 4) rfl)) (by decide) (c1 l Z a0 hw b123 (1 : Int32) ((((b.toUInt64 >>> ((8 : Int32) &&& 0x3f).toInt64.toUInt64).toInt64).toInt32).toInt8.toInt32) pp [((b.toInt32).toInt8.toInt32), 0, 0, 0] h134 n0 V130 (by decide) (Nat.le_of_ble_eq_true rfl) (nar_b _) g123) pd_3 rfl rfl rfl (Nat.le_of_ble_eq_true rfl) (by decide) (by decide) (k' := 1) (n' := 4) rfl rfl (by decide) (by decide) rfl
  obtain ⟨rfl, V142, K142⟩ := hq144
  dsimp only [Option.toList, List.cons_append, List.nil_append] at r143
  replace V142 : ArB Z h146 b123 pp [((b.toInt32).toInt8.toInt32), ((((b.toUInt64 >>> ((8 : Int32) &&& 0x3f).toInt64.toUInt64).toInt64).toInt32).toInt8.toInt32), 0, 0] := V142
  have zp142 : n0 ≤ h146.size := Nat.le_trans zp130 K142.1
  have r147 := r143.aload (pc' := 78) at_76 rfl rfl rfl
  have r148 := r147.iconst (pc' := 79) (2 : Int32) at_78 rfl rfl
  have r149 := r148.lloadN (pc' := 80) at_79 rfl rfl
  have r150 := r149.bipush (pc' := 82) (16 : Int32) at_80 rfl rfl
  have r151 := r150.lushr (pc' := 83) at_82 rfl rfl
  have r152 := r151.l2i (pc' := 84) at_83 rfl rfl
  have r153 := r152.i2b (pc' := 85) at_84 rfl rfl
  obtain ⟨v157, h158, hq156, r155⟩ := r153.callS (pc' := 88) [(.ref b123), (.int (2 : Int32)), (.int ((((b.toUInt64 >>> ((16 : Int32) &&& 0x3f).toInt64.toUInt64).toInt64).toInt32).toInt8.toInt32))] (rest := []) 0 at_85 (hw _ (List.mem_of_getElem? (i := 1) rfl)) (hw _ (List.mem_of_getElem? (i := 2) rfl)) (hw _ (List.mem_of_getElem? (i := 3) rfl)) (hw _ (List.mem_of_getElem? (i := 4) rfl)) (by decide) (c1 l Z a0 hw b123 (2 : Int32) ((((b.toUInt64 >>> ((16 : Int32) &&& 0x3f).toInt64.toUInt64).toInt64).toInt32).toInt8.toInt32) pp [((b.toInt32).toInt8.toInt32), ((((b.toUInt64 >>> ((8 : Int32) &&& 0x3f).toInt64.toUInt64).toInt64).toInt32).toInt8.toInt32), 0, 0] h146 n0 V142 (by decide) (Nat.le_of_ble_eq_true rfl) (nar_b _) g123) pd_3 rfl rfl rfl (Nat.le_of_ble_eq_true rfl) (by decide) (by decide) (k' := 1) (n' := 4) rfl rfl (by decide) (by decide) rfl
  obtain ⟨rfl, V154, K154⟩ := hq156
  dsimp only [Option.toList, List.cons_append, List.nil_append] at r155
  replace V154 : ArB Z h158 b123 pp [((b.toInt32).toInt8.toInt32), ((((b.toUInt64 >>> ((8 : Int32) &&& 0x3f).toInt64.toUInt64).toInt64).toInt32).toInt8.toInt32), ((((b.toUInt64 >>> ((16 : Int32) &&& 0x3f).toInt64.toUInt64).toInt64).toInt32).toInt8.toInt32), 0] := V154
  have zp154 : n0 ≤ h158.size := Nat.le_trans zp142 K154.1
  have r159 := r155.aload (pc' := 90) at_88 rfl rfl rfl
  have r160 := r159.iconst (pc' := 91) (3 : Int32) at_90 rfl rfl
  have r161 := r160.lloadN (pc' := 92) at_91 rfl rfl
  have r162 := r161.bipush (pc' := 94) (24 : Int32) at_92 rfl rfl
  have r163 := r162.lushr (pc' := 95) at_94 rfl rfl
  have r164 := r163.l2i (pc' := 96) at_95 rfl rfl
  have r165 := r164.i2b (pc' := 97) at_96 rfl rfl
  obtain ⟨v169, h170, hq168, r167⟩ := r165.callS (pc' := 100) [(.ref b123), (.int (3 : Int32)), (.int ((((b.toUInt64 >>> ((24 : Int32) &&& 0x3f).toInt64.toUInt64).toInt64).toInt32).toInt8.toInt32))] (rest := []) 0 at_97 (hw _ (List.mem_of_getElem? (i := 1) rfl)) (hw _ (List.mem_of_getElem? (i := 2) rfl)) (hw _ (List.mem_of_getElem? (i := 3) rfl)) (hw _ (List.mem_of_getElem? (i := 4) rfl)) (by decide) (c1 l Z a0 hw b123 (3 : Int32) ((((b.toUInt64 >>> ((24 : Int32) &&& 0x3f).toInt64.toUInt64).toInt64).toInt32).toInt8.toInt32) pp [((b.toInt32).toInt8.toInt32), ((((b.toUInt64 >>> ((8 : Int32) &&& 0x3f).toInt64.toUInt64).toInt64).toInt32).toInt8.toInt32), ((((b.toUInt64 >>> ((16 : Int32) &&& 0x3f).toInt64.toUInt64).toInt64).toInt32).toInt8.toInt32), 0] h158 n0 V154 (by decide) (Nat.le_of_ble_eq_true rfl) (nar_b _) g123) pd_3 rfl rfl rfl (Nat.le_of_ble_eq_true rfl) (by decide) (by decide) (k' := 1) (n' := 4) rfl rfl (by decide) (by decide) rfl
  obtain ⟨rfl, V166, K166⟩ := hq168
  dsimp only [Option.toList, List.cons_append, List.nil_append] at r167
  replace V166 : ArB Z h170 b123 pp [((b.toInt32).toInt8.toInt32), ((((b.toUInt64 >>> ((8 : Int32) &&& 0x3f).toInt64.toUInt64).toInt64).toInt32).toInt8.toInt32), ((((b.toUInt64 >>> ((16 : Int32) &&& 0x3f).toInt64.toUInt64).toInt64).toInt32).toInt8.toInt32), ((((b.toUInt64 >>> ((24 : Int32) &&& 0x3f).toInt64.toUInt64).toInt64).toInt32).toInt8.toInt32)] := V166
  have zp166 : n0 ≤ h170.size := Nat.le_trans zp154 K166.1
  have r171 := r167.iload (pc' := 102) at_100 rfl rfl
  have hF0 := sh0 b
  replace V166 : ArB Z h170 b123 pp [sh b 0, sh b 1, sh b 2, sh b 3] := by rw [← hF0]; exact V166
  obtain ⟨h172, b172, kc172, hb172, E172, V172, r172⟩ := r171.newP (pc' := 104) at_102 (hw _ (List.mem_of_getElem? (i := 0) rfl)) (by rw [Int32.lt_iff_toInt_lt]; simp only [Int32.reduceToInt]; omega) (cap := 15) (by simp only [Int32.toNatClampNeg]; omega) (by decide) (k' := 2) (n' := 19) rfl rfl (by decide) (by decide) rfl
  have g172 : n0 ≤ b172 := hb172 ▸ zp166
  have zp172 : n0 ≤ h172.size := Nat.le_trans zp166 E172.1
  replace V172 := ArB.new V172 15
  have r173 := r172.astore (pc' := 106) (L' := #[.val (.int x0), .val (.long b), .second, .val (.long c'), .second, .val (.long mm), .second, .val (.int pp), .val (.int kl), .val (.long dd), .second, .val (.ref b123), .val (.ref b172), .unset]) at_104 rfl rfl rfl
  have r174 := r173.aload (pc' := 108) at_106 rfl rfl rfl
  have r175 := r174.iconst (pc' := 109) (0 : Int32) at_108 rfl rfl
  have r176 := r175.iconst (pc' := 110) (0 : Int32) at_109 rfl rfl
  have r177 := r176.iload (pc' := 112) at_110 rfl rfl
  have r178 := r177.lloadN (pc' := 113) at_112 rfl rfl
  have r179 := r178.lload (pc' := 115) at_113 rfl rfl
  have r180 := r179.lloadN (pc' := 116) at_115 rfl rfl
  have hlt0 := V166.lt
  replace V166 := V166.ext E172
  have hne : b123 ≠ b172 := Nat.ne_of_lt (hb172 ▸ hlt0)
  obtain ⟨v183, h184, hq182, r181⟩ := r180.callS (pc' := 119) [(.int (0 : Int32)), (.int pp), (.long b), (.long dd), (.long c')] (rest := [(.int (0 : Int32)), (.ref b172)]) 2 at_116 (hw _ (List.mem_of_getElem? (i := 5) rfl)) (hw _ (List.mem_of_getElem? (i := 6) rfl)) (hw _ (List.mem_of_getElem? (i := 3) rfl)) (hw _ (List.mem_of_getElem? (i := 7) rfl)) (by decide) (c2 l Z a0 hw (0 : Int32) pp b dd c' h172 n0) pd_1 rfl rfl rfl (Nat.le_of_ble_eq_true rfl) (by decide) (by decide) (k' := 2) (n' := 19) rfl rfl (by decide) (by decide) rfl
  obtain ⟨rfl, rfl⟩ := hq182
  dsimp only [Option.toList, List.cons_append, List.nil_append] at r181
  obtain ⟨v188, h189, hq187, r186⟩ := r181.callS (pc' := 122) [(.ref b172), (.int (0 : Int32)), (.int (kbF (0 : Int32) pp b dd c'))] (rest := []) 0 at_119 (hw _ (List.mem_of_getElem? (i := 1) rfl)) (hw _ (List.mem_of_getElem? (i := 2) rfl)) (hw _ (List.mem_of_getElem? (i := 3) rfl)) (hw _ (List.mem_of_getElem? (i := 4) rfl)) (by decide) (c1 l Z a0 hw b172 (0 : Int32) (kbF (0 : Int32) pp b dd c') kl [0, 0, 0, 0, 0, 0, 0, 0, 0, 0, 0, 0, 0, 0, 0] h172 n0 V172 (by decide) (Nat.le_of_ble_eq_true rfl) (nar_kb _ _ _ _ _) g172) pd_3 rfl rfl rfl (Nat.le_of_ble_eq_true rfl) (by decide) (by decide) (k' := 2) (n' := 19) rfl rfl (by decide) (by decide) rfl
  obtain ⟨rfl, V185, K185⟩ := hq187
  dsimp only [Option.toList, List.cons_append, List.nil_append] at r186
  replace V185 : ArB Z h189 b172 kl [(kbF (0 : Int32) pp b dd c'), 0, 0, 0, 0, 0, 0, 0, 0, 0, 0, 0, 0, 0, 0] := V185
  have zp185 : n0 ≤ h189.size := Nat.le_trans zp172 K185.1
  replace V166 := V166.keep K185 (ninS hne nin0)
  have r190 := r186.aload (pc' := 124) at_122 rfl rfl rfl
  have r191 := r190.iconst (pc' := 125) (1 : Int32) at_124 rfl rfl
  have r192 := r191.iconst (pc' := 126) (1 : Int32) at_125 rfl rfl
  have r193 := r192.iload (pc' := 128) at_126 rfl rfl
  have r194 := r193.lloadN (pc' := 129) at_128 rfl rfl
  have r195 := r194.lload (pc' := 131) at_129 rfl rfl
  have r196 := r195.lloadN (pc' := 132) at_131 rfl rfl
  obtain ⟨v199, h200, hq198, r197⟩ := r196.callS (pc' := 135) [(.int (1 : Int32)), (.int pp), (.long b), (.long dd), (.long c')] (rest := [(.int (1 : Int32)), (.ref b172)]) 2 at_132 (hw _ (List.mem_of_getElem? (i := 5) rfl)) (hw _ (List.mem_of_getElem? (i := 6) rfl)) (hw _ (List.mem_of_getElem? (i := 3) rfl)) (hw _ (List.mem_of_getElem? (i := 7) rfl)) (by decide) (c2 l Z a0 hw (1 : Int32) pp b dd c' h189 n0) pd_1 rfl rfl rfl (Nat.le_of_ble_eq_true rfl) (by decide) (by decide) (k' := 2) (n' := 19) rfl rfl (by decide) (by decide) rfl
  obtain ⟨rfl, rfl⟩ := hq198
  dsimp only [Option.toList, List.cons_append, List.nil_append] at r197
  obtain ⟨v204, h205, hq203, r202⟩ := r197.callS (pc' := 138) [(.ref b172), (.int (1 : Int32)), (.int (kbF (1 : Int32) pp b dd c'))] (rest := []) 0 at_135 (hw _ (List.mem_of_getElem? (i := 1) rfl)) (hw _ (List.mem_of_getElem? (i := 2) rfl)) (hw _ (List.mem_of_getElem? (i := 3) rfl)) (hw _ (List.mem_of_getElem? (i := 4) rfl)) (by decide) (c1 l Z a0 hw b172 (1 : Int32) (kbF (1 : Int32) pp b dd c') kl [(kbF (0 : Int32) pp b dd c'), 0, 0, 0, 0, 0, 0, 0, 0, 0, 0, 0, 0, 0, 0] h189 n0 V185 (by decide) (Nat.le_of_ble_eq_true rfl) (nar_kb _ _ _ _ _) g172) pd_3 rfl rfl rfl (Nat.le_of_ble_eq_true rfl) (by decide) (by decide) (k' := 2) (n' := 19) rfl rfl (by decide) (by decide) rfl
  obtain ⟨rfl, V201, K201⟩ := hq203
  dsimp only [Option.toList, List.cons_append, List.nil_append] at r202
  replace V201 : ArB Z h205 b172 kl [(kbF (0 : Int32) pp b dd c'), (kbF (1 : Int32) pp b dd c'), 0, 0, 0, 0, 0, 0, 0, 0, 0, 0, 0, 0, 0] := V201
  have zp201 : n0 ≤ h205.size := Nat.le_trans zp185 K201.1
  replace V166 := V166.keep K201 (ninS hne nin0)
  have r206 := r202.aload (pc' := 140) at_138 rfl rfl rfl
  have r207 := r206.iconst (pc' := 141) (2 : Int32) at_140 rfl rfl
  have r208 := r207.iconst (pc' := 142) (2 : Int32) at_141 rfl rfl
  have r209 := r208.iload (pc' := 144) at_142 rfl rfl
  have r210 := r209.lloadN (pc' := 145) at_144 rfl rfl
  have r211 := r210.lload (pc' := 147) at_145 rfl rfl
  have r212 := r211.lloadN (pc' := 148) at_147 rfl rfl
  obtain ⟨v215, h216, hq214, r213⟩ := r212.callS (pc' := 151) [(.int (2 : Int32)), (.int pp), (.long b), (.long dd), (.long c')] (rest := [(.int (2 : Int32)), (.ref b172)]) 2 at_148 (hw _ (List.mem_of_getElem? (i := 5) rfl)) (hw _ (List.mem_of_getElem? (i := 6) rfl)) (hw _ (List.mem_of_getElem? (i := 3) rfl)) (hw _ (List.mem_of_getElem? (i := 7) rfl)) (by decide) (c2 l Z a0 hw (2 : Int32) pp b dd c' h205 n0) pd_1 rfl rfl rfl (Nat.le_of_ble_eq_true rfl) (by decide) (by decide) (k' := 2) (n' := 19) rfl rfl (by decide) (by decide) rfl
  obtain ⟨rfl, rfl⟩ := hq214
  dsimp only [Option.toList, List.cons_append, List.nil_append] at r213
  obtain ⟨v220, h221, hq219, r218⟩ := r213.callS (pc' := 154) [(.ref b172), (.int (2 : Int32)), (.int (kbF (2 : Int32) pp b dd c'))] (rest := []) 0 at_151 (hw _ (List.mem_of_getElem? (i := 1) rfl)) (hw _ (List.mem_of_getElem? (i := 2) rfl)) (hw _ (List.mem_of_getElem? (i := 3) rfl)) (hw _ (List.mem_of_getElem? (i := 4) rfl)) (by decide) (c1 l Z a0 hw b172 (2 : Int32) (kbF (2 : Int32) pp b dd c') kl [(kbF (0 : Int32) pp b dd c'), (kbF (1 : Int32) pp b dd c'), 0, 0, 0, 0, 0, 0, 0, 0, 0, 0, 0, 0, 0] h205 n0 V201 (by decide) (Nat.le_of_ble_eq_true rfl) (nar_kb _ _ _ _ _) g172) pd_3 rfl rfl rfl (Nat.le_of_ble_eq_true rfl) (by decide) (by decide) (k' := 2) (n' := 19) rfl rfl (by decide) (by decide) rfl
  obtain ⟨rfl, V217, K217⟩ := hq219
  dsimp only [Option.toList, List.cons_append, List.nil_append] at r218
  replace V217 : ArB Z h221 b172 kl [(kbF (0 : Int32) pp b dd c'), (kbF (1 : Int32) pp b dd c'), (kbF (2 : Int32) pp b dd c'), 0, 0, 0, 0, 0, 0, 0, 0, 0, 0, 0, 0] := V217
  have zp217 : n0 ≤ h221.size := Nat.le_trans zp201 K217.1
  replace V166 := V166.keep K217 (ninS hne nin0)
  have r222 := r218.aload (pc' := 156) at_154 rfl rfl rfl
  have r223 := r222.iconst (pc' := 157) (3 : Int32) at_156 rfl rfl
  have r224 := r223.iconst (pc' := 158) (3 : Int32) at_157 rfl rfl
  have r225 := r224.iload (pc' := 160) at_158 rfl rfl
  have r226 := r225.lloadN (pc' := 161) at_160 rfl rfl
  have r227 := r226.lload (pc' := 163) at_161 rfl rfl
  have r228 := r227.lloadN (pc' := 164) at_163 rfl rfl
  obtain ⟨v231, h232, hq230, r229⟩ := r228.callS (pc' := 167) [(.int (3 : Int32)), (.int pp), (.long b), (.long dd), (.long c')] (rest := [(.int (3 : Int32)), (.ref b172)]) 2 at_164 (hw _ (List.mem_of_getElem? (i := 5) rfl)) (hw _ (List.mem_of_getElem? (i := 6) rfl)) (hw _ (List.mem_of_getElem? (i := 3) rfl)) (hw _ (List.mem_of_getElem? (i := 7) rfl)) (by decide) (c2 l Z a0 hw (3 : Int32) pp b dd c' h221 n0) pd_1 rfl rfl rfl (Nat.le_of_ble_eq_true rfl) (by decide) (by decide) (k' := 2) (n' := 19) rfl rfl (by decide) (by decide) rfl
  obtain ⟨rfl, rfl⟩ := hq230
  dsimp only [Option.toList, List.cons_append, List.nil_append] at r229
  obtain ⟨v236, h237, hq235, r234⟩ := r229.callS (pc' := 170) [(.ref b172), (.int (3 : Int32)), (.int (kbF (3 : Int32) pp b dd c'))] (rest := []) 0 at_167 (hw _ (List.mem_of_getElem? (i := 1) rfl)) (hw _ (List.mem_of_getElem? (i := 2) rfl)) (hw _ (List.mem_of_getElem? (i := 3) rfl)) (hw _ (List.mem_of_getElem? (i := 4) rfl)) (by decide) (c1 l Z a0 hw b172 (3 : Int32) (kbF (3 : Int32) pp b dd c') kl [(kbF (0 : Int32) pp b dd c'), (kbF (1 : Int32) pp b dd c'), (kbF (2 : Int32) pp b dd c'), 0, 0, 0, 0, 0, 0, 0, 0, 0, 0, 0, 0] h221 n0 V217 (by decide) (Nat.le_of_ble_eq_true rfl) (nar_kb _ _ _ _ _) g172) pd_3 rfl rfl rfl (Nat.le_of_ble_eq_true rfl) (by decide) (by decide) (k' := 2) (n' := 19) rfl rfl (by decide) (by decide) rfl
  obtain ⟨rfl, V233, K233⟩ := hq235
  dsimp only [Option.toList, List.cons_append, List.nil_append] at r234
  replace V233 : ArB Z h237 b172 kl [(kbF (0 : Int32) pp b dd c'), (kbF (1 : Int32) pp b dd c'), (kbF (2 : Int32) pp b dd c'), (kbF (3 : Int32) pp b dd c'), 0, 0, 0, 0, 0, 0, 0, 0, 0, 0, 0] := V233
  have zp233 : n0 ≤ h237.size := Nat.le_trans zp217 K233.1
  replace V166 := V166.keep K233 (ninS hne nin0)
  have r238 := r234.aload (pc' := 172) at_170 rfl rfl rfl
  have r239 := r238.iconst (pc' := 173) (4 : Int32) at_172 rfl rfl
  have r240 := r239.iconst (pc' := 174) (4 : Int32) at_173 rfl rfl
  have r241 := r240.iload (pc' := 176) at_174 rfl rfl
  have r242 := r241.lloadN (pc' := 177) at_176 rfl rfl
  have r243 := r242.lload (pc' := 179) at_177 rfl rfl
  have r244 := r243.lloadN (pc' := 180) at_179 rfl rfl
  obtain ⟨v247, h248, hq246, r245⟩ := r244.callS (pc' := 183) [(.int (4 : Int32)), (.int pp), (.long b), (.long dd), (.long c')] (rest := [(.int (4 : Int32)), (.ref b172)]) 2 at_180 (hw _ (List.mem_of_getElem? (i := 5) rfl)) (hw _ (List.mem_of_getElem? (i := 6) rfl)) (hw _ (List.mem_of_getElem? (i := 3) rfl)) (hw _ (List.mem_of_getElem? (i := 7) rfl)) (by decide) (c2 l Z a0 hw (4 : Int32) pp b dd c' h237 n0) pd_1 rfl rfl rfl (Nat.le_of_ble_eq_true rfl) (by decide) (by decide) (k' := 2) (n' := 19) rfl rfl (by decide) (by decide) rfl
  obtain ⟨rfl, rfl⟩ := hq246
  dsimp only [Option.toList, List.cons_append, List.nil_append] at r245
  obtain ⟨v252, h253, hq251, r250⟩ := r245.callS (pc' := 186) [(.ref b172), (.int (4 : Int32)), (.int (kbF (4 : Int32) pp b dd c'))] (rest := []) 0 at_183 (hw _ (List.mem_of_getElem? (i := 1) rfl)) (hw _ (List.mem_of_getElem? (i := 2) rfl)) (hw _ (List.mem_of_getElem? (i := 3) rfl)) (hw _ (List.mem_of_getElem? (i := 4) rfl)) (by decide) (c1 l Z a0 hw b172 (4 : Int32) (kbF (4 : Int32) pp b dd c') kl [(kbF (0 : Int32) pp b dd c'), (kbF (1 : Int32) pp b dd c'), (kbF (2 : Int32) pp b dd c'), (kbF (3 : Int32) pp b dd c'), 0, 0, 0, 0, 0, 0, 0, 0, 0, 0, 0] h237 n0 V233 (by decide) (Nat.le_of_ble_eq_true rfl) (nar_kb _ _ _ _ _) g172) pd_3 rfl rfl rfl (Nat.le_of_ble_eq_true rfl) (by decide) (by decide) (k' := 2) (n' := 19) rfl rfl (by decide) (by decide) rfl
  obtain ⟨rfl, V249, K249⟩ := hq251
  dsimp only [Option.toList, List.cons_append, List.nil_append] at r250
  replace V249 : ArB Z h253 b172 kl [(kbF (0 : Int32) pp b dd c'), (kbF (1 : Int32) pp b dd c'), (kbF (2 : Int32) pp b dd c'), (kbF (3 : Int32) pp b dd c'), (kbF (4 : Int32) pp b dd c'), 0, 0, 0, 0, 0, 0, 0, 0, 0, 0] := V249
  have zp249 : n0 ≤ h253.size := Nat.le_trans zp233 K249.1
  replace V166 := V166.keep K249 (ninS hne nin0)
  have r254 := r250.aload (pc' := 188) at_186 rfl rfl rfl
  have r255 := r254.iconst (pc' := 189) (5 : Int32) at_188 rfl rfl
  have r256 := r255.iconst (pc' := 190) (5 : Int32) at_189 rfl rfl
  have r257 := r256.iload (pc' := 192) at_190 rfl rfl
  have r258 := r257.lloadN (pc' := 193) at_192 rfl rfl
  have r259 := r258.lload (pc' := 195) at_193 rfl rfl
  have r260 := r259.lloadN (pc' := 196) at_195 rfl rfl
  obtain ⟨v263, h264, hq262, r261⟩ := r260.callS (pc' := 199) [(.int (5 : Int32)), (.int pp), (.long b), (.long dd), (.long c')] (rest := [(.int (5 : Int32)), (.ref b172)]) 2 at_196 (hw _ (List.mem_of_getElem? (i := 5) rfl)) (hw _ (List.mem_of_getElem? (i := 6) rfl)) (hw _ (List.mem_of_getElem? (i := 3) rfl)) (hw _ (List.mem_of_getElem? (i := 7) rfl)) (by decide) (c2 l Z a0 hw (5 : Int32) pp b dd c' h253 n0) pd_1 rfl rfl rfl (Nat.le_of_ble_eq_true rfl) (by decide) (by decide) (k' := 2) (n' := 19) rfl rfl (by decide) (by decide) rfl
  obtain ⟨rfl, rfl⟩ := hq262
  dsimp only [Option.toList, List.cons_append, List.nil_append] at r261
  obtain ⟨v268, h269, hq267, r266⟩ := r261.callS (pc' := 202) [(.ref b172), (.int (5 : Int32)), (.int (kbF (5 : Int32) pp b dd c'))] (rest := []) 0 at_199 (hw _ (List.mem_of_getElem? (i := 1) rfl)) (hw _ (List.mem_of_getElem? (i := 2) rfl)) (hw _ (List.mem_of_getElem? (i := 3) rfl)) (hw _ (List.mem_of_getElem? (i := 4) rfl)) (by decide) (c1 l Z a0 hw b172 (5 : Int32) (kbF (5 : Int32) pp b dd c') kl [(kbF (0 : Int32) pp b dd c'), (kbF (1 : Int32) pp b dd c'), (kbF (2 : Int32) pp b dd c'), (kbF (3 : Int32) pp b dd c'), (kbF (4 : Int32) pp b dd c'), 0, 0, 0, 0, 0, 0, 0, 0, 0, 0] h253 n0 V249 (by decide) (Nat.le_of_ble_eq_true rfl) (nar_kb _ _ _ _ _) g172) pd_3 rfl rfl rfl (Nat.le_of_ble_eq_true rfl) (by decide) (by decide) (k' := 2) (n' := 19) rfl rfl (by decide) (by decide) rfl
  obtain ⟨rfl, V265, K265⟩ := hq267
  dsimp only [Option.toList, List.cons_append, List.nil_append] at r266
  replace V265 : ArB Z h269 b172 kl [(kbF (0 : Int32) pp b dd c'), (kbF (1 : Int32) pp b dd c'), (kbF (2 : Int32) pp b dd c'), (kbF (3 : Int32) pp b dd c'), (kbF (4 : Int32) pp b dd c'), (kbF (5 : Int32) pp b dd c'), 0, 0, 0, 0, 0, 0, 0, 0, 0] := V265
  have zp265 : n0 ≤ h269.size := Nat.le_trans zp249 K265.1
  replace V166 := V166.keep K265 (ninS hne nin0)
  have r270 := r266.aload (pc' := 204) at_202 rfl rfl rfl
  have r271 := r270.bipush (pc' := 206) (6 : Int32) at_204 rfl rfl
  have r272 := r271.bipush (pc' := 208) (6 : Int32) at_206 rfl rfl
  have r273 := r272.iload (pc' := 210) at_208 rfl rfl
  have r274 := r273.lloadN (pc' := 211) at_210 rfl rfl
  have r275 := r274.lload (pc' := 213) at_211 rfl rfl
  have r276 := r275.lloadN (pc' := 214) at_213 rfl rfl
  obtain ⟨v279, h280, hq278, r277⟩ := r276.callS (pc' := 217) [(.int (6 : Int32)), (.int pp), (.long b), (.long dd), (.long c')] (rest := [(.int (6 : Int32)), (.ref b172)]) 2 at_214 (hw _ (List.mem_of_getElem? (i := 5) rfl)) (hw _ (List.mem_of_getElem? (i := 6) rfl)) (hw _ (List.mem_of_getElem? (i := 3) rfl)) (hw _ (List.mem_of_getElem? (i := 7) rfl)) (by decide) (c2 l Z a0 hw (6 : Int32) pp b dd c' h269 n0) pd_1 rfl rfl rfl (Nat.le_of_ble_eq_true rfl) (by decide) (by decide) (k' := 2) (n' := 19) rfl rfl (by decide) (by decide) rfl
  obtain ⟨rfl, rfl⟩ := hq278
  dsimp only [Option.toList, List.cons_append, List.nil_append] at r277
  obtain ⟨v284, h285, hq283, r282⟩ := r277.callS (pc' := 220) [(.ref b172), (.int (6 : Int32)), (.int (kbF (6 : Int32) pp b dd c'))] (rest := []) 0 at_217 (hw _ (List.mem_of_getElem? (i := 1) rfl)) (hw _ (List.mem_of_getElem? (i := 2) rfl)) (hw _ (List.mem_of_getElem? (i := 3) rfl)) (hw _ (List.mem_of_getElem? (i := 4) rfl)) (by decide) (c1 l Z a0 hw b172 (6 : Int32) (kbF (6 : Int32) pp b dd c') kl [(kbF (0 : Int32) pp b dd c'), (kbF (1 : Int32) pp b dd c'), (kbF (2 : Int32) pp b dd c'), (kbF (3 : Int32) pp b dd c'), (kbF (4 : Int32) pp b dd c'), (kbF (5 : Int32) pp b dd c'), 0, 0, 0, 0, 0, 0, 0, 0, 0] h269 n0 V265 (by decide) (Nat.le_of_ble_eq_true rfl) (nar_kb _ _ _ _ _) g172) pd_3 rfl rfl rfl (Nat.le_of_ble_eq_true rfl) (by decide) (by decide) (k' := 2) (n' := 19) rfl rfl (by decide) (by decide) rfl
  obtain ⟨rfl, V281, K281⟩ := hq283
  dsimp only [Option.toList, List.cons_append, List.nil_append] at r282
  replace V281 : ArB Z h285 b172 kl [(kbF (0 : Int32) pp b dd c'), (kbF (1 : Int32) pp b dd c'), (kbF (2 : Int32) pp b dd c'), (kbF (3 : Int32) pp b dd c'), (kbF (4 : Int32) pp b dd c'), (kbF (5 : Int32) pp b dd c'), (kbF (6 : Int32) pp b dd c'), 0, 0, 0, 0, 0, 0, 0, 0] := V281
  have zp281 : n0 ≤ h285.size := Nat.le_trans zp265 K281.1
  replace V166 := V166.keep K281 (ninS hne nin0)
  have r286 := r282.aload (pc' := 222) at_220 rfl rfl rfl
  have r287 := r286.bipush (pc' := 224) (7 : Int32) at_222 rfl rfl
  have r288 := r287.bipush (pc' := 226) (7 : Int32) at_224 rfl rfl
  have r289 := r288.iload (pc' := 228) at_226 rfl rfl
  have r290 := r289.lloadN (pc' := 229) at_228 rfl rfl
  have r291 := r290.lload (pc' := 231) at_229 rfl rfl
  have r292 := r291.lloadN (pc' := 232) at_231 rfl rfl
  obtain ⟨v295, h296, hq294, r293⟩ := r292.callS (pc' := 235) [(.int (7 : Int32)), (.int pp), (.long b), (.long dd), (.long c')] (rest := [(.int (7 : Int32)), (.ref b172)]) 2 at_232 (hw _ (List.mem_of_getElem? (i := 5) rfl)) (hw _ (List.mem_of_getElem? (i := 6) rfl)) (hw _ (List.mem_of_getElem? (i := 3) rfl)) (hw _ (List.mem_of_getElem? (i := 7) rfl)) (by decide) (c2 l Z a0 hw (7 : Int32) pp b dd c' h285 n0) pd_1 rfl rfl rfl (Nat.le_of_ble_eq_true rfl) (by decide) (by decide) (k' := 2) (n' := 19) rfl rfl (by decide) (by decide) rfl
  obtain ⟨rfl, rfl⟩ := hq294
  dsimp only [Option.toList, List.cons_append, List.nil_append] at r293
  obtain ⟨v300, h301, hq299, r298⟩ := r293.callS (pc' := 238) [(.ref b172), (.int (7 : Int32)), (.int (kbF (7 : Int32) pp b dd c'))] (rest := []) 0 at_235 (hw _ (List.mem_of_getElem? (i := 1) rfl)) (hw _ (List.mem_of_getElem? (i := 2) rfl)) (hw _ (List.mem_of_getElem? (i := 3) rfl)) (hw _ (List.mem_of_getElem? (i := 4) rfl)) (by decide) (c1 l Z a0 hw b172 (7 : Int32) (kbF (7 : Int32) pp b dd c') kl [(kbF (0 : Int32) pp b dd c'), (kbF (1 : Int32) pp b dd c'), (kbF (2 : Int32) pp b dd c'), (kbF (3 : Int32) pp b dd c'), (kbF (4 : Int32) pp b dd c'), (kbF (5 : Int32) pp b dd c'), (kbF (6 : Int32) pp b dd c'), 0, 0, 0, 0, 0, 0, 0, 0] h285 n0 V281 (by decide) (Nat.le_of_ble_eq_true rfl) (nar_kb _ _ _ _ _) g172) pd_3 rfl rfl rfl (Nat.le_of_ble_eq_true rfl) (by decide) (by decide) (k' := 2) (n' := 19) rfl rfl (by decide) (by decide) rfl
  obtain ⟨rfl, V297, K297⟩ := hq299
  dsimp only [Option.toList, List.cons_append, List.nil_append] at r298
  replace V297 : ArB Z h301 b172 kl [(kbF (0 : Int32) pp b dd c'), (kbF (1 : Int32) pp b dd c'), (kbF (2 : Int32) pp b dd c'), (kbF (3 : Int32) pp b dd c'), (kbF (4 : Int32) pp b dd c'), (kbF (5 : Int32) pp b dd c'), (kbF (6 : Int32) pp b dd c'), (kbF (7 : Int32) pp b dd c'), 0, 0, 0, 0, 0, 0, 0] := V297
  have zp297 : n0 ≤ h301.size := Nat.le_trans zp281 K297.1
  replace V166 := V166.keep K297 (ninS hne nin0)
  have r302 := r298.aload (pc' := 240) at_238 rfl rfl rfl
  have r303 := r302.bipush (pc' := 242) (8 : Int32) at_240 rfl rfl
  have r304 := r303.bipush (pc' := 244) (8 : Int32) at_242 rfl rfl
  have r305 := r304.iload (pc' := 246) at_244 rfl rfl
  have r306 := r305.lloadN (pc' := 247) at_246 rfl rfl
  have r307 := r306.lload (pc' := 249) at_247 rfl rfl
  have r308 := r307.lloadN (pc' := 250) at_249 rfl rfl
  obtain ⟨v311, h312, hq310, r309⟩ := r308.callS (pc' := 253) [(.int (8 : Int32)), (.int pp), (.long b), (.long dd), (.long c')] (rest := [(.int (8 : Int32)), (.ref b172)]) 2 at_250 (hw _ (List.mem_of_getElem? (i := 5) rfl)) (hw _ (List.mem_of_getElem? (i := 6) rfl)) (hw _ (List.mem_of_getElem? (i := 3) rfl)) (hw _ (List.mem_of_getElem? (i := 7) rfl)) (by decide) (c2 l Z a0 hw (8 : Int32) pp b dd c' h301 n0) pd_1 rfl rfl rfl (Nat.le_of_ble_eq_true rfl) (by decide) (by decide) (k' := 2) (n' := 19) rfl rfl (by decide) (by decide) rfl
  obtain ⟨rfl, rfl⟩ := hq310
  dsimp only [Option.toList, List.cons_append, List.nil_append] at r309
  obtain ⟨v316, h317, hq315, r314⟩ := r309.callS (pc' := 256) [(.ref b172), (.int (8 : Int32)), (.int (kbF (8 : Int32) pp b dd c'))] (rest := []) 0 at_253 (hw _ (List.mem_of_getElem? (i := 1) rfl)) (hw _ (List.mem_of_getElem? (i := 2) rfl)) (hw _ (List.mem_of_getElem? (i := 3) rfl)) (hw _ (List.mem_of_getElem? (i := 4) rfl)) (by decide) (c1 l Z a0 hw b172 (8 : Int32) (kbF (8 : Int32) pp b dd c') kl [(kbF (0 : Int32) pp b dd c'), (kbF (1 : Int32) pp b dd c'), (kbF (2 : Int32) pp b dd c'), (kbF (3 : Int32) pp b dd c'), (kbF (4 : Int32) pp b dd c'), (kbF (5 : Int32) pp b dd c'), (kbF (6 : Int32) pp b dd c'), (kbF (7 : Int32) pp b dd c'), 0, 0, 0, 0, 0, 0, 0] h301 n0 V297 (by decide) (Nat.le_of_ble_eq_true rfl) (nar_kb _ _ _ _ _) g172) pd_3 rfl rfl rfl (Nat.le_of_ble_eq_true rfl) (by decide) (by decide) (k' := 2) (n' := 19) rfl rfl (by decide) (by decide) rfl
  obtain ⟨rfl, V313, K313⟩ := hq315
  dsimp only [Option.toList, List.cons_append, List.nil_append] at r314
  replace V313 : ArB Z h317 b172 kl [(kbF (0 : Int32) pp b dd c'), (kbF (1 : Int32) pp b dd c'), (kbF (2 : Int32) pp b dd c'), (kbF (3 : Int32) pp b dd c'), (kbF (4 : Int32) pp b dd c'), (kbF (5 : Int32) pp b dd c'), (kbF (6 : Int32) pp b dd c'), (kbF (7 : Int32) pp b dd c'), (kbF (8 : Int32) pp b dd c'), 0, 0, 0, 0, 0, 0] := V313
  have zp313 : n0 ≤ h317.size := Nat.le_trans zp297 K313.1
  replace V166 := V166.keep K313 (ninS hne nin0)
  have r318 := r314.aload (pc' := 258) at_256 rfl rfl rfl
  have r319 := r318.bipush (pc' := 260) (9 : Int32) at_258 rfl rfl
  have r320 := r319.bipush (pc' := 262) (9 : Int32) at_260 rfl rfl
  have r321 := r320.iload (pc' := 264) at_262 rfl rfl
  have r322 := r321.lloadN (pc' := 265) at_264 rfl rfl
  have r323 := r322.lload (pc' := 267) at_265 rfl rfl
  have r324 := r323.lloadN (pc' := 268) at_267 rfl rfl
  obtain ⟨v327, h328, hq326, r325⟩ := r324.callS (pc' := 271) [(.int (9 : Int32)), (.int pp), (.long b), (.long dd), (.long c')] (rest := [(.int (9 : Int32)), (.ref b172)]) 2 at_268 (hw _ (List.mem_of_getElem? (i := 5) rfl)) (hw _ (List.mem_of_getElem? (i := 6) rfl)) (hw _ (List.mem_of_getElem? (i := 3) rfl)) (hw _ (List.mem_of_getElem? (i := 7) rfl)) (by decide) (c2 l Z a0 hw (9 : Int32) pp b dd c' h317 n0) pd_1 rfl rfl rfl (Nat.le_of_ble_eq_true rfl) (by decide) (by decide) (k' := 2) (n' := 19) rfl rfl (by decide) (by decide) rfl
  obtain ⟨rfl, rfl⟩ := hq326
  dsimp only [Option.toList, List.cons_append, List.nil_append] at r325
  obtain ⟨v332, h333, hq331, r330⟩ := r325.callS (pc' := 274) [(.ref b172), (.int (9 : Int32)), (.int (kbF (9 : Int32) pp b dd c'))] (rest := []) 0 at_271 (hw _ (List.mem_of_getElem? (i := 1) rfl)) (hw _ (List.mem_of_getElem? (i := 2) rfl)) (hw _ (List.mem_of_getElem? (i := 3) rfl)) (hw _ (List.mem_of_getElem? (i := 4) rfl)) (by decide) (c1 l Z a0 hw b172 (9 : Int32) (kbF (9 : Int32) pp b dd c') kl [(kbF (0 : Int32) pp b dd c'), (kbF (1 : Int32) pp b dd c'), (kbF (2 : Int32) pp b dd c'), (kbF (3 : Int32) pp b dd c'), (kbF (4 : Int32) pp b dd c'), (kbF (5 : Int32) pp b dd c'), (kbF (6 : Int32) pp b dd c'), (kbF (7 : Int32) pp b dd c'), (kbF (8 : Int32) pp b dd c'), 0, 0, 0, 0, 0, 0] h317 n0 V313 (by decide) (Nat.le_of_ble_eq_true rfl) (nar_kb _ _ _ _ _) g172) pd_3 rfl rfl rfl (Nat.le_of_ble_eq_true rfl) (by decide) (by decide) (k' := 2) (n' := 19) rfl rfl (by decide) (by decide) rfl
  obtain ⟨rfl, V329, K329⟩ := hq331
  dsimp only [Option.toList, List.cons_append, List.nil_append] at r330
  replace V329 : ArB Z h333 b172 kl [(kbF (0 : Int32) pp b dd c'), (kbF (1 : Int32) pp b dd c'), (kbF (2 : Int32) pp b dd c'), (kbF (3 : Int32) pp b dd c'), (kbF (4 : Int32) pp b dd c'), (kbF (5 : Int32) pp b dd c'), (kbF (6 : Int32) pp b dd c'), (kbF (7 : Int32) pp b dd c'), (kbF (8 : Int32) pp b dd c'), (kbF (9 : Int32) pp b dd c'), 0, 0, 0, 0, 0] := V329
  have zp329 : n0 ≤ h333.size := Nat.le_trans zp313 K329.1
  replace V166 := V166.keep K329 (ninS hne nin0)
  have r334 := r330.aload (pc' := 276) at_274 rfl rfl rfl
  have r335 := r334.bipush (pc' := 278) (10 : Int32) at_276 rfl rfl
  have r336 := r335.bipush (pc' := 280) (10 : Int32) at_278 rfl rfl
  have r337 := r336.iload (pc' := 282) at_280 rfl rfl
  have r338 := r337.lloadN (pc' := 283) at_282 rfl rfl
  have r339 := r338.lload (pc' := 285) at_283 rfl rfl
  have r340 := r339.lloadN (pc' := 286) at_285 rfl rfl
  obtain ⟨v343, h344, hq342, r341⟩ := r340.callS (pc' := 289) [(.int (10 : Int32)), (.int pp), (.long b), (.long dd), (.long c')] (rest := [(.int (10 : Int32)), (.ref b172)]) 2 at_286 (hw _ (List.mem_of_getElem? (i := 5) rfl)) (hw _ (List.mem_of_getElem? (i := 6) rfl)) (hw _ (List.mem_of_getElem? (i := 3) rfl)) (hw _ (List.mem_of_getElem? (i := 7) rfl)) (by decide) (c2 l Z a0 hw (10 : Int32) pp b dd c' h333 n0) pd_1 rfl rfl rfl (Nat.le_of_ble_eq_true rfl) (by decide) (by decide) (k' := 2) (n' := 19) rfl rfl (by decide) (by decide) rfl
  obtain ⟨rfl, rfl⟩ := hq342
  dsimp only [Option.toList, List.cons_append, List.nil_append] at r341
  obtain ⟨v348, h349, hq347, r346⟩ := r341.callS (pc' := 292) [(.ref b172), (.int (10 : Int32)), (.int (kbF (10 : Int32) pp b dd c'))] (rest := []) 0 at_289 (hw _ (List.mem_of_getElem? (i := 1) rfl)) (hw _ (List.mem_of_getElem? (i := 2) rfl)) (hw _ (List.mem_of_getElem? (i := 3) rfl)) (hw _ (List.mem_of_getElem? (i := 4) rfl)) (by decide) (c1 l Z a0 hw b172 (10 : Int32) (kbF (10 : Int32) pp b dd c') kl [(kbF (0 : Int32) pp b dd c'), (kbF (1 : Int32) pp b dd c'), (kbF (2 : Int32) pp b dd c'), (kbF (3 : Int32) pp b dd c'), (kbF (4 : Int32) pp b dd c'), (kbF (5 : Int32) pp b dd c'), (kbF (6 : Int32) pp b dd c'), (kbF (7 : Int32) pp b dd c'), (kbF (8 : Int32) pp b dd c'), (kbF (9 : Int32) pp b dd c'), 0, 0, 0, 0, 0] h333 n0 V329 (by decide) (Nat.le_of_ble_eq_true rfl) (nar_kb _ _ _ _ _) g172) pd_3 rfl rfl rfl (Nat.le_of_ble_eq_true rfl) (by decide) (by decide) (k' := 2) (n' := 19) rfl rfl (by decide) (by decide) rfl
  obtain ⟨rfl, V345, K345⟩ := hq347
  dsimp only [Option.toList, List.cons_append, List.nil_append] at r346
  replace V345 : ArB Z h349 b172 kl [(kbF (0 : Int32) pp b dd c'), (kbF (1 : Int32) pp b dd c'), (kbF (2 : Int32) pp b dd c'), (kbF (3 : Int32) pp b dd c'), (kbF (4 : Int32) pp b dd c'), (kbF (5 : Int32) pp b dd c'), (kbF (6 : Int32) pp b dd c'), (kbF (7 : Int32) pp b dd c'), (kbF (8 : Int32) pp b dd c'), (kbF (9 : Int32) pp b dd c'), (kbF (10 : Int32) pp b dd c'), 0, 0, 0, 0] := V345
  have zp345 : n0 ≤ h349.size := Nat.le_trans zp329 K345.1
  replace V166 := V166.keep K345 (ninS hne nin0)
  have r350 := r346.aload (pc' := 294) at_292 rfl rfl rfl
  have r351 := r350.bipush (pc' := 296) (11 : Int32) at_294 rfl rfl
  have r352 := r351.bipush (pc' := 298) (11 : Int32) at_296 rfl rfl
  have r353 := r352.iload (pc' := 300) at_298 rfl rfl
  have r354 := r353.lloadN (pc' := 301) at_300 rfl rfl
  have r355 := r354.lload (pc' := 303) at_301 rfl rfl
  have r356 := r355.lloadN (pc' := 304) at_303 rfl rfl
  obtain ⟨v359, h360, hq358, r357⟩ := r356.callS (pc' := 307) [(.int (11 : Int32)), (.int pp), (.long b), (.long dd), (.long c')] (rest := [(.int (11 : Int32)), (.ref b172)]) 2 at_304 (hw _ (List.mem_of_getElem? (i := 5) rfl)) (hw _ (List.mem_of_getElem? (i := 6) rfl)) (hw _ (List.mem_of_getElem? (i := 3) rfl)) (hw _ (List.mem_of_getElem? (i := 7) rfl)) (by decide) (c2 l Z a0 hw (11 : Int32) pp b dd c' h349 n0) pd_1 rfl rfl rfl (Nat.le_of_ble_eq_true rfl) (by decide) (by decide) (k' := 2) (n' := 19) rfl rfl (by decide) (by decide) rfl
  obtain ⟨rfl, rfl⟩ := hq358
  dsimp only [Option.toList, List.cons_append, List.nil_append] at r357
  obtain ⟨v364, h365, hq363, r362⟩ := r357.callS (pc' := 310) [(.ref b172), (.int (11 : Int32)), (.int (kbF (11 : Int32) pp b dd c'))] (rest := []) 0 at_307 (hw _ (List.mem_of_getElem? (i := 1) rfl)) (hw _ (List.mem_of_getElem? (i := 2) rfl)) (hw _ (List.mem_of_getElem? (i := 3) rfl)) (hw _ (List.mem_of_getElem? (i := 4) rfl)) (by decide) (c1 l Z a0 hw b172 (11 : Int32) (kbF (11 : Int32) pp b dd c') kl [(kbF (0 : Int32) pp b dd c'), (kbF (1 : Int32) pp b dd c'), (kbF (2 : Int32) pp b dd c'), (kbF (3 : Int32) pp b dd c'), (kbF (4 : Int32) pp b dd c'), (kbF (5 : Int32) pp b dd c'), (kbF (6 : Int32) pp b dd c'), (kbF (7 : Int32) pp b dd c'), (kbF (8 : Int32) pp b dd c'), (kbF (9 : Int32) pp b dd c'), (kbF (10 : Int32) pp b dd c'), 0, 0, 0, 0] h349 n0 V345 (by decide) (Nat.le_of_ble_eq_true rfl) (nar_kb _ _ _ _ _) g172) pd_3 rfl rfl rfl (Nat.le_of_ble_eq_true rfl) (by decide) (by decide) (k' := 2) (n' := 19) rfl rfl (by decide) (by decide) rfl
  obtain ⟨rfl, V361, K361⟩ := hq363
  dsimp only [Option.toList, List.cons_append, List.nil_append] at r362
  replace V361 : ArB Z h365 b172 kl [(kbF (0 : Int32) pp b dd c'), (kbF (1 : Int32) pp b dd c'), (kbF (2 : Int32) pp b dd c'), (kbF (3 : Int32) pp b dd c'), (kbF (4 : Int32) pp b dd c'), (kbF (5 : Int32) pp b dd c'), (kbF (6 : Int32) pp b dd c'), (kbF (7 : Int32) pp b dd c'), (kbF (8 : Int32) pp b dd c'), (kbF (9 : Int32) pp b dd c'), (kbF (10 : Int32) pp b dd c'), (kbF (11 : Int32) pp b dd c'), 0, 0, 0] := V361
  have zp361 : n0 ≤ h365.size := Nat.le_trans zp345 K361.1
  replace V166 := V166.keep K361 (ninS hne nin0)
  have r366 := r362.aload (pc' := 312) at_310 rfl rfl rfl
  have r367 := r366.bipush (pc' := 314) (12 : Int32) at_312 rfl rfl
  have r368 := r367.bipush (pc' := 316) (12 : Int32) at_314 rfl rfl
  have r369 := r368.iload (pc' := 318) at_316 rfl rfl
  have r370 := r369.lloadN (pc' := 319) at_318 rfl rfl
  have r371 := r370.lload (pc' := 321) at_319 rfl rfl
  have r372 := r371.lloadN (pc' := 322) at_321 rfl rfl
  obtain ⟨v375, h376, hq374, r373⟩ := r372.callS (pc' := 325) [(.int (12 : Int32)), (.int pp), (.long b), (.long dd), (.long c')] (rest := [(.int (12 : Int32)), (.ref b172)]) 2 at_322 (hw _ (List.mem_of_getElem? (i := 5) rfl)) (hw _ (List.mem_of_getElem? (i := 6) rfl)) (hw _ (List.mem_of_getElem? (i := 3) rfl)) (hw _ (List.mem_of_getElem? (i := 7) rfl)) (by decide) (c2 l Z a0 hw (12 : Int32) pp b dd c' h365 n0) pd_1 rfl rfl rfl (Nat.le_of_ble_eq_true rfl) (by decide) (by decide) (k' := 2) (n' := 19) rfl rfl (by decide) (by decide) rfl
  obtain ⟨rfl, rfl⟩ := hq374
  dsimp only [Option.toList, List.cons_append, List.nil_append] at r373
  obtain ⟨v380, h381, hq379, r378⟩ := r373.callS (pc' := 328) [(.ref b172), (.int (12 : Int32)), (.int (kbF (12 : Int32) pp b dd c'))] (rest := []) 0 at_325 (hw _ (List.mem_of_getElem? (i := 1) rfl)) (hw _ (List.mem_of_getElem? (i := 2) rfl)) (hw _ (List.mem_of_getElem? (i := 3) rfl)) (hw _ (List.mem_of_getElem? (i := 4) rfl)) (by decide) (c1 l Z a0 hw b172 (12 : Int32) (kbF (12 : Int32) pp b dd c') kl [(kbF (0 : Int32) pp b dd c'), (kbF (1 : Int32) pp b dd c'), (kbF (2 : Int32) pp b dd c'), (kbF (3 : Int32) pp b dd c'), (kbF (4 : Int32) pp b dd c'), (kbF (5 : Int32) pp b dd c'), (kbF (6 : Int32) pp b dd c'), (kbF (7 : Int32) pp b dd c'), (kbF (8 : Int32) pp b dd c'), (kbF (9 : Int32) pp b dd c'), (kbF (10 : Int32) pp b dd c'), (kbF (11 : Int32) pp b dd c'), 0, 0, 0] h365 n0 V361 (by decide) (Nat.le_of_ble_eq_true rfl) (nar_kb _ _ _ _ _) g172) pd_3 rfl rfl rfl (Nat.le_of_ble_eq_true rfl) (by decide) (by decide) (k' := 2) (n' := 19) rfl rfl (by decide) (by decide) rfl
  obtain ⟨rfl, V377, K377⟩ := hq379
  dsimp only [Option.toList, List.cons_append, List.nil_append] at r378
  replace V377 : ArB Z h381 b172 kl [(kbF (0 : Int32) pp b dd c'), (kbF (1 : Int32) pp b dd c'), (kbF (2 : Int32) pp b dd c'), (kbF (3 : Int32) pp b dd c'), (kbF (4 : Int32) pp b dd c'), (kbF (5 : Int32) pp b dd c'), (kbF (6 : Int32) pp b dd c'), (kbF (7 : Int32) pp b dd c'), (kbF (8 : Int32) pp b dd c'), (kbF (9 : Int32) pp b dd c'), (kbF (10 : Int32) pp b dd c'), (kbF (11 : Int32) pp b dd c'), (kbF (12 : Int32) pp b dd c'), 0, 0] := V377
  have zp377 : n0 ≤ h381.size := Nat.le_trans zp361 K377.1
  replace V166 := V166.keep K377 (ninS hne nin0)
  have r382 := r378.aload (pc' := 330) at_328 rfl rfl rfl
  have r383 := r382.bipush (pc' := 332) (13 : Int32) at_330 rfl rfl
  have r384 := r383.bipush (pc' := 334) (13 : Int32) at_332 rfl rfl
  have r385 := r384.iload (pc' := 336) at_334 rfl rfl
  have r386 := r385.lloadN (pc' := 337) at_336 rfl rfl
  have r387 := r386.lload (pc' := 339) at_337 rfl rfl
  have r388 := r387.lloadN (pc' := 340) at_339 rfl rfl
  obtain ⟨v391, h392, hq390, r389⟩ := r388.callS (pc' := 343) [(.int (13 : Int32)), (.int pp), (.long b), (.long dd), (.long c')] (rest := [(.int (13 : Int32)), (.ref b172)]) 2 at_340 (hw _ (List.mem_of_getElem? (i := 5) rfl)) (hw _ (List.mem_of_getElem? (i := 6) rfl)) (hw _ (List.mem_of_getElem? (i := 3) rfl)) (hw _ (List.mem_of_getElem? (i := 7) rfl)) (by decide) (c2 l Z a0 hw (13 : Int32) pp b dd c' h381 n0) pd_1 rfl rfl rfl (Nat.le_of_ble_eq_true rfl) (by decide) (by decide) (k' := 2) (n' := 19) rfl rfl (by decide) (by decide) rfl
  obtain ⟨rfl, rfl⟩ := hq390
  dsimp only [Option.toList, List.cons_append, List.nil_append] at r389
  obtain ⟨v396, h397, hq395, r394⟩ := r389.callS (pc' := 346) [(.ref b172), (.int (13 : Int32)), (.int (kbF (13 : Int32) pp b dd c'))] (rest := []) 0 at_343 (hw _ (List.mem_of_getElem? (i := 1) rfl)) (hw _ (List.mem_of_getElem? (i := 2) rfl)) (hw _ (List.mem_of_getElem? (i := 3) rfl)) (hw _ (List.mem_of_getElem? (i := 4) rfl)) (by decide) (c1 l Z a0 hw b172 (13 : Int32) (kbF (13 : Int32) pp b dd c') kl [(kbF (0 : Int32) pp b dd c'), (kbF (1 : Int32) pp b dd c'), (kbF (2 : Int32) pp b dd c'), (kbF (3 : Int32) pp b dd c'), (kbF (4 : Int32) pp b dd c'), (kbF (5 : Int32) pp b dd c'), (kbF (6 : Int32) pp b dd c'), (kbF (7 : Int32) pp b dd c'), (kbF (8 : Int32) pp b dd c'), (kbF (9 : Int32) pp b dd c'), (kbF (10 : Int32) pp b dd c'), (kbF (11 : Int32) pp b dd c'), (kbF (12 : Int32) pp b dd c'), 0, 0] h381 n0 V377 (by decide) (Nat.le_of_ble_eq_true rfl) (nar_kb _ _ _ _ _) g172) pd_3 rfl rfl rfl (Nat.le_of_ble_eq_true rfl) (by decide) (by decide) (k' := 2) (n' := 19) rfl rfl (by decide) (by decide) rfl
  obtain ⟨rfl, V393, K393⟩ := hq395
  dsimp only [Option.toList, List.cons_append, List.nil_append] at r394
  replace V393 : ArB Z h397 b172 kl [(kbF (0 : Int32) pp b dd c'), (kbF (1 : Int32) pp b dd c'), (kbF (2 : Int32) pp b dd c'), (kbF (3 : Int32) pp b dd c'), (kbF (4 : Int32) pp b dd c'), (kbF (5 : Int32) pp b dd c'), (kbF (6 : Int32) pp b dd c'), (kbF (7 : Int32) pp b dd c'), (kbF (8 : Int32) pp b dd c'), (kbF (9 : Int32) pp b dd c'), (kbF (10 : Int32) pp b dd c'), (kbF (11 : Int32) pp b dd c'), (kbF (12 : Int32) pp b dd c'), (kbF (13 : Int32) pp b dd c'), 0] := V393
  have zp393 : n0 ≤ h397.size := Nat.le_trans zp377 K393.1
  replace V166 := V166.keep K393 (ninS hne nin0)
  have r398 := r394.aload (pc' := 348) at_346 rfl rfl rfl
  have r399 := r398.bipush (pc' := 350) (14 : Int32) at_348 rfl rfl
  have r400 := r399.bipush (pc' := 352) (14 : Int32) at_350 rfl rfl
  have r401 := r400.iload (pc' := 354) at_352 rfl rfl
  have r402 := r401.lloadN (pc' := 355) at_354 rfl rfl
  have r403 := r402.lload (pc' := 357) at_355 rfl rfl
  have r404 := r403.lloadN (pc' := 358) at_357 rfl rfl
  obtain ⟨v407, h408, hq406, r405⟩ := r404.callS (pc' := 361) [(.int (14 : Int32)), (.int pp), (.long b), (.long dd), (.long c')] (rest := [(.int (14 : Int32)), (.ref b172)]) 2 at_358 (hw _ (List.mem_of_getElem? (i := 5) rfl)) (hw _ (List.mem_of_getElem? (i := 6) rfl)) (hw _ (List.mem_of_getElem? (i := 3) rfl)) (hw _ (List.mem_of_getElem? (i := 7) rfl)) (by decide) (c2 l Z a0 hw (14 : Int32) pp b dd c' h397 n0) pd_1 rfl rfl rfl (Nat.le_of_ble_eq_true rfl) (by decide) (by decide) (k' := 2) (n' := 19) rfl rfl (by decide) (by decide) rfl
  obtain ⟨rfl, rfl⟩ := hq406
  dsimp only [Option.toList, List.cons_append, List.nil_append] at r405
  obtain ⟨v412, h413, hq411, r410⟩ := r405.callS (pc' := 364) [(.ref b172), (.int (14 : Int32)), (.int (kbF (14 : Int32) pp b dd c'))] (rest := []) 0 at_361 (hw _ (List.mem_of_getElem? (i := 1) rfl)) (hw _ (List.mem_of_getElem? (i := 2) rfl)) (hw _ (List.mem_of_getElem? (i := 3) rfl)) (hw _ (List.mem_of_getElem? (i := 4) rfl)) (by decide) (c1 l Z a0 hw b172 (14 : Int32) (kbF (14 : Int32) pp b dd c') kl [(kbF (0 : Int32) pp b dd c'), (kbF (1 : Int32) pp b dd c'), (kbF (2 : Int32) pp b dd c'), (kbF (3 : Int32) pp b dd c'), (kbF (4 : Int32) pp b dd c'), (kbF (5 : Int32) pp b dd c'), (kbF (6 : Int32) pp b dd c'), (kbF (7 : Int32) pp b dd c'), (kbF (8 : Int32) pp b dd c'), (kbF (9 : Int32) pp b dd c'), (kbF (10 : Int32) pp b dd c'), (kbF (11 : Int32) pp b dd c'), (kbF (12 : Int32) pp b dd c'), (kbF (13 : Int32) pp b dd c'), 0] h397 n0 V393 (by decide) (Nat.le_of_ble_eq_true rfl) (nar_kb _ _ _ _ _) g172) pd_3 rfl rfl rfl (Nat.le_of_ble_eq_true rfl) (by decide) (by decide) (k' := 2) (n' := 19) rfl rfl (by decide) (by decide) rfl
  obtain ⟨rfl, V409, K409⟩ := hq411
  dsimp only [Option.toList, List.cons_append, List.nil_append] at r410
  replace V409 : ArB Z h413 b172 kl [(kbF (0 : Int32) pp b dd c'), (kbF (1 : Int32) pp b dd c'), (kbF (2 : Int32) pp b dd c'), (kbF (3 : Int32) pp b dd c'), (kbF (4 : Int32) pp b dd c'), (kbF (5 : Int32) pp b dd c'), (kbF (6 : Int32) pp b dd c'), (kbF (7 : Int32) pp b dd c'), (kbF (8 : Int32) pp b dd c'), (kbF (9 : Int32) pp b dd c'), (kbF (10 : Int32) pp b dd c'), (kbF (11 : Int32) pp b dd c'), (kbF (12 : Int32) pp b dd c'), (kbF (13 : Int32) pp b dd c'), (kbF (14 : Int32) pp b dd c')] := V409
  have zp409 : n0 ≤ h413.size := Nat.le_trans zp393 K409.1
  replace V166 := V166.keep K409 (ninS hne nin0)
  have r414 := r410.iload (pc' := 366) at_364 rfl rfl
  have r415 := r414.iload (pc' := 368) at_366 rfl rfl
  have r416 := r415.bipush (pc' := 370) (8 : Int32) at_368 rfl rfl
  have r417 := r416.iadd (pc' := 371) at_370 rfl rfl
  have r418 : Rch p l e room_1 s m #[(.int x0), (.long b), (.long c'), (.long mm)] below meth c Z x code maxLocals ret n0 T0 (mkF m 0 #[.val (.int x0), .val (.long b), .second, .val (.long c'), .second, .val (.long mm), .second, .unset, .unset, .unset, .unset, .unset, .unset, .unset] []) 2 19 h413 (mkF m 423 #[.val (.int x0), .val (.long b), .second, .val (.long c'), .second, .val (.long mm), .second, .val (.int pp), .val (.int kl), .val (.long dd), .second, .val (.ref b123), .val (.ref b172), .unset] [(.int (if kl = pp + (8 : Int32) ∧ saF 0 pp dd = 1 ∧ saF 1 pp dd = 1 ∧ saF 2 pp dd = 1 ∧ saF 3 pp dd = 1 then (1 : Int32) else (0 : Int32)))]) := by
    by_cases hc419 : kl = (pp + (8 : Int32))
    · -- yes
      have r420 := r417.icF (pc' := 374) at_371 (teq hc419).2 rfl
      have r421 := r420.iconst (pc' := 375) (0 : Int32) at_374 rfl rfl
      have r422 := r421.iload (pc' := 377) at_375 rfl rfl
      have r423 := r422.lload (pc' := 379) at_377 rfl rfl
      obtain ⟨v426, h427, hq425, r424⟩ := r423.callS (pc' := 382) [(.int (0 : Int32)), (.int pp), (.long dd)] (rest := []) 0 at_379 (hw _ (List.mem_of_getElem? (i := 12) rfl)) (hw _ (List.mem_of_getElem? (i := 13) rfl)) (hw _ (List.mem_of_getElem? (i := 3) rfl)) (hw _ (List.mem_of_getElem? (i := 14) rfl)) (by decide) (c4 l Z a0 hw (0 : Int32) pp dd h413 n0) pd_0 rfl rfl rfl (Nat.le_of_ble_eq_true rfl) (by decide) (by decide) (k' := 2) (n' := 19) rfl rfl (by decide) (by decide) rfl
      obtain ⟨rfl, rfl⟩ := hq425
      dsimp only [Option.toList, List.cons_append, List.nil_append] at r424
      by_cases hc428 : (saF (0 : Int32) pp dd) = (0 : Int32)
      · -- yes
        have r429 := r424.ifT (pc' := 422) at_382 (teq hc428).1 (by decide) (by decide)
        have r430 := r429.iconst (pc' := 423) (0 : Int32) at_422 rfl rfl
        rw [if_neg (fun q : kl = pp + (8 : Int32) ∧ saF 0 pp dd = 1 ∧ saF 1 pp dd = 1 ∧ saF 2 pp dd = 1 ∧ saF 3 pp dd = 1 => absurd (q.2.1) (by rw [hc428]; decide))]
        exact r430
      · -- not no
        have r431 := r424.ifF (pc' := 385) at_382 (feq hc428).1 rfl
        have hs0 : saF 0 pp dd = 1 := (sa01 _ _ _).resolve_left hc428
        have r432 := r431.iconst (pc' := 386) (1 : Int32) at_385 rfl rfl
        have r433 := r432.iload (pc' := 388) at_386 rfl rfl
        have r434 := r433.lload (pc' := 390) at_388 rfl rfl
        obtain ⟨v437, h438, hq436, r435⟩ := r434.callS (pc' := 393) [(.int (1 : Int32)), (.int pp), (.long dd)] (rest := []) 0 at_390 (hw _ (List.mem_of_getElem? (i := 12) rfl)) (hw _ (List.mem_of_getElem? (i := 13) rfl)) (hw _ (List.mem_of_getElem? (i := 3) rfl)) (hw _ (List.mem_of_getElem? (i := 14) rfl)) (by decide) (c4 l Z a0 hw (1 : Int32) pp dd h413 n0) pd_0 rfl rfl rfl (Nat.le_of_ble_eq_true rfl) (by decide) (by decide) (k' := 2) (n' := 19) rfl rfl (by decide) (by decide) rfl
        obtain ⟨rfl, rfl⟩ := hq436
        dsimp only [Option.toList, List.cons_append, List.nil_append] at r435
        by_cases hc439 : (saF (1 : Int32) pp dd) = (0 : Int32)
        · -- yes
          have r440 := r435.ifT (pc' := 422) at_393 (teq hc439).1 (by decide) (by decide)
          have r441 := r440.iconst (pc' := 423) (0 : Int32) at_422 rfl rfl
          rw [if_neg (fun q : kl = pp + (8 : Int32) ∧ saF 0 pp dd = 1 ∧ saF 1 pp dd = 1 ∧ saF 2 pp dd = 1 ∧ saF 3 pp dd = 1 => absurd (q.2.2.1) (by rw [hc439]; decide))]
          exact r441
        · -- not no
          have r442 := r435.ifF (pc' := 396) at_393 (feq hc439).1 rfl
          have hs1 : saF 1 pp dd = 1 := (sa01 _ _ _).resolve_left hc439
          have r443 := r442.iconst (pc' := 397) (2 : Int32) at_396 rfl rfl
          have r444 := r443.iload (pc' := 399) at_397 rfl rfl
          have r445 := r444.lload (pc' := 401) at_399 rfl rfl
          obtain ⟨v448, h449, hq447, r446⟩ := r445.callS (pc' := 404) [(.int (2 : Int32)), (.int pp), (.long dd)] (rest := []) 0 at_401 (hw _ (List.mem_of_getElem? (i := 12) rfl)) (hw _ (List.mem_of_getElem? (i := 13) rfl)) (hw _ (List.mem_of_getElem? (i := 3) rfl)) (hw _ (List.mem_of_getElem? (i := 14) rfl)) (by decide) (c4 l Z a0 hw (2 : Int32) pp dd h413 n0) pd_0 rfl rfl rfl (Nat.le_of_ble_eq_true rfl) (by decide) (by decide) (k' := 2) (n' := 19) rfl rfl (by decide) (by decide) rfl
          obtain ⟨rfl, rfl⟩ := hq447
          dsimp only [Option.toList, List.cons_append, List.nil_append] at r446
          by_cases hc450 : (saF (2 : Int32) pp dd) = (0 : Int32)
          · -- yes
            have r451 := r446.ifT (pc' := 422) at_404 (teq hc450).1 (by decide) (by decide)
            have r452 := r451.iconst (pc' := 423) (0 : Int32) at_422 rfl rfl
            rw [if_neg (fun q : kl = pp + (8 : Int32) ∧ saF 0 pp dd = 1 ∧ saF 1 pp dd = 1 ∧ saF 2 pp dd = 1 ∧ saF 3 pp dd = 1 => absurd (q.2.2.2.1) (by rw [hc450]; decide))]
            exact r452
          · -- not no
            have r453 := r446.ifF (pc' := 407) at_404 (feq hc450).1 rfl
            have hs2 : saF 2 pp dd = 1 := (sa01 _ _ _).resolve_left hc450
            have r454 := r453.iconst (pc' := 408) (3 : Int32) at_407 rfl rfl
            have r455 := r454.iload (pc' := 410) at_408 rfl rfl
            have r456 := r455.lload (pc' := 412) at_410 rfl rfl
            obtain ⟨v459, h460, hq458, r457⟩ := r456.callS (pc' := 415) [(.int (3 : Int32)), (.int pp), (.long dd)] (rest := []) 0 at_412 (hw _ (List.mem_of_getElem? (i := 12) rfl)) (hw _ (List.mem_of_getElem? (i := 13) rfl)) (hw _ (List.mem_of_getElem? (i := 3) rfl)) (hw _ (List.mem_of_getElem? (i := 14) rfl)) (by decide) (c4 l Z a0 hw (3 : Int32) pp dd h413 n0) pd_0 rfl rfl rfl (Nat.le_of_ble_eq_true rfl) (by decide) (by decide) (k' := 2) (n' := 19) rfl rfl (by decide) (by decide) rfl
            obtain ⟨rfl, rfl⟩ := hq458
            dsimp only [Option.toList, List.cons_append, List.nil_append] at r457
            by_cases hc461 : (saF (3 : Int32) pp dd) = (0 : Int32)
            · -- yes
              have r462 := r457.ifT (pc' := 422) at_415 (teq hc461).1 (by decide) (by decide)
              have r463 := r462.iconst (pc' := 423) (0 : Int32) at_422 rfl rfl
              rw [if_neg (fun q : kl = pp + (8 : Int32) ∧ saF 0 pp dd = 1 ∧ saF 1 pp dd = 1 ∧ saF 2 pp dd = 1 ∧ saF 3 pp dd = 1 => absurd (q.2.2.2.2) (by rw [hc461]; decide))]
              exact r463
            · -- not no
              have r464 := r457.ifF (pc' := 418) at_415 (feq hc461).1 rfl
              have hs3 : saF 3 pp dd = 1 := (sa01 _ _ _).resolve_left hc461
              have r465 := r464.iconst (pc' := 419) (1 : Int32) at_418 rfl rfl
              have r466 := r465.goto (pc' := 423) at_419 (by decide) (by decide)
              rw [if_pos (⟨hc419, hs0, hs1, hs2, hs3⟩ : kl = pp + (8 : Int32) ∧ saF 0 pp dd = 1 ∧ saF 1 pp dd = 1 ∧ saF 2 pp dd = 1 ∧ saF 3 pp dd = 1)]
              exact r466
    · -- not no
      have r467 := r417.icT (pc' := 422) at_371 (feq hc419).2 (by decide) (by decide)
      have r468 := r467.iconst (pc' := 423) (0 : Int32) at_422 rfl rfl
      rw [if_neg (fun q : kl = pp + (8 : Int32) ∧ saF 0 pp dd = 1 ∧ saF 1 pp dd = 1 ∧ saF 2 pp dd = 1 ∧ saF 3 pp dd = 1 => hc419 q.1)]
      exact r468
  have r469 := r418.istore (pc' := 425) (L' := #[.val (.int x0), .val (.long b), .second, .val (.long c'), .second, .val (.long mm), .second, .val (.int pp), .val (.int kl), .val (.long dd), .second, .val (.ref b123), .val (.ref b172), .val (.int (if kl = pp + (8 : Int32) ∧ saF 0 pp dd = 1 ∧ saF 1 pp dd = 1 ∧ saF 2 pp dd = 1 ∧ saF 3 pp dd = 1 then (1 : Int32) else (0 : Int32)))]) at_423 rfl rfl
  have r470 := r469.aload (pc' := 427) at_425 rfl rfl rfl
  have r471 := r470.aload (pc' := 429) at_427 rfl rfl rfl
  obtain ⟨v474, h475, hq473, r472⟩ := r471.callS (pc' := 432) [(.ref b172), (.ref b123)] (rest := []) 0 at_429 (hw _ (List.mem_of_getElem? (i := 8) rfl)) (hw _ (List.mem_of_getElem? (i := 9) rfl)) (hw _ (List.mem_of_getElem? (i := 10) rfl)) (hw _ (List.mem_of_getElem? (i := 11) rfl)) (by decide) (c3 l Z a0 hw b172 b123 kl pp [(kbF (0 : Int32) pp b dd c'), (kbF (1 : Int32) pp b dd c'), (kbF (2 : Int32) pp b dd c'), (kbF (3 : Int32) pp b dd c'), (kbF (4 : Int32) pp b dd c'), (kbF (5 : Int32) pp b dd c'), (kbF (6 : Int32) pp b dd c'), (kbF (7 : Int32) pp b dd c'), (kbF (8 : Int32) pp b dd c'), (kbF (9 : Int32) pp b dd c'), (kbF (10 : Int32) pp b dd c'), (kbF (11 : Int32) pp b dd c'), (kbF (12 : Int32) pp b dd c'), (kbF (13 : Int32) pp b dd c'), (kbF (14 : Int32) pp b dd c')] [sh b 0, sh b 1, sh b 2, sh b 3] h413 n0 V409 V166 hp0.1 hp0.2) pd_4 rfl rfl rfl (Nat.le_of_ble_eq_true rfl) (by decide) (by decide) (k' := 2) (n' := 19) rfl rfl (by decide) (by decide) rfl
  obtain ⟨rfl, rfl⟩ := hq473
  dsimp only [Option.toList, List.cons_append, List.nil_append] at r472
  have r476 := r472.iload (pc' := 434) at_432 rfl rfl
  have r477 := r476.icF (pc' := 437) at_434 (teq (plain kl pp b dd c' hp0.1 hp0.2 [(kbF (4 : Int32) pp b dd c'), (kbF (5 : Int32) pp b dd c'), (kbF (6 : Int32) pp b dd c'), (kbF (7 : Int32) pp b dd c'), (kbF (8 : Int32) pp b dd c'), (kbF (9 : Int32) pp b dd c'), (kbF (10 : Int32) pp b dd c'), (kbF (11 : Int32) pp b dd c'), (kbF (12 : Int32) pp b dd c'), (kbF (13 : Int32) pp b dd c'), (kbF (14 : Int32) pp b dd c')])).2 rfl
  have r478 := r477.iconst (pc' := 438) (1 : Int32) at_437 rfl rfl
  have r479 := r478.goto (pc' := 442) at_438 (by decide) (by decide)
  exact ⟨_, _, r479.retZ at_442 rfl (t := .boolean) (by simp) (1 : Int32) rfl (by decide) (by decide), rfl⟩
set_option maxRecDepth 65536 in
set_option maxHeartbeats 40000000 in
theorem comes_1 {Post : Tables → Env → Array Value → State → Outcome → State → Prop} (hpost : ∀ tb e args s v u, (limb_1_1.after args s (.returned v) u = true ∧ limb_1_2.after args s (.returned v) u = true ∧ True) → FrameEnd s (.returned v) u (Jvm.fieldLocs frame_1_writes args s ++ Jvm.arrayLocs frame_1_arrays args s ++ Jvm.staticLocs frame_1_statics s) 16 128 → Post tb e args s (.returned v) u) :
    ArmFor flags0 classFile x code maxLocals ret World_1 tables_1 room_1 Calls_1 rest_1 Pre_1 Post := by
  intro l hfl _ _ p e ha hc hk s m args below hf hA hF happ hP
  obtain ⟨hcalls, hrest, hpre⟩ := hP
  obtain ⟨-, -, -, hnamed, -, -, -, hat⟩ := (Spec.applies_iff hf).mp happ
  obtain ⟨hg, hn⟩ := and_e (Cond.before_iff.mp (show (Jvm.Cond.and given_1 narrow_1).before args s = true from hpre))
  obtain ⟨gg1, gg2⟩ := and_e hg
  obtain ⟨gg3, gg4⟩ := and_e gg2
  obtain ⟨gg5, gg6⟩ := and_e gg4
  obtain ⟨gg7, gg8⟩ := and_e gg6
  obtain ⟨w0, w1, w2, w3, rfl⟩ : ∃ w0 w1 w2 w3 : Value, args = #[w0, w1, w2, w3] := by
    have hs : args.size = 4 := by simpa [Cond.value, given_1] using gg1
    obtain ⟨L⟩ := args
    match L, hs with
    | [w0, w1, w2, w3], _ => exact ⟨w0, w1, w2, w3, rfl⟩
  have hw := fun d (hd : d ∈ tables_1) => atoms_spec (ws := Jvm.Cond.code x code maxLocals ret :: tables_1) hat d (List.mem_cons_of_mem _ hd)
  obtain ⟨i0, ei0⟩ := is_v gg3
  obtain rfl : w0 = (.int i0) := Option.some.inj ei0
  obtain ⟨i1, ei1⟩ := isL_v gg5
  obtain rfl : w1 = (.long i1) := Option.some.inj ei1
  obtain ⟨i2, ei2⟩ := isL_v gg7
  obtain rfl : w2 = (.long i2) := Option.some.inj ei2
  obtain ⟨i3, ei3⟩ := isL_v gg8
  obtain rfl : w3 = (.long i3) := Option.some.inj ei3
  obtain ⟨n, o, h1, h2, h3, _, L, rfl, ⟨N, rfl⟩, hq⟩ := law l s _ hw i0 i1 i2 i3 s.heap s.heap.size (Nat.le_refl _) tables_1 p e ha hc hk s m _ below hf ((Spec.applies_iff_loose hf).mp happ).1 ⟨rfl, State.Warmed39.refl s, rfl⟩ trivial
  refine ⟨n, _, h1, h2, h3, hpost _ _ _ _ _ _ ⟨Cond.after_iff.mpr rfl, Cond.after_iff.mpr (eq_i res_at (Term.int_eval (1)) rfl), trivial⟩ ⟨hq.1, hq.2.1, (hq.2.2.sift fun y hy => Or.inr (N y hy)).mono (by decide) (by decide)⟩⟩
theorem main_1_1 : Claimed_1_1 := comes_1 fun _ _ _ _ _ _ h hF => ⟨h.1, hF⟩
theorem main_1_2 : Claimed_1_2 := comes_1 fun _ _ _ _ _ _ h hF => ⟨h.2.1, hF⟩

end Jvm.Pilot.@@N@@
namespace Jvm.Pilot.@@N@@
open Jvm Jvm.ClassFile Sem Op Lib Jvm.Free Jvm.Stand Jvm.Pilot.@@N@@.Jvm.D
/-! MADE BY PROGRAM (witnessworld.py) out of the Statement's table words and the real class files: 9 classes; the members and pool entries that the words name. The judged class is class 1, her method 1. -/
namespace start1
open Jvm.ClassFile
def u (s : String) : CpInfo := .utf8 (stringToUtf16 s)
/-- a pool by its gaps: so many unusable entries, then the entry; so many at the end -/
def gap : Nat → List CpInfo → List CpInfo
  | 0, r => r
  | n + 1, r => .unusable :: gap n r
def poolList (es : List (Nat × CpInfo)) (last : Nat) : List CpInfo := es.foldr (fun e r => gap e.1 (e.2 :: r)) (gap last [])
def pool (es : List (Nat × CpInfo)) (last : Nat) : Array CpInfo := ⟨poolList es last⟩
def fileOf (pool : Array CpInfo) (this : Nat) (attrs : Array Attribute := #[]) (ms : Array MethodInfo := #[]) (fl : Nat := 33) (sup : Nat := 0) (ifs : Array Nat := #[]) (fds : Array FieldInfo := #[]) : ClassFile where
  minorVersion := 0
  majorVersion := 65
  constantPool := pool
  accessFlags := fl
  thisClass := this
  superClass := sup
  interfaces := ifs
  fields := fds
  methods := ms
  attributes := attrs
def plain (name : String) (sup : Option ClassId) : Class where
  name := name
  kind := .ordinary
  loader := none
  accessFlags := 33
  super := sup
  interfaces := #[]
  cf := none
  fields := #[]
  methods := #[]
  instanceTypes := #[]
  staticTypes := #[]
  resolved := #[]
  callSites := []
  init := .initialized
  statics := none
  mirror := none

def pool0 : Array CpInfo := pool [(5, u "<init>"), (0, u "()V"), (1, .class_ 10), (1, u "java/lang/Object")] 113

def k0m0 : Method := { name := "<init>", desc := "()V", sig := { parameters := [], returnType := none }, accessFlags := 1, code := none }
/-- java/lang/Object -/
def k0 : Class := { plain "java/lang/Object" none with
  accessFlags := 33
  interfaces := #[]
  cf := some (fileOf pool0 8 #[] #[{ accessFlags := 1, nameIndex := 5, descriptorIndex := 6, attributes := #[] }] 33 0 #[] #[])
  fields := #[]
  methods := #[k0m0]
  instanceTypes := #[]
  staticTypes := #[]
  resolved := Array.replicate 124 none
  statics := none }

def pool1 : Array CpInfo := pool [(2, .class_ 4), (1, u "java/lang/Object"), (0, u "<init>"), (0, u "()V"), (0, .methodref 8 9), (0, .class_ 10), (0, .nameAndType 11 12), (0, u "com/example/hermod/hermod/store/EncodingIsOffsetKeyOfPinLaw"), (0, u "put"), (0, u "([BIB)V"), (0, .methodref 8 14), (0, .nameAndType 15 16), (0, u "keyByte"), (0, u "(IIJJJ)B"), (0, .methodref 8 18), (0, .nameAndType 19 20), (0, u "sameAt"), (0, u "(IIJ)Z"), (0, .methodref 22 23), (0, .class_ 24), (0, .nameAndType 25 26), (0, u "com/example/hermod/hermod/store/Encoding"), (0, u "isOffsetKeyOf"), (0, u "([B[B)Z"), (2, u "law"), (0, u "(IJJJ)Z")] 5

def k1m0 : Method := { name := "<init>", desc := "()V", sig := { parameters := [], returnType := none }, accessFlags := 1, code := none }
def k1c1 : Code := { maxStack := 10, maxLocals := 14, code := code, exceptionTable := #[], attributes := #[] }
def k1m1 : Method := { name := "law", desc := "(IJJJ)Z", sig := { parameters := [.int, .long, .long, .long], returnType := some .boolean }, accessFlags := 9, code := some k1c1 }
def k1c2 : Code := { maxStack := 3, maxLocals := 3, code := method_3_code, exceptionTable := #[], attributes := #[] }
def k1m2 : Method := { name := "put", desc := "([BIB)V", sig := { parameters := [(.array .byte), .int, .byte], returnType := none }, accessFlags := 10, code := some k1c2 }
def k1c3 : Code := { maxStack := 4, maxLocals := 8, code := method_4_code, exceptionTable := #[], attributes := #[] }
def k1m3 : Method := { name := "keyByte", desc := "(IIJJJ)B", sig := { parameters := [.int, .int, .long, .long, .long], returnType := some .byte }, accessFlags := 10, code := some k1c3 }
def k1c4 : Code := { maxStack := 4, maxLocals := 4, code := method_5_code, exceptionTable := #[], attributes := #[] }
def k1m4 : Method := { name := "sameAt", desc := "(IIJ)Z", sig := { parameters := [.int, .int, .long], returnType := some .boolean }, accessFlags := 10, code := some k1c4 }
/-- com/example/hermod/hermod/store/EncodingIsOffsetKeyOfPinLaw -/
def k1 : Class := { plain "com/example/hermod/hermod/store/EncodingIsOffsetKeyOfPinLaw" (some 0) with
  accessFlags := 49
  interfaces := #[]
  cf := some (fileOf pool1 8 #[] #[{ accessFlags := 1, nameIndex := 5, descriptorIndex := 6, attributes := #[] }, { accessFlags := 9, nameIndex := 29, descriptorIndex := 30, attributes := #[] }, { accessFlags := 10, nameIndex := 11, descriptorIndex := 12, attributes := #[] }, { accessFlags := 10, nameIndex := 15, descriptorIndex := 16, attributes := #[] }, { accessFlags := 10, nameIndex := 19, descriptorIndex := 20, attributes := #[] }] 49 2 #[] #[])
  fields := #[]
  methods := #[k1m0, k1m1, k1m2, k1m3, k1m4]
  instanceTypes := #[]
  staticTypes := #[]
  resolved := Array.replicate 36 none
  statics := none }

def pool2 : Array CpInfo := pool [(2, .class_ 4), (1, u "java/lang/Object"), (0, u "<init>"), (0, u "()V"), (1, .class_ 10), (1, u "com/example/hermod/hermod/store/Encoding"), (40, .class_ 52), (0, u "com/example/hermod/hermod/store/Encoding$GroupId"), (161, u "OVERDUE"), (0, u "Ljava/time/Instant;"), (148, u "SEPARATOR"), (0, u "B"), (7, u "isOffsetKeyOf"), (0, u "([B[B)Z")] 64

def k2m0 : Method := { name := "<init>", desc := "()V", sig := { parameters := [], returnType := none }, accessFlags := 2, code := none }
def k2c1 : Code := { maxStack := 3, maxLocals := 3, code := prog_34_method_6_code, exceptionTable := #[], attributes := #[] }
def k2m1 : Method := { name := "isOffsetKeyOf", desc := "([B[B)Z", sig := { parameters := [(.array .byte), (.array .byte)], returnType := some .boolean }, accessFlags := 8, code := some k2c1 }
/-- com/example/hermod/hermod/store/Encoding -/
def k2 : Class := { plain "com/example/hermod/hermod/store/Encoding" (some 0) with
  accessFlags := 32
  interfaces := #[]
  cf := some (fileOf pool2 8 #[.nestMembers #[51]] #[{ accessFlags := 2, nameIndex := 5, descriptorIndex := 6, attributes := #[] }, { accessFlags := 8, nameIndex := 373, descriptorIndex := 374, attributes := #[] }] 32 2 #[] #[{ accessFlags := 26, nameIndex := 364, descriptorIndex := 365, attributes := #[] }, { accessFlags := 26, nameIndex := 214, descriptorIndex := 215, attributes := #[] }])
  fields := #[{ name := "SEPARATOR", type := .byte, accessFlags := 26, slot := 0, constantValue := 0 }, { name := "OVERDUE", type := (.object "java/time/Instant"), accessFlags := 26, slot := 1, constantValue := 0 }]
  methods := #[k2m0, k2m1]
  instanceTypes := #[]
  staticTypes := #[.byte, (.object "java/time/Instant")]
  resolved := Array.replicate 439 none
  statics := none }

def pool3 : Array CpInfo := pool [(1, u "java/lang/Cloneable"), (0, .class_ 1), (0, u "java/lang/Object"), (0, .class_ 3)] 3

/-- java/lang/Cloneable -/
def k3 : Class := { plain "java/lang/Cloneable" (some 0) with
  accessFlags := 1537
  interfaces := #[]
  cf := some (fileOf pool3 2 #[] #[] 1537 4 #[] #[])
  fields := #[]
  methods := #[]
  instanceTypes := #[]
  staticTypes := #[]
  resolved := Array.replicate 8 none
  statics := none }

def pool4 : Array CpInfo := pool [(1, u "java/io/Serializable"), (0, .class_ 1), (0, u "java/lang/Object"), (0, .class_ 3)] 3

/-- java/io/Serializable -/
def k4 : Class := { plain "java/io/Serializable" (some 0) with
  accessFlags := 1537
  interfaces := #[]
  cf := some (fileOf pool4 2 #[] #[] 1537 4 #[] #[])
  fields := #[]
  methods := #[]
  instanceTypes := #[]
  staticTypes := #[]
  resolved := Array.replicate 8 none
  statics := none }

/-- the primitive byte -/
def k5 : Class := { plain "byte" none with kind := .primitive 'B', accessFlags := 0x411 }
/-- [B -/
def k6 : Class := { plain "[B" (some 0) with kind := .array 5 .byte, interfaces := #[3, 4], accessFlags := 1041 }

/-- the primitive int -/
def k7 : Class := { plain "int" none with kind := .primitive 'I', accessFlags := 0x411 }
/-- [I -/
def k8 : Class := { plain "[I" (some 0) with kind := .array 7 .int, interfaces := #[3, 4], accessFlags := 1041 }

def heap : Heap := #[]
def classes : Array Class := #[k0, k1, k2, k3, k4, k5, k6, k7, k8]
def interned : List (Array UInt16 × Addr) := []
def slotsUsed : Nat := 0
def theMethod : MethodId := ⟨1, 1⟩
def args0 : Array Value := #[.int 5, .long 7, .long 8, .long 9]
def aboutOver (below : List Frame) : State where
  vm := { classes := classes, interned := interned.toArray }
  heap := heap
  slotsUsed := slotsUsed
  threads := #[{ frames := .invoking theMethod args0 :: below }]
def below0 : List Frame := [.native { method := ⟨0, 0⟩, args := #[] }]
def about1 : State := aboutOver below0
def p0 : Program := .bare "" "" ""
def e0 : Env := launch0.env 0 0 0
theorem w_frames : about1.frames = Frame.invoking theMethod args0 :: below0 := rfl
set_option maxRecDepth 65536 in
theorem w_args : argsFit about1.vm theMethod args0 = true := by decide +kernel
set_option maxRecDepth 65536 in
theorem w_heap : heapFits about1 = true := by decide +kernel
set_option maxRecDepth 65536 in
theorem w_runnable : about1.curStatus? = some .runnable := by decide +kernel
set_option maxRecDepth 65536 in
theorem w_alone : about1.alone = true := by decide +kernel
set_option maxRecDepth 65536 in
theorem w_named : about1.methodNamed? x = some theMethod := by decide +kernel
set_option maxRecDepth 65536 in
theorem w_hears : about1.hears theMethod below0 = true := by decide +kernel
set_option maxRecDepth 65536 in
theorem w_ripe : about1.ripe theMethod args0 below0 = true := by decide +kernel
theorem w_running : about1.status = .running := rfl
set_option maxRecDepth 65536 in
theorem w_room : about1.hasRoom e0.platform room_1 = true :=
  launch0.hasRoom_least _ room_1 (by decide +kernel) (by decide +kernel) (by decide +kernel) (by decide +kernel) (by decide +kernel) (by decide +kernel)
theorem allAtoms_all (ts : List Jvm.Cond) (a : Array Jvm.Value) (st : Jvm.State) : (allAtoms ts).before a st = ts.all (fun c => c.before a st) := by
  induction ts with
  | nil => rfl
  | cons c t ih =>
    show (Jvm.Cond.and c (allAtoms t)).before a st = _
    rw [Jvm.Cond.before_and, ih, List.all_cons]
def words1 : List Jvm.Cond := Jvm.Cond.code x code maxLocals ret :: tables_1
/-- a 'code' word, met by the world's own term for the bytes: nothing is compared byte by byte -/
theorem code_word {y : MethodName} {bytes : ByteArray} {mx : Nat} {rt : Option FieldType} {a : Array Value} {s : State} {m : MethodId} {meth : Method} {c : Code} (h1 : s.methodNamed? y = some m) (h2 : s.vm.method? m = some meth) (h3 : meth.code = some c) (h4 : c.code = bytes)
    (h5 : (c.maxLocals == mx && c.exceptionTable.isEmpty && decide (c.maxStack ≤ mostOperands) && decide (meth.sig.returnType = rt) && !meth.locks && decide (parseMethodDescriptor y.desc = some meth.sig)) = true) : (Jvm.Cond.code y bytes mx rt).before a s = true := by
  simp only [Bool.and_eq_true, beq_iff_eq, Bool.not_eq_true', decide_eq_true_eq] at h5
  obtain ⟨⟨⟨⟨⟨g1, g2⟩, g3⟩, g4⟩, g5⟩, g6⟩ := h5
  simp [Cond.before, Cond.holds, Cond.value, h1, h2, h3, h4, g1, g2, g3, g4, g5, g6]
def isCode : Jvm.Cond → Bool
  | .code _ _ _ _ => true
  | _ => false
theorem all_split {L : List Jvm.Cond} {P : Jvm.Cond → Bool} (h1 : L.all (fun c => isCode c || P c) = true) (h2 : ∀ c ∈ L.filter isCode, P c = true) : L.all P = true := by
  refine List.all_eq_true.mpr fun c hc => ?_
  have h := List.all_eq_true.mp h1 c hc
  rcases Bool.eq_false_or_eq_true (isCode c) with hi | hi
  · exact h2 c (List.mem_filter.mpr ⟨hc, hi⟩)
  · simpa [hi] using h
set_option maxRecDepth 65536 in
theorem w_c0 : (Jvm.Cond.code x code maxLocals ret).before args0 about1 = true := code_word (m := ⟨1, 1⟩) (meth := k1m1) (c := k1c1) (by decide +kernel) rfl rfl rfl (by decide +kernel)
set_option maxRecDepth 65536 in
theorem w_c1 : (Jvm.Cond.code ({ cls := "com/example/hermod/hermod/store/EncodingIsOffsetKeyOfPinLaw", name := "put", desc := "([BIB)V" } : Jvm.MethodName) method_3_code (3 : Nat) (Option.none : Option Jvm.ClassFile.FieldType)).before args0 about1 = true := code_word (m := ⟨1, 2⟩) (meth := k1m2) (c := k1c2) (by decide +kernel) rfl rfl rfl (by decide +kernel)
set_option maxRecDepth 65536 in
theorem w_c2 : (Jvm.Cond.code ({ cls := "com/example/hermod/hermod/store/EncodingIsOffsetKeyOfPinLaw", name := "keyByte", desc := "(IIJJJ)B" } : Jvm.MethodName) method_4_code (8 : Nat) (Option.some Jvm.ClassFile.FieldType.byte)).before args0 about1 = true := code_word (m := ⟨1, 3⟩) (meth := k1m3) (c := k1c3) (by decide +kernel) rfl rfl rfl (by decide +kernel)
set_option maxRecDepth 65536 in
theorem w_c3 : (Jvm.Cond.code ({ cls := "com/example/hermod/hermod/store/Encoding", name := "isOffsetKeyOf", desc := "([B[B)Z" } : Jvm.MethodName) prog_34_method_6_code (3 : Nat) (Option.some Jvm.ClassFile.FieldType.boolean)).before args0 about1 = true := code_word (m := ⟨2, 1⟩) (meth := k2m1) (c := k2c1) (by decide +kernel) rfl rfl rfl (by decide +kernel)
set_option maxRecDepth 65536 in
theorem w_c4 : (Jvm.Cond.code ({ cls := "com/example/hermod/hermod/store/EncodingIsOffsetKeyOfPinLaw", name := "sameAt", desc := "(IIJ)Z" } : Jvm.MethodName) method_5_code (4 : Nat) (Option.some Jvm.ClassFile.FieldType.boolean)).before args0 about1 = true := code_word (m := ⟨1, 4⟩) (meth := k1m4) (c := k1c4) (by decide +kernel) rfl rfl rfl (by decide +kernel)
def codes1 : List Jvm.Cond := [Jvm.Cond.code x code maxLocals ret, Jvm.Cond.code ({ cls := "com/example/hermod/hermod/store/EncodingIsOffsetKeyOfPinLaw", name := "put", desc := "([BIB)V" } : Jvm.MethodName) method_3_code (3 : Nat) (Option.none : Option Jvm.ClassFile.FieldType), Jvm.Cond.code ({ cls := "com/example/hermod/hermod/store/EncodingIsOffsetKeyOfPinLaw", name := "keyByte", desc := "(IIJJJ)B" } : Jvm.MethodName) method_4_code (8 : Nat) (Option.some Jvm.ClassFile.FieldType.byte), Jvm.Cond.code ({ cls := "com/example/hermod/hermod/store/Encoding", name := "isOffsetKeyOf", desc := "([B[B)Z" } : Jvm.MethodName) prog_34_method_6_code (3 : Nat) (Option.some Jvm.ClassFile.FieldType.boolean), Jvm.Cond.code ({ cls := "com/example/hermod/hermod/store/EncodingIsOffsetKeyOfPinLaw", name := "sameAt", desc := "(IIJ)Z" } : Jvm.MethodName) method_5_code (4 : Nat) (Option.some Jvm.ClassFile.FieldType.boolean)]
set_option maxRecDepth 65536 in
theorem codes_eq : words1.filter isCode = codes1 := rfl
theorem w_codes : ∀ c ∈ words1.filter isCode, c.before args0 about1 = true := by
  rw [codes_eq]
  intro c hc
  simp only [codes1, List.mem_cons, List.not_mem_nil, or_false] at hc
  rcases hc with rfl | rfl | rfl | rfl | rfl
  · exact w_c0
  · exact w_c1
  · exact w_c2
  · exact w_c3
  · exact w_c4
set_option maxRecDepth 65536 in
theorem w_t1 : words1.all (fun c => isCode c || c.before args0 about1) = true := by decide +kernel
theorem w_tables : (allAtoms (Jvm.Cond.code x code maxLocals ret :: tables_1)).before args0 about1 = true := by
  rw [allAtoms_all]
  show words1.all (fun c => c.before args0 about1) = true
  refine all_split ?_ w_codes
  rw [w_t1]
set_option maxRecDepth 65536 in
theorem w_case : (Jvm.Cond.and given_1 narrow_1).before args0 about1 = true := by decide +kernel
theorem w_applies : (headSpec (Jvm.Cond.code x code maxLocals ret :: tables_1) room_1).applies x e0.platform about1 = true :=
  (Spec.applies_iff w_frames).mpr ⟨w_running, w_runnable, w_alone, w_named, w_hears, w_ripe, w_room, w_tables⟩
theorem atStart : AtStart classFile x code maxLocals ret World_1 tables_1 room_1 Calls_1 rest_1 Pre_1 launch0 p0 e0 about1 theMethod args0 below0 :=
  ⟨lists_1, trivial, launch0.admits_env _ _ _, launch0.least_env, fairChoices_fair.cas, fairChoices_fair.clock, w_frames, w_args, w_heap, w_applies, trivial, trivial, w_case⟩
end start1
theorem witness_1 : WitnessClaimed_1 := ⟨start1.p0, start1.e0, start1.about1, start1.theMethod, start1.args0, start1.below0, start1.atStart⟩
end Jvm.Pilot.@@N@@
