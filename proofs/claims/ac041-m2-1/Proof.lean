import JvmDerived
import JvmDerived.Pilot.@@N@@Statement
import JvmDerived.Pilot.@@N@@Code
set_option linter.unusedVariables false
set_option linter.unusedSimpArgs false
namespace Jvm.Pilot.@@N@@
open Jvm Jvm.ClassFile Sem Op Lib Jvm.Free Jvm.Stand Jvm.LawKit Jvm.RoadKit Bundle Jvm.Pilot.@@N@@.Jvm.D
section OwnLayer
/-- where the walk of the body y stands: after k cells and n slots made, with the heap h and the top frame g -/
def Rch (p : Program) (l : Launch) (e : Env) (R : Room) (s : State) (m : MethodId) (args : Array Value) (below : List Frame) (meth : Method) (c : Code) (Z : State) (y : MethodName) (bc : ByteArray) (ml : Nat) (rt : Option FieldType) (n0 : Nat) (T0 : State) (g0 : JFrame) (k n : Nat) (h : Heap) (g : JFrame) : Prop :=
  (p.tables.exec = Jvm.exec ∧ c.code = bc ∧ c.maxLocals = ml ∧ s.vm.findClass y.cls = some m.cls ∧ Z.Warmed39 s.vm ∧ meth.sig.returnType = rt ∧ meth.locks = false ∧ meth.name = y.name) ∧
  ∃ T locs, Stand p l e R s m args below meth c T locs k n ∧ T.heap = h ∧ Fr n0 locs ∧ ∀ target, Steps p.tables e below (T.setTop g) target → Steps p.tables e below (T0.setTop g0) target
/-- the body has returned v, with the heap h -/
def Don (p : Program) (l : Launch) (e : Env) (R : Room) (s : State) (m : MethodId) (args : Array Value) (below : List Frame) (meth : Method) (c : Code) (rt : Option FieldType) (n0 : Nat) (T0 : State) (g0 : JFrame) (v : Option Value) (h : Heap) : Prop :=
  ∃ T locs k n, Stand p l e R s m args below meth c T locs k n ∧ k ≤ R.cells ∧ n ≤ R.slots ∧ T.heap = h ∧ Fr n0 locs ∧ meth.locks = false ∧ (meth.sig.returnType = none → v = none) ∧
    ∀ fs, (∀ (f : JFrame) (acts : List Action), f.method = m → f.locked = none → f.entered = [] → (doReturn e (T.setTop f) acts v).1 = T.setFrames fs) → Steps p.tables e below (T0.setTop g0) (T.setFrames fs)
/-- a body's contract -/
def Ctr (l : Launch) (Z : State) (y : MethodName) (bc : ByteArray) (ml : Nat) (rt : Option FieldType) (rm : Room) (as : Array Value) (h0 : Heap) (n0 : Nat) (Q : Option Value → Heap → Prop) : Prop :=
  ∀ ws : List Jvm.Cond, MetFree l y (head1 (Jvm.Cond.code y bc ml rt :: ws) rm) (fun a U => a = as ∧ Z.Warmed39 U.vm ∧ U.heap = h0) (fun _ _ _ _ _ => True) (fun _ U o U' => ∃ v L, o = .returned v ∧ (Fr n0 L ∧ Q v U'.heap) ∧ FrameEnd U o U' L rm.cells rm.slots)
variable {p : Program} {l : Launch} {e : Env} {R : Room} {s : State} {m : MethodId} {args : Array Value} {below : List Frame} {meth : Method} {c : Code} {Z : State} {y : MethodName} {bc : ByteArray} {ml : Nat} {rt : Option FieldType} {n0 : Nat} {T0 : State} {g0 : JFrame} {k n : Nat} {h : Heap} {a0 : Array Value} {pc pc' : Nat} {L : Array Slot} {S : List Value}
theorem Rch.step {k' n' : Nat} {h' : Heap} {g g' : JFrame} (r : Rch p l e R s m args below meth c Z y bc ml rt n0 T0 g0 k n h g)
    (f : ∀ T locs, Stand p l e R s m args below meth c T locs k n → T.heap = h → Fr n0 locs → ∃ T' locs', Stand p l e R s m args below meth c T' locs' k' n' ∧ T'.heap = h' ∧ Fr n0 locs' ∧ ∀ target, Steps p.tables e below (T'.setTop g') target → Steps p.tables e below (T.setTop g) target) :
    Rch p l e R s m args below meth c Z y bc ml rt n0 T0 g0 k' n' h' g' := by
  obtain ⟨q, T, locs, X, eT, N, st⟩ := r
  obtain ⟨T', locs', X', eT', N', st'⟩ := f T locs X eT N
  exact ⟨q, T', locs', X', eT', N', fun t z => st t (st' t z)⟩
theorem Rch.pure {g g' : JFrame} (r : Rch p l e R s m args below meth c Z y bc ml rt n0 T0 g0 k n h g)
    (f : ∀ T locs, Stand p l e R s m args below meth c T locs k n → T.heap = h → ∀ target, Steps p.tables e below (T.setTop g') target → Steps p.tables e below (T.setTop g) target) :
    Rch p l e R s m args below meth c Z y bc ml rt n0 T0 g0 k n h g' :=
  r.step fun T locs X eT N => ⟨T, locs, X, eT, N, f T locs X eT⟩
theorem Rch.keep {g g' : JFrame} (r : Rch p l e R s m args below meth c Z y bc ml rt n0 T0 g0 k n h g)
    (f : ∀ T locs, Stand p l e R s m args below meth c T locs k n → T.heap = h → ∃ T', Stand p l e R s m args below meth c T' locs k n ∧ T'.heap = h ∧ ∀ target, Steps p.tables e below (T'.setTop g') target → Steps p.tables e below (T.setTop g) target) :
    Rch p l e R s m args below meth c Z y bc ml rt n0 T0 g0 k n h g' :=
  r.step fun T locs X eT N => by
    obtain ⟨T', X', e', st⟩ := f T locs X eT
    exact ⟨T', locs, X', e', N, st⟩
theorem Rch.widen {g : JFrame} {k' n' : Nat} (r : Rch p l e R s m args below meth c Z y bc ml rt n0 T0 g0 k n h g) (hk : k ≤ k') (hn : n ≤ n') : Rch p l e R s m args below meth c Z y bc ml rt n0 T0 g0 k' n' h g := by
  obtain ⟨q, T, locs, X, eT, N, st⟩ := r
  exact ⟨q, T, locs, ⟨X.admits, X.cas, X.clock, X.frames, X.room, X.hears, X.method, X.code, X.here, X.tail, X.warmed, X.limits, X.bytes, X.same.mono hk hn⟩, eT, N, st⟩
theorem Rch.eqh {g : JFrame} {h' : Heap} (r : Rch p l e R s m args below meth c Z y bc ml rt n0 T0 g0 k n h g) (q : h = h') : Rch p l e R s m args below meth c Z y bc ml rt n0 T0 g0 k n h' g := q ▸ r
theorem Rch.eqg {g g' : JFrame} (r : Rch p l e R s m args below meth c Z y bc ml rt n0 T0 g0 k n h g) (q : g = g') : Rch p l e R s m args below meth c Z y bc ml rt n0 T0 g0 k n h g' := q ▸ r
-- loads and stores
theorem Rch.iloadN (r : Rch p l e R s m args below meth c Z y bc ml rt n0 T0 g0 k n h (mkF m pc L S)) {i : Fin 4} {v : Int32} (hd : decode bc pc = .ok (.iload_n i, 1)) (hl : L[i.val]? = some (.val (.int v))) (hp : pc + 1 = pc') : Rch p l e R s m args below meth c Z y bc ml rt n0 T0 g0 k n h (mkF m pc' L (.int v :: S)) := by
  subst hp; exact r.pure fun T locs X eT t z => XS.iloadN X.here r.1.1 rfl (hb r.1.2.1 hd) hl z
theorem Rch.iload (r : Rch p l e R s m args below meth c Z y bc ml rt n0 T0 g0 k n h (mkF m pc L S)) {i : Nat} {v : Int32} (hd : decode bc pc = .ok (.iload i, 2)) (hl : L[i]? = some (.val (.int v))) (hp : pc + 2 = pc') : Rch p l e R s m args below meth c Z y bc ml rt n0 T0 g0 k n h (mkF m pc' L (.int v :: S)) := by
  subst hp; exact r.pure fun T locs X eT t z => XS.iload X.here r.1.1 rfl (hb r.1.2.1 hd) hl z
theorem Rch.lloadN (r : Rch p l e R s m args below meth c Z y bc ml rt n0 T0 g0 k n h (mkF m pc L S)) {i : Fin 4} {v : Int64} (hd : decode bc pc = .ok (.lload_n i, 1)) (hl : L[i.val]? = some (.val (.long v))) (hp : pc + 1 = pc') : Rch p l e R s m args below meth c Z y bc ml rt n0 T0 g0 k n h (mkF m pc' L (.long v :: S)) := by
  subst hp; exact r.pure fun T locs X eT t z => XS.lloadN X.here r.1.1 rfl (hb r.1.2.1 hd) hl z
theorem Rch.lload (r : Rch p l e R s m args below meth c Z y bc ml rt n0 T0 g0 k n h (mkF m pc L S)) {i : Nat} {v : Int64} (hd : decode bc pc = .ok (.lload i, 2)) (hl : L[i]? = some (.val (.long v))) (hp : pc + 2 = pc') : Rch p l e R s m args below meth c Z y bc ml rt n0 T0 g0 k n h (mkF m pc' L (.long v :: S)) := by
  subst hp; exact r.pure fun T locs X eT t z => XS.lload X.here r.1.1 rfl (hb r.1.2.1 hd) hl z
theorem Rch.aloadN (r : Rch p l e R s m args below meth c Z y bc ml rt n0 T0 g0 k n h (mkF m pc L S)) {i : Fin 4} {v : Value} (hd : decode bc pc = .ok (.aload_n i, 1)) (hl : L[i.val]? = some (.val v)) (hv : v.isRef = true) (hp : pc + 1 = pc') : Rch p l e R s m args below meth c Z y bc ml rt n0 T0 g0 k n h (mkF m pc' L (v :: S)) := by
  subst hp; exact r.pure fun T locs X eT t z => XS.aloadN X.here r.1.1 rfl (hb r.1.2.1 hd) hl hv z
theorem Rch.aload (r : Rch p l e R s m args below meth c Z y bc ml rt n0 T0 g0 k n h (mkF m pc L S)) {i : Nat} {v : Value} (hd : decode bc pc = .ok (.aload i, 2)) (hl : L[i]? = some (.val v)) (hv : v.isRef = true) (hp : pc + 2 = pc') : Rch p l e R s m args below meth c Z y bc ml rt n0 T0 g0 k n h (mkF m pc' L (v :: S)) := by
  subst hp; exact r.pure fun T locs X eT t z => XS.aload X.here r.1.1 rfl (hb r.1.2.1 hd) hl hv z
theorem Rch.istoreN {i : Fin 4} {v : Int32} {L' : Array Slot} (r : Rch p l e R s m args below meth c Z y bc ml rt n0 T0 g0 k n h (mkF m pc L (.int v :: S))) (hd : decode bc pc = .ok (.istore_n i, 1)) (hl : storeLocals L i.val (.int v) = some L') (hp : pc + 1 = pc') : Rch p l e R s m args below meth c Z y bc ml rt n0 T0 g0 k n h (mkF m pc' L' S) := by
  subst hp; exact r.pure fun T locs X eT t z => XS.istoreN X.here r.1.1 rfl (hb r.1.2.1 hd) rfl hl z
theorem Rch.istore {i : Nat} {v : Int32} {L' : Array Slot} (r : Rch p l e R s m args below meth c Z y bc ml rt n0 T0 g0 k n h (mkF m pc L (.int v :: S))) (hd : decode bc pc = .ok (.istore i, 2)) (hl : storeLocals L i (.int v) = some L') (hp : pc + 2 = pc') : Rch p l e R s m args below meth c Z y bc ml rt n0 T0 g0 k n h (mkF m pc' L' S) := by
  subst hp; exact r.pure fun T locs X eT t z => XS.istore X.here r.1.1 rfl (hb r.1.2.1 hd) rfl hl z
theorem Rch.lstoreN {i : Fin 4} {v : Int64} {L' : Array Slot} (r : Rch p l e R s m args below meth c Z y bc ml rt n0 T0 g0 k n h (mkF m pc L (.long v :: S))) (hd : decode bc pc = .ok (.lstore_n i, 1)) (hl : storeLocals L i.val (.long v) = some L') (hp : pc + 1 = pc') : Rch p l e R s m args below meth c Z y bc ml rt n0 T0 g0 k n h (mkF m pc' L' S) := by
  subst hp; exact r.pure fun T locs X eT t z => XS.lstoreN X.here r.1.1 rfl (hb r.1.2.1 hd) rfl hl z
theorem Rch.lstore {i : Nat} {v : Int64} {L' : Array Slot} (r : Rch p l e R s m args below meth c Z y bc ml rt n0 T0 g0 k n h (mkF m pc L (.long v :: S))) (hd : decode bc pc = .ok (.lstore i, 2)) (hl : storeLocals L i (.long v) = some L') (hp : pc + 2 = pc') : Rch p l e R s m args below meth c Z y bc ml rt n0 T0 g0 k n h (mkF m pc' L' S) := by
  subst hp; exact r.pure fun T locs X eT t z => XS.lstore X.here r.1.1 rfl (hb r.1.2.1 hd) rfl hl z
theorem Rch.astoreN {i : Fin 4} {v : Value} {L' : Array Slot} (r : Rch p l e R s m args below meth c Z y bc ml rt n0 T0 g0 k n h (mkF m pc L (v :: S))) (hd : decode bc pc = .ok (.astore_n i, 1)) (hv : v.isRef = true) (hl : storeLocals L i.val v = some L') (hp : pc + 1 = pc') : Rch p l e R s m args below meth c Z y bc ml rt n0 T0 g0 k n h (mkF m pc' L' S) := by
  subst hp; exact r.pure fun T locs X eT t z => XS.astoreN X.here r.1.1 rfl (hb r.1.2.1 hd) rfl hv hl z
theorem Rch.astore {i : Nat} {v : Value} {L' : Array Slot} (r : Rch p l e R s m args below meth c Z y bc ml rt n0 T0 g0 k n h (mkF m pc L (v :: S))) (hd : decode bc pc = .ok (.astore i, 2)) (hv : v.isRef = true) (hl : storeLocals L i v = some L') (hp : pc + 2 = pc') : Rch p l e R s m args below meth c Z y bc ml rt n0 T0 g0 k n h (mkF m pc' L' S) := by
  subst hp; exact r.pure fun T locs X eT t z => XS.astore X.here r.1.1 rfl (hb r.1.2.1 hd) rfl hv hl z
theorem Rch.iinc {i : Nat} {cst : Int} {v u : Int32} {L' : Array Slot} (r : Rch p l e R s m args below meth c Z y bc ml rt n0 T0 g0 k n h (mkF m pc L S)) (w : Int32) (hd : decode bc pc = .ok (.iinc i cst, 3)) (hw : Int32.ofInt cst = w) (hl : L[i]? = some (.val (.int v))) (hu : v + w = u) (hl' : storeLocals L i (.int u) = some L') (hp : pc + 3 = pc') : Rch p l e R s m args below meth c Z y bc ml rt n0 T0 g0 k n h (mkF m pc' L' S) := by
  subst hp hu hw; exact r.pure fun T locs X eT t z => XS.iinc X.here r.1.1 rfl (hb r.1.2.1 hd) hl hl' z
-- constants
theorem Rch.iconst (r : Rch p l e R s m args below meth c Z y bc ml rt n0 T0 g0 k n h (mkF m pc L S)) {i : Int} (w : Int32) (hd : decode bc pc = .ok (.iconst i, 1)) (hw : Int32.ofInt i = w) (hp : pc + 1 = pc') : Rch p l e R s m args below meth c Z y bc ml rt n0 T0 g0 k n h (mkF m pc' L (.int w :: S)) := by
  subst hp hw; exact r.pure fun T locs X eT t z => XS.iconst X.here r.1.1 rfl (hb r.1.2.1 hd) z
theorem Rch.bipush (r : Rch p l e R s m args below meth c Z y bc ml rt n0 T0 g0 k n h (mkF m pc L S)) {i : Int} (w : Int32) (hd : decode bc pc = .ok (.bipush i, 2)) (hw : (Int8.ofInt i).toInt32 = w) (hp : pc + 2 = pc') : Rch p l e R s m args below meth c Z y bc ml rt n0 T0 g0 k n h (mkF m pc' L (.int w :: S)) := by
  subst hp hw; exact r.pure fun T locs X eT t z => XS.bipush X.here r.1.1 rfl (hb r.1.2.1 hd) z
theorem Rch.sipush (r : Rch p l e R s m args below meth c Z y bc ml rt n0 T0 g0 k n h (mkF m pc L S)) {i : Int} (w : Int32) (hd : decode bc pc = .ok (.sipush i, 3)) (hw : (Int16.ofInt i).toInt32 = w) (hp : pc + 3 = pc') : Rch p l e R s m args below meth c Z y bc ml rt n0 T0 g0 k n h (mkF m pc' L (.int w :: S)) := by
  subst hp hw; exact r.pure fun T locs X eT t z => XS.sipush X.here r.1.1 rfl (hb r.1.2.1 hd) z
theorem Rch.lconst (r : Rch p l e R s m args below meth c Z y bc ml rt n0 T0 g0 k n h (mkF m pc L S)) {i : Fin 2} (w : Int64) (hd : decode bc pc = .ok (.lconst i, 1)) (hw : Int64.ofNat i = w) (hp : pc + 1 = pc') : Rch p l e R s m args below meth c Z y bc ml rt n0 T0 g0 k n h (mkF m pc' L (.long w :: S)) := by
  subst hp hw; exact r.pure fun T locs X eT t z => XS.lconst X.here r.1.1 rfl (hb r.1.2.1 hd) z
theorem Rch.anull (r : Rch p l e R s m args below meth c Z y bc ml rt n0 T0 g0 k n h (mkF m pc L S)) (hd : decode bc pc = .ok (.aconst_null, 1)) (hp : pc + 1 = pc') : Rch p l e R s m args below meth c Z y bc ml rt n0 T0 g0 k n h (mkF m pc' L (.null :: S)) := by
  subst hp; exact r.pure fun T locs X eT t z => XS.aconstNull X.here r.1.1 rfl (hb r.1.2.1 hd) z
theorem Rch.ldc (r : Rch p l e R s m args below meth c Z y bc ml rt n0 T0 g0 k n h (mkF m pc L S)) {i : Nat} {w : Int32} (hd : decode bc pc = .ok (.ldc i, 2)) (hc : (Jvm.Cond.constant y.cls i w).before a0 Z = true) (hp : pc + 2 = pc') : Rch p l e R s m args below meth c Z y bc ml rt n0 T0 g0 k n h (mkF m pc' L (.int w :: S)) := by
  subst hp; exact r.pure fun T locs X eT t z => X.ldcInt r.1.1 r.1.2.2.2.1 (mvT r.1.2.2.2.2.1 hc) (g := mkF m pc L S) rfl (hb r.1.2.1 hd) t z
theorem Rch.ldcw (r : Rch p l e R s m args below meth c Z y bc ml rt n0 T0 g0 k n h (mkF m pc L S)) {i : Nat} {w : Int32} (hd : decode bc pc = .ok (.ldc_w i, 3)) (hc : (Jvm.Cond.constant y.cls i w).before a0 Z = true) (hp : pc + 3 = pc') : Rch p l e R s m args below meth c Z y bc ml rt n0 T0 g0 k n h (mkF m pc' L (.int w :: S)) := by
  subst hp; exact r.pure fun T locs X eT t z => X.ldcwInt r.1.1 r.1.2.2.2.1 (mvT r.1.2.2.2.2.1 hc) (g := mkF m pc L S) rfl (hb r.1.2.1 hd) t z
theorem Rch.ldc2 (r : Rch p l e R s m args below meth c Z y bc ml rt n0 T0 g0 k n h (mkF m pc L S)) {i : Nat} {w : Int64} (hd : decode bc pc = .ok (.ldc2_w i, 3)) (hc : (Jvm.Cond.constantLong y.cls i w).before a0 Z = true) (hp : pc + 3 = pc') : Rch p l e R s m args below meth c Z y bc ml rt n0 T0 g0 k n h (mkF m pc' L (.long w :: S)) := by
  subst hp; exact r.pure fun T locs X eT t z => X.ldc2Long r.1.1 r.1.2.2.2.1 (mvT r.1.2.2.2.2.1 hc) (g := mkF m pc L S) rfl (hb r.1.2.1 hd) t z
-- sums and the like
theorem Rch.iadd {a : Int32} {b : Int32} {u : Int32} (r : Rch p l e R s m args below meth c Z y bc ml rt n0 T0 g0 k n h (mkF m pc L (.int b :: .int a :: S))) (hd : decode bc pc = .ok (.iadd, 1)) (hu : a + b = u) (hp : pc + 1 = pc') : Rch p l e R s m args below meth c Z y bc ml rt n0 T0 g0 k n h (mkF m pc' L (.int u :: S)) := by
  subst hp hu; exact r.pure fun T locs X eT t z => XS.iadd X.here r.1.1 rfl (hb r.1.2.1 hd) rfl z
theorem Rch.isub {a : Int32} {b : Int32} {u : Int32} (r : Rch p l e R s m args below meth c Z y bc ml rt n0 T0 g0 k n h (mkF m pc L (.int b :: .int a :: S))) (hd : decode bc pc = .ok (.isub, 1)) (hu : a - b = u) (hp : pc + 1 = pc') : Rch p l e R s m args below meth c Z y bc ml rt n0 T0 g0 k n h (mkF m pc' L (.int u :: S)) := by
  subst hp hu; exact r.pure fun T locs X eT t z => XS.isub X.here r.1.1 rfl (hb r.1.2.1 hd) rfl z
theorem Rch.imul {a : Int32} {b : Int32} {u : Int32} (r : Rch p l e R s m args below meth c Z y bc ml rt n0 T0 g0 k n h (mkF m pc L (.int b :: .int a :: S))) (hd : decode bc pc = .ok (.imul, 1)) (hu : a * b = u) (hp : pc + 1 = pc') : Rch p l e R s m args below meth c Z y bc ml rt n0 T0 g0 k n h (mkF m pc' L (.int u :: S)) := by
  subst hp hu; exact r.pure fun T locs X eT t z => XS.imul X.here r.1.1 rfl (hb r.1.2.1 hd) rfl z
theorem Rch.iand {a : Int32} {b : Int32} {u : Int32} (r : Rch p l e R s m args below meth c Z y bc ml rt n0 T0 g0 k n h (mkF m pc L (.int b :: .int a :: S))) (hd : decode bc pc = .ok (.iand, 1)) (hu : a &&& b = u) (hp : pc + 1 = pc') : Rch p l e R s m args below meth c Z y bc ml rt n0 T0 g0 k n h (mkF m pc' L (.int u :: S)) := by
  subst hp hu; exact r.pure fun T locs X eT t z => XS.iand X.here r.1.1 rfl (hb r.1.2.1 hd) rfl z
theorem Rch.ior {a : Int32} {b : Int32} {u : Int32} (r : Rch p l e R s m args below meth c Z y bc ml rt n0 T0 g0 k n h (mkF m pc L (.int b :: .int a :: S))) (hd : decode bc pc = .ok (.ior, 1)) (hu : a ||| b = u) (hp : pc + 1 = pc') : Rch p l e R s m args below meth c Z y bc ml rt n0 T0 g0 k n h (mkF m pc' L (.int u :: S)) := by
  subst hp hu; exact r.pure fun T locs X eT t z => XS.ior X.here r.1.1 rfl (hb r.1.2.1 hd) rfl z
theorem Rch.ixor {a : Int32} {b : Int32} {u : Int32} (r : Rch p l e R s m args below meth c Z y bc ml rt n0 T0 g0 k n h (mkF m pc L (.int b :: .int a :: S))) (hd : decode bc pc = .ok (.ixor, 1)) (hu : a ^^^ b = u) (hp : pc + 1 = pc') : Rch p l e R s m args below meth c Z y bc ml rt n0 T0 g0 k n h (mkF m pc' L (.int u :: S)) := by
  subst hp hu; exact r.pure fun T locs X eT t z => XS.ixor X.here r.1.1 rfl (hb r.1.2.1 hd) rfl z
theorem Rch.ladd {a : Int64} {b : Int64} {u : Int64} (r : Rch p l e R s m args below meth c Z y bc ml rt n0 T0 g0 k n h (mkF m pc L (.long b :: .long a :: S))) (hd : decode bc pc = .ok (.ladd, 1)) (hu : a + b = u) (hp : pc + 1 = pc') : Rch p l e R s m args below meth c Z y bc ml rt n0 T0 g0 k n h (mkF m pc' L (.long u :: S)) := by
  subst hp hu; exact r.pure fun T locs X eT t z => XS.ladd X.here r.1.1 rfl (hb r.1.2.1 hd) rfl z
theorem Rch.lsub {a : Int64} {b : Int64} {u : Int64} (r : Rch p l e R s m args below meth c Z y bc ml rt n0 T0 g0 k n h (mkF m pc L (.long b :: .long a :: S))) (hd : decode bc pc = .ok (.lsub, 1)) (hu : a - b = u) (hp : pc + 1 = pc') : Rch p l e R s m args below meth c Z y bc ml rt n0 T0 g0 k n h (mkF m pc' L (.long u :: S)) := by
  subst hp hu; exact r.pure fun T locs X eT t z => XS.lsub X.here r.1.1 rfl (hb r.1.2.1 hd) rfl z
theorem Rch.lmul {a : Int64} {b : Int64} {u : Int64} (r : Rch p l e R s m args below meth c Z y bc ml rt n0 T0 g0 k n h (mkF m pc L (.long b :: .long a :: S))) (hd : decode bc pc = .ok (.lmul, 1)) (hu : a * b = u) (hp : pc + 1 = pc') : Rch p l e R s m args below meth c Z y bc ml rt n0 T0 g0 k n h (mkF m pc' L (.long u :: S)) := by
  subst hp hu; exact r.pure fun T locs X eT t z => XS.lmul X.here r.1.1 rfl (hb r.1.2.1 hd) rfl z
theorem Rch.land {a : Int64} {b : Int64} {u : Int64} (r : Rch p l e R s m args below meth c Z y bc ml rt n0 T0 g0 k n h (mkF m pc L (.long b :: .long a :: S))) (hd : decode bc pc = .ok (.land, 1)) (hu : a &&& b = u) (hp : pc + 1 = pc') : Rch p l e R s m args below meth c Z y bc ml rt n0 T0 g0 k n h (mkF m pc' L (.long u :: S)) := by
  subst hp hu; exact r.pure fun T locs X eT t z => XS.land X.here r.1.1 rfl (hb r.1.2.1 hd) rfl z
theorem Rch.lor {a : Int64} {b : Int64} {u : Int64} (r : Rch p l e R s m args below meth c Z y bc ml rt n0 T0 g0 k n h (mkF m pc L (.long b :: .long a :: S))) (hd : decode bc pc = .ok (.lor, 1)) (hu : a ||| b = u) (hp : pc + 1 = pc') : Rch p l e R s m args below meth c Z y bc ml rt n0 T0 g0 k n h (mkF m pc' L (.long u :: S)) := by
  subst hp hu; exact r.pure fun T locs X eT t z => XS.lor X.here r.1.1 rfl (hb r.1.2.1 hd) rfl z
theorem Rch.lxor {a : Int64} {b : Int64} {u : Int64} (r : Rch p l e R s m args below meth c Z y bc ml rt n0 T0 g0 k n h (mkF m pc L (.long b :: .long a :: S))) (hd : decode bc pc = .ok (.lxor, 1)) (hu : a ^^^ b = u) (hp : pc + 1 = pc') : Rch p l e R s m args below meth c Z y bc ml rt n0 T0 g0 k n h (mkF m pc' L (.long u :: S)) := by
  subst hp hu; exact r.pure fun T locs X eT t z => XS.lxor X.here r.1.1 rfl (hb r.1.2.1 hd) rfl z
theorem Rch.ishl {a : Int32} {b : Int32} {u : Int32} (r : Rch p l e R s m args below meth c Z y bc ml rt n0 T0 g0 k n h (mkF m pc L (.int b :: .int a :: S))) (hd : decode bc pc = .ok (.ishl, 1)) (hu : a <<< (b &&& 31) = u) (hp : pc + 1 = pc') : Rch p l e R s m args below meth c Z y bc ml rt n0 T0 g0 k n h (mkF m pc' L (.int u :: S)) := by
  subst hp hu; exact r.pure fun T locs X eT t z => XS.ishl X.here r.1.1 rfl (hb r.1.2.1 hd) rfl z
theorem Rch.ishr {a : Int32} {b : Int32} {u : Int32} (r : Rch p l e R s m args below meth c Z y bc ml rt n0 T0 g0 k n h (mkF m pc L (.int b :: .int a :: S))) (hd : decode bc pc = .ok (.ishr, 1)) (hu : a >>> (b &&& 31) = u) (hp : pc + 1 = pc') : Rch p l e R s m args below meth c Z y bc ml rt n0 T0 g0 k n h (mkF m pc' L (.int u :: S)) := by
  subst hp hu; exact r.pure fun T locs X eT t z => XS.ishr X.here r.1.1 rfl (hb r.1.2.1 hd) rfl z
theorem Rch.iushr {a : Int32} {b : Int32} {u : Int32} (r : Rch p l e R s m args below meth c Z y bc ml rt n0 T0 g0 k n h (mkF m pc L (.int b :: .int a :: S))) (hd : decode bc pc = .ok (.iushr, 1)) (hu : (a.toUInt32 >>> (b &&& 31).toUInt32).toInt32 = u) (hp : pc + 1 = pc') : Rch p l e R s m args below meth c Z y bc ml rt n0 T0 g0 k n h (mkF m pc' L (.int u :: S)) := by
  subst hp hu; exact r.pure fun T locs X eT t z => XS.iushr X.here r.1.1 rfl (hb r.1.2.1 hd) rfl z
theorem Rch.lcmp {a : Int64} {b : Int64} {u : Int32} (r : Rch p l e R s m args below meth c Z y bc ml rt n0 T0 g0 k n h (mkF m pc L (.long b :: .long a :: S))) (hd : decode bc pc = .ok (.lcmp, 1)) (hu : lcmpW a b = u) (hp : pc + 1 = pc') : Rch p l e R s m args below meth c Z y bc ml rt n0 T0 g0 k n h (mkF m pc' L (.int u :: S)) := by
  subst hp hu; exact r.pure fun T locs X eT t z => XS.lcmp X.here r.1.1 rfl (hb r.1.2.1 hd) rfl z
theorem Rch.idiv {a : Int32} {b : Int32} {u : Int32} (r : Rch p l e R s m args below meth c Z y bc ml rt n0 T0 g0 k n h (mkF m pc L (.int b :: .int a :: S))) (hd : decode bc pc = .ok (.idiv, 1)) (h0 : b ≠ 0) (hu : a / b = u) (hp : pc + 1 = pc') : Rch p l e R s m args below meth c Z y bc ml rt n0 T0 g0 k n h (mkF m pc' L (.int u :: S)) := by
  subst hp hu; exact r.pure fun T locs X eT t z => XS.idiv X.here r.1.1 rfl (hb r.1.2.1 hd) rfl h0 z
theorem Rch.irem {a : Int32} {b : Int32} {u : Int32} (r : Rch p l e R s m args below meth c Z y bc ml rt n0 T0 g0 k n h (mkF m pc L (.int b :: .int a :: S))) (hd : decode bc pc = .ok (.irem, 1)) (h0 : b ≠ 0) (hu : a % b = u) (hp : pc + 1 = pc') : Rch p l e R s m args below meth c Z y bc ml rt n0 T0 g0 k n h (mkF m pc' L (.int u :: S)) := by
  subst hp hu; exact r.pure fun T locs X eT t z => iremM X r.1.1 rfl (hb r.1.2.1 hd) rfl h0 z
theorem Rch.ineg {a : Int32} {u : Int32} (r : Rch p l e R s m args below meth c Z y bc ml rt n0 T0 g0 k n h (mkF m pc L (.int a :: S))) (hd : decode bc pc = .ok (.ineg, 1)) (hu : -a = u) (hp : pc + 1 = pc') : Rch p l e R s m args below meth c Z y bc ml rt n0 T0 g0 k n h (mkF m pc' L (.int u :: S)) := by
  subst hp hu; exact r.pure fun T locs X eT t z => XS.ineg X.here r.1.1 rfl (hb r.1.2.1 hd) rfl z
theorem Rch.lneg {a : Int64} {u : Int64} (r : Rch p l e R s m args below meth c Z y bc ml rt n0 T0 g0 k n h (mkF m pc L (.long a :: S))) (hd : decode bc pc = .ok (.lneg, 1)) (hu : -a = u) (hp : pc + 1 = pc') : Rch p l e R s m args below meth c Z y bc ml rt n0 T0 g0 k n h (mkF m pc' L (.long u :: S)) := by
  subst hp hu; exact r.pure fun T locs X eT t z => XS.lneg X.here r.1.1 rfl (hb r.1.2.1 hd) rfl z
theorem Rch.i2l {a : Int32} {u : Int64} (r : Rch p l e R s m args below meth c Z y bc ml rt n0 T0 g0 k n h (mkF m pc L (.int a :: S))) (hd : decode bc pc = .ok (.i2l, 1)) (hu : a.toInt64 = u) (hp : pc + 1 = pc') : Rch p l e R s m args below meth c Z y bc ml rt n0 T0 g0 k n h (mkF m pc' L (.long u :: S)) := by
  subst hp hu; exact r.pure fun T locs X eT t z => XS.i2l X.here r.1.1 rfl (hb r.1.2.1 hd) rfl z
theorem Rch.l2i {a : Int64} {u : Int32} (r : Rch p l e R s m args below meth c Z y bc ml rt n0 T0 g0 k n h (mkF m pc L (.long a :: S))) (hd : decode bc pc = .ok (.l2i, 1)) (hu : a.toInt32 = u) (hp : pc + 1 = pc') : Rch p l e R s m args below meth c Z y bc ml rt n0 T0 g0 k n h (mkF m pc' L (.int u :: S)) := by
  subst hp hu; exact r.pure fun T locs X eT t z => XS.l2i X.here r.1.1 rfl (hb r.1.2.1 hd) rfl z
theorem Rch.i2b {a : Int32} {u : Int32} (r : Rch p l e R s m args below meth c Z y bc ml rt n0 T0 g0 k n h (mkF m pc L (.int a :: S))) (hd : decode bc pc = .ok (.i2b, 1)) (hu : a.toInt8.toInt32 = u) (hp : pc + 1 = pc') : Rch p l e R s m args below meth c Z y bc ml rt n0 T0 g0 k n h (mkF m pc' L (.int u :: S)) := by
  subst hp hu; exact r.pure fun T locs X eT t z => XS.i2b X.here r.1.1 rfl (hb r.1.2.1 hd) rfl z
theorem Rch.i2s {a : Int32} {u : Int32} (r : Rch p l e R s m args below meth c Z y bc ml rt n0 T0 g0 k n h (mkF m pc L (.int a :: S))) (hd : decode bc pc = .ok (.i2s, 1)) (hu : a.toInt16.toInt32 = u) (hp : pc + 1 = pc') : Rch p l e R s m args below meth c Z y bc ml rt n0 T0 g0 k n h (mkF m pc' L (.int u :: S)) := by
  subst hp hu; exact r.pure fun T locs X eT t z => XS.i2s X.here r.1.1 rfl (hb r.1.2.1 hd) rfl z
theorem Rch.i2c {a : Int32} {u : Int32} (r : Rch p l e R s m args below meth c Z y bc ml rt n0 T0 g0 k n h (mkF m pc L (.int a :: S))) (hd : decode bc pc = .ok (.i2c, 1)) (hu : a.toUInt32.toUInt16.toUInt32.toInt32 = u) (hp : pc + 1 = pc') : Rch p l e R s m args below meth c Z y bc ml rt n0 T0 g0 k n h (mkF m pc' L (.int u :: S)) := by
  subst hp hu; exact r.pure fun T locs X eT t z => XS.i2c X.here r.1.1 rfl (hb r.1.2.1 hd) rfl z
theorem Rch.lshl {a : Int64} {b : Int32} {u : Int64} (r : Rch p l e R s m args below meth c Z y bc ml rt n0 T0 g0 k n h (mkF m pc L (.int b :: .long a :: S))) (hd : decode bc pc = .ok (.lshl, 1)) (hu : a <<< (b &&& 0x3f).toInt64 = u) (hp : pc + 1 = pc') : Rch p l e R s m args below meth c Z y bc ml rt n0 T0 g0 k n h (mkF m pc' L (.long u :: S)) := by
  subst hp hu; exact r.pure fun T locs X eT t z => XS.lshl X.here r.1.1 rfl (hb r.1.2.1 hd) rfl z
theorem Rch.lshr {a : Int64} {b : Int32} {u : Int64} (r : Rch p l e R s m args below meth c Z y bc ml rt n0 T0 g0 k n h (mkF m pc L (.int b :: .long a :: S))) (hd : decode bc pc = .ok (.lshr, 1)) (hu : a >>> (b &&& 0x3f).toInt64 = u) (hp : pc + 1 = pc') : Rch p l e R s m args below meth c Z y bc ml rt n0 T0 g0 k n h (mkF m pc' L (.long u :: S)) := by
  subst hp hu; exact r.pure fun T locs X eT t z => XS.lshr X.here r.1.1 rfl (hb r.1.2.1 hd) rfl z
theorem Rch.lushr {a : Int64} {b : Int32} {u : Int64} (r : Rch p l e R s m args below meth c Z y bc ml rt n0 T0 g0 k n h (mkF m pc L (.int b :: .long a :: S))) (hd : decode bc pc = .ok (.lushr, 1)) (hu : (a.toUInt64 >>> (b &&& 0x3f).toInt64.toUInt64).toInt64 = u) (hp : pc + 1 = pc') : Rch p l e R s m args below meth c Z y bc ml rt n0 T0 g0 k n h (mkF m pc' L (.long u :: S)) := by
  subst hp hu; exact r.pure fun T locs X eT t z => XS.lushr X.here r.1.1 rfl (hb r.1.2.1 hd) rfl z
theorem Rch.dup {v : Value} (r : Rch p l e R s m args below meth c Z y bc ml rt n0 T0 g0 k n h (mkF m pc L (v :: S))) (hd : decode bc pc = .ok (.dup, 1)) (hv : v.category = 1) (hp : pc + 1 = pc') : Rch p l e R s m args below meth c Z y bc ml rt n0 T0 g0 k n h (mkF m pc' L (v :: v :: S)) := by
  subst hp; exact r.pure fun T locs X eT t z => XS.dup X.here r.1.1 rfl (hb r.1.2.1 hd) rfl hv z
theorem Rch.dupx1 {v w : Value} (r : Rch p l e R s m args below meth c Z y bc ml rt n0 T0 g0 k n h (mkF m pc L (v :: w :: S))) (hd : decode bc pc = .ok (.dup_x1, 1)) (hv : v.category = 1) (hw : w.category = 1) (hp : pc + 1 = pc') : Rch p l e R s m args below meth c Z y bc ml rt n0 T0 g0 k n h (mkF m pc' L (v :: w :: v :: S)) := by
  subst hp; exact r.pure fun T locs X eT t z => XS.dupX1 X.here r.1.1 rfl (hb r.1.2.1 hd) rfl hv hw z
theorem Rch.dup2 {v w : Value} (r : Rch p l e R s m args below meth c Z y bc ml rt n0 T0 g0 k n h (mkF m pc L (v :: w :: S))) (hd : decode bc pc = .ok (.dup2, 1)) (hv : v.category = 1) (hw : w.category = 1) (hp : pc + 1 = pc') : Rch p l e R s m args below meth c Z y bc ml rt n0 T0 g0 k n h (mkF m pc' L (v :: w :: v :: w :: S)) := by
  subst hp
  refine r.pure fun T locs X eT t z => ?_
  have hx := r.1.1
  have hd' := hb r.1.2.1 hd
  jvm_step X.here [X.here.top, hx, hd', hv, hw]
  exact z
theorem Rch.dupx2 {v w u : Value} (r : Rch p l e R s m args below meth c Z y bc ml rt n0 T0 g0 k n h (mkF m pc L (v :: w :: u :: S))) (hd : decode bc pc = .ok (.dup_x2, 1)) (hv : v.category = 1) (hw : w.category = 1) (hu : u.category = 1) (hp : pc + 1 = pc') : Rch p l e R s m args below meth c Z y bc ml rt n0 T0 g0 k n h (mkF m pc' L (v :: w :: u :: v :: S)) := by
  subst hp
  refine r.pure fun T locs X eT t z => ?_
  have hx := r.1.1
  have hd' := hb r.1.2.1 hd
  jvm_step X.here [X.here.top, hx, hd', hv, hw, hu]
  exact z
theorem Rch.pop {v : Value} (r : Rch p l e R s m args below meth c Z y bc ml rt n0 T0 g0 k n h (mkF m pc L (v :: S))) (hd : decode bc pc = .ok (.pop, 1)) (hv : v.category = 1) (hp : pc + 1 = pc') : Rch p l e R s m args below meth c Z y bc ml rt n0 T0 g0 k n h (mkF m pc' L S) := by
  subst hp; exact r.pure fun T locs X eT t z => XS.pop X.here r.1.1 rfl (hb r.1.2.1 hd) rfl hv z
-- branches
theorem Rch.goto {o : Int} (r : Rch p l e R s m args below meth c Z y bc ml rt n0 T0 g0 k n h (mkF m pc L S)) (hd : decode bc pc = .ok (.goto o, 3)) (ho : 0 ≤ (pc : Int) + o) (hp : ((pc : Int) + o).toNat = pc') : Rch p l e R s m args below meth c Z y bc ml rt n0 T0 g0 k n h (mkF m pc' L S) :=
  r.pure fun T locs X eT t z => XS.goto X.here r.1.1 rfl (pc0 := pc) rfl (hb r.1.2.1 hd) ho hp z
theorem Rch.icT {cd : ClassFile.Cond} {x w : Int32} {o : Int} (r : Rch p l e R s m args below meth c Z y bc ml rt n0 T0 g0 k n h (mkF m pc L (.int w :: .int x :: S))) (hd : decode bc pc = .ok (.if_icmp cd o, 3)) (hc : if_icmp.holds cd x w = true) (ho : 0 ≤ (pc : Int) + o) (hp : ((pc : Int) + o).toNat = pc') : Rch p l e R s m args below meth c Z y bc ml rt n0 T0 g0 k n h (mkF m pc' L S) :=
  r.pure fun T locs X eT t z => XS.icmpYes X.here r.1.1 rfl (pc0 := pc) rfl (hb r.1.2.1 hd) rfl hc ho hp z
theorem Rch.icF {cd : ClassFile.Cond} {x w : Int32} {o : Int} (r : Rch p l e R s m args below meth c Z y bc ml rt n0 T0 g0 k n h (mkF m pc L (.int w :: .int x :: S))) (hd : decode bc pc = .ok (.if_icmp cd o, 3)) (hc : if_icmp.holds cd x w = false) (hp : pc + 3 = pc') : Rch p l e R s m args below meth c Z y bc ml rt n0 T0 g0 k n h (mkF m pc' L S) := by
  subst hp; exact r.pure fun T locs X eT t z => XS.icmpNo X.here r.1.1 rfl (hb r.1.2.1 hd) rfl hc z
theorem Rch.ifT {cd : ClassFile.Cond} {x : Int32} {o : Int} (r : Rch p l e R s m args below meth c Z y bc ml rt n0 T0 g0 k n h (mkF m pc L (.int x :: S))) (hd : decode bc pc = .ok (.ifCond cd o, 3)) (hc : if_icmp.holds cd x 0 = true) (ho : 0 ≤ (pc : Int) + o) (hp : ((pc : Int) + o).toNat = pc') : Rch p l e R s m args below meth c Z y bc ml rt n0 T0 g0 k n h (mkF m pc' L S) :=
  r.pure fun T locs X eT t z => XS.ifYes X.here r.1.1 rfl (pc0 := pc) rfl (hb r.1.2.1 hd) rfl ((if0 _ _).trans hc) ho hp z
theorem Rch.ifF {cd : ClassFile.Cond} {x : Int32} {o : Int} (r : Rch p l e R s m args below meth c Z y bc ml rt n0 T0 g0 k n h (mkF m pc L (.int x :: S))) (hd : decode bc pc = .ok (.ifCond cd o, 3)) (hc : if_icmp.holds cd x 0 = false) (hp : pc + 3 = pc') : Rch p l e R s m args below meth c Z y bc ml rt n0 T0 g0 k n h (mkF m pc' L S) := by
  subst hp; exact r.pure fun T locs X eT t z => XS.ifNo X.here r.1.1 rfl (hb r.1.2.1 hd) rfl ((if0 _ _).trans hc) z
theorem Rch.acmp {cd : ACond} {v w : Value} {o : Int} {same : Bool} (r : Rch p l e R s m args below meth c Z y bc ml rt n0 T0 g0 k n h (mkF m pc L (w :: v :: S))) (hd : decode bc pc = .ok (.if_acmp cd o, 3)) (hv : v.isRef = true) (hw : w.isRef = true) (hq : decide (v = w) = same) (ho : 0 ≤ (pc : Int) + o) (hp : pc' = if acV cd same = true then ((pc : Int) + o).toNat else pc + 3) : Rch p l e R s m args below meth c Z y bc ml rt n0 T0 g0 k n h (mkF m pc' L S) :=
  r.pure fun T locs X eT t z => Jvm.RoadKit.acmp X r.1.1 rfl hv hw (pc0 := pc) rfl (hb r.1.2.1 hd) rfl hq ho hp z
theorem Rch.nullT {o : Int} (r : Rch p l e R s m args below meth c Z y bc ml rt n0 T0 g0 k n h (mkF m pc L (.null :: S))) (hd : decode bc pc = .ok (.ifnull o, 3)) (ho : 0 ≤ (pc : Int) + o) (hp : ((pc : Int) + o).toNat = pc') : Rch p l e R s m args below meth c Z y bc ml rt n0 T0 g0 k n h (mkF m pc' L S) :=
  r.pure fun T locs X eT t z => XS.ifnullYes X.here r.1.1 rfl (pc0 := pc) rfl (hb r.1.2.1 hd) rfl ho hp z
theorem Rch.nullF {a : Addr} {o : Int} (r : Rch p l e R s m args below meth c Z y bc ml rt n0 T0 g0 k n h (mkF m pc L (.ref a :: S))) (hd : decode bc pc = .ok (.ifnull o, 3)) (hp : pc + 3 = pc') : Rch p l e R s m args below meth c Z y bc ml rt n0 T0 g0 k n h (mkF m pc' L S) := by
  subst hp; exact r.pure fun T locs X eT t z => XS.ifnullNo X.here r.1.1 rfl (hb r.1.2.1 hd) rfl z
theorem Rch.nnT {a : Addr} {o : Int} (r : Rch p l e R s m args below meth c Z y bc ml rt n0 T0 g0 k n h (mkF m pc L (.ref a :: S))) (hd : decode bc pc = .ok (.ifnonnull o, 3)) (ho : 0 ≤ (pc : Int) + o) (hp : ((pc : Int) + o).toNat = pc') : Rch p l e R s m args below meth c Z y bc ml rt n0 T0 g0 k n h (mkF m pc' L S) :=
  r.pure fun T locs X eT t z => XS.ifnonnullYes X.here r.1.1 rfl (pc0 := pc) rfl (hb r.1.2.1 hd) rfl ho hp z
theorem Rch.nnF {o : Int} (r : Rch p l e R s m args below meth c Z y bc ml rt n0 T0 g0 k n h (mkF m pc L (.null :: S))) (hd : decode bc pc = .ok (.ifnonnull o, 3)) (hp : pc + 3 = pc') : Rch p l e R s m args below meth c Z y bc ml rt n0 T0 g0 k n h (mkF m pc' L S) := by
  subst hp; exact r.pure fun T locs X eT t z => XS.ifnonnullNo X.here r.1.1 rfl (hb r.1.2.1 hd) rfl z
-- fields
theorem Rch.getF {R0 O nm d host : String} {idx : Nat} {a : Addr} {v : Value} (r : Rch p l e R s m args below meth c Z y bc ml rt n0 T0 g0 k n h (mkF m pc L (.ref a :: S))) (hd : decode bc pc = .ok (.getfield idx, 3)) (w : (Jvm.Cond.fieldLink y.cls idx R0 nm d).before a0 Z = true ∨ (Jvm.Cond.fieldLinkNest y.cls idx R0 nm d host).before a0 Z = true) (via : Via Z R0 O nm d) (F : Fld Z h a O nm d v) (hp : pc + 3 = pc') :
    Rch p l e R s m args below meth c Z y bc ml rt n0 T0 g0 k n h (mkF m pc' L (v :: S)) := by
  subst hp; exact r.keep fun T locs X eT => getF X r.1.1 r.1.2.2.2.2.1 r.1.2.2.2.1 w via eT F (g := mkF m pc L (.ref a :: S)) rfl rfl (hb r.1.2.1 hd)
theorem Rch.getS {R0 O nm d host : String} {idx : Nat} {v : Value} (r : Rch p l e R s m args below meth c Z y bc ml rt n0 T0 g0 k n h (mkF m pc L S)) (hd : decode bc pc = .ok (.getstatic idx, 3)) (w : (Jvm.Cond.fieldLink y.cls idx R0 nm d).before a0 Z = true ∨ (Jvm.Cond.fieldLinkNest y.cls idx R0 nm d host).before a0 Z = true) (via : Via Z R0 O nm d) (F : Sta Z h O nm d v) (hp : pc + 3 = pc') :
    Rch p l e R s m args below meth c Z y bc ml rt n0 T0 g0 k n h (mkF m pc' L (v :: S)) := by
  subst hp; exact r.keep fun T locs X eT => getS2 X r.1.1 r.1.2.2.2.2.1 r.1.2.2.2.1 w via eT F (g := mkF m pc L S) rfl (hb r.1.2.1 hd)
theorem Rch.putF {R0 O nm d host C : String} {idx kk : Nat} {ty : FieldType} {a : Addr} {v old : Value} (r : Rch p l e R s m args below meth c Z y bc ml rt n0 T0 g0 k n h (mkF m pc L (v :: .ref a :: S))) (hd : decode bc pc = .ok (.putfield idx, 3)) (w : (Jvm.Cond.fieldLink y.cls idx R0 nm d).before a0 Z = true ∨ (Jvm.Cond.fieldLinkNest y.cls idx R0 nm d host).before a0 Z = true) (via : Via Z R0 O nm d) (F : Fld Z h a O nm d old) (E : Exa Z h a C)
    (lw : (Jvm.Cond.lays C O nm d).before a0 Z = true ∨ ((Jvm.Cond.laysFinal C O nm d).before a0 Z = true ∧ y.cls = O ∧ y.name = "<init>")) (wi : (Jvm.Cond.instantiable C kk).before a0 Z = true) (hty : parseFieldDescriptor d = some ty) (hn : narrow ty v = v) (hf : fits ty v = true) (hN : n0 ≤ a) (hp : pc + 3 = pc') :
    ∃ h', Wr h h' a (Jvm.RoadKit.slotOf Z O nm d) v ∧ Rch p l e R s m args below meth c Z y bc ml rt n0 T0 g0 k n h' (mkF m pc' L S) := by
  subst hp
  obtain ⟨q, T, locs, X, eT, N, st⟩ := r
  obtain ⟨T', h', X', e', W, st'⟩ := putF X q.1 q.2.2.2.2.1 q.2.2.2.1 w via eT F E (lw.imp id fun z => ⟨z.1, z.2.1, q.2.2.2.2.2.2.2.trans z.2.2⟩) wi hty hn hf (g := mkF m pc L (v :: .ref a :: S)) rfl rfl (hb q.2.1 hd)
  exact ⟨h', W, q, T', _, X', e', Fr.snoc X' N hN, fun t z => st t (st' t z)⟩
theorem Rch.putFN {R0 O nm d C : String} {idx kk : Nat} {ty : FieldType} {a : Addr} {v v' old : Value} (r : Rch p l e R s m args below meth c Z y bc ml rt n0 T0 g0 k n h (mkF m pc L (v :: .ref a :: S))) (hd : decode bc pc = .ok (.putfield idx, 3)) (w : (Jvm.Cond.fieldLink y.cls idx R0 nm d).before a0 Z = true) (via : Via Z R0 O nm d) (F : Fld Z h a O nm d old) (E : Exa Z h a C)
    (lw : (Jvm.Cond.lays C O nm d).before a0 Z = true ∨ ((Jvm.Cond.laysFinal C O nm d).before a0 Z = true ∧ y.cls = O ∧ y.name = "<init>")) (wi : (Jvm.Cond.instantiable C kk).before a0 Z = true) (hty : parseFieldDescriptor d = some ty) (hn : narrow ty v = v') (hf : fits ty v' = true) (hN : n0 ≤ a) (hp : pc + 3 = pc') :
    ∃ h', Wr h h' a (Jvm.RoadKit.slotOf Z O nm d) v' ∧ Rch p l e R s m args below meth c Z y bc ml rt n0 T0 g0 k n h' (mkF m pc' L S) := by
  subst hp
  obtain ⟨q, T, locs, X, eT, N, st⟩ := r
  obtain ⟨T', h', X', e', W, st'⟩ := putFN X q.1 q.2.2.2.2.1 q.2.2.2.1 w via eT F E (lw.imp id fun z => ⟨z.1, z.2.1, q.2.2.2.2.2.2.2.trans z.2.2⟩) wi hty hn hf (g := mkF m pc L (v :: .ref a :: S)) rfl rfl (hb q.2.1 hd)
  exact ⟨h', W, q, T', _, X', e', Fr.snoc X' N hN, fun t z => st t (st' t z)⟩
-- objects and arrays
theorem Rch.newO {C : String} {idx i : Nat} (r : Rch p l e R s m args below meth c Z y bc ml rt n0 T0 g0 k n h (mkF m pc L S)) (hd : decode bc pc = .ok (.new idx, 3)) (w : (Jvm.Cond.classLink y.cls idx C).before a0 Z = true) (wi : (Jvm.Cond.instantiable C i).before a0 Z = true) (wz : (Jvm.Cond.initialized C).before a0 Z = true) {k' n' : Nat} (hk : k + 1 = k') (hn' : n + i = n') (hc : k' ≤ R.cells) (hl : n' ≤ R.slots) (hp : pc + 3 = pc') :
    ∃ h' a, a = h.size ∧ Ext h h' ∧ Exa Z h' a C ∧ (∀ {O nm d : String} {ty : FieldType}, Laid Z a0 C O nm d → parseFieldDescriptor d = some ty → Fld Z h' a O nm d (defaultValue ty)) ∧ Rch p l e R s m args below meth c Z y bc ml rt n0 T0 g0 k' n' h' (mkF m pc' L (.ref a :: S)) := by
  subst hp hk hn'
  obtain ⟨q, T, locs, X, eT, N, st⟩ := r
  obtain ⟨T', h', X', e', E, A, D, -, st'⟩ := newO X q.1 q.2.2.2.2.1 q.2.2.2.1 w wi wz eT (g := mkF m pc L S) rfl (hb q.2.1 hd) hc hl
  exact ⟨h', h.size, rfl, E, A, D, q, T', locs, X', e', N, fun t z => st t (st' t z)⟩
theorem Rch.newP {aty : ArrayType} {i : Int32} (r : Rch p l e R s m args below meth c Z y bc ml rt n0 T0 g0 k n h (mkF m pc L (.int i :: S))) (hd : decode bc pc = .ok (.newarray aty, 2)) (w : (Jvm.Cond.arrayClass (newarray.typeOf aty)).before a0 Z = true) (hn : ¬ i < 0) {cap : Nat} (hcap : i.toNatClampNeg ≤ cap) (hbg : cap * 8 ≤ 536870912) {k' n' : Nat} (hk : k + 1 = k') (hn' : n + cap = n') (hc : k' ≤ R.cells) (hl : n' ≤ R.slots) (hp : pc + 2 = pc') :
    ∃ h' a cA, a = h.size ∧ Ext h h' ∧ Arv Z h' a cA (newarray.typeOf aty) i [] (defaultValue (newarray.typeOf aty)) ∧ Rch p l e R s m args below meth c Z y bc ml rt n0 T0 g0 k' n' h' (mkF m pc' L (.ref a :: S)) := by
  subst hp hk hn'
  obtain ⟨q, T, locs, X, eT, N, st⟩ := r
  obtain ⟨T', h', cA, X', e', E, A, st'⟩ := newP X q.1 q.2.2.2.2.1 w eT (g := mkF m pc L (.int i :: S)) rfl (hb q.2.1 hd) rfl hn hcap hbg hc hl
  exact ⟨h', h.size, cA, rfl, E, Arv.new A hn, q, T', locs, X', e', N, fun t z => st t (st' t z)⟩
theorem Rch.newR {C : String} {idx : Nat} {i : Int32} (r : Rch p l e R s m args below meth c Z y bc ml rt n0 T0 g0 k n h (mkF m pc L (.int i :: S))) (hd : decode bc pc = .ok (.anewarray idx, 3)) (w1 : (Jvm.Cond.classLink y.cls idx C).before a0 Z = true) (w2 : (Jvm.Cond.arrayOver (.object C)).before a0 Z = true) (hn : ¬ i < 0) {cap : Nat} (hcap : i.toNatClampNeg ≤ cap) (hbg : cap * 8 ≤ 536870912) {k' n' : Nat} (hk : k + 1 = k') (hn' : n + cap = n') (hc : k' ≤ R.cells) (hl : n' ≤ R.slots) (hp : pc + 3 = pc') :
    ∃ h' a cA, a = h.size ∧ Ext h h' ∧ Ovr Z cA C ∧ Arv Z h' a cA (.object C) i [] .null ∧ Rch p l e R s m args below meth c Z y bc ml rt n0 T0 g0 k' n' h' (mkF m pc' L (.ref a :: S)) := by
  subst hp hk hn'
  obtain ⟨q, T, locs, X, eT, N, st⟩ := r
  obtain ⟨T', h', cA, X', e', E, A, O, st'⟩ := newR X q.1 q.2.2.2.2.1 q.2.2.2.1 w1 w2 eT (g := mkF m pc L (.int i :: S)) rfl (hb q.2.1 hd) rfl hn hcap hbg hc hl
  exact ⟨h', h.size, cA, rfl, E, O, Arv.new A hn, q, T', locs, X', e', N, fun t z => st t (st' t z)⟩
theorem inbI {c : Cell} {z j : Int32} (S : c.slots.size = z.toNatClampNeg) (h1 : ¬ j < 0) (h2 : j < z) : ¬ (j < 0 ∨ c.slots.size ≤ j.toNatClampNeg) := inb_of S ⟨h1, h2⟩
theorem Rch.stI {a : Addr} {kc : ClassId} {z j : Int32} {x : Int32} {vs : List Value} {dv : Value} (r : Rch p l e R s m args below meth c Z y bc ml rt n0 T0 g0 k n h (mkF m pc L (.int x :: .int j :: .ref a :: S))) (hd : decode bc pc = .ok (.iastore, 1)) (V : Arv Z h a kc .int z vs dv) (h1 : ¬ j < 0) (h2 : j < z) (h3 : j.toNatClampNeg < vs.length) (hN : n0 ≤ a) (hp : pc + 1 = pc') :
    ∃ h', Wr h h' a j.toNatClampNeg (.int x) ∧ Arv Z h' a kc .int z (vs.set j.toNatClampNeg (.int x)) dv ∧ Rch p l e R s m args below meth c Z y bc ml rt n0 T0 g0 k n h' (mkF m pc' L S) := by
  subst hp
  obtain ⟨q, T, locs, X, eT, N, st⟩ := r
  obtain ⟨cl, A, q1, S1, q3, H, G⟩ := V
  obtain ⟨T', h', X', e', W, st'⟩ := stI X q.1 q.2.2.2.2.1 eT A (j := j) (inbI S1 h1 h2) (g := mkF m pc L (.int x :: .int j :: .ref a :: S)) rfl rfl (hb q.2.1 hd)
  exact ⟨h', W, Arv.set A q1 S1 q3 H G rfl W _ rfl h3, q, T', _, X', e', Fr.snoc X' N hN, fun t z => st t (st' t z)⟩
theorem Rch.stB {a : Addr} {kc : ClassId} {z j : Int32} {x : Int32} {vs : List Value} {dv : Value} (r : Rch p l e R s m args below meth c Z y bc ml rt n0 T0 g0 k n h (mkF m pc L (.int x :: .int j :: .ref a :: S))) (hd : decode bc pc = .ok (.bastore, 1)) (V : Arv Z h a kc .byte z vs dv) (h1 : ¬ j < 0) (h2 : j < z) (h3 : j.toNatClampNeg < vs.length) (hN : n0 ≤ a) (hp : pc + 1 = pc') :
    ∃ h', Wr h h' a j.toNatClampNeg (.int (nar .byte x)) ∧ Arv Z h' a kc .byte z (vs.set j.toNatClampNeg (.int (nar .byte x))) dv ∧ Rch p l e R s m args below meth c Z y bc ml rt n0 T0 g0 k n h' (mkF m pc' L S) := by
  subst hp
  obtain ⟨q, T, locs, X, eT, N, st⟩ := r
  obtain ⟨cl, A, q1, S1, q3, H, G⟩ := V
  obtain ⟨T', h', X', e', W, st'⟩ := stB X q.1 q.2.2.2.2.1 eT A (j := j) (inbI S1 h1 h2) (g := mkF m pc L (.int x :: .int j :: .ref a :: S)) rfl rfl (hb q.2.1 hd)
  exact ⟨h', W, Arv.set A q1 S1 q3 H G (fits_nar_byte _) W _ rfl h3, q, T', _, X', e', Fr.snoc X' N hN, fun t z => st t (st' t z)⟩
theorem Rch.stC {a : Addr} {kc : ClassId} {z j : Int32} {x : Int32} {vs : List Value} {dv : Value} (r : Rch p l e R s m args below meth c Z y bc ml rt n0 T0 g0 k n h (mkF m pc L (.int x :: .int j :: .ref a :: S))) (hd : decode bc pc = .ok (.castore, 1)) (V : Arv Z h a kc .char z vs dv) (h1 : ¬ j < 0) (h2 : j < z) (h3 : j.toNatClampNeg < vs.length) (hN : n0 ≤ a) (hp : pc + 1 = pc') :
    ∃ h', Wr h h' a j.toNatClampNeg (.int (nar .char x)) ∧ Arv Z h' a kc .char z (vs.set j.toNatClampNeg (.int (nar .char x))) dv ∧ Rch p l e R s m args below meth c Z y bc ml rt n0 T0 g0 k n h' (mkF m pc' L S) := by
  subst hp
  obtain ⟨q, T, locs, X, eT, N, st⟩ := r
  obtain ⟨cl, A, q1, S1, q3, H, G⟩ := V
  obtain ⟨T', h', X', e', W, st'⟩ := stC X q.1 q.2.2.2.2.1 eT A (j := j) (inbI S1 h1 h2) (g := mkF m pc L (.int x :: .int j :: .ref a :: S)) rfl rfl (hb q.2.1 hd)
  exact ⟨h', W, Arv.set A q1 S1 q3 H G (fits_nar_char _) W _ rfl h3, q, T', _, X', e', Fr.snoc X' N hN, fun t z => st t (st' t z)⟩
theorem Rch.stZ {a : Addr} {kc : ClassId} {z j : Int32} {x : Int32} {vs : List Value} {dv : Value} (r : Rch p l e R s m args below meth c Z y bc ml rt n0 T0 g0 k n h (mkF m pc L (.int x :: .int j :: .ref a :: S))) (hd : decode bc pc = .ok (.bastore, 1)) (V : Arv Z h a kc .boolean z vs dv) (h1 : ¬ j < 0) (h2 : j < z) (h3 : j.toNatClampNeg < vs.length) (hN : n0 ≤ a) (hp : pc + 1 = pc') :
    ∃ h', Wr h h' a j.toNatClampNeg (.int (nar .boolean x)) ∧ Arv Z h' a kc .boolean z (vs.set j.toNatClampNeg (.int (nar .boolean x))) dv ∧ Rch p l e R s m args below meth c Z y bc ml rt n0 T0 g0 k n h' (mkF m pc' L S) := by
  subst hp
  obtain ⟨q, T, locs, X, eT, N, st⟩ := r
  obtain ⟨cl, A, q1, S1, q3, H, G⟩ := V
  obtain ⟨T', h', X', e', W, st'⟩ := stZ X q.1 q.2.2.2.2.1 eT A (j := j) (inbI S1 h1 h2) (g := mkF m pc L (.int x :: .int j :: .ref a :: S)) rfl rfl (hb q.2.1 hd)
  exact ⟨h', W, Arv.set A q1 S1 q3 H G (fits_nar_bool _) W _ rfl h3, q, T', _, X', e', Fr.snoc X' N hN, fun t z => st t (st' t z)⟩
theorem Rch.stJ {a : Addr} {kc : ClassId} {z j : Int32} {x : Int64} {vs : List Value} {dv : Value} (r : Rch p l e R s m args below meth c Z y bc ml rt n0 T0 g0 k n h (mkF m pc L (.long x :: .int j :: .ref a :: S))) (hd : decode bc pc = .ok (.lastore, 1)) (V : Arv Z h a kc .long z vs dv) (h1 : ¬ j < 0) (h2 : j < z) (h3 : j.toNatClampNeg < vs.length) (hN : n0 ≤ a) (hp : pc + 1 = pc') :
    ∃ h', Wr h h' a j.toNatClampNeg (.long x) ∧ Arv Z h' a kc .long z (vs.set j.toNatClampNeg (.long x)) dv ∧ Rch p l e R s m args below meth c Z y bc ml rt n0 T0 g0 k n h' (mkF m pc' L S) := by
  subst hp
  obtain ⟨q, T, locs, X, eT, N, st⟩ := r
  obtain ⟨cl, A, q1, S1, q3, H, G⟩ := V
  obtain ⟨T', h', X', e', W, st'⟩ := stJ X q.1 q.2.2.2.2.1 eT A (j := j) (inbI S1 h1 h2) (g := mkF m pc L (.long x :: .int j :: .ref a :: S)) rfl rfl (hb q.2.1 hd)
  exact ⟨h', W, Arv.set A q1 S1 q3 H G rfl W _ rfl h3, q, T', _, X', e', Fr.snoc X' N hN, fun t z => st t (st' t z)⟩
theorem Rch.stR {C : String} {a : Addr} {kc : ClassId} {z j : Int32} {v : Value} {vs : List Value} {dv : Value} (r : Rch p l e R s m args below meth c Z y bc ml rt n0 T0 g0 k n h (mkF m pc L (v :: .int j :: .ref a :: S))) (hd : decode bc pc = .ok (.aastore, 1)) (V : Arv Z h a kc (.object C) z vs dv) (h1 : ¬ j < 0) (h2 : j < z) (h3 : j.toNatClampNeg < vs.length) (hs : Sto Z h a v) (hv : v.isRef = true) (hN : n0 ≤ a) (hp : pc + 1 = pc') :
    ∃ h', Wr h h' a j.toNatClampNeg v ∧ Arv Z h' a kc (.object C) z (vs.set j.toNatClampNeg v) dv ∧ Rch p l e R s m args below meth c Z y bc ml rt n0 T0 g0 k n h' (mkF m pc' L S) := by
  subst hp
  obtain ⟨q, T, locs, X, eT, N, st⟩ := r
  obtain ⟨cl, A, q1, S1, q3, H, G⟩ := V
  obtain ⟨T', h', X', e', W, st'⟩ := stR X q.1 q.2.2.2.2.1 eT A (j := j) (inbI S1 h1 h2) rfl hs (g := mkF m pc L (v :: .int j :: .ref a :: S)) rfl rfl (hb q.2.1 hd)
  have hf : fits (.object C) v = true := by cases v <;> first | rfl | (cases hv; done)
  exact ⟨h', W, Arv.set A q1 S1 q3 H G hf W _ rfl h3, q, T', _, X', e', Fr.snoc X' N hN, fun t z => st t (st' t z)⟩
theorem Rch.ldI {a : Addr} {kc : ClassId} {z j : Int32} {vs : List Value} {dv : Value} (v : Value) (r : Rch p l e R s m args below meth c Z y bc ml rt n0 T0 g0 k n h (mkF m pc L (.int j :: .ref a :: S))) (hd : decode bc pc = .ok (.iaload, 1)) (V : Arv Z h a kc .int z vs dv) (h1 : ¬ j < 0) (h2 : j < z) (hv : vs.getD j.toNatClampNeg dv = v) (hp : pc + 1 = pc') :
    Rch p l e R s m args below meth c Z y bc ml rt n0 T0 g0 k n h (mkF m pc' L (v :: S)) := by
  subst hp
  obtain ⟨cl, A, q1, S1, q3, H, G⟩ := V
  exact r.pure fun T locs X eT t w => X.iaload r.1.1 (j := j) (v := v) (by rw [eT]; exact A.1) (State.isArrayOf_alike r.1.2.2.2.2.1.alike A.2.1) A.2.2 (inbI S1 h1 h2) (Has.at H (inbI S1 h1 h2) hv) (g := mkF m pc L (.int j :: .ref a :: S)) rfl rfl (hb r.1.2.1 hd) _ w
theorem Rch.ldJ {a : Addr} {kc : ClassId} {z j : Int32} {vs : List Value} {dv : Value} (v : Value) (r : Rch p l e R s m args below meth c Z y bc ml rt n0 T0 g0 k n h (mkF m pc L (.int j :: .ref a :: S))) (hd : decode bc pc = .ok (.laload, 1)) (V : Arv Z h a kc .long z vs dv) (h1 : ¬ j < 0) (h2 : j < z) (hv : vs.getD j.toNatClampNeg dv = v) (hp : pc + 1 = pc') :
    Rch p l e R s m args below meth c Z y bc ml rt n0 T0 g0 k n h (mkF m pc' L (v :: S)) := by
  subst hp
  obtain ⟨cl, A, q1, S1, q3, H, G⟩ := V
  exact r.pure fun T locs X eT t w => X.laload r.1.1 (j := j) (v := v) (by rw [eT]; exact A.1) (State.isArrayOf_alike r.1.2.2.2.2.1.alike A.2.1) A.2.2 (inbI S1 h1 h2) (Has.at H (inbI S1 h1 h2) hv) (g := mkF m pc L (.int j :: .ref a :: S)) rfl rfl (hb r.1.2.1 hd) _ w
theorem Rch.ldB {a : Addr} {kc : ClassId} {z j : Int32} {vs : List Value} {dv : Value} (v : Value) (r : Rch p l e R s m args below meth c Z y bc ml rt n0 T0 g0 k n h (mkF m pc L (.int j :: .ref a :: S))) (hd : decode bc pc = .ok (.baload, 1)) (V : Arv Z h a kc .byte z vs dv) (h1 : ¬ j < 0) (h2 : j < z) (hv : vs.getD j.toNatClampNeg dv = v) (hp : pc + 1 = pc') :
    Rch p l e R s m args below meth c Z y bc ml rt n0 T0 g0 k n h (mkF m pc' L (v :: S)) := by
  subst hp
  obtain ⟨cl, A, q1, S1, q3, H, G⟩ := V
  exact r.pure fun T locs X eT t w => X.baloadBytes r.1.1 (j := j) (v := v) (by rw [eT]; exact A.1) (State.isArrayOf_alike r.1.2.2.2.2.1.alike A.2.1) A.2.2 (inbI S1 h1 h2) (Has.at H (inbI S1 h1 h2) hv) (g := mkF m pc L (.int j :: .ref a :: S)) rfl rfl (hb r.1.2.1 hd) _ w
theorem Rch.ldC {a : Addr} {kc : ClassId} {z j : Int32} {vs : List Value} {dv : Value} (v : Value) (r : Rch p l e R s m args below meth c Z y bc ml rt n0 T0 g0 k n h (mkF m pc L (.int j :: .ref a :: S))) (hd : decode bc pc = .ok (.caload, 1)) (V : Arv Z h a kc .char z vs dv) (h1 : ¬ j < 0) (h2 : j < z) (hv : vs.getD j.toNatClampNeg dv = v) (hp : pc + 1 = pc') :
    Rch p l e R s m args below meth c Z y bc ml rt n0 T0 g0 k n h (mkF m pc' L (v :: S)) := by
  subst hp
  obtain ⟨cl, A, q1, S1, q3, H, G⟩ := V
  exact r.pure fun T locs X eT t w => X.caload r.1.1 (j := j) (v := v) (by rw [eT]; exact A.1) (State.isArrayOf_alike r.1.2.2.2.2.1.alike A.2.1) A.2.2 (inbI S1 h1 h2) (Has.at H (inbI S1 h1 h2) hv) (g := mkF m pc L (.int j :: .ref a :: S)) rfl rfl (hb r.1.2.1 hd) _ w
theorem Rch.ldR {ty : FieldType} {a : Addr} {kc : ClassId} {z j : Int32} {vs : List Value} {dv : Value} (v : Value) (r : Rch p l e R s m args below meth c Z y bc ml rt n0 T0 g0 k n h (mkF m pc L (.int j :: .ref a :: S))) (hd : decode bc pc = .ok (.aaload, 1)) (V : Arv Z h a kc ty z vs dv) (hty : ty.isReference = true) (h1 : ¬ j < 0) (h2 : j < z) (hv : vs.getD j.toNatClampNeg dv = v) (hp : pc + 1 = pc') :
    Rch p l e R s m args below meth c Z y bc ml rt n0 T0 g0 k n h (mkF m pc' L (v :: S)) := by
  subst hp
  obtain ⟨cl, A, q1, S1, q3, H, G⟩ := V
  exact r.pure fun T locs X eT t w => X.aaload r.1.1 (j := j) (v := v) (by rw [eT]; exact A.1) (State.isArrayOf_alike r.1.2.2.2.2.1.alike A.2.1) hty A.2.2 (inbI S1 h1 h2) (Has.at H (inbI S1 h1 h2) hv) (g := mkF m pc L (.int j :: .ref a :: S)) rfl rfl (hb r.1.2.1 hd) _ w
theorem Rch.ldI0 {a : Addr} {kc : ClassId} {z j : Int32} {vs : List Value} {dv : Value} (r : Rch p l e R s m args below meth c Z y bc ml rt n0 T0 g0 k n h (mkF m pc L (.int j :: .ref a :: S))) (hd : decode bc pc = .ok (.iaload, 1)) (V : Arv Z h a kc .int z vs dv) (h1 : ¬ j < 0) (h2 : j < z) (hp : pc + 1 = pc') :
    ∃ x : Int32, vs.getD j.toNatClampNeg dv = .int x ∧ Rch p l e R s m args below meth c Z y bc ml rt n0 T0 g0 k n h (mkF m pc' L (.int x :: S)) := by
  have V0 := V
  obtain ⟨cl, A, q1, S1, q3, H, G⟩ := V0
  have hlt := Nat.lt_of_not_le fun q => inbI S1 h1 h2 (Or.inr q)
  obtain ⟨x, hx⟩ := fit_I (G _ hlt) (Or.inl rfl)
  exact ⟨x, hx, Rch.ldI (.int x) r hd V h1 h2 hx hp⟩
theorem Rch.stI0 {a : Addr} {kc : ClassId} {z j x : Int32} {vs : List Value} {dv : Value} (r : Rch p l e R s m args below meth c Z y bc ml rt n0 T0 g0 k n h (mkF m pc L (.int x :: .int j :: .ref a :: S))) (hd : decode bc pc = .ok (.iastore, 1)) (V : Arv Z h a kc .int z vs dv) (h1 : ¬ j < 0) (h2 : j < z) (hN : n0 ≤ a) (hp : pc + 1 = pc') :
    ∃ h' vs', Wr h h' a j.toNatClampNeg (.int x) ∧ Arv Z h' a kc .int z vs' dv ∧ Rch p l e R s m args below meth c Z y bc ml rt n0 T0 g0 k n h' (mkF m pc' L S) := by
  obtain ⟨h', W, V', r'⟩ := Rch.stI r hd (V.pad (pad_rep vs dv (j.toNatClampNeg + 1))) h1 h2 (by simp; omega) hN hp
  exact ⟨h', _, W, V', r'⟩
theorem Rch.alen {ty : FieldType} {a : Addr} {kc : ClassId} {z : Int32} {vs : List Value} {dv : Value} (r : Rch p l e R s m args below meth c Z y bc ml rt n0 T0 g0 k n h (mkF m pc L (.ref a :: S))) (hd : decode bc pc = .ok (.arraylength, 1)) (V : Arv Z h a kc ty z vs dv) (hp : pc + 1 = pc') :
    Rch p l e R s m args below meth c Z y bc ml rt n0 T0 g0 k n h (mkF m pc' L (.int z :: S)) := by
  subst hp
  obtain ⟨cl, A, -, S1, S2, -, -⟩ := V
  refine r.pure fun T locs X eT t w => X.arraylength r.1.1 (by rw [eT]; exact A.1) (State.isArrayOf_alike r.1.2.2.2.2.1.alike A.2.1) (g := mkF m pc L (.ref a :: S)) rfl rfl (hb r.1.2.1 hd) _ ?_
  rw [len_of S1 S2]
  exact w
-- returns
theorem Rch.retZ {z : Int32} {t : FieldType} (r : Rch p l e R s m args below meth c Z y bc ml rt n0 T0 g0 k n h (mkF m pc L (.int z :: S))) (hd : decode bc pc = .ok (.ireturn, 1)) (hrt : rt = some t) (ht : t = .boolean ∨ t = .byte ∨ t = .char ∨ t = .short) (w : Int32) (hw : nar t z = w) (hk : k ≤ R.cells) (hn : n ≤ R.slots) : Don p l e R s m args below meth c rt n0 T0 g0 (some (.int w)) h := by
  subst hw
  obtain ⟨q, T, locs, X, eT, N, st⟩ := r
  refine ⟨T, locs, k, n, X, hk, hn, eT, N, q.2.2.2.2.2.2.1, (fun z => ?_), fun fs hl => st _ (retN X q.1 (t := t) (q.2.2.2.2.2.1.trans hrt) ht (hb q.2.1 hd) hl)⟩
  rw [q.2.2.2.2.2.1, hrt] at z; cases z
theorem Rch.retI {z : Int32} (r : Rch p l e R s m args below meth c Z y bc ml rt n0 T0 g0 k n h (mkF m pc L (.int z :: S))) (hd : decode bc pc = .ok (.ireturn, 1)) (hrt : rt = some .int) (hk : k ≤ R.cells) (hn : n ≤ R.slots) : Don p l e R s m args below meth c rt n0 T0 g0 (some (.int z)) h := by
  obtain ⟨q, T, locs, X, eT, N, st⟩ := r
  refine ⟨T, locs, k, n, X, hk, hn, eT, N, q.2.2.2.2.2.2.1, (fun z => ?_), fun fs hl => st _ (retOut X q.1 (t := .int) (q.2.2.2.2.2.1.trans hrt) rfl (Or.inl ⟨rfl, Or.inl rfl, _, rfl⟩) (hb q.2.1 hd) hl)⟩
  rw [q.2.2.2.2.2.1, hrt] at z; cases z
theorem Rch.retJ {z : Int64} (r : Rch p l e R s m args below meth c Z y bc ml rt n0 T0 g0 k n h (mkF m pc L (.long z :: S))) (hd : decode bc pc = .ok (.lreturn, 1)) (hrt : rt = some .long) (hk : k ≤ R.cells) (hn : n ≤ R.slots) : Don p l e R s m args below meth c rt n0 T0 g0 (some (.long z)) h := by
  obtain ⟨q, T, locs, X, eT, N, st⟩ := r
  refine ⟨T, locs, k, n, X, hk, hn, eT, N, q.2.2.2.2.2.2.1, (fun z => ?_), fun fs hl => st _ (retOut X q.1 (t := .long) (q.2.2.2.2.2.1.trans hrt) rfl (Or.inr (Or.inl ⟨rfl, rfl, _, rfl⟩)) (hb q.2.1 hd) hl)⟩
  rw [q.2.2.2.2.2.1, hrt] at z; cases z
theorem Rch.retA {v : Value} {t : FieldType} (r : Rch p l e R s m args below meth c Z y bc ml rt n0 T0 g0 k n h (mkF m pc L (v :: S))) (hd : decode bc pc = .ok (.areturn, 1)) (hrt : rt = some t) (ht : t.isReference = true) (hv : v.isRef = true) (hk : k ≤ R.cells) (hn : n ≤ R.slots) : Don p l e R s m args below meth c rt n0 T0 g0 (some v) h := by
  obtain ⟨q, T, locs, X, eT, N, st⟩ := r
  have hnar : narrow t v = v := by cases v <;> first | (cases hv; done) | (cases t <;> rfl)
  refine ⟨T, locs, k, n, X, hk, hn, eT, N, q.2.2.2.2.2.2.1, (fun z => ?_), fun fs hl => st _ (retOut X q.1 (t := t) (q.2.2.2.2.2.1.trans hrt) hnar (Or.inr (Or.inr (Or.inr (Or.inr ⟨rfl, ht, hv⟩)))) (hb q.2.1 hd) hl)⟩
  rw [q.2.2.2.2.2.1, hrt] at z; cases z
theorem Rch.retV (r : Rch p l e R s m args below meth c Z y bc ml rt n0 T0 g0 k n h (mkF m pc L [])) (hd : decode bc pc = .ok (.return_, 1)) (hrt : rt = none) (hk : k ≤ R.cells) (hn : n ≤ R.slots) : Don p l e R s m args below meth c rt n0 T0 g0 none h := by
  obtain ⟨q, T, locs, X, eT, N, st⟩ := r
  exact ⟨T, locs, k, n, X, hk, hn, eT, N, q.2.2.2.2.2.2.1, fun _ => rfl, fun fs hl => st _ (X.returnOut q.1 (q.2.2.2.2.2.1.trans hrt) (hb q.2.1 hd) hl)⟩
-- entering a body
theorem ent {rm : Room} {as : Array Value} {h0 : Heap} {Q : Option Value → Heap → Prop} {L0 : Array Slot} (hpl : plainFor y = true) (hL : ∀ m, entryFrame m as ml = mkF m 0 L0 [])
    (H : ∀ p e s m below meth c T0, Rch p l e rm s m as below meth c Z y bc ml rt n0 T0 (mkF m 0 L0 []) 0 0 h0 (mkF m 0 L0 []) → ∃ v h, Don p l e rm s m as below meth c rt n0 T0 (mkF m 0 L0 []) v h ∧ Q v h) : Ctr l Z y bc ml rt rm as h0 n0 Q := by
  intro ws
  refine MetFree.of_bodySF hpl hisR ?_
  intro p e s m args below meth c s₁ Bd hml0 hP hK
  obtain ⟨rfl, hZ, hh⟩ := hP
  have hown : s.vm.findClass y.cls = some m.cls := findClass_of_methodNamed Bd.named
  have hnm := (name_of_methodNamed Bd.named Bd.method).1
  have X0 : Stand p l e rm s m args below meth c s₁ [] 0 0 := Stand.of_body Bd
  have e0 : s₁.heap = h0 := by rw [← hh, Bd.state]; rfl
  obtain ⟨v, h, ⟨T, locs, k, n, X, hk, hn, eT, N, hlk, hv, st⟩, hq⟩ := H p e s m below meth c s₁ ⟨⟨Bd.exec, Bd.bytes, hml0, hown, hZ, Bd.returns, Bd.notSynchronized, hnm⟩, s₁, [], X0, e0, Fr.nil n0, fun _ z => z⟩
  obtain ⟨fs, hr, hrun, hended, hW, hsame⟩ := X.leave (v := v) hv hlk
  refine ⟨_, _, castTop (hL m) (st fs hr), hrun, hended, v, locs, rfl, ⟨N, ?_⟩, ⟨_, rfl⟩, hW, hsame.mono hk hn⟩
  show Q v T.heap
  rw [eT]; exact hq
-- calls
theorem Rch.callS {z : MethodName} {bc' : ByteArray} {ml' : Nat} {rt' : Option FieldType} {rm : Room} {idx : Nat} {ps : List FieldType} {ro : Option FieldType} {Q : Option Value → Heap → Prop} (argsL : List Value) {rest : List Value} (W : Nat)
    (r : Rch p l e R s m args below meth c Z y bc ml rt n0 T0 g0 k n h (mkF m pc L S)) (hd : decode bc pc = .ok (.invokestatic idx, 3)) (w1 : (Jvm.Cond.methodLink y.cls idx z).before a0 Z = true) (w2 : (Jvm.Cond.static z).before a0 Z = true) (w3 : (Jvm.Cond.initialized z.cls).before a0 Z = true) (w4 : (Jvm.Cond.code z bc' ml' rt').before a0 Z = true)
    (hy : z.cls ≠ "java/lang/invoke/MethodHandle" ∧ z.cls ≠ "java/lang/invoke/VarHandle") (C : Ctr l Z z bc' ml' rt' rm argsL.toArray h n0 Q) (pd : parseMethodDescriptor z.desc = some ⟨ps, ro⟩) (hlen : argsL.length = ps.length) (hS : S = argsL.reverse ++ rest) (hml : L.size = ml)
    (hW : (rest.map fun v => v.category).sum ≤ W) (hf : rm.frames + 1 ≤ R.frames) (hlo : W + (ml' + 11) + rm.locals ≤ R.locals) {k' n' : Nat} (hk : k + rm.cells = k') (hn' : n + rm.slots = n') (hc : k' ≤ R.cells) (hl : n' ≤ R.slots) (hp : pc + 3 = pc') :
    ∃ v h', Q v h' ∧ Rch p l e R s m args below meth c Z y bc ml rt n0 T0 g0 k' n' h' (mkF m pc' L (v.toList ++ rest)) := by
  subst hp hS hk hn'
  obtain ⟨q, T, locs, X, eT, N, st⟩ := r
  obtain ⟨v, _, ⟨T', L', kk', nn'⟩, -, X', ⟨Lc, hQ, l1, y1, z1⟩, st'⟩ := Jvm.LawKit.callS X q.1 (y := z) q.2.2.2.1 (mvT q.2.2.2.2.1 w1) (mvT q.2.2.2.2.1 w2) (mvT q.2.2.2.2.1 w3) (mvT q.2.2.2.2.1 w4) hy (backOf (W := W) (Q := fun v h L => Fr n0 L ∧ Q v h) (C []) q.2.2.2.2.1 w4 w3 hf hlo) (g := mkF m pc L (argsL.reverse ++ rest)) rfl (by rw [q.2.2.1]; exact hml) (argsL := argsL) (rest := rest) (lenOf pd hlen) rfl (by simpa using hW) (hb q.2.1 hd) (fun _ _ => ⟨rfl, eT, hc, hl⟩)
  dsimp only [Pt.U, Pt.locs, Pt.cells, Pt.slots] at X' l1 y1 z1 st' hQ
  subst l1 y1 z1
  exact ⟨v, T'.heap, hQ.2, q, T', _, X', rfl, N.app hQ.1, fun t u => st t (st' t u)⟩
theorem Rch.callC {z : MethodName} {bc' : ByteArray} {ml' : Nat} {rm : Room} {idx : Nat} {ps : List FieldType} {ro : Option FieldType} {Q : Option Value → Heap → Prop} {a : Addr} (argsL : List Value) {rest : List Value} (W : Nat)
    (r : Rch p l e R s m args below meth c Z y bc ml rt n0 T0 g0 k n h (mkF m pc L S)) (hd : decode bc pc = .ok (.invokespecial idx, 3)) (hi : z.name = "<init>") (w1 : (Jvm.Cond.methodLink y.cls idx z).before a0 Z = true) (w2 : (Jvm.Cond.instanceMethod z).before a0 Z = true) (w3 : (Jvm.Cond.initialized z.cls).before a0 Z = true) (w4 : (Jvm.Cond.code z bc' ml' none).before a0 Z = true)
    (hy : z.cls ≠ "java/lang/invoke/MethodHandle" ∧ z.cls ≠ "java/lang/invoke/VarHandle") (C : Ctr l Z z bc' ml' none rm (.ref a :: argsL).toArray h n0 Q) (pd : parseMethodDescriptor z.desc = some ⟨ps, ro⟩) (hlen : argsL.length = ps.length) (hS : S = argsL.reverse ++ .ref a :: rest) (hml : L.size = ml)
    (hW : (rest.map fun v => v.category).sum ≤ W) (hf : rm.frames + 1 ≤ R.frames) (hlo : W + (ml' + 11) + rm.locals ≤ R.locals) {k' n' : Nat} (hk : k + rm.cells = k') (hn' : n + rm.slots = n') (hc : k' ≤ R.cells) (hl : n' ≤ R.slots) (hp : pc + 3 = pc') :
    ∃ v h', Q v h' ∧ Rch p l e R s m args below meth c Z y bc ml rt n0 T0 g0 k' n' h' (mkF m pc' L (v.toList ++ rest)) := by
  subst hp hS hk hn'
  obtain ⟨q, T, locs, X, eT, N, st⟩ := r
  obtain ⟨v, _, ⟨T', L', kk', nn'⟩, -, X', ⟨Lc, hQ, l1, y1, z1⟩, st'⟩ := X.specialBack q.1 (y := z) hi q.2.2.2.1 (mvT q.2.2.2.2.1 w1) (mvT q.2.2.2.2.1 w2) (mvT q.2.2.2.2.1 w4) hy (backOf (W := W) (Q := fun v h L => Fr n0 L ∧ Q v h) (C []) q.2.2.2.2.1 w4 w3 hf hlo) (g := mkF m pc L (argsL.reverse ++ .ref a :: rest)) rfl (by rw [q.2.2.1]; exact hml) (Steps.refl _) (a := a) (argsL := argsL) (rest := rest) (lenOf pd hlen) rfl (by simpa using hW) (hb q.2.1 hd) (fun _ _ => ⟨rfl, eT, hc, hl⟩)
  dsimp only [Pt.U, Pt.locs, Pt.cells, Pt.slots] at X' l1 y1 z1 st' hQ
  subst l1 y1 z1
  exact ⟨v, T'.heap, hQ.2, q, T', _, X', rfl, N.app hQ.1, fun t u => st t (st'.trans u)⟩
theorem Rch.callV {z z' : MethodName} {K : String} {bc' : ByteArray} {ml' : Nat} {rt' : Option FieldType} {rm : Room} {idx : Nat} {ps : List FieldType} {ro : Option FieldType} {Q : Option Value → Heap → Prop} {a : Addr} (argsL : List Value) {rest : List Value} (W : Nat)
    (r : Rch p l e R s m args below meth c Z y bc ml rt n0 T0 g0 k n h (mkF m pc L S)) (hd : decode bc pc = .ok (.invokevirtual idx, 3)) (w1 : (Jvm.Cond.methodLink y.cls idx z).before a0 Z = true) (w2 : (Jvm.Cond.declares z).before a0 Z = true) (nf : NotFace s z) (w5 : (Jvm.Cond.selects K z z').before a0 Z = true) (w6 : (Jvm.Cond.instanceMethod z').before a0 Z = true) (w3 : (Jvm.Cond.initialized z'.cls).before a0 Z = true) (w4 : (Jvm.Cond.code z' bc' ml' rt').before a0 Z = true)
    (hy : z.cls ≠ "java/lang/invoke/MethodHandle" ∧ z.cls ≠ "java/lang/invoke/VarHandle") (C : Ctr l Z z' bc' ml' rt' rm (.ref a :: argsL).toArray h n0 Q) (E : Exa Z h a K) (pd : parseMethodDescriptor z.desc = some ⟨ps, ro⟩) (hlen : argsL.length = ps.length) (hS : S = argsL.reverse ++ .ref a :: rest) (hml : L.size = ml)
    (hW : (rest.map fun v => v.category).sum ≤ W) (hf : rm.frames + 1 ≤ R.frames) (hlo : W + (ml' + 11) + rm.locals ≤ R.locals) {k' n' : Nat} (hk : k + rm.cells = k') (hn' : n + rm.slots = n') (hc : k' ≤ R.cells) (hl : n' ≤ R.slots) (hp : pc + 3 = pc') :
    ∃ v h', Q v h' ∧ Rch p l e R s m args below meth c Z y bc ml rt n0 T0 g0 k' n' h' (mkF m pc' L (v.toList ++ rest)) := by
  subst hp hS hk hn'
  obtain ⟨q, T, locs, X, eT, N, st⟩ := r
  obtain ⟨cq, kq, qa, qb, qc⟩ := isOf q.2.2.2.2.1 eT E
  obtain ⟨v, _, ⟨T', L', kk', nn'⟩, -, X', ⟨Lc, hQ, l1, y1, z1⟩, st'⟩ := X.virtualBack q.1 (y := z) (z := z') q.2.2.2.1 (mvT q.2.2.2.2.1 w1) (mvT q.2.2.2.2.1 w2) nf (mvT q.2.2.2.2.1 w5) (mvT q.2.2.2.2.1 w6) hy (backOf (W := W) (Q := fun v h L => Fr n0 L ∧ Q v h) (C []) q.2.2.2.2.1 w4 w3 hf hlo) qa qc (g := mkF m pc L (argsL.reverse ++ .ref a :: rest)) rfl (by rw [q.2.2.1]; exact hml) (Steps.refl _) (argsL := argsL) (rest := rest) (lenOf pd hlen) rfl (by simpa using hW) (hb q.2.1 hd) (fun _ _ => ⟨rfl, eT, hc, hl⟩)
  dsimp only [Pt.U, Pt.locs, Pt.cells, Pt.slots] at X' l1 y1 z1 st' hQ
  subst l1 y1 z1
  exact ⟨v, T'.heap, hQ.2, q, T', _, X', rfl, N.app hQ.1, fun t u => st t (st'.trans u)⟩
theorem Rch.nface {z z' : MethodName} {K : String} {g : JFrame} (r : Rch p l e R s m args below meth c Z y bc ml rt n0 T0 g0 k n h g) (w : (Jvm.Cond.selects K z z').before a0 Z = true) (hq : z = z') : NotFace s z := by
  subst hq; exact notFace_of_selects (args := #[]) (mvT r.1.2.2.2.2.1 w)
theorem Rch.initO {idx : Nat} {a : Addr} (W : Nat) (r : Rch p l e R s m args below meth c Z y bc ml rt n0 T0 g0 k n h (mkF m pc L (.ref a :: S))) (hd : decode bc pc = .ok (.invokespecial idx, 3)) (w1 : (Jvm.Cond.methodLink y.cls idx Lib.objectInit).before a0 Z = true) (w2 : (Jvm.Cond.instanceMethod Lib.objectInit).before a0 Z = true) (w3 : (Jvm.Cond.code Lib.objectInit ⟨#[0xb1]⟩ 1 none).before a0 Z = true) (hml : L.size = ml)
    (hf : 1 ≤ R.frames) (hW : (S.map fun v => v.category).sum ≤ W) (hl : W + 12 ≤ R.locals) (hp : pc + 3 = pc') : Rch p l e R s m args below meth c Z y bc ml rt n0 T0 g0 k n h (mkF m pc' L S) := by
  subst hp
  exact r.keep fun T locs X eT => initO X r.1.1 r.1.2.2.2.2.1 r.1.2.2.2.1 w1 w2 w3 eT (g := mkF m pc L (.ref a :: S)) rfl (by rw [r.1.2.2.1]; exact hml) rfl (hb r.1.2.1 hd) hf (W := W) (by simpa using hW) hl
end OwnLayer
section OwnPriv
variable {p : Program} {l : Launch} {e : Env} {R : Room} {s : State} {m : MethodId} {args : Array Value} {below : List Frame} {meth : Method} {c : Code} {Z : State} {y : MethodName} {bc : ByteArray} {ml : Nat} {rt : Option FieldType} {n0 : Nat} {T0 : State} {g0 : JFrame} {k n : Nat} {h : Heap} {a0 : Array Value} {pc pc' : Nat} {L : Array Slot} {S : List Value}
/-- a private method of the class, by invokevirtual -/
theorem Rch.callP {z : MethodName} {bc' : ByteArray} {ml' : Nat} {rt' : Option FieldType} {rm : Room} {idx : Nat} {ps : List FieldType} {ro : Option FieldType} {Q : Option Value → Heap → Prop} {a : Addr} {K : String} (argsL : List Value) {rest : List Value} (W : Nat)
    (r : Rch p l e R s m args below meth c Z y bc ml rt n0 T0 g0 k n h (mkF m pc L S)) (hd : decode bc pc = .ok (.invokevirtual idx, 3)) (w1 : (Jvm.Cond.methodLink y.cls idx z).before a0 Z = true) (w2 : (Jvm.Cond.instanceMethod z).before a0 Z = true) (w5 : (Jvm.Cond.selects z.cls z z).before a0 Z = true) (w6 : (Jvm.Cond.privateMethod z).before a0 Z = true) (w3 : (Jvm.Cond.initialized z.cls).before a0 Z = true) (w4 : (Jvm.Cond.code z bc' ml' rt').before a0 Z = true)
    (hy : z.cls ≠ "java/lang/invoke/MethodHandle" ∧ z.cls ≠ "java/lang/invoke/VarHandle") (C : Ctr l Z z bc' ml' rt' rm (.ref a :: argsL).toArray h n0 Q) (E : Exa Z h a K) (pd : parseMethodDescriptor z.desc = some ⟨ps, ro⟩) (hlen : argsL.length = ps.length) (hS : S = argsL.reverse ++ .ref a :: rest) (hml : L.size = ml)
    (hW : (rest.map fun v => v.category).sum ≤ W) (hf : rm.frames + 1 ≤ R.frames) (hlo : W + (ml' + 11) + rm.locals ≤ R.locals) {k' n' : Nat} (hk : k + rm.cells = k') (hn' : n + rm.slots = n') (hc : k' ≤ R.cells) (hl : n' ≤ R.slots) (hp : pc + 3 = pc') :
    ∃ v h', Q v h' ∧ Rch p l e R s m args below meth c Z y bc ml rt n0 T0 g0 k' n' h' (mkF m pc' L (v.toList ++ rest)) := by
  subst hp hS hk hn'
  obtain ⟨q, T, locs, X, eT, N, st⟩ := r
  obtain ⟨cq, q1, q2⟩ := E.cell
  obtain ⟨v, _, ⟨T', L', kk', nn'⟩, -, X', ⟨Lc, hQ, l1, y1, z1⟩, st'⟩ := X.privateBack q.1 (y := z) q.2.2.2.1 (mvT q.2.2.2.2.1 w1) (mvT q.2.2.2.2.1 w2) (mvT q.2.2.2.2.1 w5) (Cond.privateMethod_at (mvP q.2.2.2.2.1 w6 (args := #[]))) (mvT q.2.2.2.2.1 w4) hy (backOf (W := W) (Q := fun v h L => Fr n0 L ∧ Q v h) (C []) q.2.2.2.2.1 w4 w3 hf hlo) (g := mkF m pc L (argsL.reverse ++ .ref a :: rest)) rfl (by rw [q.2.2.1]; exact hml) (Steps.refl _) (a := a) (by rw [eT]; exact q1) q2 (argsL := argsL) (rest := rest) (lenOf pd hlen) rfl (by simpa using hW) (hb q.2.1 hd) (fun _ _ => ⟨rfl, eT, hc, hl⟩)
  dsimp only [Pt.U, Pt.locs, Pt.cells, Pt.slots] at X' l1 y1 z1 st' hQ
  subst l1 y1 z1
  exact ⟨v, T'.heap, hQ.2, q, T', _, X', rfl, N.app hQ.1, fun t u => st t (st'.trans u)⟩
end OwnPriv
section OwnGrid
variable {p : Program} {l : Launch} {e : Env} {R : Room} {s : State} {m : MethodId} {args : Array Value} {below : List Frame} {meth : Method} {c : Code} {Z : State} {y : MethodName} {bc : ByteArray} {ml : Nat} {rt : Option FieldType} {n0 : Nat} {T0 : State} {g0 : JFrame} {k n : Nat} {h : Heap} {a0 : Array Value} {pc pc' : Nat} {L : Array Slot} {S : List Value}
theorem Rch.newPE {aty : ArrayType} {i : Int32} (ad : String) (r : Rch p l e R s m args below meth c Z y bc ml rt n0 T0 g0 k n h (mkF m pc L (.int i :: S))) (hd : decode bc pc = .ok (.newarray aty, 2)) (w : (Jvm.Cond.arrayClass (newarray.typeOf aty)).before a0 Z = true) (had : "[" ++ (newarray.typeOf aty).toString = ad) (hn : ¬ i < 0) {cap : Nat} (hcap : i.toNatClampNeg ≤ cap) (hbg : cap * 8 ≤ 536870912) {k' n' : Nat} (hk : k + 1 = k') (hn' : n + cap = n') (hc : k' ≤ R.cells) (hl : n' ≤ R.slots) (hp : pc + 2 = pc') :
    ∃ h' a cA, a = h.size ∧ Ext h h' ∧ Exa Z h' a ad ∧ Arv Z h' a cA (newarray.typeOf aty) i [] (defaultValue (newarray.typeOf aty)) ∧ Rch p l e R s m args below meth c Z y bc ml rt n0 T0 g0 k' n' h' (mkF m pc' L (.ref a :: S)) := by
  subst hp hk hn'
  obtain ⟨q, T, locs, X, eT, N, st⟩ := r
  obtain ⟨T', h', cA, X', e', E, A, EX, st'⟩ := newPE X q.1 q.2.2.2.2.1 w eT (g := mkF m pc L (.int i :: S)) rfl (hb q.2.1 hd) rfl hn hcap hbg hc hl had
  exact ⟨h', h.size, cA, rfl, E, EX, Arv.new A hn, q, T', locs, X', e', N, fun t z => st t (st' t z)⟩
theorem Rch.newRA {C : String} {ty : FieldType} {idx : Nat} {i : Int32} (ad : String) (r : Rch p l e R s m args below meth c Z y bc ml rt n0 T0 g0 k n h (mkF m pc L (.int i :: S))) (hd : decode bc pc = .ok (.anewarray idx, 3)) (hC : (FieldType.array ty).toString = C) (w1 : (Jvm.Cond.classLink y.cls idx C).before a0 Z = true) (w2 : (Jvm.Cond.arrayOver (.array ty)).before a0 Z = true) (had : "[" ++ C = ad) (hn : ¬ i < 0) {cap : Nat} (hcap : i.toNatClampNeg ≤ cap) (hbg : cap * 8 ≤ 536870912) {k' n' : Nat} (hk : k + 1 = k') (hn' : n + cap = n') (hc : k' ≤ R.cells) (hl : n' ≤ R.slots) (hp : pc + 3 = pc') :
    ∃ h' a cA, a = h.size ∧ Ext h h' ∧ OvrA Z cA ty C ∧ Arv Z h' a cA (.array ty) i [] .null ∧ Rch p l e R s m args below meth c Z y bc ml rt n0 T0 g0 k' n' h' (mkF m pc' L (.ref a :: S)) := by
  subst hp hk hn'
  obtain ⟨q, T, locs, X, eT, N, st⟩ := r
  obtain ⟨T', h', cA, X', e', E, A, EX, O, st'⟩ := newRA X q.1 q.2.2.2.2.1 q.2.2.2.1 hC w1 w2 eT (g := mkF m pc L (.int i :: S)) rfl (hb q.2.1 hd) rfl hn hcap hbg hc hl had
  exact ⟨h', h.size, cA, rfl, E, O, Arv.new A hn, q, T', locs, X', e', N, fun t z => st t (st' t z)⟩
theorem Rch.stRA {ty : FieldType} {C : String} {a b : Addr} {kc : ClassId} {z j : Int32} {vs : List Value} {dv : Value} (r : Rch p l e R s m args below meth c Z y bc ml rt n0 T0 g0 k n h (mkF m pc L (.ref b :: .int j :: .ref a :: S))) (hd : decode bc pc = .ok (.aastore, 1)) (V : Arv Z h a kc (.array ty) z vs dv) (O : OvrA Z kc ty C) (I : Exa Z h b C) (h1 : ¬ j < 0) (h2 : j < z) (h3 : j.toNatClampNeg < vs.length) (hN : n0 ≤ a) (hp : pc + 1 = pc') :
    ∃ h', Wr h h' a j.toNatClampNeg (.ref b) ∧ Arv Z h' a kc (.array ty) z (vs.set j.toNatClampNeg (.ref b)) dv ∧ Rch p l e R s m args below meth c Z y bc ml rt n0 T0 g0 k n h' (mkF m pc' L S) := by
  subst hp
  obtain ⟨q, T, locs, X, eT, N, st⟩ := r
  obtain ⟨cl, A, q1, S1, q3, H, G⟩ := V
  obtain ⟨T', h', X', e', W, st'⟩ := Jvm.RoadKit.stR X q.1 q.2.2.2.2.1 eT A (j := j) (inbI S1 h1 h2) rfl (Sto.ofVA A q1 O (Ins.self I)) (g := mkF m pc L (.ref b :: .int j :: .ref a :: S)) rfl rfl (hb q.2.1 hd)
  exact ⟨h', W, Arv.set A q1 S1 q3 H G rfl W _ rfl h3, q, T', _, X', e', Fr.snoc X' N hN, fun t z => st t (st' t z)⟩
end OwnGrid

/- laws to paste: pair_says, lo8_mask, shr0 (cut by pick.py; bodies as the Statement names them) -/
namespace StrChars
open Jvm Sem ClassFile Op Lib Jvm.Stand Jvm.Free.XT Jvm.Free.ALB Jvm.Free.JM Jvm.Free
open Jvm.Lib.Cold (StaticIs)
/-- the byte that i2b leaves of a char -/
def lo8 (x : Int32) : Int32 := x.toInt8.toInt32
/-- the byte, read back as charAt reads it, is the char -/
theorem lo8_mask {x : Int32} (h0 : ¬ x < 0) (h1 : ¬ 255 < x) : lo8 x &&& 255 = x := by
  have t : ∀ k : Fin 256, lo8 (Int32.ofNat k.val) &&& 255 = Int32.ofNat k.val := by decide +kernel
  rw [Int32.lt_iff_toInt_lt] at h0 h1
  have e0 : (0 : Int32).toInt = 0 := rfl
  have e1 : (255 : Int32).toInt = 255 := rfl
  obtain ⟨k, hk⟩ : ∃ k : Nat, x.toInt = k := ⟨x.toInt.toNat, by omega⟩
  have hx : x = Int32.ofNat k := Int32.toInt_inj.mp (by rw [hk, Int32.toInt_ofNat_small (by omega)])
  rw [hx]
  exact t ⟨k, by omega⟩
end StrChars
namespace StrChars
open Jvm Sem ClassFile Op Lib Jvm.Stand Jvm.Free.XT Jvm.Free.ALB Jvm.Free.JM Jvm.Free
open Jvm.Lib.Cold (StaticIs)
def hi8 (x : Int32) : Int32 := lo8 (x >>> ((8 : Int32) &&& 31))
/-- what StringUTF16.getChar makes of two bytes -/
def pairCh (u v : Int32) : Int32 := (((u &&& 255) <<< ((0 : Int32) &&& 31)) ||| ((v &&& 255) <<< ((8 : Int32) &&& 31))).toUInt32.toUInt16.toUInt32.toInt32
theorem shr0 (c : Int32) : c >>> ((0 : Int32) &&& 31) = c := by
  have e : ((0 : Int32) &&& 31) = 0 := by decide
  rw [e]
  apply Int32.toBitVec_inj.mp
  rw [Int32.toBitVec_shiftRight]
  have e1 : ((0 : Int32).toBitVec.smod 32) = 0#32 := by decide
  rw [e1, BitVec.sshiftRight_eq']
  exact BitVec.sshiftRight_zero
theorem lo8_and (x : Int32) : (lo8 x &&& 255).toBitVec.toNat = x.toBitVec.toNat % 256 := by
  have h : (lo8 x).toBitVec = (x.toBitVec.signExtend 8).signExtend 32 := by rw [lo8, Int8.toBitVec_toInt32, Int32.toBitVec_toInt8]
  rw [Int32.toBitVec_and, BitVec.toNat_and, h]
  have e : ((x.toBitVec.signExtend 8).signExtend 32).toNat % 256 = x.toBitVec.toNat % 256 := by
    rw [BitVec.toNat_signExtend]
    have hlt := x.toBitVec.isLt
    simp only [BitVec.toNat_setWidth, BitVec.toNat_signExtend]
    split <;> split <;> omega
  rw [← e]
  exact Nat.and_two_pow_sub_one_eq_mod _ 8
theorem pair_says {c : Int32} (h0 : ¬ c < 0) (h1 : ¬ 65535 < c) : pairCh (lo8 c) (hi8 c) = c := by
  rw [Int32.lt_iff_toInt_lt] at h0 h1
  have e0 : (0 : Int32).toInt = 0 := rfl
  have e1 : (65535 : Int32).toInt = 65535 := rfl
  have hc : c.toInt = c.toBitVec.toNat := by
    have := c.toBitVec.isLt
    have e : c.toInt = c.toBitVec.toInt := rfl
    rw [e] at h0 h1
    rw [e]
    rw [BitVec.toInt_eq_toNat_cond] at h0 h1 ⊢
    split at h0 <;> split <;> omega
  have hn : c.toBitVec.toNat < 65536 := by omega
  have a1 := lo8_and c
  have a2 : (hi8 c &&& 255).toBitVec.toNat = c.toBitVec.toNat / 256 := by
    rw [hi8, lo8_and]
    have e : ((8 : Int32) &&& 31) = 8 := by decide
    rw [e, Int32.toBitVec_shiftRight]
    have e2 : ((8 : Int32).toBitVec.smod 32) = 8#32 := by decide
    rw [e2, BitVec.sshiftRight_eq', BitVec.toNat_sshiftRight_of_msb_false (by rw [BitVec.msb_eq_false_iff_two_mul_lt]; omega)]
    show c.toBitVec.toNat >>> 8 % 256 = _
    rw [Nat.shiftRight_eq_div_pow]
    omega
  unfold pairCh
  apply Int32.toBitVec_inj.mp
  apply BitVec.eq_of_toNat_eq
  have f0 : ((0 : Int32) &&& 31) = 0 := by decide
  have f8 : ((8 : Int32) &&& 31) = 8 := by decide
  rw [f0, f8]
  have g : (((lo8 c &&& 255) <<< (0 : Int32)) ||| ((hi8 c &&& 255) <<< (8 : Int32))).toBitVec.toNat = c.toBitVec.toNat := by
    rw [Int32.toBitVec_or, Int32.toBitVec_shiftLeft, Int32.toBitVec_shiftLeft]
    have s0 : ((0 : Int32).toBitVec.smod 32) = 0#32 := by decide
    have s8 : ((8 : Int32).toBitVec.smod 32) = 8#32 := by decide
    rw [s0, s8, BitVec.toNat_or]
    simp only [BitVec.shiftLeft_eq', BitVec.toNat_shiftLeft, a1, a2]
    show (c.toBitVec.toNat % 256) <<< 0 % 2 ^ 32 ||| (c.toBitVec.toNat / 256) <<< 8 % 2 ^ 32 = _
    rw [Nat.shiftLeft_zero, Nat.mod_eq_of_lt (show c.toBitVec.toNat % 256 < 2 ^ 32 by omega), Nat.mod_eq_of_lt (show (c.toBitVec.toNat / 256) <<< 8 < 2 ^ 32 by rw [Nat.shiftLeft_eq]; omega), Nat.or_comm, ← Nat.shiftLeft_add_eq_or_of_lt (by omega), Nat.shiftLeft_eq]
    omega
  show BitVec.toNat (((((lo8 c &&& 255) <<< (0 : Int32)) ||| ((hi8 c &&& 255) <<< (8 : Int32))).toBitVec.setWidth 16).setWidth 32) = _
  rw [BitVec.toNat_setWidth, BitVec.toNat_setWidth, g]
  omega
end StrChars

section OwnArrB
/-- a byte[] of the length z whose values are F (what F says beyond the length is free) -/
def ArB (Z : State) (h : Heap) (a : Addr) (z : Int32) (F : List Int32) : Prop := ∃ kc, Arv Z h a kc .byte z (F.map Value.int) (.int 0)
theorem getD_mapB (F : List Int32) (i : Nat) : (F.map Value.int).getD i (.int 0) = .int (F.getD i 0) := by
  simp only [List.getD_eq_getElem?_getD, List.getElem?_map]
  cases F[i]? <;> rfl
variable {p : Program} {l : Launch} {e : Env} {R : Room} {s : State} {m : MethodId} {args : Array Value} {below : List Frame} {meth : Method} {c : Code} {Z : State} {y : MethodName} {bc : ByteArray} {ml : Nat} {rt : Option FieldType} {n0 : Nat} {T0 : State} {g0 : JFrame} {k n : Nat} {h h' : Heap} {a0 : Array Value} {pc pc' : Nat} {L : Array Slot} {S : List Value} {a b : Addr} {z j x : Int32} {F : List Int32}
theorem ArB.lt (V : ArB Z h a z F) : a < h.size := by obtain ⟨_, V⟩ := V; exact Jvm.RoadKit.Arv.lt V
theorem ArB.ext (V : ArB Z h a z F) (E : Ext h h') : ArB Z h' a z F := by obtain ⟨kc, V⟩ := V; exact ⟨kc, Jvm.RoadKit.Arv.ext V E⟩
theorem ArB.other {sl : Nat} {v : Value} (V : ArB Z h b z F) (W : Wr h h' a sl v) (q : b ≠ a) : ArB Z h' b z F := by obtain ⟨kc, V⟩ := V; exact ⟨kc, Jvm.RoadKit.Arv.other V W q⟩
theorem ArB.keep {ws : List Addr} (V : ArB Z h a z F) (K : Keep h h' ws) (q : a ∉ ws) : ArB Z h' a z F := by obtain ⟨kc, V⟩ := V; exact ⟨kc, Jvm.RoadKit.Arv.keep V K q⟩
theorem ArB.new {kc : ClassId} (V : Arv Z h a kc .byte z [] (.int 0)) (i : Nat) : ArB Z h a z (List.replicate i 0) := ⟨kc, by
  have q := Jvm.RoadKit.Arv.pad V (pad_rep [] (.int 0) i)
  simpa using q⟩
theorem ArB.beyond (V : ArB Z h a z F) (i : Nat) (hi : z.toNatClampNeg ≤ i) : ArB Z h a z (F.set i x) := by
  obtain ⟨kc, cl, A, q1, S, q3, H, G⟩ := V
  have hne : ∀ k, k < cl.slots.size → ((F.set i x).map Value.int).getD k (.int 0) = (F.map Value.int).getD k (.int 0) := by
    intro k hk
    rw [getD_mapB, getD_mapB]
    have hki : i ≠ k := by omega
    simp [List.getD_eq_getElem?_getD, List.getElem?_set_ne hki]
  exact ⟨kc, cl, A, q1, S, q3, fun k hk => by rw [hne k hk]; exact H k hk, fun k hk => by rw [hne k hk]; exact G k hk⟩
theorem Rch.gB (r : Rch p l e R s m args below meth c Z y bc ml rt n0 T0 g0 k n h (mkF m pc L (.int j :: .ref a :: S))) (hd : decode bc pc = .ok (.baload, 1)) (V : ArB Z h a z F) (h1 : ¬ j < 0) (h2 : j < z) (hp : pc + 1 = pc') :
    Rch p l e R s m args below meth c Z y bc ml rt n0 T0 g0 k n h (mkF m pc' L (.int (F.getD j.toNatClampNeg 0) :: S)) := by
  obtain ⟨kc, V⟩ := V
  exact Rch.ldB (.int (F.getD j.toNatClampNeg 0)) r hd V h1 h2 (getD_mapB F _) hp
theorem Rch.sB (r : Rch p l e R s m args below meth c Z y bc ml rt n0 T0 g0 k n h (mkF m pc L (.int x :: .int j :: .ref a :: S))) (hd : decode bc pc = .ok (.bastore, 1)) (V : ArB Z h a z F) (h1 : ¬ j < 0) (h2 : j < z) (h3 : j.toNatClampNeg < F.length) (hN : n0 ≤ a) (hp : pc + 1 = pc') :
    ∃ h', Wr h h' a j.toNatClampNeg (.int (nar .byte x)) ∧ ArB Z h' a z (F.set j.toNatClampNeg (nar .byte x)) ∧ Rch p l e R s m args below meth c Z y bc ml rt n0 T0 g0 k n h' (mkF m pc' L S) := by
  obtain ⟨kc, V⟩ := V
  obtain ⟨h', W, V', r'⟩ := Rch.stB r hd V h1 h2 (by simpa using h3) hN hp
  exact ⟨h', W, ⟨kc, by rw [List.map_set]; exact V'⟩, r'⟩
theorem Rch.lenB (r : Rch p l e R s m args below meth c Z y bc ml rt n0 T0 g0 k n h (mkF m pc L (.ref a :: S))) (hd : decode bc pc = .ok (.arraylength, 1)) (V : ArB Z h a z F) (hp : pc + 1 = pc') :
    Rch p l e R s m args below meth c Z y bc ml rt n0 T0 g0 k n h (mkF m pc' L (.int z :: S)) := by
  obtain ⟨kc, V⟩ := V
  exact Rch.alen r hd V hp
end OwnArrB

section OwnArrC
/-- a char[] of the length z whose values are F (what F says beyond the length is free) -/
def ArC (Z : State) (h : Heap) (a : Addr) (z : Int32) (F : List Int32) : Prop := ∃ kc, Arv Z h a kc .char z (F.map Value.int) (.int 0)
theorem getD_mapC (F : List Int32) (i : Nat) : (F.map Value.int).getD i (.int 0) = .int (F.getD i 0) := by
  simp only [List.getD_eq_getElem?_getD, List.getElem?_map]
  cases F[i]? <;> rfl
variable {p : Program} {l : Launch} {e : Env} {R : Room} {s : State} {m : MethodId} {args : Array Value} {below : List Frame} {meth : Method} {c : Code} {Z : State} {y : MethodName} {bc : ByteArray} {ml : Nat} {rt : Option FieldType} {n0 : Nat} {T0 : State} {g0 : JFrame} {k n : Nat} {h h' : Heap} {a0 : Array Value} {pc pc' : Nat} {L : Array Slot} {S : List Value} {a b : Addr} {z j x : Int32} {F : List Int32}
theorem ArC.lt (V : ArC Z h a z F) : a < h.size := by obtain ⟨_, V⟩ := V; exact Jvm.RoadKit.Arv.lt V
theorem ArC.ext (V : ArC Z h a z F) (E : Ext h h') : ArC Z h' a z F := by obtain ⟨kc, V⟩ := V; exact ⟨kc, Jvm.RoadKit.Arv.ext V E⟩
theorem ArC.other {sl : Nat} {v : Value} (V : ArC Z h b z F) (W : Wr h h' a sl v) (q : b ≠ a) : ArC Z h' b z F := by obtain ⟨kc, V⟩ := V; exact ⟨kc, Jvm.RoadKit.Arv.other V W q⟩
theorem ArC.keep {ws : List Addr} (V : ArC Z h a z F) (K : Keep h h' ws) (q : a ∉ ws) : ArC Z h' a z F := by obtain ⟨kc, V⟩ := V; exact ⟨kc, Jvm.RoadKit.Arv.keep V K q⟩
theorem ArC.new {kc : ClassId} (V : Arv Z h a kc .char z [] (.int 0)) (i : Nat) : ArC Z h a z (List.replicate i 0) := ⟨kc, by
  have q := Jvm.RoadKit.Arv.pad V (pad_rep [] (.int 0) i)
  simpa using q⟩
theorem ArC.beyond (V : ArC Z h a z F) (i : Nat) (hi : z.toNatClampNeg ≤ i) : ArC Z h a z (F.set i x) := by
  obtain ⟨kc, cl, A, q1, S, q3, H, G⟩ := V
  have hne : ∀ k, k < cl.slots.size → ((F.set i x).map Value.int).getD k (.int 0) = (F.map Value.int).getD k (.int 0) := by
    intro k hk
    rw [getD_mapC, getD_mapC]
    have hki : i ≠ k := by omega
    simp [List.getD_eq_getElem?_getD, List.getElem?_set_ne hki]
  exact ⟨kc, cl, A, q1, S, q3, fun k hk => by rw [hne k hk]; exact H k hk, fun k hk => by rw [hne k hk]; exact G k hk⟩
theorem Rch.gC (r : Rch p l e R s m args below meth c Z y bc ml rt n0 T0 g0 k n h (mkF m pc L (.int j :: .ref a :: S))) (hd : decode bc pc = .ok (.caload, 1)) (V : ArC Z h a z F) (h1 : ¬ j < 0) (h2 : j < z) (hp : pc + 1 = pc') :
    Rch p l e R s m args below meth c Z y bc ml rt n0 T0 g0 k n h (mkF m pc' L (.int (F.getD j.toNatClampNeg 0) :: S)) := by
  obtain ⟨kc, V⟩ := V
  exact Rch.ldC (.int (F.getD j.toNatClampNeg 0)) r hd V h1 h2 (getD_mapC F _) hp
theorem Rch.sC (r : Rch p l e R s m args below meth c Z y bc ml rt n0 T0 g0 k n h (mkF m pc L (.int x :: .int j :: .ref a :: S))) (hd : decode bc pc = .ok (.castore, 1)) (V : ArC Z h a z F) (h1 : ¬ j < 0) (h2 : j < z) (h3 : j.toNatClampNeg < F.length) (hN : n0 ≤ a) (hp : pc + 1 = pc') :
    ∃ h', Wr h h' a j.toNatClampNeg (.int (nar .char x)) ∧ ArC Z h' a z (F.set j.toNatClampNeg (nar .char x)) ∧ Rch p l e R s m args below meth c Z y bc ml rt n0 T0 g0 k n h' (mkF m pc' L S) := by
  obtain ⟨kc, V⟩ := V
  obtain ⟨h', W, V', r'⟩ := Rch.stC r hd V h1 h2 (by simpa using h3) hN hp
  exact ⟨h', W, ⟨kc, by rw [List.map_set]; exact V'⟩, r'⟩
theorem Rch.lenC (r : Rch p l e R s m args below meth c Z y bc ml rt n0 T0 g0 k n h (mkF m pc L (.ref a :: S))) (hd : decode bc pc = .ok (.arraylength, 1)) (V : ArC Z h a z F) (hp : pc + 1 = pc') :
    Rch p l e R s m args below meth c Z y bc ml rt n0 T0 g0 k n h (mkF m pc' L (.int z :: S)) := by
  obtain ⟨kc, V⟩ := V
  exact Rch.alen r hd V hp
end OwnArrC

section OwnWide
open Jvm.Free.SB Jvm.Free.SBG
/-- a body's contract where literals may be loaded cold: EL, the entries whose texts are read -/
def CtrW (l : Launch) (Z : State) (EL : List (String × Nat)) (y : MethodName) (bc : ByteArray) (ml : Nat) (rt : Option FieldType) (rm : Room) (as : Array Value) (h0 : Heap) (n0 : Nat) (Q : Option Value → Heap → Prop) : Prop :=
  ∀ ws : List Jvm.Cond, MetFree l y (head1 (Jvm.Cond.code y bc ml rt :: ws) rm) (fun a U => a = as ∧ Z.Warmed39 U.vm ∧ U.heap = h0 ∧ CHv Z EL U.vm h0) (fun _ _ _ _ _ => True) (fun _ U o U' => ∃ v L, o = .returned v ∧ (Fr n0 L ∧ Q v U'.heap) ∧ CHr Z EL U.vm U.heap U'.vm U'.heap ∧ ReturnedEndW U o U' L rm.cells rm.slots)
variable {p : Program} {l : Launch} {e : Env} {R : Room} {s : State} {m : MethodId} {args : Array Value} {below : List Frame} {meth : Method} {c : Code} {Z : State} {y : MethodName} {bc : ByteArray} {ml : Nat} {rt : Option FieldType} {n0 : Nat} {T0 : State} {g0 : JFrame} {k n : Nat} {h : Heap} {a0 : Array Value} {pc pc' : Nat} {L : Array Slot} {S : List Value} {EL : List (String × Nat)} {vm0 : Vm} {k0 : Nat}
/-- the walk stands over the re-based start; what it keeps beside: Since, and the invariant from the start on -/
def Wd (Z : State) (EL : List (String × Nat)) (s : State) (hs : Heap) (vm0 : Vm) (h : Heap) : Prop := (∃ k0, s.Since vm0 k0 ∧ k0 ≤ h.size) ∧ CHr Z EL s.vm hs vm0 h
theorem Wd.start (hh : s.heap = h) (H : CHv Z EL s.vm h) : Wd Z EL s h s.vm h := ⟨⟨0, (State.WarmedH.refl s).since 0, Nat.zero_le _⟩, CHr.refl H⟩
theorem Wd.go {hs h h' : Heap} (w : Wd Z EL s hs vm0 h) (C : CHr Z EL vm0 h vm0 h') : Wd Z EL s hs vm0 h' := by
  obtain ⟨⟨k0, a, b⟩, D⟩ := w
  exact ⟨⟨k0, a, Nat.le_trans b C.2.1⟩, D.trans C⟩
theorem Wd.ext {hs h h' : Heap} (w : Wd Z EL s hs vm0 h) (E : Ext h h') : Wd Z EL s hs vm0 h' := w.go (CHr.ext E w.2.1)
theorem Wd.keep {hs h h' : Heap} {ws : List Addr} (w : Wd Z EL s hs vm0 h) (K : Keep h h' ws) (hsf : ∀ x ∈ ws, Safe Z EL vm0 h x) : Wd Z EL s hs vm0 h' := w.go (CHr.keep K hsf w.2.1)
theorem Wd.wr {hs h h' : Heap} {a : Addr} {sl : Nat} {v : Value} (w : Wd Z EL s hs vm0 h) (W : Wr h h' a sl v) (S : Safe Z EL vm0 h a) : Wd Z EL s hs vm0 h' := w.go (CHr.wr W S w.2.1)
theorem Wd.fresh {hs h h' : Heap} {x : Addr} (w : Wd Z EL s hs vm0 h) (E : Ext h h') (hx : h.size ≤ x) : Safe Z EL vm0 h' x := fun B => Safe.new hx ((CHv.step w.2.1 fun _ _ _ q => E.2 _ _ q).2 x B)
theorem Wd.safe {hs h h' : Heap} {x : Addr} {vm1 : Vm} (w : CHr Z EL vm0 h vm1 h') (hx : x < h.size) (S : Safe Z EL vm0 h x) : Safe Z EL vm1 h' x := w.safe hx S
def DonW (p : Program) (l : Launch) (e : Env) (R : Room) (s : State) (m : MethodId) (args : Array Value) (below : List Frame) (meth : Method) (c : Code) (rt : Option FieldType) (n0 : Nat) (T0 : State) (g0 : JFrame) (Z : State) (EL : List (String × Nat)) (hs : Heap) (v : Option Value) (h : Heap) : Prop :=
  ∃ vm0, Don p l e R (s.setVm vm0) m args below meth c rt n0 T0 g0 v h ∧ Wd Z EL s hs vm0 h ∧ Z.Warmed39 vm0
theorem entW {rm : Room} {as : Array Value} {h0 : Heap} {Q : Option Value → Heap → Prop} {L0 : Array Slot} (hpl : plainFor y = true) (hL : ∀ m, entryFrame m as ml = mkF m 0 L0 []) (hEL : EW Z a0 EL)
    (H : ∀ p e s m below meth c T0, Rch p l e rm (s.setVm s.vm) m as below meth c Z y bc ml rt n0 T0 (mkF m 0 L0 []) 0 0 h0 (mkF m 0 L0 []) → Wd Z EL s h0 s.vm h0 → ∃ v h, DonW p l e rm s m as below meth c rt n0 T0 (mkF m 0 L0 []) Z EL h0 v h ∧ Q v h) : CtrW l Z EL y bc ml rt rm as h0 n0 Q := by
  intro ws
  refine MetFree.of_bodySF hpl hisR ?_
  intro p e s m args below meth c s₁ Bd hml0 hP hK
  obtain ⟨rfl, hZ, hh, hC⟩ := hP
  have hown : s.vm.findClass y.cls = some m.cls := findClass_of_methodNamed Bd.named
  have hnm := (name_of_methodNamed Bd.named Bd.method).1
  have X0 : Stand p l e rm s m args below meth c s₁ [] 0 0 := Stand.of_body Bd
  have e0 : s₁.heap = h0 := by rw [← hh, Bd.state]; rfl
  obtain ⟨v, h, ⟨vm0, ⟨T, locs, k, n, X, hk, hn, eT, N, hlk, hv, st⟩, ⟨⟨k0, hS, hk0⟩, hC1⟩, hZ1⟩, hq⟩ := H p e s m below meth c s₁ ⟨⟨Bd.exec, Bd.bytes, hml0, hown, hZ, Bd.returns, Bd.notSynchronized, hnm⟩, s₁, [], X0, e0, Fr.nil n0, fun _ z => z⟩ (Wd.start hh hC)
  obtain ⟨fs, hr, hrun, hended, hRW⟩ := Stand.leaveW X hS (by rw [eT]; exact hk0) (v := v) hv hlk
  have hA := CHv.at X hZ1 hEL hC1.1
  refine ⟨_, _, castTop (hL m) (st fs hr), hrun, hended, v, locs, rfl, ⟨N, ?_⟩, ?_, hRW.1, hRW.2.1, hRW.2.2.1, hRW.2.2.2.mono hk hn⟩
  · show Q v T.heap
    rw [eT]; exact hq
  · show CHr Z EL s.vm s.heap T.vm T.heap
    rw [eT, hh]; exact hC1.trans hA
/-- 'ldc' of a String constant that is read -/
theorem Rch.ldcS {hs : Heap} {idx : Nat} {text : String} {vs : List Value} {z : Int32} (nn : Nat) (r : Rch p l e R (s.setVm vm0) m args below meth c Z y bc ml rt n0 T0 g0 k n h (mkF m pc L S)) (wd : Wd Z EL s hs vm0 h) (hd : decode bc pc = .ok (.ldc idx, 2)) (w : (Jvm.Cond.stringLink y.cls idx text).before a0 Z = true) (wS : ∀ a ∈ Bundle.stringAtoms, a.before a0 Z = true) (hEL : EW Z a0 EL) (hmem : (y.cls, idx) ∈ EL)
    (ht : (∀ c ∈ text.toList, c.toNat < 256) ∧ text.toList.map (fun c => Value.int (Jvm.Lit.byteI c.toNat.toUInt16)) = vs) (hz : ¬ z < 0) (hl : z.toNatClampNeg = vs.length) (hn : 4 * text.toList.length ≤ nn) (hbig : nn ≤ 536870912) {k' n' : Nat} (hk' : k + 2 = k') (hn' : n + (nn + 4) = n') (hc : k' ≤ R.cells) (hl' : n' ≤ R.slots) (hp : pc + 2 = pc') :
    ∃ a b kb vm1 h', Ext h h' ∧ Wd Z EL s hs vm1 h' ∧ CHr Z EL vm0 h vm1 h' ∧ Exa Z h' a "java/lang/String" ∧ Fld Z h' a "java/lang/String" "coder" "B" (.int 0) ∧ Fld Z h' a "java/lang/String" "value" "[B" (.ref b) ∧ Arv Z h' b kb .byte z vs (.int 0) ∧ (∀ x, Safe Z EL vm1 h' x → x ≠ a ∧ x ≠ b) ∧
      Rch p l e R (s.setVm vm1) m args below meth c Z y bc ml rt n0 T0 g0 k' n' h' (mkF m pc' L (.ref a :: S)) := by
  subst hp hk' hn'
  obtain ⟨q, T, locs, X, eT, N, st⟩ := r
  obtain ⟨⟨k0, hS, hk0⟩, hC⟩ := wd
  obtain ⟨a, T', h', k1, b, kb, X', e', E, hS', hk1, hZ', hown', EX, F1, F2, V, -, -, C', -, hne, st'⟩ := ldcCH X q.1 (show Z.Warmed39 vm0 from q.2.2.2.2.1) q.2.2.2.1 w wS eT hS hk0 hEL hmem hC.1 ht hz hl (g := mkF m pc L S) rfl (hb q.2.1 hd) (n := nn) hn hbig hc hl'
  exact ⟨a, b, kb, T'.vm, h', E, ⟨⟨k1, hS', hk1⟩, hC.trans C'⟩, C', EX, F1, F2, V, hne, ⟨q.1, q.2.1, q.2.2.1, hown', hZ', q.2.2.2.2.2⟩, T', locs, X', e', N, fun t u => st t (st' t u)⟩
/-- .. whose text isn't read -/
theorem Rch.ldcO {hs : Heap} {idx : Nat} {text : String} (nn : Nat) (r : Rch p l e R (s.setVm vm0) m args below meth c Z y bc ml rt n0 T0 g0 k n h (mkF m pc L S)) (wd : Wd Z EL s hs vm0 h) (hd : decode bc pc = .ok (.ldc idx, 2)) (w : (Jvm.Cond.stringLink y.cls idx text).before a0 Z = true) (wS : ∀ a ∈ Bundle.stringAtoms, a.before a0 Z = true) (hEL : EW Z a0 EL)
    (hn : 4 * text.toList.length ≤ nn) (hbig : nn ≤ 536870912) {k' n' : Nat} (hk' : k + 2 = k') (hn' : n + (nn + 4) = n') (hc : k' ≤ R.cells) (hl' : n' ≤ R.slots) (hp : pc + 2 = pc') :
    ∃ a vm1 h', Ext h h' ∧ Wd Z EL s hs vm1 h' ∧ CHr Z EL vm0 h vm1 h' ∧ Rch p l e R (s.setVm vm1) m args below meth c Z y bc ml rt n0 T0 g0 k' n' h' (mkF m pc' L (.ref a :: S)) := by
  subst hp hk' hn'
  obtain ⟨q, T, locs, X, eT, N, st⟩ := r
  obtain ⟨⟨k0, hS, hk0⟩, hC⟩ := wd
  obtain ⟨a, T', h', k1, X', e', E, hS', hk1, hZ', hown', C', -, st'⟩ := ldcOH X q.1 (show Z.Warmed39 vm0 from q.2.2.2.2.1) q.2.2.2.1 w wS eT hS hk0 hEL hC.1 (g := mkF m pc L S) rfl (hb q.2.1 hd) (n := nn) hn hbig hc hl'
  exact ⟨a, T'.vm, h', E, ⟨⟨k1, hS', hk1⟩, hC.trans C'⟩, C', ⟨q.1, q.2.1, q.2.2.1, hown', hZ', q.2.2.2.2.2⟩, T', locs, X', e', N, fun t u => st t (st' t u)⟩
theorem Rch.callVW {hs : Heap} {z z' : MethodName} {K : String} {bc' : ByteArray} {ml' : Nat} {rt' : Option FieldType} {rm : Room} {idx : Nat} {ps : List FieldType} {ro : Option FieldType} {Q : Option Value → Heap → Prop} {a : Addr} (argsL : List Value) {rest : List Value} (W : Nat)
    (r : Rch p l e R (s.setVm vm0) m args below meth c Z y bc ml rt n0 T0 g0 k n h (mkF m pc L S)) (wd : Wd Z EL s hs vm0 h) (hEL : EW Z a0 EL) (hd : decode bc pc = .ok (.invokevirtual idx, 3)) (w1 : (Jvm.Cond.methodLink y.cls idx z).before a0 Z = true) (w2 : (Jvm.Cond.declares z).before a0 Z = true) (nf : NotFace (s.setVm vm0) z) (w5 : (Jvm.Cond.selects K z z').before a0 Z = true) (w6 : (Jvm.Cond.instanceMethod z').before a0 Z = true) (w3 : (Jvm.Cond.initialized z'.cls).before a0 Z = true) (w4 : (Jvm.Cond.code z' bc' ml' rt').before a0 Z = true)
    (hy : z.cls ≠ "java/lang/invoke/MethodHandle" ∧ z.cls ≠ "java/lang/invoke/VarHandle") (C : CtrW l Z EL z' bc' ml' rt' rm (.ref a :: argsL).toArray h n0 Q) (E : Exa Z h a K) (pd : parseMethodDescriptor z.desc = some ⟨ps, ro⟩) (hlen : argsL.length = ps.length) (hS : S = argsL.reverse ++ .ref a :: rest) (hml : L.size = ml)
    (hW : (rest.map fun v => v.category).sum ≤ W) (hf : rm.frames + 1 ≤ R.frames) (hlo : W + (ml' + 11) + rm.locals ≤ R.locals) {k' n' : Nat} (hk : k + rm.cells = k') (hn' : n + rm.slots = n') (hc : k' ≤ R.cells) (hl : n' ≤ R.slots) (hp : pc + 3 = pc') :
    ∃ v vm1 h', Q v h' ∧ Wd Z EL s hs vm1 h' ∧ CHr Z EL vm0 h vm1 h' ∧ Rch p l e R (s.setVm vm1) m args below meth c Z y bc ml rt n0 T0 g0 k' n' h' (mkF m pc' L (v.toList ++ rest)) := by
  subst hp hS hk hn'
  obtain ⟨q, T, locs, X, eT, N, st⟩ := r
  obtain ⟨⟨k0, hS, hk0⟩, hC⟩ := wd
  obtain ⟨cq, kq, qa, qb, qc⟩ := isOf q.2.2.2.2.1 eT E
  obtain ⟨v, _, ⟨T', L', kk', nn'⟩, -, X', hS2, hg, ⟨Lc, hQ, l1, y1, z1, C'⟩, st'⟩ := X.virtualBackS q.1 (y := z) (z := z') q.2.2.2.1 (mvT q.2.2.2.2.1 w1) (mvT q.2.2.2.2.1 w2) nf (mvT q.2.2.2.2.1 w5) (mvT q.2.2.2.2.1 w6) hy (backOfSH (W := W) (Q := fun v h L => Fr n0 L ∧ Q v h) (C []) (show Z.Warmed39 vm0 from q.2.2.2.2.1) w4 w3 hf hlo hEL hC.1) qa qc (g := mkF m pc L (argsL.reverse ++ .ref a :: rest)) rfl (by rw [q.2.2.1]; exact hml) (Steps.refl _) (argsL := argsL) (rest := rest) (lenOf pd hlen) rfl (by simpa using hW) (hb q.2.1 hd) (fun _ _ => ⟨rfl, eT, hc, hl⟩)
  dsimp only [Pt.U, Pt.locs, Pt.cells, Pt.slots] at X' l1 y1 z1 st' hQ C' hS2 hg
  subst l1 y1 z1
  refine ⟨v, T'.vm, T'.heap, hQ.2, ⟨⟨_, hS.trans hS2 (Nat.le_trans hk0 (by rw [← eT]; exact hg)), Nat.le_refl _⟩, hC.trans C'⟩, C', ⟨q.1, q.2.1, q.2.2.1, (hS2.1.alike.findClass _ _).trans q.2.2.2.1, State.Warmed39.trans q.2.2.2.2.1 hS2.1, q.2.2.2.2.2⟩, T', _, X', rfl, N.app hQ.1, fun t u => st t (st'.trans u)⟩
theorem Rch.callSW {hs : Heap} {z : MethodName} {bc' : ByteArray} {ml' : Nat} {rt' : Option FieldType} {rm : Room} {idx : Nat} {ps : List FieldType} {ro : Option FieldType} {Q : Option Value → Heap → Prop} (argsL : List Value) {rest : List Value} (W : Nat)
    (r : Rch p l e R (s.setVm vm0) m args below meth c Z y bc ml rt n0 T0 g0 k n h (mkF m pc L S)) (wd : Wd Z EL s hs vm0 h) (hEL : EW Z a0 EL) (hd : decode bc pc = .ok (.invokestatic idx, 3)) (w1 : (Jvm.Cond.methodLink y.cls idx z).before a0 Z = true) (w2 : (Jvm.Cond.static z).before a0 Z = true) (w3 : (Jvm.Cond.initialized z.cls).before a0 Z = true) (w4 : (Jvm.Cond.code z bc' ml' rt').before a0 Z = true)
    (hy : z.cls ≠ "java/lang/invoke/MethodHandle" ∧ z.cls ≠ "java/lang/invoke/VarHandle") (C : CtrW l Z EL z bc' ml' rt' rm argsL.toArray h n0 Q) (pd : parseMethodDescriptor z.desc = some ⟨ps, ro⟩) (hlen : argsL.length = ps.length) (hS : S = argsL.reverse ++ rest) (hml : L.size = ml)
    (hW : (rest.map fun v => v.category).sum ≤ W) (hf : rm.frames + 1 ≤ R.frames) (hlo : W + (ml' + 11) + rm.locals ≤ R.locals) {k' n' : Nat} (hk : k + rm.cells = k') (hn' : n + rm.slots = n') (hc : k' ≤ R.cells) (hl : n' ≤ R.slots) (hp : pc + 3 = pc') :
    ∃ v vm1 h', Q v h' ∧ Wd Z EL s hs vm1 h' ∧ CHr Z EL vm0 h vm1 h' ∧ Rch p l e R (s.setVm vm1) m args below meth c Z y bc ml rt n0 T0 g0 k' n' h' (mkF m pc' L (v.toList ++ rest)) := by
  subst hp hS hk hn'
  obtain ⟨q, T, locs, X, eT, N, st⟩ := r
  obtain ⟨⟨k0, hS, hk0⟩, hC⟩ := wd
  obtain ⟨v, _, ⟨T', L', kk', nn'⟩, -, X', hS2, hg, ⟨Lc, hQ, l1, y1, z1, C'⟩, st'⟩ := callSS X q.1 (y := z) q.2.2.2.1 (mvT q.2.2.2.2.1 w1) (mvT q.2.2.2.2.1 w2) (mvT q.2.2.2.2.1 w3) (mvT q.2.2.2.2.1 w4) hy (backOfSH (W := W) (Q := fun v h L => Fr n0 L ∧ Q v h) (C []) (show Z.Warmed39 vm0 from q.2.2.2.2.1) w4 w3 hf hlo hEL hC.1) (g := mkF m pc L (argsL.reverse ++ rest)) rfl (by rw [q.2.2.1]; exact hml) (argsL := argsL) (rest := rest) (lenOf pd hlen) rfl (by simpa using hW) (hb q.2.1 hd) (fun _ _ => ⟨rfl, eT, hc, hl⟩)
  dsimp only [Pt.U, Pt.locs, Pt.cells, Pt.slots] at X' l1 y1 z1 st' hQ C' hS2 hg
  subst l1 y1 z1
  refine ⟨v, T'.vm, T'.heap, hQ.2, ⟨⟨_, hS.trans hS2 (Nat.le_trans hk0 (by rw [← eT]; exact hg)), Nat.le_refl _⟩, hC.trans C'⟩, C', ⟨q.1, q.2.1, q.2.2.1, (hS2.1.alike.findClass _ _).trans q.2.2.2.1, State.Warmed39.trans q.2.2.2.2.1 hS2.1, q.2.2.2.2.2⟩, T', _, X', rfl, N.app hQ.1, fun t u => st t (st'.trans u)⟩
theorem Don.wide {hs : Heap} {v : Option Value} (d : Don p l e R (s.setVm vm0) m args below meth c rt n0 T0 g0 v h) {g : JFrame} (r : Rch p l e R (s.setVm vm0) m args below meth c Z y bc ml rt n0 T0 g0 k n h g) (w : Wd Z EL s hs vm0 h) : DonW p l e R s m args below meth c rt n0 T0 g0 Z EL hs v h := ⟨vm0, d, w, r.1.2.2.2.2.1⟩
-- class tests
theorem Rch.instY {idx : Nat} {K : String} {a : Addr} (r : Rch p l e R s m args below meth c Z y bc ml rt n0 T0 g0 k n h (mkF m pc L (.ref a :: S))) (hd : decode bc pc = .ok (.instanceof idx, 3)) (w : (Jvm.Cond.classLink y.cls idx K).before a0 Z = true) (F : Ins Z h a K true) (hp : pc + 3 = pc') : Rch p l e R s m args below meth c Z y bc ml rt n0 T0 g0 k n h (mkF m pc' L (.int 1 :: S)) := by
  subst hp; exact r.keep fun T locs X eT => instY X r.1.1 r.1.2.2.2.2.1 r.1.2.2.2.1 w eT F (g := mkF m pc L (.ref a :: S)) rfl rfl (hb r.1.2.1 hd)
theorem Rch.castY {idx : Nat} {K : String} {a : Addr} (r : Rch p l e R s m args below meth c Z y bc ml rt n0 T0 g0 k n h (mkF m pc L (.ref a :: S))) (hd : decode bc pc = .ok (.checkcast idx, 3)) (w : (Jvm.Cond.classLink y.cls idx K).before a0 Z = true) (F : Ins Z h a K true) (hp : pc + 3 = pc') : Rch p l e R s m args below meth c Z y bc ml rt n0 T0 g0 k n h (mkF m pc' L (.ref a :: S)) := by
  subst hp; exact r.keep fun T locs X eT => castY X r.1.1 r.1.2.2.2.2.1 r.1.2.2.2.1 w eT F (g := mkF m pc L (.ref a :: S)) rfl rfl (hb r.1.2.1 hd)
end OwnWide
section OwnMore
variable {p : Program} {l : Launch} {e : Env} {R : Room} {s : State} {m : MethodId} {args : Array Value} {below : List Frame} {meth : Method} {c : Code} {Z : State} {y : MethodName} {bc : ByteArray} {ml : Nat} {rt : Option FieldType} {n0 : Nat} {T0 : State} {g0 : JFrame} {k n : Nat} {h : Heap} {a0 : Array Value} {pc pc' : Nat} {L : Array Slot} {S : List Value}
theorem mvFl {Z s : State} {a0 a1 : Array Value} {K : String} {i : Nat} {w : UInt32} (hZ : Z.Warmed39 s.vm) (hc : (Jvm.Cond.constantFloat K i w).before a0 Z = true) : (Jvm.Cond.constantFloat K i w).before a1 s = true :=
  Lib.constantFloat_same (s := Z.setVm s.vm) (s' := s) rfl ((Cond.constantFloat_setVm hZ.alike K i w).trans hc)
theorem Rch.ldcF (r : Rch p l e R s m args below meth c Z y bc ml rt n0 T0 g0 k n h (mkF m pc L S)) {i : Nat} {w : UInt32} (hd : decode bc pc = .ok (.ldc i, 2)) (hc : (Jvm.Cond.constantFloat y.cls i w).before a0 Z = true) (hp : pc + 2 = pc') : Rch p l e R s m args below meth c Z y bc ml rt n0 T0 g0 k n h (mkF m pc' L (.float w :: S)) := by
  subst hp; exact r.pure fun T locs X eT t z => X.ldcFloatC r.1.1 r.1.2.2.2.1 (mvFl r.1.2.2.2.2.1 hc) (g := mkF m pc L S) rfl (hb r.1.2.1 hd) t z
theorem safe0 {vm : Vm} {x : Addr} : Safe Z [] vm h x := fun ⟨_, hp, _⟩ => by cases hp
theorem chv0 {vm : Vm} : CHv Z [] vm h := fun _ hp => by cases hp
theorem Rch.callI {xi z' : MethodName} {K : String} {bc' : ByteArray} {ml' : Nat} {rt' : Option FieldType} {rm : Room} {idx cnt : Nat} {ps : List FieldType} {ro : Option FieldType} {Q : Option Value → Heap → Prop} {a : Addr} (argsL : List Value) {rest : List Value} (W : Nat)
    (r : Rch p l e R s m args below meth c Z y bc ml rt n0 T0 g0 k n h (mkF m pc L S)) (hd : decode bc pc = .ok (.invokeinterface idx cnt, 5)) (w1 : (Jvm.Cond.methodLink y.cls idx xi).before a0 Z = true) (w2 : (Jvm.Cond.declares xi).before a0 Z = true) (w7 : (Jvm.Cond.interfaceMethod xi.cls xi.cls xi.name xi.desc).before a0 Z = true) (w5 : (Jvm.Cond.selects K xi z').before a0 Z = true) (w6 : (Jvm.Cond.instanceMethod z').before a0 Z = true) (w8 : (Jvm.Cond.publicMethod z').before a0 Z = true) (w9 : (Jvm.Cond.unhidden K xi.name xi.desc).before a0 Z = true) (w10 : (Jvm.Cond.castable K xi.cls).before a0 Z = true) (w3 : (Jvm.Cond.initialized z'.cls).before a0 Z = true) (w4 : (Jvm.Cond.code z' bc' ml' rt').before a0 Z = true)
    (hy : xi.cls ≠ "java/lang/invoke/MethodHandle" ∧ xi.cls ≠ "java/lang/invoke/VarHandle") (C : Ctr l Z z' bc' ml' rt' rm (.ref a :: argsL).toArray h n0 Q) (E : Exa Z h a K) (pd : parseMethodDescriptor xi.desc = some ⟨ps, ro⟩) (hlen : argsL.length = ps.length) (hS : S = argsL.reverse ++ .ref a :: rest) (hml : L.size = ml)
    (hW : (rest.map fun v => v.category).sum ≤ W) (hf : rm.frames + 1 ≤ R.frames) (hlo : W + (ml' + 11) + rm.locals ≤ R.locals) {k' n' : Nat} (hk : k + rm.cells = k') (hn' : n + rm.slots = n') (hc : k' ≤ R.cells) (hl : n' ≤ R.slots) (hp : pc + 5 = pc') :
    ∃ v h', Q v h' ∧ Rch p l e R s m args below meth c Z y bc ml rt n0 T0 g0 k' n' h' (mkF m pc' L (v.toList ++ rest)) := by
  subst hp hS hk hn'
  obtain ⟨q, T, locs, X, eT, N, st⟩ := r
  obtain ⟨cq, kq, qa, qb, qc⟩ := isOf q.2.2.2.2.1 eT E
  obtain ⟨v, _, ⟨T', L', kk', nn'⟩, -, X', ⟨Lc, hQ, l1, y1, z1⟩, st'⟩ := X.interfaceBack q.1 (xi := xi) (y := z') q.2.2.2.1 (mvT q.2.2.2.2.1 w1) (mvT q.2.2.2.2.1 w2) (mvT q.2.2.2.2.1 w7 (by simp [Cond.onTables, Cond.keepsFace, Cond.keeps, Cond.steady, Cond.faceAtom, hy.1, hy.2])) (mvT q.2.2.2.2.1 w5) (mvT q.2.2.2.2.1 w6) (mvT q.2.2.2.2.1 w8) (mvT q.2.2.2.2.1 w9) (mvT q.2.2.2.2.1 w10) hy (backOf (W := W) (Q := fun v h L => Fr n0 L ∧ Q v h) (C []) q.2.2.2.2.1 w4 w3 hf hlo) qa qb qc (g := mkF m pc L (argsL.reverse ++ .ref a :: rest)) rfl (by rw [q.2.2.1]; exact hml) (Steps.refl _) (argsL := argsL) (rest := rest) (lenOf pd hlen) rfl (by simpa using hW) (hb q.2.1 hd) (fun _ _ => ⟨rfl, eT, hc, hl⟩)
  dsimp only [Pt.U, Pt.locs, Pt.cells, Pt.slots] at X' l1 y1 z1 st' hQ
  subst l1 y1 z1
  exact ⟨v, T'.heap, hQ.2, q, T', _, X', rfl, N.app hQ.1, fun t u => st t (st'.trans u)⟩
end OwnMore

section OwnX
open Jvm.Free.SB Jvm.Free.SBG
variable {p : Program} {l : Launch} {e : Env} {R : Room} {s : State} {m : MethodId} {args : Array Value} {below : List Frame} {meth : Method} {c : Code} {Z : State} {y : MethodName} {bc : ByteArray} {ml : Nat} {rt : Option FieldType} {n0 : Nat} {T0 : State} {g0 : JFrame} {k n : Nat} {h : Heap} {a0 : Array Value} {pc pc' : Nat} {L : Array Slot} {S : List Value} {EL : List (String × Nat)} {vm0 : Vm} {k0 : Nat}
theorem Rch.hal {g : JFrame} (r : Rch p l e R (s.setVm vm0) m args below meth c Z y bc ml rt n0 T0 g0 k n h g) : Z.vm.Alike vm0 := (show Z.Warmed39 vm0 from r.1.2.2.2.2.1).alike
/-- a String whose value is still null is no booked constant -/
theorem Safe.nul {vm : Vm} {x : Addr} (hal : Z.vm.Alike vm) (E : Exa Z h x "java/lang/String") (G : Fld Z h x "java/lang/String" "value" "[B" .null) : Safe Z EL vm h x := fun B => by
  obtain ⟨p, -, u, a, -, q, -, F, rfl | rfl⟩ := B
  · obtain ⟨cell, cf, kk, i, f, e1, ff, -, -, -, -, e2⟩ := G
    cases (show h[q.sa]? = some q.sC from F.ha).symm.trans e1
    obtain ⟨cS, ⟨⟨-, -, -, ⟨c1, k1, i1, f1, -⟩, -, -, -, v1, -⟩, -⟩, -⟩ := F
    obtain ⟨k3, e3, -⟩ := State.fieldFound?_setVm (s := ({ Z with heap := h } : State)) hal (show ({ Z with heap := h } : State).fieldFound? "java/lang/String" "value" "[B" = some (cf, kk, i, f) from ff)
    have e4 := e3.symm.trans f1
    simp only [Option.some.injEq, Prod.mk.injEq] at e4
    rw [← e4.2.2.2, e2] at v1
    simp at v1
  · obtain ⟨cell, kk, e1, e2, e3, -, -⟩ := E
    cases (show h[q.sd]? = some q.SA from F.hd).symm.trans e1
    obtain ⟨cS, -, -, f, -⟩ := F
    rw [show (Wst Z vm h).vm.findClass "[B" = vm.findClass "[B" from rfl, hal.findClass] at f
    obtain ⟨k1, q1, q2⟩ := Vm.findClass_spec f
    obtain ⟨k2, q3, q4⟩ := Vm.findClass_spec e2
    cases q1.symm.trans q3
    exact absurd (q2.symm.trans q4) (by decide)
/-- a wide constructor's call -/
theorem Rch.callCW {hs : Heap} {z : MethodName} {bc' : ByteArray} {ml' : Nat} {rm : Room} {idx : Nat} {ps : List FieldType} {ro : Option FieldType} {Q : Option Value → Heap → Prop} {a : Addr} (argsL : List Value) {rest : List Value} (W : Nat)
    (r : Rch p l e R (s.setVm vm0) m args below meth c Z y bc ml rt n0 T0 g0 k n h (mkF m pc L S)) (wd : Wd Z EL s hs vm0 h) (hEL : EW Z a0 EL) (hd : decode bc pc = .ok (.invokespecial idx, 3)) (hi : z.name = "<init>") (w1 : (Jvm.Cond.methodLink y.cls idx z).before a0 Z = true) (w2 : (Jvm.Cond.instanceMethod z).before a0 Z = true) (w3 : (Jvm.Cond.initialized z.cls).before a0 Z = true) (w4 : (Jvm.Cond.code z bc' ml' none).before a0 Z = true)
    (hy : z.cls ≠ "java/lang/invoke/MethodHandle" ∧ z.cls ≠ "java/lang/invoke/VarHandle") (C : CtrW l Z EL z bc' ml' none rm (.ref a :: argsL).toArray h n0 Q) (pd : parseMethodDescriptor z.desc = some ⟨ps, ro⟩) (hlen : argsL.length = ps.length) (hS : S = argsL.reverse ++ .ref a :: rest) (hml : L.size = ml)
    (hW : (rest.map fun v => v.category).sum ≤ W) (hf : rm.frames + 1 ≤ R.frames) (hlo : W + (ml' + 11) + rm.locals ≤ R.locals) {k' n' : Nat} (hk : k + rm.cells = k') (hn' : n + rm.slots = n') (hc : k' ≤ R.cells) (hl : n' ≤ R.slots) (hp : pc + 3 = pc') :
    ∃ v vm1 h', Q v h' ∧ Wd Z EL s hs vm1 h' ∧ CHr Z EL vm0 h vm1 h' ∧ Rch p l e R (s.setVm vm1) m args below meth c Z y bc ml rt n0 T0 g0 k' n' h' (mkF m pc' L (v.toList ++ rest)) := by
  subst hp hS hk hn'
  obtain ⟨q, T, locs, X, eT, N, st⟩ := r
  obtain ⟨⟨k0, hS, hk0⟩, hC⟩ := wd
  obtain ⟨v, _, ⟨T', L', kk', nn'⟩, -, X', hS2, hg, ⟨Lc, hQ, l1, y1, z1, C'⟩, st'⟩ := X.specialBackS q.1 (y := z) hi q.2.2.2.1 (mvT q.2.2.2.2.1 w1) (mvT q.2.2.2.2.1 w2) (mvT q.2.2.2.2.1 w4) hy (backOfSH (W := W) (Q := fun v h L => Fr n0 L ∧ Q v h) (C []) (show Z.Warmed39 vm0 from q.2.2.2.2.1) w4 w3 hf hlo hEL hC.1) (g := mkF m pc L (argsL.reverse ++ .ref a :: rest)) rfl (by rw [q.2.2.1]; exact hml) (Steps.refl _) (a := a) (argsL := argsL) (rest := rest) (lenOf pd hlen) rfl (by simpa using hW) (hb q.2.1 hd) (fun _ _ => ⟨rfl, eT, hc, hl⟩)
  dsimp only [Pt.U, Pt.locs, Pt.cells, Pt.slots] at X' l1 y1 z1 st' hQ C' hS2 hg
  subst l1 y1 z1
  refine ⟨v, T'.vm, T'.heap, hQ.2, ⟨⟨_, hS.trans hS2 (Nat.le_trans hk0 (by rw [← eT]; exact hg)), Nat.le_refl _⟩, hC.trans C'⟩, C', ⟨q.1, q.2.1, q.2.2.1, (hS2.1.alike.findClass _ _).trans q.2.2.2.1, State.Warmed39.trans q.2.2.2.2.1 hS2.1, q.2.2.2.2.2⟩, T', _, X', rfl, N.app hQ.1, fun t u => st t (st'.trans u)⟩
end OwnX

def Str (Z : State) (h : Heap) (a b : Addr) (cd z : Int32) (F : List Int32) : Prop := Exa Z h a "java/lang/String" ∧ Fld Z h a "java/lang/String" "coder" "B" (.int cd) ∧ Fld Z h a "java/lang/String" "value" "[B" (.ref b) ∧ ArB Z h b z F
theorem Str.ext {Z : State} {h h' : Heap} {a b : Addr} {cd z : Int32} {F : List Int32} (s : Str Z h a b cd z F) (E : Ext h h') : Str Z h' a b cd z F := ⟨s.1.ext E, s.2.1.ext E, s.2.2.1.ext E, s.2.2.2.ext E⟩
theorem Str.keep {Z : State} {h h' : Heap} {a b : Addr} {cd z : Int32} {F : List Int32} {ws : List Addr} (s : Str Z h a b cd z F) (K : Keep h h' ws) (q1 : a ∉ ws) (q2 : b ∉ ws) : Str Z h' a b cd z F := ⟨s.1.keep K, s.2.1.keep K q1, s.2.2.1.keep K q1, s.2.2.2.keep K q2⟩
theorem Str.lt {Z : State} {h : Heap} {a b : Addr} {cd z : Int32} {F : List Int32} (s : Str Z h a b cd z F) : a < h.size := s.1.lt
def chr0 (F : List Int32) (k : Nat) : Int32 := nar .char ((F.getD k 0 &&& (255 : Int32)).toUInt32.toUInt16.toUInt32.toInt32)
def chr1 (F : List Int32) (k : Nat) : Int32 := nar .char (StrChars.pairCh (F.getD (2 * k) 0) (F.getD (2 * k + 1) 0))
theorem nar_idem (x : Int32) : nar .char (nar .char x) = nar .char x := by
  show x.toUInt32.toUInt16.toUInt32.toInt32.toUInt32.toUInt16.toUInt32.toInt32 = x.toUInt32.toUInt16.toUInt32.toInt32
  rw [UInt32.toUInt32_toInt32, UInt16.toUInt16_toUInt32]
theorem nar_rng (x : Int32) : ¬ nar .char x < 0 ∧ ¬ 65535 < nar .char x := by
  have hn : (nar .char x).toBitVec.toNat < 65536 := by
    have q := x.toUInt32.toUInt16.toNat_lt
    show x.toUInt32.toUInt16.toUInt32.toNat < 65536
    rw [UInt16.toNat_toUInt32]
    exact q
  have hc : (nar .char x).toInt = (nar .char x).toBitVec.toNat := by
    have e : (nar .char x).toInt = (nar .char x).toBitVec.toInt := rfl
    rw [e, BitVec.toInt_eq_toNat_cond]
    split <;> omega
  rw [Int32.lt_iff_toInt_lt, Int32.lt_iff_toInt_lt, hc]
  have e0 : (0 : Int32).toInt = 0 := rfl
  have e1 : (65535 : Int32).toInt = 65535 := rfl
  omega
theorem ArC.safe {Z : State} {h : Heap} {a : Addr} {z : Int32} {F : List Int32} {EL : List (String × Nat)} {vm : Vm} (V : ArC Z h a z F) (hal : Z.vm.Alike vm) : Safe Z EL vm h a := by
  obtain ⟨kc, cl, A, -⟩ := V
  exact Safe.arr hal A (by decide)
theorem i_lt1 {i : Int32} (h1 : ¬ i < 0) (h2 : i < 1) : i = 0 := by
  rw [Int32.lt_iff_toInt_lt] at h1 h2
  apply Int32.toInt_inj.mp
  have e0 : (0 : Int32).toInt = 0 := rfl
  have e1 : (1 : Int32).toInt = 1 := rfl
  omega
theorem i_lt2 {i : Int32} (h1 : ¬ i < 0) (h2 : i < 2) : i = 0 ∨ i = 1 := by
  rw [Int32.lt_iff_toInt_lt] at h1 h2
  rw [← Int32.toInt_inj, ← Int32.toInt_inj]
  have e0 : (0 : Int32).toInt = 0 := rfl
  have e1 : (1 : Int32).toInt = 1 := rfl
  have e2 : (2 : Int32).toInt = 2 := rfl
  omega
theorem i_lt3 {i : Int32} (h1 : ¬ i < 0) (h2 : i < 3) : i = 0 ∨ i = 1 ∨ i = 2 := by
  rw [Int32.lt_iff_toInt_lt] at h1 h2
  rw [← Int32.toInt_inj, ← Int32.toInt_inj, ← Int32.toInt_inj]
  have e0 : (0 : Int32).toInt = 0 := rfl
  have e1 : (1 : Int32).toInt = 1 := rfl
  have e2 : (2 : Int32).toInt = 2 := rfl
  have e3 : (3 : Int32).toInt = 3 := rfl
  omega
theorem nar_of {x : Int32} (h0 : ¬ x < 0) (h1 : ¬ 65535 < x) : nar .char x = x := by
  have e := StrChars.pair_says h0 h1
  rw [← e]
  show nar .char (nar .char _) = nar .char _
  exact nar_idem _
theorem chr0_at {F : List Int32} {k : Nat} {x : Int32} (hF : F.getD k 0 = nar .byte (x.toInt8.toInt32)) (h0 : ¬ x < 0) (h1 : ¬ 255 < x) : chr0 F k = x := by
  have e : nar .byte (x.toInt8.toInt32) = StrChars.lo8 x := by simp [nar, StrChars.lo8]
  have h2 : ¬ 65535 < x := by rw [Int32.lt_iff_toInt_lt] at h1 ⊢; have e1 : (255 : Int32).toInt = 255 := rfl; have e2 : (65535 : Int32).toInt = 65535 := rfl; omega
  unfold chr0
  rw [hF, e, StrChars.lo8_mask h0 h1]
  show nar .char (nar .char x) = x
  rw [nar_idem, nar_of h0 h2]
theorem chr1_at {F : List Int32} {k : Nat} {x : Int32} (hF : F.getD (2 * k) 0 = nar .byte ((x >>> ((0 : Int32) &&& 31)).toInt8.toInt32)) (hG : F.getD (2 * k + 1) 0 = nar .byte ((x >>> ((8 : Int32) &&& 31)).toInt8.toInt32)) (h0 : ¬ x < 0) (h1 : ¬ 65535 < x) : chr1 F k = x := by
  have e : nar .byte ((x >>> ((0 : Int32) &&& 31)).toInt8.toInt32) = StrChars.lo8 x := by rw [StrChars.shr0]; simp [nar, StrChars.lo8]
  have e' : nar .byte ((x >>> ((8 : Int32) &&& 31)).toInt8.toInt32) = StrChars.hi8 x := by simp [nar, StrChars.lo8, StrChars.hi8]
  unfold chr1
  rw [hF, hG, e, e', StrChars.pair_says h0 h1, nar_of h0 h1]
def ChF (cd z : Int32) (F : List Int32) (ln : Int32) (c : Nat → Int32) : Prop := (cd = 0 ∧ z = ln ∧ c = chr0 F) ∨ (cd = 1 ∧ ((ln = 1 ∧ z = 2) ∨ (ln = 2 ∧ z = 4) ∨ (ln = 3 ∧ z = 6)) ∧ c = chr1 F)
def Stt (Z : State) (cs : Int32) (vF : Value) : Prop := (Sta Z Z.heap "java/lang/String" "COMPACT_STRINGS" "Z" (.int cs) ∧ ¬ cs = 0) ∧ (Sta Z Z.heap "jdk/internal/util/Preconditions" "SIOOBE_FORMATTER" "Ljava/util/function/BiFunction;" vF ∧ vF.isRef = true) ∧ Sta Z Z.heap "java/lang/StringUTF16" "$assertionsDisabled" "Z" (.int (1 : Int32)) ∧ Sta Z Z.heap "java/lang/StringUTF16" "HI_BYTE_SHIFT" "I" (.int (0 : Int32)) ∧ Sta Z Z.heap "java/lang/StringUTF16" "LO_BYTE_SHIFT" "I" (.int (8 : Int32))
theorem pn_java_lang_String : plainName "java/lang/String" = true := by first | (simp [plainName, overriddenIn]; done) | decide +kernel
theorem d8_0 : decode jdk_42_method_152_code 0 = .ok (.getstatic 38, 3) := by decide +kernel
theorem d8_3 : decode jdk_42_method_152_code 3 = .ok (.ifCond .eq 10, 3) := by decide +kernel
theorem d8_6 : decode jdk_42_method_152_code 6 = .ok (.aload_n 0, 1) := by decide +kernel
theorem d8_7 : decode jdk_42_method_152_code 7 = .ok (.getfield 15, 3) := by decide +kernel
theorem d8_10 : decode jdk_42_method_152_code 10 = .ok (.goto 4, 3) := by decide +kernel
theorem d8_14 : decode jdk_42_method_152_code 14 = .ok (.ireturn, 1) := by decide +kernel
set_option maxRecDepth 65536 in
set_option maxHeartbeats 40000000 in
theorem s_coder0 (l : Launch) (Z : State) (a0 : Array Value) (hw : ∀ d ∈ tables_1, d.before a0 Z = true) (a : Addr) (h0 : Heap) (n0 : Nat) (F : Fld Z h0 a "java/lang/String" "coder" "B" (.int (0 : Int32))) (cs : Int32) (vF : Value) (SS : Stt Z cs vF) (O0 : Old Z n0 h0) :
    Ctr l Z (⟨"java/lang/String", "coder", "()B"⟩ : MethodName) jdk_42_method_152_code 1 (some .byte) ({ frames := 0, cells := 0, slots := 0, locals := 0 } : Room) #[(.ref a)] h0 n0 (fun v h => v = some (.int 0) ∧ h0 = h) := by
  refine ent (plainFor_of_name pn_java_lang_String) (L0 := #[.val (.ref a)]) (fun m => by first | (simp [entryFrame, mkF, argsToLocals, Value.category]; done) | rfl) ?_
  intro p e s m below meth c T0 r0
  have r1 := r0.getS (host := "") (pc' := 3) d8_0 (Or.inl (hw _ (List.mem_of_getElem? (i := 49) rfl))) Via.refl (SS.1.1.ext (O0).2) rfl
  have r2 := r1.ifF (pc' := 6) d8_3 (feq SS.1.2).1 rfl
  have r3 := r2.aloadN (pc' := 7) d8_6 rfl rfl rfl
  have r4 := r3.getF (host := "") (pc' := 10) d8_7 (Or.inl (hw _ (List.mem_of_getElem? (i := 27) rfl))) Via.refl F rfl
  have r5 := r4.goto (pc' := 14) d8_10 (by decide) (by decide)
  exact ⟨_, _, r5.retZ d8_14 rfl (t := .byte) (by simp) (0 : Int32) rfl (by decide) (by decide), rfl, rfl⟩
theorem d10_0 : decode jdk_42_method_154_code 0 = .ok (.getstatic 38, 3) := by decide +kernel
theorem d10_3 : decode jdk_42_method_154_code 3 = .ok (.ifCond .eq 14, 3) := by decide +kernel
theorem d10_6 : decode jdk_42_method_154_code 6 = .ok (.aload_n 0, 1) := by decide +kernel
theorem d10_7 : decode jdk_42_method_154_code 7 = .ok (.getfield 15, 3) := by decide +kernel
theorem d10_10 : decode jdk_42_method_154_code 10 = .ok (.ifCond .ne 7, 3) := by decide +kernel
theorem d10_13 : decode jdk_42_method_154_code 13 = .ok (.iconst 1, 1) := by decide +kernel
theorem d10_14 : decode jdk_42_method_154_code 14 = .ok (.goto 4, 3) := by decide +kernel
theorem d10_18 : decode jdk_42_method_154_code 18 = .ok (.ireturn, 1) := by decide +kernel
set_option maxRecDepth 65536 in
set_option maxHeartbeats 40000000 in
theorem s_isl0 (l : Launch) (Z : State) (a0 : Array Value) (hw : ∀ d ∈ tables_1, d.before a0 Z = true) (a : Addr) (h0 : Heap) (n0 : Nat) (F : Fld Z h0 a "java/lang/String" "coder" "B" (.int (0 : Int32))) (cs : Int32) (vF : Value) (SS : Stt Z cs vF) (O0 : Old Z n0 h0) :
    Ctr l Z (⟨"java/lang/String", "isLatin1", "()Z"⟩ : MethodName) jdk_42_method_154_code 1 (some .boolean) ({ frames := 0, cells := 0, slots := 0, locals := 0 } : Room) #[(.ref a)] h0 n0 (fun v h => v = some (.int 1) ∧ h0 = h) := by
  refine ent (plainFor_of_name pn_java_lang_String) (L0 := #[.val (.ref a)]) (fun m => by first | (simp [entryFrame, mkF, argsToLocals, Value.category]; done) | rfl) ?_
  intro p e s m below meth c T0 r0
  have r6 := r0.getS (host := "") (pc' := 3) d10_0 (Or.inl (hw _ (List.mem_of_getElem? (i := 49) rfl))) Via.refl (SS.1.1.ext (O0).2) rfl
  have r7 := r6.ifF (pc' := 6) d10_3 (feq SS.1.2).1 rfl
  have r8 := r7.aloadN (pc' := 7) d10_6 rfl rfl rfl
  have r9 := r8.getF (host := "") (pc' := 10) d10_7 (Or.inl (hw _ (List.mem_of_getElem? (i := 27) rfl))) Via.refl F rfl
  have r10 := r9.ifF (pc' := 13) d10_10 (teq (by decide : (0 : Int32) = (0 : Int32))).2 rfl
  have r11 := r10.iconst (pc' := 14) (1 : Int32) d10_13 rfl rfl
  have r12 := r11.goto (pc' := 18) d10_14 (by decide) (by decide)
  exact ⟨_, _, r12.retZ d10_18 rfl (t := .boolean) (by simp) (1 : Int32) rfl (by decide) (by decide), rfl, rfl⟩
theorem d7_0 : decode jdk_42_method_54_code 0 = .ok (.aload_n 0, 1) := by decide +kernel
theorem d7_1 : decode jdk_42_method_54_code 1 = .ok (.getfield 9, 3) := by decide +kernel
theorem d7_4 : decode jdk_42_method_54_code 4 = .ok (.arraylength, 1) := by decide +kernel
theorem d7_5 : decode jdk_42_method_54_code 5 = .ok (.aload_n 0, 1) := by decide +kernel
theorem d7_6 : decode jdk_42_method_54_code 6 = .ok (.invokevirtual 335, 3) := by decide +kernel
theorem pd_0 : parseMethodDescriptor "()B" = some ⟨[], some .byte⟩ := by decide +kernel
theorem d7_9 : decode jdk_42_method_54_code 9 = .ok (.ishr, 1) := by decide +kernel
theorem d7_10 : decode jdk_42_method_54_code 10 = .ok (.ireturn, 1) := by decide +kernel
set_option maxRecDepth 65536 in
set_option maxHeartbeats 40000000 in
theorem s_len0 (l : Launch) (Z : State) (a0 : Array Value) (hw : ∀ d ∈ tables_1, d.before a0 Z = true) (a b : Addr) (z ln : Int32) (F : List Int32) (h0 : Heap) (n0 : Nat) (A : Str Z h0 a b (0 : Int32) z F) (hz : z >>> ((0 : Int32) &&& 31) = ln) (cs : Int32) (vF : Value) (SS : Stt Z cs vF) (O0 : Old Z n0 h0) :
    Ctr l Z (⟨"java/lang/String", "length", "()I"⟩ : MethodName) jdk_42_method_54_code 1 (some .int) ({ frames := 1, cells := 0, slots := 0, locals := 13 } : Room) #[(.ref a)] h0 n0 (fun v h => v = some (.int ln) ∧ h0 = h) := by
  refine ent (plainFor_of_name pn_java_lang_String) (L0 := #[.val (.ref a)]) (fun m => by first | (simp [entryFrame, mkF, argsToLocals, Value.category]; done) | rfl) ?_
  intro p e s m below meth c T0 r0
  have r13 := r0.aloadN (pc' := 1) d7_0 rfl rfl rfl
  have r14 := r13.getF (host := "") (pc' := 4) d7_1 (Or.inl (hw _ (List.mem_of_getElem? (i := 26) rfl))) Via.refl A.2.2.1 rfl
  have r15 := r14.lenB (pc' := 5) d7_4 A.2.2.2 rfl
  have r16 := r15.aloadN (pc' := 6) d7_5 rfl rfl rfl
  obtain ⟨v19, h20, hq18, r17⟩ := r16.callV (pc' := 9) (a := a) [] (rest := [(.int z)]) 1 d7_6 (hw _ (List.mem_of_getElem? (i := 44) rfl)) (hw _ (List.mem_of_getElem? (i := 45) rfl)) (r16.nface (hw _ (List.mem_of_getElem? (i := 47) rfl)) rfl) (hw _ (List.mem_of_getElem? (i := 47) rfl)) (hw _ (List.mem_of_getElem? (i := 46) rfl)) (hw _ (List.mem_of_getElem? (i := 8) rfl)) (hw _ (List.mem_of_getElem? (i := 48) rfl)) (by decide) (s_coder0 l Z a0 hw a h0 n0 A.2.1 cs vF SS O0) A.1 pd_0 rfl rfl rfl (Nat.le_of_ble_eq_true rfl) (by decide) (by decide) (k' := 0) (n' := 0) rfl rfl (by decide) (by decide) rfl
  obtain ⟨rfl, rfl⟩ := hq18
  dsimp only [Option.toList, List.cons_append, List.nil_append] at r17
  have r21 := r17.ishr (pc' := 10) (u := ln) d7_9 hz rfl
  exact ⟨_, _, r21.retI d7_10 rfl (by decide) (by decide), rfl, rfl⟩
set_option maxRecDepth 65536 in
set_option maxHeartbeats 40000000 in
theorem s_coder1 (l : Launch) (Z : State) (a0 : Array Value) (hw : ∀ d ∈ tables_1, d.before a0 Z = true) (a : Addr) (h0 : Heap) (n0 : Nat) (F : Fld Z h0 a "java/lang/String" "coder" "B" (.int (1 : Int32))) (cs : Int32) (vF : Value) (SS : Stt Z cs vF) (O0 : Old Z n0 h0) :
    Ctr l Z (⟨"java/lang/String", "coder", "()B"⟩ : MethodName) jdk_42_method_152_code 1 (some .byte) ({ frames := 0, cells := 0, slots := 0, locals := 0 } : Room) #[(.ref a)] h0 n0 (fun v h => v = some (.int 1) ∧ h0 = h) := by
  refine ent (plainFor_of_name pn_java_lang_String) (L0 := #[.val (.ref a)]) (fun m => by first | (simp [entryFrame, mkF, argsToLocals, Value.category]; done) | rfl) ?_
  intro p e s m below meth c T0 r0
  have r22 := r0.getS (host := "") (pc' := 3) d8_0 (Or.inl (hw _ (List.mem_of_getElem? (i := 49) rfl))) Via.refl (SS.1.1.ext (O0).2) rfl
  have r23 := r22.ifF (pc' := 6) d8_3 (feq SS.1.2).1 rfl
  have r24 := r23.aloadN (pc' := 7) d8_6 rfl rfl rfl
  have r25 := r24.getF (host := "") (pc' := 10) d8_7 (Or.inl (hw _ (List.mem_of_getElem? (i := 27) rfl))) Via.refl F rfl
  have r26 := r25.goto (pc' := 14) d8_10 (by decide) (by decide)
  exact ⟨_, _, r26.retZ d8_14 rfl (t := .byte) (by simp) (1 : Int32) rfl (by decide) (by decide), rfl, rfl⟩
theorem d10_17 : decode jdk_42_method_154_code 17 = .ok (.iconst 0, 1) := by decide +kernel
set_option maxRecDepth 65536 in
set_option maxHeartbeats 40000000 in
theorem s_isl1 (l : Launch) (Z : State) (a0 : Array Value) (hw : ∀ d ∈ tables_1, d.before a0 Z = true) (a : Addr) (h0 : Heap) (n0 : Nat) (F : Fld Z h0 a "java/lang/String" "coder" "B" (.int (1 : Int32))) (cs : Int32) (vF : Value) (SS : Stt Z cs vF) (O0 : Old Z n0 h0) :
    Ctr l Z (⟨"java/lang/String", "isLatin1", "()Z"⟩ : MethodName) jdk_42_method_154_code 1 (some .boolean) ({ frames := 0, cells := 0, slots := 0, locals := 0 } : Room) #[(.ref a)] h0 n0 (fun v h => v = some (.int 0) ∧ h0 = h) := by
  refine ent (plainFor_of_name pn_java_lang_String) (L0 := #[.val (.ref a)]) (fun m => by first | (simp [entryFrame, mkF, argsToLocals, Value.category]; done) | rfl) ?_
  intro p e s m below meth c T0 r0
  have r27 := r0.getS (host := "") (pc' := 3) d10_0 (Or.inl (hw _ (List.mem_of_getElem? (i := 49) rfl))) Via.refl (SS.1.1.ext (O0).2) rfl
  have r28 := r27.ifF (pc' := 6) d10_3 (feq SS.1.2).1 rfl
  have r29 := r28.aloadN (pc' := 7) d10_6 rfl rfl rfl
  have r30 := r29.getF (host := "") (pc' := 10) d10_7 (Or.inl (hw _ (List.mem_of_getElem? (i := 27) rfl))) Via.refl F rfl
  have r31 := r30.ifT (pc' := 17) d10_10 (feq (by decide : ¬ (1 : Int32) = (0 : Int32))).2 (by decide) (by decide)
  have r32 := r31.iconst (pc' := 18) (0 : Int32) d10_17 rfl rfl
  exact ⟨_, _, r32.retZ d10_18 rfl (t := .boolean) (by simp) (0 : Int32) rfl (by decide) (by decide), rfl, rfl⟩
set_option maxRecDepth 65536 in
set_option maxHeartbeats 40000000 in
theorem s_len1 (l : Launch) (Z : State) (a0 : Array Value) (hw : ∀ d ∈ tables_1, d.before a0 Z = true) (a b : Addr) (z ln : Int32) (F : List Int32) (h0 : Heap) (n0 : Nat) (A : Str Z h0 a b (1 : Int32) z F) (hz : z >>> ((1 : Int32) &&& 31) = ln) (cs : Int32) (vF : Value) (SS : Stt Z cs vF) (O0 : Old Z n0 h0) :
    Ctr l Z (⟨"java/lang/String", "length", "()I"⟩ : MethodName) jdk_42_method_54_code 1 (some .int) ({ frames := 1, cells := 0, slots := 0, locals := 13 } : Room) #[(.ref a)] h0 n0 (fun v h => v = some (.int ln) ∧ h0 = h) := by
  refine ent (plainFor_of_name pn_java_lang_String) (L0 := #[.val (.ref a)]) (fun m => by first | (simp [entryFrame, mkF, argsToLocals, Value.category]; done) | rfl) ?_
  intro p e s m below meth c T0 r0
  have r33 := r0.aloadN (pc' := 1) d7_0 rfl rfl rfl
  have r34 := r33.getF (host := "") (pc' := 4) d7_1 (Or.inl (hw _ (List.mem_of_getElem? (i := 26) rfl))) Via.refl A.2.2.1 rfl
  have r35 := r34.lenB (pc' := 5) d7_4 A.2.2.2 rfl
  have r36 := r35.aloadN (pc' := 6) d7_5 rfl rfl rfl
  obtain ⟨v39, h40, hq38, r37⟩ := r36.callV (pc' := 9) (a := a) [] (rest := [(.int z)]) 1 d7_6 (hw _ (List.mem_of_getElem? (i := 44) rfl)) (hw _ (List.mem_of_getElem? (i := 45) rfl)) (r36.nface (hw _ (List.mem_of_getElem? (i := 47) rfl)) rfl) (hw _ (List.mem_of_getElem? (i := 47) rfl)) (hw _ (List.mem_of_getElem? (i := 46) rfl)) (hw _ (List.mem_of_getElem? (i := 8) rfl)) (hw _ (List.mem_of_getElem? (i := 48) rfl)) (by decide) (s_coder1 l Z a0 hw a h0 n0 A.2.1 cs vF SS O0) A.1 pd_0 rfl rfl rfl (Nat.le_of_ble_eq_true rfl) (by decide) (by decide) (k' := 0) (n' := 0) rfl rfl (by decide) (by decide) rfl
  obtain ⟨rfl, rfl⟩ := hq38
  dsimp only [Option.toList, List.cons_append, List.nil_append] at r37
  have r41 := r37.ishr (pc' := 10) (u := ln) d7_9 hz rfl
  exact ⟨_, _, r41.retI d7_10 rfl (by decide) (by decide), rfl, rfl⟩
theorem d6_0 : decode jdk_42_method_55_code 0 = .ok (.aload_n 0, 1) := by decide +kernel
theorem d6_1 : decode jdk_42_method_55_code 1 = .ok (.getfield 9, 3) := by decide +kernel
theorem d6_4 : decode jdk_42_method_55_code 4 = .ok (.arraylength, 1) := by decide +kernel
theorem d6_5 : decode jdk_42_method_55_code 5 = .ok (.ifCond .ne 7, 3) := by decide +kernel
theorem d6_12 : decode jdk_42_method_55_code 12 = .ok (.iconst 0, 1) := by decide +kernel
theorem d6_13 : decode jdk_42_method_55_code 13 = .ok (.ireturn, 1) := by decide +kernel
set_option maxRecDepth 65536 in
set_option maxHeartbeats 40000000 in
theorem s_emp0 (l : Launch) (Z : State) (a0 : Array Value) (hw : ∀ d ∈ tables_1, d.before a0 Z = true) (a b : Addr) (cd z : Int32) (F : List Int32) (h0 : Heap) (n0 : Nat) (A : Str Z h0 a b cd z F) (hz : ¬ z = 0) :
    Ctr l Z (⟨"java/lang/String", "isEmpty", "()Z"⟩ : MethodName) jdk_42_method_55_code 1 (some .boolean) ({ frames := 0, cells := 0, slots := 0, locals := 0 } : Room) #[(.ref a)] h0 n0 (fun v h => v = some (.int 0) ∧ h0 = h) := by
  refine ent (plainFor_of_name pn_java_lang_String) (L0 := #[.val (.ref a)]) (fun m => by first | (simp [entryFrame, mkF, argsToLocals, Value.category]; done) | rfl) ?_
  intro p e s m below meth c T0 r0
  have r42 := r0.aloadN (pc' := 1) d6_0 rfl rfl rfl
  have r43 := r42.getF (host := "") (pc' := 4) d6_1 (Or.inl (hw _ (List.mem_of_getElem? (i := 26) rfl))) Via.refl A.2.2.1 rfl
  have r44 := r43.lenB (pc' := 5) d6_4 A.2.2.2 rfl
  have r45 := r44.ifT (pc' := 12) d6_5 (feq hz).2 (by decide) (by decide)
  have r46 := r45.iconst (pc' := 13) (0 : Int32) d6_12 rfl rfl
  exact ⟨_, _, r46.retZ d6_13 rfl (t := .boolean) (by simp) (0 : Int32) rfl (by decide) (by decide), rfl, rfl⟩
theorem d6_8 : decode jdk_42_method_55_code 8 = .ok (.iconst 1, 1) := by decide +kernel
theorem d6_9 : decode jdk_42_method_55_code 9 = .ok (.goto 4, 3) := by decide +kernel
set_option maxRecDepth 65536 in
set_option maxHeartbeats 40000000 in
theorem s_emp1 (l : Launch) (Z : State) (a0 : Array Value) (hw : ∀ d ∈ tables_1, d.before a0 Z = true) (a b : Addr) (cd z : Int32) (F : List Int32) (h0 : Heap) (n0 : Nat) (A : Str Z h0 a b cd z F) (hz : z = 0) :
    Ctr l Z (⟨"java/lang/String", "isEmpty", "()Z"⟩ : MethodName) jdk_42_method_55_code 1 (some .boolean) ({ frames := 0, cells := 0, slots := 0, locals := 0 } : Room) #[(.ref a)] h0 n0 (fun v h => v = some (.int 1) ∧ h0 = h) := by
  refine ent (plainFor_of_name pn_java_lang_String) (L0 := #[.val (.ref a)]) (fun m => by first | (simp [entryFrame, mkF, argsToLocals, Value.category]; done) | rfl) ?_
  intro p e s m below meth c T0 r0
  have r47 := r0.aloadN (pc' := 1) d6_0 rfl rfl rfl
  have r48 := r47.getF (host := "") (pc' := 4) d6_1 (Or.inl (hw _ (List.mem_of_getElem? (i := 26) rfl))) Via.refl A.2.2.1 rfl
  have r49 := r48.lenB (pc' := 5) d6_4 A.2.2.2 rfl
  have r50 := r49.ifF (pc' := 8) d6_5 (teq hz).2 rfl
  have r51 := r50.iconst (pc' := 9) (1 : Int32) d6_8 rfl rfl
  have r52 := r51.goto (pc' := 13) d6_9 (by decide) (by decide)
  exact ⟨_, _, r52.retZ d6_13 rfl (t := .boolean) (by simp) (1 : Int32) rfl (by decide) (by decide), rfl, rfl⟩
theorem pn_jdk_internal_util_Preconditions : plainName "jdk/internal/util/Preconditions" = true := by first | (simp [plainName, overriddenIn]; done) | decide +kernel
theorem d13_0 : decode jdk_41_method_11_code 0 = .ok (.iload_n 0, 1) := by decide +kernel
theorem d13_1 : decode jdk_41_method_11_code 1 = .ok (.ifCond .lt 8, 3) := by decide +kernel
theorem d13_4 : decode jdk_41_method_11_code 4 = .ok (.iload_n 0, 1) := by decide +kernel
theorem d13_5 : decode jdk_41_method_11_code 5 = .ok (.iload_n 1, 1) := by decide +kernel
theorem d13_6 : decode jdk_41_method_11_code 6 = .ok (.if_icmp .lt 10, 3) := by decide +kernel
theorem d13_16 : decode jdk_41_method_11_code 16 = .ok (.iload_n 0, 1) := by decide +kernel
theorem d13_17 : decode jdk_41_method_11_code 17 = .ok (.ireturn, 1) := by decide +kernel
set_option maxRecDepth 65536 in
set_option maxHeartbeats 40000000 in
theorem s_pre0 (l : Launch) (Z : State) (a0 : Array Value) (hw : ∀ d ∈ tables_1, d.before a0 Z = true) (i n' : Int32) (h0 : Heap) (n0 : Nat) (h1 : ¬ i < 0) (h2 : i < n') :
    Ctr l Z (⟨"jdk/internal/util/Preconditions", "checkIndex", "(IILjava/util/function/BiFunction;)I"⟩ : MethodName) jdk_41_method_11_code 3 (some .int) ({ frames := 0, cells := 0, slots := 0, locals := 0 } : Room) #[(.int i), (.int n'), .null] h0 n0 (fun v h => v = some (.int i) ∧ h0 = h) := by
  refine ent (plainFor_of_name pn_jdk_internal_util_Preconditions) (L0 := #[.val (.int i), .val (.int n'), .val .null]) (fun m => by first | (simp [entryFrame, mkF, argsToLocals, Value.category]; done) | rfl) ?_
  intro p e s m below meth c T0 r0
  have r53 := r0.iloadN (pc' := 1) d13_0 rfl rfl
  have r54 := r53.ifF (pc' := 4) d13_1 (flt h1).1 rfl
  have r55 := r54.iloadN (pc' := 5) d13_4 rfl rfl
  have r56 := r55.iloadN (pc' := 6) d13_5 rfl rfl
  have r57 := r56.icT (pc' := 16) d13_6 (tlt h2).1 (by decide) (by decide)
  have r58 := r57.iloadN (pc' := 17) d13_16 rfl rfl
  exact ⟨_, _, r58.retI d13_17 rfl (by decide) (by decide), rfl, rfl⟩
set_option maxRecDepth 65536 in
set_option maxHeartbeats 40000000 in
theorem s_pre1 (l : Launch) (Z : State) (a0 : Array Value) (hw : ∀ d ∈ tables_1, d.before a0 Z = true) (i n' : Int32) (fA : Addr) (h0 : Heap) (n0 : Nat) (h1 : ¬ i < 0) (h2 : i < n') :
    Ctr l Z (⟨"jdk/internal/util/Preconditions", "checkIndex", "(IILjava/util/function/BiFunction;)I"⟩ : MethodName) jdk_41_method_11_code 3 (some .int) ({ frames := 0, cells := 0, slots := 0, locals := 0 } : Room) #[(.int i), (.int n'), (.ref fA)] h0 n0 (fun v h => v = some (.int i) ∧ h0 = h) := by
  refine ent (plainFor_of_name pn_jdk_internal_util_Preconditions) (L0 := #[.val (.int i), .val (.int n'), .val (.ref fA)]) (fun m => by first | (simp [entryFrame, mkF, argsToLocals, Value.category]; done) | rfl) ?_
  intro p e s m below meth c T0 r0
  have r59 := r0.iloadN (pc' := 1) d13_0 rfl rfl
  have r60 := r59.ifF (pc' := 4) d13_1 (flt h1).1 rfl
  have r61 := r60.iloadN (pc' := 5) d13_4 rfl rfl
  have r62 := r61.iloadN (pc' := 6) d13_5 rfl rfl
  have r63 := r62.icT (pc' := 16) d13_6 (tlt h2).1 (by decide) (by decide)
  have r64 := r63.iloadN (pc' := 17) d13_16 rfl rfl
  exact ⟨_, _, r64.retI d13_17 rfl (by decide) (by decide), rfl, rfl⟩
theorem d12_0 : decode jdk_42_method_155_code 0 = .ok (.iload_n 0, 1) := by decide +kernel
theorem d12_1 : decode jdk_42_method_155_code 1 = .ok (.iload_n 1, 1) := by decide +kernel
theorem d12_2 : decode jdk_42_method_155_code 2 = .ok (.getstatic 1053, 3) := by decide +kernel
theorem d12_5 : decode jdk_42_method_155_code 5 = .ok (.invokestatic 1059, 3) := by decide +kernel
theorem pd_10 : parseMethodDescriptor "(IILjava/util/function/BiFunction;)I" = some ⟨[.int, .int, (.object "java/util/function/BiFunction")], some .int⟩ := by decide +kernel
theorem d12_8 : decode jdk_42_method_155_code 8 = .ok (.pop, 1) := by decide +kernel
theorem d12_9 : decode jdk_42_method_155_code 9 = .ok (.return_, 1) := by decide +kernel
set_option maxRecDepth 65536 in
set_option maxHeartbeats 40000000 in
theorem s_chk (l : Launch) (Z : State) (a0 : Array Value) (hw : ∀ d ∈ tables_1, d.before a0 Z = true) (i n' : Int32) (h0 : Heap) (n0 : Nat) (h1 : ¬ i < 0) (h2 : i < n') (cs : Int32) (vF : Value) (SS : Stt Z cs vF) (O0 : Old Z n0 h0) :
    Ctr l Z (⟨"java/lang/String", "checkIndex", "(II)V"⟩ : MethodName) jdk_42_method_155_code 2 none ({ frames := 1, cells := 0, slots := 0, locals := 14 } : Room) #[(.int i), (.int n')] h0 n0 (fun v h => v = none ∧ h0 = h) := by
  refine ent (plainFor_of_name pn_java_lang_String) (L0 := #[.val (.int i), .val (.int n')]) (fun m => by first | (simp [entryFrame, mkF, argsToLocals, Value.category]; done) | rfl) ?_
  intro p e s m below meth c T0 r0
  obtain ⟨SC, ⟨SFF, hvF⟩, SR⟩ := SS
  rcases ref_cases hvF with rfl | ⟨fA, rfl⟩
  · -- 0
    have r65 := r0.iloadN (pc' := 1) d12_0 rfl rfl
    have r66 := r65.iloadN (pc' := 2) d12_1 rfl rfl
    have r67 := r66.getS (host := "") (pc' := 5) d12_2 (Or.inl (hw _ (List.mem_of_getElem? (i := 67) rfl))) Via.refl (SFF.ext O0.2) rfl
    obtain ⟨v70, h71, hq69, r68⟩ := r67.callS (pc' := 8) [(.int i), (.int n'), .null] (rest := []) 0 d12_5 (hw _ (List.mem_of_getElem? (i := 69) rfl)) (hw _ (List.mem_of_getElem? (i := 70) rfl)) (hw _ (List.mem_of_getElem? (i := 68) rfl)) (hw _ (List.mem_of_getElem? (i := 71) rfl)) (by decide) (s_pre0 l Z a0 hw i n'  h0 n0 h1 h2) pd_10 rfl rfl rfl (Nat.le_of_ble_eq_true rfl) (by decide) (by decide) (k' := 0) (n' := 0) rfl rfl (by decide) (by decide) rfl
    obtain ⟨rfl, rfl⟩ := hq69
    dsimp only [Option.toList, List.cons_append, List.nil_append] at r68
    have r72 := r68.pop (pc' := 9) d12_8 rfl rfl
    exact ⟨_, _, r72.retV d12_9 rfl (by decide) (by decide), rfl, rfl⟩
  · -- 1
    have r73 := r0.iloadN (pc' := 1) d12_0 rfl rfl
    have r74 := r73.iloadN (pc' := 2) d12_1 rfl rfl
    have r75 := r74.getS (host := "") (pc' := 5) d12_2 (Or.inl (hw _ (List.mem_of_getElem? (i := 67) rfl))) Via.refl (SFF.ext O0.2) rfl
    obtain ⟨v78, h79, hq77, r76⟩ := r75.callS (pc' := 8) [(.int i), (.int n'), (.ref fA)] (rest := []) 0 d12_5 (hw _ (List.mem_of_getElem? (i := 69) rfl)) (hw _ (List.mem_of_getElem? (i := 70) rfl)) (hw _ (List.mem_of_getElem? (i := 68) rfl)) (hw _ (List.mem_of_getElem? (i := 71) rfl)) (by decide) (s_pre1 l Z a0 hw i n' fA h0 n0 h1 h2) pd_10 rfl rfl rfl (Nat.le_of_ble_eq_true rfl) (by decide) (by decide) (k' := 0) (n' := 0) rfl rfl (by decide) (by decide) rfl
    obtain ⟨rfl, rfl⟩ := hq77
    dsimp only [Option.toList, List.cons_append, List.nil_append] at r76
    have r80 := r76.pop (pc' := 9) d12_8 rfl rfl
    exact ⟨_, _, r80.retV d12_9 rfl (by decide) (by decide), rfl, rfl⟩
theorem pn_java_lang_StringLatin1 : plainName "java/lang/StringLatin1" = true := by first | (simp [plainName, overriddenIn]; done) | decide +kernel
theorem d11_0 : decode jdk_43_method_2_code 0 = .ok (.iload_n 1, 1) := by decide +kernel
theorem d11_1 : decode jdk_43_method_2_code 1 = .ok (.aload_n 0, 1) := by decide +kernel
theorem d11_2 : decode jdk_43_method_2_code 2 = .ok (.arraylength, 1) := by decide +kernel
theorem d11_3 : decode jdk_43_method_2_code 3 = .ok (.invokestatic 9, 3) := by decide +kernel
theorem pd_8 : parseMethodDescriptor "(II)V" = some ⟨[.int, .int], none⟩ := by decide +kernel
theorem d11_6 : decode jdk_43_method_2_code 6 = .ok (.aload_n 0, 1) := by decide +kernel
theorem d11_7 : decode jdk_43_method_2_code 7 = .ok (.iload_n 1, 1) := by decide +kernel
theorem d11_8 : decode jdk_43_method_2_code 8 = .ok (.baload, 1) := by decide +kernel
theorem d11_9 : decode jdk_43_method_2_code 9 = .ok (.sipush 255, 3) := by decide +kernel
theorem d11_12 : decode jdk_43_method_2_code 12 = .ok (.iand, 1) := by decide +kernel
theorem d11_13 : decode jdk_43_method_2_code 13 = .ok (.i2c, 1) := by decide +kernel
theorem d11_14 : decode jdk_43_method_2_code 14 = .ok (.ireturn, 1) := by decide +kernel
set_option maxRecDepth 65536 in
set_option maxHeartbeats 40000000 in
theorem s_l1 (l : Launch) (Z : State) (a0 : Array Value) (hw : ∀ d ∈ tables_1, d.before a0 Z = true) (b : Addr) (i z : Int32) (F : List Int32) (h0 : Heap) (n0 : Nat) (V : ArB Z h0 b z F) (h1 : ¬ i < 0) (h2 : i < z) (cs : Int32) (vF : Value) (SS : Stt Z cs vF) (O0 : Old Z n0 h0) :
    Ctr l Z (⟨"java/lang/StringLatin1", "charAt", "([BI)C"⟩ : MethodName) jdk_43_method_2_code 2 (some .char) ({ frames := 2, cells := 0, slots := 0, locals := 27 } : Room) #[(.ref b), (.int i)] h0 n0 (fun v h => v = some (.int (chr0 F i.toNatClampNeg)) ∧ h0 = h) := by
  refine ent (plainFor_of_name pn_java_lang_StringLatin1) (L0 := #[.val (.ref b), .val (.int i)]) (fun m => by first | (simp [entryFrame, mkF, argsToLocals, Value.category]; done) | rfl) ?_
  intro p e s m below meth c T0 r0
  have r81 := r0.iloadN (pc' := 1) d11_0 rfl rfl
  have r82 := r81.aloadN (pc' := 2) d11_1 rfl rfl rfl
  have r83 := r82.lenB (pc' := 3) d11_2 V rfl
  obtain ⟨v86, h87, hq85, r84⟩ := r83.callS (pc' := 6) [(.int i), (.int z)] (rest := []) 0 d11_3 (hw _ (List.mem_of_getElem? (i := 64) rfl)) (hw _ (List.mem_of_getElem? (i := 65) rfl)) (hw _ (List.mem_of_getElem? (i := 8) rfl)) (hw _ (List.mem_of_getElem? (i := 66) rfl)) (by decide) (s_chk l Z a0 hw i z h0 n0 h1 h2 cs vF SS O0) pd_8 rfl rfl rfl (Nat.le_of_ble_eq_true rfl) (by decide) (by decide) (k' := 0) (n' := 0) rfl rfl (by decide) (by decide) rfl
  obtain ⟨rfl, rfl⟩ := hq85
  dsimp only [Option.toList, List.cons_append, List.nil_append] at r84
  have r88 := r84.aloadN (pc' := 7) d11_6 rfl rfl rfl
  have r89 := r88.iloadN (pc' := 8) d11_7 rfl rfl
  have r90 := r89.gB (pc' := 9) d11_8 V h1 h2 rfl
  have r91 := r90.sipush (pc' := 12) (255 : Int32) d11_9 rfl rfl
  have r92 := r91.iand (pc' := 13) d11_12 rfl rfl
  have r93 := r92.i2c (pc' := 14) d11_13 rfl rfl
  exact ⟨_, _, r93.retZ d11_14 rfl (t := .char) (by simp) (chr0 F i.toNatClampNeg) rfl (by decide) (by decide), rfl, rfl⟩
theorem pn_java_lang_StringUTF16 : plainName "java/lang/StringUTF16" = true := by first | (simp [plainName, overriddenIn]; done) | decide +kernel
theorem d26_0 : decode jdk_52_method_6_code 0 = .ok (.aload_n 0, 1) := by decide +kernel
theorem d26_1 : decode jdk_52_method_6_code 1 = .ok (.arraylength, 1) := by decide +kernel
theorem d26_2 : decode jdk_52_method_6_code 2 = .ok (.iconst 1, 1) := by decide +kernel
theorem d26_3 : decode jdk_52_method_6_code 3 = .ok (.ishr, 1) := by decide +kernel
theorem d26_4 : decode jdk_52_method_6_code 4 = .ok (.ireturn, 1) := by decide +kernel
set_option maxRecDepth 65536 in
set_option maxHeartbeats 40000000 in
theorem u_len (l : Launch) (Z : State) (a0 : Array Value) (hw : ∀ d ∈ tables_1, d.before a0 Z = true) (b : Addr) (z ln : Int32) (F : List Int32) (h0 : Heap) (n0 : Nat) (V : ArB Z h0 b z F) (hz : z >>> ((1 : Int32) &&& 31) = ln) :
    Ctr l Z (⟨"java/lang/StringUTF16", "length", "([B)I"⟩ : MethodName) jdk_52_method_6_code 1 (some .int) ({ frames := 0, cells := 0, slots := 0, locals := 0 } : Room) #[(.ref b)] h0 n0 (fun v h => v = some (.int ln) ∧ h0 = h) := by
  refine ent (plainFor_of_name pn_java_lang_StringUTF16) (L0 := #[.val (.ref b)]) (fun m => by first | (simp [entryFrame, mkF, argsToLocals, Value.category]; done) | rfl) ?_
  intro p e s m below meth c T0 r0
  have r94 := r0.aloadN (pc' := 1) d26_0 rfl rfl rfl
  have r95 := r94.lenB (pc' := 2) d26_1 V rfl
  have r96 := r95.iconst (pc' := 3) (1 : Int32) d26_2 rfl rfl
  have r97 := r96.ishr (pc' := 4) (u := ln) d26_3 hz rfl
  exact ⟨_, _, r97.retI d26_4 rfl (by decide) (by decide), rfl, rfl⟩
theorem d25_0 : decode jdk_52_method_91_code 0 = .ok (.iload_n 0, 1) := by decide +kernel
theorem d25_1 : decode jdk_52_method_91_code 1 = .ok (.aload_n 1, 1) := by decide +kernel
theorem d25_2 : decode jdk_52_method_91_code 2 = .ok (.invokestatic 48, 3) := by decide +kernel
theorem pd_13 : parseMethodDescriptor "([B)I" = some ⟨[(.array .byte)], some .int⟩ := by decide +kernel
theorem d25_5 : decode jdk_52_method_91_code 5 = .ok (.invokestatic 414, 3) := by decide +kernel
theorem d25_8 : decode jdk_52_method_91_code 8 = .ok (.return_, 1) := by decide +kernel
set_option maxRecDepth 65536 in
set_option maxHeartbeats 40000000 in
theorem u_chk (l : Launch) (Z : State) (a0 : Array Value) (hw : ∀ d ∈ tables_1, d.before a0 Z = true) (b : Addr) (i z ln : Int32) (F : List Int32) (h0 : Heap) (n0 : Nat) (V : ArB Z h0 b z F) (hz : z >>> ((1 : Int32) &&& 31) = ln) (h1 : ¬ i < 0) (h2 : i < ln) (cs : Int32) (vF : Value) (SS : Stt Z cs vF) (O0 : Old Z n0 h0) :
    Ctr l Z (⟨"java/lang/StringUTF16", "checkIndex", "(I[B)V"⟩ : MethodName) jdk_52_method_91_code 2 none ({ frames := 2, cells := 0, slots := 0, locals := 27 } : Room) #[(.int i), (.ref b)] h0 n0 (fun v h => v = none ∧ h0 = h) := by
  refine ent (plainFor_of_name pn_java_lang_StringUTF16) (L0 := #[.val (.int i), .val (.ref b)]) (fun m => by first | (simp [entryFrame, mkF, argsToLocals, Value.category]; done) | rfl) ?_
  intro p e s m below meth c T0 r0
  have r98 := r0.iloadN (pc' := 1) d25_0 rfl rfl
  have r99 := r98.aloadN (pc' := 2) d25_1 rfl rfl rfl
  obtain ⟨v102, h103, hq101, r100⟩ := r99.callS (pc' := 5) [(.ref b)] (rest := [(.int i)]) 1 d25_2 (hw _ (List.mem_of_getElem? (i := 113) rfl)) (hw _ (List.mem_of_getElem? (i := 114) rfl)) (hw _ (List.mem_of_getElem? (i := 77) rfl)) (hw _ (List.mem_of_getElem? (i := 115) rfl)) (by decide) (u_len l Z a0 hw b z ln F h0 n0 V hz) pd_13 rfl rfl rfl (Nat.le_of_ble_eq_true rfl) (by decide) (by decide) (k' := 0) (n' := 0) rfl rfl (by decide) (by decide) rfl
  obtain ⟨rfl, rfl⟩ := hq101
  dsimp only [Option.toList, List.cons_append, List.nil_append] at r100
  obtain ⟨v106, h107, hq105, r104⟩ := r100.callS (pc' := 8) [(.int i), (.int ln)] (rest := []) 0 d25_5 (hw _ (List.mem_of_getElem? (i := 116) rfl)) (hw _ (List.mem_of_getElem? (i := 65) rfl)) (hw _ (List.mem_of_getElem? (i := 8) rfl)) (hw _ (List.mem_of_getElem? (i := 66) rfl)) (by decide) (s_chk l Z a0 hw i ln h0 n0 h1 h2 cs vF SS O0) pd_8 rfl rfl rfl (Nat.le_of_ble_eq_true rfl) (by decide) (by decide) (k' := 0) (n' := 0) rfl rfl (by decide) (by decide) rfl
  obtain ⟨rfl, rfl⟩ := hq105
  dsimp only [Option.toList, List.cons_append, List.nil_append] at r104
  exact ⟨_, _, r104.retV d25_8 rfl (by decide) (by decide), rfl, rfl⟩
theorem d23_0 : decode jdk_52_method_5_code 0 = .ok (.getstatic 44, 3) := by decide +kernel
theorem d23_3 : decode jdk_52_method_5_code 3 = .ok (.ifCond .ne 25, 3) := by decide +kernel
theorem d23_28 : decode jdk_52_method_5_code 28 = .ok (.iload_n 1, 1) := by decide +kernel
theorem d23_29 : decode jdk_52_method_5_code 29 = .ok (.iconst 1, 1) := by decide +kernel
theorem d23_30 : decode jdk_52_method_5_code 30 = .ok (.ishl, 1) := by decide +kernel
theorem d23_31 : decode jdk_52_method_5_code 31 = .ok (.istore_n 1, 1) := by decide +kernel
theorem d23_32 : decode jdk_52_method_5_code 32 = .ok (.aload_n 0, 1) := by decide +kernel
theorem d23_33 : decode jdk_52_method_5_code 33 = .ok (.iload_n 1, 1) := by decide +kernel
theorem d23_34 : decode jdk_52_method_5_code 34 = .ok (.iinc 1 1, 3) := by decide +kernel
theorem d23_37 : decode jdk_52_method_5_code 37 = .ok (.baload, 1) := by decide +kernel
theorem d23_38 : decode jdk_52_method_5_code 38 = .ok (.sipush 255, 3) := by decide +kernel
theorem d23_41 : decode jdk_52_method_5_code 41 = .ok (.iand, 1) := by decide +kernel
theorem d23_42 : decode jdk_52_method_5_code 42 = .ok (.getstatic 59, 3) := by decide +kernel
theorem d23_45 : decode jdk_52_method_5_code 45 = .ok (.ishl, 1) := by decide +kernel
theorem d23_46 : decode jdk_52_method_5_code 46 = .ok (.aload_n 0, 1) := by decide +kernel
theorem d23_47 : decode jdk_52_method_5_code 47 = .ok (.iload_n 1, 1) := by decide +kernel
theorem d23_48 : decode jdk_52_method_5_code 48 = .ok (.baload, 1) := by decide +kernel
theorem d23_49 : decode jdk_52_method_5_code 49 = .ok (.sipush 255, 3) := by decide +kernel
theorem d23_52 : decode jdk_52_method_5_code 52 = .ok (.iand, 1) := by decide +kernel
theorem d23_53 : decode jdk_52_method_5_code 53 = .ok (.getstatic 63, 3) := by decide +kernel
theorem d23_56 : decode jdk_52_method_5_code 56 = .ok (.ishl, 1) := by decide +kernel
theorem d23_57 : decode jdk_52_method_5_code 57 = .ok (.ior, 1) := by decide +kernel
theorem d23_58 : decode jdk_52_method_5_code 58 = .ok (.i2c, 1) := by decide +kernel
theorem d23_59 : decode jdk_52_method_5_code 59 = .ok (.ireturn, 1) := by decide +kernel
set_option maxRecDepth 65536 in
set_option maxHeartbeats 40000000 in
theorem u_get (l : Launch) (Z : State) (a0 : Array Value) (hw : ∀ d ∈ tables_1, d.before a0 Z = true) (b : Addr) (i z j u : Int32) (F : List Int32) (h0 : Heap) (n0 : Nat) (V : ArB Z h0 b z F) (hj : i <<< ((1 : Int32) &&& 31) = j) (n1 : ¬ j < 0) (l1 : j < z) (n2 : ¬ j + (1 : Int32) < 0) (l2 : j + (1 : Int32) < z) (hu : nar .char (StrChars.pairCh (F.getD j.toNatClampNeg 0) (F.getD (j + (1 : Int32)).toNatClampNeg 0)) = u) (cs : Int32) (vF : Value) (SS : Stt Z cs vF) (O0 : Old Z n0 h0) :
    Ctr l Z (⟨"java/lang/StringUTF16", "getChar", "([BI)C"⟩ : MethodName) jdk_52_method_5_code 2 (some .char) ({ frames := 0, cells := 0, slots := 0, locals := 0 } : Room) #[(.ref b), (.int i)] h0 n0 (fun v h => v = some (.int u) ∧ h0 = h) := by
  refine ent (plainFor_of_name pn_java_lang_StringUTF16) (L0 := #[.val (.ref b), .val (.int i)]) (fun m => by first | (simp [entryFrame, mkF, argsToLocals, Value.category]; done) | rfl) ?_
  intro p e s m below meth c T0 r0
  have r108 := r0.getS (host := "") (pc' := 3) d23_0 (Or.inl (hw _ (List.mem_of_getElem? (i := 101) rfl))) Via.refl (SS.2.2.1.ext (O0).2) rfl
  have r109 := r108.ifT (pc' := 28) d23_3 (feq (by decide : ¬ (1 : Int32) = (0 : Int32))).2 (by decide) (by decide)
  have r110 := r109.iloadN (pc' := 29) d23_28 rfl rfl
  have r111 := r110.iconst (pc' := 30) (1 : Int32) d23_29 rfl rfl
  have r112 := r111.ishl (pc' := 31) (u := j) d23_30 hj rfl
  have r113 := r112.istoreN (pc' := 32) (L' := #[.val (.ref b), .val (.int j)]) d23_31 rfl rfl
  have r114 := r113.aloadN (pc' := 33) d23_32 rfl rfl rfl
  have r115 := r114.iloadN (pc' := 34) d23_33 rfl rfl
  have r116 := r115.iinc (pc' := 37) (L' := #[.val (.ref b), .val (.int (j + (1 : Int32)))]) (1 : Int32) d23_34 rfl rfl rfl rfl rfl
  have r117 := r116.gB (pc' := 38) d23_37 V n1 l1 rfl
  have r118 := r117.sipush (pc' := 41) (255 : Int32) d23_38 rfl rfl
  have r119 := r118.iand (pc' := 42) d23_41 rfl rfl
  have r120 := r119.getS (host := "") (pc' := 45) d23_42 (Or.inl (hw _ (List.mem_of_getElem? (i := 102) rfl))) Via.refl (SS.2.2.2.1.ext (O0).2) rfl
  have r121 := r120.ishl (pc' := 46) d23_45 rfl rfl
  have r122 := r121.aloadN (pc' := 47) d23_46 rfl rfl rfl
  have r123 := r122.iloadN (pc' := 48) d23_47 rfl rfl
  have r124 := r123.gB (pc' := 49) d23_48 V n2 l2 rfl
  have r125 := r124.sipush (pc' := 52) (255 : Int32) d23_49 rfl rfl
  have r126 := r125.iand (pc' := 53) d23_52 rfl rfl
  have r127 := r126.getS (host := "") (pc' := 56) d23_53 (Or.inl (hw _ (List.mem_of_getElem? (i := 103) rfl))) Via.refl (SS.2.2.2.2.ext (O0).2) rfl
  have r128 := r127.ishl (pc' := 57) d23_56 rfl rfl
  have r129 := r128.ior (pc' := 58) d23_57 rfl rfl
  have r130 := r129.i2c (pc' := 59) d23_58 rfl rfl
  exact ⟨_, _, r130.retZ d23_59 rfl (t := .char) (by simp) u hu (by decide) (by decide), rfl, rfl⟩
theorem d24_0 : decode jdk_52_method_83_code 0 = .ok (.iload_n 1, 1) := by decide +kernel
theorem d24_1 : decode jdk_52_method_83_code 1 = .ok (.aload_n 0, 1) := by decide +kernel
theorem d24_2 : decode jdk_52_method_83_code 2 = .ok (.invokestatic 67, 3) := by decide +kernel
theorem pd_11 : parseMethodDescriptor "(I[B)V" = some ⟨[.int, (.array .byte)], none⟩ := by decide +kernel
theorem d24_5 : decode jdk_52_method_83_code 5 = .ok (.aload_n 0, 1) := by decide +kernel
theorem d24_6 : decode jdk_52_method_83_code 6 = .ok (.iload_n 1, 1) := by decide +kernel
theorem d24_7 : decode jdk_52_method_83_code 7 = .ok (.invokestatic 71, 3) := by decide +kernel
theorem pd_15 : parseMethodDescriptor "([BI)C" = some ⟨[(.array .byte), .int], some .char⟩ := by decide +kernel
theorem d24_10 : decode jdk_52_method_83_code 10 = .ok (.ireturn, 1) := by decide +kernel
set_option maxRecDepth 65536 in
set_option maxHeartbeats 40000000 in
theorem u_at (l : Launch) (Z : State) (a0 : Array Value) (hw : ∀ d ∈ tables_1, d.before a0 Z = true) (b : Addr) (i z ln j u : Int32) (F : List Int32) (h0 : Heap) (n0 : Nat) (V : ArB Z h0 b z F) (hz : z >>> ((1 : Int32) &&& 31) = ln) (h1 : ¬ i < 0) (h2 : i < ln) (hj : i <<< ((1 : Int32) &&& 31) = j) (n1 : ¬ j < 0) (l1 : j < z) (n2 : ¬ j + (1 : Int32) < 0) (l2 : j + (1 : Int32) < z) (hu : nar .char (StrChars.pairCh (F.getD j.toNatClampNeg 0) (F.getD (j + (1 : Int32)).toNatClampNeg 0)) = u) (hu2 : nar .char u = u) (cs : Int32) (vF : Value) (SS : Stt Z cs vF) (O0 : Old Z n0 h0) :
    Ctr l Z (⟨"java/lang/StringUTF16", "charAt", "([BI)C"⟩ : MethodName) jdk_52_method_83_code 2 (some .char) ({ frames := 3, cells := 0, slots := 0, locals := 40 } : Room) #[(.ref b), (.int i)] h0 n0 (fun v h => v = some (.int u) ∧ h0 = h) := by
  refine ent (plainFor_of_name pn_java_lang_StringUTF16) (L0 := #[.val (.ref b), .val (.int i)]) (fun m => by first | (simp [entryFrame, mkF, argsToLocals, Value.category]; done) | rfl) ?_
  intro p e s m below meth c T0 r0
  have r131 := r0.iloadN (pc' := 1) d24_0 rfl rfl
  have r132 := r131.aloadN (pc' := 2) d24_1 rfl rfl rfl
  obtain ⟨v135, h136, hq134, r133⟩ := r132.callS (pc' := 5) [(.int i), (.ref b)] (rest := []) 0 d24_2 (hw _ (List.mem_of_getElem? (i := 110) rfl)) (hw _ (List.mem_of_getElem? (i := 111) rfl)) (hw _ (List.mem_of_getElem? (i := 77) rfl)) (hw _ (List.mem_of_getElem? (i := 112) rfl)) (by decide) (u_chk l Z a0 hw b i z ln F h0 n0 V hz h1 h2 cs vF SS O0) pd_11 rfl rfl rfl (Nat.le_of_ble_eq_true rfl) (by decide) (by decide) (k' := 0) (n' := 0) rfl rfl (by decide) (by decide) rfl
  obtain ⟨rfl, rfl⟩ := hq134
  dsimp only [Option.toList, List.cons_append, List.nil_append] at r133
  have r137 := r133.aloadN (pc' := 6) d24_5 rfl rfl rfl
  have r138 := r137.iloadN (pc' := 7) d24_6 rfl rfl
  obtain ⟨v141, h142, hq140, r139⟩ := r138.callS (pc' := 10) [(.ref b), (.int i)] (rest := []) 0 d24_7 (hw _ (List.mem_of_getElem? (i := 104) rfl)) (hw _ (List.mem_of_getElem? (i := 105) rfl)) (hw _ (List.mem_of_getElem? (i := 77) rfl)) (hw _ (List.mem_of_getElem? (i := 106) rfl)) (by decide) (u_get l Z a0 hw b i z j u F h0 n0 V hj n1 l1 n2 l2 hu cs vF SS O0) pd_15 rfl rfl rfl (Nat.le_of_ble_eq_true rfl) (by decide) (by decide) (k' := 0) (n' := 0) rfl rfl (by decide) (by decide) rfl
  obtain ⟨rfl, rfl⟩ := hq140
  dsimp only [Option.toList, List.cons_append, List.nil_append] at r139
  exact ⟨_, _, r139.retZ d24_10 rfl (t := .char) (by simp) u hu2 (by decide) (by decide), rfl, rfl⟩
theorem d9_0 : decode jdk_42_method_56_code 0 = .ok (.aload_n 0, 1) := by decide +kernel
theorem d9_1 : decode jdk_42_method_56_code 1 = .ok (.invokevirtual 492, 3) := by decide +kernel
theorem pd_3 : parseMethodDescriptor "()Z" = some ⟨[], some .boolean⟩ := by decide +kernel
theorem d9_4 : decode jdk_42_method_56_code 4 = .ok (.ifCond .eq 12, 3) := by decide +kernel
theorem d9_7 : decode jdk_42_method_56_code 7 = .ok (.aload_n 0, 1) := by decide +kernel
theorem d9_8 : decode jdk_42_method_56_code 8 = .ok (.getfield 9, 3) := by decide +kernel
theorem d9_11 : decode jdk_42_method_56_code 11 = .ok (.iload_n 1, 1) := by decide +kernel
theorem d9_12 : decode jdk_42_method_56_code 12 = .ok (.invokestatic 495, 3) := by decide +kernel
theorem d9_15 : decode jdk_42_method_56_code 15 = .ok (.ireturn, 1) := by decide +kernel
set_option maxRecDepth 65536 in
set_option maxHeartbeats 40000000 in
theorem s_at0 (l : Launch) (Z : State) (a0 : Array Value) (hw : ∀ d ∈ tables_1, d.before a0 Z = true) (a b : Addr) (i z : Int32) (F : List Int32) (h0 : Heap) (n0 : Nat) (A : Str Z h0 a b (0 : Int32) z F) (h1 : ¬ i < 0) (h2 : i < z) (cs : Int32) (vF : Value) (SS : Stt Z cs vF) (O0 : Old Z n0 h0) :
    Ctr l Z (⟨"java/lang/String", "charAt", "(I)C"⟩ : MethodName) jdk_42_method_56_code 2 (some .char) ({ frames := 4, cells := 0, slots := 0, locals := 53 } : Room) #[(.ref a), (.int i)] h0 n0 (fun v h => v = some (.int (chr0 F i.toNatClampNeg)) ∧ h0 = h) := by
  refine ent (plainFor_of_name pn_java_lang_String) (L0 := #[.val (.ref a), .val (.int i)]) (fun m => by first | (simp [entryFrame, mkF, argsToLocals, Value.category]; done) | rfl) ?_
  intro p e s m below meth c T0 r0
  have r143 := r0.aloadN (pc' := 1) d9_0 rfl rfl rfl
  obtain ⟨v146, h147, hq145, r144⟩ := r143.callV (pc' := 4) (a := a) [] (rest := []) 0 d9_1 (hw _ (List.mem_of_getElem? (i := 55) rfl)) (hw _ (List.mem_of_getElem? (i := 56) rfl)) (r143.nface (hw _ (List.mem_of_getElem? (i := 58) rfl)) rfl) (hw _ (List.mem_of_getElem? (i := 58) rfl)) (hw _ (List.mem_of_getElem? (i := 57) rfl)) (hw _ (List.mem_of_getElem? (i := 8) rfl)) (hw _ (List.mem_of_getElem? (i := 59) rfl)) (by decide) (s_isl0 l Z a0 hw a h0 n0 A.2.1 cs vF SS O0) A.1 pd_3 rfl rfl rfl (Nat.le_of_ble_eq_true rfl) (by decide) (by decide) (k' := 0) (n' := 0) rfl rfl (by decide) (by decide) rfl
  obtain ⟨rfl, rfl⟩ := hq145
  dsimp only [Option.toList, List.cons_append, List.nil_append] at r144
  have r148 := r144.ifF (pc' := 7) d9_4 (feq (by decide : ¬ (1 : Int32) = (0 : Int32))).1 rfl
  have r149 := r148.aloadN (pc' := 8) d9_7 rfl rfl rfl
  have r150 := r149.getF (host := "") (pc' := 11) d9_8 (Or.inl (hw _ (List.mem_of_getElem? (i := 26) rfl))) Via.refl A.2.2.1 rfl
  have r151 := r150.iloadN (pc' := 12) d9_11 rfl rfl
  obtain ⟨v154, h155, hq153, r152⟩ := r151.callS (pc' := 15) [(.ref b), (.int i)] (rest := []) 0 d9_12 (hw _ (List.mem_of_getElem? (i := 60) rfl)) (hw _ (List.mem_of_getElem? (i := 61) rfl)) (hw _ (List.mem_of_getElem? (i := 62) rfl)) (hw _ (List.mem_of_getElem? (i := 63) rfl)) (by decide) (s_l1 l Z a0 hw b i z F h0 n0 A.2.2.2 h1 h2 cs vF SS O0) pd_15 rfl rfl rfl (Nat.le_of_ble_eq_true rfl) (by decide) (by decide) (k' := 0) (n' := 0) rfl rfl (by decide) (by decide) rfl
  obtain ⟨rfl, rfl⟩ := hq153
  dsimp only [Option.toList, List.cons_append, List.nil_append] at r152
  exact ⟨_, _, r152.retZ d9_15 rfl (t := .char) (by simp) (chr0 F i.toNatClampNeg) (nar_idem _) (by decide) (by decide), rfl, rfl⟩
theorem d9_16 : decode jdk_42_method_56_code 16 = .ok (.aload_n 0, 1) := by decide +kernel
theorem d9_17 : decode jdk_42_method_56_code 17 = .ok (.getfield 9, 3) := by decide +kernel
theorem d9_20 : decode jdk_42_method_56_code 20 = .ok (.iload_n 1, 1) := by decide +kernel
theorem d9_21 : decode jdk_42_method_56_code 21 = .ok (.invokestatic 498, 3) := by decide +kernel
theorem d9_24 : decode jdk_42_method_56_code 24 = .ok (.ireturn, 1) := by decide +kernel
set_option maxRecDepth 65536 in
set_option maxHeartbeats 40000000 in
theorem s_at1 (l : Launch) (Z : State) (a0 : Array Value) (hw : ∀ d ∈ tables_1, d.before a0 Z = true) (a b : Addr) (i z ln j u : Int32) (F : List Int32) (h0 : Heap) (n0 : Nat) (A : Str Z h0 a b (1 : Int32) z F) (hz : z >>> ((1 : Int32) &&& 31) = ln) (h1 : ¬ i < 0) (h2 : i < ln) (hj : i <<< ((1 : Int32) &&& 31) = j) (n1 : ¬ j < 0) (l1 : j < z) (n2 : ¬ j + (1 : Int32) < 0) (l2 : j + (1 : Int32) < z) (hu : nar .char (StrChars.pairCh (F.getD j.toNatClampNeg 0) (F.getD (j + (1 : Int32)).toNatClampNeg 0)) = u) (hu2 : nar .char u = u) (cs : Int32) (vF : Value) (SS : Stt Z cs vF) (O0 : Old Z n0 h0) :
    Ctr l Z (⟨"java/lang/String", "charAt", "(I)C"⟩ : MethodName) jdk_42_method_56_code 2 (some .char) ({ frames := 4, cells := 0, slots := 0, locals := 53 } : Room) #[(.ref a), (.int i)] h0 n0 (fun v h => v = some (.int u) ∧ h0 = h) := by
  refine ent (plainFor_of_name pn_java_lang_String) (L0 := #[.val (.ref a), .val (.int i)]) (fun m => by first | (simp [entryFrame, mkF, argsToLocals, Value.category]; done) | rfl) ?_
  intro p e s m below meth c T0 r0
  have r156 := r0.aloadN (pc' := 1) d9_0 rfl rfl rfl
  obtain ⟨v159, h160, hq158, r157⟩ := r156.callV (pc' := 4) (a := a) [] (rest := []) 0 d9_1 (hw _ (List.mem_of_getElem? (i := 55) rfl)) (hw _ (List.mem_of_getElem? (i := 56) rfl)) (r156.nface (hw _ (List.mem_of_getElem? (i := 58) rfl)) rfl) (hw _ (List.mem_of_getElem? (i := 58) rfl)) (hw _ (List.mem_of_getElem? (i := 57) rfl)) (hw _ (List.mem_of_getElem? (i := 8) rfl)) (hw _ (List.mem_of_getElem? (i := 59) rfl)) (by decide) (s_isl1 l Z a0 hw a h0 n0 A.2.1 cs vF SS O0) A.1 pd_3 rfl rfl rfl (Nat.le_of_ble_eq_true rfl) (by decide) (by decide) (k' := 0) (n' := 0) rfl rfl (by decide) (by decide) rfl
  obtain ⟨rfl, rfl⟩ := hq158
  dsimp only [Option.toList, List.cons_append, List.nil_append] at r157
  have r161 := r157.ifT (pc' := 16) d9_4 (teq (by decide : (0 : Int32) = (0 : Int32))).1 (by decide) (by decide)
  have r162 := r161.aloadN (pc' := 17) d9_16 rfl rfl rfl
  have r163 := r162.getF (host := "") (pc' := 20) d9_17 (Or.inl (hw _ (List.mem_of_getElem? (i := 26) rfl))) Via.refl A.2.2.1 rfl
  have r164 := r163.iloadN (pc' := 21) d9_20 rfl rfl
  obtain ⟨v167, h168, hq166, r165⟩ := r164.callS (pc' := 24) [(.ref b), (.int i)] (rest := []) 0 d9_21 (hw _ (List.mem_of_getElem? (i := 107) rfl)) (hw _ (List.mem_of_getElem? (i := 108) rfl)) (hw _ (List.mem_of_getElem? (i := 77) rfl)) (hw _ (List.mem_of_getElem? (i := 109) rfl)) (by decide) (u_at l Z a0 hw b i z ln j u F h0 n0 A.2.2.2 hz h1 h2 hj n1 l1 n2 l2 hu hu2 cs vF SS O0) pd_15 rfl rfl rfl (Nat.le_of_ble_eq_true rfl) (by decide) (by decide) (k' := 0) (n' := 0) rfl rfl (by decide) (by decide) rfl
  obtain ⟨rfl, rfl⟩ := hq166
  dsimp only [Option.toList, List.cons_append, List.nil_append] at r165
  exact ⟨_, _, r165.retZ d9_24 rfl (t := .char) (by simp) u hu2 (by decide) (by decide), rfl, rfl⟩
theorem d22_0 : decode jdk_52_method_4_code 0 = .ok (.getstatic 44, 3) := by decide +kernel
theorem d22_3 : decode jdk_52_method_4_code 3 = .ok (.ifCond .ne 25, 3) := by decide +kernel
theorem d22_28 : decode jdk_52_method_4_code 28 = .ok (.iload_n 1, 1) := by decide +kernel
theorem d22_29 : decode jdk_52_method_4_code 29 = .ok (.iconst 1, 1) := by decide +kernel
theorem d22_30 : decode jdk_52_method_4_code 30 = .ok (.ishl, 1) := by decide +kernel
theorem d22_31 : decode jdk_52_method_4_code 31 = .ok (.istore_n 1, 1) := by decide +kernel
theorem d22_32 : decode jdk_52_method_4_code 32 = .ok (.aload_n 0, 1) := by decide +kernel
theorem d22_33 : decode jdk_52_method_4_code 33 = .ok (.iload_n 1, 1) := by decide +kernel
theorem d22_34 : decode jdk_52_method_4_code 34 = .ok (.iinc 1 1, 3) := by decide +kernel
theorem d22_37 : decode jdk_52_method_4_code 37 = .ok (.iload_n 2, 1) := by decide +kernel
theorem d22_38 : decode jdk_52_method_4_code 38 = .ok (.getstatic 59, 3) := by decide +kernel
theorem d22_41 : decode jdk_52_method_4_code 41 = .ok (.ishr, 1) := by decide +kernel
theorem d22_42 : decode jdk_52_method_4_code 42 = .ok (.i2b, 1) := by decide +kernel
theorem d22_43 : decode jdk_52_method_4_code 43 = .ok (.bastore, 1) := by decide +kernel
theorem d22_44 : decode jdk_52_method_4_code 44 = .ok (.aload_n 0, 1) := by decide +kernel
theorem d22_45 : decode jdk_52_method_4_code 45 = .ok (.iload_n 1, 1) := by decide +kernel
theorem d22_46 : decode jdk_52_method_4_code 46 = .ok (.iload_n 2, 1) := by decide +kernel
theorem d22_47 : decode jdk_52_method_4_code 47 = .ok (.getstatic 63, 3) := by decide +kernel
theorem d22_50 : decode jdk_52_method_4_code 50 = .ok (.ishr, 1) := by decide +kernel
theorem d22_51 : decode jdk_52_method_4_code 51 = .ok (.i2b, 1) := by decide +kernel
theorem d22_52 : decode jdk_52_method_4_code 52 = .ok (.bastore, 1) := by decide +kernel
theorem d22_53 : decode jdk_52_method_4_code 53 = .ok (.return_, 1) := by decide +kernel
set_option maxRecDepth 65536 in
set_option maxHeartbeats 40000000 in
theorem u_put (l : Launch) (Z : State) (a0 : Array Value) (hw : ∀ d ∈ tables_1, d.before a0 Z = true) (b : Addr) (i x z j : Int32) (F : List Int32) (h0 : Heap) (n0 : Nat) (V : ArB Z h0 b z F) (hj : i <<< ((1 : Int32) &&& 31) = j) (n1 : ¬ j < 0) (l1 : j < z) (n2 : ¬ j + (1 : Int32) < 0) (l2 : j + (1 : Int32) < z) (q1 : j.toNatClampNeg < F.length) (q2 : (j + (1 : Int32)).toNatClampNeg < F.length) (gb : n0 ≤ b) (cs : Int32) (vF : Value) (SS : Stt Z cs vF) (O0 : Old Z n0 h0) :
    Ctr l Z (⟨"java/lang/StringUTF16", "putChar", "([BII)V"⟩ : MethodName) jdk_52_method_4_code 3 none ({ frames := 0, cells := 0, slots := 0, locals := 0 } : Room) #[(.ref b), (.int i), (.int x)] h0 n0 (fun v h => v = none ∧ ArB Z h b z ((F.set j.toNatClampNeg (nar .byte ((x >>> ((0 : Int32) &&& 31)).toInt8.toInt32))).set (j + (1 : Int32)).toNatClampNeg (nar .byte ((x >>> ((8 : Int32) &&& 31)).toInt8.toInt32))) ∧ Keep h0 h [b]) := by
  refine ent (plainFor_of_name pn_java_lang_StringUTF16) (L0 := #[.val (.ref b), .val (.int i), .val (.int x)]) (fun m => by first | (simp [entryFrame, mkF, argsToLocals, Value.category]; done) | rfl) ?_
  intro p e s m below meth c T0 r0
  have r169 := r0.getS (host := "") (pc' := 3) d22_0 (Or.inl (hw _ (List.mem_of_getElem? (i := 101) rfl))) Via.refl (SS.2.2.1.ext (O0).2) rfl
  have r170 := r169.ifT (pc' := 28) d22_3 (feq (by decide : ¬ (1 : Int32) = (0 : Int32))).2 (by decide) (by decide)
  have r171 := r170.iloadN (pc' := 29) d22_28 rfl rfl
  have r172 := r171.iconst (pc' := 30) (1 : Int32) d22_29 rfl rfl
  have r173 := r172.ishl (pc' := 31) (u := j) d22_30 hj rfl
  have r174 := r173.istoreN (pc' := 32) (L' := #[.val (.ref b), .val (.int j), .val (.int x)]) d22_31 rfl rfl
  have r175 := r174.aloadN (pc' := 33) d22_32 rfl rfl rfl
  have r176 := r175.iloadN (pc' := 34) d22_33 rfl rfl
  have r177 := r176.iinc (pc' := 37) (L' := #[.val (.ref b), .val (.int (j + (1 : Int32))), .val (.int x)]) (1 : Int32) d22_34 rfl rfl rfl rfl rfl
  have r178 := r177.iloadN (pc' := 38) d22_37 rfl rfl
  have r179 := r178.getS (host := "") (pc' := 41) d22_38 (Or.inl (hw _ (List.mem_of_getElem? (i := 102) rfl))) Via.refl (SS.2.2.2.1.ext (O0).2) rfl
  have r180 := r179.ishr (pc' := 42) d22_41 rfl rfl
  have r181 := r180.i2b (pc' := 43) d22_42 rfl rfl
  obtain ⟨h1, W1, V1, r1⟩ := r181.sB (pc' := 44) d22_43 V n1 l1 q1 gb rfl
  have O1 := O0.wr W1 gb
  have r182 := r1.aloadN (pc' := 45) d22_44 rfl rfl rfl
  have r183 := r182.iloadN (pc' := 46) d22_45 rfl rfl
  have r184 := r183.iloadN (pc' := 47) d22_46 rfl rfl
  have r185 := r184.getS (host := "") (pc' := 50) d22_47 (Or.inl (hw _ (List.mem_of_getElem? (i := 103) rfl))) Via.refl (SS.2.2.2.2.ext (O1).2) rfl
  have r186 := r185.ishr (pc' := 51) d22_50 rfl rfl
  have r187 := r186.i2b (pc' := 52) d22_51 rfl rfl
  obtain ⟨h2, W2, V2, r2⟩ := r187.sB (pc' := 53) d22_52 V1 n2 l2 (by simpa using q2) gb rfl
  exact ⟨_, _, r2.retV d22_53 rfl (by decide) (by decide), ⟨rfl, V2, ((Keep.refl h0 [b]).wr W1 (Or.inl (by simp))).wr W2 (Or.inl (by simp))⟩⟩
theorem d21_0 : decode jdk_52_method_3_code 0 = .ok (.iload_n 0, 1) := by decide +kernel
theorem d21_1 : decode jdk_52_method_3_code 1 = .ok (.ifCond .ge 11, 3) := by decide +kernel
theorem d21_12 : decode jdk_52_method_3_code 12 = .ok (.iload_n 0, 1) := by decide +kernel
theorem d21_13 : decode jdk_52_method_3_code 13 = .ok (.ldc 20, 2) := by decide +kernel
theorem d21_15 : decode jdk_52_method_3_code 15 = .ok (.if_icmp .lt 40, 3) := by decide +kernel
theorem d21_55 : decode jdk_52_method_3_code 55 = .ok (.iload_n 0, 1) := by decide +kernel
theorem d21_56 : decode jdk_52_method_3_code 56 = .ok (.iconst 1, 1) := by decide +kernel
theorem d21_57 : decode jdk_52_method_3_code 57 = .ok (.ishl, 1) := by decide +kernel
theorem d21_58 : decode jdk_52_method_3_code 58 = .ok (.ireturn, 1) := by decide +kernel
set_option maxRecDepth 65536 in
set_option maxHeartbeats 40000000 in
theorem u_nbl (l : Launch) (Z : State) (a0 : Array Value) (hw : ∀ d ∈ tables_1, d.before a0 Z = true) (i j : Int32) (h0 : Heap) (n0 : Nat) (h1 : ¬ i < 0) (h2 : i < (1073741823 : Int32)) (hj : i <<< ((1 : Int32) &&& 31) = j) :
    Ctr l Z (⟨"java/lang/StringUTF16", "newBytesLength", "(I)I"⟩ : MethodName) jdk_52_method_3_code 1 (some .int) ({ frames := 0, cells := 0, slots := 0, locals := 0 } : Room) #[(.int i)] h0 n0 (fun v h => v = some (.int j) ∧ h0 = h) := by
  refine ent (plainFor_of_name pn_java_lang_StringUTF16) (L0 := #[.val (.int i)]) (fun m => by first | (simp [entryFrame, mkF, argsToLocals, Value.category]; done) | rfl) ?_
  intro p e s m below meth c T0 r0
  have r188 := r0.iloadN (pc' := 1) d21_0 rfl rfl
  have r189 := r188.ifT (pc' := 12) d21_1 (flt h1).2.1 (by decide) (by decide)
  have r190 := r189.iloadN (pc' := 13) d21_12 rfl rfl
  have r191 := r190.ldc (pc' := 15) d21_13 (hw _ (List.mem_of_getElem? (i := 97) rfl)) rfl
  have r192 := r191.icT (pc' := 55) d21_15 (tlt h2).1 (by decide) (by decide)
  have r193 := r192.iloadN (pc' := 56) d21_55 rfl rfl
  have r194 := r193.iconst (pc' := 57) (1 : Int32) d21_56 rfl rfl
  have r195 := r194.ishl (pc' := 58) (u := j) d21_57 hj rfl
  exact ⟨_, _, r195.retI d21_58 rfl (by decide) (by decide), rfl, rfl⟩
theorem d17_0 : decode jdk_52_method_15_code 0 = .ok (.iload_n 1, 1) := by decide +kernel
theorem d17_1 : decode jdk_52_method_15_code 1 = .ok (.aload_n 0, 1) := by decide +kernel
theorem d17_2 : decode jdk_52_method_15_code 2 = .ok (.arraylength, 1) := by decide +kernel
theorem d17_3 : decode jdk_52_method_15_code 3 = .ok (.isub, 1) := by decide +kernel
theorem d17_4 : decode jdk_52_method_15_code 4 = .ok (.bipush 31, 2) := by decide +kernel
theorem d17_6 : decode jdk_52_method_15_code 6 = .ok (.iushr, 1) := by decide +kernel
theorem d17_7 : decode jdk_52_method_15_code 7 = .ok (.i2b, 1) := by decide +kernel
theorem d17_8 : decode jdk_52_method_15_code 8 = .ok (.ireturn, 1) := by decide +kernel
set_option maxRecDepth 65536 in
set_option maxHeartbeats 40000000 in
theorem u_cod (l : Launch) (Z : State) (a0 : Array Value) (hw : ∀ d ∈ tables_1, d.before a0 Z = true) (b : Addr) (i z u : Int32) (F : List Int32) (h0 : Heap) (n0 : Nat) (V : ArB Z h0 b z F) (hu : nar .byte (((i - z).toUInt32 >>> ((31 : Int32) &&& 31).toUInt32).toInt32.toInt8.toInt32) = u) :
    Ctr l Z (⟨"java/lang/StringUTF16", "coderFromArrayLen", "([BI)B"⟩ : MethodName) jdk_52_method_15_code 2 (some .byte) ({ frames := 0, cells := 0, slots := 0, locals := 0 } : Room) #[(.ref b), (.int i)] h0 n0 (fun v h => v = some (.int u) ∧ h0 = h) := by
  refine ent (plainFor_of_name pn_java_lang_StringUTF16) (L0 := #[.val (.ref b), .val (.int i)]) (fun m => by first | (simp [entryFrame, mkF, argsToLocals, Value.category]; done) | rfl) ?_
  intro p e s m below meth c T0 r0
  have r196 := r0.iloadN (pc' := 1) d17_0 rfl rfl
  have r197 := r196.aloadN (pc' := 2) d17_1 rfl rfl rfl
  have r198 := r197.lenB (pc' := 3) d17_2 V rfl
  have r199 := r198.isub (pc' := 4) d17_3 rfl rfl
  have r200 := r199.bipush (pc' := 6) (31 : Int32) d17_4 rfl rfl
  have r201 := r200.iushr (pc' := 7) d17_6 rfl rfl
  have r202 := r201.i2b (pc' := 8) d17_7 rfl rfl
  exact ⟨_, _, r202.retZ d17_8 rfl (t := .byte) (by simp) u hu (by decide) (by decide), rfl, rfl⟩
theorem d20_0 : decode jdk_52_method_2_code 0 = .ok (.iload_n 0, 1) := by decide +kernel
theorem d20_1 : decode jdk_52_method_2_code 1 = .ok (.invokestatic 11, 3) := by decide +kernel
theorem pd_6 : parseMethodDescriptor "(I)I" = some ⟨[.int], some .int⟩ := by decide +kernel
theorem d20_4 : decode jdk_52_method_2_code 4 = .ok (.newarray .byte, 2) := by decide +kernel
theorem d20_6 : decode jdk_52_method_2_code 6 = .ok (.areturn, 1) := by decide +kernel
set_option maxRecDepth 65536 in
set_option maxHeartbeats 40000000 in
theorem u_nbf1 (l : Launch) (Z : State) (a0 : Array Value) (hw : ∀ d ∈ tables_1, d.before a0 Z = true)  (h0 : Heap) (n0 : Nat) (Z0 : n0 ≤ h0.size) :
    Ctr l Z (⟨"java/lang/StringUTF16", "newBytesFor", "(I)[B"⟩ : MethodName) jdk_52_method_2_code 1 (some (.array .byte)) ({ frames := 1, cells := 1, slots := 6, locals := 12 } : Room) #[(.int (1 : Int32))] h0 n0 (fun v h => ∃ b, v = some (.ref b) ∧ ArB Z h b (2 : Int32) [0, 0] ∧ h0.size ≤ b ∧ Ext h0 h) := by
  refine ent (plainFor_of_name pn_java_lang_StringUTF16) (L0 := #[.val (.int (1 : Int32))]) (fun m => by first | (simp [entryFrame, mkF, argsToLocals, Value.category]; done) | rfl) ?_
  intro p e s m below meth c T0 r0
  have r203 := r0.iloadN (pc' := 1) d20_0 rfl rfl
  obtain ⟨v206, h207, hq205, r204⟩ := r203.callS (pc' := 4) [(.int (1 : Int32))] (rest := []) 0 d20_1 (hw _ (List.mem_of_getElem? (i := 94) rfl)) (hw _ (List.mem_of_getElem? (i := 95) rfl)) (hw _ (List.mem_of_getElem? (i := 77) rfl)) (hw _ (List.mem_of_getElem? (i := 96) rfl)) (by decide) (u_nbl l Z a0 hw (1 : Int32) (2 : Int32) h0 n0 (by decide) (by decide) (by decide)) pd_6 rfl rfl rfl (Nat.le_of_ble_eq_true rfl) (by decide) (by decide) (k' := 0) (n' := 0) rfl rfl (by decide) (by decide) rfl
  obtain ⟨rfl, rfl⟩ := hq205
  dsimp only [Option.toList, List.cons_append, List.nil_append] at r204
  obtain ⟨h208, b208, kc208, hb208, E208, V208, r208⟩ := r204.newP (pc' := 6) d20_4 (hw _ (List.mem_of_getElem? (i := 21) rfl)) (by decide) (cap := 6) (by decide) (by decide) (k' := 1) (n' := 6) rfl rfl (by decide) (by decide) rfl
  have g209 : n0 ≤ b208 := hb208 ▸ Z0
  have sz210 : h0.size ≤ b208 := hb208 ▸ ((Keep.refl h0 [])).1
  have K211 := ((Keep.refl h0 [])).ext E208
  have zp212 : n0 ≤ h208.size := Nat.le_trans Z0 E208.1
  have f213 : ArB Z h208 b208 (2 : Int32) [0, 0] := ArB.new V208 2
  exact ⟨_, _, r208.retA d20_6 rfl rfl rfl (by decide) (by decide), ⟨b208, rfl, f213, sz210, E208⟩⟩
theorem d19_0 : decode jdk_52_method_14_code 0 = .ok (.iload_n 2, 1) := by decide +kernel
theorem d19_1 : decode jdk_52_method_14_code 1 = .ok (.invokestatic 107, 3) := by decide +kernel
theorem pd_7 : parseMethodDescriptor "(I)[B" = some ⟨[.int], some (.array .byte)⟩ := by decide +kernel
theorem d19_4 : decode jdk_52_method_14_code 4 = .ok (.astore_n 3, 1) := by decide +kernel
theorem d19_5 : decode jdk_52_method_14_code 5 = .ok (.iconst 0, 1) := by decide +kernel
theorem d19_6 : decode jdk_52_method_14_code 6 = .ok (.istore 4, 2) := by decide +kernel
theorem d19_8 : decode jdk_52_method_14_code 8 = .ok (.iload 4, 2) := by decide +kernel
theorem d19_10 : decode jdk_52_method_14_code 10 = .ok (.iload_n 2, 1) := by decide +kernel
theorem d19_11 : decode jdk_52_method_14_code 11 = .ok (.if_icmp .ge 21, 3) := by decide +kernel
theorem d19_14 : decode jdk_52_method_14_code 14 = .ok (.aload_n 3, 1) := by decide +kernel
theorem d19_15 : decode jdk_52_method_14_code 15 = .ok (.iload 4, 2) := by decide +kernel
theorem d19_17 : decode jdk_52_method_14_code 17 = .ok (.aload_n 0, 1) := by decide +kernel
theorem d19_18 : decode jdk_52_method_14_code 18 = .ok (.iload_n 1, 1) := by decide +kernel
theorem d19_19 : decode jdk_52_method_14_code 19 = .ok (.caload, 1) := by decide +kernel
theorem shim {P : Prop} (l : Launch) (Z : State) (a0 : Array Value) (hw : ∀ d ∈ tables_1, d.before a0 Z = true) (p : P) : P := p
theorem d19_20 : decode jdk_52_method_14_code 20 = .ok (.invokestatic 111, 3) := by decide +kernel
theorem pd_16 : parseMethodDescriptor "([BII)V" = some ⟨[(.array .byte), .int, .int], none⟩ := by decide +kernel
theorem d19_23 : decode jdk_52_method_14_code 23 = .ok (.iinc 1 1, 3) := by decide +kernel
theorem d19_26 : decode jdk_52_method_14_code 26 = .ok (.iinc 4 1, 3) := by decide +kernel
theorem d19_29 : decode jdk_52_method_14_code 29 = .ok (.goto (-21), 3) := by decide +kernel
theorem d19_32 : decode jdk_52_method_14_code 32 = .ok (.aload_n 3, 1) := by decide +kernel
theorem d19_33 : decode jdk_52_method_14_code 33 = .ok (.areturn, 1) := by decide +kernel
set_option maxRecDepth 65536 in
set_option maxHeartbeats 40000000 in
theorem u_tb1 (l : Launch) (Z : State) (a0 : Array Value) (hw : ∀ d ∈ tables_1, d.before a0 Z = true) (ca : Addr) (x : Int32) (h0 : Heap) (n0 : Nat) (VC : ArC Z h0 ca (1 : Int32) [x]) (Z0 : n0 ≤ h0.size) (cs : Int32) (vF : Value) (SS : Stt Z cs vF) (O0 : Old Z n0 h0) :
    Ctr l Z (⟨"java/lang/StringUTF16", "toBytes", "([CII)[B"⟩ : MethodName) jdk_52_method_14_code 5 (some (.array .byte)) ({ frames := 2, cells := 1, slots := 6, locals := 24 } : Room) #[(.ref ca), (.int (0 : Int32)), (.int (1 : Int32))] h0 n0 (fun v h => ∃ b, v = some (.ref b) ∧ ArB Z h b (2 : Int32) [nar .byte ((x >>> ((0 : Int32) &&& 31)).toInt8.toInt32), nar .byte ((x >>> ((8 : Int32) &&& 31)).toInt8.toInt32)] ∧ h0.size ≤ b ∧ Keep h0 h []) := by
  refine ent (plainFor_of_name pn_java_lang_StringUTF16) (L0 := #[.val (.ref ca), .val (.int (0 : Int32)), .val (.int (1 : Int32)), .unset, .unset]) (fun m => by first | (simp [entryFrame, mkF, argsToLocals, Value.category]; done) | rfl) ?_
  intro p e s m below meth c T0 r0
  have r214 := r0.iloadN (pc' := 1) d19_0 rfl rfl
  obtain ⟨v217, h218, hq216, r215⟩ := r214.callS (pc' := 4) [(.int (1 : Int32))] (rest := []) 0 d19_1 (hw _ (List.mem_of_getElem? (i := 91) rfl)) (hw _ (List.mem_of_getElem? (i := 92) rfl)) (hw _ (List.mem_of_getElem? (i := 77) rfl)) (hw _ (List.mem_of_getElem? (i := 93) rfl)) (by decide) (u_nbf1 l Z a0 hw h0 n0 Z0) pd_7 rfl rfl rfl (Nat.le_of_ble_eq_true rfl) (by decide) (by decide) (k' := 1) (n' := 6) rfl rfl (by decide) (by decide) rfl
  obtain ⟨b, rfl, VB, gb, EB⟩ := hq216
  dsimp only [Option.toList, List.cons_append, List.nil_append] at r215
  have neb : ca ≠ b := fun q => absurd VC.lt (Nat.not_lt.mpr (q ▸ gb))
  have gn : n0 ≤ b := Nat.le_trans Z0 gb
  have f219 := VC.ext EB
  have K220 := ((Keep.refl h0 [])).ext EB
  have zp221 : n0 ≤ h218.size := Nat.le_trans Z0 EB.1
  have old222 := (O0).ext EB
  have r223 := r215.astoreN (pc' := 5) (L' := #[.val (.ref ca), .val (.int (0 : Int32)), .val (.int (1 : Int32)), .val (.ref b), .unset]) d19_4 rfl rfl rfl
  have r224 := r223.iconst (pc' := 6) (0 : Int32) d19_5 rfl rfl
  have r225 := r224.istore (pc' := 8) (L' := #[.val (.ref ca), .val (.int (0 : Int32)), .val (.int (1 : Int32)), .val (.ref b), .val (.int (0 : Int32))]) d19_6 rfl rfl
  have r226 := r225.iload (pc' := 10) d19_8 rfl rfl
  have r227 := r226.iloadN (pc' := 11) d19_10 rfl rfl
  have r228 := r227.icF (pc' := 14) d19_11 (tlt (by decide : (0 : Int32) < (1 : Int32))).2.1 rfl
  have r229 := r228.aloadN (pc' := 15) d19_14 rfl rfl rfl
  have r230 := r229.iload (pc' := 17) d19_15 rfl rfl
  have r231 := r230.aloadN (pc' := 18) d19_17 rfl rfl rfl
  have r232 := r231.iloadN (pc' := 19) d19_18 rfl rfl
  have r233 := r232.gC (pc' := 20) d19_19 f219 (by decide) (by decide) rfl
  have p234 := u_put l Z a0 hw b (0 : Int32) x (2 : Int32) (0 : Int32) [0, 0] h218 n0 VB (by decide) (by decide) (by decide) (by decide) (by decide) (Nat.le_of_ble_eq_true rfl) (Nat.le_of_ble_eq_true rfl) gn cs vF SS old222
  obtain ⟨v237, h238, hq236, r235⟩ := r233.callS (pc' := 23) [(.ref b), (.int (0 : Int32)), (.int x)] (rest := []) 0 d19_20 (hw _ (List.mem_of_getElem? (i := 98) rfl)) (hw _ (List.mem_of_getElem? (i := 99) rfl)) (hw _ (List.mem_of_getElem? (i := 77) rfl)) (hw _ (List.mem_of_getElem? (i := 100) rfl)) (by decide) (shim l Z a0 hw p234) pd_16 rfl rfl rfl (Nat.le_of_ble_eq_true rfl) (by decide) (by decide) (k' := 1) (n' := 6) rfl rfl (by decide) (by decide) rfl
  obtain ⟨rfl, V234, K234⟩ := hq236
  dsimp only [Option.toList, List.cons_append, List.nil_append] at r235
  have f239 := f219.keep K234 (ninS (neb) nin0)
  have zp240 : n0 ≤ h238.size := Nat.le_trans zp221 K234.1
  have K241 := (K220).trans K234 (allS (Or.inr gb) all0)
  have old242 := (old222).keep K234 (allS gn all0)
  replace V234 : ArB Z h238 b (2 : Int32) [nar .byte ((x >>> ((0 : Int32) &&& 31)).toInt8.toInt32), nar .byte ((x >>> ((8 : Int32) &&& 31)).toInt8.toInt32)] := V234
  have r243 := r235.iinc (pc' := 26) (L' := #[.val (.ref ca), .val (.int (1 : Int32)), .val (.int (1 : Int32)), .val (.ref b), .val (.int (0 : Int32))]) (1 : Int32) d19_23 rfl rfl (by decide) rfl rfl
  have r244 := r243.iinc (pc' := 29) (L' := #[.val (.ref ca), .val (.int (1 : Int32)), .val (.int (1 : Int32)), .val (.ref b), .val (.int (1 : Int32))]) (1 : Int32) d19_26 rfl rfl (by decide) rfl rfl
  have r245 := r244.goto (pc' := 8) d19_29 (by decide) (by decide)
  have r246 := r245.iload (pc' := 10) d19_8 rfl rfl
  have r247 := r246.iloadN (pc' := 11) d19_10 rfl rfl
  have r248 := r247.icT (pc' := 32) d19_11 (flt (by decide : ¬ (1 : Int32) < (1 : Int32))).2.1 (by decide) (by decide)
  have r249 := r248.aloadN (pc' := 33) d19_32 rfl rfl rfl
  exact ⟨_, _, r249.retA d19_33 rfl rfl rfl (by decide) (by decide), ⟨b, rfl, V234, gb, K241⟩⟩
theorem d16_0 : decode jdk_52_method_21_code 0 = .ok (.iconst 0, 1) := by decide +kernel
theorem d16_1 : decode jdk_52_method_21_code 1 = .ok (.istore 5, 2) := by decide +kernel
theorem d16_3 : decode jdk_52_method_21_code 3 = .ok (.iload 5, 2) := by decide +kernel
theorem d16_5 : decode jdk_52_method_21_code 5 = .ok (.iload 4, 2) := by decide +kernel
theorem d16_7 : decode jdk_52_method_21_code 7 = .ok (.if_icmp .ge 37, 3) := by decide +kernel
theorem d16_10 : decode jdk_52_method_21_code 10 = .ok (.aload_n 0, 1) := by decide +kernel
theorem d16_11 : decode jdk_52_method_21_code 11 = .ok (.iload_n 1, 1) := by decide +kernel
theorem d16_12 : decode jdk_52_method_21_code 12 = .ok (.caload, 1) := by decide +kernel
theorem d16_13 : decode jdk_52_method_21_code 13 = .ok (.istore 6, 2) := by decide +kernel
theorem d16_15 : decode jdk_52_method_21_code 15 = .ok (.iload 6, 2) := by decide +kernel
theorem d16_17 : decode jdk_52_method_21_code 17 = .ok (.sipush 255, 3) := by decide +kernel
theorem d16_20 : decode jdk_52_method_21_code 20 = .ok (.if_icmp .le 6, 3) := by decide +kernel
theorem d16_23 : decode jdk_52_method_21_code 23 = .ok (.iload 5, 2) := by decide +kernel
theorem d16_25 : decode jdk_52_method_21_code 25 = .ok (.ireturn, 1) := by decide +kernel
theorem d16_26 : decode jdk_52_method_21_code 26 = .ok (.aload_n 2, 1) := by decide +kernel
theorem d16_27 : decode jdk_52_method_21_code 27 = .ok (.iload_n 3, 1) := by decide +kernel
theorem d16_28 : decode jdk_52_method_21_code 28 = .ok (.iload 6, 2) := by decide +kernel
theorem d16_30 : decode jdk_52_method_21_code 30 = .ok (.i2b, 1) := by decide +kernel
theorem d16_31 : decode jdk_52_method_21_code 31 = .ok (.bastore, 1) := by decide +kernel
theorem d16_32 : decode jdk_52_method_21_code 32 = .ok (.iinc 1 1, 3) := by decide +kernel
theorem d16_35 : decode jdk_52_method_21_code 35 = .ok (.iinc 3 1, 3) := by decide +kernel
theorem d16_38 : decode jdk_52_method_21_code 38 = .ok (.iinc 5 1, 3) := by decide +kernel
theorem d16_41 : decode jdk_52_method_21_code 41 = .ok (.goto (-38), 3) := by decide +kernel
theorem d16_44 : decode jdk_52_method_21_code 44 = .ok (.iload 4, 2) := by decide +kernel
theorem d16_46 : decode jdk_52_method_21_code 46 = .ok (.ireturn, 1) := by decide +kernel
set_option maxRecDepth 65536 in
set_option maxHeartbeats 40000000 in
theorem u_c5_1 (l : Launch) (Z : State) (a0 : Array Value) (hw : ∀ d ∈ tables_1, d.before a0 Z = true) (ca d : Addr) (x : Int32) (h0 : Heap) (n0 : Nat) (VC : ArC Z h0 ca (1 : Int32) [x]) (VD : ArB Z h0 d (1 : Int32) [0]) (gd : n0 ≤ d) (ned : ca ≠ d) (Z0 : n0 ≤ h0.size) :
    Ctr l Z (⟨"java/lang/StringUTF16", "compress", "([CI[BII)I"⟩ : MethodName) jdk_52_method_21_code 7 (some .int) ({ frames := 0, cells := 0, slots := 0, locals := 0 } : Room) #[(.ref ca), (.int (0 : Int32)), (.ref d), (.int (0 : Int32)), (.int (1 : Int32))] h0 n0 (fun v h => ∃ k, v = some (.int k) ∧ Keep h0 h [d] ∧ ((k = (0 : Int32) ∧ 255 < x) ∨ (k = (1 : Int32) ∧ ¬ 255 < x ∧ ArB Z h d (1 : Int32) [nar .byte (x.toInt8.toInt32)]))) := by
  refine ent (plainFor_of_name pn_java_lang_StringUTF16) (L0 := #[.val (.ref ca), .val (.int (0 : Int32)), .val (.ref d), .val (.int (0 : Int32)), .val (.int (1 : Int32)), .unset, .unset]) (fun m => by first | (simp [entryFrame, mkF, argsToLocals, Value.category]; done) | rfl) ?_
  intro p e s m below meth c T0 r0
  have r250 := r0.iconst (pc' := 1) (0 : Int32) d16_0 rfl rfl
  have r251 := r250.istore (pc' := 3) (L' := #[.val (.ref ca), .val (.int (0 : Int32)), .val (.ref d), .val (.int (0 : Int32)), .val (.int (1 : Int32)), .val (.int (0 : Int32)), .unset]) d16_1 rfl rfl
  have r252 := r251.iload (pc' := 5) d16_3 rfl rfl
  have r253 := r252.iload (pc' := 7) d16_5 rfl rfl
  have r254 := r253.icF (pc' := 10) d16_7 (tlt (by decide : (0 : Int32) < (1 : Int32))).2.1 rfl
  have r255 := r254.aloadN (pc' := 11) d16_10 rfl rfl rfl
  have r256 := r255.iloadN (pc' := 12) d16_11 rfl rfl
  have r257 := r256.gC (pc' := 13) d16_12 VC (by decide) (by decide) rfl
  have r258 := r257.istore (pc' := 15) (L' := #[.val (.ref ca), .val (.int (0 : Int32)), .val (.ref d), .val (.int (0 : Int32)), .val (.int (1 : Int32)), .val (.int (0 : Int32)), .val (.int x)]) d16_13 rfl rfl
  have r259 := r258.iload (pc' := 17) d16_15 rfl rfl
  have r260 := r259.sipush (pc' := 20) (255 : Int32) d16_17 rfl rfl
  by_cases hc261 : (255 : Int32) < x
  · -- yes
    have r262 := r260.icF (pc' := 23) d16_20 (tlt hc261).2.2.2 rfl
    have r263 := r262.iload (pc' := 25) d16_23 rfl rfl
    exact ⟨_, _, r263.retI d16_25 rfl (by decide) (by decide), ⟨_, rfl, (Keep.refl h0 [d]), Or.inl ⟨rfl, hc261⟩⟩⟩
  · -- not no
    have r264 := r260.icT (pc' := 26) d16_20 (flt hc261).2.2.2 (by decide) (by decide)
    have r265 := r264.aloadN (pc' := 27) d16_26 rfl rfl rfl
    have r266 := r265.iloadN (pc' := 28) d16_27 rfl rfl
    have r267 := r266.iload (pc' := 30) d16_28 rfl rfl
    have r268 := r267.i2b (pc' := 31) d16_30 rfl rfl
    obtain ⟨h269, W269, V269, r269⟩ := r268.sB (pc' := 32) d16_31 VD (by decide) (by decide) (Nat.le_of_ble_eq_true rfl) gd rfl
    have f270 := VC.other W269 (ned)
    replace V269 : ArB Z h269 d (1 : Int32) [nar .byte (x.toInt8.toInt32)] := V269
    have K271 := ((Keep.refl h0 [d])).wr W269 (Or.inl (by simp))
    have zp272 : n0 ≤ h269.size := Nat.le_trans Z0 (Nat.le_of_eq W269.size.symm)
    have r273 := r269.iinc (pc' := 35) (L' := #[.val (.ref ca), .val (.int (1 : Int32)), .val (.ref d), .val (.int (0 : Int32)), .val (.int (1 : Int32)), .val (.int (0 : Int32)), .val (.int x)]) (1 : Int32) d16_32 rfl rfl (by decide) rfl rfl
    have r274 := r273.iinc (pc' := 38) (L' := #[.val (.ref ca), .val (.int (1 : Int32)), .val (.ref d), .val (.int (1 : Int32)), .val (.int (1 : Int32)), .val (.int (0 : Int32)), .val (.int x)]) (1 : Int32) d16_35 rfl rfl (by decide) rfl rfl
    have r275 := r274.iinc (pc' := 41) (L' := #[.val (.ref ca), .val (.int (1 : Int32)), .val (.ref d), .val (.int (1 : Int32)), .val (.int (1 : Int32)), .val (.int (1 : Int32)), .val (.int x)]) (1 : Int32) d16_38 rfl rfl (by decide) rfl rfl
    have r276 := r275.goto (pc' := 3) d16_41 (by decide) (by decide)
    have r277 := r276.iload (pc' := 5) d16_3 rfl rfl
    have r278 := r277.iload (pc' := 7) d16_5 rfl rfl
    have r279 := r278.icT (pc' := 44) d16_7 (flt (by decide : ¬ (1 : Int32) < (1 : Int32))).2.1 (by decide) (by decide)
    have r280 := r279.iload (pc' := 46) d16_44 rfl rfl
    exact ⟨_, _, r280.retI d16_46 rfl (by decide) (by decide), ⟨_, rfl, K271, Or.inr (⟨rfl, hc261, V269⟩)⟩⟩
theorem d15_0 : decode jdk_52_method_16_code 0 = .ok (.iload_n 2, 1) := by decide +kernel
theorem d15_1 : decode jdk_52_method_16_code 1 = .ok (.newarray .byte, 2) := by decide +kernel
theorem d15_3 : decode jdk_52_method_16_code 3 = .ok (.astore_n 3, 1) := by decide +kernel
theorem d15_4 : decode jdk_52_method_16_code 4 = .ok (.aload_n 0, 1) := by decide +kernel
theorem d15_5 : decode jdk_52_method_16_code 5 = .ok (.iload_n 1, 1) := by decide +kernel
theorem d15_6 : decode jdk_52_method_16_code 6 = .ok (.aload_n 3, 1) := by decide +kernel
theorem d15_7 : decode jdk_52_method_16_code 7 = .ok (.iconst 0, 1) := by decide +kernel
theorem d15_8 : decode jdk_52_method_16_code 8 = .ok (.iload_n 2, 1) := by decide +kernel
theorem d15_9 : decode jdk_52_method_16_code 9 = .ok (.invokestatic 115, 3) := by decide +kernel
theorem pd_20 : parseMethodDescriptor "([CI[BII)I" = some ⟨[(.array .char), .int, (.array .byte), .int, .int], some .int⟩ := by decide +kernel
theorem d15_12 : decode jdk_52_method_16_code 12 = .ok (.istore 4, 2) := by decide +kernel
theorem d15_14 : decode jdk_52_method_16_code 14 = .ok (.iload 4, 2) := by decide +kernel
theorem d15_16 : decode jdk_52_method_16_code 16 = .ok (.iload_n 2, 1) := by decide +kernel
theorem d15_17 : decode jdk_52_method_16_code 17 = .ok (.if_icmp .eq 40, 3) := by decide +kernel
theorem d15_20 : decode jdk_52_method_16_code 20 = .ok (.aload_n 0, 1) := by decide +kernel
theorem d15_21 : decode jdk_52_method_16_code 21 = .ok (.iload_n 1, 1) := by decide +kernel
theorem d15_22 : decode jdk_52_method_16_code 22 = .ok (.iload_n 2, 1) := by decide +kernel
theorem d15_23 : decode jdk_52_method_16_code 23 = .ok (.invokestatic 119, 3) := by decide +kernel
theorem pd_18 : parseMethodDescriptor "([CII)[B" = some ⟨[(.array .char), .int, .int], some (.array .byte)⟩ := by decide +kernel
theorem d15_26 : decode jdk_52_method_16_code 26 = .ok (.astore 5, 2) := by decide +kernel
theorem d15_28 : decode jdk_52_method_16_code 28 = .ok (.aload 5, 2) := by decide +kernel
theorem d15_30 : decode jdk_52_method_16_code 30 = .ok (.iload 4, 2) := by decide +kernel
theorem d15_32 : decode jdk_52_method_16_code 32 = .ok (.invokestatic 71, 3) := by decide +kernel
theorem d15_35 : decode jdk_52_method_16_code 35 = .ok (.sipush 255, 3) := by decide +kernel
theorem d15_38 : decode jdk_52_method_16_code 38 = .ok (.if_icmp .gt 16, 3) := by decide +kernel
theorem d15_54 : decode jdk_52_method_16_code 54 = .ok (.aload 5, 2) := by decide +kernel
theorem d15_56 : decode jdk_52_method_16_code 56 = .ok (.areturn, 1) := by decide +kernel
theorem d15_57 : decode jdk_52_method_16_code 57 = .ok (.aload_n 3, 1) := by decide +kernel
theorem d15_58 : decode jdk_52_method_16_code 58 = .ok (.areturn, 1) := by decide +kernel
set_option maxRecDepth 65536 in
set_option maxHeartbeats 40000000 in
theorem u_c3_1 (l : Launch) (Z : State) (a0 : Array Value) (hw : ∀ d ∈ tables_1, d.before a0 Z = true) (ca : Addr) (x : Int32) (h0 : Heap) (n0 : Nat) (hx : ¬ x < 0) (kx : ¬ 65535 < x) (VC : ArC Z h0 ca (1 : Int32) [x]) (Z0 : n0 ≤ h0.size) (cs : Int32) (vF : Value) (SS : Stt Z cs vF) (O0 : Old Z n0 h0) :
    Ctr l Z (⟨"java/lang/StringUTF16", "compress", "([CII)[B"⟩ : MethodName) jdk_52_method_16_code 6 (some (.array .byte)) ({ frames := 3, cells := 2, slots := 9, locals := 40 } : Room) #[(.ref ca), (.int (0 : Int32)), (.int (1 : Int32))] h0 n0 (fun v h => ∃ (b : Addr) (b2 : Int32) (F : List Int32), v = some (.ref b) ∧ ArB Z h b b2 F ∧ h0.size ≤ b ∧ Keep h0 h [] ∧ ((b2 = (1 : Int32) ∧ F = [nar .byte (x.toInt8.toInt32)] ∧ ¬ 255 < x) ∨ (b2 = (2 : Int32) ∧ F = [nar .byte ((x >>> ((0 : Int32) &&& 31)).toInt8.toInt32), nar .byte ((x >>> ((8 : Int32) &&& 31)).toInt8.toInt32)]))) := by
  refine ent (plainFor_of_name pn_java_lang_StringUTF16) (L0 := #[.val (.ref ca), .val (.int (0 : Int32)), .val (.int (1 : Int32)), .unset, .unset, .unset]) (fun m => by first | (simp [entryFrame, mkF, argsToLocals, Value.category]; done) | rfl) ?_
  intro p e s m below meth c T0 r0
  have r281 := r0.iloadN (pc' := 1) d15_0 rfl rfl
  obtain ⟨h282, b282, kc282, hb282, E282, V282, r282⟩ := r281.newP (pc' := 3) d15_1 (hw _ (List.mem_of_getElem? (i := 21) rfl)) (by decide) (cap := 3) (by decide) (by decide) (k' := 1) (n' := 3) rfl rfl (by decide) (by decide) rfl
  have ne283 : ca ≠ b282 := Nat.ne_of_lt (hb282 ▸ VC.lt)
  have g284 : n0 ≤ b282 := hb282 ▸ Z0
  have sz285 : h0.size ≤ b282 := hb282 ▸ ((Keep.refl h0 [])).1
  have f286 := VC.ext E282
  have K287 := ((Keep.refl h0 [])).ext E282
  have zp288 : n0 ≤ h282.size := Nat.le_trans Z0 E282.1
  have old289 := (O0).ext E282
  have f290 : ArB Z h282 b282 (1 : Int32) [0] := ArB.new V282 1
  have r291 := r282.astoreN (pc' := 4) (L' := #[.val (.ref ca), .val (.int (0 : Int32)), .val (.int (1 : Int32)), .val (.ref b282), .unset, .unset]) d15_3 rfl rfl rfl
  have r292 := r291.aloadN (pc' := 5) d15_4 rfl rfl rfl
  have r293 := r292.iloadN (pc' := 6) d15_5 rfl rfl
  have r294 := r293.aloadN (pc' := 7) d15_6 rfl rfl rfl
  have r295 := r294.iconst (pc' := 8) (0 : Int32) d15_7 rfl rfl
  have r296 := r295.iloadN (pc' := 9) d15_8 rfl rfl
  obtain ⟨v299, h300, hq298, r297⟩ := r296.callS (pc' := 12) [(.ref ca), (.int (0 : Int32)), (.ref b282), (.int (0 : Int32)), (.int (1 : Int32))] (rest := []) 0 d15_9 (hw _ (List.mem_of_getElem? (i := 79) rfl)) (hw _ (List.mem_of_getElem? (i := 80) rfl)) (hw _ (List.mem_of_getElem? (i := 77) rfl)) (hw _ (List.mem_of_getElem? (i := 81) rfl)) (by decide) (u_c5_1 l Z a0 hw ca b282 x h282 n0 f286 f290 g284 (ne283) zp288) pd_20 rfl rfl rfl (Nat.le_of_ble_eq_true rfl) (by decide) (by decide) (k' := 1) (n' := 3) rfl rfl (by decide) (by decide) rfl
  obtain ⟨k, rfl, K5, Q5⟩ := hq298
  dsimp only [Option.toList, List.cons_append, List.nil_append] at r297
  have f301 := f286.keep K5 (ninS (ne283) nin0)
  have zp302 : n0 ≤ h300.size := Nat.le_trans zp288 K5.1
  have K303 := (K287).trans K5 (allS (Or.inr sz285) all0)
  have old304 := (old289).keep K5 (allS g284 all0)
  rcases Q5 with ⟨rfl, g5⟩ | ⟨rfl, gx, V5⟩
  · -- 0
    have r305 := r297.istore (pc' := 14) (L' := #[.val (.ref ca), .val (.int (0 : Int32)), .val (.int (1 : Int32)), .val (.ref b282), .val (.int (0 : Int32)), .unset]) d15_12 rfl rfl
    have r306 := r305.iload (pc' := 16) d15_14 rfl rfl
    have r307 := r306.iloadN (pc' := 17) d15_16 rfl rfl
    have r308 := r307.icF (pc' := 20) d15_17 (feq (by decide : ¬ (0 : Int32) = (1 : Int32))).1 rfl
    have r309 := r308.aloadN (pc' := 21) d15_20 rfl rfl rfl
    have r310 := r309.iloadN (pc' := 22) d15_21 rfl rfl
    have r311 := r310.iloadN (pc' := 23) d15_22 rfl rfl
    obtain ⟨v314, h315, hq313, r312⟩ := r311.callS (pc' := 26) [(.ref ca), (.int (0 : Int32)), (.int (1 : Int32))] (rest := []) 0 d15_23 (hw _ (List.mem_of_getElem? (i := 88) rfl)) (hw _ (List.mem_of_getElem? (i := 89) rfl)) (hw _ (List.mem_of_getElem? (i := 77) rfl)) (hw _ (List.mem_of_getElem? (i := 90) rfl)) (by decide) (u_tb1 l Z a0 hw ca x h300 n0 f301 zp302 cs vF SS old304) pd_18 rfl rfl rfl (Nat.le_of_ble_eq_true rfl) (by decide) (by decide) (k' := 2) (n' := 9) rfl rfl (by decide) (by decide) rfl
    obtain ⟨tb, rfl, VT, gt, KT⟩ := hq313
    dsimp only [Option.toList, List.cons_append, List.nil_append] at r312
    have gt0 : h0.size ≤ tb := Nat.le_trans (K303).1 gt
    have f316 := f301.keep KT nin0
    have zp317 : n0 ≤ h315.size := Nat.le_trans zp302 KT.1
    have K318 := (K303).trans KT all0
    have old319 := (old304).keep KT all0
    have r320 := r312.astore (pc' := 28) (L' := #[.val (.ref ca), .val (.int (0 : Int32)), .val (.int (1 : Int32)), .val (.ref b282), .val (.int (0 : Int32)), .val (.ref tb)]) d15_26 rfl rfl rfl
    have r321 := r320.aload (pc' := 30) d15_28 rfl rfl rfl
    have r322 := r321.iload (pc' := 32) d15_30 rfl rfl
    obtain ⟨v325, h326, hq324, r323⟩ := r322.callS (pc' := 35) [(.ref tb), (.int (0 : Int32))] (rest := []) 0 d15_32 (hw _ (List.mem_of_getElem? (i := 104) rfl)) (hw _ (List.mem_of_getElem? (i := 105) rfl)) (hw _ (List.mem_of_getElem? (i := 77) rfl)) (hw _ (List.mem_of_getElem? (i := 106) rfl)) (by decide) (u_get l Z a0 hw tb (0 : Int32) (2 : Int32) (0 : Int32) x _ h315 n0 VT (by decide) (by decide) (by decide) (by decide) (by decide) (chr1_at (F := [nar .byte ((x >>> ((0 : Int32) &&& 31)).toInt8.toInt32), nar .byte ((x >>> ((8 : Int32) &&& 31)).toInt8.toInt32)]) (k := 0) rfl rfl hx kx) cs vF SS old319) pd_15 rfl rfl rfl (Nat.le_of_ble_eq_true rfl) (by decide) (by decide) (k' := 2) (n' := 9) rfl rfl (by decide) (by decide) rfl
    obtain ⟨rfl, rfl⟩ := hq324
    dsimp only [Option.toList, List.cons_append, List.nil_append] at r323
    have r327 := r323.sipush (pc' := 38) (255 : Int32) d15_35 rfl rfl
    have r328 := r327.icT (pc' := 54) d15_38 (tlt g5).2.2.1 (by decide) (by decide)
    have r329 := r328.aload (pc' := 56) d15_54 rfl rfl rfl
    exact ⟨_, _, r329.retA d15_56 rfl rfl rfl (by decide) (by decide), ⟨tb, _, _, rfl, VT, gt0, K318, Or.inr ⟨rfl, rfl⟩⟩⟩
  · -- 1
    have r330 := r297.istore (pc' := 14) (L' := #[.val (.ref ca), .val (.int (0 : Int32)), .val (.int (1 : Int32)), .val (.ref b282), .val (.int (1 : Int32)), .unset]) d15_12 rfl rfl
    have r331 := r330.iload (pc' := 16) d15_14 rfl rfl
    have r332 := r331.iloadN (pc' := 17) d15_16 rfl rfl
    have r333 := r332.icT (pc' := 57) d15_17 (teq (by decide : (1 : Int32) = (1 : Int32))).1 (by decide) (by decide)
    have r334 := r333.aloadN (pc' := 58) d15_57 rfl rfl rfl
    exact ⟨_, _, r334.retA d15_58 rfl rfl rfl (by decide) (by decide), ⟨b282, _, _, rfl, V5, sz285, K303, Or.inl ⟨rfl, rfl, gx⟩⟩⟩
theorem d3_0 : decode jdk_42_method_149_code 0 = .ok (.aload_n 0, 1) := by decide +kernel
theorem d3_1 : decode jdk_42_method_149_code 1 = .ok (.invokespecial 1, 3) := by decide +kernel
theorem d3_4 : decode jdk_42_method_149_code 4 = .ok (.iload_n 3, 1) := by decide +kernel
theorem d3_5 : decode jdk_42_method_149_code 5 = .ok (.ifCond .ne 22, 3) := by decide +kernel
theorem d3_27 : decode jdk_42_method_149_code 27 = .ok (.getstatic 38, 3) := by decide +kernel
theorem d3_30 : decode jdk_42_method_149_code 30 = .ok (.ifCond .eq 28, 3) := by decide +kernel
theorem d3_33 : decode jdk_42_method_149_code 33 = .ok (.aload_n 1, 1) := by decide +kernel
theorem d3_34 : decode jdk_42_method_149_code 34 = .ok (.iload_n 2, 1) := by decide +kernel
theorem d3_35 : decode jdk_42_method_149_code 35 = .ok (.iload_n 3, 1) := by decide +kernel
theorem d3_36 : decode jdk_42_method_149_code 36 = .ok (.invokestatic 177, 3) := by decide +kernel
theorem d3_39 : decode jdk_42_method_149_code 39 = .ok (.astore 5, 2) := by decide +kernel
theorem d3_41 : decode jdk_42_method_149_code 41 = .ok (.aload_n 0, 1) := by decide +kernel
theorem d3_42 : decode jdk_42_method_149_code 42 = .ok (.aload 5, 2) := by decide +kernel
theorem d3_44 : decode jdk_42_method_149_code 44 = .ok (.iload_n 3, 1) := by decide +kernel
theorem d3_45 : decode jdk_42_method_149_code 45 = .ok (.invokestatic 47, 3) := by decide +kernel
theorem pd_14 : parseMethodDescriptor "([BI)B" = some ⟨[(.array .byte), .int], some .byte⟩ := by decide +kernel
theorem d3_48 : decode jdk_42_method_149_code 48 = .ok (.putfield 15, 3) := by decide +kernel
theorem d3_51 : decode jdk_42_method_149_code 51 = .ok (.aload_n 0, 1) := by decide +kernel
theorem d3_52 : decode jdk_42_method_149_code 52 = .ok (.aload 5, 2) := by decide +kernel
theorem d3_54 : decode jdk_42_method_149_code 54 = .ok (.putfield 9, 3) := by decide +kernel
theorem d3_57 : decode jdk_42_method_149_code 57 = .ok (.return_, 1) := by decide +kernel
set_option maxRecDepth 65536 in
set_option maxHeartbeats 40000000 in
theorem s_n4_1 (l : Launch) (Z : State) (a0 : Array Value) (hw : ∀ d ∈ tables_1, d.before a0 Z = true) (a ca : Addr) (x : Int32) (h0 : Heap) (n0 : Nat) (EX : Exa Z h0 a "java/lang/String") (FC : Fld Z h0 a "java/lang/String" "coder" "B" (.int (0 : Int32))) (FV : Fld Z h0 a "java/lang/String" "value" "[B" .null) (VC : ArC Z h0 ca (1 : Int32) [x]) (ga : n0 ≤ a) (nea : ca ≠ a) (Z0 : n0 ≤ h0.size) (hx : ¬ x < 0) (kx : ¬ 65535 < x) (cs : Int32) (vF : Value) (SS : Stt Z cs vF) (O0 : Old Z n0 h0) :
    Ctr l Z (⟨"java/lang/String", "<init>", "([CIILjava/lang/Void;)V"⟩ : MethodName) jdk_42_method_149_code 6 none ({ frames := 4, cells := 2, slots := 9, locals := 57 } : Room) #[(.ref a), (.ref ca), (.int (0 : Int32)), (.int (1 : Int32)), .null] h0 n0 (fun v h => v = none ∧ (∃ (b : Addr) (cd b2 : Int32) (F : List Int32) (cF : Nat → Int32), Str Z h a b cd b2 F ∧ ChF cd b2 F (1 : Int32) cF ∧ h0.size ≤ b ∧ cF 0 = x) ∧ Keep h0 h [a]) := by
  refine ent (plainFor_of_name pn_java_lang_String) (L0 := #[.val (.ref a), .val (.ref ca), .val (.int (0 : Int32)), .val (.int (1 : Int32)), .val .null, .unset]) (fun m => by first | (simp [entryFrame, mkF, argsToLocals, Value.category]; done) | rfl) ?_
  intro p e s m below meth c T0 r0
  have r335 := r0.aloadN (pc' := 1) d3_0 rfl rfl rfl
  have r336 := r335.initO (pc' := 4) 0 d3_1 (hw _ (List.mem_of_getElem? (i := 17) rfl)) (hw _ (List.mem_of_getElem? (i := 18) rfl)) (hw _ (List.mem_of_getElem? (i := 19) rfl)) rfl (by decide) (Nat.le_of_ble_eq_true rfl) (by decide) rfl
  have r337 := r336.iloadN (pc' := 5) d3_4 rfl rfl
  have r338 := r337.ifT (pc' := 27) d3_5 (feq (by decide : ¬ (1 : Int32) = (0 : Int32))).2 (by decide) (by decide)
  have r339 := r338.getS (host := "") (pc' := 30) d3_27 (Or.inl (hw _ (List.mem_of_getElem? (i := 49) rfl))) Via.refl (SS.1.1.ext (O0).2) rfl
  have r340 := r339.ifF (pc' := 33) d3_30 (feq SS.1.2).1 rfl
  have r341 := r340.aloadN (pc' := 34) d3_33 rfl rfl rfl
  have r342 := r341.iloadN (pc' := 35) d3_34 rfl rfl
  have r343 := r342.iloadN (pc' := 36) d3_35 rfl rfl
  have nab : a < h0.size := EX.lt
  obtain ⟨v346, h347, hq345, r344⟩ := r343.callS (pc' := 39) [(.ref ca), (.int (0 : Int32)), (.int (1 : Int32))] (rest := []) 0 d3_36 (hw _ (List.mem_of_getElem? (i := 75) rfl)) (hw _ (List.mem_of_getElem? (i := 76) rfl)) (hw _ (List.mem_of_getElem? (i := 77) rfl)) (hw _ (List.mem_of_getElem? (i := 78) rfl)) (by decide) (u_c3_1 l Z a0 hw ca x h0 n0 hx kx VC Z0 cs vF SS O0) pd_18 rfl rfl rfl (Nat.le_of_ble_eq_true rfl) (by decide) (by decide) (k' := 2) (n' := 9) rfl rfl (by decide) (by decide) rfl
  obtain ⟨b, b2, F, rfl, VB, gb, K3, Q3⟩ := hq345
  dsimp only [Option.toList, List.cons_append, List.nil_append] at r344
  have f348 := EX.keep K3
  have f349 := FC.keep K3 nin0
  have f350 := FV.keep K3 nin0
  have f351 := VC.keep K3 nin0
  have zp352 : n0 ≤ h347.size := Nat.le_trans Z0 K3.1
  have K353 := ((Keep.refl h0 [a])).trans K3 all0
  have old354 := (O0).keep K3 all0
  have neb : b ≠ a := fun q => absurd nab (Nat.not_lt.mpr (q ▸ gb))
  rcases Q3 with ⟨rfl, rfl, gx⟩ | ⟨rfl, rfl⟩
  · -- 0
    have r355 := r344.astore (pc' := 41) (L' := #[.val (.ref a), .val (.ref ca), .val (.int (0 : Int32)), .val (.int (1 : Int32)), .val .null, .val (.ref b)]) d3_39 rfl rfl rfl
    have r356 := r355.aloadN (pc' := 42) d3_41 rfl rfl rfl
    have r357 := r356.aload (pc' := 44) d3_42 rfl rfl rfl
    have r358 := r357.iloadN (pc' := 45) d3_44 rfl rfl
    obtain ⟨v361, h362, hq360, r359⟩ := r358.callS (pc' := 48) [(.ref b), (.int (1 : Int32))] (rest := [(.ref a)]) 1 d3_45 (hw _ (List.mem_of_getElem? (i := 82) rfl)) (hw _ (List.mem_of_getElem? (i := 83) rfl)) (hw _ (List.mem_of_getElem? (i := 77) rfl)) (hw _ (List.mem_of_getElem? (i := 84) rfl)) (by decide) (u_cod l Z a0 hw b (1 : Int32) (1 : Int32) (0 : Int32) _ h347 n0 VB (by decide)) pd_14 rfl rfl rfl (Nat.le_of_ble_eq_true rfl) (by decide) (by decide) (k' := 2) (n' := 9) rfl rfl (by decide) (by decide) rfl
    obtain ⟨rfl, rfl⟩ := hq360
    dsimp only [Option.toList, List.cons_append, List.nil_append] at r359
    obtain ⟨h363, W363, r363⟩ := r359.putF (host := "") (pc' := 51) d3_48 (Or.inl (hw _ (List.mem_of_getElem? (i := 27) rfl))) Via.refl f349 f348 (Or.inr ⟨(hw _ (List.mem_of_getElem? (i := 23) rfl)), rfl, rfl⟩) (hw _ (List.mem_of_getElem? (i := 7) rfl)) (ty := .byte) (by decide) rfl rfl ga rfl
    have f364 := f348.wr W363
    have f365 := f349.same W363
    have f366 := f350.other W363 (Or.inr (slot_ne (Or.inr (hw _ (List.mem_of_getElem? (i := 22) rfl))) (Or.inr (hw _ (List.mem_of_getElem? (i := 23) rfl))) (by decide) (t := (.array .byte)) (t' := .byte) (by decide) (by decide)))
    have f367 := f351.other W363 (nea)
    have f368 := VB.other W363 (neb)
    have K369 := (K353).wr W363 (Or.inl (by simp))
    have old370 := (old354).wr W363 ga
    have zp371 : n0 ≤ h363.size := Nat.le_trans zp352 (Nat.le_of_eq W363.size.symm)
    have r372 := r363.aloadN (pc' := 52) d3_51 rfl rfl rfl
    have r373 := r372.aload (pc' := 54) d3_52 rfl rfl rfl
    obtain ⟨h374, W374, r374⟩ := r373.putF (host := "") (pc' := 57) d3_54 (Or.inl (hw _ (List.mem_of_getElem? (i := 26) rfl))) Via.refl f366 f364 (Or.inr ⟨(hw _ (List.mem_of_getElem? (i := 22) rfl)), rfl, rfl⟩) (hw _ (List.mem_of_getElem? (i := 7) rfl)) (ty := (.array .byte)) (by decide) rfl rfl ga rfl
    have f375 := f364.wr W374
    have f376 := f365.other W374 (Or.inr (slot_ne (Or.inr (hw _ (List.mem_of_getElem? (i := 23) rfl))) (Or.inr (hw _ (List.mem_of_getElem? (i := 22) rfl))) (by decide) (t := .byte) (t' := (.array .byte)) (by decide) (by decide)))
    have f377 := f366.same W374
    have f378 := f367.other W374 (nea)
    have f379 := f368.other W374 (neb)
    have K380 := (K369).wr W374 (Or.inl (by simp))
    have old381 := (old370).wr W374 ga
    have zp382 : n0 ≤ h374.size := Nat.le_trans zp371 (Nat.le_of_eq W374.size.symm)
    exact ⟨_, _, r374.retV d3_57 rfl (by decide) (by decide), ⟨rfl, ⟨b, (0 : Int32), _, _, chr0 [nar .byte (x.toInt8.toInt32)], ⟨f375, f376, f377, f379⟩, Or.inl ⟨rfl, rfl, rfl⟩, gb, chr0_at (k := 0) rfl hx gx⟩, K380⟩⟩
  · -- 1
    have r383 := r344.astore (pc' := 41) (L' := #[.val (.ref a), .val (.ref ca), .val (.int (0 : Int32)), .val (.int (1 : Int32)), .val .null, .val (.ref b)]) d3_39 rfl rfl rfl
    have r384 := r383.aloadN (pc' := 42) d3_41 rfl rfl rfl
    have r385 := r384.aload (pc' := 44) d3_42 rfl rfl rfl
    have r386 := r385.iloadN (pc' := 45) d3_44 rfl rfl
    obtain ⟨v389, h390, hq388, r387⟩ := r386.callS (pc' := 48) [(.ref b), (.int (1 : Int32))] (rest := [(.ref a)]) 1 d3_45 (hw _ (List.mem_of_getElem? (i := 82) rfl)) (hw _ (List.mem_of_getElem? (i := 83) rfl)) (hw _ (List.mem_of_getElem? (i := 77) rfl)) (hw _ (List.mem_of_getElem? (i := 84) rfl)) (by decide) (u_cod l Z a0 hw b (1 : Int32) (2 : Int32) (1 : Int32) _ h347 n0 VB (by decide)) pd_14 rfl rfl rfl (Nat.le_of_ble_eq_true rfl) (by decide) (by decide) (k' := 2) (n' := 9) rfl rfl (by decide) (by decide) rfl
    obtain ⟨rfl, rfl⟩ := hq388
    dsimp only [Option.toList, List.cons_append, List.nil_append] at r387
    obtain ⟨h391, W391, r391⟩ := r387.putF (host := "") (pc' := 51) d3_48 (Or.inl (hw _ (List.mem_of_getElem? (i := 27) rfl))) Via.refl f349 f348 (Or.inr ⟨(hw _ (List.mem_of_getElem? (i := 23) rfl)), rfl, rfl⟩) (hw _ (List.mem_of_getElem? (i := 7) rfl)) (ty := .byte) (by decide) rfl rfl ga rfl
    have f392 := f348.wr W391
    have f393 := f349.same W391
    have f394 := f350.other W391 (Or.inr (slot_ne (Or.inr (hw _ (List.mem_of_getElem? (i := 22) rfl))) (Or.inr (hw _ (List.mem_of_getElem? (i := 23) rfl))) (by decide) (t := (.array .byte)) (t' := .byte) (by decide) (by decide)))
    have f395 := f351.other W391 (nea)
    have f396 := VB.other W391 (neb)
    have K397 := (K353).wr W391 (Or.inl (by simp))
    have old398 := (old354).wr W391 ga
    have zp399 : n0 ≤ h391.size := Nat.le_trans zp352 (Nat.le_of_eq W391.size.symm)
    have r400 := r391.aloadN (pc' := 52) d3_51 rfl rfl rfl
    have r401 := r400.aload (pc' := 54) d3_52 rfl rfl rfl
    obtain ⟨h402, W402, r402⟩ := r401.putF (host := "") (pc' := 57) d3_54 (Or.inl (hw _ (List.mem_of_getElem? (i := 26) rfl))) Via.refl f394 f392 (Or.inr ⟨(hw _ (List.mem_of_getElem? (i := 22) rfl)), rfl, rfl⟩) (hw _ (List.mem_of_getElem? (i := 7) rfl)) (ty := (.array .byte)) (by decide) rfl rfl ga rfl
    have f403 := f392.wr W402
    have f404 := f393.other W402 (Or.inr (slot_ne (Or.inr (hw _ (List.mem_of_getElem? (i := 23) rfl))) (Or.inr (hw _ (List.mem_of_getElem? (i := 22) rfl))) (by decide) (t := .byte) (t' := (.array .byte)) (by decide) (by decide)))
    have f405 := f394.same W402
    have f406 := f395.other W402 (nea)
    have f407 := f396.other W402 (neb)
    have K408 := (K397).wr W402 (Or.inl (by simp))
    have old409 := (old398).wr W402 ga
    have zp410 : n0 ≤ h402.size := Nat.le_trans zp399 (Nat.le_of_eq W402.size.symm)
    exact ⟨_, _, r402.retV d3_57 rfl (by decide) (by decide), ⟨rfl, ⟨b, (1 : Int32), _, _, chr1 [nar .byte ((x >>> ((0 : Int32) &&& 31)).toInt8.toInt32), nar .byte ((x >>> ((8 : Int32) &&& 31)).toInt8.toInt32)], ⟨f403, f404, f405, f407⟩, Or.inr ⟨rfl, by decide, rfl⟩, gb, chr1_at (k := 0) rfl rfl hx kx⟩, K408⟩⟩
theorem d2_0 : decode jdk_42_method_3_code 0 = .ok (.aload_n 0, 1) := by decide +kernel
theorem d2_1 : decode jdk_42_method_3_code 1 = .ok (.aload_n 1, 1) := by decide +kernel
theorem d2_2 : decode jdk_42_method_3_code 2 = .ok (.iconst 0, 1) := by decide +kernel
theorem d2_3 : decode jdk_42_method_3_code 3 = .ok (.aload_n 1, 1) := by decide +kernel
theorem d2_4 : decode jdk_42_method_3_code 4 = .ok (.arraylength, 1) := by decide +kernel
theorem d2_5 : decode jdk_42_method_3_code 5 = .ok (.aconst_null, 1) := by decide +kernel
theorem d2_6 : decode jdk_42_method_3_code 6 = .ok (.invokespecial 27, 3) := by decide +kernel
theorem pd_19 : parseMethodDescriptor "([CIILjava/lang/Void;)V" = some ⟨[(.array .char), .int, .int, (.object "java/lang/Void")], none⟩ := by decide +kernel
theorem d2_9 : decode jdk_42_method_3_code 9 = .ok (.return_, 1) := by decide +kernel
set_option maxRecDepth 65536 in
set_option maxHeartbeats 40000000 in
theorem s_n1_1 (l : Launch) (Z : State) (a0 : Array Value) (hw : ∀ d ∈ tables_1, d.before a0 Z = true) (a ca : Addr) (x : Int32) (h0 : Heap) (n0 : Nat) (EX : Exa Z h0 a "java/lang/String") (FC : Fld Z h0 a "java/lang/String" "coder" "B" (.int (0 : Int32))) (FV : Fld Z h0 a "java/lang/String" "value" "[B" .null) (VC : ArC Z h0 ca (1 : Int32) [x]) (ga : n0 ≤ a) (nea : ca ≠ a) (Z0 : n0 ≤ h0.size) (hx : ¬ x < 0) (kx : ¬ 65535 < x) (cs : Int32) (vF : Value) (SS : Stt Z cs vF) (O0 : Old Z n0 h0) :
    Ctr l Z (⟨"java/lang/String", "<init>", "([C)V"⟩ : MethodName) jdk_42_method_3_code 2 none ({ frames := 5, cells := 2, slots := 9, locals := 74 } : Room) #[(.ref a), (.ref ca)] h0 n0 (fun v h => v = none ∧ (∃ (b : Addr) (cd b2 : Int32) (F : List Int32) (cF : Nat → Int32), Str Z h a b cd b2 F ∧ ChF cd b2 F (1 : Int32) cF ∧ h0.size ≤ b ∧ cF 0 = x) ∧ Keep h0 h [a]) := by
  refine ent (plainFor_of_name pn_java_lang_String) (L0 := #[.val (.ref a), .val (.ref ca)]) (fun m => by first | (simp [entryFrame, mkF, argsToLocals, Value.category]; done) | rfl) ?_
  intro p e s m below meth c T0 r0
  have r411 := r0.aloadN (pc' := 1) d2_0 rfl rfl rfl
  have r412 := r411.aloadN (pc' := 2) d2_1 rfl rfl rfl
  have r413 := r412.iconst (pc' := 3) (0 : Int32) d2_2 rfl rfl
  have r414 := r413.aloadN (pc' := 4) d2_3 rfl rfl rfl
  have r415 := r414.lenC (pc' := 5) d2_4 VC rfl
  have r416 := r415.anull (pc' := 6) d2_5 rfl
  obtain ⟨v419, h420, hq418, r417⟩ := r416.callC (pc' := 9) (a := a) [(.ref ca), (.int (0 : Int32)), (.int (1 : Int32)), .null] (rest := []) 0 d2_6 rfl (hw _ (List.mem_of_getElem? (i := 13) rfl)) (hw _ (List.mem_of_getElem? (i := 14) rfl)) (hw _ (List.mem_of_getElem? (i := 8) rfl)) (hw _ (List.mem_of_getElem? (i := 16) rfl)) (by decide) (s_n4_1 l Z a0 hw a ca x h0 n0 EX FC FV VC ga nea Z0 hx kx cs vF SS O0) pd_19 rfl rfl rfl (Nat.le_of_ble_eq_true rfl) (by decide) (by decide) (k' := 2) (n' := 9) rfl rfl (by decide) (by decide) rfl
  obtain ⟨rfl, Q4, K4⟩ := hq418
  dsimp only [Option.toList, List.cons_append, List.nil_append] at r417
  exact ⟨_, _, r417.retV d2_9 rfl (by decide) (by decide), ⟨rfl, Q4, K4⟩⟩
set_option maxRecDepth 65536 in
set_option maxHeartbeats 40000000 in
theorem u_nbf2 (l : Launch) (Z : State) (a0 : Array Value) (hw : ∀ d ∈ tables_1, d.before a0 Z = true)  (h0 : Heap) (n0 : Nat) (Z0 : n0 ≤ h0.size) :
    Ctr l Z (⟨"java/lang/StringUTF16", "newBytesFor", "(I)[B"⟩ : MethodName) jdk_52_method_2_code 1 (some (.array .byte)) ({ frames := 1, cells := 1, slots := 6, locals := 12 } : Room) #[(.int (2 : Int32))] h0 n0 (fun v h => ∃ b, v = some (.ref b) ∧ ArB Z h b (4 : Int32) [0, 0, 0, 0] ∧ h0.size ≤ b ∧ Ext h0 h) := by
  refine ent (plainFor_of_name pn_java_lang_StringUTF16) (L0 := #[.val (.int (2 : Int32))]) (fun m => by first | (simp [entryFrame, mkF, argsToLocals, Value.category]; done) | rfl) ?_
  intro p e s m below meth c T0 r0
  have r421 := r0.iloadN (pc' := 1) d20_0 rfl rfl
  obtain ⟨v424, h425, hq423, r422⟩ := r421.callS (pc' := 4) [(.int (2 : Int32))] (rest := []) 0 d20_1 (hw _ (List.mem_of_getElem? (i := 94) rfl)) (hw _ (List.mem_of_getElem? (i := 95) rfl)) (hw _ (List.mem_of_getElem? (i := 77) rfl)) (hw _ (List.mem_of_getElem? (i := 96) rfl)) (by decide) (u_nbl l Z a0 hw (2 : Int32) (4 : Int32) h0 n0 (by decide) (by decide) (by decide)) pd_6 rfl rfl rfl (Nat.le_of_ble_eq_true rfl) (by decide) (by decide) (k' := 0) (n' := 0) rfl rfl (by decide) (by decide) rfl
  obtain ⟨rfl, rfl⟩ := hq423
  dsimp only [Option.toList, List.cons_append, List.nil_append] at r422
  obtain ⟨h426, b426, kc426, hb426, E426, V426, r426⟩ := r422.newP (pc' := 6) d20_4 (hw _ (List.mem_of_getElem? (i := 21) rfl)) (by decide) (cap := 6) (by decide) (by decide) (k' := 1) (n' := 6) rfl rfl (by decide) (by decide) rfl
  have g427 : n0 ≤ b426 := hb426 ▸ Z0
  have sz428 : h0.size ≤ b426 := hb426 ▸ ((Keep.refl h0 [])).1
  have K429 := ((Keep.refl h0 [])).ext E426
  have zp430 : n0 ≤ h426.size := Nat.le_trans Z0 E426.1
  have f431 : ArB Z h426 b426 (4 : Int32) [0, 0, 0, 0] := ArB.new V426 4
  exact ⟨_, _, r426.retA d20_6 rfl rfl rfl (by decide) (by decide), ⟨b426, rfl, f431, sz428, E426⟩⟩
set_option maxRecDepth 65536 in
set_option maxHeartbeats 40000000 in
theorem u_tb2 (l : Launch) (Z : State) (a0 : Array Value) (hw : ∀ d ∈ tables_1, d.before a0 Z = true) (ca : Addr) (x y : Int32) (h0 : Heap) (n0 : Nat) (VC : ArC Z h0 ca (2 : Int32) [x, y]) (Z0 : n0 ≤ h0.size) (cs : Int32) (vF : Value) (SS : Stt Z cs vF) (O0 : Old Z n0 h0) :
    Ctr l Z (⟨"java/lang/StringUTF16", "toBytes", "([CII)[B"⟩ : MethodName) jdk_52_method_14_code 5 (some (.array .byte)) ({ frames := 2, cells := 1, slots := 6, locals := 24 } : Room) #[(.ref ca), (.int (0 : Int32)), (.int (2 : Int32))] h0 n0 (fun v h => ∃ b, v = some (.ref b) ∧ ArB Z h b (4 : Int32) [nar .byte ((x >>> ((0 : Int32) &&& 31)).toInt8.toInt32), nar .byte ((x >>> ((8 : Int32) &&& 31)).toInt8.toInt32), nar .byte ((y >>> ((0 : Int32) &&& 31)).toInt8.toInt32), nar .byte ((y >>> ((8 : Int32) &&& 31)).toInt8.toInt32)] ∧ h0.size ≤ b ∧ Keep h0 h []) := by
  refine ent (plainFor_of_name pn_java_lang_StringUTF16) (L0 := #[.val (.ref ca), .val (.int (0 : Int32)), .val (.int (2 : Int32)), .unset, .unset]) (fun m => by first | (simp [entryFrame, mkF, argsToLocals, Value.category]; done) | rfl) ?_
  intro p e s m below meth c T0 r0
  have r432 := r0.iloadN (pc' := 1) d19_0 rfl rfl
  obtain ⟨v435, h436, hq434, r433⟩ := r432.callS (pc' := 4) [(.int (2 : Int32))] (rest := []) 0 d19_1 (hw _ (List.mem_of_getElem? (i := 91) rfl)) (hw _ (List.mem_of_getElem? (i := 92) rfl)) (hw _ (List.mem_of_getElem? (i := 77) rfl)) (hw _ (List.mem_of_getElem? (i := 93) rfl)) (by decide) (u_nbf2 l Z a0 hw h0 n0 Z0) pd_7 rfl rfl rfl (Nat.le_of_ble_eq_true rfl) (by decide) (by decide) (k' := 1) (n' := 6) rfl rfl (by decide) (by decide) rfl
  obtain ⟨b, rfl, VB, gb, EB⟩ := hq434
  dsimp only [Option.toList, List.cons_append, List.nil_append] at r433
  have neb : ca ≠ b := fun q => absurd VC.lt (Nat.not_lt.mpr (q ▸ gb))
  have gn : n0 ≤ b := Nat.le_trans Z0 gb
  have f437 := VC.ext EB
  have K438 := ((Keep.refl h0 [])).ext EB
  have zp439 : n0 ≤ h436.size := Nat.le_trans Z0 EB.1
  have old440 := (O0).ext EB
  have r441 := r433.astoreN (pc' := 5) (L' := #[.val (.ref ca), .val (.int (0 : Int32)), .val (.int (2 : Int32)), .val (.ref b), .unset]) d19_4 rfl rfl rfl
  have r442 := r441.iconst (pc' := 6) (0 : Int32) d19_5 rfl rfl
  have r443 := r442.istore (pc' := 8) (L' := #[.val (.ref ca), .val (.int (0 : Int32)), .val (.int (2 : Int32)), .val (.ref b), .val (.int (0 : Int32))]) d19_6 rfl rfl
  have r444 := r443.iload (pc' := 10) d19_8 rfl rfl
  have r445 := r444.iloadN (pc' := 11) d19_10 rfl rfl
  have r446 := r445.icF (pc' := 14) d19_11 (tlt (by decide : (0 : Int32) < (2 : Int32))).2.1 rfl
  have r447 := r446.aloadN (pc' := 15) d19_14 rfl rfl rfl
  have r448 := r447.iload (pc' := 17) d19_15 rfl rfl
  have r449 := r448.aloadN (pc' := 18) d19_17 rfl rfl rfl
  have r450 := r449.iloadN (pc' := 19) d19_18 rfl rfl
  have r451 := r450.gC (pc' := 20) d19_19 f437 (by decide) (by decide) rfl
  have p452 := u_put l Z a0 hw b (0 : Int32) x (4 : Int32) (0 : Int32) [0, 0, 0, 0] h436 n0 VB (by decide) (by decide) (by decide) (by decide) (by decide) (Nat.le_of_ble_eq_true rfl) (Nat.le_of_ble_eq_true rfl) gn cs vF SS old440
  obtain ⟨v455, h456, hq454, r453⟩ := r451.callS (pc' := 23) [(.ref b), (.int (0 : Int32)), (.int x)] (rest := []) 0 d19_20 (hw _ (List.mem_of_getElem? (i := 98) rfl)) (hw _ (List.mem_of_getElem? (i := 99) rfl)) (hw _ (List.mem_of_getElem? (i := 77) rfl)) (hw _ (List.mem_of_getElem? (i := 100) rfl)) (by decide) (shim l Z a0 hw p452) pd_16 rfl rfl rfl (Nat.le_of_ble_eq_true rfl) (by decide) (by decide) (k' := 1) (n' := 6) rfl rfl (by decide) (by decide) rfl
  obtain ⟨rfl, V452, K452⟩ := hq454
  dsimp only [Option.toList, List.cons_append, List.nil_append] at r453
  have f457 := f437.keep K452 (ninS (neb) nin0)
  have zp458 : n0 ≤ h456.size := Nat.le_trans zp439 K452.1
  have K459 := (K438).trans K452 (allS (Or.inr gb) all0)
  have old460 := (old440).keep K452 (allS gn all0)
  replace V452 : ArB Z h456 b (4 : Int32) [nar .byte ((x >>> ((0 : Int32) &&& 31)).toInt8.toInt32), nar .byte ((x >>> ((8 : Int32) &&& 31)).toInt8.toInt32), 0, 0] := V452
  have r461 := r453.iinc (pc' := 26) (L' := #[.val (.ref ca), .val (.int (1 : Int32)), .val (.int (2 : Int32)), .val (.ref b), .val (.int (0 : Int32))]) (1 : Int32) d19_23 rfl rfl (by decide) rfl rfl
  have r462 := r461.iinc (pc' := 29) (L' := #[.val (.ref ca), .val (.int (1 : Int32)), .val (.int (2 : Int32)), .val (.ref b), .val (.int (1 : Int32))]) (1 : Int32) d19_26 rfl rfl (by decide) rfl rfl
  have r463 := r462.goto (pc' := 8) d19_29 (by decide) (by decide)
  have r464 := r463.iload (pc' := 10) d19_8 rfl rfl
  have r465 := r464.iloadN (pc' := 11) d19_10 rfl rfl
  have r466 := r465.icF (pc' := 14) d19_11 (tlt (by decide : (1 : Int32) < (2 : Int32))).2.1 rfl
  have r467 := r466.aloadN (pc' := 15) d19_14 rfl rfl rfl
  have r468 := r467.iload (pc' := 17) d19_15 rfl rfl
  have r469 := r468.aloadN (pc' := 18) d19_17 rfl rfl rfl
  have r470 := r469.iloadN (pc' := 19) d19_18 rfl rfl
  have r471 := r470.gC (pc' := 20) d19_19 f457 (by decide) (by decide) rfl
  have p472 := u_put l Z a0 hw b (1 : Int32) y (4 : Int32) (2 : Int32) [nar .byte ((x >>> ((0 : Int32) &&& 31)).toInt8.toInt32), nar .byte ((x >>> ((8 : Int32) &&& 31)).toInt8.toInt32), 0, 0] h456 n0 V452 (by decide) (by decide) (by decide) (by decide) (by decide) (Nat.le_of_ble_eq_true rfl) (Nat.le_of_ble_eq_true rfl) gn cs vF SS old460
  obtain ⟨v475, h476, hq474, r473⟩ := r471.callS (pc' := 23) [(.ref b), (.int (1 : Int32)), (.int y)] (rest := []) 0 d19_20 (hw _ (List.mem_of_getElem? (i := 98) rfl)) (hw _ (List.mem_of_getElem? (i := 99) rfl)) (hw _ (List.mem_of_getElem? (i := 77) rfl)) (hw _ (List.mem_of_getElem? (i := 100) rfl)) (by decide) (shim l Z a0 hw p472) pd_16 rfl rfl rfl (Nat.le_of_ble_eq_true rfl) (by decide) (by decide) (k' := 1) (n' := 6) rfl rfl (by decide) (by decide) rfl
  obtain ⟨rfl, V472, K472⟩ := hq474
  dsimp only [Option.toList, List.cons_append, List.nil_append] at r473
  have f477 := f457.keep K472 (ninS (neb) nin0)
  have zp478 : n0 ≤ h476.size := Nat.le_trans zp458 K472.1
  have K479 := (K459).trans K472 (allS (Or.inr gb) all0)
  have old480 := (old460).keep K472 (allS gn all0)
  replace V472 : ArB Z h476 b (4 : Int32) [nar .byte ((x >>> ((0 : Int32) &&& 31)).toInt8.toInt32), nar .byte ((x >>> ((8 : Int32) &&& 31)).toInt8.toInt32), nar .byte ((y >>> ((0 : Int32) &&& 31)).toInt8.toInt32), nar .byte ((y >>> ((8 : Int32) &&& 31)).toInt8.toInt32)] := V472
  have r481 := r473.iinc (pc' := 26) (L' := #[.val (.ref ca), .val (.int (2 : Int32)), .val (.int (2 : Int32)), .val (.ref b), .val (.int (1 : Int32))]) (1 : Int32) d19_23 rfl rfl (by decide) rfl rfl
  have r482 := r481.iinc (pc' := 29) (L' := #[.val (.ref ca), .val (.int (2 : Int32)), .val (.int (2 : Int32)), .val (.ref b), .val (.int (2 : Int32))]) (1 : Int32) d19_26 rfl rfl (by decide) rfl rfl
  have r483 := r482.goto (pc' := 8) d19_29 (by decide) (by decide)
  have r484 := r483.iload (pc' := 10) d19_8 rfl rfl
  have r485 := r484.iloadN (pc' := 11) d19_10 rfl rfl
  have r486 := r485.icT (pc' := 32) d19_11 (flt (by decide : ¬ (2 : Int32) < (2 : Int32))).2.1 (by decide) (by decide)
  have r487 := r486.aloadN (pc' := 33) d19_32 rfl rfl rfl
  exact ⟨_, _, r487.retA d19_33 rfl rfl rfl (by decide) (by decide), ⟨b, rfl, V472, gb, K479⟩⟩
set_option maxRecDepth 65536 in
set_option maxHeartbeats 40000000 in
theorem u_c5_2 (l : Launch) (Z : State) (a0 : Array Value) (hw : ∀ d ∈ tables_1, d.before a0 Z = true) (ca d : Addr) (x y : Int32) (h0 : Heap) (n0 : Nat) (VC : ArC Z h0 ca (2 : Int32) [x, y]) (VD : ArB Z h0 d (2 : Int32) [0, 0]) (gd : n0 ≤ d) (ned : ca ≠ d) (Z0 : n0 ≤ h0.size) :
    Ctr l Z (⟨"java/lang/StringUTF16", "compress", "([CI[BII)I"⟩ : MethodName) jdk_52_method_21_code 7 (some .int) ({ frames := 0, cells := 0, slots := 0, locals := 0 } : Room) #[(.ref ca), (.int (0 : Int32)), (.ref d), (.int (0 : Int32)), (.int (2 : Int32))] h0 n0 (fun v h => ∃ k, v = some (.int k) ∧ Keep h0 h [d] ∧ ((k = (0 : Int32) ∧ 255 < x) ∨ (k = (1 : Int32) ∧ 255 < y) ∨ (k = (2 : Int32) ∧ ¬ 255 < x ∧ ¬ 255 < y ∧ ArB Z h d (2 : Int32) [nar .byte (x.toInt8.toInt32), nar .byte (y.toInt8.toInt32)]))) := by
  refine ent (plainFor_of_name pn_java_lang_StringUTF16) (L0 := #[.val (.ref ca), .val (.int (0 : Int32)), .val (.ref d), .val (.int (0 : Int32)), .val (.int (2 : Int32)), .unset, .unset]) (fun m => by first | (simp [entryFrame, mkF, argsToLocals, Value.category]; done) | rfl) ?_
  intro p e s m below meth c T0 r0
  have r488 := r0.iconst (pc' := 1) (0 : Int32) d16_0 rfl rfl
  have r489 := r488.istore (pc' := 3) (L' := #[.val (.ref ca), .val (.int (0 : Int32)), .val (.ref d), .val (.int (0 : Int32)), .val (.int (2 : Int32)), .val (.int (0 : Int32)), .unset]) d16_1 rfl rfl
  have r490 := r489.iload (pc' := 5) d16_3 rfl rfl
  have r491 := r490.iload (pc' := 7) d16_5 rfl rfl
  have r492 := r491.icF (pc' := 10) d16_7 (tlt (by decide : (0 : Int32) < (2 : Int32))).2.1 rfl
  have r493 := r492.aloadN (pc' := 11) d16_10 rfl rfl rfl
  have r494 := r493.iloadN (pc' := 12) d16_11 rfl rfl
  have r495 := r494.gC (pc' := 13) d16_12 VC (by decide) (by decide) rfl
  have r496 := r495.istore (pc' := 15) (L' := #[.val (.ref ca), .val (.int (0 : Int32)), .val (.ref d), .val (.int (0 : Int32)), .val (.int (2 : Int32)), .val (.int (0 : Int32)), .val (.int x)]) d16_13 rfl rfl
  have r497 := r496.iload (pc' := 17) d16_15 rfl rfl
  have r498 := r497.sipush (pc' := 20) (255 : Int32) d16_17 rfl rfl
  by_cases hc499 : (255 : Int32) < x
  · -- yes
    have r500 := r498.icF (pc' := 23) d16_20 (tlt hc499).2.2.2 rfl
    have r501 := r500.iload (pc' := 25) d16_23 rfl rfl
    exact ⟨_, _, r501.retI d16_25 rfl (by decide) (by decide), ⟨_, rfl, (Keep.refl h0 [d]), Or.inl ⟨rfl, hc499⟩⟩⟩
  · -- not no
    have r502 := r498.icT (pc' := 26) d16_20 (flt hc499).2.2.2 (by decide) (by decide)
    have r503 := r502.aloadN (pc' := 27) d16_26 rfl rfl rfl
    have r504 := r503.iloadN (pc' := 28) d16_27 rfl rfl
    have r505 := r504.iload (pc' := 30) d16_28 rfl rfl
    have r506 := r505.i2b (pc' := 31) d16_30 rfl rfl
    obtain ⟨h507, W507, V507, r507⟩ := r506.sB (pc' := 32) d16_31 VD (by decide) (by decide) (Nat.le_of_ble_eq_true rfl) gd rfl
    have f508 := VC.other W507 (ned)
    replace V507 : ArB Z h507 d (2 : Int32) [nar .byte (x.toInt8.toInt32), 0] := V507
    have K509 := ((Keep.refl h0 [d])).wr W507 (Or.inl (by simp))
    have zp510 : n0 ≤ h507.size := Nat.le_trans Z0 (Nat.le_of_eq W507.size.symm)
    have r511 := r507.iinc (pc' := 35) (L' := #[.val (.ref ca), .val (.int (1 : Int32)), .val (.ref d), .val (.int (0 : Int32)), .val (.int (2 : Int32)), .val (.int (0 : Int32)), .val (.int x)]) (1 : Int32) d16_32 rfl rfl (by decide) rfl rfl
    have r512 := r511.iinc (pc' := 38) (L' := #[.val (.ref ca), .val (.int (1 : Int32)), .val (.ref d), .val (.int (1 : Int32)), .val (.int (2 : Int32)), .val (.int (0 : Int32)), .val (.int x)]) (1 : Int32) d16_35 rfl rfl (by decide) rfl rfl
    have r513 := r512.iinc (pc' := 41) (L' := #[.val (.ref ca), .val (.int (1 : Int32)), .val (.ref d), .val (.int (1 : Int32)), .val (.int (2 : Int32)), .val (.int (1 : Int32)), .val (.int x)]) (1 : Int32) d16_38 rfl rfl (by decide) rfl rfl
    have r514 := r513.goto (pc' := 3) d16_41 (by decide) (by decide)
    have r515 := r514.iload (pc' := 5) d16_3 rfl rfl
    have r516 := r515.iload (pc' := 7) d16_5 rfl rfl
    have r517 := r516.icF (pc' := 10) d16_7 (tlt (by decide : (1 : Int32) < (2 : Int32))).2.1 rfl
    have r518 := r517.aloadN (pc' := 11) d16_10 rfl rfl rfl
    have r519 := r518.iloadN (pc' := 12) d16_11 rfl rfl
    have r520 := r519.gC (pc' := 13) d16_12 f508 (by decide) (by decide) rfl
    have r521 := r520.istore (pc' := 15) (L' := #[.val (.ref ca), .val (.int (1 : Int32)), .val (.ref d), .val (.int (1 : Int32)), .val (.int (2 : Int32)), .val (.int (1 : Int32)), .val (.int y)]) d16_13 rfl rfl
    have r522 := r521.iload (pc' := 17) d16_15 rfl rfl
    have r523 := r522.sipush (pc' := 20) (255 : Int32) d16_17 rfl rfl
    by_cases hc524 : (255 : Int32) < y
    · -- yes
      have r525 := r523.icF (pc' := 23) d16_20 (tlt hc524).2.2.2 rfl
      have r526 := r525.iload (pc' := 25) d16_23 rfl rfl
      exact ⟨_, _, r526.retI d16_25 rfl (by decide) (by decide), ⟨_, rfl, K509, Or.inr (Or.inl ⟨rfl, hc524⟩)⟩⟩
    · -- not no
      have r527 := r523.icT (pc' := 26) d16_20 (flt hc524).2.2.2 (by decide) (by decide)
      have r528 := r527.aloadN (pc' := 27) d16_26 rfl rfl rfl
      have r529 := r528.iloadN (pc' := 28) d16_27 rfl rfl
      have r530 := r529.iload (pc' := 30) d16_28 rfl rfl
      have r531 := r530.i2b (pc' := 31) d16_30 rfl rfl
      obtain ⟨h532, W532, V532, r532⟩ := r531.sB (pc' := 32) d16_31 V507 (by decide) (by decide) (Nat.le_of_ble_eq_true rfl) gd rfl
      have f533 := f508.other W532 (ned)
      replace V532 : ArB Z h532 d (2 : Int32) [nar .byte (x.toInt8.toInt32), nar .byte (y.toInt8.toInt32)] := V532
      have K534 := (K509).wr W532 (Or.inl (by simp))
      have zp535 : n0 ≤ h532.size := Nat.le_trans zp510 (Nat.le_of_eq W532.size.symm)
      have r536 := r532.iinc (pc' := 35) (L' := #[.val (.ref ca), .val (.int (2 : Int32)), .val (.ref d), .val (.int (1 : Int32)), .val (.int (2 : Int32)), .val (.int (1 : Int32)), .val (.int y)]) (1 : Int32) d16_32 rfl rfl (by decide) rfl rfl
      have r537 := r536.iinc (pc' := 38) (L' := #[.val (.ref ca), .val (.int (2 : Int32)), .val (.ref d), .val (.int (2 : Int32)), .val (.int (2 : Int32)), .val (.int (1 : Int32)), .val (.int y)]) (1 : Int32) d16_35 rfl rfl (by decide) rfl rfl
      have r538 := r537.iinc (pc' := 41) (L' := #[.val (.ref ca), .val (.int (2 : Int32)), .val (.ref d), .val (.int (2 : Int32)), .val (.int (2 : Int32)), .val (.int (2 : Int32)), .val (.int y)]) (1 : Int32) d16_38 rfl rfl (by decide) rfl rfl
      have r539 := r538.goto (pc' := 3) d16_41 (by decide) (by decide)
      have r540 := r539.iload (pc' := 5) d16_3 rfl rfl
      have r541 := r540.iload (pc' := 7) d16_5 rfl rfl
      have r542 := r541.icT (pc' := 44) d16_7 (flt (by decide : ¬ (2 : Int32) < (2 : Int32))).2.1 (by decide) (by decide)
      have r543 := r542.iload (pc' := 46) d16_44 rfl rfl
      exact ⟨_, _, r543.retI d16_46 rfl (by decide) (by decide), ⟨_, rfl, K534, Or.inr (Or.inr (⟨rfl, hc499, hc524, V532⟩))⟩⟩
set_option maxRecDepth 65536 in
set_option maxHeartbeats 40000000 in
theorem u_c3_2 (l : Launch) (Z : State) (a0 : Array Value) (hw : ∀ d ∈ tables_1, d.before a0 Z = true) (ca : Addr) (x y : Int32) (h0 : Heap) (n0 : Nat) (hx : ¬ x < 0) (kx : ¬ 65535 < x) (hy : ¬ y < 0) (ky : ¬ 65535 < y) (VC : ArC Z h0 ca (2 : Int32) [x, y]) (Z0 : n0 ≤ h0.size) (cs : Int32) (vF : Value) (SS : Stt Z cs vF) (O0 : Old Z n0 h0) :
    Ctr l Z (⟨"java/lang/StringUTF16", "compress", "([CII)[B"⟩ : MethodName) jdk_52_method_16_code 6 (some (.array .byte)) ({ frames := 3, cells := 2, slots := 9, locals := 40 } : Room) #[(.ref ca), (.int (0 : Int32)), (.int (2 : Int32))] h0 n0 (fun v h => ∃ (b : Addr) (b2 : Int32) (F : List Int32), v = some (.ref b) ∧ ArB Z h b b2 F ∧ h0.size ≤ b ∧ Keep h0 h [] ∧ ((b2 = (2 : Int32) ∧ F = [nar .byte (x.toInt8.toInt32), nar .byte (y.toInt8.toInt32)] ∧ ¬ 255 < x ∧ ¬ 255 < y) ∨ (b2 = (4 : Int32) ∧ F = [nar .byte ((x >>> ((0 : Int32) &&& 31)).toInt8.toInt32), nar .byte ((x >>> ((8 : Int32) &&& 31)).toInt8.toInt32), nar .byte ((y >>> ((0 : Int32) &&& 31)).toInt8.toInt32), nar .byte ((y >>> ((8 : Int32) &&& 31)).toInt8.toInt32)]))) := by
  refine ent (plainFor_of_name pn_java_lang_StringUTF16) (L0 := #[.val (.ref ca), .val (.int (0 : Int32)), .val (.int (2 : Int32)), .unset, .unset, .unset]) (fun m => by first | (simp [entryFrame, mkF, argsToLocals, Value.category]; done) | rfl) ?_
  intro p e s m below meth c T0 r0
  have r544 := r0.iloadN (pc' := 1) d15_0 rfl rfl
  obtain ⟨h545, b545, kc545, hb545, E545, V545, r545⟩ := r544.newP (pc' := 3) d15_1 (hw _ (List.mem_of_getElem? (i := 21) rfl)) (by decide) (cap := 3) (by decide) (by decide) (k' := 1) (n' := 3) rfl rfl (by decide) (by decide) rfl
  have ne546 : ca ≠ b545 := Nat.ne_of_lt (hb545 ▸ VC.lt)
  have g547 : n0 ≤ b545 := hb545 ▸ Z0
  have sz548 : h0.size ≤ b545 := hb545 ▸ ((Keep.refl h0 [])).1
  have f549 := VC.ext E545
  have K550 := ((Keep.refl h0 [])).ext E545
  have zp551 : n0 ≤ h545.size := Nat.le_trans Z0 E545.1
  have old552 := (O0).ext E545
  have f553 : ArB Z h545 b545 (2 : Int32) [0, 0] := ArB.new V545 2
  have r554 := r545.astoreN (pc' := 4) (L' := #[.val (.ref ca), .val (.int (0 : Int32)), .val (.int (2 : Int32)), .val (.ref b545), .unset, .unset]) d15_3 rfl rfl rfl
  have r555 := r554.aloadN (pc' := 5) d15_4 rfl rfl rfl
  have r556 := r555.iloadN (pc' := 6) d15_5 rfl rfl
  have r557 := r556.aloadN (pc' := 7) d15_6 rfl rfl rfl
  have r558 := r557.iconst (pc' := 8) (0 : Int32) d15_7 rfl rfl
  have r559 := r558.iloadN (pc' := 9) d15_8 rfl rfl
  obtain ⟨v562, h563, hq561, r560⟩ := r559.callS (pc' := 12) [(.ref ca), (.int (0 : Int32)), (.ref b545), (.int (0 : Int32)), (.int (2 : Int32))] (rest := []) 0 d15_9 (hw _ (List.mem_of_getElem? (i := 79) rfl)) (hw _ (List.mem_of_getElem? (i := 80) rfl)) (hw _ (List.mem_of_getElem? (i := 77) rfl)) (hw _ (List.mem_of_getElem? (i := 81) rfl)) (by decide) (u_c5_2 l Z a0 hw ca b545 x y h545 n0 f549 f553 g547 (ne546) zp551) pd_20 rfl rfl rfl (Nat.le_of_ble_eq_true rfl) (by decide) (by decide) (k' := 1) (n' := 3) rfl rfl (by decide) (by decide) rfl
  obtain ⟨k, rfl, K5, Q5⟩ := hq561
  dsimp only [Option.toList, List.cons_append, List.nil_append] at r560
  have f564 := f549.keep K5 (ninS (ne546) nin0)
  have zp565 : n0 ≤ h563.size := Nat.le_trans zp551 K5.1
  have K566 := (K550).trans K5 (allS (Or.inr sz548) all0)
  have old567 := (old552).keep K5 (allS g547 all0)
  rcases Q5 with ⟨rfl, g5⟩ | ⟨rfl, g5⟩ | ⟨rfl, gx, gy, V5⟩
  · -- 0
    have r568 := r560.istore (pc' := 14) (L' := #[.val (.ref ca), .val (.int (0 : Int32)), .val (.int (2 : Int32)), .val (.ref b545), .val (.int (0 : Int32)), .unset]) d15_12 rfl rfl
    have r569 := r568.iload (pc' := 16) d15_14 rfl rfl
    have r570 := r569.iloadN (pc' := 17) d15_16 rfl rfl
    have r571 := r570.icF (pc' := 20) d15_17 (feq (by decide : ¬ (0 : Int32) = (2 : Int32))).1 rfl
    have r572 := r571.aloadN (pc' := 21) d15_20 rfl rfl rfl
    have r573 := r572.iloadN (pc' := 22) d15_21 rfl rfl
    have r574 := r573.iloadN (pc' := 23) d15_22 rfl rfl
    obtain ⟨v577, h578, hq576, r575⟩ := r574.callS (pc' := 26) [(.ref ca), (.int (0 : Int32)), (.int (2 : Int32))] (rest := []) 0 d15_23 (hw _ (List.mem_of_getElem? (i := 88) rfl)) (hw _ (List.mem_of_getElem? (i := 89) rfl)) (hw _ (List.mem_of_getElem? (i := 77) rfl)) (hw _ (List.mem_of_getElem? (i := 90) rfl)) (by decide) (u_tb2 l Z a0 hw ca x y h563 n0 f564 zp565 cs vF SS old567) pd_18 rfl rfl rfl (Nat.le_of_ble_eq_true rfl) (by decide) (by decide) (k' := 2) (n' := 9) rfl rfl (by decide) (by decide) rfl
    obtain ⟨tb, rfl, VT, gt, KT⟩ := hq576
    dsimp only [Option.toList, List.cons_append, List.nil_append] at r575
    have gt0 : h0.size ≤ tb := Nat.le_trans (K566).1 gt
    have f579 := f564.keep KT nin0
    have zp580 : n0 ≤ h578.size := Nat.le_trans zp565 KT.1
    have K581 := (K566).trans KT all0
    have old582 := (old567).keep KT all0
    have r583 := r575.astore (pc' := 28) (L' := #[.val (.ref ca), .val (.int (0 : Int32)), .val (.int (2 : Int32)), .val (.ref b545), .val (.int (0 : Int32)), .val (.ref tb)]) d15_26 rfl rfl rfl
    have r584 := r583.aload (pc' := 30) d15_28 rfl rfl rfl
    have r585 := r584.iload (pc' := 32) d15_30 rfl rfl
    obtain ⟨v588, h589, hq587, r586⟩ := r585.callS (pc' := 35) [(.ref tb), (.int (0 : Int32))] (rest := []) 0 d15_32 (hw _ (List.mem_of_getElem? (i := 104) rfl)) (hw _ (List.mem_of_getElem? (i := 105) rfl)) (hw _ (List.mem_of_getElem? (i := 77) rfl)) (hw _ (List.mem_of_getElem? (i := 106) rfl)) (by decide) (u_get l Z a0 hw tb (0 : Int32) (4 : Int32) (0 : Int32) x _ h578 n0 VT (by decide) (by decide) (by decide) (by decide) (by decide) (chr1_at (F := [nar .byte ((x >>> ((0 : Int32) &&& 31)).toInt8.toInt32), nar .byte ((x >>> ((8 : Int32) &&& 31)).toInt8.toInt32), nar .byte ((y >>> ((0 : Int32) &&& 31)).toInt8.toInt32), nar .byte ((y >>> ((8 : Int32) &&& 31)).toInt8.toInt32)]) (k := 0) rfl rfl hx kx) cs vF SS old582) pd_15 rfl rfl rfl (Nat.le_of_ble_eq_true rfl) (by decide) (by decide) (k' := 2) (n' := 9) rfl rfl (by decide) (by decide) rfl
    obtain ⟨rfl, rfl⟩ := hq587
    dsimp only [Option.toList, List.cons_append, List.nil_append] at r586
    have r590 := r586.sipush (pc' := 38) (255 : Int32) d15_35 rfl rfl
    have r591 := r590.icT (pc' := 54) d15_38 (tlt g5).2.2.1 (by decide) (by decide)
    have r592 := r591.aload (pc' := 56) d15_54 rfl rfl rfl
    exact ⟨_, _, r592.retA d15_56 rfl rfl rfl (by decide) (by decide), ⟨tb, _, _, rfl, VT, gt0, K581, Or.inr ⟨rfl, rfl⟩⟩⟩
  · -- 1
    have r593 := r560.istore (pc' := 14) (L' := #[.val (.ref ca), .val (.int (0 : Int32)), .val (.int (2 : Int32)), .val (.ref b545), .val (.int (1 : Int32)), .unset]) d15_12 rfl rfl
    have r594 := r593.iload (pc' := 16) d15_14 rfl rfl
    have r595 := r594.iloadN (pc' := 17) d15_16 rfl rfl
    have r596 := r595.icF (pc' := 20) d15_17 (feq (by decide : ¬ (1 : Int32) = (2 : Int32))).1 rfl
    have r597 := r596.aloadN (pc' := 21) d15_20 rfl rfl rfl
    have r598 := r597.iloadN (pc' := 22) d15_21 rfl rfl
    have r599 := r598.iloadN (pc' := 23) d15_22 rfl rfl
    obtain ⟨v602, h603, hq601, r600⟩ := r599.callS (pc' := 26) [(.ref ca), (.int (0 : Int32)), (.int (2 : Int32))] (rest := []) 0 d15_23 (hw _ (List.mem_of_getElem? (i := 88) rfl)) (hw _ (List.mem_of_getElem? (i := 89) rfl)) (hw _ (List.mem_of_getElem? (i := 77) rfl)) (hw _ (List.mem_of_getElem? (i := 90) rfl)) (by decide) (u_tb2 l Z a0 hw ca x y h563 n0 f564 zp565 cs vF SS old567) pd_18 rfl rfl rfl (Nat.le_of_ble_eq_true rfl) (by decide) (by decide) (k' := 2) (n' := 9) rfl rfl (by decide) (by decide) rfl
    obtain ⟨tb, rfl, VT, gt, KT⟩ := hq601
    dsimp only [Option.toList, List.cons_append, List.nil_append] at r600
    have gt0 : h0.size ≤ tb := Nat.le_trans (K566).1 gt
    have f604 := f564.keep KT nin0
    have zp605 : n0 ≤ h603.size := Nat.le_trans zp565 KT.1
    have K606 := (K566).trans KT all0
    have old607 := (old567).keep KT all0
    have r608 := r600.astore (pc' := 28) (L' := #[.val (.ref ca), .val (.int (0 : Int32)), .val (.int (2 : Int32)), .val (.ref b545), .val (.int (1 : Int32)), .val (.ref tb)]) d15_26 rfl rfl rfl
    have r609 := r608.aload (pc' := 30) d15_28 rfl rfl rfl
    have r610 := r609.iload (pc' := 32) d15_30 rfl rfl
    obtain ⟨v613, h614, hq612, r611⟩ := r610.callS (pc' := 35) [(.ref tb), (.int (1 : Int32))] (rest := []) 0 d15_32 (hw _ (List.mem_of_getElem? (i := 104) rfl)) (hw _ (List.mem_of_getElem? (i := 105) rfl)) (hw _ (List.mem_of_getElem? (i := 77) rfl)) (hw _ (List.mem_of_getElem? (i := 106) rfl)) (by decide) (u_get l Z a0 hw tb (1 : Int32) (4 : Int32) (2 : Int32) y _ h603 n0 VT (by decide) (by decide) (by decide) (by decide) (by decide) (chr1_at (F := [nar .byte ((x >>> ((0 : Int32) &&& 31)).toInt8.toInt32), nar .byte ((x >>> ((8 : Int32) &&& 31)).toInt8.toInt32), nar .byte ((y >>> ((0 : Int32) &&& 31)).toInt8.toInt32), nar .byte ((y >>> ((8 : Int32) &&& 31)).toInt8.toInt32)]) (k := 1) rfl rfl hy ky) cs vF SS old607) pd_15 rfl rfl rfl (Nat.le_of_ble_eq_true rfl) (by decide) (by decide) (k' := 2) (n' := 9) rfl rfl (by decide) (by decide) rfl
    obtain ⟨rfl, rfl⟩ := hq612
    dsimp only [Option.toList, List.cons_append, List.nil_append] at r611
    have r615 := r611.sipush (pc' := 38) (255 : Int32) d15_35 rfl rfl
    have r616 := r615.icT (pc' := 54) d15_38 (tlt g5).2.2.1 (by decide) (by decide)
    have r617 := r616.aload (pc' := 56) d15_54 rfl rfl rfl
    exact ⟨_, _, r617.retA d15_56 rfl rfl rfl (by decide) (by decide), ⟨tb, _, _, rfl, VT, gt0, K606, Or.inr ⟨rfl, rfl⟩⟩⟩
  · -- 2
    have r618 := r560.istore (pc' := 14) (L' := #[.val (.ref ca), .val (.int (0 : Int32)), .val (.int (2 : Int32)), .val (.ref b545), .val (.int (2 : Int32)), .unset]) d15_12 rfl rfl
    have r619 := r618.iload (pc' := 16) d15_14 rfl rfl
    have r620 := r619.iloadN (pc' := 17) d15_16 rfl rfl
    have r621 := r620.icT (pc' := 57) d15_17 (teq (by decide : (2 : Int32) = (2 : Int32))).1 (by decide) (by decide)
    have r622 := r621.aloadN (pc' := 58) d15_57 rfl rfl rfl
    exact ⟨_, _, r622.retA d15_58 rfl rfl rfl (by decide) (by decide), ⟨b545, _, _, rfl, V5, sz548, K566, Or.inl ⟨rfl, rfl, gx, gy⟩⟩⟩
set_option maxRecDepth 65536 in
set_option maxHeartbeats 40000000 in
theorem s_n4_2 (l : Launch) (Z : State) (a0 : Array Value) (hw : ∀ d ∈ tables_1, d.before a0 Z = true) (a ca : Addr) (x y : Int32) (h0 : Heap) (n0 : Nat) (EX : Exa Z h0 a "java/lang/String") (FC : Fld Z h0 a "java/lang/String" "coder" "B" (.int (0 : Int32))) (FV : Fld Z h0 a "java/lang/String" "value" "[B" .null) (VC : ArC Z h0 ca (2 : Int32) [x, y]) (ga : n0 ≤ a) (nea : ca ≠ a) (Z0 : n0 ≤ h0.size) (hx : ¬ x < 0) (kx : ¬ 65535 < x) (hy : ¬ y < 0) (ky : ¬ 65535 < y) (cs : Int32) (vF : Value) (SS : Stt Z cs vF) (O0 : Old Z n0 h0) :
    Ctr l Z (⟨"java/lang/String", "<init>", "([CIILjava/lang/Void;)V"⟩ : MethodName) jdk_42_method_149_code 6 none ({ frames := 4, cells := 2, slots := 9, locals := 57 } : Room) #[(.ref a), (.ref ca), (.int (0 : Int32)), (.int (2 : Int32)), .null] h0 n0 (fun v h => v = none ∧ (∃ (b : Addr) (cd b2 : Int32) (F : List Int32) (cF : Nat → Int32), Str Z h a b cd b2 F ∧ ChF cd b2 F (2 : Int32) cF ∧ h0.size ≤ b ∧ cF 0 = x ∧ cF 1 = y) ∧ Keep h0 h [a]) := by
  refine ent (plainFor_of_name pn_java_lang_String) (L0 := #[.val (.ref a), .val (.ref ca), .val (.int (0 : Int32)), .val (.int (2 : Int32)), .val .null, .unset]) (fun m => by first | (simp [entryFrame, mkF, argsToLocals, Value.category]; done) | rfl) ?_
  intro p e s m below meth c T0 r0
  have r623 := r0.aloadN (pc' := 1) d3_0 rfl rfl rfl
  have r624 := r623.initO (pc' := 4) 0 d3_1 (hw _ (List.mem_of_getElem? (i := 17) rfl)) (hw _ (List.mem_of_getElem? (i := 18) rfl)) (hw _ (List.mem_of_getElem? (i := 19) rfl)) rfl (by decide) (Nat.le_of_ble_eq_true rfl) (by decide) rfl
  have r625 := r624.iloadN (pc' := 5) d3_4 rfl rfl
  have r626 := r625.ifT (pc' := 27) d3_5 (feq (by decide : ¬ (2 : Int32) = (0 : Int32))).2 (by decide) (by decide)
  have r627 := r626.getS (host := "") (pc' := 30) d3_27 (Or.inl (hw _ (List.mem_of_getElem? (i := 49) rfl))) Via.refl (SS.1.1.ext (O0).2) rfl
  have r628 := r627.ifF (pc' := 33) d3_30 (feq SS.1.2).1 rfl
  have r629 := r628.aloadN (pc' := 34) d3_33 rfl rfl rfl
  have r630 := r629.iloadN (pc' := 35) d3_34 rfl rfl
  have r631 := r630.iloadN (pc' := 36) d3_35 rfl rfl
  have nab : a < h0.size := EX.lt
  obtain ⟨v634, h635, hq633, r632⟩ := r631.callS (pc' := 39) [(.ref ca), (.int (0 : Int32)), (.int (2 : Int32))] (rest := []) 0 d3_36 (hw _ (List.mem_of_getElem? (i := 75) rfl)) (hw _ (List.mem_of_getElem? (i := 76) rfl)) (hw _ (List.mem_of_getElem? (i := 77) rfl)) (hw _ (List.mem_of_getElem? (i := 78) rfl)) (by decide) (u_c3_2 l Z a0 hw ca x y h0 n0 hx kx hy ky VC Z0 cs vF SS O0) pd_18 rfl rfl rfl (Nat.le_of_ble_eq_true rfl) (by decide) (by decide) (k' := 2) (n' := 9) rfl rfl (by decide) (by decide) rfl
  obtain ⟨b, b2, F, rfl, VB, gb, K3, Q3⟩ := hq633
  dsimp only [Option.toList, List.cons_append, List.nil_append] at r632
  have f636 := EX.keep K3
  have f637 := FC.keep K3 nin0
  have f638 := FV.keep K3 nin0
  have f639 := VC.keep K3 nin0
  have zp640 : n0 ≤ h635.size := Nat.le_trans Z0 K3.1
  have K641 := ((Keep.refl h0 [a])).trans K3 all0
  have old642 := (O0).keep K3 all0
  have neb : b ≠ a := fun q => absurd nab (Nat.not_lt.mpr (q ▸ gb))
  rcases Q3 with ⟨rfl, rfl, gx, gy⟩ | ⟨rfl, rfl⟩
  · -- 0
    have r643 := r632.astore (pc' := 41) (L' := #[.val (.ref a), .val (.ref ca), .val (.int (0 : Int32)), .val (.int (2 : Int32)), .val .null, .val (.ref b)]) d3_39 rfl rfl rfl
    have r644 := r643.aloadN (pc' := 42) d3_41 rfl rfl rfl
    have r645 := r644.aload (pc' := 44) d3_42 rfl rfl rfl
    have r646 := r645.iloadN (pc' := 45) d3_44 rfl rfl
    obtain ⟨v649, h650, hq648, r647⟩ := r646.callS (pc' := 48) [(.ref b), (.int (2 : Int32))] (rest := [(.ref a)]) 1 d3_45 (hw _ (List.mem_of_getElem? (i := 82) rfl)) (hw _ (List.mem_of_getElem? (i := 83) rfl)) (hw _ (List.mem_of_getElem? (i := 77) rfl)) (hw _ (List.mem_of_getElem? (i := 84) rfl)) (by decide) (u_cod l Z a0 hw b (2 : Int32) (2 : Int32) (0 : Int32) _ h635 n0 VB (by decide)) pd_14 rfl rfl rfl (Nat.le_of_ble_eq_true rfl) (by decide) (by decide) (k' := 2) (n' := 9) rfl rfl (by decide) (by decide) rfl
    obtain ⟨rfl, rfl⟩ := hq648
    dsimp only [Option.toList, List.cons_append, List.nil_append] at r647
    obtain ⟨h651, W651, r651⟩ := r647.putF (host := "") (pc' := 51) d3_48 (Or.inl (hw _ (List.mem_of_getElem? (i := 27) rfl))) Via.refl f637 f636 (Or.inr ⟨(hw _ (List.mem_of_getElem? (i := 23) rfl)), rfl, rfl⟩) (hw _ (List.mem_of_getElem? (i := 7) rfl)) (ty := .byte) (by decide) rfl rfl ga rfl
    have f652 := f636.wr W651
    have f653 := f637.same W651
    have f654 := f638.other W651 (Or.inr (slot_ne (Or.inr (hw _ (List.mem_of_getElem? (i := 22) rfl))) (Or.inr (hw _ (List.mem_of_getElem? (i := 23) rfl))) (by decide) (t := (.array .byte)) (t' := .byte) (by decide) (by decide)))
    have f655 := f639.other W651 (nea)
    have f656 := VB.other W651 (neb)
    have K657 := (K641).wr W651 (Or.inl (by simp))
    have old658 := (old642).wr W651 ga
    have zp659 : n0 ≤ h651.size := Nat.le_trans zp640 (Nat.le_of_eq W651.size.symm)
    have r660 := r651.aloadN (pc' := 52) d3_51 rfl rfl rfl
    have r661 := r660.aload (pc' := 54) d3_52 rfl rfl rfl
    obtain ⟨h662, W662, r662⟩ := r661.putF (host := "") (pc' := 57) d3_54 (Or.inl (hw _ (List.mem_of_getElem? (i := 26) rfl))) Via.refl f654 f652 (Or.inr ⟨(hw _ (List.mem_of_getElem? (i := 22) rfl)), rfl, rfl⟩) (hw _ (List.mem_of_getElem? (i := 7) rfl)) (ty := (.array .byte)) (by decide) rfl rfl ga rfl
    have f663 := f652.wr W662
    have f664 := f653.other W662 (Or.inr (slot_ne (Or.inr (hw _ (List.mem_of_getElem? (i := 23) rfl))) (Or.inr (hw _ (List.mem_of_getElem? (i := 22) rfl))) (by decide) (t := .byte) (t' := (.array .byte)) (by decide) (by decide)))
    have f665 := f654.same W662
    have f666 := f655.other W662 (nea)
    have f667 := f656.other W662 (neb)
    have K668 := (K657).wr W662 (Or.inl (by simp))
    have old669 := (old658).wr W662 ga
    have zp670 : n0 ≤ h662.size := Nat.le_trans zp659 (Nat.le_of_eq W662.size.symm)
    exact ⟨_, _, r662.retV d3_57 rfl (by decide) (by decide), ⟨rfl, ⟨b, (0 : Int32), _, _, chr0 [nar .byte (x.toInt8.toInt32), nar .byte (y.toInt8.toInt32)], ⟨f663, f664, f665, f667⟩, Or.inl ⟨rfl, rfl, rfl⟩, gb, chr0_at (k := 0) rfl hx gx, chr0_at (k := 1) rfl hy gy⟩, K668⟩⟩
  · -- 1
    have r671 := r632.astore (pc' := 41) (L' := #[.val (.ref a), .val (.ref ca), .val (.int (0 : Int32)), .val (.int (2 : Int32)), .val .null, .val (.ref b)]) d3_39 rfl rfl rfl
    have r672 := r671.aloadN (pc' := 42) d3_41 rfl rfl rfl
    have r673 := r672.aload (pc' := 44) d3_42 rfl rfl rfl
    have r674 := r673.iloadN (pc' := 45) d3_44 rfl rfl
    obtain ⟨v677, h678, hq676, r675⟩ := r674.callS (pc' := 48) [(.ref b), (.int (2 : Int32))] (rest := [(.ref a)]) 1 d3_45 (hw _ (List.mem_of_getElem? (i := 82) rfl)) (hw _ (List.mem_of_getElem? (i := 83) rfl)) (hw _ (List.mem_of_getElem? (i := 77) rfl)) (hw _ (List.mem_of_getElem? (i := 84) rfl)) (by decide) (u_cod l Z a0 hw b (2 : Int32) (4 : Int32) (1 : Int32) _ h635 n0 VB (by decide)) pd_14 rfl rfl rfl (Nat.le_of_ble_eq_true rfl) (by decide) (by decide) (k' := 2) (n' := 9) rfl rfl (by decide) (by decide) rfl
    obtain ⟨rfl, rfl⟩ := hq676
    dsimp only [Option.toList, List.cons_append, List.nil_append] at r675
    obtain ⟨h679, W679, r679⟩ := r675.putF (host := "") (pc' := 51) d3_48 (Or.inl (hw _ (List.mem_of_getElem? (i := 27) rfl))) Via.refl f637 f636 (Or.inr ⟨(hw _ (List.mem_of_getElem? (i := 23) rfl)), rfl, rfl⟩) (hw _ (List.mem_of_getElem? (i := 7) rfl)) (ty := .byte) (by decide) rfl rfl ga rfl
    have f680 := f636.wr W679
    have f681 := f637.same W679
    have f682 := f638.other W679 (Or.inr (slot_ne (Or.inr (hw _ (List.mem_of_getElem? (i := 22) rfl))) (Or.inr (hw _ (List.mem_of_getElem? (i := 23) rfl))) (by decide) (t := (.array .byte)) (t' := .byte) (by decide) (by decide)))
    have f683 := f639.other W679 (nea)
    have f684 := VB.other W679 (neb)
    have K685 := (K641).wr W679 (Or.inl (by simp))
    have old686 := (old642).wr W679 ga
    have zp687 : n0 ≤ h679.size := Nat.le_trans zp640 (Nat.le_of_eq W679.size.symm)
    have r688 := r679.aloadN (pc' := 52) d3_51 rfl rfl rfl
    have r689 := r688.aload (pc' := 54) d3_52 rfl rfl rfl
    obtain ⟨h690, W690, r690⟩ := r689.putF (host := "") (pc' := 57) d3_54 (Or.inl (hw _ (List.mem_of_getElem? (i := 26) rfl))) Via.refl f682 f680 (Or.inr ⟨(hw _ (List.mem_of_getElem? (i := 22) rfl)), rfl, rfl⟩) (hw _ (List.mem_of_getElem? (i := 7) rfl)) (ty := (.array .byte)) (by decide) rfl rfl ga rfl
    have f691 := f680.wr W690
    have f692 := f681.other W690 (Or.inr (slot_ne (Or.inr (hw _ (List.mem_of_getElem? (i := 23) rfl))) (Or.inr (hw _ (List.mem_of_getElem? (i := 22) rfl))) (by decide) (t := .byte) (t' := (.array .byte)) (by decide) (by decide)))
    have f693 := f682.same W690
    have f694 := f683.other W690 (nea)
    have f695 := f684.other W690 (neb)
    have K696 := (K685).wr W690 (Or.inl (by simp))
    have old697 := (old686).wr W690 ga
    have zp698 : n0 ≤ h690.size := Nat.le_trans zp687 (Nat.le_of_eq W690.size.symm)
    exact ⟨_, _, r690.retV d3_57 rfl (by decide) (by decide), ⟨rfl, ⟨b, (1 : Int32), _, _, chr1 [nar .byte ((x >>> ((0 : Int32) &&& 31)).toInt8.toInt32), nar .byte ((x >>> ((8 : Int32) &&& 31)).toInt8.toInt32), nar .byte ((y >>> ((0 : Int32) &&& 31)).toInt8.toInt32), nar .byte ((y >>> ((8 : Int32) &&& 31)).toInt8.toInt32)], ⟨f691, f692, f693, f695⟩, Or.inr ⟨rfl, by decide, rfl⟩, gb, chr1_at (k := 0) rfl rfl hx kx, chr1_at (k := 1) rfl rfl hy ky⟩, K696⟩⟩
set_option maxRecDepth 65536 in
set_option maxHeartbeats 40000000 in
theorem s_n1_2 (l : Launch) (Z : State) (a0 : Array Value) (hw : ∀ d ∈ tables_1, d.before a0 Z = true) (a ca : Addr) (x y : Int32) (h0 : Heap) (n0 : Nat) (EX : Exa Z h0 a "java/lang/String") (FC : Fld Z h0 a "java/lang/String" "coder" "B" (.int (0 : Int32))) (FV : Fld Z h0 a "java/lang/String" "value" "[B" .null) (VC : ArC Z h0 ca (2 : Int32) [x, y]) (ga : n0 ≤ a) (nea : ca ≠ a) (Z0 : n0 ≤ h0.size) (hx : ¬ x < 0) (kx : ¬ 65535 < x) (hy : ¬ y < 0) (ky : ¬ 65535 < y) (cs : Int32) (vF : Value) (SS : Stt Z cs vF) (O0 : Old Z n0 h0) :
    Ctr l Z (⟨"java/lang/String", "<init>", "([C)V"⟩ : MethodName) jdk_42_method_3_code 2 none ({ frames := 5, cells := 2, slots := 9, locals := 74 } : Room) #[(.ref a), (.ref ca)] h0 n0 (fun v h => v = none ∧ (∃ (b : Addr) (cd b2 : Int32) (F : List Int32) (cF : Nat → Int32), Str Z h a b cd b2 F ∧ ChF cd b2 F (2 : Int32) cF ∧ h0.size ≤ b ∧ cF 0 = x ∧ cF 1 = y) ∧ Keep h0 h [a]) := by
  refine ent (plainFor_of_name pn_java_lang_String) (L0 := #[.val (.ref a), .val (.ref ca)]) (fun m => by first | (simp [entryFrame, mkF, argsToLocals, Value.category]; done) | rfl) ?_
  intro p e s m below meth c T0 r0
  have r699 := r0.aloadN (pc' := 1) d2_0 rfl rfl rfl
  have r700 := r699.aloadN (pc' := 2) d2_1 rfl rfl rfl
  have r701 := r700.iconst (pc' := 3) (0 : Int32) d2_2 rfl rfl
  have r702 := r701.aloadN (pc' := 4) d2_3 rfl rfl rfl
  have r703 := r702.lenC (pc' := 5) d2_4 VC rfl
  have r704 := r703.anull (pc' := 6) d2_5 rfl
  obtain ⟨v707, h708, hq706, r705⟩ := r704.callC (pc' := 9) (a := a) [(.ref ca), (.int (0 : Int32)), (.int (2 : Int32)), .null] (rest := []) 0 d2_6 rfl (hw _ (List.mem_of_getElem? (i := 13) rfl)) (hw _ (List.mem_of_getElem? (i := 14) rfl)) (hw _ (List.mem_of_getElem? (i := 8) rfl)) (hw _ (List.mem_of_getElem? (i := 16) rfl)) (by decide) (s_n4_2 l Z a0 hw a ca x y h0 n0 EX FC FV VC ga nea Z0 hx kx hy ky cs vF SS O0) pd_19 rfl rfl rfl (Nat.le_of_ble_eq_true rfl) (by decide) (by decide) (k' := 2) (n' := 9) rfl rfl (by decide) (by decide) rfl
  obtain ⟨rfl, Q4, K4⟩ := hq706
  dsimp only [Option.toList, List.cons_append, List.nil_append] at r705
  exact ⟨_, _, r705.retV d2_9 rfl (by decide) (by decide), ⟨rfl, Q4, K4⟩⟩
set_option maxRecDepth 65536 in
set_option maxHeartbeats 40000000 in
theorem u_nbf3 (l : Launch) (Z : State) (a0 : Array Value) (hw : ∀ d ∈ tables_1, d.before a0 Z = true)  (h0 : Heap) (n0 : Nat) (Z0 : n0 ≤ h0.size) :
    Ctr l Z (⟨"java/lang/StringUTF16", "newBytesFor", "(I)[B"⟩ : MethodName) jdk_52_method_2_code 1 (some (.array .byte)) ({ frames := 1, cells := 1, slots := 6, locals := 12 } : Room) #[(.int (3 : Int32))] h0 n0 (fun v h => ∃ b, v = some (.ref b) ∧ ArB Z h b (6 : Int32) [0, 0, 0, 0, 0, 0] ∧ h0.size ≤ b ∧ Ext h0 h) := by
  refine ent (plainFor_of_name pn_java_lang_StringUTF16) (L0 := #[.val (.int (3 : Int32))]) (fun m => by first | (simp [entryFrame, mkF, argsToLocals, Value.category]; done) | rfl) ?_
  intro p e s m below meth c T0 r0
  have r709 := r0.iloadN (pc' := 1) d20_0 rfl rfl
  obtain ⟨v712, h713, hq711, r710⟩ := r709.callS (pc' := 4) [(.int (3 : Int32))] (rest := []) 0 d20_1 (hw _ (List.mem_of_getElem? (i := 94) rfl)) (hw _ (List.mem_of_getElem? (i := 95) rfl)) (hw _ (List.mem_of_getElem? (i := 77) rfl)) (hw _ (List.mem_of_getElem? (i := 96) rfl)) (by decide) (u_nbl l Z a0 hw (3 : Int32) (6 : Int32) h0 n0 (by decide) (by decide) (by decide)) pd_6 rfl rfl rfl (Nat.le_of_ble_eq_true rfl) (by decide) (by decide) (k' := 0) (n' := 0) rfl rfl (by decide) (by decide) rfl
  obtain ⟨rfl, rfl⟩ := hq711
  dsimp only [Option.toList, List.cons_append, List.nil_append] at r710
  obtain ⟨h714, b714, kc714, hb714, E714, V714, r714⟩ := r710.newP (pc' := 6) d20_4 (hw _ (List.mem_of_getElem? (i := 21) rfl)) (by decide) (cap := 6) (by decide) (by decide) (k' := 1) (n' := 6) rfl rfl (by decide) (by decide) rfl
  have g715 : n0 ≤ b714 := hb714 ▸ Z0
  have sz716 : h0.size ≤ b714 := hb714 ▸ ((Keep.refl h0 [])).1
  have K717 := ((Keep.refl h0 [])).ext E714
  have zp718 : n0 ≤ h714.size := Nat.le_trans Z0 E714.1
  have f719 : ArB Z h714 b714 (6 : Int32) [0, 0, 0, 0, 0, 0] := ArB.new V714 6
  exact ⟨_, _, r714.retA d20_6 rfl rfl rfl (by decide) (by decide), ⟨b714, rfl, f719, sz716, E714⟩⟩
set_option maxRecDepth 65536 in
set_option maxHeartbeats 40000000 in
theorem u_tb3 (l : Launch) (Z : State) (a0 : Array Value) (hw : ∀ d ∈ tables_1, d.before a0 Z = true) (ca : Addr) (x y z : Int32) (h0 : Heap) (n0 : Nat) (VC : ArC Z h0 ca (3 : Int32) [x, y, z]) (Z0 : n0 ≤ h0.size) (cs : Int32) (vF : Value) (SS : Stt Z cs vF) (O0 : Old Z n0 h0) :
    Ctr l Z (⟨"java/lang/StringUTF16", "toBytes", "([CII)[B"⟩ : MethodName) jdk_52_method_14_code 5 (some (.array .byte)) ({ frames := 2, cells := 1, slots := 6, locals := 24 } : Room) #[(.ref ca), (.int (0 : Int32)), (.int (3 : Int32))] h0 n0 (fun v h => ∃ b, v = some (.ref b) ∧ ArB Z h b (6 : Int32) [nar .byte ((x >>> ((0 : Int32) &&& 31)).toInt8.toInt32), nar .byte ((x >>> ((8 : Int32) &&& 31)).toInt8.toInt32), nar .byte ((y >>> ((0 : Int32) &&& 31)).toInt8.toInt32), nar .byte ((y >>> ((8 : Int32) &&& 31)).toInt8.toInt32), nar .byte ((z >>> ((0 : Int32) &&& 31)).toInt8.toInt32), nar .byte ((z >>> ((8 : Int32) &&& 31)).toInt8.toInt32)] ∧ h0.size ≤ b ∧ Keep h0 h []) := by
  refine ent (plainFor_of_name pn_java_lang_StringUTF16) (L0 := #[.val (.ref ca), .val (.int (0 : Int32)), .val (.int (3 : Int32)), .unset, .unset]) (fun m => by first | (simp [entryFrame, mkF, argsToLocals, Value.category]; done) | rfl) ?_
  intro p e s m below meth c T0 r0
  have r720 := r0.iloadN (pc' := 1) d19_0 rfl rfl
  obtain ⟨v723, h724, hq722, r721⟩ := r720.callS (pc' := 4) [(.int (3 : Int32))] (rest := []) 0 d19_1 (hw _ (List.mem_of_getElem? (i := 91) rfl)) (hw _ (List.mem_of_getElem? (i := 92) rfl)) (hw _ (List.mem_of_getElem? (i := 77) rfl)) (hw _ (List.mem_of_getElem? (i := 93) rfl)) (by decide) (u_nbf3 l Z a0 hw h0 n0 Z0) pd_7 rfl rfl rfl (Nat.le_of_ble_eq_true rfl) (by decide) (by decide) (k' := 1) (n' := 6) rfl rfl (by decide) (by decide) rfl
  obtain ⟨b, rfl, VB, gb, EB⟩ := hq722
  dsimp only [Option.toList, List.cons_append, List.nil_append] at r721
  have neb : ca ≠ b := fun q => absurd VC.lt (Nat.not_lt.mpr (q ▸ gb))
  have gn : n0 ≤ b := Nat.le_trans Z0 gb
  have f725 := VC.ext EB
  have K726 := ((Keep.refl h0 [])).ext EB
  have zp727 : n0 ≤ h724.size := Nat.le_trans Z0 EB.1
  have old728 := (O0).ext EB
  have r729 := r721.astoreN (pc' := 5) (L' := #[.val (.ref ca), .val (.int (0 : Int32)), .val (.int (3 : Int32)), .val (.ref b), .unset]) d19_4 rfl rfl rfl
  have r730 := r729.iconst (pc' := 6) (0 : Int32) d19_5 rfl rfl
  have r731 := r730.istore (pc' := 8) (L' := #[.val (.ref ca), .val (.int (0 : Int32)), .val (.int (3 : Int32)), .val (.ref b), .val (.int (0 : Int32))]) d19_6 rfl rfl
  have r732 := r731.iload (pc' := 10) d19_8 rfl rfl
  have r733 := r732.iloadN (pc' := 11) d19_10 rfl rfl
  have r734 := r733.icF (pc' := 14) d19_11 (tlt (by decide : (0 : Int32) < (3 : Int32))).2.1 rfl
  have r735 := r734.aloadN (pc' := 15) d19_14 rfl rfl rfl
  have r736 := r735.iload (pc' := 17) d19_15 rfl rfl
  have r737 := r736.aloadN (pc' := 18) d19_17 rfl rfl rfl
  have r738 := r737.iloadN (pc' := 19) d19_18 rfl rfl
  have r739 := r738.gC (pc' := 20) d19_19 f725 (by decide) (by decide) rfl
  have p740 := u_put l Z a0 hw b (0 : Int32) x (6 : Int32) (0 : Int32) [0, 0, 0, 0, 0, 0] h724 n0 VB (by decide) (by decide) (by decide) (by decide) (by decide) (Nat.le_of_ble_eq_true rfl) (Nat.le_of_ble_eq_true rfl) gn cs vF SS old728
  obtain ⟨v743, h744, hq742, r741⟩ := r739.callS (pc' := 23) [(.ref b), (.int (0 : Int32)), (.int x)] (rest := []) 0 d19_20 (hw _ (List.mem_of_getElem? (i := 98) rfl)) (hw _ (List.mem_of_getElem? (i := 99) rfl)) (hw _ (List.mem_of_getElem? (i := 77) rfl)) (hw _ (List.mem_of_getElem? (i := 100) rfl)) (by decide) (shim l Z a0 hw p740) pd_16 rfl rfl rfl (Nat.le_of_ble_eq_true rfl) (by decide) (by decide) (k' := 1) (n' := 6) rfl rfl (by decide) (by decide) rfl
  obtain ⟨rfl, V740, K740⟩ := hq742
  dsimp only [Option.toList, List.cons_append, List.nil_append] at r741
  have f745 := f725.keep K740 (ninS (neb) nin0)
  have zp746 : n0 ≤ h744.size := Nat.le_trans zp727 K740.1
  have K747 := (K726).trans K740 (allS (Or.inr gb) all0)
  have old748 := (old728).keep K740 (allS gn all0)
  replace V740 : ArB Z h744 b (6 : Int32) [nar .byte ((x >>> ((0 : Int32) &&& 31)).toInt8.toInt32), nar .byte ((x >>> ((8 : Int32) &&& 31)).toInt8.toInt32), 0, 0, 0, 0] := V740
  have r749 := r741.iinc (pc' := 26) (L' := #[.val (.ref ca), .val (.int (1 : Int32)), .val (.int (3 : Int32)), .val (.ref b), .val (.int (0 : Int32))]) (1 : Int32) d19_23 rfl rfl (by decide) rfl rfl
  have r750 := r749.iinc (pc' := 29) (L' := #[.val (.ref ca), .val (.int (1 : Int32)), .val (.int (3 : Int32)), .val (.ref b), .val (.int (1 : Int32))]) (1 : Int32) d19_26 rfl rfl (by decide) rfl rfl
  have r751 := r750.goto (pc' := 8) d19_29 (by decide) (by decide)
  have r752 := r751.iload (pc' := 10) d19_8 rfl rfl
  have r753 := r752.iloadN (pc' := 11) d19_10 rfl rfl
  have r754 := r753.icF (pc' := 14) d19_11 (tlt (by decide : (1 : Int32) < (3 : Int32))).2.1 rfl
  have r755 := r754.aloadN (pc' := 15) d19_14 rfl rfl rfl
  have r756 := r755.iload (pc' := 17) d19_15 rfl rfl
  have r757 := r756.aloadN (pc' := 18) d19_17 rfl rfl rfl
  have r758 := r757.iloadN (pc' := 19) d19_18 rfl rfl
  have r759 := r758.gC (pc' := 20) d19_19 f745 (by decide) (by decide) rfl
  have p760 := u_put l Z a0 hw b (1 : Int32) y (6 : Int32) (2 : Int32) [nar .byte ((x >>> ((0 : Int32) &&& 31)).toInt8.toInt32), nar .byte ((x >>> ((8 : Int32) &&& 31)).toInt8.toInt32), 0, 0, 0, 0] h744 n0 V740 (by decide) (by decide) (by decide) (by decide) (by decide) (Nat.le_of_ble_eq_true rfl) (Nat.le_of_ble_eq_true rfl) gn cs vF SS old748
  obtain ⟨v763, h764, hq762, r761⟩ := r759.callS (pc' := 23) [(.ref b), (.int (1 : Int32)), (.int y)] (rest := []) 0 d19_20 (hw _ (List.mem_of_getElem? (i := 98) rfl)) (hw _ (List.mem_of_getElem? (i := 99) rfl)) (hw _ (List.mem_of_getElem? (i := 77) rfl)) (hw _ (List.mem_of_getElem? (i := 100) rfl)) (by decide) (shim l Z a0 hw p760) pd_16 rfl rfl rfl (Nat.le_of_ble_eq_true rfl) (by decide) (by decide) (k' := 1) (n' := 6) rfl rfl (by decide) (by decide) rfl
  obtain ⟨rfl, V760, K760⟩ := hq762
  dsimp only [Option.toList, List.cons_append, List.nil_append] at r761
  have f765 := f745.keep K760 (ninS (neb) nin0)
  have zp766 : n0 ≤ h764.size := Nat.le_trans zp746 K760.1
  have K767 := (K747).trans K760 (allS (Or.inr gb) all0)
  have old768 := (old748).keep K760 (allS gn all0)
  replace V760 : ArB Z h764 b (6 : Int32) [nar .byte ((x >>> ((0 : Int32) &&& 31)).toInt8.toInt32), nar .byte ((x >>> ((8 : Int32) &&& 31)).toInt8.toInt32), nar .byte ((y >>> ((0 : Int32) &&& 31)).toInt8.toInt32), nar .byte ((y >>> ((8 : Int32) &&& 31)).toInt8.toInt32), 0, 0] := V760
  have r769 := r761.iinc (pc' := 26) (L' := #[.val (.ref ca), .val (.int (2 : Int32)), .val (.int (3 : Int32)), .val (.ref b), .val (.int (1 : Int32))]) (1 : Int32) d19_23 rfl rfl (by decide) rfl rfl
  have r770 := r769.iinc (pc' := 29) (L' := #[.val (.ref ca), .val (.int (2 : Int32)), .val (.int (3 : Int32)), .val (.ref b), .val (.int (2 : Int32))]) (1 : Int32) d19_26 rfl rfl (by decide) rfl rfl
  have r771 := r770.goto (pc' := 8) d19_29 (by decide) (by decide)
  have r772 := r771.iload (pc' := 10) d19_8 rfl rfl
  have r773 := r772.iloadN (pc' := 11) d19_10 rfl rfl
  have r774 := r773.icF (pc' := 14) d19_11 (tlt (by decide : (2 : Int32) < (3 : Int32))).2.1 rfl
  have r775 := r774.aloadN (pc' := 15) d19_14 rfl rfl rfl
  have r776 := r775.iload (pc' := 17) d19_15 rfl rfl
  have r777 := r776.aloadN (pc' := 18) d19_17 rfl rfl rfl
  have r778 := r777.iloadN (pc' := 19) d19_18 rfl rfl
  have r779 := r778.gC (pc' := 20) d19_19 f765 (by decide) (by decide) rfl
  have p780 := u_put l Z a0 hw b (2 : Int32) z (6 : Int32) (4 : Int32) [nar .byte ((x >>> ((0 : Int32) &&& 31)).toInt8.toInt32), nar .byte ((x >>> ((8 : Int32) &&& 31)).toInt8.toInt32), nar .byte ((y >>> ((0 : Int32) &&& 31)).toInt8.toInt32), nar .byte ((y >>> ((8 : Int32) &&& 31)).toInt8.toInt32), 0, 0] h764 n0 V760 (by decide) (by decide) (by decide) (by decide) (by decide) (Nat.le_of_ble_eq_true rfl) (Nat.le_of_ble_eq_true rfl) gn cs vF SS old768
  obtain ⟨v783, h784, hq782, r781⟩ := r779.callS (pc' := 23) [(.ref b), (.int (2 : Int32)), (.int z)] (rest := []) 0 d19_20 (hw _ (List.mem_of_getElem? (i := 98) rfl)) (hw _ (List.mem_of_getElem? (i := 99) rfl)) (hw _ (List.mem_of_getElem? (i := 77) rfl)) (hw _ (List.mem_of_getElem? (i := 100) rfl)) (by decide) (shim l Z a0 hw p780) pd_16 rfl rfl rfl (Nat.le_of_ble_eq_true rfl) (by decide) (by decide) (k' := 1) (n' := 6) rfl rfl (by decide) (by decide) rfl
  obtain ⟨rfl, V780, K780⟩ := hq782
  dsimp only [Option.toList, List.cons_append, List.nil_append] at r781
  have f785 := f765.keep K780 (ninS (neb) nin0)
  have zp786 : n0 ≤ h784.size := Nat.le_trans zp766 K780.1
  have K787 := (K767).trans K780 (allS (Or.inr gb) all0)
  have old788 := (old768).keep K780 (allS gn all0)
  replace V780 : ArB Z h784 b (6 : Int32) [nar .byte ((x >>> ((0 : Int32) &&& 31)).toInt8.toInt32), nar .byte ((x >>> ((8 : Int32) &&& 31)).toInt8.toInt32), nar .byte ((y >>> ((0 : Int32) &&& 31)).toInt8.toInt32), nar .byte ((y >>> ((8 : Int32) &&& 31)).toInt8.toInt32), nar .byte ((z >>> ((0 : Int32) &&& 31)).toInt8.toInt32), nar .byte ((z >>> ((8 : Int32) &&& 31)).toInt8.toInt32)] := V780
  have r789 := r781.iinc (pc' := 26) (L' := #[.val (.ref ca), .val (.int (3 : Int32)), .val (.int (3 : Int32)), .val (.ref b), .val (.int (2 : Int32))]) (1 : Int32) d19_23 rfl rfl (by decide) rfl rfl
  have r790 := r789.iinc (pc' := 29) (L' := #[.val (.ref ca), .val (.int (3 : Int32)), .val (.int (3 : Int32)), .val (.ref b), .val (.int (3 : Int32))]) (1 : Int32) d19_26 rfl rfl (by decide) rfl rfl
  have r791 := r790.goto (pc' := 8) d19_29 (by decide) (by decide)
  have r792 := r791.iload (pc' := 10) d19_8 rfl rfl
  have r793 := r792.iloadN (pc' := 11) d19_10 rfl rfl
  have r794 := r793.icT (pc' := 32) d19_11 (flt (by decide : ¬ (3 : Int32) < (3 : Int32))).2.1 (by decide) (by decide)
  have r795 := r794.aloadN (pc' := 33) d19_32 rfl rfl rfl
  exact ⟨_, _, r795.retA d19_33 rfl rfl rfl (by decide) (by decide), ⟨b, rfl, V780, gb, K787⟩⟩
set_option maxRecDepth 65536 in
set_option maxHeartbeats 40000000 in
theorem u_c5_3 (l : Launch) (Z : State) (a0 : Array Value) (hw : ∀ d ∈ tables_1, d.before a0 Z = true) (ca d : Addr) (x y z : Int32) (h0 : Heap) (n0 : Nat) (VC : ArC Z h0 ca (3 : Int32) [x, y, z]) (VD : ArB Z h0 d (3 : Int32) [0, 0, 0]) (gd : n0 ≤ d) (ned : ca ≠ d) (Z0 : n0 ≤ h0.size) :
    Ctr l Z (⟨"java/lang/StringUTF16", "compress", "([CI[BII)I"⟩ : MethodName) jdk_52_method_21_code 7 (some .int) ({ frames := 0, cells := 0, slots := 0, locals := 0 } : Room) #[(.ref ca), (.int (0 : Int32)), (.ref d), (.int (0 : Int32)), (.int (3 : Int32))] h0 n0 (fun v h => ∃ k, v = some (.int k) ∧ Keep h0 h [d] ∧ ((k = (0 : Int32) ∧ 255 < x) ∨ (k = (1 : Int32) ∧ 255 < y) ∨ (k = (2 : Int32) ∧ 255 < z) ∨ (k = (3 : Int32) ∧ ¬ 255 < x ∧ ¬ 255 < y ∧ ¬ 255 < z ∧ ArB Z h d (3 : Int32) [nar .byte (x.toInt8.toInt32), nar .byte (y.toInt8.toInt32), nar .byte (z.toInt8.toInt32)]))) := by
  refine ent (plainFor_of_name pn_java_lang_StringUTF16) (L0 := #[.val (.ref ca), .val (.int (0 : Int32)), .val (.ref d), .val (.int (0 : Int32)), .val (.int (3 : Int32)), .unset, .unset]) (fun m => by first | (simp [entryFrame, mkF, argsToLocals, Value.category]; done) | rfl) ?_
  intro p e s m below meth c T0 r0
  have r796 := r0.iconst (pc' := 1) (0 : Int32) d16_0 rfl rfl
  have r797 := r796.istore (pc' := 3) (L' := #[.val (.ref ca), .val (.int (0 : Int32)), .val (.ref d), .val (.int (0 : Int32)), .val (.int (3 : Int32)), .val (.int (0 : Int32)), .unset]) d16_1 rfl rfl
  have r798 := r797.iload (pc' := 5) d16_3 rfl rfl
  have r799 := r798.iload (pc' := 7) d16_5 rfl rfl
  have r800 := r799.icF (pc' := 10) d16_7 (tlt (by decide : (0 : Int32) < (3 : Int32))).2.1 rfl
  have r801 := r800.aloadN (pc' := 11) d16_10 rfl rfl rfl
  have r802 := r801.iloadN (pc' := 12) d16_11 rfl rfl
  have r803 := r802.gC (pc' := 13) d16_12 VC (by decide) (by decide) rfl
  have r804 := r803.istore (pc' := 15) (L' := #[.val (.ref ca), .val (.int (0 : Int32)), .val (.ref d), .val (.int (0 : Int32)), .val (.int (3 : Int32)), .val (.int (0 : Int32)), .val (.int x)]) d16_13 rfl rfl
  have r805 := r804.iload (pc' := 17) d16_15 rfl rfl
  have r806 := r805.sipush (pc' := 20) (255 : Int32) d16_17 rfl rfl
  by_cases hc807 : (255 : Int32) < x
  · -- yes
    have r808 := r806.icF (pc' := 23) d16_20 (tlt hc807).2.2.2 rfl
    have r809 := r808.iload (pc' := 25) d16_23 rfl rfl
    exact ⟨_, _, r809.retI d16_25 rfl (by decide) (by decide), ⟨_, rfl, (Keep.refl h0 [d]), Or.inl ⟨rfl, hc807⟩⟩⟩
  · -- not no
    have r810 := r806.icT (pc' := 26) d16_20 (flt hc807).2.2.2 (by decide) (by decide)
    have r811 := r810.aloadN (pc' := 27) d16_26 rfl rfl rfl
    have r812 := r811.iloadN (pc' := 28) d16_27 rfl rfl
    have r813 := r812.iload (pc' := 30) d16_28 rfl rfl
    have r814 := r813.i2b (pc' := 31) d16_30 rfl rfl
    obtain ⟨h815, W815, V815, r815⟩ := r814.sB (pc' := 32) d16_31 VD (by decide) (by decide) (Nat.le_of_ble_eq_true rfl) gd rfl
    have f816 := VC.other W815 (ned)
    replace V815 : ArB Z h815 d (3 : Int32) [nar .byte (x.toInt8.toInt32), 0, 0] := V815
    have K817 := ((Keep.refl h0 [d])).wr W815 (Or.inl (by simp))
    have zp818 : n0 ≤ h815.size := Nat.le_trans Z0 (Nat.le_of_eq W815.size.symm)
    have r819 := r815.iinc (pc' := 35) (L' := #[.val (.ref ca), .val (.int (1 : Int32)), .val (.ref d), .val (.int (0 : Int32)), .val (.int (3 : Int32)), .val (.int (0 : Int32)), .val (.int x)]) (1 : Int32) d16_32 rfl rfl (by decide) rfl rfl
    have r820 := r819.iinc (pc' := 38) (L' := #[.val (.ref ca), .val (.int (1 : Int32)), .val (.ref d), .val (.int (1 : Int32)), .val (.int (3 : Int32)), .val (.int (0 : Int32)), .val (.int x)]) (1 : Int32) d16_35 rfl rfl (by decide) rfl rfl
    have r821 := r820.iinc (pc' := 41) (L' := #[.val (.ref ca), .val (.int (1 : Int32)), .val (.ref d), .val (.int (1 : Int32)), .val (.int (3 : Int32)), .val (.int (1 : Int32)), .val (.int x)]) (1 : Int32) d16_38 rfl rfl (by decide) rfl rfl
    have r822 := r821.goto (pc' := 3) d16_41 (by decide) (by decide)
    have r823 := r822.iload (pc' := 5) d16_3 rfl rfl
    have r824 := r823.iload (pc' := 7) d16_5 rfl rfl
    have r825 := r824.icF (pc' := 10) d16_7 (tlt (by decide : (1 : Int32) < (3 : Int32))).2.1 rfl
    have r826 := r825.aloadN (pc' := 11) d16_10 rfl rfl rfl
    have r827 := r826.iloadN (pc' := 12) d16_11 rfl rfl
    have r828 := r827.gC (pc' := 13) d16_12 f816 (by decide) (by decide) rfl
    have r829 := r828.istore (pc' := 15) (L' := #[.val (.ref ca), .val (.int (1 : Int32)), .val (.ref d), .val (.int (1 : Int32)), .val (.int (3 : Int32)), .val (.int (1 : Int32)), .val (.int y)]) d16_13 rfl rfl
    have r830 := r829.iload (pc' := 17) d16_15 rfl rfl
    have r831 := r830.sipush (pc' := 20) (255 : Int32) d16_17 rfl rfl
    by_cases hc832 : (255 : Int32) < y
    · -- yes
      have r833 := r831.icF (pc' := 23) d16_20 (tlt hc832).2.2.2 rfl
      have r834 := r833.iload (pc' := 25) d16_23 rfl rfl
      exact ⟨_, _, r834.retI d16_25 rfl (by decide) (by decide), ⟨_, rfl, K817, Or.inr (Or.inl ⟨rfl, hc832⟩)⟩⟩
    · -- not no
      have r835 := r831.icT (pc' := 26) d16_20 (flt hc832).2.2.2 (by decide) (by decide)
      have r836 := r835.aloadN (pc' := 27) d16_26 rfl rfl rfl
      have r837 := r836.iloadN (pc' := 28) d16_27 rfl rfl
      have r838 := r837.iload (pc' := 30) d16_28 rfl rfl
      have r839 := r838.i2b (pc' := 31) d16_30 rfl rfl
      obtain ⟨h840, W840, V840, r840⟩ := r839.sB (pc' := 32) d16_31 V815 (by decide) (by decide) (Nat.le_of_ble_eq_true rfl) gd rfl
      have f841 := f816.other W840 (ned)
      replace V840 : ArB Z h840 d (3 : Int32) [nar .byte (x.toInt8.toInt32), nar .byte (y.toInt8.toInt32), 0] := V840
      have K842 := (K817).wr W840 (Or.inl (by simp))
      have zp843 : n0 ≤ h840.size := Nat.le_trans zp818 (Nat.le_of_eq W840.size.symm)
      have r844 := r840.iinc (pc' := 35) (L' := #[.val (.ref ca), .val (.int (2 : Int32)), .val (.ref d), .val (.int (1 : Int32)), .val (.int (3 : Int32)), .val (.int (1 : Int32)), .val (.int y)]) (1 : Int32) d16_32 rfl rfl (by decide) rfl rfl
      have r845 := r844.iinc (pc' := 38) (L' := #[.val (.ref ca), .val (.int (2 : Int32)), .val (.ref d), .val (.int (2 : Int32)), .val (.int (3 : Int32)), .val (.int (1 : Int32)), .val (.int y)]) (1 : Int32) d16_35 rfl rfl (by decide) rfl rfl
      have r846 := r845.iinc (pc' := 41) (L' := #[.val (.ref ca), .val (.int (2 : Int32)), .val (.ref d), .val (.int (2 : Int32)), .val (.int (3 : Int32)), .val (.int (2 : Int32)), .val (.int y)]) (1 : Int32) d16_38 rfl rfl (by decide) rfl rfl
      have r847 := r846.goto (pc' := 3) d16_41 (by decide) (by decide)
      have r848 := r847.iload (pc' := 5) d16_3 rfl rfl
      have r849 := r848.iload (pc' := 7) d16_5 rfl rfl
      have r850 := r849.icF (pc' := 10) d16_7 (tlt (by decide : (2 : Int32) < (3 : Int32))).2.1 rfl
      have r851 := r850.aloadN (pc' := 11) d16_10 rfl rfl rfl
      have r852 := r851.iloadN (pc' := 12) d16_11 rfl rfl
      have r853 := r852.gC (pc' := 13) d16_12 f841 (by decide) (by decide) rfl
      have r854 := r853.istore (pc' := 15) (L' := #[.val (.ref ca), .val (.int (2 : Int32)), .val (.ref d), .val (.int (2 : Int32)), .val (.int (3 : Int32)), .val (.int (2 : Int32)), .val (.int z)]) d16_13 rfl rfl
      have r855 := r854.iload (pc' := 17) d16_15 rfl rfl
      have r856 := r855.sipush (pc' := 20) (255 : Int32) d16_17 rfl rfl
      by_cases hc857 : (255 : Int32) < z
      · -- yes
        have r858 := r856.icF (pc' := 23) d16_20 (tlt hc857).2.2.2 rfl
        have r859 := r858.iload (pc' := 25) d16_23 rfl rfl
        exact ⟨_, _, r859.retI d16_25 rfl (by decide) (by decide), ⟨_, rfl, K842, Or.inr (Or.inr (Or.inl ⟨rfl, hc857⟩))⟩⟩
      · -- not no
        have r860 := r856.icT (pc' := 26) d16_20 (flt hc857).2.2.2 (by decide) (by decide)
        have r861 := r860.aloadN (pc' := 27) d16_26 rfl rfl rfl
        have r862 := r861.iloadN (pc' := 28) d16_27 rfl rfl
        have r863 := r862.iload (pc' := 30) d16_28 rfl rfl
        have r864 := r863.i2b (pc' := 31) d16_30 rfl rfl
        obtain ⟨h865, W865, V865, r865⟩ := r864.sB (pc' := 32) d16_31 V840 (by decide) (by decide) (Nat.le_of_ble_eq_true rfl) gd rfl
        have f866 := f841.other W865 (ned)
        replace V865 : ArB Z h865 d (3 : Int32) [nar .byte (x.toInt8.toInt32), nar .byte (y.toInt8.toInt32), nar .byte (z.toInt8.toInt32)] := V865
        have K867 := (K842).wr W865 (Or.inl (by simp))
        have zp868 : n0 ≤ h865.size := Nat.le_trans zp843 (Nat.le_of_eq W865.size.symm)
        have r869 := r865.iinc (pc' := 35) (L' := #[.val (.ref ca), .val (.int (3 : Int32)), .val (.ref d), .val (.int (2 : Int32)), .val (.int (3 : Int32)), .val (.int (2 : Int32)), .val (.int z)]) (1 : Int32) d16_32 rfl rfl (by decide) rfl rfl
        have r870 := r869.iinc (pc' := 38) (L' := #[.val (.ref ca), .val (.int (3 : Int32)), .val (.ref d), .val (.int (3 : Int32)), .val (.int (3 : Int32)), .val (.int (2 : Int32)), .val (.int z)]) (1 : Int32) d16_35 rfl rfl (by decide) rfl rfl
        have r871 := r870.iinc (pc' := 41) (L' := #[.val (.ref ca), .val (.int (3 : Int32)), .val (.ref d), .val (.int (3 : Int32)), .val (.int (3 : Int32)), .val (.int (3 : Int32)), .val (.int z)]) (1 : Int32) d16_38 rfl rfl (by decide) rfl rfl
        have r872 := r871.goto (pc' := 3) d16_41 (by decide) (by decide)
        have r873 := r872.iload (pc' := 5) d16_3 rfl rfl
        have r874 := r873.iload (pc' := 7) d16_5 rfl rfl
        have r875 := r874.icT (pc' := 44) d16_7 (flt (by decide : ¬ (3 : Int32) < (3 : Int32))).2.1 (by decide) (by decide)
        have r876 := r875.iload (pc' := 46) d16_44 rfl rfl
        exact ⟨_, _, r876.retI d16_46 rfl (by decide) (by decide), ⟨_, rfl, K867, Or.inr (Or.inr (Or.inr (⟨rfl, hc807, hc832, hc857, V865⟩)))⟩⟩
set_option maxRecDepth 65536 in
set_option maxHeartbeats 40000000 in
theorem u_c3_3 (l : Launch) (Z : State) (a0 : Array Value) (hw : ∀ d ∈ tables_1, d.before a0 Z = true) (ca : Addr) (x y z : Int32) (h0 : Heap) (n0 : Nat) (hx : ¬ x < 0) (kx : ¬ 65535 < x) (hy : ¬ y < 0) (ky : ¬ 65535 < y) (hz : ¬ z < 0) (kz : ¬ 65535 < z) (VC : ArC Z h0 ca (3 : Int32) [x, y, z]) (Z0 : n0 ≤ h0.size) (cs : Int32) (vF : Value) (SS : Stt Z cs vF) (O0 : Old Z n0 h0) :
    Ctr l Z (⟨"java/lang/StringUTF16", "compress", "([CII)[B"⟩ : MethodName) jdk_52_method_16_code 6 (some (.array .byte)) ({ frames := 3, cells := 2, slots := 9, locals := 40 } : Room) #[(.ref ca), (.int (0 : Int32)), (.int (3 : Int32))] h0 n0 (fun v h => ∃ (b : Addr) (b2 : Int32) (F : List Int32), v = some (.ref b) ∧ ArB Z h b b2 F ∧ h0.size ≤ b ∧ Keep h0 h [] ∧ ((b2 = (3 : Int32) ∧ F = [nar .byte (x.toInt8.toInt32), nar .byte (y.toInt8.toInt32), nar .byte (z.toInt8.toInt32)] ∧ ¬ 255 < x ∧ ¬ 255 < y ∧ ¬ 255 < z) ∨ (b2 = (6 : Int32) ∧ F = [nar .byte ((x >>> ((0 : Int32) &&& 31)).toInt8.toInt32), nar .byte ((x >>> ((8 : Int32) &&& 31)).toInt8.toInt32), nar .byte ((y >>> ((0 : Int32) &&& 31)).toInt8.toInt32), nar .byte ((y >>> ((8 : Int32) &&& 31)).toInt8.toInt32), nar .byte ((z >>> ((0 : Int32) &&& 31)).toInt8.toInt32), nar .byte ((z >>> ((8 : Int32) &&& 31)).toInt8.toInt32)]))) := by
  refine ent (plainFor_of_name pn_java_lang_StringUTF16) (L0 := #[.val (.ref ca), .val (.int (0 : Int32)), .val (.int (3 : Int32)), .unset, .unset, .unset]) (fun m => by first | (simp [entryFrame, mkF, argsToLocals, Value.category]; done) | rfl) ?_
  intro p e s m below meth c T0 r0
  have r877 := r0.iloadN (pc' := 1) d15_0 rfl rfl
  obtain ⟨h878, b878, kc878, hb878, E878, V878, r878⟩ := r877.newP (pc' := 3) d15_1 (hw _ (List.mem_of_getElem? (i := 21) rfl)) (by decide) (cap := 3) (by decide) (by decide) (k' := 1) (n' := 3) rfl rfl (by decide) (by decide) rfl
  have ne879 : ca ≠ b878 := Nat.ne_of_lt (hb878 ▸ VC.lt)
  have g880 : n0 ≤ b878 := hb878 ▸ Z0
  have sz881 : h0.size ≤ b878 := hb878 ▸ ((Keep.refl h0 [])).1
  have f882 := VC.ext E878
  have K883 := ((Keep.refl h0 [])).ext E878
  have zp884 : n0 ≤ h878.size := Nat.le_trans Z0 E878.1
  have old885 := (O0).ext E878
  have f886 : ArB Z h878 b878 (3 : Int32) [0, 0, 0] := ArB.new V878 3
  have r887 := r878.astoreN (pc' := 4) (L' := #[.val (.ref ca), .val (.int (0 : Int32)), .val (.int (3 : Int32)), .val (.ref b878), .unset, .unset]) d15_3 rfl rfl rfl
  have r888 := r887.aloadN (pc' := 5) d15_4 rfl rfl rfl
  have r889 := r888.iloadN (pc' := 6) d15_5 rfl rfl
  have r890 := r889.aloadN (pc' := 7) d15_6 rfl rfl rfl
  have r891 := r890.iconst (pc' := 8) (0 : Int32) d15_7 rfl rfl
  have r892 := r891.iloadN (pc' := 9) d15_8 rfl rfl
  obtain ⟨v895, h896, hq894, r893⟩ := r892.callS (pc' := 12) [(.ref ca), (.int (0 : Int32)), (.ref b878), (.int (0 : Int32)), (.int (3 : Int32))] (rest := []) 0 d15_9 (hw _ (List.mem_of_getElem? (i := 79) rfl)) (hw _ (List.mem_of_getElem? (i := 80) rfl)) (hw _ (List.mem_of_getElem? (i := 77) rfl)) (hw _ (List.mem_of_getElem? (i := 81) rfl)) (by decide) (u_c5_3 l Z a0 hw ca b878 x y z h878 n0 f882 f886 g880 (ne879) zp884) pd_20 rfl rfl rfl (Nat.le_of_ble_eq_true rfl) (by decide) (by decide) (k' := 1) (n' := 3) rfl rfl (by decide) (by decide) rfl
  obtain ⟨k, rfl, K5, Q5⟩ := hq894
  dsimp only [Option.toList, List.cons_append, List.nil_append] at r893
  have f897 := f882.keep K5 (ninS (ne879) nin0)
  have zp898 : n0 ≤ h896.size := Nat.le_trans zp884 K5.1
  have K899 := (K883).trans K5 (allS (Or.inr sz881) all0)
  have old900 := (old885).keep K5 (allS g880 all0)
  rcases Q5 with ⟨rfl, g5⟩ | ⟨rfl, g5⟩ | ⟨rfl, g5⟩ | ⟨rfl, gx, gy, gz, V5⟩
  · -- 0
    have r901 := r893.istore (pc' := 14) (L' := #[.val (.ref ca), .val (.int (0 : Int32)), .val (.int (3 : Int32)), .val (.ref b878), .val (.int (0 : Int32)), .unset]) d15_12 rfl rfl
    have r902 := r901.iload (pc' := 16) d15_14 rfl rfl
    have r903 := r902.iloadN (pc' := 17) d15_16 rfl rfl
    have r904 := r903.icF (pc' := 20) d15_17 (feq (by decide : ¬ (0 : Int32) = (3 : Int32))).1 rfl
    have r905 := r904.aloadN (pc' := 21) d15_20 rfl rfl rfl
    have r906 := r905.iloadN (pc' := 22) d15_21 rfl rfl
    have r907 := r906.iloadN (pc' := 23) d15_22 rfl rfl
    obtain ⟨v910, h911, hq909, r908⟩ := r907.callS (pc' := 26) [(.ref ca), (.int (0 : Int32)), (.int (3 : Int32))] (rest := []) 0 d15_23 (hw _ (List.mem_of_getElem? (i := 88) rfl)) (hw _ (List.mem_of_getElem? (i := 89) rfl)) (hw _ (List.mem_of_getElem? (i := 77) rfl)) (hw _ (List.mem_of_getElem? (i := 90) rfl)) (by decide) (u_tb3 l Z a0 hw ca x y z h896 n0 f897 zp898 cs vF SS old900) pd_18 rfl rfl rfl (Nat.le_of_ble_eq_true rfl) (by decide) (by decide) (k' := 2) (n' := 9) rfl rfl (by decide) (by decide) rfl
    obtain ⟨tb, rfl, VT, gt, KT⟩ := hq909
    dsimp only [Option.toList, List.cons_append, List.nil_append] at r908
    have gt0 : h0.size ≤ tb := Nat.le_trans (K899).1 gt
    have f912 := f897.keep KT nin0
    have zp913 : n0 ≤ h911.size := Nat.le_trans zp898 KT.1
    have K914 := (K899).trans KT all0
    have old915 := (old900).keep KT all0
    have r916 := r908.astore (pc' := 28) (L' := #[.val (.ref ca), .val (.int (0 : Int32)), .val (.int (3 : Int32)), .val (.ref b878), .val (.int (0 : Int32)), .val (.ref tb)]) d15_26 rfl rfl rfl
    have r917 := r916.aload (pc' := 30) d15_28 rfl rfl rfl
    have r918 := r917.iload (pc' := 32) d15_30 rfl rfl
    obtain ⟨v921, h922, hq920, r919⟩ := r918.callS (pc' := 35) [(.ref tb), (.int (0 : Int32))] (rest := []) 0 d15_32 (hw _ (List.mem_of_getElem? (i := 104) rfl)) (hw _ (List.mem_of_getElem? (i := 105) rfl)) (hw _ (List.mem_of_getElem? (i := 77) rfl)) (hw _ (List.mem_of_getElem? (i := 106) rfl)) (by decide) (u_get l Z a0 hw tb (0 : Int32) (6 : Int32) (0 : Int32) x _ h911 n0 VT (by decide) (by decide) (by decide) (by decide) (by decide) (chr1_at (F := [nar .byte ((x >>> ((0 : Int32) &&& 31)).toInt8.toInt32), nar .byte ((x >>> ((8 : Int32) &&& 31)).toInt8.toInt32), nar .byte ((y >>> ((0 : Int32) &&& 31)).toInt8.toInt32), nar .byte ((y >>> ((8 : Int32) &&& 31)).toInt8.toInt32), nar .byte ((z >>> ((0 : Int32) &&& 31)).toInt8.toInt32), nar .byte ((z >>> ((8 : Int32) &&& 31)).toInt8.toInt32)]) (k := 0) rfl rfl hx kx) cs vF SS old915) pd_15 rfl rfl rfl (Nat.le_of_ble_eq_true rfl) (by decide) (by decide) (k' := 2) (n' := 9) rfl rfl (by decide) (by decide) rfl
    obtain ⟨rfl, rfl⟩ := hq920
    dsimp only [Option.toList, List.cons_append, List.nil_append] at r919
    have r923 := r919.sipush (pc' := 38) (255 : Int32) d15_35 rfl rfl
    have r924 := r923.icT (pc' := 54) d15_38 (tlt g5).2.2.1 (by decide) (by decide)
    have r925 := r924.aload (pc' := 56) d15_54 rfl rfl rfl
    exact ⟨_, _, r925.retA d15_56 rfl rfl rfl (by decide) (by decide), ⟨tb, _, _, rfl, VT, gt0, K914, Or.inr ⟨rfl, rfl⟩⟩⟩
  · -- 1
    have r926 := r893.istore (pc' := 14) (L' := #[.val (.ref ca), .val (.int (0 : Int32)), .val (.int (3 : Int32)), .val (.ref b878), .val (.int (1 : Int32)), .unset]) d15_12 rfl rfl
    have r927 := r926.iload (pc' := 16) d15_14 rfl rfl
    have r928 := r927.iloadN (pc' := 17) d15_16 rfl rfl
    have r929 := r928.icF (pc' := 20) d15_17 (feq (by decide : ¬ (1 : Int32) = (3 : Int32))).1 rfl
    have r930 := r929.aloadN (pc' := 21) d15_20 rfl rfl rfl
    have r931 := r930.iloadN (pc' := 22) d15_21 rfl rfl
    have r932 := r931.iloadN (pc' := 23) d15_22 rfl rfl
    obtain ⟨v935, h936, hq934, r933⟩ := r932.callS (pc' := 26) [(.ref ca), (.int (0 : Int32)), (.int (3 : Int32))] (rest := []) 0 d15_23 (hw _ (List.mem_of_getElem? (i := 88) rfl)) (hw _ (List.mem_of_getElem? (i := 89) rfl)) (hw _ (List.mem_of_getElem? (i := 77) rfl)) (hw _ (List.mem_of_getElem? (i := 90) rfl)) (by decide) (u_tb3 l Z a0 hw ca x y z h896 n0 f897 zp898 cs vF SS old900) pd_18 rfl rfl rfl (Nat.le_of_ble_eq_true rfl) (by decide) (by decide) (k' := 2) (n' := 9) rfl rfl (by decide) (by decide) rfl
    obtain ⟨tb, rfl, VT, gt, KT⟩ := hq934
    dsimp only [Option.toList, List.cons_append, List.nil_append] at r933
    have gt0 : h0.size ≤ tb := Nat.le_trans (K899).1 gt
    have f937 := f897.keep KT nin0
    have zp938 : n0 ≤ h936.size := Nat.le_trans zp898 KT.1
    have K939 := (K899).trans KT all0
    have old940 := (old900).keep KT all0
    have r941 := r933.astore (pc' := 28) (L' := #[.val (.ref ca), .val (.int (0 : Int32)), .val (.int (3 : Int32)), .val (.ref b878), .val (.int (1 : Int32)), .val (.ref tb)]) d15_26 rfl rfl rfl
    have r942 := r941.aload (pc' := 30) d15_28 rfl rfl rfl
    have r943 := r942.iload (pc' := 32) d15_30 rfl rfl
    obtain ⟨v946, h947, hq945, r944⟩ := r943.callS (pc' := 35) [(.ref tb), (.int (1 : Int32))] (rest := []) 0 d15_32 (hw _ (List.mem_of_getElem? (i := 104) rfl)) (hw _ (List.mem_of_getElem? (i := 105) rfl)) (hw _ (List.mem_of_getElem? (i := 77) rfl)) (hw _ (List.mem_of_getElem? (i := 106) rfl)) (by decide) (u_get l Z a0 hw tb (1 : Int32) (6 : Int32) (2 : Int32) y _ h936 n0 VT (by decide) (by decide) (by decide) (by decide) (by decide) (chr1_at (F := [nar .byte ((x >>> ((0 : Int32) &&& 31)).toInt8.toInt32), nar .byte ((x >>> ((8 : Int32) &&& 31)).toInt8.toInt32), nar .byte ((y >>> ((0 : Int32) &&& 31)).toInt8.toInt32), nar .byte ((y >>> ((8 : Int32) &&& 31)).toInt8.toInt32), nar .byte ((z >>> ((0 : Int32) &&& 31)).toInt8.toInt32), nar .byte ((z >>> ((8 : Int32) &&& 31)).toInt8.toInt32)]) (k := 1) rfl rfl hy ky) cs vF SS old940) pd_15 rfl rfl rfl (Nat.le_of_ble_eq_true rfl) (by decide) (by decide) (k' := 2) (n' := 9) rfl rfl (by decide) (by decide) rfl
    obtain ⟨rfl, rfl⟩ := hq945
    dsimp only [Option.toList, List.cons_append, List.nil_append] at r944
    have r948 := r944.sipush (pc' := 38) (255 : Int32) d15_35 rfl rfl
    have r949 := r948.icT (pc' := 54) d15_38 (tlt g5).2.2.1 (by decide) (by decide)
    have r950 := r949.aload (pc' := 56) d15_54 rfl rfl rfl
    exact ⟨_, _, r950.retA d15_56 rfl rfl rfl (by decide) (by decide), ⟨tb, _, _, rfl, VT, gt0, K939, Or.inr ⟨rfl, rfl⟩⟩⟩
  · -- 2
    have r951 := r893.istore (pc' := 14) (L' := #[.val (.ref ca), .val (.int (0 : Int32)), .val (.int (3 : Int32)), .val (.ref b878), .val (.int (2 : Int32)), .unset]) d15_12 rfl rfl
    have r952 := r951.iload (pc' := 16) d15_14 rfl rfl
    have r953 := r952.iloadN (pc' := 17) d15_16 rfl rfl
    have r954 := r953.icF (pc' := 20) d15_17 (feq (by decide : ¬ (2 : Int32) = (3 : Int32))).1 rfl
    have r955 := r954.aloadN (pc' := 21) d15_20 rfl rfl rfl
    have r956 := r955.iloadN (pc' := 22) d15_21 rfl rfl
    have r957 := r956.iloadN (pc' := 23) d15_22 rfl rfl
    obtain ⟨v960, h961, hq959, r958⟩ := r957.callS (pc' := 26) [(.ref ca), (.int (0 : Int32)), (.int (3 : Int32))] (rest := []) 0 d15_23 (hw _ (List.mem_of_getElem? (i := 88) rfl)) (hw _ (List.mem_of_getElem? (i := 89) rfl)) (hw _ (List.mem_of_getElem? (i := 77) rfl)) (hw _ (List.mem_of_getElem? (i := 90) rfl)) (by decide) (u_tb3 l Z a0 hw ca x y z h896 n0 f897 zp898 cs vF SS old900) pd_18 rfl rfl rfl (Nat.le_of_ble_eq_true rfl) (by decide) (by decide) (k' := 2) (n' := 9) rfl rfl (by decide) (by decide) rfl
    obtain ⟨tb, rfl, VT, gt, KT⟩ := hq959
    dsimp only [Option.toList, List.cons_append, List.nil_append] at r958
    have gt0 : h0.size ≤ tb := Nat.le_trans (K899).1 gt
    have f962 := f897.keep KT nin0
    have zp963 : n0 ≤ h961.size := Nat.le_trans zp898 KT.1
    have K964 := (K899).trans KT all0
    have old965 := (old900).keep KT all0
    have r966 := r958.astore (pc' := 28) (L' := #[.val (.ref ca), .val (.int (0 : Int32)), .val (.int (3 : Int32)), .val (.ref b878), .val (.int (2 : Int32)), .val (.ref tb)]) d15_26 rfl rfl rfl
    have r967 := r966.aload (pc' := 30) d15_28 rfl rfl rfl
    have r968 := r967.iload (pc' := 32) d15_30 rfl rfl
    obtain ⟨v971, h972, hq970, r969⟩ := r968.callS (pc' := 35) [(.ref tb), (.int (2 : Int32))] (rest := []) 0 d15_32 (hw _ (List.mem_of_getElem? (i := 104) rfl)) (hw _ (List.mem_of_getElem? (i := 105) rfl)) (hw _ (List.mem_of_getElem? (i := 77) rfl)) (hw _ (List.mem_of_getElem? (i := 106) rfl)) (by decide) (u_get l Z a0 hw tb (2 : Int32) (6 : Int32) (4 : Int32) z _ h961 n0 VT (by decide) (by decide) (by decide) (by decide) (by decide) (chr1_at (F := [nar .byte ((x >>> ((0 : Int32) &&& 31)).toInt8.toInt32), nar .byte ((x >>> ((8 : Int32) &&& 31)).toInt8.toInt32), nar .byte ((y >>> ((0 : Int32) &&& 31)).toInt8.toInt32), nar .byte ((y >>> ((8 : Int32) &&& 31)).toInt8.toInt32), nar .byte ((z >>> ((0 : Int32) &&& 31)).toInt8.toInt32), nar .byte ((z >>> ((8 : Int32) &&& 31)).toInt8.toInt32)]) (k := 2) rfl rfl hz kz) cs vF SS old965) pd_15 rfl rfl rfl (Nat.le_of_ble_eq_true rfl) (by decide) (by decide) (k' := 2) (n' := 9) rfl rfl (by decide) (by decide) rfl
    obtain ⟨rfl, rfl⟩ := hq970
    dsimp only [Option.toList, List.cons_append, List.nil_append] at r969
    have r973 := r969.sipush (pc' := 38) (255 : Int32) d15_35 rfl rfl
    have r974 := r973.icT (pc' := 54) d15_38 (tlt g5).2.2.1 (by decide) (by decide)
    have r975 := r974.aload (pc' := 56) d15_54 rfl rfl rfl
    exact ⟨_, _, r975.retA d15_56 rfl rfl rfl (by decide) (by decide), ⟨tb, _, _, rfl, VT, gt0, K964, Or.inr ⟨rfl, rfl⟩⟩⟩
  · -- 3
    have r976 := r893.istore (pc' := 14) (L' := #[.val (.ref ca), .val (.int (0 : Int32)), .val (.int (3 : Int32)), .val (.ref b878), .val (.int (3 : Int32)), .unset]) d15_12 rfl rfl
    have r977 := r976.iload (pc' := 16) d15_14 rfl rfl
    have r978 := r977.iloadN (pc' := 17) d15_16 rfl rfl
    have r979 := r978.icT (pc' := 57) d15_17 (teq (by decide : (3 : Int32) = (3 : Int32))).1 (by decide) (by decide)
    have r980 := r979.aloadN (pc' := 58) d15_57 rfl rfl rfl
    exact ⟨_, _, r980.retA d15_58 rfl rfl rfl (by decide) (by decide), ⟨b878, _, _, rfl, V5, sz881, K899, Or.inl ⟨rfl, rfl, gx, gy, gz⟩⟩⟩
set_option maxRecDepth 65536 in
set_option maxHeartbeats 40000000 in
theorem s_n4_3 (l : Launch) (Z : State) (a0 : Array Value) (hw : ∀ d ∈ tables_1, d.before a0 Z = true) (a ca : Addr) (x y z : Int32) (h0 : Heap) (n0 : Nat) (EX : Exa Z h0 a "java/lang/String") (FC : Fld Z h0 a "java/lang/String" "coder" "B" (.int (0 : Int32))) (FV : Fld Z h0 a "java/lang/String" "value" "[B" .null) (VC : ArC Z h0 ca (3 : Int32) [x, y, z]) (ga : n0 ≤ a) (nea : ca ≠ a) (Z0 : n0 ≤ h0.size) (hx : ¬ x < 0) (kx : ¬ 65535 < x) (hy : ¬ y < 0) (ky : ¬ 65535 < y) (hz : ¬ z < 0) (kz : ¬ 65535 < z) (cs : Int32) (vF : Value) (SS : Stt Z cs vF) (O0 : Old Z n0 h0) :
    Ctr l Z (⟨"java/lang/String", "<init>", "([CIILjava/lang/Void;)V"⟩ : MethodName) jdk_42_method_149_code 6 none ({ frames := 4, cells := 2, slots := 9, locals := 57 } : Room) #[(.ref a), (.ref ca), (.int (0 : Int32)), (.int (3 : Int32)), .null] h0 n0 (fun v h => v = none ∧ (∃ (b : Addr) (cd b2 : Int32) (F : List Int32) (cF : Nat → Int32), Str Z h a b cd b2 F ∧ ChF cd b2 F (3 : Int32) cF ∧ h0.size ≤ b ∧ cF 0 = x ∧ cF 1 = y ∧ cF 2 = z) ∧ Keep h0 h [a]) := by
  refine ent (plainFor_of_name pn_java_lang_String) (L0 := #[.val (.ref a), .val (.ref ca), .val (.int (0 : Int32)), .val (.int (3 : Int32)), .val .null, .unset]) (fun m => by first | (simp [entryFrame, mkF, argsToLocals, Value.category]; done) | rfl) ?_
  intro p e s m below meth c T0 r0
  have r981 := r0.aloadN (pc' := 1) d3_0 rfl rfl rfl
  have r982 := r981.initO (pc' := 4) 0 d3_1 (hw _ (List.mem_of_getElem? (i := 17) rfl)) (hw _ (List.mem_of_getElem? (i := 18) rfl)) (hw _ (List.mem_of_getElem? (i := 19) rfl)) rfl (by decide) (Nat.le_of_ble_eq_true rfl) (by decide) rfl
  have r983 := r982.iloadN (pc' := 5) d3_4 rfl rfl
  have r984 := r983.ifT (pc' := 27) d3_5 (feq (by decide : ¬ (3 : Int32) = (0 : Int32))).2 (by decide) (by decide)
  have r985 := r984.getS (host := "") (pc' := 30) d3_27 (Or.inl (hw _ (List.mem_of_getElem? (i := 49) rfl))) Via.refl (SS.1.1.ext (O0).2) rfl
  have r986 := r985.ifF (pc' := 33) d3_30 (feq SS.1.2).1 rfl
  have r987 := r986.aloadN (pc' := 34) d3_33 rfl rfl rfl
  have r988 := r987.iloadN (pc' := 35) d3_34 rfl rfl
  have r989 := r988.iloadN (pc' := 36) d3_35 rfl rfl
  have nab : a < h0.size := EX.lt
  obtain ⟨v992, h993, hq991, r990⟩ := r989.callS (pc' := 39) [(.ref ca), (.int (0 : Int32)), (.int (3 : Int32))] (rest := []) 0 d3_36 (hw _ (List.mem_of_getElem? (i := 75) rfl)) (hw _ (List.mem_of_getElem? (i := 76) rfl)) (hw _ (List.mem_of_getElem? (i := 77) rfl)) (hw _ (List.mem_of_getElem? (i := 78) rfl)) (by decide) (u_c3_3 l Z a0 hw ca x y z h0 n0 hx kx hy ky hz kz VC Z0 cs vF SS O0) pd_18 rfl rfl rfl (Nat.le_of_ble_eq_true rfl) (by decide) (by decide) (k' := 2) (n' := 9) rfl rfl (by decide) (by decide) rfl
  obtain ⟨b, b2, F, rfl, VB, gb, K3, Q3⟩ := hq991
  dsimp only [Option.toList, List.cons_append, List.nil_append] at r990
  have f994 := EX.keep K3
  have f995 := FC.keep K3 nin0
  have f996 := FV.keep K3 nin0
  have f997 := VC.keep K3 nin0
  have zp998 : n0 ≤ h993.size := Nat.le_trans Z0 K3.1
  have K999 := ((Keep.refl h0 [a])).trans K3 all0
  have old1000 := (O0).keep K3 all0
  have neb : b ≠ a := fun q => absurd nab (Nat.not_lt.mpr (q ▸ gb))
  rcases Q3 with ⟨rfl, rfl, gx, gy, gz⟩ | ⟨rfl, rfl⟩
  · -- 0
    have r1001 := r990.astore (pc' := 41) (L' := #[.val (.ref a), .val (.ref ca), .val (.int (0 : Int32)), .val (.int (3 : Int32)), .val .null, .val (.ref b)]) d3_39 rfl rfl rfl
    have r1002 := r1001.aloadN (pc' := 42) d3_41 rfl rfl rfl
    have r1003 := r1002.aload (pc' := 44) d3_42 rfl rfl rfl
    have r1004 := r1003.iloadN (pc' := 45) d3_44 rfl rfl
    obtain ⟨v1007, h1008, hq1006, r1005⟩ := r1004.callS (pc' := 48) [(.ref b), (.int (3 : Int32))] (rest := [(.ref a)]) 1 d3_45 (hw _ (List.mem_of_getElem? (i := 82) rfl)) (hw _ (List.mem_of_getElem? (i := 83) rfl)) (hw _ (List.mem_of_getElem? (i := 77) rfl)) (hw _ (List.mem_of_getElem? (i := 84) rfl)) (by decide) (u_cod l Z a0 hw b (3 : Int32) (3 : Int32) (0 : Int32) _ h993 n0 VB (by decide)) pd_14 rfl rfl rfl (Nat.le_of_ble_eq_true rfl) (by decide) (by decide) (k' := 2) (n' := 9) rfl rfl (by decide) (by decide) rfl
    obtain ⟨rfl, rfl⟩ := hq1006
    dsimp only [Option.toList, List.cons_append, List.nil_append] at r1005
    obtain ⟨h1009, W1009, r1009⟩ := r1005.putF (host := "") (pc' := 51) d3_48 (Or.inl (hw _ (List.mem_of_getElem? (i := 27) rfl))) Via.refl f995 f994 (Or.inr ⟨(hw _ (List.mem_of_getElem? (i := 23) rfl)), rfl, rfl⟩) (hw _ (List.mem_of_getElem? (i := 7) rfl)) (ty := .byte) (by decide) rfl rfl ga rfl
    have f1010 := f994.wr W1009
    have f1011 := f995.same W1009
    have f1012 := f996.other W1009 (Or.inr (slot_ne (Or.inr (hw _ (List.mem_of_getElem? (i := 22) rfl))) (Or.inr (hw _ (List.mem_of_getElem? (i := 23) rfl))) (by decide) (t := (.array .byte)) (t' := .byte) (by decide) (by decide)))
    have f1013 := f997.other W1009 (nea)
    have f1014 := VB.other W1009 (neb)
    have K1015 := (K999).wr W1009 (Or.inl (by simp))
    have old1016 := (old1000).wr W1009 ga
    have zp1017 : n0 ≤ h1009.size := Nat.le_trans zp998 (Nat.le_of_eq W1009.size.symm)
    have r1018 := r1009.aloadN (pc' := 52) d3_51 rfl rfl rfl
    have r1019 := r1018.aload (pc' := 54) d3_52 rfl rfl rfl
    obtain ⟨h1020, W1020, r1020⟩ := r1019.putF (host := "") (pc' := 57) d3_54 (Or.inl (hw _ (List.mem_of_getElem? (i := 26) rfl))) Via.refl f1012 f1010 (Or.inr ⟨(hw _ (List.mem_of_getElem? (i := 22) rfl)), rfl, rfl⟩) (hw _ (List.mem_of_getElem? (i := 7) rfl)) (ty := (.array .byte)) (by decide) rfl rfl ga rfl
    have f1021 := f1010.wr W1020
    have f1022 := f1011.other W1020 (Or.inr (slot_ne (Or.inr (hw _ (List.mem_of_getElem? (i := 23) rfl))) (Or.inr (hw _ (List.mem_of_getElem? (i := 22) rfl))) (by decide) (t := .byte) (t' := (.array .byte)) (by decide) (by decide)))
    have f1023 := f1012.same W1020
    have f1024 := f1013.other W1020 (nea)
    have f1025 := f1014.other W1020 (neb)
    have K1026 := (K1015).wr W1020 (Or.inl (by simp))
    have old1027 := (old1016).wr W1020 ga
    have zp1028 : n0 ≤ h1020.size := Nat.le_trans zp1017 (Nat.le_of_eq W1020.size.symm)
    exact ⟨_, _, r1020.retV d3_57 rfl (by decide) (by decide), ⟨rfl, ⟨b, (0 : Int32), _, _, chr0 [nar .byte (x.toInt8.toInt32), nar .byte (y.toInt8.toInt32), nar .byte (z.toInt8.toInt32)], ⟨f1021, f1022, f1023, f1025⟩, Or.inl ⟨rfl, rfl, rfl⟩, gb, chr0_at (k := 0) rfl hx gx, chr0_at (k := 1) rfl hy gy, chr0_at (k := 2) rfl hz gz⟩, K1026⟩⟩
  · -- 1
    have r1029 := r990.astore (pc' := 41) (L' := #[.val (.ref a), .val (.ref ca), .val (.int (0 : Int32)), .val (.int (3 : Int32)), .val .null, .val (.ref b)]) d3_39 rfl rfl rfl
    have r1030 := r1029.aloadN (pc' := 42) d3_41 rfl rfl rfl
    have r1031 := r1030.aload (pc' := 44) d3_42 rfl rfl rfl
    have r1032 := r1031.iloadN (pc' := 45) d3_44 rfl rfl
    obtain ⟨v1035, h1036, hq1034, r1033⟩ := r1032.callS (pc' := 48) [(.ref b), (.int (3 : Int32))] (rest := [(.ref a)]) 1 d3_45 (hw _ (List.mem_of_getElem? (i := 82) rfl)) (hw _ (List.mem_of_getElem? (i := 83) rfl)) (hw _ (List.mem_of_getElem? (i := 77) rfl)) (hw _ (List.mem_of_getElem? (i := 84) rfl)) (by decide) (u_cod l Z a0 hw b (3 : Int32) (6 : Int32) (1 : Int32) _ h993 n0 VB (by decide)) pd_14 rfl rfl rfl (Nat.le_of_ble_eq_true rfl) (by decide) (by decide) (k' := 2) (n' := 9) rfl rfl (by decide) (by decide) rfl
    obtain ⟨rfl, rfl⟩ := hq1034
    dsimp only [Option.toList, List.cons_append, List.nil_append] at r1033
    obtain ⟨h1037, W1037, r1037⟩ := r1033.putF (host := "") (pc' := 51) d3_48 (Or.inl (hw _ (List.mem_of_getElem? (i := 27) rfl))) Via.refl f995 f994 (Or.inr ⟨(hw _ (List.mem_of_getElem? (i := 23) rfl)), rfl, rfl⟩) (hw _ (List.mem_of_getElem? (i := 7) rfl)) (ty := .byte) (by decide) rfl rfl ga rfl
    have f1038 := f994.wr W1037
    have f1039 := f995.same W1037
    have f1040 := f996.other W1037 (Or.inr (slot_ne (Or.inr (hw _ (List.mem_of_getElem? (i := 22) rfl))) (Or.inr (hw _ (List.mem_of_getElem? (i := 23) rfl))) (by decide) (t := (.array .byte)) (t' := .byte) (by decide) (by decide)))
    have f1041 := f997.other W1037 (nea)
    have f1042 := VB.other W1037 (neb)
    have K1043 := (K999).wr W1037 (Or.inl (by simp))
    have old1044 := (old1000).wr W1037 ga
    have zp1045 : n0 ≤ h1037.size := Nat.le_trans zp998 (Nat.le_of_eq W1037.size.symm)
    have r1046 := r1037.aloadN (pc' := 52) d3_51 rfl rfl rfl
    have r1047 := r1046.aload (pc' := 54) d3_52 rfl rfl rfl
    obtain ⟨h1048, W1048, r1048⟩ := r1047.putF (host := "") (pc' := 57) d3_54 (Or.inl (hw _ (List.mem_of_getElem? (i := 26) rfl))) Via.refl f1040 f1038 (Or.inr ⟨(hw _ (List.mem_of_getElem? (i := 22) rfl)), rfl, rfl⟩) (hw _ (List.mem_of_getElem? (i := 7) rfl)) (ty := (.array .byte)) (by decide) rfl rfl ga rfl
    have f1049 := f1038.wr W1048
    have f1050 := f1039.other W1048 (Or.inr (slot_ne (Or.inr (hw _ (List.mem_of_getElem? (i := 23) rfl))) (Or.inr (hw _ (List.mem_of_getElem? (i := 22) rfl))) (by decide) (t := .byte) (t' := (.array .byte)) (by decide) (by decide)))
    have f1051 := f1040.same W1048
    have f1052 := f1041.other W1048 (nea)
    have f1053 := f1042.other W1048 (neb)
    have K1054 := (K1043).wr W1048 (Or.inl (by simp))
    have old1055 := (old1044).wr W1048 ga
    have zp1056 : n0 ≤ h1048.size := Nat.le_trans zp1045 (Nat.le_of_eq W1048.size.symm)
    exact ⟨_, _, r1048.retV d3_57 rfl (by decide) (by decide), ⟨rfl, ⟨b, (1 : Int32), _, _, chr1 [nar .byte ((x >>> ((0 : Int32) &&& 31)).toInt8.toInt32), nar .byte ((x >>> ((8 : Int32) &&& 31)).toInt8.toInt32), nar .byte ((y >>> ((0 : Int32) &&& 31)).toInt8.toInt32), nar .byte ((y >>> ((8 : Int32) &&& 31)).toInt8.toInt32), nar .byte ((z >>> ((0 : Int32) &&& 31)).toInt8.toInt32), nar .byte ((z >>> ((8 : Int32) &&& 31)).toInt8.toInt32)], ⟨f1049, f1050, f1051, f1053⟩, Or.inr ⟨rfl, by decide, rfl⟩, gb, chr1_at (k := 0) rfl rfl hx kx, chr1_at (k := 1) rfl rfl hy ky, chr1_at (k := 2) rfl rfl hz kz⟩, K1054⟩⟩
set_option maxRecDepth 65536 in
set_option maxHeartbeats 40000000 in
theorem s_n1_3 (l : Launch) (Z : State) (a0 : Array Value) (hw : ∀ d ∈ tables_1, d.before a0 Z = true) (a ca : Addr) (x y z : Int32) (h0 : Heap) (n0 : Nat) (EX : Exa Z h0 a "java/lang/String") (FC : Fld Z h0 a "java/lang/String" "coder" "B" (.int (0 : Int32))) (FV : Fld Z h0 a "java/lang/String" "value" "[B" .null) (VC : ArC Z h0 ca (3 : Int32) [x, y, z]) (ga : n0 ≤ a) (nea : ca ≠ a) (Z0 : n0 ≤ h0.size) (hx : ¬ x < 0) (kx : ¬ 65535 < x) (hy : ¬ y < 0) (ky : ¬ 65535 < y) (hz : ¬ z < 0) (kz : ¬ 65535 < z) (cs : Int32) (vF : Value) (SS : Stt Z cs vF) (O0 : Old Z n0 h0) :
    Ctr l Z (⟨"java/lang/String", "<init>", "([C)V"⟩ : MethodName) jdk_42_method_3_code 2 none ({ frames := 5, cells := 2, slots := 9, locals := 74 } : Room) #[(.ref a), (.ref ca)] h0 n0 (fun v h => v = none ∧ (∃ (b : Addr) (cd b2 : Int32) (F : List Int32) (cF : Nat → Int32), Str Z h a b cd b2 F ∧ ChF cd b2 F (3 : Int32) cF ∧ h0.size ≤ b ∧ cF 0 = x ∧ cF 1 = y ∧ cF 2 = z) ∧ Keep h0 h [a]) := by
  refine ent (plainFor_of_name pn_java_lang_String) (L0 := #[.val (.ref a), .val (.ref ca)]) (fun m => by first | (simp [entryFrame, mkF, argsToLocals, Value.category]; done) | rfl) ?_
  intro p e s m below meth c T0 r0
  have r1057 := r0.aloadN (pc' := 1) d2_0 rfl rfl rfl
  have r1058 := r1057.aloadN (pc' := 2) d2_1 rfl rfl rfl
  have r1059 := r1058.iconst (pc' := 3) (0 : Int32) d2_2 rfl rfl
  have r1060 := r1059.aloadN (pc' := 4) d2_3 rfl rfl rfl
  have r1061 := r1060.lenC (pc' := 5) d2_4 VC rfl
  have r1062 := r1061.anull (pc' := 6) d2_5 rfl
  obtain ⟨v1065, h1066, hq1064, r1063⟩ := r1062.callC (pc' := 9) (a := a) [(.ref ca), (.int (0 : Int32)), (.int (3 : Int32)), .null] (rest := []) 0 d2_6 rfl (hw _ (List.mem_of_getElem? (i := 13) rfl)) (hw _ (List.mem_of_getElem? (i := 14) rfl)) (hw _ (List.mem_of_getElem? (i := 8) rfl)) (hw _ (List.mem_of_getElem? (i := 16) rfl)) (by decide) (s_n4_3 l Z a0 hw a ca x y z h0 n0 EX FC FV VC ga nea Z0 hx kx hy ky hz kz cs vF SS O0) pd_19 rfl rfl rfl (Nat.le_of_ble_eq_true rfl) (by decide) (by decide) (k' := 2) (n' := 9) rfl rfl (by decide) (by decide) rfl
  obtain ⟨rfl, Q4, K4⟩ := hq1064
  dsimp only [Option.toList, List.cons_append, List.nil_append] at r1063
  exact ⟨_, _, r1063.retV d2_9 rfl (by decide) (by decide), ⟨rfl, Q4, K4⟩⟩
abbrev EL1 : List (String × Nat) := consts_1
theorem wS1 {Z : State} {a0 : Array Value} (hw : ∀ d ∈ tables_1, d.before a0 Z = true) : ∀ a ∈ Bundle.stringAtoms, a.before a0 Z = true := by
  intro a ha
  simp only [Bundle.stringAtoms, List.mem_cons, List.not_mem_nil, or_false] at ha
  rcases ha with rfl | rfl | rfl | rfl | rfl | rfl | rfl
  · exact (hw _ (List.mem_of_getElem? (i := 8) rfl))
  · exact (hw _ (List.mem_of_getElem? (i := 7) rfl))
  · exact (hw _ (List.mem_of_getElem? (i := 21) rfl))
  · exact (hw _ (List.mem_of_getElem? (i := 22) rfl))
  · exact (hw _ (List.mem_of_getElem? (i := 23) rfl))
  · exact (hw _ (List.mem_of_getElem? (i := 24) rfl))
  · exact (hw _ (List.mem_of_getElem? (i := 25) rfl))
theorem ew1 {Z : State} {a0 : Array Value} (hw : ∀ d ∈ tables_1, d.before a0 Z = true) : EW Z a0 EL1 := (EW.cons (hw _ (List.mem_of_getElem? (i := 28) rfl)) (by decide) (EW.cons (hw _ (List.mem_of_getElem? (i := 29) rfl)) (by decide) (EW.cons (hw _ (List.mem_of_getElem? (i := 20) rfl)) (by decide) EW.nil)))
theorem d3_8 : decode jdk_42_method_149_code 8 = .ok (.aload_n 0, 1) := by decide +kernel
theorem d3_9 : decode jdk_42_method_149_code 9 = .ok (.ldc 7, 2) := by decide +kernel
theorem d3_11 : decode jdk_42_method_149_code 11 = .ok (.getfield 9, 3) := by decide +kernel
theorem d3_14 : decode jdk_42_method_149_code 14 = .ok (.putfield 9, 3) := by decide +kernel
theorem d3_17 : decode jdk_42_method_149_code 17 = .ok (.aload_n 0, 1) := by decide +kernel
theorem d3_18 : decode jdk_42_method_149_code 18 = .ok (.ldc 7, 2) := by decide +kernel
theorem d3_20 : decode jdk_42_method_149_code 20 = .ok (.getfield 15, 3) := by decide +kernel
theorem d3_23 : decode jdk_42_method_149_code 23 = .ok (.putfield 15, 3) := by decide +kernel
theorem d3_26 : decode jdk_42_method_149_code 26 = .ok (.return_, 1) := by decide +kernel
set_option maxRecDepth 65536 in
set_option maxHeartbeats 40000000 in
theorem s_n4_0 (l : Launch) (Z : State) (a0 : Array Value) (hw : ∀ d ∈ tables_1, d.before a0 Z = true) (a ca : Addr) (h0 : Heap) (n0 : Nat) (EX : Exa Z h0 a "java/lang/String") (FC : Fld Z h0 a "java/lang/String" "coder" "B" (.int (0 : Int32))) (FV : Fld Z h0 a "java/lang/String" "value" "[B" .null) (ga : n0 ≤ a) (Z0 : n0 ≤ h0.size) :
    CtrW l Z EL1 (⟨"java/lang/String", "<init>", "([CIILjava/lang/Void;)V"⟩ : MethodName) jdk_42_method_149_code 6 none ({ frames := 1, cells := 4, slots := 8, locals := 12 } : Room) #[(.ref a), (.ref ca), (.int (0 : Int32)), (.int (0 : Int32)), .null] h0 n0 (fun v h => v = none ∧ (∃ b : Addr, Str Z h a b (0 : Int32) (0 : Int32) []) ∧ Keep h0 h [a]) := by
  refine entW (plainFor_of_name pn_java_lang_String) (L0 := #[.val (.ref a), .val (.ref ca), .val (.int (0 : Int32)), .val (.int (0 : Int32)), .val .null, .unset]) (fun m => by first | (simp [entryFrame, mkF, argsToLocals, Value.category]; done) | rfl) (ew1 hw) ?_
  intro p e s m below meth c T0 r0 wd0
  have r1067 := r0.aloadN (pc' := 1) d3_0 rfl rfl rfl
  have r1068 := r1067.initO (pc' := 4) 0 d3_1 (hw _ (List.mem_of_getElem? (i := 17) rfl)) (hw _ (List.mem_of_getElem? (i := 18) rfl)) (hw _ (List.mem_of_getElem? (i := 19) rfl)) rfl (by decide) (Nat.le_of_ble_eq_true rfl) (by decide) rfl
  have r1069 := r1068.iloadN (pc' := 5) d3_4 rfl rfl
  have r1070 := r1069.ifF (pc' := 8) d3_5 (teq (by decide : (0 : Int32) = (0 : Int32))).2 rfl
  have r1071 := r1070.aloadN (pc' := 9) d3_8 rfl rfl rfl
  obtain ⟨sa1072, sb1072, kb1072, vm1072, h1072, E1072, wd1072, C1072, EX1072, FC1072, FV1072, V1072, ne1072, r1072⟩ := r1071.ldcS (pc' := 11) (vs := []) (z := (0 : Int32)) 0 wd0 d3_9 (hw _ (List.mem_of_getElem? (i := 20) rfl)) (wS1 hw) (ew1 hw) (List.mem_of_getElem? (i := 2) rfl) ⟨by decide, by decide +kernel⟩ (by decide) (by decide) (by decide) (by decide) (k' := 2) (n' := 4) rfl rfl (by decide) (by decide) rfl
  have f1073 := EX.ext E1072
  have f1074 := FC.ext E1072
  have f1075 := FV.ext E1072
  have K1076 := ((Keep.refl h0 [a])).ext E1072
  have zp1077 : n0 ≤ h1072.size := Nat.le_trans Z0 E1072.1
  have S1 := Safe.nul (EL := EL1) r1072.hal f1073 f1075
  have q1 := ne1072 a S1
  have VB : ArB Z h1072 sb1072 (0 : Int32) [] := ⟨kb1072, V1072⟩
  have r1078 := r1072.getF (host := "") (pc' := 14) d3_11 (Or.inl (hw _ (List.mem_of_getElem? (i := 26) rfl))) Via.refl FV1072 rfl
  obtain ⟨h1079, W1079, r1079⟩ := r1078.putF (host := "") (pc' := 17) d3_14 (Or.inl (hw _ (List.mem_of_getElem? (i := 26) rfl))) Via.refl f1075 f1073 (Or.inr ⟨(hw _ (List.mem_of_getElem? (i := 22) rfl)), rfl, rfl⟩) (hw _ (List.mem_of_getElem? (i := 7) rfl)) (ty := (.array .byte)) (by decide) rfl rfl ga rfl
  have f1080 := f1073.wr W1079
  have f1081 := f1074.other W1079 (Or.inr (slot_ne (Or.inr (hw _ (List.mem_of_getElem? (i := 23) rfl))) (Or.inr (hw _ (List.mem_of_getElem? (i := 22) rfl))) (by decide) (t := .byte) (t' := (.array .byte)) (by decide) (by decide)))
  have f1082 := f1075.same W1079
  have f1083 := VB.other W1079 (q1.2.symm)
  have K1084 := (K1076).wr W1079 (Or.inl (by simp))
  have zp1085 : n0 ≤ h1079.size := Nat.le_trans zp1077 (Nat.le_of_eq W1079.size.symm)
  have S2 := Safe.wr W1079 S1 wd1072.2.1 S1
  have wdA := wd1072.wr W1079 S1
  have lta := (f1080).lt
  have r1086 := r1079.aloadN (pc' := 18) d3_17 rfl rfl rfl
  obtain ⟨sa1087, sb1087, kb1087, vm1087, h1087, E1087, wd1087, C1087, EX1087, FC1087, FV1087, V1087, ne1087, r1087⟩ := r1086.ldcS (pc' := 20) (vs := []) (z := (0 : Int32)) 0 wdA d3_18 (hw _ (List.mem_of_getElem? (i := 20) rfl)) (wS1 hw) (ew1 hw) (List.mem_of_getElem? (i := 2) rfl) ⟨by decide, by decide +kernel⟩ (by decide) (by decide) (by decide) (by decide) (k' := 4) (n' := 8) rfl rfl (by decide) (by decide) rfl
  have f1088 := f1080.ext E1087
  have f1089 := f1081.ext E1087
  have f1090 := f1082.ext E1087
  have f1091 := f1083.ext E1087
  have K1092 := (K1084).ext E1087
  have zp1093 : n0 ≤ h1087.size := Nat.le_trans zp1085 E1087.1
  have S3 := C1087.safe lta S2
  have r1094 := r1087.getF (host := "") (pc' := 23) d3_20 (Or.inl (hw _ (List.mem_of_getElem? (i := 27) rfl))) Via.refl FC1087 rfl
  obtain ⟨h1095, W1095, r1095⟩ := r1094.putF (host := "") (pc' := 26) d3_23 (Or.inl (hw _ (List.mem_of_getElem? (i := 27) rfl))) Via.refl f1089 f1088 (Or.inr ⟨(hw _ (List.mem_of_getElem? (i := 23) rfl)), rfl, rfl⟩) (hw _ (List.mem_of_getElem? (i := 7) rfl)) (ty := .byte) (by decide) rfl rfl ga rfl
  have f1096 := f1088.wr W1095
  have f1097 := f1089.same W1095
  have f1098 := f1090.other W1095 (Or.inr (slot_ne (Or.inr (hw _ (List.mem_of_getElem? (i := 22) rfl))) (Or.inr (hw _ (List.mem_of_getElem? (i := 23) rfl))) (by decide) (t := (.array .byte)) (t' := .byte) (by decide) (by decide)))
  have f1099 := f1091.other W1095 (q1.2.symm)
  have K1100 := (K1092).wr W1095 (Or.inl (by simp))
  have zp1101 : n0 ≤ h1095.size := Nat.le_trans zp1093 (Nat.le_of_eq W1095.size.symm)
  have wdB := wd1087.wr W1095 S3
  exact ⟨_, _, Don.wide (r1095.retV d3_26 rfl (by decide) (by decide)) r1095 wdB, ⟨rfl, ⟨sb1072, f1096, f1097, f1098, f1099⟩, K1100⟩⟩
set_option maxRecDepth 65536 in
set_option maxHeartbeats 40000000 in
theorem s_n1_0 (l : Launch) (Z : State) (a0 : Array Value) (hw : ∀ d ∈ tables_1, d.before a0 Z = true) (a ca : Addr) (h0 : Heap) (n0 : Nat) (EX : Exa Z h0 a "java/lang/String") (FC : Fld Z h0 a "java/lang/String" "coder" "B" (.int (0 : Int32))) (FV : Fld Z h0 a "java/lang/String" "value" "[B" .null) (ga : n0 ≤ a) (Z0 : n0 ≤ h0.size) (VC : ArC Z h0 ca (0 : Int32) []) :
    CtrW l Z EL1 (⟨"java/lang/String", "<init>", "([C)V"⟩ : MethodName) jdk_42_method_3_code 2 none ({ frames := 2, cells := 4, slots := 8, locals := 29 } : Room) #[(.ref a), (.ref ca)] h0 n0 (fun v h => v = none ∧ (∃ b : Addr, Str Z h a b (0 : Int32) (0 : Int32) []) ∧ Keep h0 h [a]) := by
  refine entW (plainFor_of_name pn_java_lang_String) (L0 := #[.val (.ref a), .val (.ref ca)]) (fun m => by first | (simp [entryFrame, mkF, argsToLocals, Value.category]; done) | rfl) (ew1 hw) ?_
  intro p e s m below meth c T0 r0 wd0
  have r1102 := r0.aloadN (pc' := 1) d2_0 rfl rfl rfl
  have r1103 := r1102.aloadN (pc' := 2) d2_1 rfl rfl rfl
  have r1104 := r1103.iconst (pc' := 3) (0 : Int32) d2_2 rfl rfl
  have r1105 := r1104.aloadN (pc' := 4) d2_3 rfl rfl rfl
  have r1106 := r1105.lenC (pc' := 5) d2_4 VC rfl
  have r1107 := r1106.anull (pc' := 6) d2_5 rfl
  obtain ⟨v1108, vm1108, h1108, Q1108, wd1108, C1108, r1108⟩ := r1107.callCW (pc' := 9) (a := a) [(.ref ca), (.int (0 : Int32)), (.int (0 : Int32)), .null] (rest := []) 0 wd0 (ew1 hw) d2_6 rfl (hw _ (List.mem_of_getElem? (i := 13) rfl)) (hw _ (List.mem_of_getElem? (i := 14) rfl)) (hw _ (List.mem_of_getElem? (i := 8) rfl)) (hw _ (List.mem_of_getElem? (i := 16) rfl)) (by decide) (s_n4_0 l Z a0 hw a ca h0 n0 EX FC FV ga Z0) pd_19 rfl rfl rfl (Nat.le_of_ble_eq_true rfl) (by decide) (by decide) (k' := 4) (n' := 8) rfl rfl (by decide) (by decide) rfl
  obtain ⟨rfl, Q4, K4⟩ := Q1108
  dsimp only [Option.toList, List.cons_append, List.nil_append] at r1108
  exact ⟨_, _, Don.wide (r1108.retV d2_9 rfl (by decide) (by decide)) r1108 wd1108, ⟨rfl, Q4, K4⟩⟩
def okc (x : Int32) : Prop := (65 ≤ x.toInt ∧ x.toInt ≤ 90) ∨ (97 ≤ x.toInt ∧ x.toInt ≤ 122) ∨ (48 ≤ x.toInt ∧ x.toInt ≤ 57) ∨ x.toInt = 46 ∨ x.toInt = 95 ∨ x.toInt = 45
instance (x : Int32) : Decidable (okc x) := by unfold okc; exact inferInstance
def allF (c : Nat → Int32) : Nat → Nat → Bool
  | _, 0 => true
  | k, t + 1 => if okc (c k) then allF c (k + 1) t else false
def valF (c : Nat → Int32) (ln : Int32) : Int32 := if ln = 0 then 0 else if 64 < ln then 0 else if allF c 0 ln.toNatClampNeg = true then 1 else 0
theorem val1 (c : Nat → Int32) : valF c 1 = if allF c 0 1 = true then 1 else 0 := by unfold valF; rw [if_neg (by decide), if_neg (by decide)]; rfl
theorem val2 (c : Nat → Int32) : valF c 2 = if allF c 0 2 = true then 1 else 0 := by unfold valF; rw [if_neg (by decide), if_neg (by decide)]; rfl
theorem val3 (c : Nat → Int32) : valF c 3 = if allF c 0 3 = true then 1 else 0 := by unfold valF; rw [if_neg (by decide), if_neg (by decide)]; rfl
theorem or32 (n : Nat) : n ||| 32 = if n % 64 < 32 then n + 32 else n := by
  have h1 : (n ||| 32) % 64 = n % 64 ||| 32 := by
    have := Nat.or_mod_two_pow (a := n) (b := 32) (n := 6)
    simpa using this
  have h2 : (n ||| 32) / 64 = n / 64 := by
    have := Nat.or_div_two_pow (a := n) (b := 32) (n := 6)
    simpa using this
  have h3 : ∀ r : Fin 64, r.val ||| 32 = if r.val < 32 then r.val + 32 else r.val := by decide
  have h4 := h3 ⟨n % 64, Nat.mod_lt _ (by decide)⟩
  simp only at h4
  rw [h4] at h1
  split at h1 <;> split <;> omega
theorem toInt_nat {x : Int32} (h : x.toBitVec.toNat < 2147483648) : x.toInt = x.toBitVec.toNat := by
  have e : x.toInt = x.toBitVec.toInt := rfl
  rw [e, BitVec.toInt_eq_toNat_cond]
  split <;> omega
theorem or_says {x : Int32} (h0 : ¬ x < 0) (h1 : ¬ 65535 < x) : 0 ≤ x.toInt ∧ (x ||| (32 : Int32)).toInt = if x.toInt % 64 < 32 then x.toInt + 32 else x.toInt := by
  rw [Int32.lt_iff_toInt_lt] at h0 h1
  have e0 : (0 : Int32).toInt = 0 := rfl
  have e1 : (65535 : Int32).toInt = 65535 := rfl
  have hc : x.toInt = x.toBitVec.toNat := by
    have := x.toBitVec.isLt
    have e : x.toInt = x.toBitVec.toInt := rfl
    rw [e] at h0 h1 ⊢
    rw [BitVec.toInt_eq_toNat_cond] at h0 h1 ⊢
    split at h0 <;> split <;> omega
  have hn : x.toBitVec.toNat < 65536 := by omega
  have ho : (x ||| (32 : Int32)).toBitVec.toNat = x.toBitVec.toNat ||| 32 := by rw [Int32.toBitVec_or, BitVec.toNat_or]; rfl
  rw [or32] at ho
  have hb : (x ||| (32 : Int32)).toBitVec.toNat < 2147483648 := by rw [ho]; split <;> omega
  rw [toInt_nat hb, ho, hc]
  refine ⟨by omega, ?_⟩
  split <;> split <;> omega
theorem and3 (x : Int32) : x &&& 3 = 0 ∨ x &&& 3 = 1 ∨ x &&& 3 = 2 ∨ x &&& 3 = 3 := by
  have h : (x &&& 3).toBitVec.toNat = x.toBitVec.toNat % 4 := by
    rw [Int32.toBitVec_and, BitVec.toNat_and]
    exact Nat.and_two_pow_sub_one_eq_mod _ 2
  have hb : (x &&& 3).toBitVec.toNat < 2147483648 := by omega
  have hi := toInt_nat hb
  rw [← Int32.toInt_inj, ← Int32.toInt_inj, ← Int32.toInt_inj, ← Int32.toInt_inj]
  have e0 : (0 : Int32).toInt = 0 := rfl
  have e1 : (1 : Int32).toInt = 1 := rfl
  have e2 : (2 : Int32).toInt = 2 := rfl
  have e3 : (3 : Int32).toInt = 3 := rfl
  omega
theorem pn_com_example_hermod_hermod_model_NamesIsValidPinLaw : plainName "com/example/hermod/hermod/model/NamesIsValidPinLaw" = true := by first | (simp [plainName, overriddenIn]; done) | decide +kernel
theorem d1_0 : decode method_2_code 0 = .ok (.iload_n 0, 1) := by decide +kernel
theorem d1_1 : decode method_2_code 1 = .ok (.ldc 7, 2) := by decide +kernel
theorem d1_3 : decode method_2_code 3 = .ok (.iand, 1) := by decide +kernel
theorem d1_4 : decode method_2_code 4 = .ok (.ifCond .eq 9, 3) := by decide +kernel
theorem d1_13 : decode method_2_code 13 = .ok (.iload_n 0, 1) := by decide +kernel
theorem d1_14 : decode method_2_code 14 = .ok (.ldc 8, 2) := by decide +kernel
theorem d1_16 : decode method_2_code 16 = .ok (.iand, 1) := by decide +kernel
theorem d1_17 : decode method_2_code 17 = .ok (.i2c, 1) := by decide +kernel
theorem d1_18 : decode method_2_code 18 = .ok (.ireturn, 1) := by decide +kernel
theorem d1_7 : decode method_2_code 7 = .ok (.iload_n 0, 1) := by decide +kernel
theorem d1_8 : decode method_2_code 8 = .ok (.bipush 127, 2) := by decide +kernel
theorem d1_10 : decode method_2_code 10 = .ok (.iand, 1) := by decide +kernel
theorem d1_11 : decode method_2_code 11 = .ok (.i2c, 1) := by decide +kernel
theorem d1_12 : decode method_2_code 12 = .ok (.ireturn, 1) := by decide +kernel
set_option maxRecDepth 65536 in
set_option maxHeartbeats 40000000 in
theorem c_ch (l : Launch) (Z : State) (a0 : Array Value) (hw : ∀ d ∈ tables_1, d.before a0 Z = true) (x0 : Int32) (h0 : Heap) (n0 : Nat) :
    Ctr l Z (⟨"com/example/hermod/hermod/model/NamesIsValidPinLaw", "ch", "(I)C"⟩ : MethodName) method_2_code 1 (some .char) ({ frames := 0, cells := 0, slots := 0, locals := 0 } : Room) #[(.int x0)] h0 n0 (fun v h => ∃ u : Int32, v = some (.int u) ∧ (¬ u < 0 ∧ ¬ 65535 < u) ∧ h0 = h) := by
  refine ent (plainFor_of_name pn_com_example_hermod_hermod_model_NamesIsValidPinLaw) (L0 := #[.val (.int x0)]) (fun m => by first | (simp [entryFrame, mkF, argsToLocals, Value.category]; done) | rfl) ?_
  intro p e s m below meth c T0 r0
  have r1109 := r0.iloadN (pc' := 1) d1_0 rfl rfl
  have r1110 := r1109.ldc (pc' := 3) d1_1 (hw _ (List.mem_of_getElem? (i := 4) rfl)) rfl
  have r1111 := r1110.iand (pc' := 4) d1_3 rfl rfl
  by_cases hc1112 : (x0 &&& (65536 : Int32)) = (0 : Int32)
  · -- yes
    have r1113 := r1111.ifT (pc' := 13) d1_4 (teq hc1112).1 (by decide) (by decide)
    have r1114 := r1113.iloadN (pc' := 14) d1_13 rfl rfl
    have r1115 := r1114.ldc (pc' := 16) d1_14 (hw _ (List.mem_of_getElem? (i := 5) rfl)) rfl
    have r1116 := r1115.iand (pc' := 17) d1_16 rfl rfl
    have r1117 := r1116.i2c (pc' := 18) d1_17 rfl rfl
    exact ⟨_, _, r1117.retZ d1_18 rfl (t := .char) (by simp) (nar .char ((x0 &&& (65535 : Int32)).toUInt32.toUInt16.toUInt32.toInt32)) rfl (by decide) (by decide), ⟨_, rfl, nar_rng _, rfl⟩⟩
  · -- not no
    have r1118 := r1111.ifF (pc' := 7) d1_4 (feq hc1112).1 rfl
    have r1119 := r1118.iloadN (pc' := 8) d1_7 rfl rfl
    have r1120 := r1119.bipush (pc' := 10) (127 : Int32) d1_8 rfl rfl
    have r1121 := r1120.iand (pc' := 11) d1_10 rfl rfl
    have r1122 := r1121.i2c (pc' := 12) d1_11 rfl rfl
    exact ⟨_, _, r1122.retZ d1_12 rfl (t := .char) (by simp) (nar .char ((x0 &&& (127 : Int32)).toUInt32.toUInt16.toUInt32.toInt32)) rfl (by decide) (by decide), ⟨_, rfl, nar_rng _, rfl⟩⟩
theorem pn_com_example_hermod_hermod_model_Names : plainName "com/example/hermod/hermod/model/Names" = true := by first | (simp [plainName, overriddenIn]; done) | decide +kernel
theorem d14_0 : decode prog_12_method_3_code 0 = .ok (.iload_n 0, 1) := by decide +kernel
theorem d14_1 : decode prog_12_method_3_code 1 = .ok (.bipush 65, 2) := by decide +kernel
theorem d14_3 : decode prog_12_method_3_code 3 = .ok (.if_icmp .lt 9, 3) := by decide +kernel
theorem d14_12 : decode prog_12_method_3_code 12 = .ok (.iload_n 0, 1) := by decide +kernel
theorem d14_13 : decode prog_12_method_3_code 13 = .ok (.bipush 97, 2) := by decide +kernel
theorem d14_15 : decode prog_12_method_3_code 15 = .ok (.if_icmp .lt 9, 3) := by decide +kernel
theorem d14_24 : decode prog_12_method_3_code 24 = .ok (.iload_n 0, 1) := by decide +kernel
theorem d14_25 : decode prog_12_method_3_code 25 = .ok (.bipush 48, 2) := by decide +kernel
theorem d14_27 : decode prog_12_method_3_code 27 = .ok (.if_icmp .lt 9, 3) := by decide +kernel
theorem d14_36 : decode prog_12_method_3_code 36 = .ok (.iload_n 0, 1) := by decide +kernel
theorem d14_37 : decode prog_12_method_3_code 37 = .ok (.bipush 46, 2) := by decide +kernel
theorem d14_39 : decode prog_12_method_3_code 39 = .ok (.if_icmp .eq 15, 3) := by decide +kernel
theorem d14_54 : decode prog_12_method_3_code 54 = .ok (.iconst 1, 1) := by decide +kernel
theorem d14_55 : decode prog_12_method_3_code 55 = .ok (.goto 4, 3) := by decide +kernel
theorem d14_59 : decode prog_12_method_3_code 59 = .ok (.ireturn, 1) := by decide +kernel
theorem d14_42 : decode prog_12_method_3_code 42 = .ok (.iload_n 0, 1) := by decide +kernel
theorem d14_43 : decode prog_12_method_3_code 43 = .ok (.bipush 95, 2) := by decide +kernel
theorem d14_45 : decode prog_12_method_3_code 45 = .ok (.if_icmp .eq 9, 3) := by decide +kernel
theorem d14_48 : decode prog_12_method_3_code 48 = .ok (.iload_n 0, 1) := by decide +kernel
theorem d14_49 : decode prog_12_method_3_code 49 = .ok (.bipush 45, 2) := by decide +kernel
theorem d14_51 : decode prog_12_method_3_code 51 = .ok (.if_icmp .ne 7, 3) := by decide +kernel
theorem d14_58 : decode prog_12_method_3_code 58 = .ok (.iconst 0, 1) := by decide +kernel
theorem d14_30 : decode prog_12_method_3_code 30 = .ok (.iload_n 0, 1) := by decide +kernel
theorem d14_31 : decode prog_12_method_3_code 31 = .ok (.bipush 57, 2) := by decide +kernel
theorem d14_33 : decode prog_12_method_3_code 33 = .ok (.if_icmp .le 21, 3) := by decide +kernel
theorem d14_18 : decode prog_12_method_3_code 18 = .ok (.iload_n 0, 1) := by decide +kernel
theorem d14_19 : decode prog_12_method_3_code 19 = .ok (.bipush 122, 2) := by decide +kernel
theorem d14_21 : decode prog_12_method_3_code 21 = .ok (.if_icmp .le 33, 3) := by decide +kernel
theorem d14_6 : decode prog_12_method_3_code 6 = .ok (.iload_n 0, 1) := by decide +kernel
theorem d14_7 : decode prog_12_method_3_code 7 = .ok (.bipush 90, 2) := by decide +kernel
theorem d14_9 : decode prog_12_method_3_code 9 = .ok (.if_icmp .le 45, 3) := by decide +kernel
set_option maxRecDepth 65536 in
set_option maxHeartbeats 40000000 in
theorem c_nc (l : Launch) (Z : State) (a0 : Array Value) (hw : ∀ d ∈ tables_1, d.before a0 Z = true) (x0 : Int32) (h0 : Heap) (n0 : Nat) :
    Ctr l Z (⟨"com/example/hermod/hermod/model/Names", "isNameCharacter", "(C)Z"⟩ : MethodName) prog_12_method_3_code 1 (some .boolean) ({ frames := 0, cells := 0, slots := 0, locals := 0 } : Room) #[(.int x0)] h0 n0 (fun v h => v = some (.int (if okc x0 then (1 : Int32) else (0 : Int32))) ∧ h0 = h) := by
  refine ent (plainFor_of_name pn_com_example_hermod_hermod_model_Names) (L0 := #[.val (.int x0)]) (fun m => by first | (simp [entryFrame, mkF, argsToLocals, Value.category]; done) | rfl) ?_
  intro p e s m below meth c T0 r0
  have r1123 := r0.iloadN (pc' := 1) d14_0 rfl rfl
  have r1124 := r1123.bipush (pc' := 3) (65 : Int32) d14_1 rfl rfl
  by_cases hc1125 : x0 < (65 : Int32)
  · -- yes
    have r1126 := r1124.icT (pc' := 12) d14_3 (tlt hc1125).1 (by decide) (by decide)
    have r1127 := r1126.iloadN (pc' := 13) d14_12 rfl rfl
    have r1128 := r1127.bipush (pc' := 15) (97 : Int32) d14_13 rfl rfl
    by_cases hc1129 : x0 < (97 : Int32)
    · -- yes
      have r1130 := r1128.icT (pc' := 24) d14_15 (tlt hc1129).1 (by decide) (by decide)
      have r1131 := r1130.iloadN (pc' := 25) d14_24 rfl rfl
      have r1132 := r1131.bipush (pc' := 27) (48 : Int32) d14_25 rfl rfl
      by_cases hc1133 : x0 < (48 : Int32)
      · -- yes
        have r1134 := r1132.icT (pc' := 36) d14_27 (tlt hc1133).1 (by decide) (by decide)
        have r1135 := r1134.iloadN (pc' := 37) d14_36 rfl rfl
        have r1136 := r1135.bipush (pc' := 39) (46 : Int32) d14_37 rfl rfl
        by_cases hc1137 : x0 = (46 : Int32)
        · -- yes
          have r1138 := r1136.icT (pc' := 54) d14_39 (teq hc1137).1 (by decide) (by decide)
          have r1139 := r1138.iconst (pc' := 55) (1 : Int32) d14_54 rfl rfl
          have r1140 := r1139.goto (pc' := 59) d14_55 (by decide) (by decide)
          have hP : okc x0 := by
            simp only [Int32.lt_iff_toInt_lt, ← Int32.toInt_inj, Int32.reduceToInt] at hc1125 hc1129 hc1133 hc1137
            simp only [okc]; omega
          rw [if_pos hP]
          exact ⟨_, _, r1140.retZ d14_59 rfl (t := .boolean) (by simp) (1 : Int32) rfl (by decide) (by decide), ⟨rfl, rfl⟩⟩
        · -- not no
          have r1141 := r1136.icF (pc' := 42) d14_39 (feq hc1137).1 rfl
          have r1142 := r1141.iloadN (pc' := 43) d14_42 rfl rfl
          have r1143 := r1142.bipush (pc' := 45) (95 : Int32) d14_43 rfl rfl
          by_cases hc1144 : x0 = (95 : Int32)
          · -- yes
            have r1145 := r1143.icT (pc' := 54) d14_45 (teq hc1144).1 (by decide) (by decide)
            have r1146 := r1145.iconst (pc' := 55) (1 : Int32) d14_54 rfl rfl
            have r1147 := r1146.goto (pc' := 59) d14_55 (by decide) (by decide)
            have hP : okc x0 := by
              simp only [Int32.lt_iff_toInt_lt, ← Int32.toInt_inj, Int32.reduceToInt] at hc1125 hc1129 hc1133 hc1137 hc1144
              simp only [okc]; omega
            rw [if_pos hP]
            exact ⟨_, _, r1147.retZ d14_59 rfl (t := .boolean) (by simp) (1 : Int32) rfl (by decide) (by decide), ⟨rfl, rfl⟩⟩
          · -- not no
            have r1148 := r1143.icF (pc' := 48) d14_45 (feq hc1144).1 rfl
            have r1149 := r1148.iloadN (pc' := 49) d14_48 rfl rfl
            have r1150 := r1149.bipush (pc' := 51) (45 : Int32) d14_49 rfl rfl
            by_cases hc1151 : x0 = (45 : Int32)
            · -- yes
              have r1152 := r1150.icF (pc' := 54) d14_51 (teq hc1151).2 rfl
              have r1153 := r1152.iconst (pc' := 55) (1 : Int32) d14_54 rfl rfl
              have r1154 := r1153.goto (pc' := 59) d14_55 (by decide) (by decide)
              have hP : okc x0 := by
                simp only [Int32.lt_iff_toInt_lt, ← Int32.toInt_inj, Int32.reduceToInt] at hc1125 hc1129 hc1133 hc1137 hc1144 hc1151
                simp only [okc]; omega
              rw [if_pos hP]
              exact ⟨_, _, r1154.retZ d14_59 rfl (t := .boolean) (by simp) (1 : Int32) rfl (by decide) (by decide), ⟨rfl, rfl⟩⟩
            · -- not no
              have r1155 := r1150.icT (pc' := 58) d14_51 (feq hc1151).2 (by decide) (by decide)
              have r1156 := r1155.iconst (pc' := 59) (0 : Int32) d14_58 rfl rfl
              have hP : ¬ (okc x0) := by
                simp only [Int32.lt_iff_toInt_lt, ← Int32.toInt_inj, Int32.reduceToInt] at hc1125 hc1129 hc1133 hc1137 hc1144 hc1151
                simp only [okc]; omega
              rw [if_neg hP]
              exact ⟨_, _, r1156.retZ d14_59 rfl (t := .boolean) (by simp) (0 : Int32) rfl (by decide) (by decide), ⟨rfl, rfl⟩⟩
      · -- not no
        have r1157 := r1132.icF (pc' := 30) d14_27 (flt hc1133).1 rfl
        have r1158 := r1157.iloadN (pc' := 31) d14_30 rfl rfl
        have r1159 := r1158.bipush (pc' := 33) (57 : Int32) d14_31 rfl rfl
        by_cases hc1160 : (57 : Int32) < x0
        · -- yes
          have r1161 := r1159.icF (pc' := 36) d14_33 (tlt hc1160).2.2.2 rfl
          have r1162 := r1161.iloadN (pc' := 37) d14_36 rfl rfl
          have r1163 := r1162.bipush (pc' := 39) (46 : Int32) d14_37 rfl rfl
          by_cases hc1164 : x0 = (46 : Int32)
          · -- yes
            have r1165 := r1163.icT (pc' := 54) d14_39 (teq hc1164).1 (by decide) (by decide)
            have r1166 := r1165.iconst (pc' := 55) (1 : Int32) d14_54 rfl rfl
            have r1167 := r1166.goto (pc' := 59) d14_55 (by decide) (by decide)
            have hP : okc x0 := by
              simp only [Int32.lt_iff_toInt_lt, ← Int32.toInt_inj, Int32.reduceToInt] at hc1125 hc1129 hc1133 hc1160 hc1164
              simp only [okc]; omega
            rw [if_pos hP]
            exact ⟨_, _, r1167.retZ d14_59 rfl (t := .boolean) (by simp) (1 : Int32) rfl (by decide) (by decide), ⟨rfl, rfl⟩⟩
          · -- not no
            have r1168 := r1163.icF (pc' := 42) d14_39 (feq hc1164).1 rfl
            have r1169 := r1168.iloadN (pc' := 43) d14_42 rfl rfl
            have r1170 := r1169.bipush (pc' := 45) (95 : Int32) d14_43 rfl rfl
            by_cases hc1171 : x0 = (95 : Int32)
            · -- yes
              have r1172 := r1170.icT (pc' := 54) d14_45 (teq hc1171).1 (by decide) (by decide)
              have r1173 := r1172.iconst (pc' := 55) (1 : Int32) d14_54 rfl rfl
              have r1174 := r1173.goto (pc' := 59) d14_55 (by decide) (by decide)
              have hP : okc x0 := by
                simp only [Int32.lt_iff_toInt_lt, ← Int32.toInt_inj, Int32.reduceToInt] at hc1125 hc1129 hc1133 hc1160 hc1164 hc1171
                simp only [okc]; omega
              rw [if_pos hP]
              exact ⟨_, _, r1174.retZ d14_59 rfl (t := .boolean) (by simp) (1 : Int32) rfl (by decide) (by decide), ⟨rfl, rfl⟩⟩
            · -- not no
              have r1175 := r1170.icF (pc' := 48) d14_45 (feq hc1171).1 rfl
              have r1176 := r1175.iloadN (pc' := 49) d14_48 rfl rfl
              have r1177 := r1176.bipush (pc' := 51) (45 : Int32) d14_49 rfl rfl
              by_cases hc1178 : x0 = (45 : Int32)
              · -- yes
                have r1179 := r1177.icF (pc' := 54) d14_51 (teq hc1178).2 rfl
                have r1180 := r1179.iconst (pc' := 55) (1 : Int32) d14_54 rfl rfl
                have r1181 := r1180.goto (pc' := 59) d14_55 (by decide) (by decide)
                have hP : okc x0 := by
                  simp only [Int32.lt_iff_toInt_lt, ← Int32.toInt_inj, Int32.reduceToInt] at hc1125 hc1129 hc1133 hc1160 hc1164 hc1171 hc1178
                  simp only [okc]; omega
                rw [if_pos hP]
                exact ⟨_, _, r1181.retZ d14_59 rfl (t := .boolean) (by simp) (1 : Int32) rfl (by decide) (by decide), ⟨rfl, rfl⟩⟩
              · -- not no
                have r1182 := r1177.icT (pc' := 58) d14_51 (feq hc1178).2 (by decide) (by decide)
                have r1183 := r1182.iconst (pc' := 59) (0 : Int32) d14_58 rfl rfl
                have hP : ¬ (okc x0) := by
                  simp only [Int32.lt_iff_toInt_lt, ← Int32.toInt_inj, Int32.reduceToInt] at hc1125 hc1129 hc1133 hc1160 hc1164 hc1171 hc1178
                  simp only [okc]; omega
                rw [if_neg hP]
                exact ⟨_, _, r1183.retZ d14_59 rfl (t := .boolean) (by simp) (0 : Int32) rfl (by decide) (by decide), ⟨rfl, rfl⟩⟩
        · -- not no
          have r1184 := r1159.icT (pc' := 54) d14_33 (flt hc1160).2.2.2 (by decide) (by decide)
          have r1185 := r1184.iconst (pc' := 55) (1 : Int32) d14_54 rfl rfl
          have r1186 := r1185.goto (pc' := 59) d14_55 (by decide) (by decide)
          have hP : okc x0 := by
            simp only [Int32.lt_iff_toInt_lt, ← Int32.toInt_inj, Int32.reduceToInt] at hc1125 hc1129 hc1133 hc1160
            simp only [okc]; omega
          rw [if_pos hP]
          exact ⟨_, _, r1186.retZ d14_59 rfl (t := .boolean) (by simp) (1 : Int32) rfl (by decide) (by decide), ⟨rfl, rfl⟩⟩
    · -- not no
      have r1187 := r1128.icF (pc' := 18) d14_15 (flt hc1129).1 rfl
      have r1188 := r1187.iloadN (pc' := 19) d14_18 rfl rfl
      have r1189 := r1188.bipush (pc' := 21) (122 : Int32) d14_19 rfl rfl
      by_cases hc1190 : (122 : Int32) < x0
      · -- yes
        have r1191 := r1189.icF (pc' := 24) d14_21 (tlt hc1190).2.2.2 rfl
        have r1192 := r1191.iloadN (pc' := 25) d14_24 rfl rfl
        have r1193 := r1192.bipush (pc' := 27) (48 : Int32) d14_25 rfl rfl
        by_cases hc1194 : x0 < (48 : Int32)
        · -- yes
          have r1195 := r1193.icT (pc' := 36) d14_27 (tlt hc1194).1 (by decide) (by decide)
          have r1196 := r1195.iloadN (pc' := 37) d14_36 rfl rfl
          have r1197 := r1196.bipush (pc' := 39) (46 : Int32) d14_37 rfl rfl
          by_cases hc1198 : x0 = (46 : Int32)
          · -- yes
            have r1199 := r1197.icT (pc' := 54) d14_39 (teq hc1198).1 (by decide) (by decide)
            have r1200 := r1199.iconst (pc' := 55) (1 : Int32) d14_54 rfl rfl
            have r1201 := r1200.goto (pc' := 59) d14_55 (by decide) (by decide)
            have hP : okc x0 := by
              simp only [Int32.lt_iff_toInt_lt, ← Int32.toInt_inj, Int32.reduceToInt] at hc1125 hc1129 hc1190 hc1194 hc1198
              simp only [okc]; omega
            rw [if_pos hP]
            exact ⟨_, _, r1201.retZ d14_59 rfl (t := .boolean) (by simp) (1 : Int32) rfl (by decide) (by decide), ⟨rfl, rfl⟩⟩
          · -- not no
            have r1202 := r1197.icF (pc' := 42) d14_39 (feq hc1198).1 rfl
            have r1203 := r1202.iloadN (pc' := 43) d14_42 rfl rfl
            have r1204 := r1203.bipush (pc' := 45) (95 : Int32) d14_43 rfl rfl
            by_cases hc1205 : x0 = (95 : Int32)
            · -- yes
              have r1206 := r1204.icT (pc' := 54) d14_45 (teq hc1205).1 (by decide) (by decide)
              have r1207 := r1206.iconst (pc' := 55) (1 : Int32) d14_54 rfl rfl
              have r1208 := r1207.goto (pc' := 59) d14_55 (by decide) (by decide)
              have hP : okc x0 := by
                simp only [Int32.lt_iff_toInt_lt, ← Int32.toInt_inj, Int32.reduceToInt] at hc1125 hc1129 hc1190 hc1194 hc1198 hc1205
                simp only [okc]; omega
              rw [if_pos hP]
              exact ⟨_, _, r1208.retZ d14_59 rfl (t := .boolean) (by simp) (1 : Int32) rfl (by decide) (by decide), ⟨rfl, rfl⟩⟩
            · -- not no
              have r1209 := r1204.icF (pc' := 48) d14_45 (feq hc1205).1 rfl
              have r1210 := r1209.iloadN (pc' := 49) d14_48 rfl rfl
              have r1211 := r1210.bipush (pc' := 51) (45 : Int32) d14_49 rfl rfl
              by_cases hc1212 : x0 = (45 : Int32)
              · -- yes
                have r1213 := r1211.icF (pc' := 54) d14_51 (teq hc1212).2 rfl
                have r1214 := r1213.iconst (pc' := 55) (1 : Int32) d14_54 rfl rfl
                have r1215 := r1214.goto (pc' := 59) d14_55 (by decide) (by decide)
                have hP : okc x0 := by
                  simp only [Int32.lt_iff_toInt_lt, ← Int32.toInt_inj, Int32.reduceToInt] at hc1125 hc1129 hc1190 hc1194 hc1198 hc1205 hc1212
                  simp only [okc]; omega
                rw [if_pos hP]
                exact ⟨_, _, r1215.retZ d14_59 rfl (t := .boolean) (by simp) (1 : Int32) rfl (by decide) (by decide), ⟨rfl, rfl⟩⟩
              · -- not no
                have r1216 := r1211.icT (pc' := 58) d14_51 (feq hc1212).2 (by decide) (by decide)
                have r1217 := r1216.iconst (pc' := 59) (0 : Int32) d14_58 rfl rfl
                have hP : ¬ (okc x0) := by
                  simp only [Int32.lt_iff_toInt_lt, ← Int32.toInt_inj, Int32.reduceToInt] at hc1125 hc1129 hc1190 hc1194 hc1198 hc1205 hc1212
                  simp only [okc]; omega
                rw [if_neg hP]
                exact ⟨_, _, r1217.retZ d14_59 rfl (t := .boolean) (by simp) (0 : Int32) rfl (by decide) (by decide), ⟨rfl, rfl⟩⟩
        · -- not no
          have r1218 := r1193.icF (pc' := 30) d14_27 (flt hc1194).1 rfl
          have r1219 := r1218.iloadN (pc' := 31) d14_30 rfl rfl
          have r1220 := r1219.bipush (pc' := 33) (57 : Int32) d14_31 rfl rfl
          by_cases hc1221 : (57 : Int32) < x0
          · -- yes
            have r1222 := r1220.icF (pc' := 36) d14_33 (tlt hc1221).2.2.2 rfl
            have r1223 := r1222.iloadN (pc' := 37) d14_36 rfl rfl
            have r1224 := r1223.bipush (pc' := 39) (46 : Int32) d14_37 rfl rfl
            by_cases hc1225 : x0 = (46 : Int32)
            · -- yes
              have r1226 := r1224.icT (pc' := 54) d14_39 (teq hc1225).1 (by decide) (by decide)
              have r1227 := r1226.iconst (pc' := 55) (1 : Int32) d14_54 rfl rfl
              have r1228 := r1227.goto (pc' := 59) d14_55 (by decide) (by decide)
              have hP : okc x0 := by
                simp only [Int32.lt_iff_toInt_lt, ← Int32.toInt_inj, Int32.reduceToInt] at hc1125 hc1129 hc1190 hc1194 hc1221 hc1225
                simp only [okc]; omega
              rw [if_pos hP]
              exact ⟨_, _, r1228.retZ d14_59 rfl (t := .boolean) (by simp) (1 : Int32) rfl (by decide) (by decide), ⟨rfl, rfl⟩⟩
            · -- not no
              have r1229 := r1224.icF (pc' := 42) d14_39 (feq hc1225).1 rfl
              have r1230 := r1229.iloadN (pc' := 43) d14_42 rfl rfl
              have r1231 := r1230.bipush (pc' := 45) (95 : Int32) d14_43 rfl rfl
              by_cases hc1232 : x0 = (95 : Int32)
              · -- yes
                have r1233 := r1231.icT (pc' := 54) d14_45 (teq hc1232).1 (by decide) (by decide)
                have r1234 := r1233.iconst (pc' := 55) (1 : Int32) d14_54 rfl rfl
                have r1235 := r1234.goto (pc' := 59) d14_55 (by decide) (by decide)
                have hP : okc x0 := by
                  simp only [Int32.lt_iff_toInt_lt, ← Int32.toInt_inj, Int32.reduceToInt] at hc1125 hc1129 hc1190 hc1194 hc1221 hc1225 hc1232
                  simp only [okc]; omega
                rw [if_pos hP]
                exact ⟨_, _, r1235.retZ d14_59 rfl (t := .boolean) (by simp) (1 : Int32) rfl (by decide) (by decide), ⟨rfl, rfl⟩⟩
              · -- not no
                have r1236 := r1231.icF (pc' := 48) d14_45 (feq hc1232).1 rfl
                have r1237 := r1236.iloadN (pc' := 49) d14_48 rfl rfl
                have r1238 := r1237.bipush (pc' := 51) (45 : Int32) d14_49 rfl rfl
                by_cases hc1239 : x0 = (45 : Int32)
                · -- yes
                  have r1240 := r1238.icF (pc' := 54) d14_51 (teq hc1239).2 rfl
                  have r1241 := r1240.iconst (pc' := 55) (1 : Int32) d14_54 rfl rfl
                  have r1242 := r1241.goto (pc' := 59) d14_55 (by decide) (by decide)
                  have hP : okc x0 := by
                    simp only [Int32.lt_iff_toInt_lt, ← Int32.toInt_inj, Int32.reduceToInt] at hc1125 hc1129 hc1190 hc1194 hc1221 hc1225 hc1232 hc1239
                    simp only [okc]; omega
                  rw [if_pos hP]
                  exact ⟨_, _, r1242.retZ d14_59 rfl (t := .boolean) (by simp) (1 : Int32) rfl (by decide) (by decide), ⟨rfl, rfl⟩⟩
                · -- not no
                  have r1243 := r1238.icT (pc' := 58) d14_51 (feq hc1239).2 (by decide) (by decide)
                  have r1244 := r1243.iconst (pc' := 59) (0 : Int32) d14_58 rfl rfl
                  have hP : ¬ (okc x0) := by
                    simp only [Int32.lt_iff_toInt_lt, ← Int32.toInt_inj, Int32.reduceToInt] at hc1125 hc1129 hc1190 hc1194 hc1221 hc1225 hc1232 hc1239
                    simp only [okc]; omega
                  rw [if_neg hP]
                  exact ⟨_, _, r1244.retZ d14_59 rfl (t := .boolean) (by simp) (0 : Int32) rfl (by decide) (by decide), ⟨rfl, rfl⟩⟩
          · -- not no
            have r1245 := r1220.icT (pc' := 54) d14_33 (flt hc1221).2.2.2 (by decide) (by decide)
            have r1246 := r1245.iconst (pc' := 55) (1 : Int32) d14_54 rfl rfl
            have r1247 := r1246.goto (pc' := 59) d14_55 (by decide) (by decide)
            have hP : okc x0 := by
              simp only [Int32.lt_iff_toInt_lt, ← Int32.toInt_inj, Int32.reduceToInt] at hc1125 hc1129 hc1190 hc1194 hc1221
              simp only [okc]; omega
            rw [if_pos hP]
            exact ⟨_, _, r1247.retZ d14_59 rfl (t := .boolean) (by simp) (1 : Int32) rfl (by decide) (by decide), ⟨rfl, rfl⟩⟩
      · -- not no
        have r1248 := r1189.icT (pc' := 54) d14_21 (flt hc1190).2.2.2 (by decide) (by decide)
        have r1249 := r1248.iconst (pc' := 55) (1 : Int32) d14_54 rfl rfl
        have r1250 := r1249.goto (pc' := 59) d14_55 (by decide) (by decide)
        have hP : okc x0 := by
          simp only [Int32.lt_iff_toInt_lt, ← Int32.toInt_inj, Int32.reduceToInt] at hc1125 hc1129 hc1190
          simp only [okc]; omega
        rw [if_pos hP]
        exact ⟨_, _, r1250.retZ d14_59 rfl (t := .boolean) (by simp) (1 : Int32) rfl (by decide) (by decide), ⟨rfl, rfl⟩⟩
  · -- not no
    have r1251 := r1124.icF (pc' := 6) d14_3 (flt hc1125).1 rfl
    have r1252 := r1251.iloadN (pc' := 7) d14_6 rfl rfl
    have r1253 := r1252.bipush (pc' := 9) (90 : Int32) d14_7 rfl rfl
    by_cases hc1254 : (90 : Int32) < x0
    · -- yes
      have r1255 := r1253.icF (pc' := 12) d14_9 (tlt hc1254).2.2.2 rfl
      have r1256 := r1255.iloadN (pc' := 13) d14_12 rfl rfl
      have r1257 := r1256.bipush (pc' := 15) (97 : Int32) d14_13 rfl rfl
      by_cases hc1258 : x0 < (97 : Int32)
      · -- yes
        have r1259 := r1257.icT (pc' := 24) d14_15 (tlt hc1258).1 (by decide) (by decide)
        have r1260 := r1259.iloadN (pc' := 25) d14_24 rfl rfl
        have r1261 := r1260.bipush (pc' := 27) (48 : Int32) d14_25 rfl rfl
        by_cases hc1262 : x0 < (48 : Int32)
        · -- yes
          have r1263 := r1261.icT (pc' := 36) d14_27 (tlt hc1262).1 (by decide) (by decide)
          have r1264 := r1263.iloadN (pc' := 37) d14_36 rfl rfl
          have r1265 := r1264.bipush (pc' := 39) (46 : Int32) d14_37 rfl rfl
          by_cases hc1266 : x0 = (46 : Int32)
          · -- yes
            have r1267 := r1265.icT (pc' := 54) d14_39 (teq hc1266).1 (by decide) (by decide)
            have r1268 := r1267.iconst (pc' := 55) (1 : Int32) d14_54 rfl rfl
            have r1269 := r1268.goto (pc' := 59) d14_55 (by decide) (by decide)
            have hP : okc x0 := by
              simp only [Int32.lt_iff_toInt_lt, ← Int32.toInt_inj, Int32.reduceToInt] at hc1125 hc1254 hc1258 hc1262 hc1266
              simp only [okc]; omega
            rw [if_pos hP]
            exact ⟨_, _, r1269.retZ d14_59 rfl (t := .boolean) (by simp) (1 : Int32) rfl (by decide) (by decide), ⟨rfl, rfl⟩⟩
          · -- not no
            have r1270 := r1265.icF (pc' := 42) d14_39 (feq hc1266).1 rfl
            have r1271 := r1270.iloadN (pc' := 43) d14_42 rfl rfl
            have r1272 := r1271.bipush (pc' := 45) (95 : Int32) d14_43 rfl rfl
            by_cases hc1273 : x0 = (95 : Int32)
            · -- yes
              have r1274 := r1272.icT (pc' := 54) d14_45 (teq hc1273).1 (by decide) (by decide)
              have r1275 := r1274.iconst (pc' := 55) (1 : Int32) d14_54 rfl rfl
              have r1276 := r1275.goto (pc' := 59) d14_55 (by decide) (by decide)
              have hP : okc x0 := by
                simp only [Int32.lt_iff_toInt_lt, ← Int32.toInt_inj, Int32.reduceToInt] at hc1125 hc1254 hc1258 hc1262 hc1266 hc1273
                simp only [okc]; omega
              rw [if_pos hP]
              exact ⟨_, _, r1276.retZ d14_59 rfl (t := .boolean) (by simp) (1 : Int32) rfl (by decide) (by decide), ⟨rfl, rfl⟩⟩
            · -- not no
              have r1277 := r1272.icF (pc' := 48) d14_45 (feq hc1273).1 rfl
              have r1278 := r1277.iloadN (pc' := 49) d14_48 rfl rfl
              have r1279 := r1278.bipush (pc' := 51) (45 : Int32) d14_49 rfl rfl
              by_cases hc1280 : x0 = (45 : Int32)
              · -- yes
                have r1281 := r1279.icF (pc' := 54) d14_51 (teq hc1280).2 rfl
                have r1282 := r1281.iconst (pc' := 55) (1 : Int32) d14_54 rfl rfl
                have r1283 := r1282.goto (pc' := 59) d14_55 (by decide) (by decide)
                have hP : okc x0 := by
                  simp only [Int32.lt_iff_toInt_lt, ← Int32.toInt_inj, Int32.reduceToInt] at hc1125 hc1254 hc1258 hc1262 hc1266 hc1273 hc1280
                  simp only [okc]; omega
                rw [if_pos hP]
                exact ⟨_, _, r1283.retZ d14_59 rfl (t := .boolean) (by simp) (1 : Int32) rfl (by decide) (by decide), ⟨rfl, rfl⟩⟩
              · -- not no
                have r1284 := r1279.icT (pc' := 58) d14_51 (feq hc1280).2 (by decide) (by decide)
                have r1285 := r1284.iconst (pc' := 59) (0 : Int32) d14_58 rfl rfl
                have hP : ¬ (okc x0) := by
                  simp only [Int32.lt_iff_toInt_lt, ← Int32.toInt_inj, Int32.reduceToInt] at hc1125 hc1254 hc1258 hc1262 hc1266 hc1273 hc1280
                  simp only [okc]; omega
                rw [if_neg hP]
                exact ⟨_, _, r1285.retZ d14_59 rfl (t := .boolean) (by simp) (0 : Int32) rfl (by decide) (by decide), ⟨rfl, rfl⟩⟩
        · -- not no
          have r1286 := r1261.icF (pc' := 30) d14_27 (flt hc1262).1 rfl
          have r1287 := r1286.iloadN (pc' := 31) d14_30 rfl rfl
          have r1288 := r1287.bipush (pc' := 33) (57 : Int32) d14_31 rfl rfl
          by_cases hc1289 : (57 : Int32) < x0
          · -- yes
            have r1290 := r1288.icF (pc' := 36) d14_33 (tlt hc1289).2.2.2 rfl
            have r1291 := r1290.iloadN (pc' := 37) d14_36 rfl rfl
            have r1292 := r1291.bipush (pc' := 39) (46 : Int32) d14_37 rfl rfl
            by_cases hc1293 : x0 = (46 : Int32)
            · -- yes
              have r1294 := r1292.icT (pc' := 54) d14_39 (teq hc1293).1 (by decide) (by decide)
              have r1295 := r1294.iconst (pc' := 55) (1 : Int32) d14_54 rfl rfl
              have r1296 := r1295.goto (pc' := 59) d14_55 (by decide) (by decide)
              have hP : okc x0 := by
                simp only [Int32.lt_iff_toInt_lt, ← Int32.toInt_inj, Int32.reduceToInt] at hc1125 hc1254 hc1258 hc1262 hc1289 hc1293
                simp only [okc]; omega
              rw [if_pos hP]
              exact ⟨_, _, r1296.retZ d14_59 rfl (t := .boolean) (by simp) (1 : Int32) rfl (by decide) (by decide), ⟨rfl, rfl⟩⟩
            · -- not no
              have r1297 := r1292.icF (pc' := 42) d14_39 (feq hc1293).1 rfl
              have r1298 := r1297.iloadN (pc' := 43) d14_42 rfl rfl
              have r1299 := r1298.bipush (pc' := 45) (95 : Int32) d14_43 rfl rfl
              by_cases hc1300 : x0 = (95 : Int32)
              · -- yes
                have r1301 := r1299.icT (pc' := 54) d14_45 (teq hc1300).1 (by decide) (by decide)
                have r1302 := r1301.iconst (pc' := 55) (1 : Int32) d14_54 rfl rfl
                have r1303 := r1302.goto (pc' := 59) d14_55 (by decide) (by decide)
                have hP : okc x0 := by
                  simp only [Int32.lt_iff_toInt_lt, ← Int32.toInt_inj, Int32.reduceToInt] at hc1125 hc1254 hc1258 hc1262 hc1289 hc1293 hc1300
                  simp only [okc]; omega
                rw [if_pos hP]
                exact ⟨_, _, r1303.retZ d14_59 rfl (t := .boolean) (by simp) (1 : Int32) rfl (by decide) (by decide), ⟨rfl, rfl⟩⟩
              · -- not no
                have r1304 := r1299.icF (pc' := 48) d14_45 (feq hc1300).1 rfl
                have r1305 := r1304.iloadN (pc' := 49) d14_48 rfl rfl
                have r1306 := r1305.bipush (pc' := 51) (45 : Int32) d14_49 rfl rfl
                by_cases hc1307 : x0 = (45 : Int32)
                · -- yes
                  have r1308 := r1306.icF (pc' := 54) d14_51 (teq hc1307).2 rfl
                  have r1309 := r1308.iconst (pc' := 55) (1 : Int32) d14_54 rfl rfl
                  have r1310 := r1309.goto (pc' := 59) d14_55 (by decide) (by decide)
                  have hP : okc x0 := by
                    simp only [Int32.lt_iff_toInt_lt, ← Int32.toInt_inj, Int32.reduceToInt] at hc1125 hc1254 hc1258 hc1262 hc1289 hc1293 hc1300 hc1307
                    simp only [okc]; omega
                  rw [if_pos hP]
                  exact ⟨_, _, r1310.retZ d14_59 rfl (t := .boolean) (by simp) (1 : Int32) rfl (by decide) (by decide), ⟨rfl, rfl⟩⟩
                · -- not no
                  have r1311 := r1306.icT (pc' := 58) d14_51 (feq hc1307).2 (by decide) (by decide)
                  have r1312 := r1311.iconst (pc' := 59) (0 : Int32) d14_58 rfl rfl
                  have hP : ¬ (okc x0) := by
                    simp only [Int32.lt_iff_toInt_lt, ← Int32.toInt_inj, Int32.reduceToInt] at hc1125 hc1254 hc1258 hc1262 hc1289 hc1293 hc1300 hc1307
                    simp only [okc]; omega
                  rw [if_neg hP]
                  exact ⟨_, _, r1312.retZ d14_59 rfl (t := .boolean) (by simp) (0 : Int32) rfl (by decide) (by decide), ⟨rfl, rfl⟩⟩
          · -- not no
            have r1313 := r1288.icT (pc' := 54) d14_33 (flt hc1289).2.2.2 (by decide) (by decide)
            have r1314 := r1313.iconst (pc' := 55) (1 : Int32) d14_54 rfl rfl
            have r1315 := r1314.goto (pc' := 59) d14_55 (by decide) (by decide)
            have hP : okc x0 := by
              simp only [Int32.lt_iff_toInt_lt, ← Int32.toInt_inj, Int32.reduceToInt] at hc1125 hc1254 hc1258 hc1262 hc1289
              simp only [okc]; omega
            rw [if_pos hP]
            exact ⟨_, _, r1315.retZ d14_59 rfl (t := .boolean) (by simp) (1 : Int32) rfl (by decide) (by decide), ⟨rfl, rfl⟩⟩
      · -- not no
        have r1316 := r1257.icF (pc' := 18) d14_15 (flt hc1258).1 rfl
        have r1317 := r1316.iloadN (pc' := 19) d14_18 rfl rfl
        have r1318 := r1317.bipush (pc' := 21) (122 : Int32) d14_19 rfl rfl
        by_cases hc1319 : (122 : Int32) < x0
        · -- yes
          have r1320 := r1318.icF (pc' := 24) d14_21 (tlt hc1319).2.2.2 rfl
          have r1321 := r1320.iloadN (pc' := 25) d14_24 rfl rfl
          have r1322 := r1321.bipush (pc' := 27) (48 : Int32) d14_25 rfl rfl
          by_cases hc1323 : x0 < (48 : Int32)
          · -- yes
            have r1324 := r1322.icT (pc' := 36) d14_27 (tlt hc1323).1 (by decide) (by decide)
            have r1325 := r1324.iloadN (pc' := 37) d14_36 rfl rfl
            have r1326 := r1325.bipush (pc' := 39) (46 : Int32) d14_37 rfl rfl
            by_cases hc1327 : x0 = (46 : Int32)
            · -- yes
              have r1328 := r1326.icT (pc' := 54) d14_39 (teq hc1327).1 (by decide) (by decide)
              have r1329 := r1328.iconst (pc' := 55) (1 : Int32) d14_54 rfl rfl
              have r1330 := r1329.goto (pc' := 59) d14_55 (by decide) (by decide)
              have hP : okc x0 := by
                simp only [Int32.lt_iff_toInt_lt, ← Int32.toInt_inj, Int32.reduceToInt] at hc1125 hc1254 hc1258 hc1319 hc1323 hc1327
                simp only [okc]; omega
              rw [if_pos hP]
              exact ⟨_, _, r1330.retZ d14_59 rfl (t := .boolean) (by simp) (1 : Int32) rfl (by decide) (by decide), ⟨rfl, rfl⟩⟩
            · -- not no
              have r1331 := r1326.icF (pc' := 42) d14_39 (feq hc1327).1 rfl
              have r1332 := r1331.iloadN (pc' := 43) d14_42 rfl rfl
              have r1333 := r1332.bipush (pc' := 45) (95 : Int32) d14_43 rfl rfl
              by_cases hc1334 : x0 = (95 : Int32)
              · -- yes
                have r1335 := r1333.icT (pc' := 54) d14_45 (teq hc1334).1 (by decide) (by decide)
                have r1336 := r1335.iconst (pc' := 55) (1 : Int32) d14_54 rfl rfl
                have r1337 := r1336.goto (pc' := 59) d14_55 (by decide) (by decide)
                have hP : okc x0 := by
                  simp only [Int32.lt_iff_toInt_lt, ← Int32.toInt_inj, Int32.reduceToInt] at hc1125 hc1254 hc1258 hc1319 hc1323 hc1327 hc1334
                  simp only [okc]; omega
                rw [if_pos hP]
                exact ⟨_, _, r1337.retZ d14_59 rfl (t := .boolean) (by simp) (1 : Int32) rfl (by decide) (by decide), ⟨rfl, rfl⟩⟩
              · -- not no
                have r1338 := r1333.icF (pc' := 48) d14_45 (feq hc1334).1 rfl
                have r1339 := r1338.iloadN (pc' := 49) d14_48 rfl rfl
                have r1340 := r1339.bipush (pc' := 51) (45 : Int32) d14_49 rfl rfl
                by_cases hc1341 : x0 = (45 : Int32)
                · -- yes
                  have r1342 := r1340.icF (pc' := 54) d14_51 (teq hc1341).2 rfl
                  have r1343 := r1342.iconst (pc' := 55) (1 : Int32) d14_54 rfl rfl
                  have r1344 := r1343.goto (pc' := 59) d14_55 (by decide) (by decide)
                  have hP : okc x0 := by
                    simp only [Int32.lt_iff_toInt_lt, ← Int32.toInt_inj, Int32.reduceToInt] at hc1125 hc1254 hc1258 hc1319 hc1323 hc1327 hc1334 hc1341
                    simp only [okc]; omega
                  rw [if_pos hP]
                  exact ⟨_, _, r1344.retZ d14_59 rfl (t := .boolean) (by simp) (1 : Int32) rfl (by decide) (by decide), ⟨rfl, rfl⟩⟩
                · -- not no
                  have r1345 := r1340.icT (pc' := 58) d14_51 (feq hc1341).2 (by decide) (by decide)
                  have r1346 := r1345.iconst (pc' := 59) (0 : Int32) d14_58 rfl rfl
                  have hP : ¬ (okc x0) := by
                    simp only [Int32.lt_iff_toInt_lt, ← Int32.toInt_inj, Int32.reduceToInt] at hc1125 hc1254 hc1258 hc1319 hc1323 hc1327 hc1334 hc1341
                    simp only [okc]; omega
                  rw [if_neg hP]
                  exact ⟨_, _, r1346.retZ d14_59 rfl (t := .boolean) (by simp) (0 : Int32) rfl (by decide) (by decide), ⟨rfl, rfl⟩⟩
          · -- not no
            have r1347 := r1322.icF (pc' := 30) d14_27 (flt hc1323).1 rfl
            have r1348 := r1347.iloadN (pc' := 31) d14_30 rfl rfl
            have r1349 := r1348.bipush (pc' := 33) (57 : Int32) d14_31 rfl rfl
            by_cases hc1350 : (57 : Int32) < x0
            · -- yes
              have r1351 := r1349.icF (pc' := 36) d14_33 (tlt hc1350).2.2.2 rfl
              have r1352 := r1351.iloadN (pc' := 37) d14_36 rfl rfl
              have r1353 := r1352.bipush (pc' := 39) (46 : Int32) d14_37 rfl rfl
              by_cases hc1354 : x0 = (46 : Int32)
              · -- yes
                have r1355 := r1353.icT (pc' := 54) d14_39 (teq hc1354).1 (by decide) (by decide)
                have r1356 := r1355.iconst (pc' := 55) (1 : Int32) d14_54 rfl rfl
                have r1357 := r1356.goto (pc' := 59) d14_55 (by decide) (by decide)
                have hP : okc x0 := by
                  simp only [Int32.lt_iff_toInt_lt, ← Int32.toInt_inj, Int32.reduceToInt] at hc1125 hc1254 hc1258 hc1319 hc1323 hc1350 hc1354
                  simp only [okc]; omega
                rw [if_pos hP]
                exact ⟨_, _, r1357.retZ d14_59 rfl (t := .boolean) (by simp) (1 : Int32) rfl (by decide) (by decide), ⟨rfl, rfl⟩⟩
              · -- not no
                have r1358 := r1353.icF (pc' := 42) d14_39 (feq hc1354).1 rfl
                have r1359 := r1358.iloadN (pc' := 43) d14_42 rfl rfl
                have r1360 := r1359.bipush (pc' := 45) (95 : Int32) d14_43 rfl rfl
                by_cases hc1361 : x0 = (95 : Int32)
                · -- yes
                  have r1362 := r1360.icT (pc' := 54) d14_45 (teq hc1361).1 (by decide) (by decide)
                  have r1363 := r1362.iconst (pc' := 55) (1 : Int32) d14_54 rfl rfl
                  have r1364 := r1363.goto (pc' := 59) d14_55 (by decide) (by decide)
                  have hP : okc x0 := by
                    simp only [Int32.lt_iff_toInt_lt, ← Int32.toInt_inj, Int32.reduceToInt] at hc1125 hc1254 hc1258 hc1319 hc1323 hc1350 hc1354 hc1361
                    simp only [okc]; omega
                  rw [if_pos hP]
                  exact ⟨_, _, r1364.retZ d14_59 rfl (t := .boolean) (by simp) (1 : Int32) rfl (by decide) (by decide), ⟨rfl, rfl⟩⟩
                · -- not no
                  have r1365 := r1360.icF (pc' := 48) d14_45 (feq hc1361).1 rfl
                  have r1366 := r1365.iloadN (pc' := 49) d14_48 rfl rfl
                  have r1367 := r1366.bipush (pc' := 51) (45 : Int32) d14_49 rfl rfl
                  by_cases hc1368 : x0 = (45 : Int32)
                  · -- yes
                    have r1369 := r1367.icF (pc' := 54) d14_51 (teq hc1368).2 rfl
                    have r1370 := r1369.iconst (pc' := 55) (1 : Int32) d14_54 rfl rfl
                    have r1371 := r1370.goto (pc' := 59) d14_55 (by decide) (by decide)
                    have hP : okc x0 := by
                      simp only [Int32.lt_iff_toInt_lt, ← Int32.toInt_inj, Int32.reduceToInt] at hc1125 hc1254 hc1258 hc1319 hc1323 hc1350 hc1354 hc1361 hc1368
                      simp only [okc]; omega
                    rw [if_pos hP]
                    exact ⟨_, _, r1371.retZ d14_59 rfl (t := .boolean) (by simp) (1 : Int32) rfl (by decide) (by decide), ⟨rfl, rfl⟩⟩
                  · -- not no
                    have r1372 := r1367.icT (pc' := 58) d14_51 (feq hc1368).2 (by decide) (by decide)
                    have r1373 := r1372.iconst (pc' := 59) (0 : Int32) d14_58 rfl rfl
                    have hP : ¬ (okc x0) := by
                      simp only [Int32.lt_iff_toInt_lt, ← Int32.toInt_inj, Int32.reduceToInt] at hc1125 hc1254 hc1258 hc1319 hc1323 hc1350 hc1354 hc1361 hc1368
                      simp only [okc]; omega
                    rw [if_neg hP]
                    exact ⟨_, _, r1373.retZ d14_59 rfl (t := .boolean) (by simp) (0 : Int32) rfl (by decide) (by decide), ⟨rfl, rfl⟩⟩
            · -- not no
              have r1374 := r1349.icT (pc' := 54) d14_33 (flt hc1350).2.2.2 (by decide) (by decide)
              have r1375 := r1374.iconst (pc' := 55) (1 : Int32) d14_54 rfl rfl
              have r1376 := r1375.goto (pc' := 59) d14_55 (by decide) (by decide)
              have hP : okc x0 := by
                simp only [Int32.lt_iff_toInt_lt, ← Int32.toInt_inj, Int32.reduceToInt] at hc1125 hc1254 hc1258 hc1319 hc1323 hc1350
                simp only [okc]; omega
              rw [if_pos hP]
              exact ⟨_, _, r1376.retZ d14_59 rfl (t := .boolean) (by simp) (1 : Int32) rfl (by decide) (by decide), ⟨rfl, rfl⟩⟩
        · -- not no
          have r1377 := r1318.icT (pc' := 54) d14_21 (flt hc1319).2.2.2 (by decide) (by decide)
          have r1378 := r1377.iconst (pc' := 55) (1 : Int32) d14_54 rfl rfl
          have r1379 := r1378.goto (pc' := 59) d14_55 (by decide) (by decide)
          have hP : okc x0 := by
            simp only [Int32.lt_iff_toInt_lt, ← Int32.toInt_inj, Int32.reduceToInt] at hc1125 hc1254 hc1258 hc1319
            simp only [okc]; omega
          rw [if_pos hP]
          exact ⟨_, _, r1379.retZ d14_59 rfl (t := .boolean) (by simp) (1 : Int32) rfl (by decide) (by decide), ⟨rfl, rfl⟩⟩
    · -- not no
      have r1380 := r1253.icT (pc' := 54) d14_9 (flt hc1254).2.2.2 (by decide) (by decide)
      have r1381 := r1380.iconst (pc' := 55) (1 : Int32) d14_54 rfl rfl
      have r1382 := r1381.goto (pc' := 59) d14_55 (by decide) (by decide)
      have hP : okc x0 := by
        simp only [Int32.lt_iff_toInt_lt, ← Int32.toInt_inj, Int32.reduceToInt] at hc1125 hc1254
        simp only [okc]; omega
      rw [if_pos hP]
      exact ⟨_, _, r1382.retZ d14_59 rfl (t := .boolean) (by simp) (1 : Int32) rfl (by decide) (by decide), ⟨rfl, rfl⟩⟩
theorem c_nc0 (l : Launch) (Z : State) (a0 : Array Value) (hw : ∀ d ∈ tables_1, d.before a0 Z = true) (x0 : Int32) (h0 : Heap) (n0 : Nat)  (ho : ¬ okc x0) : Ctr l Z (⟨"com/example/hermod/hermod/model/Names", "isNameCharacter", "(C)Z"⟩ : MethodName) prog_12_method_3_code 1 (some .boolean) ({ frames := 0, cells := 0, slots := 0, locals := 0 } : Room) #[(.int x0)] h0 n0 (fun v h => v = some (.int (0 : Int32)) ∧ h0 = h) := by
  have q := c_nc l Z a0 hw x0 h0 n0 
  rw [if_neg ho] at q
  exact q
theorem c_nc1 (l : Launch) (Z : State) (a0 : Array Value) (hw : ∀ d ∈ tables_1, d.before a0 Z = true) (x0 : Int32) (h0 : Heap) (n0 : Nat)  (ho : okc x0) : Ctr l Z (⟨"com/example/hermod/hermod/model/Names", "isNameCharacter", "(C)Z"⟩ : MethodName) prog_12_method_3_code 1 (some .boolean) ({ frames := 0, cells := 0, slots := 0, locals := 0 } : Room) #[(.int x0)] h0 n0 (fun v h => v = some (.int (1 : Int32)) ∧ h0 = h) := by
  have q := c_nc l Z a0 hw x0 h0 n0 
  rw [if_pos ho] at q
  exact q
theorem d18_0 : decode method_3_code 0 = .ok (.iload_n 0, 1) := by decide +kernel
theorem d18_1 : decode method_3_code 1 = .ok (.bipush 48, 2) := by decide +kernel
theorem d18_3 : decode method_3_code 3 = .ok (.if_icmp .lt 11, 3) := by decide +kernel
theorem d18_14 : decode method_3_code 14 = .ok (.iload_n 0, 1) := by decide +kernel
theorem d18_15 : decode method_3_code 15 = .ok (.bipush 32, 2) := by decide +kernel
theorem d18_17 : decode method_3_code 17 = .ok (.ior, 1) := by decide +kernel
theorem d18_18 : decode method_3_code 18 = .ok (.istore_n 1, 1) := by decide +kernel
theorem d18_19 : decode method_3_code 19 = .ok (.iload_n 1, 1) := by decide +kernel
theorem d18_20 : decode method_3_code 20 = .ok (.bipush 97, 2) := by decide +kernel
theorem d18_22 : decode method_3_code 22 = .ok (.if_icmp .lt 11, 3) := by decide +kernel
theorem d18_33 : decode method_3_code 33 = .ok (.iload_n 0, 1) := by decide +kernel
theorem d18_34 : decode method_3_code 34 = .ok (.bipush 46, 2) := by decide +kernel
theorem d18_36 : decode method_3_code 36 = .ok (.if_icmp .eq 15, 3) := by decide +kernel
theorem d18_51 : decode method_3_code 51 = .ok (.iconst 1, 1) := by decide +kernel
theorem d18_52 : decode method_3_code 52 = .ok (.goto 4, 3) := by decide +kernel
theorem d18_56 : decode method_3_code 56 = .ok (.ireturn, 1) := by decide +kernel
theorem d18_39 : decode method_3_code 39 = .ok (.iload_n 0, 1) := by decide +kernel
theorem d18_40 : decode method_3_code 40 = .ok (.bipush 95, 2) := by decide +kernel
theorem d18_42 : decode method_3_code 42 = .ok (.if_icmp .eq 9, 3) := by decide +kernel
theorem d18_45 : decode method_3_code 45 = .ok (.iload_n 0, 1) := by decide +kernel
theorem d18_46 : decode method_3_code 46 = .ok (.bipush 45, 2) := by decide +kernel
theorem d18_48 : decode method_3_code 48 = .ok (.if_icmp .ne 7, 3) := by decide +kernel
theorem d18_55 : decode method_3_code 55 = .ok (.iconst 0, 1) := by decide +kernel
theorem d18_25 : decode method_3_code 25 = .ok (.iload_n 1, 1) := by decide +kernel
theorem d18_26 : decode method_3_code 26 = .ok (.bipush 122, 2) := by decide +kernel
theorem d18_28 : decode method_3_code 28 = .ok (.if_icmp .gt 5, 3) := by decide +kernel
theorem d18_31 : decode method_3_code 31 = .ok (.iconst 1, 1) := by decide +kernel
theorem d18_32 : decode method_3_code 32 = .ok (.ireturn, 1) := by decide +kernel
theorem d18_6 : decode method_3_code 6 = .ok (.iload_n 0, 1) := by decide +kernel
theorem d18_7 : decode method_3_code 7 = .ok (.bipush 57, 2) := by decide +kernel
theorem d18_9 : decode method_3_code 9 = .ok (.if_icmp .gt 5, 3) := by decide +kernel
theorem d18_12 : decode method_3_code 12 = .ok (.iconst 1, 1) := by decide +kernel
theorem d18_13 : decode method_3_code 13 = .ok (.ireturn, 1) := by decide +kernel
set_option maxRecDepth 65536 in
set_option maxHeartbeats 40000000 in
theorem c_ok (l : Launch) (Z : State) (a0 : Array Value) (hw : ∀ d ∈ tables_1, d.before a0 Z = true) (x0 : Int32) (h0 : Heap) (n0 : Nat) (p0 : ¬ x0 < 0) (p1 : ¬ 65535 < x0) :
    Ctr l Z (⟨"com/example/hermod/hermod/model/NamesIsValidPinLaw", "ok", "(C)Z"⟩ : MethodName) method_3_code 2 (some .boolean) ({ frames := 0, cells := 0, slots := 0, locals := 0 } : Room) #[(.int x0)] h0 n0 (fun v h => v = some (.int (if okc x0 then (1 : Int32) else (0 : Int32))) ∧ h0 = h) := by
  refine ent (plainFor_of_name pn_com_example_hermod_hermod_model_NamesIsValidPinLaw) (L0 := #[.val (.int x0), .unset]) (fun m => by first | (simp [entryFrame, mkF, argsToLocals, Value.category]; done) | rfl) ?_
  intro p e s m below meth c T0 r0
  have ho := or_says p0 p1
  have r1383 := r0.iloadN (pc' := 1) d18_0 rfl rfl
  have r1384 := r1383.bipush (pc' := 3) (48 : Int32) d18_1 rfl rfl
  by_cases hc1385 : x0 < (48 : Int32)
  · -- yes
    have r1386 := r1384.icT (pc' := 14) d18_3 (tlt hc1385).1 (by decide) (by decide)
    have r1387 := r1386.iloadN (pc' := 15) d18_14 rfl rfl
    have r1388 := r1387.bipush (pc' := 17) (32 : Int32) d18_15 rfl rfl
    have r1389 := r1388.ior (pc' := 18) d18_17 rfl rfl
    have r1390 := r1389.istoreN (pc' := 19) (L' := #[.val (.int x0), .val (.int (x0 ||| (32 : Int32)))]) d18_18 rfl rfl
    have r1391 := r1390.iloadN (pc' := 20) d18_19 rfl rfl
    have r1392 := r1391.bipush (pc' := 22) (97 : Int32) d18_20 rfl rfl
    by_cases hc1393 : (x0 ||| (32 : Int32)) < (97 : Int32)
    · -- yes
      have r1394 := r1392.icT (pc' := 33) d18_22 (tlt hc1393).1 (by decide) (by decide)
      have r1395 := r1394.iloadN (pc' := 34) d18_33 rfl rfl
      have r1396 := r1395.bipush (pc' := 36) (46 : Int32) d18_34 rfl rfl
      by_cases hc1397 : x0 = (46 : Int32)
      · -- yes
        have r1398 := r1396.icT (pc' := 51) d18_36 (teq hc1397).1 (by decide) (by decide)
        have r1399 := r1398.iconst (pc' := 52) (1 : Int32) d18_51 rfl rfl
        have r1400 := r1399.goto (pc' := 56) d18_52 (by decide) (by decide)
        have hP : okc x0 := by
          simp only [Int32.lt_iff_toInt_lt, ← Int32.toInt_inj, Int32.reduceToInt] at hc1385 hc1393 hc1397
          simp only [okc]; omega
        rw [if_pos hP]
        exact ⟨_, _, r1400.retZ d18_56 rfl (t := .boolean) (by simp) (1 : Int32) rfl (by decide) (by decide), ⟨rfl, rfl⟩⟩
      · -- not no
        have r1401 := r1396.icF (pc' := 39) d18_36 (feq hc1397).1 rfl
        have r1402 := r1401.iloadN (pc' := 40) d18_39 rfl rfl
        have r1403 := r1402.bipush (pc' := 42) (95 : Int32) d18_40 rfl rfl
        by_cases hc1404 : x0 = (95 : Int32)
        · -- yes
          have r1405 := r1403.icT (pc' := 51) d18_42 (teq hc1404).1 (by decide) (by decide)
          have r1406 := r1405.iconst (pc' := 52) (1 : Int32) d18_51 rfl rfl
          have r1407 := r1406.goto (pc' := 56) d18_52 (by decide) (by decide)
          have hP : okc x0 := by
            simp only [Int32.lt_iff_toInt_lt, ← Int32.toInt_inj, Int32.reduceToInt] at hc1385 hc1393 hc1397 hc1404
            simp only [okc]; omega
          rw [if_pos hP]
          exact ⟨_, _, r1407.retZ d18_56 rfl (t := .boolean) (by simp) (1 : Int32) rfl (by decide) (by decide), ⟨rfl, rfl⟩⟩
        · -- not no
          have r1408 := r1403.icF (pc' := 45) d18_42 (feq hc1404).1 rfl
          have r1409 := r1408.iloadN (pc' := 46) d18_45 rfl rfl
          have r1410 := r1409.bipush (pc' := 48) (45 : Int32) d18_46 rfl rfl
          by_cases hc1411 : x0 = (45 : Int32)
          · -- yes
            have r1412 := r1410.icF (pc' := 51) d18_48 (teq hc1411).2 rfl
            have r1413 := r1412.iconst (pc' := 52) (1 : Int32) d18_51 rfl rfl
            have r1414 := r1413.goto (pc' := 56) d18_52 (by decide) (by decide)
            have hP : okc x0 := by
              simp only [Int32.lt_iff_toInt_lt, ← Int32.toInt_inj, Int32.reduceToInt] at hc1385 hc1393 hc1397 hc1404 hc1411
              simp only [okc]; omega
            rw [if_pos hP]
            exact ⟨_, _, r1414.retZ d18_56 rfl (t := .boolean) (by simp) (1 : Int32) rfl (by decide) (by decide), ⟨rfl, rfl⟩⟩
          · -- not no
            have r1415 := r1410.icT (pc' := 55) d18_48 (feq hc1411).2 (by decide) (by decide)
            have r1416 := r1415.iconst (pc' := 56) (0 : Int32) d18_55 rfl rfl
            have hP : ¬ (okc x0) := by
              simp only [Int32.lt_iff_toInt_lt, ← Int32.toInt_inj, Int32.reduceToInt] at hc1385 hc1393 hc1397 hc1404 hc1411
              simp only [okc]; omega
            rw [if_neg hP]
            exact ⟨_, _, r1416.retZ d18_56 rfl (t := .boolean) (by simp) (0 : Int32) rfl (by decide) (by decide), ⟨rfl, rfl⟩⟩
    · -- not no
      have r1417 := r1392.icF (pc' := 25) d18_22 (flt hc1393).1 rfl
      have r1418 := r1417.iloadN (pc' := 26) d18_25 rfl rfl
      have r1419 := r1418.bipush (pc' := 28) (122 : Int32) d18_26 rfl rfl
      by_cases hc1420 : (122 : Int32) < (x0 ||| (32 : Int32))
      · -- yes
        have r1421 := r1419.icT (pc' := 33) d18_28 (tlt hc1420).2.2.1 (by decide) (by decide)
        have r1422 := r1421.iloadN (pc' := 34) d18_33 rfl rfl
        have r1423 := r1422.bipush (pc' := 36) (46 : Int32) d18_34 rfl rfl
        by_cases hc1424 : x0 = (46 : Int32)
        · -- yes
          have r1425 := r1423.icT (pc' := 51) d18_36 (teq hc1424).1 (by decide) (by decide)
          have r1426 := r1425.iconst (pc' := 52) (1 : Int32) d18_51 rfl rfl
          have r1427 := r1426.goto (pc' := 56) d18_52 (by decide) (by decide)
          have hP : okc x0 := by
            simp only [Int32.lt_iff_toInt_lt, ← Int32.toInt_inj, Int32.reduceToInt] at hc1385 hc1393 hc1420 hc1424
            simp only [okc]; omega
          rw [if_pos hP]
          exact ⟨_, _, r1427.retZ d18_56 rfl (t := .boolean) (by simp) (1 : Int32) rfl (by decide) (by decide), ⟨rfl, rfl⟩⟩
        · -- not no
          have r1428 := r1423.icF (pc' := 39) d18_36 (feq hc1424).1 rfl
          have r1429 := r1428.iloadN (pc' := 40) d18_39 rfl rfl
          have r1430 := r1429.bipush (pc' := 42) (95 : Int32) d18_40 rfl rfl
          by_cases hc1431 : x0 = (95 : Int32)
          · -- yes
            have r1432 := r1430.icT (pc' := 51) d18_42 (teq hc1431).1 (by decide) (by decide)
            have r1433 := r1432.iconst (pc' := 52) (1 : Int32) d18_51 rfl rfl
            have r1434 := r1433.goto (pc' := 56) d18_52 (by decide) (by decide)
            have hP : okc x0 := by
              simp only [Int32.lt_iff_toInt_lt, ← Int32.toInt_inj, Int32.reduceToInt] at hc1385 hc1393 hc1420 hc1424 hc1431
              simp only [okc]; omega
            rw [if_pos hP]
            exact ⟨_, _, r1434.retZ d18_56 rfl (t := .boolean) (by simp) (1 : Int32) rfl (by decide) (by decide), ⟨rfl, rfl⟩⟩
          · -- not no
            have r1435 := r1430.icF (pc' := 45) d18_42 (feq hc1431).1 rfl
            have r1436 := r1435.iloadN (pc' := 46) d18_45 rfl rfl
            have r1437 := r1436.bipush (pc' := 48) (45 : Int32) d18_46 rfl rfl
            by_cases hc1438 : x0 = (45 : Int32)
            · -- yes
              have r1439 := r1437.icF (pc' := 51) d18_48 (teq hc1438).2 rfl
              have r1440 := r1439.iconst (pc' := 52) (1 : Int32) d18_51 rfl rfl
              have r1441 := r1440.goto (pc' := 56) d18_52 (by decide) (by decide)
              have hP : okc x0 := by
                simp only [Int32.lt_iff_toInt_lt, ← Int32.toInt_inj, Int32.reduceToInt] at hc1385 hc1393 hc1420 hc1424 hc1431 hc1438
                simp only [okc]; omega
              rw [if_pos hP]
              exact ⟨_, _, r1441.retZ d18_56 rfl (t := .boolean) (by simp) (1 : Int32) rfl (by decide) (by decide), ⟨rfl, rfl⟩⟩
            · -- not no
              have r1442 := r1437.icT (pc' := 55) d18_48 (feq hc1438).2 (by decide) (by decide)
              have r1443 := r1442.iconst (pc' := 56) (0 : Int32) d18_55 rfl rfl
              have hP : ¬ (okc x0) := by
                simp only [Int32.lt_iff_toInt_lt, ← Int32.toInt_inj, Int32.reduceToInt] at hc1385 hc1393 hc1420 hc1424 hc1431 hc1438
                simp only [okc]; omega
              rw [if_neg hP]
              exact ⟨_, _, r1443.retZ d18_56 rfl (t := .boolean) (by simp) (0 : Int32) rfl (by decide) (by decide), ⟨rfl, rfl⟩⟩
      · -- not no
        have r1444 := r1419.icF (pc' := 31) d18_28 (flt hc1420).2.2.1 rfl
        have r1445 := r1444.iconst (pc' := 32) (1 : Int32) d18_31 rfl rfl
        have hP : okc x0 := by
          simp only [Int32.lt_iff_toInt_lt, ← Int32.toInt_inj, Int32.reduceToInt] at hc1385 hc1393 hc1420
          simp only [okc]; omega
        rw [if_pos hP]
        exact ⟨_, _, r1445.retZ d18_32 rfl (t := .boolean) (by simp) (1 : Int32) rfl (by decide) (by decide), ⟨rfl, rfl⟩⟩
  · -- not no
    have r1446 := r1384.icF (pc' := 6) d18_3 (flt hc1385).1 rfl
    have r1447 := r1446.iloadN (pc' := 7) d18_6 rfl rfl
    have r1448 := r1447.bipush (pc' := 9) (57 : Int32) d18_7 rfl rfl
    by_cases hc1449 : (57 : Int32) < x0
    · -- yes
      have r1450 := r1448.icT (pc' := 14) d18_9 (tlt hc1449).2.2.1 (by decide) (by decide)
      have r1451 := r1450.iloadN (pc' := 15) d18_14 rfl rfl
      have r1452 := r1451.bipush (pc' := 17) (32 : Int32) d18_15 rfl rfl
      have r1453 := r1452.ior (pc' := 18) d18_17 rfl rfl
      have r1454 := r1453.istoreN (pc' := 19) (L' := #[.val (.int x0), .val (.int (x0 ||| (32 : Int32)))]) d18_18 rfl rfl
      have r1455 := r1454.iloadN (pc' := 20) d18_19 rfl rfl
      have r1456 := r1455.bipush (pc' := 22) (97 : Int32) d18_20 rfl rfl
      by_cases hc1457 : (x0 ||| (32 : Int32)) < (97 : Int32)
      · -- yes
        have r1458 := r1456.icT (pc' := 33) d18_22 (tlt hc1457).1 (by decide) (by decide)
        have r1459 := r1458.iloadN (pc' := 34) d18_33 rfl rfl
        have r1460 := r1459.bipush (pc' := 36) (46 : Int32) d18_34 rfl rfl
        by_cases hc1461 : x0 = (46 : Int32)
        · -- yes
          have r1462 := r1460.icT (pc' := 51) d18_36 (teq hc1461).1 (by decide) (by decide)
          have r1463 := r1462.iconst (pc' := 52) (1 : Int32) d18_51 rfl rfl
          have r1464 := r1463.goto (pc' := 56) d18_52 (by decide) (by decide)
          have hP : okc x0 := by
            simp only [Int32.lt_iff_toInt_lt, ← Int32.toInt_inj, Int32.reduceToInt] at hc1385 hc1449 hc1457 hc1461
            simp only [okc]; omega
          rw [if_pos hP]
          exact ⟨_, _, r1464.retZ d18_56 rfl (t := .boolean) (by simp) (1 : Int32) rfl (by decide) (by decide), ⟨rfl, rfl⟩⟩
        · -- not no
          have r1465 := r1460.icF (pc' := 39) d18_36 (feq hc1461).1 rfl
          have r1466 := r1465.iloadN (pc' := 40) d18_39 rfl rfl
          have r1467 := r1466.bipush (pc' := 42) (95 : Int32) d18_40 rfl rfl
          by_cases hc1468 : x0 = (95 : Int32)
          · -- yes
            have r1469 := r1467.icT (pc' := 51) d18_42 (teq hc1468).1 (by decide) (by decide)
            have r1470 := r1469.iconst (pc' := 52) (1 : Int32) d18_51 rfl rfl
            have r1471 := r1470.goto (pc' := 56) d18_52 (by decide) (by decide)
            have hP : okc x0 := by
              simp only [Int32.lt_iff_toInt_lt, ← Int32.toInt_inj, Int32.reduceToInt] at hc1385 hc1449 hc1457 hc1461 hc1468
              simp only [okc]; omega
            rw [if_pos hP]
            exact ⟨_, _, r1471.retZ d18_56 rfl (t := .boolean) (by simp) (1 : Int32) rfl (by decide) (by decide), ⟨rfl, rfl⟩⟩
          · -- not no
            have r1472 := r1467.icF (pc' := 45) d18_42 (feq hc1468).1 rfl
            have r1473 := r1472.iloadN (pc' := 46) d18_45 rfl rfl
            have r1474 := r1473.bipush (pc' := 48) (45 : Int32) d18_46 rfl rfl
            by_cases hc1475 : x0 = (45 : Int32)
            · -- yes
              have r1476 := r1474.icF (pc' := 51) d18_48 (teq hc1475).2 rfl
              have r1477 := r1476.iconst (pc' := 52) (1 : Int32) d18_51 rfl rfl
              have r1478 := r1477.goto (pc' := 56) d18_52 (by decide) (by decide)
              have hP : okc x0 := by
                simp only [Int32.lt_iff_toInt_lt, ← Int32.toInt_inj, Int32.reduceToInt] at hc1385 hc1449 hc1457 hc1461 hc1468 hc1475
                simp only [okc]; omega
              rw [if_pos hP]
              exact ⟨_, _, r1478.retZ d18_56 rfl (t := .boolean) (by simp) (1 : Int32) rfl (by decide) (by decide), ⟨rfl, rfl⟩⟩
            · -- not no
              have r1479 := r1474.icT (pc' := 55) d18_48 (feq hc1475).2 (by decide) (by decide)
              have r1480 := r1479.iconst (pc' := 56) (0 : Int32) d18_55 rfl rfl
              have hP : ¬ (okc x0) := by
                simp only [Int32.lt_iff_toInt_lt, ← Int32.toInt_inj, Int32.reduceToInt] at hc1385 hc1449 hc1457 hc1461 hc1468 hc1475
                simp only [okc]; omega
              rw [if_neg hP]
              exact ⟨_, _, r1480.retZ d18_56 rfl (t := .boolean) (by simp) (0 : Int32) rfl (by decide) (by decide), ⟨rfl, rfl⟩⟩
      · -- not no
        have r1481 := r1456.icF (pc' := 25) d18_22 (flt hc1457).1 rfl
        have r1482 := r1481.iloadN (pc' := 26) d18_25 rfl rfl
        have r1483 := r1482.bipush (pc' := 28) (122 : Int32) d18_26 rfl rfl
        by_cases hc1484 : (122 : Int32) < (x0 ||| (32 : Int32))
        · -- yes
          have r1485 := r1483.icT (pc' := 33) d18_28 (tlt hc1484).2.2.1 (by decide) (by decide)
          have r1486 := r1485.iloadN (pc' := 34) d18_33 rfl rfl
          have r1487 := r1486.bipush (pc' := 36) (46 : Int32) d18_34 rfl rfl
          by_cases hc1488 : x0 = (46 : Int32)
          · -- yes
            have r1489 := r1487.icT (pc' := 51) d18_36 (teq hc1488).1 (by decide) (by decide)
            have r1490 := r1489.iconst (pc' := 52) (1 : Int32) d18_51 rfl rfl
            have r1491 := r1490.goto (pc' := 56) d18_52 (by decide) (by decide)
            have hP : okc x0 := by
              simp only [Int32.lt_iff_toInt_lt, ← Int32.toInt_inj, Int32.reduceToInt] at hc1385 hc1449 hc1457 hc1484 hc1488
              simp only [okc]; omega
            rw [if_pos hP]
            exact ⟨_, _, r1491.retZ d18_56 rfl (t := .boolean) (by simp) (1 : Int32) rfl (by decide) (by decide), ⟨rfl, rfl⟩⟩
          · -- not no
            have r1492 := r1487.icF (pc' := 39) d18_36 (feq hc1488).1 rfl
            have r1493 := r1492.iloadN (pc' := 40) d18_39 rfl rfl
            have r1494 := r1493.bipush (pc' := 42) (95 : Int32) d18_40 rfl rfl
            by_cases hc1495 : x0 = (95 : Int32)
            · -- yes
              have r1496 := r1494.icT (pc' := 51) d18_42 (teq hc1495).1 (by decide) (by decide)
              have r1497 := r1496.iconst (pc' := 52) (1 : Int32) d18_51 rfl rfl
              have r1498 := r1497.goto (pc' := 56) d18_52 (by decide) (by decide)
              have hP : okc x0 := by
                simp only [Int32.lt_iff_toInt_lt, ← Int32.toInt_inj, Int32.reduceToInt] at hc1385 hc1449 hc1457 hc1484 hc1488 hc1495
                simp only [okc]; omega
              rw [if_pos hP]
              exact ⟨_, _, r1498.retZ d18_56 rfl (t := .boolean) (by simp) (1 : Int32) rfl (by decide) (by decide), ⟨rfl, rfl⟩⟩
            · -- not no
              have r1499 := r1494.icF (pc' := 45) d18_42 (feq hc1495).1 rfl
              have r1500 := r1499.iloadN (pc' := 46) d18_45 rfl rfl
              have r1501 := r1500.bipush (pc' := 48) (45 : Int32) d18_46 rfl rfl
              by_cases hc1502 : x0 = (45 : Int32)
              · -- yes
                have r1503 := r1501.icF (pc' := 51) d18_48 (teq hc1502).2 rfl
                have r1504 := r1503.iconst (pc' := 52) (1 : Int32) d18_51 rfl rfl
                have r1505 := r1504.goto (pc' := 56) d18_52 (by decide) (by decide)
                have hP : okc x0 := by
                  simp only [Int32.lt_iff_toInt_lt, ← Int32.toInt_inj, Int32.reduceToInt] at hc1385 hc1449 hc1457 hc1484 hc1488 hc1495 hc1502
                  simp only [okc]; omega
                rw [if_pos hP]
                exact ⟨_, _, r1505.retZ d18_56 rfl (t := .boolean) (by simp) (1 : Int32) rfl (by decide) (by decide), ⟨rfl, rfl⟩⟩
              · -- not no
                have r1506 := r1501.icT (pc' := 55) d18_48 (feq hc1502).2 (by decide) (by decide)
                have r1507 := r1506.iconst (pc' := 56) (0 : Int32) d18_55 rfl rfl
                have hP : ¬ (okc x0) := by
                  simp only [Int32.lt_iff_toInt_lt, ← Int32.toInt_inj, Int32.reduceToInt] at hc1385 hc1449 hc1457 hc1484 hc1488 hc1495 hc1502
                  simp only [okc]; omega
                rw [if_neg hP]
                exact ⟨_, _, r1507.retZ d18_56 rfl (t := .boolean) (by simp) (0 : Int32) rfl (by decide) (by decide), ⟨rfl, rfl⟩⟩
        · -- not no
          have r1508 := r1483.icF (pc' := 31) d18_28 (flt hc1484).2.2.1 rfl
          have r1509 := r1508.iconst (pc' := 32) (1 : Int32) d18_31 rfl rfl
          have hP : okc x0 := by
            simp only [Int32.lt_iff_toInt_lt, ← Int32.toInt_inj, Int32.reduceToInt] at hc1385 hc1449 hc1457 hc1484
            simp only [okc]; omega
          rw [if_pos hP]
          exact ⟨_, _, r1509.retZ d18_32 rfl (t := .boolean) (by simp) (1 : Int32) rfl (by decide) (by decide), ⟨rfl, rfl⟩⟩
    · -- not no
      have r1510 := r1448.icF (pc' := 12) d18_9 (flt hc1449).2.2.1 rfl
      have r1511 := r1510.iconst (pc' := 13) (1 : Int32) d18_12 rfl rfl
      have hP : okc x0 := by
        simp only [Int32.lt_iff_toInt_lt, ← Int32.toInt_inj, Int32.reduceToInt] at hc1385 hc1449
        simp only [okc]; omega
      rw [if_pos hP]
      exact ⟨_, _, r1511.retZ d18_13 rfl (t := .boolean) (by simp) (1 : Int32) rfl (by decide) (by decide), ⟨rfl, rfl⟩⟩
theorem c_ok0 (l : Launch) (Z : State) (a0 : Array Value) (hw : ∀ d ∈ tables_1, d.before a0 Z = true) (x0 : Int32) (h0 : Heap) (n0 : Nat) (p0 : ¬ x0 < 0) (p1 : ¬ 65535 < x0) (ho : ¬ okc x0) : Ctr l Z (⟨"com/example/hermod/hermod/model/NamesIsValidPinLaw", "ok", "(C)Z"⟩ : MethodName) method_3_code 2 (some .boolean) ({ frames := 0, cells := 0, slots := 0, locals := 0 } : Room) #[(.int x0)] h0 n0 (fun v h => v = some (.int (0 : Int32)) ∧ h0 = h) := by
  have q := c_ok l Z a0 hw x0 h0 n0 p0 p1
  rw [if_neg ho] at q
  exact q
theorem c_ok1 (l : Launch) (Z : State) (a0 : Array Value) (hw : ∀ d ∈ tables_1, d.before a0 Z = true) (x0 : Int32) (h0 : Heap) (n0 : Nat) (p0 : ¬ x0 < 0) (p1 : ¬ 65535 < x0) (ho : okc x0) : Ctr l Z (⟨"com/example/hermod/hermod/model/NamesIsValidPinLaw", "ok", "(C)Z"⟩ : MethodName) method_3_code 2 (some .boolean) ({ frames := 0, cells := 0, slots := 0, locals := 0 } : Room) #[(.int x0)] h0 n0 (fun v h => v = some (.int (1 : Int32)) ∧ h0 = h) := by
  have q := c_ok l Z a0 hw x0 h0 n0 p0 p1
  rw [if_pos ho] at q
  exact q
theorem shr_zero (z : Int32) : z >>> ((0 : Int32) &&& 31) = z := StrChars.shr0 z
theorem s_lenX (l : Launch) (Z : State) (a0 : Array Value) (hw : ∀ d ∈ tables_1, d.before a0 Z = true) (a b : Addr) (cd z ln : Int32) (F : List Int32) (cF : Nat → Int32) (h0 : Heap) (n0 : Nat) (A : Str Z h0 a b cd z F) (H : ChF cd z F ln cF) (cs : Int32) (vF : Value) (SS : Stt Z cs vF) (O0 : Old Z n0 h0) : Ctr l Z (⟨"java/lang/String", "length", "()I"⟩ : MethodName) jdk_42_method_54_code 1 (some .int) ({ frames := 1, cells := 0, slots := 0, locals := 13 } : Room) #[(.ref a)] h0 n0 (fun v h => v = some (.int ln) ∧ h0 = h) := by
  rcases H with ⟨rfl, rfl, rfl⟩ | ⟨rfl, ⟨rfl, rfl⟩ | ⟨rfl, rfl⟩ | ⟨rfl, rfl⟩, rfl⟩
  · exact s_len0 l Z a0 hw a b _ _ F h0 n0 A (shr_zero _) cs vF SS O0
  · exact s_len1 l Z a0 hw a b _ _ F h0 n0 A (by decide) cs vF SS O0
  · exact s_len1 l Z a0 hw a b _ _ F h0 n0 A (by decide) cs vF SS O0
  · exact s_len1 l Z a0 hw a b _ _ F h0 n0 A (by decide) cs vF SS O0
theorem s_atX (l : Launch) (Z : State) (a0 : Array Value) (hw : ∀ d ∈ tables_1, d.before a0 Z = true) (a b : Addr) (cd z ln : Int32) (F : List Int32) (cF : Nat → Int32) (h0 : Heap) (n0 : Nat) (A : Str Z h0 a b cd z F) (H : ChF cd z F ln cF) (i : Int32) (h1 : ¬ i < 0) (h2 : i < ln) (cs : Int32) (vF : Value) (SS : Stt Z cs vF) (O0 : Old Z n0 h0) : Ctr l Z (⟨"java/lang/String", "charAt", "(I)C"⟩ : MethodName) jdk_42_method_56_code 2 (some .char) ({ frames := 4, cells := 0, slots := 0, locals := 53 } : Room) #[(.ref a), (.int i)] h0 n0 (fun v h => v = some (.int (cF i.toNatClampNeg)) ∧ h0 = h) := by
  rcases H with ⟨rfl, rfl, rfl⟩ | ⟨rfl, ⟨rfl, rfl⟩ | ⟨rfl, rfl⟩ | ⟨rfl, rfl⟩, rfl⟩
  · exact s_at0 l Z a0 hw a b i _ F h0 n0 A h1 h2 cs vF SS O0
  · have q := i_lt1 h1 h2; subst q
    exact s_at1 l Z a0 hw a b (0 : Int32) (2 : Int32) (1 : Int32) (0 : Int32) _ F h0 n0 A (by decide) (by decide) (by decide) (by decide) (by decide) (by decide) (by decide) (by decide) rfl (nar_idem _) cs vF SS O0
  · rcases i_lt2 h1 h2 with rfl | rfl
    · exact s_at1 l Z a0 hw a b (0 : Int32) (4 : Int32) (2 : Int32) (0 : Int32) _ F h0 n0 A (by decide) (by decide) (by decide) (by decide) (by decide) (by decide) (by decide) (by decide) rfl (nar_idem _) cs vF SS O0
    · exact s_at1 l Z a0 hw a b (1 : Int32) (4 : Int32) (2 : Int32) (2 : Int32) _ F h0 n0 A (by decide) (by decide) (by decide) (by decide) (by decide) (by decide) (by decide) (by decide) rfl (nar_idem _) cs vF SS O0
  · rcases i_lt3 h1 h2 with rfl | rfl | rfl
    · exact s_at1 l Z a0 hw a b (0 : Int32) (6 : Int32) (3 : Int32) (0 : Int32) _ F h0 n0 A (by decide) (by decide) (by decide) (by decide) (by decide) (by decide) (by decide) (by decide) rfl (nar_idem _) cs vF SS O0
    · exact s_at1 l Z a0 hw a b (1 : Int32) (6 : Int32) (3 : Int32) (2 : Int32) _ F h0 n0 A (by decide) (by decide) (by decide) (by decide) (by decide) (by decide) (by decide) (by decide) rfl (nar_idem _) cs vF SS O0
    · exact s_at1 l Z a0 hw a b (2 : Int32) (6 : Int32) (3 : Int32) (4 : Int32) _ F h0 n0 A (by decide) (by decide) (by decide) (by decide) (by decide) (by decide) (by decide) (by decide) rfl (nar_idem _) cs vF SS O0
theorem ChF.nil {cd z ln : Int32} {F : List Int32} {cF : Nat → Int32} (H : ChF cd z F ln cF) : z = 0 ↔ ln = 0 := by
  rcases H with ⟨rfl, rfl, rfl⟩ | ⟨rfl, ⟨rfl, rfl⟩ | ⟨rfl, rfl⟩ | ⟨rfl, rfl⟩, rfl⟩
  · exact Iff.rfl
  · decide
  · decide
  · decide
theorem d5_0 : decode prog_12_method_2_code 0 = .ok (.aload_n 0, 1) := by decide +kernel
theorem d5_1 : decode prog_12_method_2_code 1 = .ok (.invokevirtual 7, 3) := by decide +kernel
theorem d5_4 : decode prog_12_method_2_code 4 = .ok (.ifCond .ne 12, 3) := by decide +kernel
theorem d5_16 : decode prog_12_method_2_code 16 = .ok (.iconst 0, 1) := by decide +kernel
theorem d5_17 : decode prog_12_method_2_code 17 = .ok (.ireturn, 1) := by decide +kernel
theorem d5_7 : decode prog_12_method_2_code 7 = .ok (.aload_n 0, 1) := by decide +kernel
theorem d5_8 : decode prog_12_method_2_code 8 = .ok (.invokevirtual 13, 3) := by decide +kernel
theorem pd_1 : parseMethodDescriptor "()I" = some ⟨[], some .int⟩ := by decide +kernel
theorem d5_11 : decode prog_12_method_2_code 11 = .ok (.bipush 64, 2) := by decide +kernel
theorem d5_13 : decode prog_12_method_2_code 13 = .ok (.if_icmp .le 5, 3) := by decide +kernel
theorem d5_18 : decode prog_12_method_2_code 18 = .ok (.iconst 0, 1) := by decide +kernel
theorem d5_19 : decode prog_12_method_2_code 19 = .ok (.istore_n 1, 1) := by decide +kernel
theorem d5_20 : decode prog_12_method_2_code 20 = .ok (.iload_n 1, 1) := by decide +kernel
theorem d5_21 : decode prog_12_method_2_code 21 = .ok (.aload_n 0, 1) := by decide +kernel
theorem d5_22 : decode prog_12_method_2_code 22 = .ok (.invokevirtual 13, 3) := by decide +kernel
theorem d5_25 : decode prog_12_method_2_code 25 = .ok (.if_icmp .ge 22, 3) := by decide +kernel
theorem d5_47 : decode prog_12_method_2_code 47 = .ok (.iconst 1, 1) := by decide +kernel
theorem d5_48 : decode prog_12_method_2_code 48 = .ok (.ireturn, 1) := by decide +kernel
theorem d5_28 : decode prog_12_method_2_code 28 = .ok (.aload_n 0, 1) := by decide +kernel
theorem d5_29 : decode prog_12_method_2_code 29 = .ok (.iload_n 1, 1) := by decide +kernel
theorem d5_30 : decode prog_12_method_2_code 30 = .ok (.invokevirtual 19, 3) := by decide +kernel
theorem pd_5 : parseMethodDescriptor "(I)C" = some ⟨[.int], some .char⟩ := by decide +kernel
theorem d5_33 : decode prog_12_method_2_code 33 = .ok (.invokestatic 23, 3) := by decide +kernel
theorem pd_4 : parseMethodDescriptor "(C)Z" = some ⟨[.char], some .boolean⟩ := by decide +kernel
theorem d5_36 : decode prog_12_method_2_code 36 = .ok (.ifCond .ne 5, 3) := by decide +kernel
theorem d5_41 : decode prog_12_method_2_code 41 = .ok (.iinc 1 1, 3) := by decide +kernel
theorem d5_44 : decode prog_12_method_2_code 44 = .ok (.goto (-24), 3) := by decide +kernel
theorem d5_39 : decode prog_12_method_2_code 39 = .ok (.iconst 0, 1) := by decide +kernel
theorem d5_40 : decode prog_12_method_2_code 40 = .ok (.ireturn, 1) := by decide +kernel
theorem i_succ {i : Int32} (h0 : 0 ≤ i.toInt) (h1 : i.toInt < 1000) : (i + (1 : Int32)).toInt = i.toInt + 1 ∧ (i + (1 : Int32)).toNatClampNeg = i.toNatClampNeg + 1 := by
  have e : (i + (1 : Int32)).toInt = i.toInt + 1 := by
    rw [Int32.toInt_add]
    have e1 : (1 : Int32).toInt = 1 := rfl
    rw [e1]
    apply Int.bmod_eq_of_le <;> omega
  refine ⟨e, ?_⟩
  show (i + (1 : Int32)).toInt.toNat = i.toInt.toNat + 1
  rw [e]; omega
set_option maxRecDepth 65536 in
set_option maxHeartbeats 40000000 in
theorem v_valid (l : Launch) (Z : State) (a0 : Array Value) (hw : ∀ d ∈ tables_1, d.before a0 Z = true) (a b : Addr) (cd z ln e' : Int32) (F : List Int32) (cF : Nat → Int32) (h0 : Heap) (n0 : Nat) (A : Str Z h0 a b cd z F) (H : ChF cd z F ln cF) (l0 : ¬ ln < 0) (l1 : ln < (100 : Int32)) (he : valF cF ln = e') (cs : Int32) (vF : Value) (SS : Stt Z cs vF) (O0 : Old Z n0 h0) :
    Ctr l Z (⟨"com/example/hermod/hermod/model/Names", "isValid", "(Ljava/lang/String;)Z"⟩ : MethodName) prog_12_method_2_code 2 (some .boolean) ({ frames := 5, cells := 0, slots := 0, locals := 66 } : Room) #[(.ref a)] h0 n0 (fun v h => v = some (.int e') ∧ h0 = h) := by
  refine ent (plainFor_of_name pn_com_example_hermod_hermod_model_Names) (L0 := #[.val (.ref a), .unset]) (fun m => by first | (simp [entryFrame, mkF, argsToLocals, Value.category]; done) | rfl) ?_
  intro p e s m below meth c T0 r0
  have r1512 := r0.aloadN (pc' := 1) d5_0 rfl rfl rfl
  by_cases hz : z = 0
  · -- empty
    obtain ⟨v1515, h1516, hq1514, r1513⟩ := r1512.callV (pc' := 4) (a := a) [] (rest := []) 0 d5_1 (hw _ (List.mem_of_getElem? (i := 34) rfl)) (hw _ (List.mem_of_getElem? (i := 35) rfl)) (r1512.nface (hw _ (List.mem_of_getElem? (i := 37) rfl)) rfl) (hw _ (List.mem_of_getElem? (i := 37) rfl)) (hw _ (List.mem_of_getElem? (i := 36) rfl)) (hw _ (List.mem_of_getElem? (i := 8) rfl)) (hw _ (List.mem_of_getElem? (i := 38) rfl)) (by decide) (s_emp1 l Z a0 hw a b cd z F h0 n0 A hz) A.1 pd_3 rfl rfl rfl (Nat.le_of_ble_eq_true rfl) (by decide) (by decide) (k' := 0) (n' := 0) rfl rfl (by decide) (by decide) rfl
    obtain ⟨rfl, rfl⟩ := hq1514
    dsimp only [Option.toList, List.cons_append, List.nil_append] at r1513
    have r1517 := r1513.ifT (pc' := 16) d5_4 (feq (by decide : ¬ (1 : Int32) = (0 : Int32))).2 (by decide) (by decide)
    have r1518 := r1517.iconst (pc' := 17) (0 : Int32) d5_16 rfl rfl
    have e0 : e' = 0 := by rw [← he]; unfold valF; rw [if_pos (H.nil.mp hz)]
    subst e0
    exact ⟨_, _, r1518.retZ d5_17 rfl (t := .boolean) (by simp) (0 : Int32) rfl (by decide) (by decide), rfl, rfl⟩
  · -- not empty
    have hl := fun q => hz (H.nil.mpr q)
    obtain ⟨v1521, h1522, hq1520, r1519⟩ := r1512.callV (pc' := 4) (a := a) [] (rest := []) 0 d5_1 (hw _ (List.mem_of_getElem? (i := 34) rfl)) (hw _ (List.mem_of_getElem? (i := 35) rfl)) (r1512.nface (hw _ (List.mem_of_getElem? (i := 37) rfl)) rfl) (hw _ (List.mem_of_getElem? (i := 37) rfl)) (hw _ (List.mem_of_getElem? (i := 36) rfl)) (hw _ (List.mem_of_getElem? (i := 8) rfl)) (hw _ (List.mem_of_getElem? (i := 38) rfl)) (by decide) (s_emp0 l Z a0 hw a b cd z F h0 n0 A hz) A.1 pd_3 rfl rfl rfl (Nat.le_of_ble_eq_true rfl) (by decide) (by decide) (k' := 0) (n' := 0) rfl rfl (by decide) (by decide) rfl
    obtain ⟨rfl, rfl⟩ := hq1520
    dsimp only [Option.toList, List.cons_append, List.nil_append] at r1519
    have r1523 := r1519.ifF (pc' := 7) d5_4 (teq (by decide : (0 : Int32) = (0 : Int32))).2 rfl
    have r1524 := r1523.aloadN (pc' := 8) d5_7 rfl rfl rfl
    obtain ⟨v1527, h1528, hq1526, r1525⟩ := r1524.callV (pc' := 11) (a := a) [] (rest := []) 0 d5_8 (hw _ (List.mem_of_getElem? (i := 39) rfl)) (hw _ (List.mem_of_getElem? (i := 40) rfl)) (r1524.nface (hw _ (List.mem_of_getElem? (i := 42) rfl)) rfl) (hw _ (List.mem_of_getElem? (i := 42) rfl)) (hw _ (List.mem_of_getElem? (i := 41) rfl)) (hw _ (List.mem_of_getElem? (i := 8) rfl)) (hw _ (List.mem_of_getElem? (i := 43) rfl)) (by decide) (s_lenX l Z a0 hw a b cd z ln F cF h0 n0 A H cs vF SS O0) A.1 pd_1 rfl rfl rfl (Nat.le_of_ble_eq_true rfl) (by decide) (by decide) (k' := 0) (n' := 0) rfl rfl (by decide) (by decide) rfl
    obtain ⟨rfl, rfl⟩ := hq1526
    dsimp only [Option.toList, List.cons_append, List.nil_append] at r1525
    have r1529 := r1525.bipush (pc' := 13) (64 : Int32) d5_11 rfl rfl
    by_cases hc1530 : (64 : Int32) < ln
    · -- yes
      have r1531 := r1529.icF (pc' := 16) d5_13 (tlt hc1530).2.2.2 rfl
      have r1532 := r1531.iconst (pc' := 17) (0 : Int32) d5_16 rfl rfl
      have e0 : e' = 0 := by rw [← he]; unfold valF; rw [if_neg hl, if_pos hc1530]
      subst e0
      exact ⟨_, _, r1532.retZ d5_17 rfl (t := .boolean) (by simp) (0 : Int32) rfl (by decide) (by decide), rfl, rfl⟩
    · -- not no
      have r1533 := r1529.icT (pc' := 18) d5_13 (flt hc1530).2.2.2 (by decide) (by decide)
      have r1534 := r1533.iconst (pc' := 19) (0 : Int32) d5_18 rfl rfl
      have r1535 := r1534.istoreN (pc' := 20) (L' := #[.val (.ref a), .val (.int (0 : Int32))]) d5_19 rfl rfl
      have loop : ∀ (t : Nat) (i : Int32), i.toInt + t = ln.toInt → ¬ i < 0 → Rch p l e ({ frames := 5, cells := 0, slots := 0, locals := 66 } : Room) s m #[(.ref a)] below meth c Z (⟨"com/example/hermod/hermod/model/Names", "isValid", "(Ljava/lang/String;)Z"⟩ : MethodName) prog_12_method_2_code 2 (some .boolean) n0 T0 (mkF m 0 #[.val (.ref a), .unset] []) 0 0 h0 (mkF m 20 #[.val (.ref a), .val (.int i)] []) → ∃ v h, Don p l e ({ frames := 5, cells := 0, slots := 0, locals := 66 } : Room) s m #[(.ref a)] below meth c (some .boolean) n0 T0 (mkF m 0 #[.val (.ref a), .unset] []) v h ∧ (v = some (.int (if allF cF i.toNatClampNeg t = true then (1 : Int32) else (0 : Int32))) ∧ h0 = h) := by
        intro t
        induction t with
        | zero =>
          intro i hi h1 r
          have r1536 := r.iloadN (pc' := 21) d5_20 rfl rfl
          have r1537 := r1536.aloadN (pc' := 22) d5_21 rfl rfl rfl
          obtain ⟨v1540, h1541, hq1539, r1538⟩ := r1537.callV (pc' := 25) (a := a) [] (rest := [(.int i)]) 1 d5_22 (hw _ (List.mem_of_getElem? (i := 39) rfl)) (hw _ (List.mem_of_getElem? (i := 40) rfl)) (r1537.nface (hw _ (List.mem_of_getElem? (i := 42) rfl)) rfl) (hw _ (List.mem_of_getElem? (i := 42) rfl)) (hw _ (List.mem_of_getElem? (i := 41) rfl)) (hw _ (List.mem_of_getElem? (i := 8) rfl)) (hw _ (List.mem_of_getElem? (i := 43) rfl)) (by decide) (s_lenX l Z a0 hw a b cd z ln F cF h0 n0 A H cs vF SS O0) A.1 pd_1 rfl rfl rfl (Nat.le_of_ble_eq_true rfl) (by decide) (by decide) (k' := 0) (n' := 0) rfl rfl (by decide) (by decide) rfl
          obtain ⟨rfl, rfl⟩ := hq1539
          dsimp only [Option.toList, List.cons_append, List.nil_append] at r1538
          have hn : ¬ i < ln := by rw [Int32.lt_iff_toInt_lt]; omega
          have r1542 := r1538.icT (pc' := 47) d5_25 (flt hn).2.1 (by decide) (by decide)
          have r1543 := r1542.iconst (pc' := 48) (1 : Int32) d5_47 rfl rfl
          exact ⟨_, _, r1543.retZ d5_48 rfl (t := .boolean) (by simp) (1 : Int32) rfl (by decide) (by decide), ⟨by simp [allF], rfl⟩⟩
        | succ t ih =>
          intro i hi h1 r
          have r1544 := r.iloadN (pc' := 21) d5_20 rfl rfl
          have r1545 := r1544.aloadN (pc' := 22) d5_21 rfl rfl rfl
          obtain ⟨v1548, h1549, hq1547, r1546⟩ := r1545.callV (pc' := 25) (a := a) [] (rest := [(.int i)]) 1 d5_22 (hw _ (List.mem_of_getElem? (i := 39) rfl)) (hw _ (List.mem_of_getElem? (i := 40) rfl)) (r1545.nface (hw _ (List.mem_of_getElem? (i := 42) rfl)) rfl) (hw _ (List.mem_of_getElem? (i := 42) rfl)) (hw _ (List.mem_of_getElem? (i := 41) rfl)) (hw _ (List.mem_of_getElem? (i := 8) rfl)) (hw _ (List.mem_of_getElem? (i := 43) rfl)) (by decide) (s_lenX l Z a0 hw a b cd z ln F cF h0 n0 A H cs vF SS O0) A.1 pd_1 rfl rfl rfl (Nat.le_of_ble_eq_true rfl) (by decide) (by decide) (k' := 0) (n' := 0) rfl rfl (by decide) (by decide) rfl
          obtain ⟨rfl, rfl⟩ := hq1547
          dsimp only [Option.toList, List.cons_append, List.nil_append] at r1546
          have hn : i < ln := by rw [Int32.lt_iff_toInt_lt]; omega
          have r1550 := r1546.icF (pc' := 28) d5_25 (tlt hn).2.1 rfl
          have r1551 := r1550.aloadN (pc' := 29) d5_28 rfl rfl rfl
          have r1552 := r1551.iloadN (pc' := 30) d5_29 rfl rfl
          obtain ⟨v1555, h1556, hq1554, r1553⟩ := r1552.callV (pc' := 33) (a := a) [(.int i)] (rest := []) 0 d5_30 (hw _ (List.mem_of_getElem? (i := 50) rfl)) (hw _ (List.mem_of_getElem? (i := 51) rfl)) (r1552.nface (hw _ (List.mem_of_getElem? (i := 53) rfl)) rfl) (hw _ (List.mem_of_getElem? (i := 53) rfl)) (hw _ (List.mem_of_getElem? (i := 52) rfl)) (hw _ (List.mem_of_getElem? (i := 8) rfl)) (hw _ (List.mem_of_getElem? (i := 54) rfl)) (by decide) (s_atX l Z a0 hw a b cd z ln F cF h0 n0 A H i h1 hn cs vF SS O0) A.1 pd_5 rfl rfl rfl (Nat.le_of_ble_eq_true rfl) (by decide) (by decide) (k' := 0) (n' := 0) rfl rfl (by decide) (by decide) rfl
          obtain ⟨rfl, rfl⟩ := hq1554
          dsimp only [Option.toList, List.cons_append, List.nil_append] at r1553
          by_cases ho : okc (cF i.toNatClampNeg)
          · -- 1
            obtain ⟨v1559, h1560, hq1558, r1557⟩ := r1553.callS (pc' := 36) [(.int (cF i.toNatClampNeg))] (rest := []) 0 d5_33 (hw _ (List.mem_of_getElem? (i := 72) rfl)) (hw _ (List.mem_of_getElem? (i := 73) rfl)) (hw _ (List.mem_of_getElem? (i := 32) rfl)) (hw _ (List.mem_of_getElem? (i := 74) rfl)) (by decide) (c_nc1 l Z a0 hw (cF i.toNatClampNeg) h0 n0 ho) pd_4 rfl rfl rfl (Nat.le_of_ble_eq_true rfl) (by decide) (by decide) (k' := 0) (n' := 0) rfl rfl (by decide) (by decide) rfl
            obtain ⟨rfl, rfl⟩ := hq1558
            dsimp only [Option.toList, List.cons_append, List.nil_append] at r1557
            have r1561 := r1557.ifT (pc' := 41) d5_36 (feq (by decide : ¬ (1 : Int32) = (0 : Int32))).2 (by decide) (by decide)
            have r1562 := r1561.iinc (pc' := 44) (L' := #[.val (.ref a), .val (.int (i + (1 : Int32)))]) (1 : Int32) d5_41 rfl rfl rfl rfl rfl
            have r1563 := r1562.goto (pc' := 20) d5_44 (by decide) (by decide)
            have h100 : (100 : Int32).toInt = 100 := rfl
            have h0' : (0 : Int32).toInt = 0 := rfl
            have l1' := Int32.lt_iff_toInt_lt.mp l1
            have h1' : ¬ i.toInt < (0 : Int32).toInt := fun q => h1 (Int32.lt_iff_toInt_lt.mpr q)
            have hs := i_succ (i := i) (by omega) (by omega)
            have g := ih (i + (1 : Int32)) (by rw [hs.1]; omega) (by rw [Int32.lt_iff_toInt_lt, hs.1]; omega) r1563
            rw [hs.2] at g
            have e1 : allF cF i.toNatClampNeg (t + 1) = allF cF (i.toNatClampNeg + 1) t := by simp only [allF, if_pos ho]
            rw [e1]
            exact g
          · -- 0
            obtain ⟨v1566, h1567, hq1565, r1564⟩ := r1553.callS (pc' := 36) [(.int (cF i.toNatClampNeg))] (rest := []) 0 d5_33 (hw _ (List.mem_of_getElem? (i := 72) rfl)) (hw _ (List.mem_of_getElem? (i := 73) rfl)) (hw _ (List.mem_of_getElem? (i := 32) rfl)) (hw _ (List.mem_of_getElem? (i := 74) rfl)) (by decide) (c_nc0 l Z a0 hw (cF i.toNatClampNeg) h0 n0 ho) pd_4 rfl rfl rfl (Nat.le_of_ble_eq_true rfl) (by decide) (by decide) (k' := 0) (n' := 0) rfl rfl (by decide) (by decide) rfl
            obtain ⟨rfl, rfl⟩ := hq1565
            dsimp only [Option.toList, List.cons_append, List.nil_append] at r1564
            have r1568 := r1564.ifF (pc' := 39) d5_36 (teq (by decide : (0 : Int32) = (0 : Int32))).2 rfl
            have r1569 := r1568.iconst (pc' := 40) (0 : Int32) d5_39 rfl rfl
            exact ⟨_, _, r1569.retZ d5_40 rfl (t := .boolean) (by simp) (0 : Int32) rfl (by decide) (by decide), ⟨by simp [allF, ho], rfl⟩⟩
      have he2 : e' = if allF cF 0 ln.toNatClampNeg = true then (1 : Int32) else (0 : Int32) := by rw [← he]; unfold valF; rw [if_neg hl, if_neg hc1530]
      have l0' : ¬ ln.toInt < (0 : Int32).toInt := fun q => l0 (Int32.lt_iff_toInt_lt.mpr q)
      have h0' : (0 : Int32).toInt = 0 := rfl
      subst he2
      exact loop ln.toNatClampNeg (0 : Int32) (by have : ln.toNatClampNeg = ln.toInt.toNat := rfl; omega) (by decide) r1535
def F64 : List Int32 := [65, 66, 67, 68, 69, 70, 71, 72, 73, 74, 75, 76, 77, 78, 79, 80, 81, 82, 83, 84, 85, 86, 87, 88, 89, 90, 97, 98, 99, 100, 101, 102, 103, 104, 105, 106, 107, 108, 109, 110, 111, 112, 113, 114, 115, 116, 117, 118, 119, 120, 121, 122, 48, 49, 50, 51, 52, 53, 54, 55, 56, 57, 46, 95]
def F65 : List Int32 := [65, 66, 67, 68, 69, 70, 71, 72, 73, 74, 75, 76, 77, 78, 79, 80, 81, 82, 83, 84, 85, 86, 87, 88, 89, 90, 97, 98, 99, 100, 101, 102, 103, 104, 105, 106, 107, 108, 109, 110, 111, 112, 113, 114, 115, 116, 117, 118, 119, 120, 121, 122, 48, 49, 50, 51, 52, 53, 54, 55, 56, 57, 46, 95, 45]
theorem v64 : valF (chr0 F64) 64 = 1 := by decide +kernel
theorem v65 : valF (chr0 F65) 65 = 0 := by decide +kernel
theorem pd_17 : parseMethodDescriptor "([C)V" = some ⟨[(.array .char)], none⟩ := by decide +kernel
theorem pd_12 : parseMethodDescriptor "(Ljava/lang/String;)Z" = some ⟨[(.object "java/lang/String")], some .boolean⟩ := by decide +kernel
set_option maxRecDepth 65536 in
set_option maxHeartbeats 40000000 in
theorem law (l : Launch) (Z : State) (a0 : Array Value) (hw : ∀ d ∈ tables_1, d.before a0 Z = true) (x0 x1 x2 x3 : Int32) (h0 : Heap) (n0 : Nat) (Z0 : n0 ≤ h0.size) (cs : Int32) (vF : Value) (SS : Stt Z cs vF) (O0 : Old Z n0 h0) :
    CtrW l Z EL1 x code maxLocals ret room_1 #[(.int x0), (.int x1), (.int x2), (.int x3)] h0 n0 (fun v h => v = some (.int 1)) := by
  refine entW (plainFor_of_name pn_com_example_hermod_hermod_model_NamesIsValidPinLaw) (L0 := #[.val (.int x0), .val (.int x1), .val (.int x2), .val (.int x3), .unset, .unset, .unset, .unset, .unset, .unset, .unset, .unset]) (fun m => by first | (simp [entryFrame, mkF, argsToLocals, Value.category, maxLocals]; done) | rfl) (ew1 hw) ?_
  intro p e s m below meth c T0 r0 wd0
  have r1570 := r0.iloadN (pc' := 1) at_0 rfl rfl
  have r1571 := r1570.iconst (pc' := 2) (3 : Int32) at_1 rfl rfl
  have r1572 := r1571.iand (pc' := 3) at_2 rfl rfl
  have r1573 := r1572.istore (pc' := 5) (L' := #[.val (.int x0), .val (.int x1), .val (.int x2), .val (.int x3), .val (.int (x0 &&& (3 : Int32))), .unset, .unset, .unset, .unset, .unset, .unset, .unset]) at_3 rfl rfl
  have r1574 := r1573.iloadN (pc' := 6) at_5 rfl rfl
  obtain ⟨v1577, h1578, hq1576, r1575⟩ := r1574.callS (pc' := 9) [(.int x1)] (rest := []) 0 at_6 (hw _ (List.mem_of_getElem? (i := 0) rfl)) (hw _ (List.mem_of_getElem? (i := 1) rfl)) (hw _ (List.mem_of_getElem? (i := 2) rfl)) (hw _ (List.mem_of_getElem? (i := 3) rfl)) (by decide) (c_ch l Z a0 hw x1 h0 n0) pd_5 rfl rfl rfl (Nat.le_of_ble_eq_true rfl) (by decide) (by decide) (k' := 0) (n' := 0) rfl rfl (by decide) (by decide) rfl
  obtain ⟨x, rfl, rx, rfl⟩ := hq1576
  dsimp only [Option.toList, List.cons_append, List.nil_append] at r1575
  have r1579 := r1575.istore (pc' := 11) (L' := #[.val (.int x0), .val (.int x1), .val (.int x2), .val (.int x3), .val (.int (x0 &&& (3 : Int32))), .val (.int x), .unset, .unset, .unset, .unset, .unset, .unset]) at_9 rfl rfl
  have r1580 := r1579.iloadN (pc' := 12) at_11 rfl rfl
  obtain ⟨v1583, h1584, hq1582, r1581⟩ := r1580.callS (pc' := 15) [(.int x2)] (rest := []) 0 at_12 (hw _ (List.mem_of_getElem? (i := 0) rfl)) (hw _ (List.mem_of_getElem? (i := 1) rfl)) (hw _ (List.mem_of_getElem? (i := 2) rfl)) (hw _ (List.mem_of_getElem? (i := 3) rfl)) (by decide) (c_ch l Z a0 hw x2 h0 n0) pd_5 rfl rfl rfl (Nat.le_of_ble_eq_true rfl) (by decide) (by decide) (k' := 0) (n' := 0) rfl rfl (by decide) (by decide) rfl
  obtain ⟨y, rfl, ry, rfl⟩ := hq1582
  dsimp only [Option.toList, List.cons_append, List.nil_append] at r1581
  have r1585 := r1581.istore (pc' := 17) (L' := #[.val (.int x0), .val (.int x1), .val (.int x2), .val (.int x3), .val (.int (x0 &&& (3 : Int32))), .val (.int x), .val (.int y), .unset, .unset, .unset, .unset, .unset]) at_15 rfl rfl
  have r1586 := r1585.iloadN (pc' := 18) at_17 rfl rfl
  obtain ⟨v1589, h1590, hq1588, r1587⟩ := r1586.callS (pc' := 21) [(.int x3)] (rest := []) 0 at_18 (hw _ (List.mem_of_getElem? (i := 0) rfl)) (hw _ (List.mem_of_getElem? (i := 1) rfl)) (hw _ (List.mem_of_getElem? (i := 2) rfl)) (hw _ (List.mem_of_getElem? (i := 3) rfl)) (by decide) (c_ch l Z a0 hw x3 h0 n0) pd_5 rfl rfl rfl (Nat.le_of_ble_eq_true rfl) (by decide) (by decide) (k' := 0) (n' := 0) rfl rfl (by decide) (by decide) rfl
  obtain ⟨z, rfl, rz, rfl⟩ := hq1588
  dsimp only [Option.toList, List.cons_append, List.nil_append] at r1587
  have r1591 := r1587.istore (pc' := 23) (L' := #[.val (.int x0), .val (.int x1), .val (.int x2), .val (.int x3), .val (.int (x0 &&& (3 : Int32))), .val (.int x), .val (.int y), .val (.int z), .unset, .unset, .unset, .unset]) at_21 rfl rfl
  have r1592 := r1591.iload (pc' := 25) at_23 rfl rfl
  have h4 := and3 x0
  obtain ⟨nn, hnn⟩ : ∃ nn : Int32, x0 &&& (3 : Int32) = nn := ⟨_, rfl⟩
  rw [hnn] at h4 r1592
  rcases h4 with rfl | rfl | rfl | rfl
  · -- 0
    have r1593 := r1592.ifF (pc' := 28) at_25 (teq (by decide : (0 : Int32) = (0 : Int32))).2 rfl
    obtain ⟨h1594, ob0, hb1594, E1594, EX1594, D1594, r1594⟩ := r1593.newO (pc' := 31) at_28 (hw _ (List.mem_of_getElem? (i := 6) rfl)) (hw _ (List.mem_of_getElem? (i := 7) rfl)) (hw _ (List.mem_of_getElem? (i := 8) rfl)) (k' := 1) (n' := 4) rfl rfl (by decide) (by decide) rfl
    have g1595 : n0 ≤ ob0 := hb1594 ▸ Z0
    have sz1596 : h0.size ≤ ob0 := hb1594 ▸ ((Keep.refl h0 [])).1
    have K1597 := ((Keep.refl h0 [])).ext E1594
    have zp1598 : n0 ≤ h1594.size := Nat.le_trans Z0 E1594.1
    have old1599 := (O0).ext E1594
    have f1600 : Fld Z h1594 ob0 "java/lang/String" "value" "[B" .null := D1594 (Or.inr (hw _ (List.mem_of_getElem? (i := 22) rfl))) (ty := (.array .byte)) (by decide)
    have f1601 : Fld Z h1594 ob0 "java/lang/String" "coder" "B" (.int (0 : Int32)) := D1594 (Or.inr (hw _ (List.mem_of_getElem? (i := 23) rfl))) (ty := .byte) (by decide)
    have wd1594 := wd0.ext E1594
    have r1602 := r1594.dup (pc' := 32) at_31 rfl rfl
    have r1603 := r1602.iconst (pc' := 33) (0 : Int32) at_32 rfl rfl
    obtain ⟨h1604, b1604, kc1604, hb1604, E1604, V1604, r1604⟩ := r1603.newP (pc' := 35) at_33 (hw _ (List.mem_of_getElem? (i := 9) rfl)) (by decide) (cap := 3) (by decide) (by decide) (k' := 2) (n' := 7) rfl rfl (by decide) (by decide) rfl
    have ne1605 : ob0 ≠ b1604 := Nat.ne_of_lt (hb1604 ▸ EX1594.lt)
    have g1606 : n0 ≤ b1604 := hb1604 ▸ zp1598
    have sz1607 : h0.size ≤ b1604 := hb1604 ▸ (K1597).1
    have f1608 := EX1594.ext E1604
    have f1609 := f1600.ext E1604
    have f1610 := f1601.ext E1604
    have K1611 := (K1597).ext E1604
    have zp1612 : n0 ≤ h1604.size := Nat.le_trans zp1598 E1604.1
    have old1613 := (old1599).ext E1604
    have f1614 : ArC Z h1604 b1604 (0 : Int32) [] := ArC.new V1604 0
    have wd1604 := wd1594.ext E1604
    obtain ⟨v1615, vm1615, h1615, Q1615, wd1615, C1615, r1615⟩ := r1604.callCW (pc' := 38) (a := ob0) [(.ref b1604)] (rest := [(.ref ob0)]) 1 wd1604 (ew1 hw) at_35 rfl (hw _ (List.mem_of_getElem? (i := 10) rfl)) (hw _ (List.mem_of_getElem? (i := 11) rfl)) (hw _ (List.mem_of_getElem? (i := 8) rfl)) (hw _ (List.mem_of_getElem? (i := 12) rfl)) (by decide) (s_n1_0 l Z a0 hw ob0 b1604 h1604 n0 f1608 f1610 f1609 g1595 zp1612 f1614) pd_17 rfl rfl rfl (Nat.le_of_ble_eq_true rfl) (by decide) (by decide) (k' := 6) (n' := 15) rfl rfl (by decide) (by decide) rfl
    obtain ⟨rfl, ⟨sb, ST1⟩, K1⟩ := Q1615
    dsimp only [Option.toList, List.cons_append, List.nil_append] at r1615
    have f1616 := f1608.keep K1
    have f1617 := f1614.keep K1 (ninS ((ne1605).symm) nin0)
    have zp1618 : n0 ≤ h1615.size := Nat.le_trans zp1612 K1.1
    have K1619 := (K1611).trans K1 (allS (Or.inr sz1596) all0)
    have old1620 := (old1613).keep K1 (allS g1595 all0)
    have r1621 := r1615.astore (pc' := 40) (L' := #[.val (.int x0), .val (.int x1), .val (.int x2), .val (.int x3), .val (.int (0 : Int32)), .val (.int x), .val (.int y), .val (.int z), .val (.ref ob0), .unset, .unset, .unset]) at_38 rfl rfl rfl
    have r1622 := r1621.goto (pc' := 127) at_40 (by decide) (by decide)
    have r1623 := r1622.iload (pc' := 129) at_127 rfl rfl
    have r1624 := r1623.iconst (pc' := 130) (1 : Int32) at_129 rfl rfl
    have r1625 := r1624.icT (pc' := 173) at_130 (tlt (by decide : (0 : Int32) < (1 : Int32))).1 (by decide) (by decide)
    have r1626 := r1625.iconst (pc' := 174) (0 : Int32) at_173 rfl rfl
    have r1627 := r1626.istore (pc' := 176) (L' := #[.val (.int x0), .val (.int x1), .val (.int x2), .val (.int x3), .val (.int (0 : Int32)), .val (.int x), .val (.int y), .val (.int z), .val (.ref ob0), .val (.int (0 : Int32)), .unset, .unset]) at_174 rfl rfl
    obtain ⟨sa1628, sb1628, kb1628, vm1628, h1628, E1628, wd1628, C1628, EX1628, FC1628, FV1628, V1628, ne1628, r1628⟩ := r1627.ldcS (pc' := 178) (vs := (F64.map Value.int)) (z := (64 : Int32)) 256 wd1615 at_176 (hw _ (List.mem_of_getElem? (i := 28) rfl)) (wS1 hw) (ew1 hw) (List.mem_of_getElem? (i := 0) rfl) ⟨by decide, by decide +kernel⟩ (by decide) (by decide) (by decide) (by decide) (k' := 8) (n' := 275) rfl rfl (by decide) (by decide) rfl
    have f1629 := f1616.ext E1628
    have f1630 := f1617.ext E1628
    have K1631 := (K1619).ext E1628
    have zp1632 : n0 ≤ h1628.size := Nat.le_trans zp1618 E1628.1
    have old1633 := (old1620).ext E1628
    have ST1628 := ST1.ext E1628
    have SL1628 : Str Z h1628 sa1628 sb1628 (0 : Int32) (64 : Int32) F64 := ⟨EX1628, FC1628, FV1628, ⟨kb1628, V1628⟩⟩
    have r1634 := r1628.astore (pc' := 180) (L' := #[.val (.int x0), .val (.int x1), .val (.int x2), .val (.int x3), .val (.int (0 : Int32)), .val (.int x), .val (.int y), .val (.int z), .val (.ref ob0), .val (.int (0 : Int32)), .val (.ref sa1628), .unset]) at_178 rfl rfl rfl
    obtain ⟨sa1635, sb1635, kb1635, vm1635, h1635, E1635, wd1635, C1635, EX1635, FC1635, FV1635, V1635, ne1635, r1635⟩ := r1634.ldcS (pc' := 182) (vs := (F65.map Value.int)) (z := (65 : Int32)) 260 wd1628 at_180 (hw _ (List.mem_of_getElem? (i := 29) rfl)) (wS1 hw) (ew1 hw) (List.mem_of_getElem? (i := 1) rfl) ⟨by decide, by decide +kernel⟩ (by decide) (by decide) (by decide) (by decide) (k' := 10) (n' := 539) rfl rfl (by decide) (by decide) rfl
    have f1636 := f1629.ext E1635
    have f1637 := f1630.ext E1635
    have K1638 := (K1631).ext E1635
    have zp1639 : n0 ≤ h1635.size := Nat.le_trans zp1632 E1635.1
    have old1640 := (old1633).ext E1635
    have ST1635 := ST1628.ext E1635
    have SL1635 : Str Z h1635 sa1635 sb1635 (0 : Int32) (65 : Int32) F65 := ⟨EX1635, FC1635, FV1635, ⟨kb1635, V1635⟩⟩
    have r1641 := r1635.astore (pc' := 184) (L' := #[.val (.int x0), .val (.int x1), .val (.int x2), .val (.int x3), .val (.int (0 : Int32)), .val (.int x), .val (.int y), .val (.int z), .val (.ref ob0), .val (.int (0 : Int32)), .val (.ref sa1628), .val (.ref sa1635)]) at_182 rfl rfl rfl
    have r1642 := r1641.aload (pc' := 186) at_184 rfl rfl rfl
    obtain ⟨v1645, h1646, hq1644, r1643⟩ := r1642.callS (pc' := 189) [(.ref ob0)] (rest := []) 0 at_186 (hw _ (List.mem_of_getElem? (i := 30) rfl)) (hw _ (List.mem_of_getElem? (i := 31) rfl)) (hw _ (List.mem_of_getElem? (i := 32) rfl)) (hw _ (List.mem_of_getElem? (i := 33) rfl)) (by decide) (v_valid l Z a0 hw ob0 sb 0 0 0 (0 : Int32) [] (chr0 []) h1635 n0 ST1635 (Or.inl ⟨rfl, rfl, rfl⟩) (by decide) (by decide) (by decide) cs vF SS old1640) pd_12 rfl rfl rfl (Nat.le_of_ble_eq_true rfl) (by decide) (by decide) (k' := 10) (n' := 539) rfl rfl (by decide) (by decide) rfl
    obtain ⟨rfl, rfl⟩ := hq1644
    dsimp only [Option.toList, List.cons_append, List.nil_append] at r1643
    have r1647 := r1643.iload (pc' := 191) at_189 rfl rfl
    have r1648 := r1647.icF (pc' := 194) at_191 (teq (by decide : (0 : Int32) = (0 : Int32))).2 rfl
    have r1649 := r1648.aload (pc' := 196) at_194 rfl rfl rfl
    obtain ⟨v1652, h1653, hq1651, r1650⟩ := r1649.callS (pc' := 199) [(.ref sa1628)] (rest := []) 0 at_196 (hw _ (List.mem_of_getElem? (i := 30) rfl)) (hw _ (List.mem_of_getElem? (i := 31) rfl)) (hw _ (List.mem_of_getElem? (i := 32) rfl)) (hw _ (List.mem_of_getElem? (i := 33) rfl)) (by decide) (v_valid l Z a0 hw sa1628 sb1628 0 (64 : Int32) (64 : Int32) (1 : Int32) F64 (chr0 F64) h1635 n0 (SL1628.ext E1635) (Or.inl ⟨rfl, rfl, rfl⟩) (by decide) (by decide) v64 cs vF SS old1640) pd_12 rfl rfl rfl (Nat.le_of_ble_eq_true rfl) (by decide) (by decide) (k' := 10) (n' := 539) rfl rfl (by decide) (by decide) rfl
    obtain ⟨rfl, rfl⟩ := hq1651
    dsimp only [Option.toList, List.cons_append, List.nil_append] at r1650
    have r1654 := r1650.ifF (pc' := 202) at_199 (feq (by decide : ¬ (1 : Int32) = (0 : Int32))).1 rfl
    have r1655 := r1654.aload (pc' := 204) at_202 rfl rfl rfl
    obtain ⟨v1658, h1659, hq1657, r1656⟩ := r1655.callS (pc' := 207) [(.ref sa1635)] (rest := []) 0 at_204 (hw _ (List.mem_of_getElem? (i := 30) rfl)) (hw _ (List.mem_of_getElem? (i := 31) rfl)) (hw _ (List.mem_of_getElem? (i := 32) rfl)) (hw _ (List.mem_of_getElem? (i := 33) rfl)) (by decide) (v_valid l Z a0 hw sa1635 sb1635 0 (65 : Int32) (65 : Int32) (0 : Int32) F65 (chr0 F65) h1635 n0 (SL1635) (Or.inl ⟨rfl, rfl, rfl⟩) (by decide) (by decide) v65 cs vF SS old1640) pd_12 rfl rfl rfl (Nat.le_of_ble_eq_true rfl) (by decide) (by decide) (k' := 10) (n' := 539) rfl rfl (by decide) (by decide) rfl
    obtain ⟨rfl, rfl⟩ := hq1657
    dsimp only [Option.toList, List.cons_append, List.nil_append] at r1656
    have r1660 := r1656.ifF (pc' := 210) at_207 (teq (by decide : (0 : Int32) = (0 : Int32))).2 rfl
    have r1661 := r1660.iconst (pc' := 211) (1 : Int32) at_210 rfl rfl
    have r1662 := r1661.goto (pc' := 215) at_211 (by decide) (by decide)
    exact ⟨_, _, Don.wide (r1662.retZ at_215 rfl (t := .boolean) (by simp) (1 : Int32) rfl (by decide) (by decide)) r1662 wd1635, rfl⟩
  · -- 1
    have r1663 := r1592.ifT (pc' := 43) at_25 (feq (by decide : ¬ (1 : Int32) = (0 : Int32))).2 (by decide) (by decide)
    have r1664 := r1663.iload (pc' := 45) at_43 rfl rfl
    have r1665 := r1664.iconst (pc' := 46) (1 : Int32) at_45 rfl rfl
    have r1666 := r1665.icF (pc' := 49) at_46 (teq (by decide : (1 : Int32) = (1 : Int32))).2 rfl
    obtain ⟨h1667, ob1, hb1667, E1667, EX1667, D1667, r1667⟩ := r1666.newO (pc' := 52) at_49 (hw _ (List.mem_of_getElem? (i := 6) rfl)) (hw _ (List.mem_of_getElem? (i := 7) rfl)) (hw _ (List.mem_of_getElem? (i := 8) rfl)) (k' := 1) (n' := 4) rfl rfl (by decide) (by decide) rfl
    have g1668 : n0 ≤ ob1 := hb1667 ▸ Z0
    have sz1669 : h0.size ≤ ob1 := hb1667 ▸ ((Keep.refl h0 [])).1
    have K1670 := ((Keep.refl h0 [])).ext E1667
    have zp1671 : n0 ≤ h1667.size := Nat.le_trans Z0 E1667.1
    have old1672 := (O0).ext E1667
    have f1673 : Fld Z h1667 ob1 "java/lang/String" "value" "[B" .null := D1667 (Or.inr (hw _ (List.mem_of_getElem? (i := 22) rfl))) (ty := (.array .byte)) (by decide)
    have f1674 : Fld Z h1667 ob1 "java/lang/String" "coder" "B" (.int (0 : Int32)) := D1667 (Or.inr (hw _ (List.mem_of_getElem? (i := 23) rfl))) (ty := .byte) (by decide)
    have wd1667 := wd0.ext E1667
    have r1675 := r1667.dup (pc' := 53) at_52 rfl rfl
    have r1676 := r1675.iconst (pc' := 54) (1 : Int32) at_53 rfl rfl
    obtain ⟨h1677, b1677, kc1677, hb1677, E1677, V1677, r1677⟩ := r1676.newP (pc' := 56) at_54 (hw _ (List.mem_of_getElem? (i := 9) rfl)) (by decide) (cap := 3) (by decide) (by decide) (k' := 2) (n' := 7) rfl rfl (by decide) (by decide) rfl
    have ne1678 : ob1 ≠ b1677 := Nat.ne_of_lt (hb1677 ▸ EX1667.lt)
    have g1679 : n0 ≤ b1677 := hb1677 ▸ zp1671
    have sz1680 : h0.size ≤ b1677 := hb1677 ▸ (K1670).1
    have f1681 := EX1667.ext E1677
    have f1682 := f1673.ext E1677
    have f1683 := f1674.ext E1677
    have K1684 := (K1670).ext E1677
    have zp1685 : n0 ≤ h1677.size := Nat.le_trans zp1671 E1677.1
    have old1686 := (old1672).ext E1677
    have f1687 : ArC Z h1677 b1677 (1 : Int32) [0] := ArC.new V1677 1
    have wd1677 := wd1667.ext E1677
    have r1688 := r1677.dup (pc' := 57) at_56 rfl rfl
    have r1689 := r1688.iconst (pc' := 58) (0 : Int32) at_57 rfl rfl
    have r1690 := r1689.iload (pc' := 60) at_58 rfl rfl
    obtain ⟨h1691, W1691, V1691, r1691⟩ := r1690.sC (pc' := 61) at_60 f1687 (by decide) (by decide) (Nat.le_of_ble_eq_true rfl) g1679 rfl
    have f1692 := f1681.wr W1691
    have f1693 := f1682.other W1691 (Or.inl (ne1678))
    have f1694 := f1683.other W1691 (Or.inl (ne1678))
    replace V1691 : ArC Z h1691 b1677 (1 : Int32) [nar .char x] := V1691
    have K1695 := (K1684).wr W1691 (Or.inr sz1680)
    have old1696 := (old1686).wr W1691 g1679
    have zp1697 : n0 ≤ h1691.size := Nat.le_trans zp1685 (Nat.le_of_eq W1691.size.symm)
    have wd1691 := wd1677.wr W1691 (f1687.safe r1690.hal)
    rw [nar_of rx.1 rx.2] at V1691
    obtain ⟨v1700, h1701, hq1699, r1698⟩ := r1691.callC (pc' := 64) (a := ob1) [(.ref b1677)] (rest := [(.ref ob1)]) 1 at_61 rfl (hw _ (List.mem_of_getElem? (i := 10) rfl)) (hw _ (List.mem_of_getElem? (i := 11) rfl)) (hw _ (List.mem_of_getElem? (i := 8) rfl)) (hw _ (List.mem_of_getElem? (i := 12) rfl)) (by decide) (s_n1_1 l Z a0 hw ob1 b1677 x h1691 n0 f1692 f1694 f1693 V1691 g1668 ((ne1678).symm) zp1697 rx.1 rx.2 cs vF SS old1696) pd_17 rfl rfl rfl (Nat.le_of_ble_eq_true rfl) (by decide) (by decide) (k' := 4) (n' := 16) rfl rfl (by decide) (by decide) rfl
    obtain ⟨rfl, ⟨sb, cd, b2, FF, cF, ST1, CF, gsb, c0⟩, K1⟩ := hq1699
    dsimp only [Option.toList, List.cons_append, List.nil_append] at r1698
    have wdK := wd1691.keep K1 (allS (Safe.nul r1691.hal f1692 f1693) all0)
    have f1702 := f1692.keep K1
    have f1703 := V1691.keep K1 (ninS ((ne1678).symm) nin0)
    have zp1704 : n0 ≤ h1701.size := Nat.le_trans zp1697 K1.1
    have K1705 := (K1695).trans K1 (allS (Or.inr sz1669) all0)
    have old1706 := (old1696).keep K1 (allS g1668 all0)
    have r1707 := r1698.astore (pc' := 66) (L' := #[.val (.int x0), .val (.int x1), .val (.int x2), .val (.int x3), .val (.int (1 : Int32)), .val (.int x), .val (.int y), .val (.int z), .val (.ref ob1), .unset, .unset, .unset]) at_64 rfl rfl rfl
    have r1708 := r1707.goto (pc' := 127) at_66 (by decide) (by decide)
    have r1709 := r1708.iload (pc' := 129) at_127 rfl rfl
    have r1710 := r1709.iconst (pc' := 130) (1 : Int32) at_129 rfl rfl
    have r1711 := r1710.icF (pc' := 133) at_130 (flt (by decide : ¬ (1 : Int32) < (1 : Int32))).1 rfl
    have r1712 := r1711.iload (pc' := 135) at_133 rfl rfl
    by_cases ox : okc x
    · -- 1
      obtain ⟨v1715, h1716, hq1714, r1713⟩ := r1712.callS (pc' := 138) [(.int x)] (rest := []) 0 at_135 (hw _ (List.mem_of_getElem? (i := 85) rfl)) (hw _ (List.mem_of_getElem? (i := 86) rfl)) (hw _ (List.mem_of_getElem? (i := 2) rfl)) (hw _ (List.mem_of_getElem? (i := 87) rfl)) (by decide) (c_ok1 l Z a0 hw x h1701 n0 rx.1 rx.2 ox) pd_4 rfl rfl rfl (Nat.le_of_ble_eq_true rfl) (by decide) (by decide) (k' := 4) (n' := 16) rfl rfl (by decide) (by decide) rfl
      obtain ⟨rfl, rfl⟩ := hq1714
      dsimp only [Option.toList, List.cons_append, List.nil_append] at r1713
      have r1717 := r1713.ifF (pc' := 141) at_138 (feq (by decide : ¬ (1 : Int32) = (0 : Int32))).1 rfl
      have r1718 := r1717.iload (pc' := 143) at_141 rfl rfl
      have r1719 := r1718.iconst (pc' := 144) (2 : Int32) at_143 rfl rfl
      have r1720 := r1719.icT (pc' := 155) at_144 (tlt (by decide : (1 : Int32) < (2 : Int32))).1 (by decide) (by decide)
      have r1721 := r1720.iload (pc' := 157) at_155 rfl rfl
      have r1722 := r1721.iconst (pc' := 158) (3 : Int32) at_157 rfl rfl
      have r1723 := r1722.icT (pc' := 169) at_158 (tlt (by decide : (1 : Int32) < (3 : Int32))).1 (by decide) (by decide)
      have r1724 := r1723.iconst (pc' := 170) (1 : Int32) at_169 rfl rfl
      have r1725 := r1724.goto (pc' := 174) at_170 (by decide) (by decide)
      have r1726 := r1725.istore (pc' := 176) (L' := #[.val (.int x0), .val (.int x1), .val (.int x2), .val (.int x3), .val (.int (1 : Int32)), .val (.int x), .val (.int y), .val (.int z), .val (.ref ob1), .val (.int (1 : Int32)), .unset, .unset]) at_174 rfl rfl
      obtain ⟨sa1727, sb1727, kb1727, vm1727, h1727, E1727, wd1727, C1727, EX1727, FC1727, FV1727, V1727, ne1727, r1727⟩ := r1726.ldcS (pc' := 178) (vs := (F64.map Value.int)) (z := (64 : Int32)) 256 wdK at_176 (hw _ (List.mem_of_getElem? (i := 28) rfl)) (wS1 hw) (ew1 hw) (List.mem_of_getElem? (i := 0) rfl) ⟨by decide, by decide +kernel⟩ (by decide) (by decide) (by decide) (by decide) (k' := 6) (n' := 276) rfl rfl (by decide) (by decide) rfl
      have f1728 := f1702.ext E1727
      have f1729 := f1703.ext E1727
      have K1730 := (K1705).ext E1727
      have zp1731 : n0 ≤ h1727.size := Nat.le_trans zp1704 E1727.1
      have old1732 := (old1706).ext E1727
      have ST1727 := ST1.ext E1727
      have SL1727 : Str Z h1727 sa1727 sb1727 (0 : Int32) (64 : Int32) F64 := ⟨EX1727, FC1727, FV1727, ⟨kb1727, V1727⟩⟩
      have r1733 := r1727.astore (pc' := 180) (L' := #[.val (.int x0), .val (.int x1), .val (.int x2), .val (.int x3), .val (.int (1 : Int32)), .val (.int x), .val (.int y), .val (.int z), .val (.ref ob1), .val (.int (1 : Int32)), .val (.ref sa1727), .unset]) at_178 rfl rfl rfl
      obtain ⟨sa1734, sb1734, kb1734, vm1734, h1734, E1734, wd1734, C1734, EX1734, FC1734, FV1734, V1734, ne1734, r1734⟩ := r1733.ldcS (pc' := 182) (vs := (F65.map Value.int)) (z := (65 : Int32)) 260 wd1727 at_180 (hw _ (List.mem_of_getElem? (i := 29) rfl)) (wS1 hw) (ew1 hw) (List.mem_of_getElem? (i := 1) rfl) ⟨by decide, by decide +kernel⟩ (by decide) (by decide) (by decide) (by decide) (k' := 8) (n' := 540) rfl rfl (by decide) (by decide) rfl
      have f1735 := f1728.ext E1734
      have f1736 := f1729.ext E1734
      have K1737 := (K1730).ext E1734
      have zp1738 : n0 ≤ h1734.size := Nat.le_trans zp1731 E1734.1
      have old1739 := (old1732).ext E1734
      have ST1734 := ST1727.ext E1734
      have SL1734 : Str Z h1734 sa1734 sb1734 (0 : Int32) (65 : Int32) F65 := ⟨EX1734, FC1734, FV1734, ⟨kb1734, V1734⟩⟩
      have r1740 := r1734.astore (pc' := 184) (L' := #[.val (.int x0), .val (.int x1), .val (.int x2), .val (.int x3), .val (.int (1 : Int32)), .val (.int x), .val (.int y), .val (.int z), .val (.ref ob1), .val (.int (1 : Int32)), .val (.ref sa1727), .val (.ref sa1734)]) at_182 rfl rfl rfl
      have r1741 := r1740.aload (pc' := 186) at_184 rfl rfl rfl
      have he : valF cF (1 : Int32) = (1 : Int32) := by rw [val1]; simp [allF, c0, ox]
      obtain ⟨v1744, h1745, hq1743, r1742⟩ := r1741.callS (pc' := 189) [(.ref ob1)] (rest := []) 0 at_186 (hw _ (List.mem_of_getElem? (i := 30) rfl)) (hw _ (List.mem_of_getElem? (i := 31) rfl)) (hw _ (List.mem_of_getElem? (i := 32) rfl)) (hw _ (List.mem_of_getElem? (i := 33) rfl)) (by decide) (v_valid l Z a0 hw ob1 sb cd b2 (1 : Int32) (1 : Int32) FF cF h1734 n0 ST1734 CF (by decide) (by decide) he cs vF SS old1739) pd_12 rfl rfl rfl (Nat.le_of_ble_eq_true rfl) (by decide) (by decide) (k' := 8) (n' := 540) rfl rfl (by decide) (by decide) rfl
      obtain ⟨rfl, rfl⟩ := hq1743
      dsimp only [Option.toList, List.cons_append, List.nil_append] at r1742
      have r1746 := r1742.iload (pc' := 191) at_189 rfl rfl
      have r1747 := r1746.icF (pc' := 194) at_191 (teq (by decide : (1 : Int32) = (1 : Int32))).2 rfl
      have r1748 := r1747.aload (pc' := 196) at_194 rfl rfl rfl
      obtain ⟨v1751, h1752, hq1750, r1749⟩ := r1748.callS (pc' := 199) [(.ref sa1727)] (rest := []) 0 at_196 (hw _ (List.mem_of_getElem? (i := 30) rfl)) (hw _ (List.mem_of_getElem? (i := 31) rfl)) (hw _ (List.mem_of_getElem? (i := 32) rfl)) (hw _ (List.mem_of_getElem? (i := 33) rfl)) (by decide) (v_valid l Z a0 hw sa1727 sb1727 0 (64 : Int32) (64 : Int32) (1 : Int32) F64 (chr0 F64) h1734 n0 (SL1727.ext E1734) (Or.inl ⟨rfl, rfl, rfl⟩) (by decide) (by decide) v64 cs vF SS old1739) pd_12 rfl rfl rfl (Nat.le_of_ble_eq_true rfl) (by decide) (by decide) (k' := 8) (n' := 540) rfl rfl (by decide) (by decide) rfl
      obtain ⟨rfl, rfl⟩ := hq1750
      dsimp only [Option.toList, List.cons_append, List.nil_append] at r1749
      have r1753 := r1749.ifF (pc' := 202) at_199 (feq (by decide : ¬ (1 : Int32) = (0 : Int32))).1 rfl
      have r1754 := r1753.aload (pc' := 204) at_202 rfl rfl rfl
      obtain ⟨v1757, h1758, hq1756, r1755⟩ := r1754.callS (pc' := 207) [(.ref sa1734)] (rest := []) 0 at_204 (hw _ (List.mem_of_getElem? (i := 30) rfl)) (hw _ (List.mem_of_getElem? (i := 31) rfl)) (hw _ (List.mem_of_getElem? (i := 32) rfl)) (hw _ (List.mem_of_getElem? (i := 33) rfl)) (by decide) (v_valid l Z a0 hw sa1734 sb1734 0 (65 : Int32) (65 : Int32) (0 : Int32) F65 (chr0 F65) h1734 n0 (SL1734) (Or.inl ⟨rfl, rfl, rfl⟩) (by decide) (by decide) v65 cs vF SS old1739) pd_12 rfl rfl rfl (Nat.le_of_ble_eq_true rfl) (by decide) (by decide) (k' := 8) (n' := 540) rfl rfl (by decide) (by decide) rfl
      obtain ⟨rfl, rfl⟩ := hq1756
      dsimp only [Option.toList, List.cons_append, List.nil_append] at r1755
      have r1759 := r1755.ifF (pc' := 210) at_207 (teq (by decide : (0 : Int32) = (0 : Int32))).2 rfl
      have r1760 := r1759.iconst (pc' := 211) (1 : Int32) at_210 rfl rfl
      have r1761 := r1760.goto (pc' := 215) at_211 (by decide) (by decide)
      exact ⟨_, _, Don.wide (r1761.retZ at_215 rfl (t := .boolean) (by simp) (1 : Int32) rfl (by decide) (by decide)) r1761 wd1734, rfl⟩
    · -- 0
      obtain ⟨v1764, h1765, hq1763, r1762⟩ := r1712.callS (pc' := 138) [(.int x)] (rest := []) 0 at_135 (hw _ (List.mem_of_getElem? (i := 85) rfl)) (hw _ (List.mem_of_getElem? (i := 86) rfl)) (hw _ (List.mem_of_getElem? (i := 2) rfl)) (hw _ (List.mem_of_getElem? (i := 87) rfl)) (by decide) (c_ok0 l Z a0 hw x h1701 n0 rx.1 rx.2 ox) pd_4 rfl rfl rfl (Nat.le_of_ble_eq_true rfl) (by decide) (by decide) (k' := 4) (n' := 16) rfl rfl (by decide) (by decide) rfl
      obtain ⟨rfl, rfl⟩ := hq1763
      dsimp only [Option.toList, List.cons_append, List.nil_append] at r1762
      have r1766 := r1762.ifT (pc' := 173) at_138 (teq (by decide : (0 : Int32) = (0 : Int32))).1 (by decide) (by decide)
      have r1767 := r1766.iconst (pc' := 174) (0 : Int32) at_173 rfl rfl
      have r1768 := r1767.istore (pc' := 176) (L' := #[.val (.int x0), .val (.int x1), .val (.int x2), .val (.int x3), .val (.int (1 : Int32)), .val (.int x), .val (.int y), .val (.int z), .val (.ref ob1), .val (.int (0 : Int32)), .unset, .unset]) at_174 rfl rfl
      obtain ⟨sa1769, sb1769, kb1769, vm1769, h1769, E1769, wd1769, C1769, EX1769, FC1769, FV1769, V1769, ne1769, r1769⟩ := r1768.ldcS (pc' := 178) (vs := (F64.map Value.int)) (z := (64 : Int32)) 256 wdK at_176 (hw _ (List.mem_of_getElem? (i := 28) rfl)) (wS1 hw) (ew1 hw) (List.mem_of_getElem? (i := 0) rfl) ⟨by decide, by decide +kernel⟩ (by decide) (by decide) (by decide) (by decide) (k' := 6) (n' := 276) rfl rfl (by decide) (by decide) rfl
      have f1770 := f1702.ext E1769
      have f1771 := f1703.ext E1769
      have K1772 := (K1705).ext E1769
      have zp1773 : n0 ≤ h1769.size := Nat.le_trans zp1704 E1769.1
      have old1774 := (old1706).ext E1769
      have ST1769 := ST1.ext E1769
      have SL1769 : Str Z h1769 sa1769 sb1769 (0 : Int32) (64 : Int32) F64 := ⟨EX1769, FC1769, FV1769, ⟨kb1769, V1769⟩⟩
      have r1775 := r1769.astore (pc' := 180) (L' := #[.val (.int x0), .val (.int x1), .val (.int x2), .val (.int x3), .val (.int (1 : Int32)), .val (.int x), .val (.int y), .val (.int z), .val (.ref ob1), .val (.int (0 : Int32)), .val (.ref sa1769), .unset]) at_178 rfl rfl rfl
      obtain ⟨sa1776, sb1776, kb1776, vm1776, h1776, E1776, wd1776, C1776, EX1776, FC1776, FV1776, V1776, ne1776, r1776⟩ := r1775.ldcS (pc' := 182) (vs := (F65.map Value.int)) (z := (65 : Int32)) 260 wd1769 at_180 (hw _ (List.mem_of_getElem? (i := 29) rfl)) (wS1 hw) (ew1 hw) (List.mem_of_getElem? (i := 1) rfl) ⟨by decide, by decide +kernel⟩ (by decide) (by decide) (by decide) (by decide) (k' := 8) (n' := 540) rfl rfl (by decide) (by decide) rfl
      have f1777 := f1770.ext E1776
      have f1778 := f1771.ext E1776
      have K1779 := (K1772).ext E1776
      have zp1780 : n0 ≤ h1776.size := Nat.le_trans zp1773 E1776.1
      have old1781 := (old1774).ext E1776
      have ST1776 := ST1769.ext E1776
      have SL1776 : Str Z h1776 sa1776 sb1776 (0 : Int32) (65 : Int32) F65 := ⟨EX1776, FC1776, FV1776, ⟨kb1776, V1776⟩⟩
      have r1782 := r1776.astore (pc' := 184) (L' := #[.val (.int x0), .val (.int x1), .val (.int x2), .val (.int x3), .val (.int (1 : Int32)), .val (.int x), .val (.int y), .val (.int z), .val (.ref ob1), .val (.int (0 : Int32)), .val (.ref sa1769), .val (.ref sa1776)]) at_182 rfl rfl rfl
      have r1783 := r1782.aload (pc' := 186) at_184 rfl rfl rfl
      have he : valF cF (1 : Int32) = (0 : Int32) := by rw [val1]; simp [allF, c0, ox]
      obtain ⟨v1786, h1787, hq1785, r1784⟩ := r1783.callS (pc' := 189) [(.ref ob1)] (rest := []) 0 at_186 (hw _ (List.mem_of_getElem? (i := 30) rfl)) (hw _ (List.mem_of_getElem? (i := 31) rfl)) (hw _ (List.mem_of_getElem? (i := 32) rfl)) (hw _ (List.mem_of_getElem? (i := 33) rfl)) (by decide) (v_valid l Z a0 hw ob1 sb cd b2 (1 : Int32) (0 : Int32) FF cF h1776 n0 ST1776 CF (by decide) (by decide) he cs vF SS old1781) pd_12 rfl rfl rfl (Nat.le_of_ble_eq_true rfl) (by decide) (by decide) (k' := 8) (n' := 540) rfl rfl (by decide) (by decide) rfl
      obtain ⟨rfl, rfl⟩ := hq1785
      dsimp only [Option.toList, List.cons_append, List.nil_append] at r1784
      have r1788 := r1784.iload (pc' := 191) at_189 rfl rfl
      have r1789 := r1788.icF (pc' := 194) at_191 (teq (by decide : (0 : Int32) = (0 : Int32))).2 rfl
      have r1790 := r1789.aload (pc' := 196) at_194 rfl rfl rfl
      obtain ⟨v1793, h1794, hq1792, r1791⟩ := r1790.callS (pc' := 199) [(.ref sa1769)] (rest := []) 0 at_196 (hw _ (List.mem_of_getElem? (i := 30) rfl)) (hw _ (List.mem_of_getElem? (i := 31) rfl)) (hw _ (List.mem_of_getElem? (i := 32) rfl)) (hw _ (List.mem_of_getElem? (i := 33) rfl)) (by decide) (v_valid l Z a0 hw sa1769 sb1769 0 (64 : Int32) (64 : Int32) (1 : Int32) F64 (chr0 F64) h1776 n0 (SL1769.ext E1776) (Or.inl ⟨rfl, rfl, rfl⟩) (by decide) (by decide) v64 cs vF SS old1781) pd_12 rfl rfl rfl (Nat.le_of_ble_eq_true rfl) (by decide) (by decide) (k' := 8) (n' := 540) rfl rfl (by decide) (by decide) rfl
      obtain ⟨rfl, rfl⟩ := hq1792
      dsimp only [Option.toList, List.cons_append, List.nil_append] at r1791
      have r1795 := r1791.ifF (pc' := 202) at_199 (feq (by decide : ¬ (1 : Int32) = (0 : Int32))).1 rfl
      have r1796 := r1795.aload (pc' := 204) at_202 rfl rfl rfl
      obtain ⟨v1799, h1800, hq1798, r1797⟩ := r1796.callS (pc' := 207) [(.ref sa1776)] (rest := []) 0 at_204 (hw _ (List.mem_of_getElem? (i := 30) rfl)) (hw _ (List.mem_of_getElem? (i := 31) rfl)) (hw _ (List.mem_of_getElem? (i := 32) rfl)) (hw _ (List.mem_of_getElem? (i := 33) rfl)) (by decide) (v_valid l Z a0 hw sa1776 sb1776 0 (65 : Int32) (65 : Int32) (0 : Int32) F65 (chr0 F65) h1776 n0 (SL1776) (Or.inl ⟨rfl, rfl, rfl⟩) (by decide) (by decide) v65 cs vF SS old1781) pd_12 rfl rfl rfl (Nat.le_of_ble_eq_true rfl) (by decide) (by decide) (k' := 8) (n' := 540) rfl rfl (by decide) (by decide) rfl
      obtain ⟨rfl, rfl⟩ := hq1798
      dsimp only [Option.toList, List.cons_append, List.nil_append] at r1797
      have r1801 := r1797.ifF (pc' := 210) at_207 (teq (by decide : (0 : Int32) = (0 : Int32))).2 rfl
      have r1802 := r1801.iconst (pc' := 211) (1 : Int32) at_210 rfl rfl
      have r1803 := r1802.goto (pc' := 215) at_211 (by decide) (by decide)
      exact ⟨_, _, Don.wide (r1803.retZ at_215 rfl (t := .boolean) (by simp) (1 : Int32) rfl (by decide) (by decide)) r1803 wd1776, rfl⟩
  · -- 2
    have r1804 := r1592.ifT (pc' := 43) at_25 (feq (by decide : ¬ (2 : Int32) = (0 : Int32))).2 (by decide) (by decide)
    have r1805 := r1804.iload (pc' := 45) at_43 rfl rfl
    have r1806 := r1805.iconst (pc' := 46) (1 : Int32) at_45 rfl rfl
    have r1807 := r1806.icT (pc' := 69) at_46 (feq (by decide : ¬ (2 : Int32) = (1 : Int32))).2 (by decide) (by decide)
    have r1808 := r1807.iload (pc' := 71) at_69 rfl rfl
    have r1809 := r1808.iconst (pc' := 72) (2 : Int32) at_71 rfl rfl
    have r1810 := r1809.icF (pc' := 75) at_72 (teq (by decide : (2 : Int32) = (2 : Int32))).2 rfl
    obtain ⟨h1811, ob2, hb1811, E1811, EX1811, D1811, r1811⟩ := r1810.newO (pc' := 78) at_75 (hw _ (List.mem_of_getElem? (i := 6) rfl)) (hw _ (List.mem_of_getElem? (i := 7) rfl)) (hw _ (List.mem_of_getElem? (i := 8) rfl)) (k' := 1) (n' := 4) rfl rfl (by decide) (by decide) rfl
    have g1812 : n0 ≤ ob2 := hb1811 ▸ Z0
    have sz1813 : h0.size ≤ ob2 := hb1811 ▸ ((Keep.refl h0 [])).1
    have K1814 := ((Keep.refl h0 [])).ext E1811
    have zp1815 : n0 ≤ h1811.size := Nat.le_trans Z0 E1811.1
    have old1816 := (O0).ext E1811
    have f1817 : Fld Z h1811 ob2 "java/lang/String" "value" "[B" .null := D1811 (Or.inr (hw _ (List.mem_of_getElem? (i := 22) rfl))) (ty := (.array .byte)) (by decide)
    have f1818 : Fld Z h1811 ob2 "java/lang/String" "coder" "B" (.int (0 : Int32)) := D1811 (Or.inr (hw _ (List.mem_of_getElem? (i := 23) rfl))) (ty := .byte) (by decide)
    have wd1811 := wd0.ext E1811
    have r1819 := r1811.dup (pc' := 79) at_78 rfl rfl
    have r1820 := r1819.iconst (pc' := 80) (2 : Int32) at_79 rfl rfl
    obtain ⟨h1821, b1821, kc1821, hb1821, E1821, V1821, r1821⟩ := r1820.newP (pc' := 82) at_80 (hw _ (List.mem_of_getElem? (i := 9) rfl)) (by decide) (cap := 3) (by decide) (by decide) (k' := 2) (n' := 7) rfl rfl (by decide) (by decide) rfl
    have ne1822 : ob2 ≠ b1821 := Nat.ne_of_lt (hb1821 ▸ EX1811.lt)
    have g1823 : n0 ≤ b1821 := hb1821 ▸ zp1815
    have sz1824 : h0.size ≤ b1821 := hb1821 ▸ (K1814).1
    have f1825 := EX1811.ext E1821
    have f1826 := f1817.ext E1821
    have f1827 := f1818.ext E1821
    have K1828 := (K1814).ext E1821
    have zp1829 : n0 ≤ h1821.size := Nat.le_trans zp1815 E1821.1
    have old1830 := (old1816).ext E1821
    have f1831 : ArC Z h1821 b1821 (2 : Int32) [0, 0] := ArC.new V1821 2
    have wd1821 := wd1811.ext E1821
    have r1832 := r1821.dup (pc' := 83) at_82 rfl rfl
    have r1833 := r1832.iconst (pc' := 84) (0 : Int32) at_83 rfl rfl
    have r1834 := r1833.iload (pc' := 86) at_84 rfl rfl
    obtain ⟨h1835, W1835, V1835, r1835⟩ := r1834.sC (pc' := 87) at_86 f1831 (by decide) (by decide) (Nat.le_of_ble_eq_true rfl) g1823 rfl
    have f1836 := f1825.wr W1835
    have f1837 := f1826.other W1835 (Or.inl (ne1822))
    have f1838 := f1827.other W1835 (Or.inl (ne1822))
    replace V1835 : ArC Z h1835 b1821 (2 : Int32) [nar .char x, 0] := V1835
    have K1839 := (K1828).wr W1835 (Or.inr sz1824)
    have old1840 := (old1830).wr W1835 g1823
    have zp1841 : n0 ≤ h1835.size := Nat.le_trans zp1829 (Nat.le_of_eq W1835.size.symm)
    have wd1835 := wd1821.wr W1835 (f1831.safe r1834.hal)
    have r1842 := r1835.dup (pc' := 88) at_87 rfl rfl
    have r1843 := r1842.iconst (pc' := 89) (1 : Int32) at_88 rfl rfl
    have r1844 := r1843.iload (pc' := 91) at_89 rfl rfl
    obtain ⟨h1845, W1845, V1845, r1845⟩ := r1844.sC (pc' := 92) at_91 V1835 (by decide) (by decide) (Nat.le_of_ble_eq_true rfl) g1823 rfl
    have f1846 := f1836.wr W1845
    have f1847 := f1837.other W1845 (Or.inl (ne1822))
    have f1848 := f1838.other W1845 (Or.inl (ne1822))
    replace V1845 : ArC Z h1845 b1821 (2 : Int32) [nar .char x, nar .char y] := V1845
    have K1849 := (K1839).wr W1845 (Or.inr sz1824)
    have old1850 := (old1840).wr W1845 g1823
    have zp1851 : n0 ≤ h1845.size := Nat.le_trans zp1841 (Nat.le_of_eq W1845.size.symm)
    have wd1845 := wd1835.wr W1845 (V1835.safe r1844.hal)
    rw [nar_of rx.1 rx.2, nar_of ry.1 ry.2] at V1845
    obtain ⟨v1854, h1855, hq1853, r1852⟩ := r1845.callC (pc' := 95) (a := ob2) [(.ref b1821)] (rest := [(.ref ob2)]) 1 at_92 rfl (hw _ (List.mem_of_getElem? (i := 10) rfl)) (hw _ (List.mem_of_getElem? (i := 11) rfl)) (hw _ (List.mem_of_getElem? (i := 8) rfl)) (hw _ (List.mem_of_getElem? (i := 12) rfl)) (by decide) (s_n1_2 l Z a0 hw ob2 b1821 x y h1845 n0 f1846 f1848 f1847 V1845 g1812 ((ne1822).symm) zp1851 rx.1 rx.2 ry.1 ry.2 cs vF SS old1850) pd_17 rfl rfl rfl (Nat.le_of_ble_eq_true rfl) (by decide) (by decide) (k' := 4) (n' := 16) rfl rfl (by decide) (by decide) rfl
    obtain ⟨rfl, ⟨sb, cd, b2, FF, cF, ST1, CF, gsb, c0, c1⟩, K1⟩ := hq1853
    dsimp only [Option.toList, List.cons_append, List.nil_append] at r1852
    have wdK := wd1845.keep K1 (allS (Safe.nul r1845.hal f1846 f1847) all0)
    have f1856 := f1846.keep K1
    have f1857 := V1845.keep K1 (ninS ((ne1822).symm) nin0)
    have zp1858 : n0 ≤ h1855.size := Nat.le_trans zp1851 K1.1
    have K1859 := (K1849).trans K1 (allS (Or.inr sz1813) all0)
    have old1860 := (old1850).keep K1 (allS g1812 all0)
    have r1861 := r1852.astore (pc' := 97) (L' := #[.val (.int x0), .val (.int x1), .val (.int x2), .val (.int x3), .val (.int (2 : Int32)), .val (.int x), .val (.int y), .val (.int z), .val (.ref ob2), .unset, .unset, .unset]) at_95 rfl rfl rfl
    have r1862 := r1861.goto (pc' := 127) at_97 (by decide) (by decide)
    have r1863 := r1862.iload (pc' := 129) at_127 rfl rfl
    have r1864 := r1863.iconst (pc' := 130) (1 : Int32) at_129 rfl rfl
    have r1865 := r1864.icF (pc' := 133) at_130 (flt (by decide : ¬ (2 : Int32) < (1 : Int32))).1 rfl
    have r1866 := r1865.iload (pc' := 135) at_133 rfl rfl
    by_cases ox : okc x
    · -- 1
      obtain ⟨v1869, h1870, hq1868, r1867⟩ := r1866.callS (pc' := 138) [(.int x)] (rest := []) 0 at_135 (hw _ (List.mem_of_getElem? (i := 85) rfl)) (hw _ (List.mem_of_getElem? (i := 86) rfl)) (hw _ (List.mem_of_getElem? (i := 2) rfl)) (hw _ (List.mem_of_getElem? (i := 87) rfl)) (by decide) (c_ok1 l Z a0 hw x h1855 n0 rx.1 rx.2 ox) pd_4 rfl rfl rfl (Nat.le_of_ble_eq_true rfl) (by decide) (by decide) (k' := 4) (n' := 16) rfl rfl (by decide) (by decide) rfl
      obtain ⟨rfl, rfl⟩ := hq1868
      dsimp only [Option.toList, List.cons_append, List.nil_append] at r1867
      have r1871 := r1867.ifF (pc' := 141) at_138 (feq (by decide : ¬ (1 : Int32) = (0 : Int32))).1 rfl
      have r1872 := r1871.iload (pc' := 143) at_141 rfl rfl
      have r1873 := r1872.iconst (pc' := 144) (2 : Int32) at_143 rfl rfl
      have r1874 := r1873.icF (pc' := 147) at_144 (flt (by decide : ¬ (2 : Int32) < (2 : Int32))).1 rfl
      have r1875 := r1874.iload (pc' := 149) at_147 rfl rfl
      by_cases oy : okc y
      · -- 1
        obtain ⟨v1878, h1879, hq1877, r1876⟩ := r1875.callS (pc' := 152) [(.int y)] (rest := []) 0 at_149 (hw _ (List.mem_of_getElem? (i := 85) rfl)) (hw _ (List.mem_of_getElem? (i := 86) rfl)) (hw _ (List.mem_of_getElem? (i := 2) rfl)) (hw _ (List.mem_of_getElem? (i := 87) rfl)) (by decide) (c_ok1 l Z a0 hw y h1855 n0 ry.1 ry.2 oy) pd_4 rfl rfl rfl (Nat.le_of_ble_eq_true rfl) (by decide) (by decide) (k' := 4) (n' := 16) rfl rfl (by decide) (by decide) rfl
        obtain ⟨rfl, rfl⟩ := hq1877
        dsimp only [Option.toList, List.cons_append, List.nil_append] at r1876
        have r1880 := r1876.ifF (pc' := 155) at_152 (feq (by decide : ¬ (1 : Int32) = (0 : Int32))).1 rfl
        have r1881 := r1880.iload (pc' := 157) at_155 rfl rfl
        have r1882 := r1881.iconst (pc' := 158) (3 : Int32) at_157 rfl rfl
        have r1883 := r1882.icT (pc' := 169) at_158 (tlt (by decide : (2 : Int32) < (3 : Int32))).1 (by decide) (by decide)
        have r1884 := r1883.iconst (pc' := 170) (1 : Int32) at_169 rfl rfl
        have r1885 := r1884.goto (pc' := 174) at_170 (by decide) (by decide)
        have r1886 := r1885.istore (pc' := 176) (L' := #[.val (.int x0), .val (.int x1), .val (.int x2), .val (.int x3), .val (.int (2 : Int32)), .val (.int x), .val (.int y), .val (.int z), .val (.ref ob2), .val (.int (1 : Int32)), .unset, .unset]) at_174 rfl rfl
        obtain ⟨sa1887, sb1887, kb1887, vm1887, h1887, E1887, wd1887, C1887, EX1887, FC1887, FV1887, V1887, ne1887, r1887⟩ := r1886.ldcS (pc' := 178) (vs := (F64.map Value.int)) (z := (64 : Int32)) 256 wdK at_176 (hw _ (List.mem_of_getElem? (i := 28) rfl)) (wS1 hw) (ew1 hw) (List.mem_of_getElem? (i := 0) rfl) ⟨by decide, by decide +kernel⟩ (by decide) (by decide) (by decide) (by decide) (k' := 6) (n' := 276) rfl rfl (by decide) (by decide) rfl
        have f1888 := f1856.ext E1887
        have f1889 := f1857.ext E1887
        have K1890 := (K1859).ext E1887
        have zp1891 : n0 ≤ h1887.size := Nat.le_trans zp1858 E1887.1
        have old1892 := (old1860).ext E1887
        have ST1887 := ST1.ext E1887
        have SL1887 : Str Z h1887 sa1887 sb1887 (0 : Int32) (64 : Int32) F64 := ⟨EX1887, FC1887, FV1887, ⟨kb1887, V1887⟩⟩
        have r1893 := r1887.astore (pc' := 180) (L' := #[.val (.int x0), .val (.int x1), .val (.int x2), .val (.int x3), .val (.int (2 : Int32)), .val (.int x), .val (.int y), .val (.int z), .val (.ref ob2), .val (.int (1 : Int32)), .val (.ref sa1887), .unset]) at_178 rfl rfl rfl
        obtain ⟨sa1894, sb1894, kb1894, vm1894, h1894, E1894, wd1894, C1894, EX1894, FC1894, FV1894, V1894, ne1894, r1894⟩ := r1893.ldcS (pc' := 182) (vs := (F65.map Value.int)) (z := (65 : Int32)) 260 wd1887 at_180 (hw _ (List.mem_of_getElem? (i := 29) rfl)) (wS1 hw) (ew1 hw) (List.mem_of_getElem? (i := 1) rfl) ⟨by decide, by decide +kernel⟩ (by decide) (by decide) (by decide) (by decide) (k' := 8) (n' := 540) rfl rfl (by decide) (by decide) rfl
        have f1895 := f1888.ext E1894
        have f1896 := f1889.ext E1894
        have K1897 := (K1890).ext E1894
        have zp1898 : n0 ≤ h1894.size := Nat.le_trans zp1891 E1894.1
        have old1899 := (old1892).ext E1894
        have ST1894 := ST1887.ext E1894
        have SL1894 : Str Z h1894 sa1894 sb1894 (0 : Int32) (65 : Int32) F65 := ⟨EX1894, FC1894, FV1894, ⟨kb1894, V1894⟩⟩
        have r1900 := r1894.astore (pc' := 184) (L' := #[.val (.int x0), .val (.int x1), .val (.int x2), .val (.int x3), .val (.int (2 : Int32)), .val (.int x), .val (.int y), .val (.int z), .val (.ref ob2), .val (.int (1 : Int32)), .val (.ref sa1887), .val (.ref sa1894)]) at_182 rfl rfl rfl
        have r1901 := r1900.aload (pc' := 186) at_184 rfl rfl rfl
        have he : valF cF (2 : Int32) = (1 : Int32) := by rw [val2]; simp [allF, c0, c1, ox, oy]
        obtain ⟨v1904, h1905, hq1903, r1902⟩ := r1901.callS (pc' := 189) [(.ref ob2)] (rest := []) 0 at_186 (hw _ (List.mem_of_getElem? (i := 30) rfl)) (hw _ (List.mem_of_getElem? (i := 31) rfl)) (hw _ (List.mem_of_getElem? (i := 32) rfl)) (hw _ (List.mem_of_getElem? (i := 33) rfl)) (by decide) (v_valid l Z a0 hw ob2 sb cd b2 (2 : Int32) (1 : Int32) FF cF h1894 n0 ST1894 CF (by decide) (by decide) he cs vF SS old1899) pd_12 rfl rfl rfl (Nat.le_of_ble_eq_true rfl) (by decide) (by decide) (k' := 8) (n' := 540) rfl rfl (by decide) (by decide) rfl
        obtain ⟨rfl, rfl⟩ := hq1903
        dsimp only [Option.toList, List.cons_append, List.nil_append] at r1902
        have r1906 := r1902.iload (pc' := 191) at_189 rfl rfl
        have r1907 := r1906.icF (pc' := 194) at_191 (teq (by decide : (1 : Int32) = (1 : Int32))).2 rfl
        have r1908 := r1907.aload (pc' := 196) at_194 rfl rfl rfl
        obtain ⟨v1911, h1912, hq1910, r1909⟩ := r1908.callS (pc' := 199) [(.ref sa1887)] (rest := []) 0 at_196 (hw _ (List.mem_of_getElem? (i := 30) rfl)) (hw _ (List.mem_of_getElem? (i := 31) rfl)) (hw _ (List.mem_of_getElem? (i := 32) rfl)) (hw _ (List.mem_of_getElem? (i := 33) rfl)) (by decide) (v_valid l Z a0 hw sa1887 sb1887 0 (64 : Int32) (64 : Int32) (1 : Int32) F64 (chr0 F64) h1894 n0 (SL1887.ext E1894) (Or.inl ⟨rfl, rfl, rfl⟩) (by decide) (by decide) v64 cs vF SS old1899) pd_12 rfl rfl rfl (Nat.le_of_ble_eq_true rfl) (by decide) (by decide) (k' := 8) (n' := 540) rfl rfl (by decide) (by decide) rfl
        obtain ⟨rfl, rfl⟩ := hq1910
        dsimp only [Option.toList, List.cons_append, List.nil_append] at r1909
        have r1913 := r1909.ifF (pc' := 202) at_199 (feq (by decide : ¬ (1 : Int32) = (0 : Int32))).1 rfl
        have r1914 := r1913.aload (pc' := 204) at_202 rfl rfl rfl
        obtain ⟨v1917, h1918, hq1916, r1915⟩ := r1914.callS (pc' := 207) [(.ref sa1894)] (rest := []) 0 at_204 (hw _ (List.mem_of_getElem? (i := 30) rfl)) (hw _ (List.mem_of_getElem? (i := 31) rfl)) (hw _ (List.mem_of_getElem? (i := 32) rfl)) (hw _ (List.mem_of_getElem? (i := 33) rfl)) (by decide) (v_valid l Z a0 hw sa1894 sb1894 0 (65 : Int32) (65 : Int32) (0 : Int32) F65 (chr0 F65) h1894 n0 (SL1894) (Or.inl ⟨rfl, rfl, rfl⟩) (by decide) (by decide) v65 cs vF SS old1899) pd_12 rfl rfl rfl (Nat.le_of_ble_eq_true rfl) (by decide) (by decide) (k' := 8) (n' := 540) rfl rfl (by decide) (by decide) rfl
        obtain ⟨rfl, rfl⟩ := hq1916
        dsimp only [Option.toList, List.cons_append, List.nil_append] at r1915
        have r1919 := r1915.ifF (pc' := 210) at_207 (teq (by decide : (0 : Int32) = (0 : Int32))).2 rfl
        have r1920 := r1919.iconst (pc' := 211) (1 : Int32) at_210 rfl rfl
        have r1921 := r1920.goto (pc' := 215) at_211 (by decide) (by decide)
        exact ⟨_, _, Don.wide (r1921.retZ at_215 rfl (t := .boolean) (by simp) (1 : Int32) rfl (by decide) (by decide)) r1921 wd1894, rfl⟩
      · -- 0
        obtain ⟨v1924, h1925, hq1923, r1922⟩ := r1875.callS (pc' := 152) [(.int y)] (rest := []) 0 at_149 (hw _ (List.mem_of_getElem? (i := 85) rfl)) (hw _ (List.mem_of_getElem? (i := 86) rfl)) (hw _ (List.mem_of_getElem? (i := 2) rfl)) (hw _ (List.mem_of_getElem? (i := 87) rfl)) (by decide) (c_ok0 l Z a0 hw y h1855 n0 ry.1 ry.2 oy) pd_4 rfl rfl rfl (Nat.le_of_ble_eq_true rfl) (by decide) (by decide) (k' := 4) (n' := 16) rfl rfl (by decide) (by decide) rfl
        obtain ⟨rfl, rfl⟩ := hq1923
        dsimp only [Option.toList, List.cons_append, List.nil_append] at r1922
        have r1926 := r1922.ifT (pc' := 173) at_152 (teq (by decide : (0 : Int32) = (0 : Int32))).1 (by decide) (by decide)
        have r1927 := r1926.iconst (pc' := 174) (0 : Int32) at_173 rfl rfl
        have r1928 := r1927.istore (pc' := 176) (L' := #[.val (.int x0), .val (.int x1), .val (.int x2), .val (.int x3), .val (.int (2 : Int32)), .val (.int x), .val (.int y), .val (.int z), .val (.ref ob2), .val (.int (0 : Int32)), .unset, .unset]) at_174 rfl rfl
        obtain ⟨sa1929, sb1929, kb1929, vm1929, h1929, E1929, wd1929, C1929, EX1929, FC1929, FV1929, V1929, ne1929, r1929⟩ := r1928.ldcS (pc' := 178) (vs := (F64.map Value.int)) (z := (64 : Int32)) 256 wdK at_176 (hw _ (List.mem_of_getElem? (i := 28) rfl)) (wS1 hw) (ew1 hw) (List.mem_of_getElem? (i := 0) rfl) ⟨by decide, by decide +kernel⟩ (by decide) (by decide) (by decide) (by decide) (k' := 6) (n' := 276) rfl rfl (by decide) (by decide) rfl
        have f1930 := f1856.ext E1929
        have f1931 := f1857.ext E1929
        have K1932 := (K1859).ext E1929
        have zp1933 : n0 ≤ h1929.size := Nat.le_trans zp1858 E1929.1
        have old1934 := (old1860).ext E1929
        have ST1929 := ST1.ext E1929
        have SL1929 : Str Z h1929 sa1929 sb1929 (0 : Int32) (64 : Int32) F64 := ⟨EX1929, FC1929, FV1929, ⟨kb1929, V1929⟩⟩
        have r1935 := r1929.astore (pc' := 180) (L' := #[.val (.int x0), .val (.int x1), .val (.int x2), .val (.int x3), .val (.int (2 : Int32)), .val (.int x), .val (.int y), .val (.int z), .val (.ref ob2), .val (.int (0 : Int32)), .val (.ref sa1929), .unset]) at_178 rfl rfl rfl
        obtain ⟨sa1936, sb1936, kb1936, vm1936, h1936, E1936, wd1936, C1936, EX1936, FC1936, FV1936, V1936, ne1936, r1936⟩ := r1935.ldcS (pc' := 182) (vs := (F65.map Value.int)) (z := (65 : Int32)) 260 wd1929 at_180 (hw _ (List.mem_of_getElem? (i := 29) rfl)) (wS1 hw) (ew1 hw) (List.mem_of_getElem? (i := 1) rfl) ⟨by decide, by decide +kernel⟩ (by decide) (by decide) (by decide) (by decide) (k' := 8) (n' := 540) rfl rfl (by decide) (by decide) rfl
        have f1937 := f1930.ext E1936
        have f1938 := f1931.ext E1936
        have K1939 := (K1932).ext E1936
        have zp1940 : n0 ≤ h1936.size := Nat.le_trans zp1933 E1936.1
        have old1941 := (old1934).ext E1936
        have ST1936 := ST1929.ext E1936
        have SL1936 : Str Z h1936 sa1936 sb1936 (0 : Int32) (65 : Int32) F65 := ⟨EX1936, FC1936, FV1936, ⟨kb1936, V1936⟩⟩
        have r1942 := r1936.astore (pc' := 184) (L' := #[.val (.int x0), .val (.int x1), .val (.int x2), .val (.int x3), .val (.int (2 : Int32)), .val (.int x), .val (.int y), .val (.int z), .val (.ref ob2), .val (.int (0 : Int32)), .val (.ref sa1929), .val (.ref sa1936)]) at_182 rfl rfl rfl
        have r1943 := r1942.aload (pc' := 186) at_184 rfl rfl rfl
        have he : valF cF (2 : Int32) = (0 : Int32) := by rw [val2]; simp [allF, c0, c1, ox, oy]
        obtain ⟨v1946, h1947, hq1945, r1944⟩ := r1943.callS (pc' := 189) [(.ref ob2)] (rest := []) 0 at_186 (hw _ (List.mem_of_getElem? (i := 30) rfl)) (hw _ (List.mem_of_getElem? (i := 31) rfl)) (hw _ (List.mem_of_getElem? (i := 32) rfl)) (hw _ (List.mem_of_getElem? (i := 33) rfl)) (by decide) (v_valid l Z a0 hw ob2 sb cd b2 (2 : Int32) (0 : Int32) FF cF h1936 n0 ST1936 CF (by decide) (by decide) he cs vF SS old1941) pd_12 rfl rfl rfl (Nat.le_of_ble_eq_true rfl) (by decide) (by decide) (k' := 8) (n' := 540) rfl rfl (by decide) (by decide) rfl
        obtain ⟨rfl, rfl⟩ := hq1945
        dsimp only [Option.toList, List.cons_append, List.nil_append] at r1944
        have r1948 := r1944.iload (pc' := 191) at_189 rfl rfl
        have r1949 := r1948.icF (pc' := 194) at_191 (teq (by decide : (0 : Int32) = (0 : Int32))).2 rfl
        have r1950 := r1949.aload (pc' := 196) at_194 rfl rfl rfl
        obtain ⟨v1953, h1954, hq1952, r1951⟩ := r1950.callS (pc' := 199) [(.ref sa1929)] (rest := []) 0 at_196 (hw _ (List.mem_of_getElem? (i := 30) rfl)) (hw _ (List.mem_of_getElem? (i := 31) rfl)) (hw _ (List.mem_of_getElem? (i := 32) rfl)) (hw _ (List.mem_of_getElem? (i := 33) rfl)) (by decide) (v_valid l Z a0 hw sa1929 sb1929 0 (64 : Int32) (64 : Int32) (1 : Int32) F64 (chr0 F64) h1936 n0 (SL1929.ext E1936) (Or.inl ⟨rfl, rfl, rfl⟩) (by decide) (by decide) v64 cs vF SS old1941) pd_12 rfl rfl rfl (Nat.le_of_ble_eq_true rfl) (by decide) (by decide) (k' := 8) (n' := 540) rfl rfl (by decide) (by decide) rfl
        obtain ⟨rfl, rfl⟩ := hq1952
        dsimp only [Option.toList, List.cons_append, List.nil_append] at r1951
        have r1955 := r1951.ifF (pc' := 202) at_199 (feq (by decide : ¬ (1 : Int32) = (0 : Int32))).1 rfl
        have r1956 := r1955.aload (pc' := 204) at_202 rfl rfl rfl
        obtain ⟨v1959, h1960, hq1958, r1957⟩ := r1956.callS (pc' := 207) [(.ref sa1936)] (rest := []) 0 at_204 (hw _ (List.mem_of_getElem? (i := 30) rfl)) (hw _ (List.mem_of_getElem? (i := 31) rfl)) (hw _ (List.mem_of_getElem? (i := 32) rfl)) (hw _ (List.mem_of_getElem? (i := 33) rfl)) (by decide) (v_valid l Z a0 hw sa1936 sb1936 0 (65 : Int32) (65 : Int32) (0 : Int32) F65 (chr0 F65) h1936 n0 (SL1936) (Or.inl ⟨rfl, rfl, rfl⟩) (by decide) (by decide) v65 cs vF SS old1941) pd_12 rfl rfl rfl (Nat.le_of_ble_eq_true rfl) (by decide) (by decide) (k' := 8) (n' := 540) rfl rfl (by decide) (by decide) rfl
        obtain ⟨rfl, rfl⟩ := hq1958
        dsimp only [Option.toList, List.cons_append, List.nil_append] at r1957
        have r1961 := r1957.ifF (pc' := 210) at_207 (teq (by decide : (0 : Int32) = (0 : Int32))).2 rfl
        have r1962 := r1961.iconst (pc' := 211) (1 : Int32) at_210 rfl rfl
        have r1963 := r1962.goto (pc' := 215) at_211 (by decide) (by decide)
        exact ⟨_, _, Don.wide (r1963.retZ at_215 rfl (t := .boolean) (by simp) (1 : Int32) rfl (by decide) (by decide)) r1963 wd1936, rfl⟩
    · -- 0
      obtain ⟨v1966, h1967, hq1965, r1964⟩ := r1866.callS (pc' := 138) [(.int x)] (rest := []) 0 at_135 (hw _ (List.mem_of_getElem? (i := 85) rfl)) (hw _ (List.mem_of_getElem? (i := 86) rfl)) (hw _ (List.mem_of_getElem? (i := 2) rfl)) (hw _ (List.mem_of_getElem? (i := 87) rfl)) (by decide) (c_ok0 l Z a0 hw x h1855 n0 rx.1 rx.2 ox) pd_4 rfl rfl rfl (Nat.le_of_ble_eq_true rfl) (by decide) (by decide) (k' := 4) (n' := 16) rfl rfl (by decide) (by decide) rfl
      obtain ⟨rfl, rfl⟩ := hq1965
      dsimp only [Option.toList, List.cons_append, List.nil_append] at r1964
      have r1968 := r1964.ifT (pc' := 173) at_138 (teq (by decide : (0 : Int32) = (0 : Int32))).1 (by decide) (by decide)
      have r1969 := r1968.iconst (pc' := 174) (0 : Int32) at_173 rfl rfl
      have r1970 := r1969.istore (pc' := 176) (L' := #[.val (.int x0), .val (.int x1), .val (.int x2), .val (.int x3), .val (.int (2 : Int32)), .val (.int x), .val (.int y), .val (.int z), .val (.ref ob2), .val (.int (0 : Int32)), .unset, .unset]) at_174 rfl rfl
      obtain ⟨sa1971, sb1971, kb1971, vm1971, h1971, E1971, wd1971, C1971, EX1971, FC1971, FV1971, V1971, ne1971, r1971⟩ := r1970.ldcS (pc' := 178) (vs := (F64.map Value.int)) (z := (64 : Int32)) 256 wdK at_176 (hw _ (List.mem_of_getElem? (i := 28) rfl)) (wS1 hw) (ew1 hw) (List.mem_of_getElem? (i := 0) rfl) ⟨by decide, by decide +kernel⟩ (by decide) (by decide) (by decide) (by decide) (k' := 6) (n' := 276) rfl rfl (by decide) (by decide) rfl
      have f1972 := f1856.ext E1971
      have f1973 := f1857.ext E1971
      have K1974 := (K1859).ext E1971
      have zp1975 : n0 ≤ h1971.size := Nat.le_trans zp1858 E1971.1
      have old1976 := (old1860).ext E1971
      have ST1971 := ST1.ext E1971
      have SL1971 : Str Z h1971 sa1971 sb1971 (0 : Int32) (64 : Int32) F64 := ⟨EX1971, FC1971, FV1971, ⟨kb1971, V1971⟩⟩
      have r1977 := r1971.astore (pc' := 180) (L' := #[.val (.int x0), .val (.int x1), .val (.int x2), .val (.int x3), .val (.int (2 : Int32)), .val (.int x), .val (.int y), .val (.int z), .val (.ref ob2), .val (.int (0 : Int32)), .val (.ref sa1971), .unset]) at_178 rfl rfl rfl
      obtain ⟨sa1978, sb1978, kb1978, vm1978, h1978, E1978, wd1978, C1978, EX1978, FC1978, FV1978, V1978, ne1978, r1978⟩ := r1977.ldcS (pc' := 182) (vs := (F65.map Value.int)) (z := (65 : Int32)) 260 wd1971 at_180 (hw _ (List.mem_of_getElem? (i := 29) rfl)) (wS1 hw) (ew1 hw) (List.mem_of_getElem? (i := 1) rfl) ⟨by decide, by decide +kernel⟩ (by decide) (by decide) (by decide) (by decide) (k' := 8) (n' := 540) rfl rfl (by decide) (by decide) rfl
      have f1979 := f1972.ext E1978
      have f1980 := f1973.ext E1978
      have K1981 := (K1974).ext E1978
      have zp1982 : n0 ≤ h1978.size := Nat.le_trans zp1975 E1978.1
      have old1983 := (old1976).ext E1978
      have ST1978 := ST1971.ext E1978
      have SL1978 : Str Z h1978 sa1978 sb1978 (0 : Int32) (65 : Int32) F65 := ⟨EX1978, FC1978, FV1978, ⟨kb1978, V1978⟩⟩
      have r1984 := r1978.astore (pc' := 184) (L' := #[.val (.int x0), .val (.int x1), .val (.int x2), .val (.int x3), .val (.int (2 : Int32)), .val (.int x), .val (.int y), .val (.int z), .val (.ref ob2), .val (.int (0 : Int32)), .val (.ref sa1971), .val (.ref sa1978)]) at_182 rfl rfl rfl
      have r1985 := r1984.aload (pc' := 186) at_184 rfl rfl rfl
      have he : valF cF (2 : Int32) = (0 : Int32) := by rw [val2]; simp [allF, c0, c1, ox]
      obtain ⟨v1988, h1989, hq1987, r1986⟩ := r1985.callS (pc' := 189) [(.ref ob2)] (rest := []) 0 at_186 (hw _ (List.mem_of_getElem? (i := 30) rfl)) (hw _ (List.mem_of_getElem? (i := 31) rfl)) (hw _ (List.mem_of_getElem? (i := 32) rfl)) (hw _ (List.mem_of_getElem? (i := 33) rfl)) (by decide) (v_valid l Z a0 hw ob2 sb cd b2 (2 : Int32) (0 : Int32) FF cF h1978 n0 ST1978 CF (by decide) (by decide) he cs vF SS old1983) pd_12 rfl rfl rfl (Nat.le_of_ble_eq_true rfl) (by decide) (by decide) (k' := 8) (n' := 540) rfl rfl (by decide) (by decide) rfl
      obtain ⟨rfl, rfl⟩ := hq1987
      dsimp only [Option.toList, List.cons_append, List.nil_append] at r1986
      have r1990 := r1986.iload (pc' := 191) at_189 rfl rfl
      have r1991 := r1990.icF (pc' := 194) at_191 (teq (by decide : (0 : Int32) = (0 : Int32))).2 rfl
      have r1992 := r1991.aload (pc' := 196) at_194 rfl rfl rfl
      obtain ⟨v1995, h1996, hq1994, r1993⟩ := r1992.callS (pc' := 199) [(.ref sa1971)] (rest := []) 0 at_196 (hw _ (List.mem_of_getElem? (i := 30) rfl)) (hw _ (List.mem_of_getElem? (i := 31) rfl)) (hw _ (List.mem_of_getElem? (i := 32) rfl)) (hw _ (List.mem_of_getElem? (i := 33) rfl)) (by decide) (v_valid l Z a0 hw sa1971 sb1971 0 (64 : Int32) (64 : Int32) (1 : Int32) F64 (chr0 F64) h1978 n0 (SL1971.ext E1978) (Or.inl ⟨rfl, rfl, rfl⟩) (by decide) (by decide) v64 cs vF SS old1983) pd_12 rfl rfl rfl (Nat.le_of_ble_eq_true rfl) (by decide) (by decide) (k' := 8) (n' := 540) rfl rfl (by decide) (by decide) rfl
      obtain ⟨rfl, rfl⟩ := hq1994
      dsimp only [Option.toList, List.cons_append, List.nil_append] at r1993
      have r1997 := r1993.ifF (pc' := 202) at_199 (feq (by decide : ¬ (1 : Int32) = (0 : Int32))).1 rfl
      have r1998 := r1997.aload (pc' := 204) at_202 rfl rfl rfl
      obtain ⟨v2001, h2002, hq2000, r1999⟩ := r1998.callS (pc' := 207) [(.ref sa1978)] (rest := []) 0 at_204 (hw _ (List.mem_of_getElem? (i := 30) rfl)) (hw _ (List.mem_of_getElem? (i := 31) rfl)) (hw _ (List.mem_of_getElem? (i := 32) rfl)) (hw _ (List.mem_of_getElem? (i := 33) rfl)) (by decide) (v_valid l Z a0 hw sa1978 sb1978 0 (65 : Int32) (65 : Int32) (0 : Int32) F65 (chr0 F65) h1978 n0 (SL1978) (Or.inl ⟨rfl, rfl, rfl⟩) (by decide) (by decide) v65 cs vF SS old1983) pd_12 rfl rfl rfl (Nat.le_of_ble_eq_true rfl) (by decide) (by decide) (k' := 8) (n' := 540) rfl rfl (by decide) (by decide) rfl
      obtain ⟨rfl, rfl⟩ := hq2000
      dsimp only [Option.toList, List.cons_append, List.nil_append] at r1999
      have r2003 := r1999.ifF (pc' := 210) at_207 (teq (by decide : (0 : Int32) = (0 : Int32))).2 rfl
      have r2004 := r2003.iconst (pc' := 211) (1 : Int32) at_210 rfl rfl
      have r2005 := r2004.goto (pc' := 215) at_211 (by decide) (by decide)
      exact ⟨_, _, Don.wide (r2005.retZ at_215 rfl (t := .boolean) (by simp) (1 : Int32) rfl (by decide) (by decide)) r2005 wd1978, rfl⟩
  · -- 3
    have r2006 := r1592.ifT (pc' := 43) at_25 (feq (by decide : ¬ (3 : Int32) = (0 : Int32))).2 (by decide) (by decide)
    have r2007 := r2006.iload (pc' := 45) at_43 rfl rfl
    have r2008 := r2007.iconst (pc' := 46) (1 : Int32) at_45 rfl rfl
    have r2009 := r2008.icT (pc' := 69) at_46 (feq (by decide : ¬ (3 : Int32) = (1 : Int32))).2 (by decide) (by decide)
    have r2010 := r2009.iload (pc' := 71) at_69 rfl rfl
    have r2011 := r2010.iconst (pc' := 72) (2 : Int32) at_71 rfl rfl
    have r2012 := r2011.icT (pc' := 100) at_72 (feq (by decide : ¬ (3 : Int32) = (2 : Int32))).2 (by decide) (by decide)
    obtain ⟨h2013, ob3, hb2013, E2013, EX2013, D2013, r2013⟩ := r2012.newO (pc' := 103) at_100 (hw _ (List.mem_of_getElem? (i := 6) rfl)) (hw _ (List.mem_of_getElem? (i := 7) rfl)) (hw _ (List.mem_of_getElem? (i := 8) rfl)) (k' := 1) (n' := 4) rfl rfl (by decide) (by decide) rfl
    have g2014 : n0 ≤ ob3 := hb2013 ▸ Z0
    have sz2015 : h0.size ≤ ob3 := hb2013 ▸ ((Keep.refl h0 [])).1
    have K2016 := ((Keep.refl h0 [])).ext E2013
    have zp2017 : n0 ≤ h2013.size := Nat.le_trans Z0 E2013.1
    have old2018 := (O0).ext E2013
    have f2019 : Fld Z h2013 ob3 "java/lang/String" "value" "[B" .null := D2013 (Or.inr (hw _ (List.mem_of_getElem? (i := 22) rfl))) (ty := (.array .byte)) (by decide)
    have f2020 : Fld Z h2013 ob3 "java/lang/String" "coder" "B" (.int (0 : Int32)) := D2013 (Or.inr (hw _ (List.mem_of_getElem? (i := 23) rfl))) (ty := .byte) (by decide)
    have wd2013 := wd0.ext E2013
    have r2021 := r2013.dup (pc' := 104) at_103 rfl rfl
    have r2022 := r2021.iconst (pc' := 105) (3 : Int32) at_104 rfl rfl
    obtain ⟨h2023, b2023, kc2023, hb2023, E2023, V2023, r2023⟩ := r2022.newP (pc' := 107) at_105 (hw _ (List.mem_of_getElem? (i := 9) rfl)) (by decide) (cap := 3) (by decide) (by decide) (k' := 2) (n' := 7) rfl rfl (by decide) (by decide) rfl
    have ne2024 : ob3 ≠ b2023 := Nat.ne_of_lt (hb2023 ▸ EX2013.lt)
    have g2025 : n0 ≤ b2023 := hb2023 ▸ zp2017
    have sz2026 : h0.size ≤ b2023 := hb2023 ▸ (K2016).1
    have f2027 := EX2013.ext E2023
    have f2028 := f2019.ext E2023
    have f2029 := f2020.ext E2023
    have K2030 := (K2016).ext E2023
    have zp2031 : n0 ≤ h2023.size := Nat.le_trans zp2017 E2023.1
    have old2032 := (old2018).ext E2023
    have f2033 : ArC Z h2023 b2023 (3 : Int32) [0, 0, 0] := ArC.new V2023 3
    have wd2023 := wd2013.ext E2023
    have r2034 := r2023.dup (pc' := 108) at_107 rfl rfl
    have r2035 := r2034.iconst (pc' := 109) (0 : Int32) at_108 rfl rfl
    have r2036 := r2035.iload (pc' := 111) at_109 rfl rfl
    obtain ⟨h2037, W2037, V2037, r2037⟩ := r2036.sC (pc' := 112) at_111 f2033 (by decide) (by decide) (Nat.le_of_ble_eq_true rfl) g2025 rfl
    have f2038 := f2027.wr W2037
    have f2039 := f2028.other W2037 (Or.inl (ne2024))
    have f2040 := f2029.other W2037 (Or.inl (ne2024))
    replace V2037 : ArC Z h2037 b2023 (3 : Int32) [nar .char x, 0, 0] := V2037
    have K2041 := (K2030).wr W2037 (Or.inr sz2026)
    have old2042 := (old2032).wr W2037 g2025
    have zp2043 : n0 ≤ h2037.size := Nat.le_trans zp2031 (Nat.le_of_eq W2037.size.symm)
    have wd2037 := wd2023.wr W2037 (f2033.safe r2036.hal)
    have r2044 := r2037.dup (pc' := 113) at_112 rfl rfl
    have r2045 := r2044.iconst (pc' := 114) (1 : Int32) at_113 rfl rfl
    have r2046 := r2045.iload (pc' := 116) at_114 rfl rfl
    obtain ⟨h2047, W2047, V2047, r2047⟩ := r2046.sC (pc' := 117) at_116 V2037 (by decide) (by decide) (Nat.le_of_ble_eq_true rfl) g2025 rfl
    have f2048 := f2038.wr W2047
    have f2049 := f2039.other W2047 (Or.inl (ne2024))
    have f2050 := f2040.other W2047 (Or.inl (ne2024))
    replace V2047 : ArC Z h2047 b2023 (3 : Int32) [nar .char x, nar .char y, 0] := V2047
    have K2051 := (K2041).wr W2047 (Or.inr sz2026)
    have old2052 := (old2042).wr W2047 g2025
    have zp2053 : n0 ≤ h2047.size := Nat.le_trans zp2043 (Nat.le_of_eq W2047.size.symm)
    have wd2047 := wd2037.wr W2047 (V2037.safe r2046.hal)
    have r2054 := r2047.dup (pc' := 118) at_117 rfl rfl
    have r2055 := r2054.iconst (pc' := 119) (2 : Int32) at_118 rfl rfl
    have r2056 := r2055.iload (pc' := 121) at_119 rfl rfl
    obtain ⟨h2057, W2057, V2057, r2057⟩ := r2056.sC (pc' := 122) at_121 V2047 (by decide) (by decide) (Nat.le_of_ble_eq_true rfl) g2025 rfl
    have f2058 := f2048.wr W2057
    have f2059 := f2049.other W2057 (Or.inl (ne2024))
    have f2060 := f2050.other W2057 (Or.inl (ne2024))
    replace V2057 : ArC Z h2057 b2023 (3 : Int32) [nar .char x, nar .char y, nar .char z] := V2057
    have K2061 := (K2051).wr W2057 (Or.inr sz2026)
    have old2062 := (old2052).wr W2057 g2025
    have zp2063 : n0 ≤ h2057.size := Nat.le_trans zp2053 (Nat.le_of_eq W2057.size.symm)
    have wd2057 := wd2047.wr W2057 (V2047.safe r2056.hal)
    rw [nar_of rx.1 rx.2, nar_of ry.1 ry.2, nar_of rz.1 rz.2] at V2057
    obtain ⟨v2066, h2067, hq2065, r2064⟩ := r2057.callC (pc' := 125) (a := ob3) [(.ref b2023)] (rest := [(.ref ob3)]) 1 at_122 rfl (hw _ (List.mem_of_getElem? (i := 10) rfl)) (hw _ (List.mem_of_getElem? (i := 11) rfl)) (hw _ (List.mem_of_getElem? (i := 8) rfl)) (hw _ (List.mem_of_getElem? (i := 12) rfl)) (by decide) (s_n1_3 l Z a0 hw ob3 b2023 x y z h2057 n0 f2058 f2060 f2059 V2057 g2014 ((ne2024).symm) zp2063 rx.1 rx.2 ry.1 ry.2 rz.1 rz.2 cs vF SS old2062) pd_17 rfl rfl rfl (Nat.le_of_ble_eq_true rfl) (by decide) (by decide) (k' := 4) (n' := 16) rfl rfl (by decide) (by decide) rfl
    obtain ⟨rfl, ⟨sb, cd, b2, FF, cF, ST1, CF, gsb, c0, c1, c2⟩, K1⟩ := hq2065
    dsimp only [Option.toList, List.cons_append, List.nil_append] at r2064
    have wdK := wd2057.keep K1 (allS (Safe.nul r2057.hal f2058 f2059) all0)
    have f2068 := f2058.keep K1
    have f2069 := V2057.keep K1 (ninS ((ne2024).symm) nin0)
    have zp2070 : n0 ≤ h2067.size := Nat.le_trans zp2063 K1.1
    have K2071 := (K2061).trans K1 (allS (Or.inr sz2015) all0)
    have old2072 := (old2062).keep K1 (allS g2014 all0)
    have r2073 := r2064.astore (pc' := 127) (L' := #[.val (.int x0), .val (.int x1), .val (.int x2), .val (.int x3), .val (.int (3 : Int32)), .val (.int x), .val (.int y), .val (.int z), .val (.ref ob3), .unset, .unset, .unset]) at_125 rfl rfl rfl
    have r2074 := r2073.iload (pc' := 129) at_127 rfl rfl
    have r2075 := r2074.iconst (pc' := 130) (1 : Int32) at_129 rfl rfl
    have r2076 := r2075.icF (pc' := 133) at_130 (flt (by decide : ¬ (3 : Int32) < (1 : Int32))).1 rfl
    have r2077 := r2076.iload (pc' := 135) at_133 rfl rfl
    by_cases ox : okc x
    · -- 1
      obtain ⟨v2080, h2081, hq2079, r2078⟩ := r2077.callS (pc' := 138) [(.int x)] (rest := []) 0 at_135 (hw _ (List.mem_of_getElem? (i := 85) rfl)) (hw _ (List.mem_of_getElem? (i := 86) rfl)) (hw _ (List.mem_of_getElem? (i := 2) rfl)) (hw _ (List.mem_of_getElem? (i := 87) rfl)) (by decide) (c_ok1 l Z a0 hw x h2067 n0 rx.1 rx.2 ox) pd_4 rfl rfl rfl (Nat.le_of_ble_eq_true rfl) (by decide) (by decide) (k' := 4) (n' := 16) rfl rfl (by decide) (by decide) rfl
      obtain ⟨rfl, rfl⟩ := hq2079
      dsimp only [Option.toList, List.cons_append, List.nil_append] at r2078
      have r2082 := r2078.ifF (pc' := 141) at_138 (feq (by decide : ¬ (1 : Int32) = (0 : Int32))).1 rfl
      have r2083 := r2082.iload (pc' := 143) at_141 rfl rfl
      have r2084 := r2083.iconst (pc' := 144) (2 : Int32) at_143 rfl rfl
      have r2085 := r2084.icF (pc' := 147) at_144 (flt (by decide : ¬ (3 : Int32) < (2 : Int32))).1 rfl
      have r2086 := r2085.iload (pc' := 149) at_147 rfl rfl
      by_cases oy : okc y
      · -- 1
        obtain ⟨v2089, h2090, hq2088, r2087⟩ := r2086.callS (pc' := 152) [(.int y)] (rest := []) 0 at_149 (hw _ (List.mem_of_getElem? (i := 85) rfl)) (hw _ (List.mem_of_getElem? (i := 86) rfl)) (hw _ (List.mem_of_getElem? (i := 2) rfl)) (hw _ (List.mem_of_getElem? (i := 87) rfl)) (by decide) (c_ok1 l Z a0 hw y h2067 n0 ry.1 ry.2 oy) pd_4 rfl rfl rfl (Nat.le_of_ble_eq_true rfl) (by decide) (by decide) (k' := 4) (n' := 16) rfl rfl (by decide) (by decide) rfl
        obtain ⟨rfl, rfl⟩ := hq2088
        dsimp only [Option.toList, List.cons_append, List.nil_append] at r2087
        have r2091 := r2087.ifF (pc' := 155) at_152 (feq (by decide : ¬ (1 : Int32) = (0 : Int32))).1 rfl
        have r2092 := r2091.iload (pc' := 157) at_155 rfl rfl
        have r2093 := r2092.iconst (pc' := 158) (3 : Int32) at_157 rfl rfl
        have r2094 := r2093.icF (pc' := 161) at_158 (flt (by decide : ¬ (3 : Int32) < (3 : Int32))).1 rfl
        have r2095 := r2094.iload (pc' := 163) at_161 rfl rfl
        by_cases oz : okc z
        · -- 1
          obtain ⟨v2098, h2099, hq2097, r2096⟩ := r2095.callS (pc' := 166) [(.int z)] (rest := []) 0 at_163 (hw _ (List.mem_of_getElem? (i := 85) rfl)) (hw _ (List.mem_of_getElem? (i := 86) rfl)) (hw _ (List.mem_of_getElem? (i := 2) rfl)) (hw _ (List.mem_of_getElem? (i := 87) rfl)) (by decide) (c_ok1 l Z a0 hw z h2067 n0 rz.1 rz.2 oz) pd_4 rfl rfl rfl (Nat.le_of_ble_eq_true rfl) (by decide) (by decide) (k' := 4) (n' := 16) rfl rfl (by decide) (by decide) rfl
          obtain ⟨rfl, rfl⟩ := hq2097
          dsimp only [Option.toList, List.cons_append, List.nil_append] at r2096
          have r2100 := r2096.ifF (pc' := 169) at_166 (feq (by decide : ¬ (1 : Int32) = (0 : Int32))).1 rfl
          have r2101 := r2100.iconst (pc' := 170) (1 : Int32) at_169 rfl rfl
          have r2102 := r2101.goto (pc' := 174) at_170 (by decide) (by decide)
          have r2103 := r2102.istore (pc' := 176) (L' := #[.val (.int x0), .val (.int x1), .val (.int x2), .val (.int x3), .val (.int (3 : Int32)), .val (.int x), .val (.int y), .val (.int z), .val (.ref ob3), .val (.int (1 : Int32)), .unset, .unset]) at_174 rfl rfl
          obtain ⟨sa2104, sb2104, kb2104, vm2104, h2104, E2104, wd2104, C2104, EX2104, FC2104, FV2104, V2104, ne2104, r2104⟩ := r2103.ldcS (pc' := 178) (vs := (F64.map Value.int)) (z := (64 : Int32)) 256 wdK at_176 (hw _ (List.mem_of_getElem? (i := 28) rfl)) (wS1 hw) (ew1 hw) (List.mem_of_getElem? (i := 0) rfl) ⟨by decide, by decide +kernel⟩ (by decide) (by decide) (by decide) (by decide) (k' := 6) (n' := 276) rfl rfl (by decide) (by decide) rfl
          have f2105 := f2068.ext E2104
          have f2106 := f2069.ext E2104
          have K2107 := (K2071).ext E2104
          have zp2108 : n0 ≤ h2104.size := Nat.le_trans zp2070 E2104.1
          have old2109 := (old2072).ext E2104
          have ST2104 := ST1.ext E2104
          have SL2104 : Str Z h2104 sa2104 sb2104 (0 : Int32) (64 : Int32) F64 := ⟨EX2104, FC2104, FV2104, ⟨kb2104, V2104⟩⟩
          have r2110 := r2104.astore (pc' := 180) (L' := #[.val (.int x0), .val (.int x1), .val (.int x2), .val (.int x3), .val (.int (3 : Int32)), .val (.int x), .val (.int y), .val (.int z), .val (.ref ob3), .val (.int (1 : Int32)), .val (.ref sa2104), .unset]) at_178 rfl rfl rfl
          obtain ⟨sa2111, sb2111, kb2111, vm2111, h2111, E2111, wd2111, C2111, EX2111, FC2111, FV2111, V2111, ne2111, r2111⟩ := r2110.ldcS (pc' := 182) (vs := (F65.map Value.int)) (z := (65 : Int32)) 260 wd2104 at_180 (hw _ (List.mem_of_getElem? (i := 29) rfl)) (wS1 hw) (ew1 hw) (List.mem_of_getElem? (i := 1) rfl) ⟨by decide, by decide +kernel⟩ (by decide) (by decide) (by decide) (by decide) (k' := 8) (n' := 540) rfl rfl (by decide) (by decide) rfl
          have f2112 := f2105.ext E2111
          have f2113 := f2106.ext E2111
          have K2114 := (K2107).ext E2111
          have zp2115 : n0 ≤ h2111.size := Nat.le_trans zp2108 E2111.1
          have old2116 := (old2109).ext E2111
          have ST2111 := ST2104.ext E2111
          have SL2111 : Str Z h2111 sa2111 sb2111 (0 : Int32) (65 : Int32) F65 := ⟨EX2111, FC2111, FV2111, ⟨kb2111, V2111⟩⟩
          have r2117 := r2111.astore (pc' := 184) (L' := #[.val (.int x0), .val (.int x1), .val (.int x2), .val (.int x3), .val (.int (3 : Int32)), .val (.int x), .val (.int y), .val (.int z), .val (.ref ob3), .val (.int (1 : Int32)), .val (.ref sa2104), .val (.ref sa2111)]) at_182 rfl rfl rfl
          have r2118 := r2117.aload (pc' := 186) at_184 rfl rfl rfl
          have he : valF cF (3 : Int32) = (1 : Int32) := by rw [val3]; simp [allF, c0, c1, c2, ox, oy, oz]
          obtain ⟨v2121, h2122, hq2120, r2119⟩ := r2118.callS (pc' := 189) [(.ref ob3)] (rest := []) 0 at_186 (hw _ (List.mem_of_getElem? (i := 30) rfl)) (hw _ (List.mem_of_getElem? (i := 31) rfl)) (hw _ (List.mem_of_getElem? (i := 32) rfl)) (hw _ (List.mem_of_getElem? (i := 33) rfl)) (by decide) (v_valid l Z a0 hw ob3 sb cd b2 (3 : Int32) (1 : Int32) FF cF h2111 n0 ST2111 CF (by decide) (by decide) he cs vF SS old2116) pd_12 rfl rfl rfl (Nat.le_of_ble_eq_true rfl) (by decide) (by decide) (k' := 8) (n' := 540) rfl rfl (by decide) (by decide) rfl
          obtain ⟨rfl, rfl⟩ := hq2120
          dsimp only [Option.toList, List.cons_append, List.nil_append] at r2119
          have r2123 := r2119.iload (pc' := 191) at_189 rfl rfl
          have r2124 := r2123.icF (pc' := 194) at_191 (teq (by decide : (1 : Int32) = (1 : Int32))).2 rfl
          have r2125 := r2124.aload (pc' := 196) at_194 rfl rfl rfl
          obtain ⟨v2128, h2129, hq2127, r2126⟩ := r2125.callS (pc' := 199) [(.ref sa2104)] (rest := []) 0 at_196 (hw _ (List.mem_of_getElem? (i := 30) rfl)) (hw _ (List.mem_of_getElem? (i := 31) rfl)) (hw _ (List.mem_of_getElem? (i := 32) rfl)) (hw _ (List.mem_of_getElem? (i := 33) rfl)) (by decide) (v_valid l Z a0 hw sa2104 sb2104 0 (64 : Int32) (64 : Int32) (1 : Int32) F64 (chr0 F64) h2111 n0 (SL2104.ext E2111) (Or.inl ⟨rfl, rfl, rfl⟩) (by decide) (by decide) v64 cs vF SS old2116) pd_12 rfl rfl rfl (Nat.le_of_ble_eq_true rfl) (by decide) (by decide) (k' := 8) (n' := 540) rfl rfl (by decide) (by decide) rfl
          obtain ⟨rfl, rfl⟩ := hq2127
          dsimp only [Option.toList, List.cons_append, List.nil_append] at r2126
          have r2130 := r2126.ifF (pc' := 202) at_199 (feq (by decide : ¬ (1 : Int32) = (0 : Int32))).1 rfl
          have r2131 := r2130.aload (pc' := 204) at_202 rfl rfl rfl
          obtain ⟨v2134, h2135, hq2133, r2132⟩ := r2131.callS (pc' := 207) [(.ref sa2111)] (rest := []) 0 at_204 (hw _ (List.mem_of_getElem? (i := 30) rfl)) (hw _ (List.mem_of_getElem? (i := 31) rfl)) (hw _ (List.mem_of_getElem? (i := 32) rfl)) (hw _ (List.mem_of_getElem? (i := 33) rfl)) (by decide) (v_valid l Z a0 hw sa2111 sb2111 0 (65 : Int32) (65 : Int32) (0 : Int32) F65 (chr0 F65) h2111 n0 (SL2111) (Or.inl ⟨rfl, rfl, rfl⟩) (by decide) (by decide) v65 cs vF SS old2116) pd_12 rfl rfl rfl (Nat.le_of_ble_eq_true rfl) (by decide) (by decide) (k' := 8) (n' := 540) rfl rfl (by decide) (by decide) rfl
          obtain ⟨rfl, rfl⟩ := hq2133
          dsimp only [Option.toList, List.cons_append, List.nil_append] at r2132
          have r2136 := r2132.ifF (pc' := 210) at_207 (teq (by decide : (0 : Int32) = (0 : Int32))).2 rfl
          have r2137 := r2136.iconst (pc' := 211) (1 : Int32) at_210 rfl rfl
          have r2138 := r2137.goto (pc' := 215) at_211 (by decide) (by decide)
          exact ⟨_, _, Don.wide (r2138.retZ at_215 rfl (t := .boolean) (by simp) (1 : Int32) rfl (by decide) (by decide)) r2138 wd2111, rfl⟩
        · -- 0
          obtain ⟨v2141, h2142, hq2140, r2139⟩ := r2095.callS (pc' := 166) [(.int z)] (rest := []) 0 at_163 (hw _ (List.mem_of_getElem? (i := 85) rfl)) (hw _ (List.mem_of_getElem? (i := 86) rfl)) (hw _ (List.mem_of_getElem? (i := 2) rfl)) (hw _ (List.mem_of_getElem? (i := 87) rfl)) (by decide) (c_ok0 l Z a0 hw z h2067 n0 rz.1 rz.2 oz) pd_4 rfl rfl rfl (Nat.le_of_ble_eq_true rfl) (by decide) (by decide) (k' := 4) (n' := 16) rfl rfl (by decide) (by decide) rfl
          obtain ⟨rfl, rfl⟩ := hq2140
          dsimp only [Option.toList, List.cons_append, List.nil_append] at r2139
          have r2143 := r2139.ifT (pc' := 173) at_166 (teq (by decide : (0 : Int32) = (0 : Int32))).1 (by decide) (by decide)
          have r2144 := r2143.iconst (pc' := 174) (0 : Int32) at_173 rfl rfl
          have r2145 := r2144.istore (pc' := 176) (L' := #[.val (.int x0), .val (.int x1), .val (.int x2), .val (.int x3), .val (.int (3 : Int32)), .val (.int x), .val (.int y), .val (.int z), .val (.ref ob3), .val (.int (0 : Int32)), .unset, .unset]) at_174 rfl rfl
          obtain ⟨sa2146, sb2146, kb2146, vm2146, h2146, E2146, wd2146, C2146, EX2146, FC2146, FV2146, V2146, ne2146, r2146⟩ := r2145.ldcS (pc' := 178) (vs := (F64.map Value.int)) (z := (64 : Int32)) 256 wdK at_176 (hw _ (List.mem_of_getElem? (i := 28) rfl)) (wS1 hw) (ew1 hw) (List.mem_of_getElem? (i := 0) rfl) ⟨by decide, by decide +kernel⟩ (by decide) (by decide) (by decide) (by decide) (k' := 6) (n' := 276) rfl rfl (by decide) (by decide) rfl
          have f2147 := f2068.ext E2146
          have f2148 := f2069.ext E2146
          have K2149 := (K2071).ext E2146
          have zp2150 : n0 ≤ h2146.size := Nat.le_trans zp2070 E2146.1
          have old2151 := (old2072).ext E2146
          have ST2146 := ST1.ext E2146
          have SL2146 : Str Z h2146 sa2146 sb2146 (0 : Int32) (64 : Int32) F64 := ⟨EX2146, FC2146, FV2146, ⟨kb2146, V2146⟩⟩
          have r2152 := r2146.astore (pc' := 180) (L' := #[.val (.int x0), .val (.int x1), .val (.int x2), .val (.int x3), .val (.int (3 : Int32)), .val (.int x), .val (.int y), .val (.int z), .val (.ref ob3), .val (.int (0 : Int32)), .val (.ref sa2146), .unset]) at_178 rfl rfl rfl
          obtain ⟨sa2153, sb2153, kb2153, vm2153, h2153, E2153, wd2153, C2153, EX2153, FC2153, FV2153, V2153, ne2153, r2153⟩ := r2152.ldcS (pc' := 182) (vs := (F65.map Value.int)) (z := (65 : Int32)) 260 wd2146 at_180 (hw _ (List.mem_of_getElem? (i := 29) rfl)) (wS1 hw) (ew1 hw) (List.mem_of_getElem? (i := 1) rfl) ⟨by decide, by decide +kernel⟩ (by decide) (by decide) (by decide) (by decide) (k' := 8) (n' := 540) rfl rfl (by decide) (by decide) rfl
          have f2154 := f2147.ext E2153
          have f2155 := f2148.ext E2153
          have K2156 := (K2149).ext E2153
          have zp2157 : n0 ≤ h2153.size := Nat.le_trans zp2150 E2153.1
          have old2158 := (old2151).ext E2153
          have ST2153 := ST2146.ext E2153
          have SL2153 : Str Z h2153 sa2153 sb2153 (0 : Int32) (65 : Int32) F65 := ⟨EX2153, FC2153, FV2153, ⟨kb2153, V2153⟩⟩
          have r2159 := r2153.astore (pc' := 184) (L' := #[.val (.int x0), .val (.int x1), .val (.int x2), .val (.int x3), .val (.int (3 : Int32)), .val (.int x), .val (.int y), .val (.int z), .val (.ref ob3), .val (.int (0 : Int32)), .val (.ref sa2146), .val (.ref sa2153)]) at_182 rfl rfl rfl
          have r2160 := r2159.aload (pc' := 186) at_184 rfl rfl rfl
          have he : valF cF (3 : Int32) = (0 : Int32) := by rw [val3]; simp [allF, c0, c1, c2, ox, oy, oz]
          obtain ⟨v2163, h2164, hq2162, r2161⟩ := r2160.callS (pc' := 189) [(.ref ob3)] (rest := []) 0 at_186 (hw _ (List.mem_of_getElem? (i := 30) rfl)) (hw _ (List.mem_of_getElem? (i := 31) rfl)) (hw _ (List.mem_of_getElem? (i := 32) rfl)) (hw _ (List.mem_of_getElem? (i := 33) rfl)) (by decide) (v_valid l Z a0 hw ob3 sb cd b2 (3 : Int32) (0 : Int32) FF cF h2153 n0 ST2153 CF (by decide) (by decide) he cs vF SS old2158) pd_12 rfl rfl rfl (Nat.le_of_ble_eq_true rfl) (by decide) (by decide) (k' := 8) (n' := 540) rfl rfl (by decide) (by decide) rfl
          obtain ⟨rfl, rfl⟩ := hq2162
          dsimp only [Option.toList, List.cons_append, List.nil_append] at r2161
          have r2165 := r2161.iload (pc' := 191) at_189 rfl rfl
          have r2166 := r2165.icF (pc' := 194) at_191 (teq (by decide : (0 : Int32) = (0 : Int32))).2 rfl
          have r2167 := r2166.aload (pc' := 196) at_194 rfl rfl rfl
          obtain ⟨v2170, h2171, hq2169, r2168⟩ := r2167.callS (pc' := 199) [(.ref sa2146)] (rest := []) 0 at_196 (hw _ (List.mem_of_getElem? (i := 30) rfl)) (hw _ (List.mem_of_getElem? (i := 31) rfl)) (hw _ (List.mem_of_getElem? (i := 32) rfl)) (hw _ (List.mem_of_getElem? (i := 33) rfl)) (by decide) (v_valid l Z a0 hw sa2146 sb2146 0 (64 : Int32) (64 : Int32) (1 : Int32) F64 (chr0 F64) h2153 n0 (SL2146.ext E2153) (Or.inl ⟨rfl, rfl, rfl⟩) (by decide) (by decide) v64 cs vF SS old2158) pd_12 rfl rfl rfl (Nat.le_of_ble_eq_true rfl) (by decide) (by decide) (k' := 8) (n' := 540) rfl rfl (by decide) (by decide) rfl
          obtain ⟨rfl, rfl⟩ := hq2169
          dsimp only [Option.toList, List.cons_append, List.nil_append] at r2168
          have r2172 := r2168.ifF (pc' := 202) at_199 (feq (by decide : ¬ (1 : Int32) = (0 : Int32))).1 rfl
          have r2173 := r2172.aload (pc' := 204) at_202 rfl rfl rfl
          obtain ⟨v2176, h2177, hq2175, r2174⟩ := r2173.callS (pc' := 207) [(.ref sa2153)] (rest := []) 0 at_204 (hw _ (List.mem_of_getElem? (i := 30) rfl)) (hw _ (List.mem_of_getElem? (i := 31) rfl)) (hw _ (List.mem_of_getElem? (i := 32) rfl)) (hw _ (List.mem_of_getElem? (i := 33) rfl)) (by decide) (v_valid l Z a0 hw sa2153 sb2153 0 (65 : Int32) (65 : Int32) (0 : Int32) F65 (chr0 F65) h2153 n0 (SL2153) (Or.inl ⟨rfl, rfl, rfl⟩) (by decide) (by decide) v65 cs vF SS old2158) pd_12 rfl rfl rfl (Nat.le_of_ble_eq_true rfl) (by decide) (by decide) (k' := 8) (n' := 540) rfl rfl (by decide) (by decide) rfl
          obtain ⟨rfl, rfl⟩ := hq2175
          dsimp only [Option.toList, List.cons_append, List.nil_append] at r2174
          have r2178 := r2174.ifF (pc' := 210) at_207 (teq (by decide : (0 : Int32) = (0 : Int32))).2 rfl
          have r2179 := r2178.iconst (pc' := 211) (1 : Int32) at_210 rfl rfl
          have r2180 := r2179.goto (pc' := 215) at_211 (by decide) (by decide)
          exact ⟨_, _, Don.wide (r2180.retZ at_215 rfl (t := .boolean) (by simp) (1 : Int32) rfl (by decide) (by decide)) r2180 wd2153, rfl⟩
      · -- 0
        obtain ⟨v2183, h2184, hq2182, r2181⟩ := r2086.callS (pc' := 152) [(.int y)] (rest := []) 0 at_149 (hw _ (List.mem_of_getElem? (i := 85) rfl)) (hw _ (List.mem_of_getElem? (i := 86) rfl)) (hw _ (List.mem_of_getElem? (i := 2) rfl)) (hw _ (List.mem_of_getElem? (i := 87) rfl)) (by decide) (c_ok0 l Z a0 hw y h2067 n0 ry.1 ry.2 oy) pd_4 rfl rfl rfl (Nat.le_of_ble_eq_true rfl) (by decide) (by decide) (k' := 4) (n' := 16) rfl rfl (by decide) (by decide) rfl
        obtain ⟨rfl, rfl⟩ := hq2182
        dsimp only [Option.toList, List.cons_append, List.nil_append] at r2181
        have r2185 := r2181.ifT (pc' := 173) at_152 (teq (by decide : (0 : Int32) = (0 : Int32))).1 (by decide) (by decide)
        have r2186 := r2185.iconst (pc' := 174) (0 : Int32) at_173 rfl rfl
        have r2187 := r2186.istore (pc' := 176) (L' := #[.val (.int x0), .val (.int x1), .val (.int x2), .val (.int x3), .val (.int (3 : Int32)), .val (.int x), .val (.int y), .val (.int z), .val (.ref ob3), .val (.int (0 : Int32)), .unset, .unset]) at_174 rfl rfl
        obtain ⟨sa2188, sb2188, kb2188, vm2188, h2188, E2188, wd2188, C2188, EX2188, FC2188, FV2188, V2188, ne2188, r2188⟩ := r2187.ldcS (pc' := 178) (vs := (F64.map Value.int)) (z := (64 : Int32)) 256 wdK at_176 (hw _ (List.mem_of_getElem? (i := 28) rfl)) (wS1 hw) (ew1 hw) (List.mem_of_getElem? (i := 0) rfl) ⟨by decide, by decide +kernel⟩ (by decide) (by decide) (by decide) (by decide) (k' := 6) (n' := 276) rfl rfl (by decide) (by decide) rfl
        have f2189 := f2068.ext E2188
        have f2190 := f2069.ext E2188
        have K2191 := (K2071).ext E2188
        have zp2192 : n0 ≤ h2188.size := Nat.le_trans zp2070 E2188.1
        have old2193 := (old2072).ext E2188
        have ST2188 := ST1.ext E2188
        have SL2188 : Str Z h2188 sa2188 sb2188 (0 : Int32) (64 : Int32) F64 := ⟨EX2188, FC2188, FV2188, ⟨kb2188, V2188⟩⟩
        have r2194 := r2188.astore (pc' := 180) (L' := #[.val (.int x0), .val (.int x1), .val (.int x2), .val (.int x3), .val (.int (3 : Int32)), .val (.int x), .val (.int y), .val (.int z), .val (.ref ob3), .val (.int (0 : Int32)), .val (.ref sa2188), .unset]) at_178 rfl rfl rfl
        obtain ⟨sa2195, sb2195, kb2195, vm2195, h2195, E2195, wd2195, C2195, EX2195, FC2195, FV2195, V2195, ne2195, r2195⟩ := r2194.ldcS (pc' := 182) (vs := (F65.map Value.int)) (z := (65 : Int32)) 260 wd2188 at_180 (hw _ (List.mem_of_getElem? (i := 29) rfl)) (wS1 hw) (ew1 hw) (List.mem_of_getElem? (i := 1) rfl) ⟨by decide, by decide +kernel⟩ (by decide) (by decide) (by decide) (by decide) (k' := 8) (n' := 540) rfl rfl (by decide) (by decide) rfl
        have f2196 := f2189.ext E2195
        have f2197 := f2190.ext E2195
        have K2198 := (K2191).ext E2195
        have zp2199 : n0 ≤ h2195.size := Nat.le_trans zp2192 E2195.1
        have old2200 := (old2193).ext E2195
        have ST2195 := ST2188.ext E2195
        have SL2195 : Str Z h2195 sa2195 sb2195 (0 : Int32) (65 : Int32) F65 := ⟨EX2195, FC2195, FV2195, ⟨kb2195, V2195⟩⟩
        have r2201 := r2195.astore (pc' := 184) (L' := #[.val (.int x0), .val (.int x1), .val (.int x2), .val (.int x3), .val (.int (3 : Int32)), .val (.int x), .val (.int y), .val (.int z), .val (.ref ob3), .val (.int (0 : Int32)), .val (.ref sa2188), .val (.ref sa2195)]) at_182 rfl rfl rfl
        have r2202 := r2201.aload (pc' := 186) at_184 rfl rfl rfl
        have he : valF cF (3 : Int32) = (0 : Int32) := by rw [val3]; simp [allF, c0, c1, c2, ox, oy]
        obtain ⟨v2205, h2206, hq2204, r2203⟩ := r2202.callS (pc' := 189) [(.ref ob3)] (rest := []) 0 at_186 (hw _ (List.mem_of_getElem? (i := 30) rfl)) (hw _ (List.mem_of_getElem? (i := 31) rfl)) (hw _ (List.mem_of_getElem? (i := 32) rfl)) (hw _ (List.mem_of_getElem? (i := 33) rfl)) (by decide) (v_valid l Z a0 hw ob3 sb cd b2 (3 : Int32) (0 : Int32) FF cF h2195 n0 ST2195 CF (by decide) (by decide) he cs vF SS old2200) pd_12 rfl rfl rfl (Nat.le_of_ble_eq_true rfl) (by decide) (by decide) (k' := 8) (n' := 540) rfl rfl (by decide) (by decide) rfl
        obtain ⟨rfl, rfl⟩ := hq2204
        dsimp only [Option.toList, List.cons_append, List.nil_append] at r2203
        have r2207 := r2203.iload (pc' := 191) at_189 rfl rfl
        have r2208 := r2207.icF (pc' := 194) at_191 (teq (by decide : (0 : Int32) = (0 : Int32))).2 rfl
        have r2209 := r2208.aload (pc' := 196) at_194 rfl rfl rfl
        obtain ⟨v2212, h2213, hq2211, r2210⟩ := r2209.callS (pc' := 199) [(.ref sa2188)] (rest := []) 0 at_196 (hw _ (List.mem_of_getElem? (i := 30) rfl)) (hw _ (List.mem_of_getElem? (i := 31) rfl)) (hw _ (List.mem_of_getElem? (i := 32) rfl)) (hw _ (List.mem_of_getElem? (i := 33) rfl)) (by decide) (v_valid l Z a0 hw sa2188 sb2188 0 (64 : Int32) (64 : Int32) (1 : Int32) F64 (chr0 F64) h2195 n0 (SL2188.ext E2195) (Or.inl ⟨rfl, rfl, rfl⟩) (by decide) (by decide) v64 cs vF SS old2200) pd_12 rfl rfl rfl (Nat.le_of_ble_eq_true rfl) (by decide) (by decide) (k' := 8) (n' := 540) rfl rfl (by decide) (by decide) rfl
        obtain ⟨rfl, rfl⟩ := hq2211
        dsimp only [Option.toList, List.cons_append, List.nil_append] at r2210
        have r2214 := r2210.ifF (pc' := 202) at_199 (feq (by decide : ¬ (1 : Int32) = (0 : Int32))).1 rfl
        have r2215 := r2214.aload (pc' := 204) at_202 rfl rfl rfl
        obtain ⟨v2218, h2219, hq2217, r2216⟩ := r2215.callS (pc' := 207) [(.ref sa2195)] (rest := []) 0 at_204 (hw _ (List.mem_of_getElem? (i := 30) rfl)) (hw _ (List.mem_of_getElem? (i := 31) rfl)) (hw _ (List.mem_of_getElem? (i := 32) rfl)) (hw _ (List.mem_of_getElem? (i := 33) rfl)) (by decide) (v_valid l Z a0 hw sa2195 sb2195 0 (65 : Int32) (65 : Int32) (0 : Int32) F65 (chr0 F65) h2195 n0 (SL2195) (Or.inl ⟨rfl, rfl, rfl⟩) (by decide) (by decide) v65 cs vF SS old2200) pd_12 rfl rfl rfl (Nat.le_of_ble_eq_true rfl) (by decide) (by decide) (k' := 8) (n' := 540) rfl rfl (by decide) (by decide) rfl
        obtain ⟨rfl, rfl⟩ := hq2217
        dsimp only [Option.toList, List.cons_append, List.nil_append] at r2216
        have r2220 := r2216.ifF (pc' := 210) at_207 (teq (by decide : (0 : Int32) = (0 : Int32))).2 rfl
        have r2221 := r2220.iconst (pc' := 211) (1 : Int32) at_210 rfl rfl
        have r2222 := r2221.goto (pc' := 215) at_211 (by decide) (by decide)
        exact ⟨_, _, Don.wide (r2222.retZ at_215 rfl (t := .boolean) (by simp) (1 : Int32) rfl (by decide) (by decide)) r2222 wd2195, rfl⟩
    · -- 0
      obtain ⟨v2225, h2226, hq2224, r2223⟩ := r2077.callS (pc' := 138) [(.int x)] (rest := []) 0 at_135 (hw _ (List.mem_of_getElem? (i := 85) rfl)) (hw _ (List.mem_of_getElem? (i := 86) rfl)) (hw _ (List.mem_of_getElem? (i := 2) rfl)) (hw _ (List.mem_of_getElem? (i := 87) rfl)) (by decide) (c_ok0 l Z a0 hw x h2067 n0 rx.1 rx.2 ox) pd_4 rfl rfl rfl (Nat.le_of_ble_eq_true rfl) (by decide) (by decide) (k' := 4) (n' := 16) rfl rfl (by decide) (by decide) rfl
      obtain ⟨rfl, rfl⟩ := hq2224
      dsimp only [Option.toList, List.cons_append, List.nil_append] at r2223
      have r2227 := r2223.ifT (pc' := 173) at_138 (teq (by decide : (0 : Int32) = (0 : Int32))).1 (by decide) (by decide)
      have r2228 := r2227.iconst (pc' := 174) (0 : Int32) at_173 rfl rfl
      have r2229 := r2228.istore (pc' := 176) (L' := #[.val (.int x0), .val (.int x1), .val (.int x2), .val (.int x3), .val (.int (3 : Int32)), .val (.int x), .val (.int y), .val (.int z), .val (.ref ob3), .val (.int (0 : Int32)), .unset, .unset]) at_174 rfl rfl
      obtain ⟨sa2230, sb2230, kb2230, vm2230, h2230, E2230, wd2230, C2230, EX2230, FC2230, FV2230, V2230, ne2230, r2230⟩ := r2229.ldcS (pc' := 178) (vs := (F64.map Value.int)) (z := (64 : Int32)) 256 wdK at_176 (hw _ (List.mem_of_getElem? (i := 28) rfl)) (wS1 hw) (ew1 hw) (List.mem_of_getElem? (i := 0) rfl) ⟨by decide, by decide +kernel⟩ (by decide) (by decide) (by decide) (by decide) (k' := 6) (n' := 276) rfl rfl (by decide) (by decide) rfl
      have f2231 := f2068.ext E2230
      have f2232 := f2069.ext E2230
      have K2233 := (K2071).ext E2230
      have zp2234 : n0 ≤ h2230.size := Nat.le_trans zp2070 E2230.1
      have old2235 := (old2072).ext E2230
      have ST2230 := ST1.ext E2230
      have SL2230 : Str Z h2230 sa2230 sb2230 (0 : Int32) (64 : Int32) F64 := ⟨EX2230, FC2230, FV2230, ⟨kb2230, V2230⟩⟩
      have r2236 := r2230.astore (pc' := 180) (L' := #[.val (.int x0), .val (.int x1), .val (.int x2), .val (.int x3), .val (.int (3 : Int32)), .val (.int x), .val (.int y), .val (.int z), .val (.ref ob3), .val (.int (0 : Int32)), .val (.ref sa2230), .unset]) at_178 rfl rfl rfl
      obtain ⟨sa2237, sb2237, kb2237, vm2237, h2237, E2237, wd2237, C2237, EX2237, FC2237, FV2237, V2237, ne2237, r2237⟩ := r2236.ldcS (pc' := 182) (vs := (F65.map Value.int)) (z := (65 : Int32)) 260 wd2230 at_180 (hw _ (List.mem_of_getElem? (i := 29) rfl)) (wS1 hw) (ew1 hw) (List.mem_of_getElem? (i := 1) rfl) ⟨by decide, by decide +kernel⟩ (by decide) (by decide) (by decide) (by decide) (k' := 8) (n' := 540) rfl rfl (by decide) (by decide) rfl
      have f2238 := f2231.ext E2237
      have f2239 := f2232.ext E2237
      have K2240 := (K2233).ext E2237
      have zp2241 : n0 ≤ h2237.size := Nat.le_trans zp2234 E2237.1
      have old2242 := (old2235).ext E2237
      have ST2237 := ST2230.ext E2237
      have SL2237 : Str Z h2237 sa2237 sb2237 (0 : Int32) (65 : Int32) F65 := ⟨EX2237, FC2237, FV2237, ⟨kb2237, V2237⟩⟩
      have r2243 := r2237.astore (pc' := 184) (L' := #[.val (.int x0), .val (.int x1), .val (.int x2), .val (.int x3), .val (.int (3 : Int32)), .val (.int x), .val (.int y), .val (.int z), .val (.ref ob3), .val (.int (0 : Int32)), .val (.ref sa2230), .val (.ref sa2237)]) at_182 rfl rfl rfl
      have r2244 := r2243.aload (pc' := 186) at_184 rfl rfl rfl
      have he : valF cF (3 : Int32) = (0 : Int32) := by rw [val3]; simp [allF, c0, c1, c2, ox]
      obtain ⟨v2247, h2248, hq2246, r2245⟩ := r2244.callS (pc' := 189) [(.ref ob3)] (rest := []) 0 at_186 (hw _ (List.mem_of_getElem? (i := 30) rfl)) (hw _ (List.mem_of_getElem? (i := 31) rfl)) (hw _ (List.mem_of_getElem? (i := 32) rfl)) (hw _ (List.mem_of_getElem? (i := 33) rfl)) (by decide) (v_valid l Z a0 hw ob3 sb cd b2 (3 : Int32) (0 : Int32) FF cF h2237 n0 ST2237 CF (by decide) (by decide) he cs vF SS old2242) pd_12 rfl rfl rfl (Nat.le_of_ble_eq_true rfl) (by decide) (by decide) (k' := 8) (n' := 540) rfl rfl (by decide) (by decide) rfl
      obtain ⟨rfl, rfl⟩ := hq2246
      dsimp only [Option.toList, List.cons_append, List.nil_append] at r2245
      have r2249 := r2245.iload (pc' := 191) at_189 rfl rfl
      have r2250 := r2249.icF (pc' := 194) at_191 (teq (by decide : (0 : Int32) = (0 : Int32))).2 rfl
      have r2251 := r2250.aload (pc' := 196) at_194 rfl rfl rfl
      obtain ⟨v2254, h2255, hq2253, r2252⟩ := r2251.callS (pc' := 199) [(.ref sa2230)] (rest := []) 0 at_196 (hw _ (List.mem_of_getElem? (i := 30) rfl)) (hw _ (List.mem_of_getElem? (i := 31) rfl)) (hw _ (List.mem_of_getElem? (i := 32) rfl)) (hw _ (List.mem_of_getElem? (i := 33) rfl)) (by decide) (v_valid l Z a0 hw sa2230 sb2230 0 (64 : Int32) (64 : Int32) (1 : Int32) F64 (chr0 F64) h2237 n0 (SL2230.ext E2237) (Or.inl ⟨rfl, rfl, rfl⟩) (by decide) (by decide) v64 cs vF SS old2242) pd_12 rfl rfl rfl (Nat.le_of_ble_eq_true rfl) (by decide) (by decide) (k' := 8) (n' := 540) rfl rfl (by decide) (by decide) rfl
      obtain ⟨rfl, rfl⟩ := hq2253
      dsimp only [Option.toList, List.cons_append, List.nil_append] at r2252
      have r2256 := r2252.ifF (pc' := 202) at_199 (feq (by decide : ¬ (1 : Int32) = (0 : Int32))).1 rfl
      have r2257 := r2256.aload (pc' := 204) at_202 rfl rfl rfl
      obtain ⟨v2260, h2261, hq2259, r2258⟩ := r2257.callS (pc' := 207) [(.ref sa2237)] (rest := []) 0 at_204 (hw _ (List.mem_of_getElem? (i := 30) rfl)) (hw _ (List.mem_of_getElem? (i := 31) rfl)) (hw _ (List.mem_of_getElem? (i := 32) rfl)) (hw _ (List.mem_of_getElem? (i := 33) rfl)) (by decide) (v_valid l Z a0 hw sa2237 sb2237 0 (65 : Int32) (65 : Int32) (0 : Int32) F65 (chr0 F65) h2237 n0 (SL2237) (Or.inl ⟨rfl, rfl, rfl⟩) (by decide) (by decide) v65 cs vF SS old2242) pd_12 rfl rfl rfl (Nat.le_of_ble_eq_true rfl) (by decide) (by decide) (k' := 8) (n' := 540) rfl rfl (by decide) (by decide) rfl
      obtain ⟨rfl, rfl⟩ := hq2259
      dsimp only [Option.toList, List.cons_append, List.nil_append] at r2258
      have r2262 := r2258.ifF (pc' := 210) at_207 (teq (by decide : (0 : Int32) = (0 : Int32))).2 rfl
      have r2263 := r2262.iconst (pc' := 211) (1 : Int32) at_210 rfl rfl
      have r2264 := r2263.goto (pc' := 215) at_211 (by decide) (by decide)
      exact ⟨_, _, Don.wide (r2264.retZ at_215 rfl (t := .boolean) (by simp) (1 : Int32) rfl (by decide) (by decide)) r2264 wd2237, rfl⟩
theorem own_staI {args : Array Value} {Z : State} {C n d : String} {k : Int32} (h : (Jvm.Cond.eq (Term.static C n d) (Term.int k)).before args Z = true) (w : (Jvm.Cond.initializedFor C n d).before args Z = true) : Sta Z Z.heap C n d (.int k) := by
  replace h := Cond.before_iff.mp h
  obtain ⟨x, y, e1, e2, k1, k2⟩ := cmp_v (Or.inl h)
  have e3 : y = .int k := Option.some.inj (e2.symm.trans (Term.int_eval k))
  subst e3
  obtain ⟨z, rfl⟩ := k2
  have hz : z = k := by simpa [Cond.value, e1, e2] using h
  subst hz
  exact Sta.start e1 (Or.inl w)
set_option maxRecDepth 65536 in
set_option maxHeartbeats 40000000 in
theorem comes_1 {Post : Tables → Env → Array Value → State → Outcome → State → Prop} (hpost : ∀ tb e args s v u, (limb_1_1.after args s (.returned v) u = true ∧ limb_1_2.after args s (.returned v) u = true ∧ True) → ReturnedEndW s (.returned v) u (Jvm.fieldLocs frame_1_writes args s ++ Jvm.arrayLocs frame_1_arrays args s ++ Jvm.staticLocs frame_1_statics s) 24 3200 → Post tb e args s (.returned v) u) :
    ArmFor flags0 classFile x code maxLocals ret World_1 tables_1 room_1 Calls_1 rest_1 Pre_1 Post := by
  intro l hfl _ _ p e ha hc hk s m args below hf hA hF happ hP
  obtain ⟨hcalls, hrest, hpre⟩ := hP
  obtain ⟨-, -, -, hnamed, -, -, -, hat⟩ := (Spec.applies_iff hf).mp happ
  obtain ⟨hg, hn⟩ := and_e (Cond.before_iff.mp (show (Jvm.Cond.and given_1 narrow_1).before args s = true from hpre))
  obtain ⟨gg1, gg2⟩ := and_e hg
  obtain ⟨gg3, gg4⟩ := and_e gg2
  obtain ⟨gg5, gg6⟩ := and_e gg4
  obtain ⟨gg7, gg8⟩ := and_e gg6
  obtain ⟨w0, w1, w2, w3, rfl⟩ : ∃ w0 w1 w2 w3 : Value, args = #[w0, w1, w2, w3] := by
    have hs : args.size = 4 := by simpa [Cond.value, given_1] using gg1
    obtain ⟨L⟩ := args
    match L, hs with
    | [w0, w1, w2, w3], _ => exact ⟨w0, w1, w2, w3, rfl⟩
  have hw := fun d (hd : d ∈ tables_1) => atoms_spec (ws := Jvm.Cond.code x code maxLocals ret :: tables_1) hat d (List.mem_cons_of_mem _ hd)
  obtain ⟨i0, ei0⟩ := is_v gg3
  obtain rfl : w0 = (.int i0) := Option.some.inj ei0
  obtain ⟨i1, ei1⟩ := is_v gg5
  obtain rfl : w1 = (.int i1) := Option.some.inj ei1
  obtain ⟨i2, ei2⟩ := is_v gg7
  obtain rfl : w2 = (.int i2) := Option.some.inj ei2
  obtain ⟨i3, ei3⟩ := is_v gg8
  obtain rfl : w3 = (.int i3) := Option.some.inj ei3
  obtain ⟨hsets, hown0⟩ := atoms_of _ (rest_1_c_eq ▸ (show rest_1_c.before _ s = true from hrest))
  obtain ⟨cs, evc⟩ := is_v (Cond.before_iff.mp (hsets _ (List.mem_of_getElem? (i := 1) rfl)))
  have SCS := Sta.start evc (Or.inl (hsets _ (List.mem_of_getElem? (i := 0) rfl)))
  have hcs : ¬ cs = 0 := by have q := not_v (Cond.before_iff.mp (hsets _ (List.mem_of_getElem? (i := 2) rfl))); simpa [Cond.value, evc, Term.int_eval] using q
  obtain ⟨vF, evf, hvF⟩ := isR_v (Cond.before_iff.mp (hsets _ (List.mem_of_getElem? (i := 8) rfl)))
  have SFF := Sta.start evf (Or.inl (hsets _ (List.mem_of_getElem? (i := 7) rfl)))
  have hCH : CHv s EL1 s.vm s.heap := CHv.start (ew1 hw) hcalls.1 (hsets _ (List.mem_of_getElem? (i := 2) rfl)) (hw _ (List.mem_of_getElem? (i := 21) rfl)) (hw _ (List.mem_of_getElem? (i := 7) rfl))
  have SS : Stt s cs vF := ⟨⟨SCS, hcs⟩, ⟨SFF, hvF⟩, own_staI (hsets _ (List.mem_of_getElem? (i := 12) rfl)) (hsets _ (List.mem_of_getElem? (i := 11) rfl)), own_staI (hsets _ (List.mem_of_getElem? (i := 15) rfl)) (hsets _ (List.mem_of_getElem? (i := 14) rfl)), own_staI (hsets _ (List.mem_of_getElem? (i := 18) rfl)) (hsets _ (List.mem_of_getElem? (i := 17) rfl))⟩
  obtain ⟨n, o, h1, h2, h3, _, L, rfl, ⟨N, rfl⟩, -, hq⟩ := law l s _ hw i0 i1 i2 i3 s.heap s.heap.size (Nat.le_refl _) cs vF SS (Old.start s) tables_1 p e ha hc hk s m _ below hf ((Spec.applies_iff_loose hf).mp happ).1 ⟨rfl, State.Warmed39.refl s, rfl, hCH⟩ trivial
  refine ⟨n, _, h1, h2, h3, hpost _ _ _ _ _ _ ⟨Cond.after_iff.mpr rfl, Cond.after_iff.mpr (eq_i res_at (Term.int_eval (1)) rfl), trivial⟩ ⟨hq.1, hq.2.1, hq.2.2.1, (hq.2.2.2.sift fun y hy => Or.inr (N y hy)).mono (by decide) (by decide)⟩⟩
theorem main_1_1 : Claimed_1_1 := comes_1 fun _ _ _ _ _ _ h hF => ⟨h.1, hF⟩
theorem main_1_2 : Claimed_1_2 := comes_1 fun _ _ _ _ _ _ h hF => ⟨h.2.1, hF⟩

end Jvm.Pilot.@@N@@
namespace Jvm.Pilot.@@N@@
open Jvm Jvm.ClassFile Sem Op Lib Jvm.Free Jvm.Stand Jvm.Pilot.@@N@@.Jvm.D
/-! MADE BY PROGRAM (witnessworld.py) out of the Statement's table words and the real class files: 20 classes; the members and pool entries that the words name. The judged class is class 1, her method 3. -/
namespace start1
open Jvm.ClassFile
def u (s : String) : CpInfo := .utf8 (stringToUtf16 s)
/-- a pool by its gaps: so many unusable entries, then the entry; so many at the end -/
def gap : Nat → List CpInfo → List CpInfo
  | 0, r => r
  | n + 1, r => .unusable :: gap n r
def poolList (es : List (Nat × CpInfo)) (last : Nat) : List CpInfo := es.foldr (fun e r => gap e.1 (e.2 :: r)) (gap last [])
def pool (es : List (Nat × CpInfo)) (last : Nat) : Array CpInfo := ⟨poolList es last⟩
def fileOf (pool : Array CpInfo) (this : Nat) (attrs : Array Attribute := #[]) (ms : Array MethodInfo := #[]) (fl : Nat := 33) (sup : Nat := 0) (ifs : Array Nat := #[]) (fds : Array FieldInfo := #[]) : ClassFile where
  minorVersion := 0
  majorVersion := 65
  constantPool := pool
  accessFlags := fl
  thisClass := this
  superClass := sup
  interfaces := ifs
  fields := fds
  methods := ms
  attributes := attrs
def plain (name : String) (sup : Option ClassId) : Class where
  name := name
  kind := .ordinary
  loader := none
  accessFlags := 33
  super := sup
  interfaces := #[]
  cf := none
  fields := #[]
  methods := #[]
  instanceTypes := #[]
  staticTypes := #[]
  resolved := #[]
  callSites := []
  init := .initialized
  statics := none
  mirror := none

def pool0 : Array CpInfo := pool [(5, u "<init>"), (0, u "()V"), (1, .class_ 10), (1, u "java/lang/Object")] 113

def k0c0 : Code := { maxStack := 0, maxLocals := 1, code := object_method_1_code, exceptionTable := #[], attributes := #[] }
def k0m0 : Method := { name := "<init>", desc := "()V", sig := { parameters := [], returnType := none }, accessFlags := 1, code := some k0c0 }
/-- java/lang/Object -/
def k0 : Class := { plain "java/lang/Object" none with
  accessFlags := 33
  interfaces := #[]
  cf := some (fileOf pool0 8 #[] #[{ accessFlags := 1, nameIndex := 5, descriptorIndex := 6, attributes := #[] }] 33 0 #[] #[])
  fields := #[]
  methods := #[k0m0]
  instanceTypes := #[]
  staticTypes := #[]
  resolved := Array.replicate 124 none
  statics := none }

def pool1 : Array CpInfo := pool [(2, .class_ 4), (1, u "java/lang/Object"), (0, u "<init>"), (0, u "()V"), (0, .integer 65536), (0, .integer 65535), (0, .methodref 10 11), (0, .class_ 12), (0, .nameAndType 13 14), (0, u "com/example/hermod/hermod/model/NamesIsValidPinLaw"), (0, u "ch"), (0, u "(I)C"), (0, .class_ 16), (0, u "java/lang/String"), (0, .methodref 15 18), (0, .nameAndType 5 19), (0, u "([C)V"), (0, .methodref 10 21), (0, .nameAndType 22 23), (0, u "ok"), (0, u "(C)Z"), (0, .string 25), (0, u "ABCDEFGHIJKLMNOPQRSTUVWXYZabcdefghijklmnopqrstuvwxyz0123456789._"), (0, .string 27), (0, u "ABCDEFGHIJKLMNOPQRSTUVWXYZabcdefghijklmnopqrstuvwxyz0123456789._-"), (0, .methodref 29 30), (0, .class_ 31), (0, .nameAndType 32 33), (0, u "com/example/hermod/hermod/model/Names"), (0, u "isValid"), (0, u "(Ljava/lang/String;)Z"), (3, u "law"), (0, u "(IIII)Z")] 2

def k1m0 : Method := { name := "<init>", desc := "()V", sig := { parameters := [], returnType := none }, accessFlags := 2, code := none }
def k1c1 : Code := { maxStack := 2, maxLocals := 1, code := method_2_code, exceptionTable := #[], attributes := #[] }
def k1m1 : Method := { name := "ch", desc := "(I)C", sig := { parameters := [.int], returnType := some .char }, accessFlags := 10, code := some k1c1 }
def k1c2 : Code := { maxStack := 2, maxLocals := 2, code := method_3_code, exceptionTable := #[], attributes := #[] }
def k1m2 : Method := { name := "ok", desc := "(C)Z", sig := { parameters := [.char], returnType := some .boolean }, accessFlags := 10, code := some k1c2 }
def k1c3 : Code := { maxStack := 6, maxLocals := 12, code := code, exceptionTable := #[], attributes := #[] }
def k1m3 : Method := { name := "law", desc := "(IIII)Z", sig := { parameters := [.int, .int, .int, .int], returnType := some .boolean }, accessFlags := 9, code := some k1c3 }
/-- com/example/hermod/hermod/model/NamesIsValidPinLaw -/
def k1 : Class := { plain "com/example/hermod/hermod/model/NamesIsValidPinLaw" (some 0) with
  accessFlags := 49
  interfaces := #[]
  cf := some (fileOf pool1 10 #[] #[{ accessFlags := 2, nameIndex := 5, descriptorIndex := 6, attributes := #[] }, { accessFlags := 10, nameIndex := 13, descriptorIndex := 14, attributes := #[] }, { accessFlags := 10, nameIndex := 22, descriptorIndex := 23, attributes := #[] }, { accessFlags := 9, nameIndex := 37, descriptorIndex := 38, attributes := #[] }] 49 2 #[] #[])
  fields := #[]
  methods := #[k1m0, k1m1, k1m2, k1m3]
  instanceTypes := #[]
  staticTypes := #[]
  resolved := Array.replicate 41 none
  statics := none }

def pool2 : Array CpInfo := pool [(1, .class_ 2), (0, u "java/io/Serializable"), (0, .class_ 4), (0, u "java/lang/Object")] 2

/-- java/io/Serializable -/
def k2 : Class := { plain "java/io/Serializable" (some 0) with
  accessFlags := 1537
  interfaces := #[]
  cf := some (fileOf pool2 1 #[] #[] 1537 3 #[] #[])
  fields := #[]
  methods := #[]
  instanceTypes := #[]
  staticTypes := #[]
  resolved := Array.replicate 7 none
  statics := none }

def pool3 : Array CpInfo := pool [(1, .class_ 2), (0, u "java/lang/Comparable"), (0, .class_ 4), (0, u "java/lang/Object")] 7

/-- java/lang/Comparable -/
def k3 : Class := { plain "java/lang/Comparable" (some 0) with
  accessFlags := 1537
  interfaces := #[]
  cf := some (fileOf pool3 1 #[] #[] 1537 3 #[] #[])
  fields := #[]
  methods := #[]
  instanceTypes := #[]
  staticTypes := #[]
  resolved := Array.replicate 12 none
  statics := none }

def pool4 : Array CpInfo := pool [(2, .class_ 4), (1, u "java/lang/CharSequence"), (42, .class_ 48), (0, u "java/lang/CharSequence$1CodePointIterator"), (10, .class_ 60), (0, u "java/lang/CharSequence$1CharIterator"), (5, .class_ 67), (0, u "java/lang/Object")] 63

/-- java/lang/CharSequence -/
def k4 : Class := { plain "java/lang/CharSequence" (some 0) with
  accessFlags := 1537
  interfaces := #[]
  cf := some (fileOf pool4 2 #[.nestMembers #[47, 59]] #[] 1537 66 #[] #[])
  fields := #[]
  methods := #[]
  instanceTypes := #[]
  staticTypes := #[]
  resolved := Array.replicate 131 none
  statics := none }

def pool5 : Array CpInfo := pool [(1, .class_ 2), (0, u "java/lang/constant/Constable"), (0, .class_ 4), (0, u "java/lang/Object")] 6

/-- java/lang/constant/Constable -/
def k5 : Class := { plain "java/lang/constant/Constable" (some 0) with
  accessFlags := 1537
  interfaces := #[]
  cf := some (fileOf pool5 1 #[] #[] 1537 3 #[] #[])
  fields := #[]
  methods := #[]
  instanceTypes := #[]
  staticTypes := #[]
  resolved := Array.replicate 11 none
  statics := none }

def pool6 : Array CpInfo := pool [(1, .class_ 2), (0, u "java/lang/constant/ConstantDesc"), (0, .class_ 4), (0, u "java/lang/Object")] 32

/-- java/lang/constant/ConstantDesc -/
def k6 : Class := { plain "java/lang/constant/ConstantDesc" (some 0) with
  accessFlags := 1537
  interfaces := #[]
  cf := some (fileOf pool6 1 #[] #[] 1537 3 #[] #[])
  fields := #[]
  methods := #[]
  instanceTypes := #[]
  staticTypes := #[]
  resolved := Array.replicate 37 none
  statics := none }

def pool7 : Array CpInfo := pool [(1, .methodref 2 3), (0, .class_ 4), (0, .nameAndType 5 6), (0, u "java/lang/Object"), (0, u "<init>"), (0, u "()V"), (0, .string 8), (0, u ""), (0, .fieldref 10 11), (0, .class_ 12), (0, .nameAndType 13 14), (0, u "java/lang/String"), (0, u "value"), (0, u "[B"), (0, .fieldref 10 16), (0, .nameAndType 17 18), (0, u "coder"), (0, u "B"), (2, u "hash"), (0, u "I"), (2, u "hashIsZero"), (0, u "Z"), (0, .methodref 10 28), (0, .nameAndType 5 29), (0, u "([CIILjava/lang/Void;)V"), (8, .fieldref 10 39), (0, .nameAndType 40 26), (0, u "COMPACT_STRINGS"), (1, .class_ 44), (1, u "java/lang/StringUTF16"), (0, u "compress"), (1, .methodref 42 48), (0, .nameAndType 49 50), (0, u "coderFromArrayLen"), (0, u "([BI)B"), (56, .class_ 109), (1, u "java/lang/StringLatin1"), (32, u "()Z"), (34, .methodref 42 178), (0, .nameAndType 45 179), (0, u "([CII)[B"), (154, u "()I"), (0, .methodref 10 336), (0, .nameAndType 17 337), (0, u "()B"), (25, u "([BI)C"), (27, u "(II)V"), (35, u "(I)C"), (64, .methodref 10 493), (0, .nameAndType 494 142), (0, u "isLatin1"), (0, .methodref 107 496), (0, .nameAndType 497 363), (0, u "charAt"), (0, .methodref 42 496), (2, u "checkIndex"), (5, u "length"), (67, .class_ 576), (0, u "java/lang/CharSequence"), (22, u "CASE_INSENSITIVE_ORDER"), (0, u "Ljava/util/Comparator;"), (91, u "isEmpty"), (317, u "([C)V"), (42, .fieldref 1054 1055), (0, .class_ 1056), (0, .nameAndType 1057 1058), (0, u "jdk/internal/util/Preconditions"), (0, u "SIOOBE_FORMATTER"), (0, u "Ljava/util/function/BiFunction;"), (0, .methodref 1054 1060), (0, .nameAndType 501 1061), (0, u "(IILjava/util/function/BiFunction;)I"), (39, u "serialPersistentFields"), (0, u "[Ljava/io/ObjectStreamField;"), (0, .class_ 1104), (0, u "java/lang/String$CaseInsensitiveComparator"), (1, .class_ 1107), (0, u "java/io/Serializable"), (0, .class_ 1109), (0, u "java/lang/Comparable"), (0, .class_ 1111), (0, u "java/lang/constant/Constable"), (0, .class_ 1113), (0, u "java/lang/constant/ConstantDesc"), (2, u "serialVersionUID"), (0, u "J"), (3, u "REPL"), (0, u "C"), (2, u "LATIN1"), (1, u "UTF16")] 323

def k7m0 : Method := { name := "<init>", desc := "()V", sig := { parameters := [], returnType := none }, accessFlags := 1, code := none }
def k7c1 : Code := { maxStack := 5, maxLocals := 2, code := jdk_42_method_3_code, exceptionTable := #[], attributes := #[] }
def k7m1 : Method := { name := "<init>", desc := "([C)V", sig := { parameters := [(.array .char)], returnType := none }, accessFlags := 1, code := some k7c1 }
def k7c2 : Code := { maxStack := 2, maxLocals := 1, code := jdk_42_method_54_code, exceptionTable := #[], attributes := #[] }
def k7m2 : Method := { name := "length", desc := "()I", sig := { parameters := [], returnType := some .int }, accessFlags := 1, code := some k7c2 }
def k7c3 : Code := { maxStack := 1, maxLocals := 1, code := jdk_42_method_55_code, exceptionTable := #[], attributes := #[] }
def k7m3 : Method := { name := "isEmpty", desc := "()Z", sig := { parameters := [], returnType := some .boolean }, accessFlags := 1, code := some k7c3 }
def k7c4 : Code := { maxStack := 2, maxLocals := 2, code := jdk_42_method_56_code, exceptionTable := #[], attributes := #[] }
def k7m4 : Method := { name := "charAt", desc := "(I)C", sig := { parameters := [.int], returnType := some .char }, accessFlags := 1, code := some k7c4 }
def k7c5 : Code := { maxStack := 4, maxLocals := 6, code := jdk_42_method_149_code, exceptionTable := #[], attributes := #[] }
def k7m5 : Method := { name := "<init>", desc := "([CIILjava/lang/Void;)V", sig := { parameters := [(.array .char), .int, .int, (.object "java/lang/Void")], returnType := none }, accessFlags := 2, code := some k7c5 }
def k7c6 : Code := { maxStack := 1, maxLocals := 1, code := jdk_42_method_152_code, exceptionTable := #[], attributes := #[] }
def k7m6 : Method := { name := "coder", desc := "()B", sig := { parameters := [], returnType := some .byte }, accessFlags := 0, code := some k7c6 }
def k7c7 : Code := { maxStack := 1, maxLocals := 1, code := jdk_42_method_154_code, exceptionTable := #[], attributes := #[] }
def k7m7 : Method := { name := "isLatin1", desc := "()Z", sig := { parameters := [], returnType := some .boolean }, accessFlags := 0, code := some k7c7 }
def k7c8 : Code := { maxStack := 3, maxLocals := 2, code := jdk_42_method_155_code, exceptionTable := #[], attributes := #[] }
def k7m8 : Method := { name := "checkIndex", desc := "(II)V", sig := { parameters := [.int, .int], returnType := none }, accessFlags := 8, code := some k7c8 }
/-- java/lang/String -/
def k7 : Class := { plain "java/lang/String" (some 0) with
  accessFlags := 49
  interfaces := #[2, 3, 4, 5, 6]
  cf := some (fileOf pool7 10 #[.nestMembers #[1103]] #[{ accessFlags := 1, nameIndex := 5, descriptorIndex := 6, attributes := #[] }, { accessFlags := 1, nameIndex := 5, descriptorIndex := 1010, attributes := #[] }, { accessFlags := 1, nameIndex := 507, descriptorIndex := 334, attributes := #[] }, { accessFlags := 1, nameIndex := 692, descriptorIndex := 142, attributes := #[] }, { accessFlags := 1, nameIndex := 497, descriptorIndex := 427, attributes := #[] }, { accessFlags := 2, nameIndex := 5, descriptorIndex := 29, attributes := #[] }, { accessFlags := 0, nameIndex := 17, descriptorIndex := 337, attributes := #[] }, { accessFlags := 0, nameIndex := 494, descriptorIndex := 142, attributes := #[] }, { accessFlags := 8, nameIndex := 501, descriptorIndex := 391, attributes := #[] }] 49 2 #[1106, 1108, 575, 1110, 1112] #[{ accessFlags := 18, nameIndex := 13, descriptorIndex := 14, attributes := #[] }, { accessFlags := 18, nameIndex := 17, descriptorIndex := 18, attributes := #[] }, { accessFlags := 2, nameIndex := 21, descriptorIndex := 22, attributes := #[] }, { accessFlags := 2, nameIndex := 25, descriptorIndex := 26, attributes := #[] }, { accessFlags := 26, nameIndex := 1116, descriptorIndex := 1117, attributes := #[] }, { accessFlags := 24, nameIndex := 40, descriptorIndex := 26, attributes := #[] }, { accessFlags := 26, nameIndex := 1101, descriptorIndex := 1102, attributes := #[] }, { accessFlags := 26, nameIndex := 1121, descriptorIndex := 1122, attributes := #[] }, { accessFlags := 25, nameIndex := 599, descriptorIndex := 600, attributes := #[] }, { accessFlags := 24, nameIndex := 1125, descriptorIndex := 18, attributes := #[] }, { accessFlags := 24, nameIndex := 1127, descriptorIndex := 18, attributes := #[] }])
  fields := #[{ name := "value", type := (.array .byte), accessFlags := 18, slot := 0, constantValue := 0 }, { name := "coder", type := .byte, accessFlags := 18, slot := 1, constantValue := 0 }, { name := "hash", type := .int, accessFlags := 2, slot := 2, constantValue := 0 }, { name := "hashIsZero", type := .boolean, accessFlags := 2, slot := 3, constantValue := 0 }, { name := "serialVersionUID", type := .long, accessFlags := 26, slot := 0, constantValue := 0 }, { name := "COMPACT_STRINGS", type := .boolean, accessFlags := 24, slot := 1, constantValue := 0 }, { name := "serialPersistentFields", type := (.array (.object "java/io/ObjectStreamField")), accessFlags := 26, slot := 2, constantValue := 0 }, { name := "REPL", type := .char, accessFlags := 26, slot := 3, constantValue := 0 }, { name := "CASE_INSENSITIVE_ORDER", type := (.object "java/util/Comparator"), accessFlags := 25, slot := 4, constantValue := 0 }, { name := "LATIN1", type := .byte, accessFlags := 24, slot := 5, constantValue := 0 }, { name := "UTF16", type := .byte, accessFlags := 24, slot := 6, constantValue := 0 }]
  methods := #[k7m0, k7m1, k7m2, k7m3, k7m4, k7m5, k7m6, k7m7, k7m8]
  instanceTypes := #[(.array .byte), .byte, .int, .boolean]
  staticTypes := #[.long, .boolean, (.array (.object "java/io/ObjectStreamField")), .char, (.object "java/util/Comparator"), .byte, .byte]
  resolved := Array.replicate 1451 none
  statics := some 0 }

def pool8 : Array CpInfo := pool [(2, .class_ 4), (1, u "java/lang/Object"), (0, u "<init>"), (0, u "()V"), (0, .methodref 8 9), (0, .class_ 10), (0, .nameAndType 11 12), (0, u "java/lang/String"), (0, u "isEmpty"), (0, u "()Z"), (0, .methodref 8 14), (0, .nameAndType 15 16), (0, u "length"), (0, u "()I"), (0, .class_ 18), (0, u "com/example/hermod/hermod/model/Names"), (0, .methodref 8 20), (0, .nameAndType 21 22), (0, u "charAt"), (0, u "(I)C"), (0, .methodref 17 24), (0, .nameAndType 25 26), (0, u "isNameCharacter"), (0, u "(C)Z"), (0, u "MAX_LENGTH"), (0, u "I"), (4, u "isValid"), (0, u "(Ljava/lang/String;)Z")] 3

def k8m0 : Method := { name := "<init>", desc := "()V", sig := { parameters := [], returnType := none }, accessFlags := 2, code := none }
def k8c1 : Code := { maxStack := 2, maxLocals := 2, code := prog_12_method_2_code, exceptionTable := #[], attributes := #[] }
def k8m1 : Method := { name := "isValid", desc := "(Ljava/lang/String;)Z", sig := { parameters := [(.object "java/lang/String")], returnType := some .boolean }, accessFlags := 9, code := some k8c1 }
def k8c2 : Code := { maxStack := 2, maxLocals := 1, code := prog_12_method_3_code, exceptionTable := #[], attributes := #[] }
def k8m2 : Method := { name := "isNameCharacter", desc := "(C)Z", sig := { parameters := [.char], returnType := some .boolean }, accessFlags := 10, code := some k8c2 }
/-- com/example/hermod/hermod/model/Names -/
def k8 : Class := { plain "com/example/hermod/hermod/model/Names" (some 0) with
  accessFlags := 33
  interfaces := #[]
  cf := some (fileOf pool8 17 #[] #[{ accessFlags := 2, nameIndex := 5, descriptorIndex := 6, attributes := #[] }, { accessFlags := 9, nameIndex := 33, descriptorIndex := 34, attributes := #[] }, { accessFlags := 10, nameIndex := 25, descriptorIndex := 26, attributes := #[] }] 33 2 #[] #[{ accessFlags := 25, nameIndex := 27, descriptorIndex := 28, attributes := #[] }])
  fields := #[{ name := "MAX_LENGTH", type := .int, accessFlags := 25, slot := 0, constantValue := 0 }]
  methods := #[k8m0, k8m1, k8m2]
  instanceTypes := #[]
  staticTypes := #[.int]
  resolved := Array.replicate 38 none
  statics := none }

def pool9 : Array CpInfo := pool [(1, .class_ 2), (0, u "java/lang/String"), (1, .class_ 6), (1, u "java/lang/Object"), (0, u "<init>"), (0, u "()V"), (0, .methodref 1 10), (0, .nameAndType 11 12), (0, u "checkIndex"), (0, u "(II)V"), (1, .class_ 16), (1, u "java/lang/StringLatin1"), (36, u "([BI)C"), (67, u "$assertionsDisabled"), (0, u "Z"), (98, .class_ 223), (1, u "java/lang/StringLatin1$LinesSpliterator"), (28, u "charAt"), (137, .class_ 391), (0, u "java/lang/StringLatin1$CharsSpliterator")] 3

def k9m0 : Method := { name := "<init>", desc := "()V", sig := { parameters := [], returnType := none }, accessFlags := 0, code := none }
def k9c1 : Code := { maxStack := 2, maxLocals := 2, code := jdk_43_method_2_code, exceptionTable := #[], attributes := #[] }
def k9m1 : Method := { name := "charAt", desc := "([BI)C", sig := { parameters := [(.array .byte), .int], returnType := some .char }, accessFlags := 9, code := some k9c1 }
/-- java/lang/StringLatin1 -/
def k9 : Class := { plain "java/lang/StringLatin1" (some 0) with
  accessFlags := 48
  interfaces := #[]
  cf := some (fileOf pool9 14 #[.nestMembers #[390, 221]] #[{ accessFlags := 0, nameIndex := 7, descriptorIndex := 8, attributes := #[] }, { accessFlags := 9, nameIndex := 252, descriptorIndex := 53, attributes := #[] }] 48 4 #[] #[{ accessFlags := 4120, nameIndex := 121, descriptorIndex := 122, attributes := #[] }])
  fields := #[{ name := "$assertionsDisabled", type := .boolean, accessFlags := 4120, slot := 0, constantValue := 0 }]
  methods := #[k9m0, k9m1]
  instanceTypes := #[]
  staticTypes := #[.boolean]
  resolved := Array.replicate 395 none
  statics := none }

def pool10 : Array CpInfo := pool [(2, .class_ 4), (1, u "java/lang/Object"), (0, u "<init>"), (0, u "()V"), (17, .class_ 26), (1, u "jdk/internal/util/Preconditions"), (6, u "checkIndex"), (21, .class_ 56), (0, u "jdk/internal/util/Preconditions$4"), (57, .class_ 115), (0, u "jdk/internal/util/Preconditions$1"), (7, u "SIOOBE_FORMATTER"), (0, u "Ljava/util/function/BiFunction;"), (0, .class_ 126), (0, u "jdk/internal/util/Preconditions$2"), (3, u "AIOOBE_FORMATTER"), (0, .class_ 132), (0, u "jdk/internal/util/Preconditions$3"), (3, u "IOOBE_FORMATTER"), (41, u "(IILjava/util/function/BiFunction;)I")] 15

def k10m0 : Method := { name := "<init>", desc := "()V", sig := { parameters := [], returnType := none }, accessFlags := 1, code := none }
def k10c1 : Code := { maxStack := 3, maxLocals := 3, code := jdk_41_method_11_code, exceptionTable := #[], attributes := #[] }
def k10m1 : Method := { name := "checkIndex", desc := "(IILjava/util/function/BiFunction;)I", sig := { parameters := [.int, .int, (.object "java/util/function/BiFunction")], returnType := some .int }, accessFlags := 9, code := some k10c1 }
/-- jdk/internal/util/Preconditions -/
def k10 : Class := { plain "jdk/internal/util/Preconditions" (some 0) with
  accessFlags := 33
  interfaces := #[]
  cf := some (fileOf pool10 24 #[.nestMembers #[55, 131, 125, 114]] #[{ accessFlags := 1, nameIndex := 5, descriptorIndex := 6, attributes := #[] }, { accessFlags := 9, nameIndex := 33, descriptorIndex := 178, attributes := #[] }] 33 2 #[] #[{ accessFlags := 25, nameIndex := 123, descriptorIndex := 124, attributes := #[] }, { accessFlags := 25, nameIndex := 130, descriptorIndex := 124, attributes := #[] }, { accessFlags := 25, nameIndex := 136, descriptorIndex := 124, attributes := #[] }])
  fields := #[{ name := "SIOOBE_FORMATTER", type := (.object "java/util/function/BiFunction"), accessFlags := 25, slot := 0, constantValue := 0 }, { name := "AIOOBE_FORMATTER", type := (.object "java/util/function/BiFunction"), accessFlags := 25, slot := 1, constantValue := 0 }, { name := "IOOBE_FORMATTER", type := (.object "java/util/function/BiFunction"), accessFlags := 25, slot := 2, constantValue := 0 }]
  methods := #[k10m0, k10m1]
  instanceTypes := #[]
  staticTypes := #[(.object "java/util/function/BiFunction"), (.object "java/util/function/BiFunction"), (.object "java/util/function/BiFunction")]
  resolved := Array.replicate 194 none
  statics := some 1 }

def pool11 : Array CpInfo := pool [(3, .class_ 4), (0, u "java/lang/String"), (1, .class_ 8), (1, u "java/lang/Object"), (0, u "<init>"), (0, u "()V"), (0, .methodref 12 13), (0, .class_ 14), (0, .nameAndType 15 16), (0, u "java/lang/StringUTF16"), (0, u "newBytesLength"), (0, u "(I)I"), (3, .integer 1073741823), (23, .fieldref 12 45), (0, .nameAndType 46 47), (0, u "$assertionsDisabled"), (0, u "Z"), (0, .methodref 12 49), (0, .nameAndType 50 51), (0, u "length"), (0, u "([B)I"), (7, .fieldref 12 60), (0, .nameAndType 61 62), (0, u "HI_BYTE_SHIFT"), (0, u "I"), (0, .fieldref 12 64), (0, .nameAndType 65 62), (0, u "LO_BYTE_SHIFT"), (1, .methodref 12 68), (0, .nameAndType 69 70), (0, u "checkIndex"), (0, u "(I[B)V"), (0, .methodref 12 72), (0, .nameAndType 73 74), (0, u "getChar"), (0, u "([BI)C"), (32, .methodref 12 108), (0, .nameAndType 109 110), (0, u "newBytesFor"), (0, u "(I)[B"), (0, .methodref 12 112), (0, .nameAndType 113 114), (0, u "putChar"), (0, u "([BII)V"), (0, .methodref 12 116), (0, .nameAndType 117 118), (0, u "compress"), (0, u "([CI[BII)I"), (0, .methodref 12 120), (0, .nameAndType 121 122), (0, u "toBytes"), (0, u "([CII)[B"), (138, u "coderFromArrayLen"), (0, u "([BI)B"), (106, .class_ 371), (1, u "java/lang/StringUTF16$LinesSpliterator"), (20, u "charAt"), (21, .methodref 3 415), (0, .nameAndType 69 416), (0, u "(II)V"), (13, u "MAX_LENGTH"), (196, .class_ 628), (0, u "java/lang/StringUTF16$CodePointsSpliterator"), (0, .class_ 630), (0, u "java/lang/StringUTF16$CharsSpliterator")] 4

def k11m0 : Method := { name := "<init>", desc := "()V", sig := { parameters := [], returnType := none }, accessFlags := 0, code := none }
def k11c1 : Code := { maxStack := 1, maxLocals := 1, code := jdk_52_method_2_code, exceptionTable := #[], attributes := #[] }
def k11m1 : Method := { name := "newBytesFor", desc := "(I)[B", sig := { parameters := [.int], returnType := some (.array .byte) }, accessFlags := 9, code := some k11c1 }
def k11c2 : Code := { maxStack := 4, maxLocals := 1, code := jdk_52_method_3_code, exceptionTable := #[], attributes := #[] }
def k11m2 : Method := { name := "newBytesLength", desc := "(I)I", sig := { parameters := [.int], returnType := some .int }, accessFlags := 9, code := some k11c2 }
def k11c3 : Code := { maxStack := 4, maxLocals := 3, code := jdk_52_method_4_code, exceptionTable := #[], attributes := #[] }
def k11m3 : Method := { name := "putChar", desc := "([BII)V", sig := { parameters := [(.array .byte), .int, .int], returnType := none }, accessFlags := 8, code := some k11c3 }
def k11c4 : Code := { maxStack := 3, maxLocals := 2, code := jdk_52_method_5_code, exceptionTable := #[], attributes := #[] }
def k11m4 : Method := { name := "getChar", desc := "([BI)C", sig := { parameters := [(.array .byte), .int], returnType := some .char }, accessFlags := 8, code := some k11c4 }
def k11c5 : Code := { maxStack := 2, maxLocals := 1, code := jdk_52_method_6_code, exceptionTable := #[], attributes := #[] }
def k11m5 : Method := { name := "length", desc := "([B)I", sig := { parameters := [(.array .byte)], returnType := some .int }, accessFlags := 9, code := some k11c5 }
def k11c6 : Code := { maxStack := 4, maxLocals := 5, code := jdk_52_method_14_code, exceptionTable := #[], attributes := #[] }
def k11m6 : Method := { name := "toBytes", desc := "([CII)[B", sig := { parameters := [(.array .char), .int, .int], returnType := some (.array .byte) }, accessFlags := 9, code := some k11c6 }
def k11c7 : Code := { maxStack := 2, maxLocals := 2, code := jdk_52_method_15_code, exceptionTable := #[], attributes := #[] }
def k11m7 : Method := { name := "coderFromArrayLen", desc := "([BI)B", sig := { parameters := [(.array .byte), .int], returnType := some .byte }, accessFlags := 8, code := some k11c7 }
def k11c8 : Code := { maxStack := 5, maxLocals := 6, code := jdk_52_method_16_code, exceptionTable := #[], attributes := #[] }
def k11m8 : Method := { name := "compress", desc := "([CII)[B", sig := { parameters := [(.array .char), .int, .int], returnType := some (.array .byte) }, accessFlags := 9, code := some k11c8 }
def k11c9 : Code := { maxStack := 3, maxLocals := 7, code := jdk_52_method_21_code, exceptionTable := #[], attributes := #[] }
def k11m9 : Method := { name := "compress", desc := "([CI[BII)I", sig := { parameters := [(.array .char), .int, (.array .byte), .int, .int], returnType := some .int }, accessFlags := 9, code := some k11c9 }
def k11c10 : Code := { maxStack := 2, maxLocals := 2, code := jdk_52_method_83_code, exceptionTable := #[], attributes := #[] }
def k11m10 : Method := { name := "charAt", desc := "([BI)C", sig := { parameters := [(.array .byte), .int], returnType := some .char }, accessFlags := 9, code := some k11c10 }
def k11c11 : Code := { maxStack := 2, maxLocals := 2, code := jdk_52_method_91_code, exceptionTable := #[], attributes := #[] }
def k11m11 : Method := { name := "checkIndex", desc := "(I[B)V", sig := { parameters := [.int, (.array .byte)], returnType := none }, accessFlags := 9, code := some k11c11 }
/-- java/lang/StringUTF16 -/
def k11 : Class := { plain "java/lang/StringUTF16" (some 0) with
  accessFlags := 48
  interfaces := #[]
  cf := some (fileOf pool11 12 #[.nestMembers #[627, 629, 369]] #[{ accessFlags := 0, nameIndex := 9, descriptorIndex := 10, attributes := #[] }, { accessFlags := 9, nameIndex := 109, descriptorIndex := 110, attributes := #[] }, { accessFlags := 9, nameIndex := 15, descriptorIndex := 16, attributes := #[] }, { accessFlags := 8, nameIndex := 113, descriptorIndex := 114, attributes := #[] }, { accessFlags := 8, nameIndex := 73, descriptorIndex := 74, attributes := #[] }, { accessFlags := 9, nameIndex := 50, descriptorIndex := 51, attributes := #[] }, { accessFlags := 9, nameIndex := 121, descriptorIndex := 122, attributes := #[] }, { accessFlags := 8, nameIndex := 261, descriptorIndex := 262, attributes := #[] }, { accessFlags := 9, nameIndex := 117, descriptorIndex := 122, attributes := #[] }, { accessFlags := 9, nameIndex := 117, descriptorIndex := 118, attributes := #[] }, { accessFlags := 9, nameIndex := 392, descriptorIndex := 74, attributes := #[] }, { accessFlags := 9, nameIndex := 69, descriptorIndex := 70, attributes := #[] }] 48 6 #[] #[{ accessFlags := 26, nameIndex := 61, descriptorIndex := 62, attributes := #[] }, { accessFlags := 26, nameIndex := 65, descriptorIndex := 62, attributes := #[] }, { accessFlags := 24, nameIndex := 430, descriptorIndex := 62, attributes := #[] }, { accessFlags := 4120, nameIndex := 46, descriptorIndex := 47, attributes := #[] }])
  fields := #[{ name := "HI_BYTE_SHIFT", type := .int, accessFlags := 26, slot := 0, constantValue := 0 }, { name := "LO_BYTE_SHIFT", type := .int, accessFlags := 26, slot := 1, constantValue := 0 }, { name := "MAX_LENGTH", type := .int, accessFlags := 24, slot := 2, constantValue := 0 }, { name := "$assertionsDisabled", type := .boolean, accessFlags := 4120, slot := 3, constantValue := 0 }]
  methods := #[k11m0, k11m1, k11m2, k11m3, k11m4, k11m5, k11m6, k11m7, k11m8, k11m9, k11m10, k11m11]
  instanceTypes := #[]
  staticTypes := #[.int, .int, .int, .boolean]
  resolved := Array.replicate 635 none
  statics := some 2 }

def pool12 : Array CpInfo := pool [(9, u "<init>"), (6, .class_ 18), (1, u "java/lang/Object"), (0, u "()V"), (1, .class_ 23), (1, u "jdk/internal/util/ArraysSupport"), (0, u "LOG2_ARRAY_LONG_INDEX_SCALE"), (0, u "I"), (2, u "U"), (0, u "Ljdk/internal/misc/Unsafe;"), (8, u "BIG_ENDIAN"), (0, u "Z"), (8, u "LOG2_BYTE_BIT_SIZE"), (4, u "LOG2_ARRAY_INT_INDEX_SCALE"), (54, u "JLA"), (0, u "Ljdk/internal/access/JavaLangAccess;"), (11, u "LOG2_ARRAY_BOOLEAN_INDEX_SCALE"), (9, u "LOG2_ARRAY_BYTE_INDEX_SCALE"), (5, u "LOG2_ARRAY_CHAR_INDEX_SCALE"), (5, u "LOG2_ARRAY_SHORT_INDEX_SCALE"), (18, u "LOG2_ARRAY_FLOAT_INDEX_SCALE"), (24, u "LOG2_ARRAY_DOUBLE_INDEX_SCALE"), (89, u "T_BOOLEAN"), (2, u "T_CHAR"), (1, u "T_FLOAT"), (1, u "T_DOUBLE"), (1, u "T_BYTE"), (1, u "T_SHORT"), (1, u "T_INT"), (1, u "T_LONG"), (1, u "SOFT_MAX_ARRAY_LENGTH")] 83

def k12m0 : Method := { name := "<init>", desc := "()V", sig := { parameters := [], returnType := none }, accessFlags := 2, code := none }
/-- jdk/internal/util/ArraysSupport -/
def k12 : Class := { plain "jdk/internal/util/ArraysSupport" (some 0) with
  accessFlags := 33
  interfaces := #[]
  cf := some (fileOf pool12 21 #[] #[{ accessFlags := 2, nameIndex := 9, descriptorIndex := 19, attributes := #[] }] 33 16 #[] #[{ accessFlags := 24, nameIndex := 28, descriptorIndex := 29, attributes := #[] }, { accessFlags := 26, nameIndex := 38, descriptorIndex := 39, attributes := #[] }, { accessFlags := 25, nameIndex := 121, descriptorIndex := 25, attributes := #[] }, { accessFlags := 25, nameIndex := 131, descriptorIndex := 25, attributes := #[] }, { accessFlags := 25, nameIndex := 137, descriptorIndex := 25, attributes := #[] }, { accessFlags := 25, nameIndex := 143, descriptorIndex := 25, attributes := #[] }, { accessFlags := 25, nameIndex := 53, descriptorIndex := 25, attributes := #[] }, { accessFlags := 25, nameIndex := 24, descriptorIndex := 25, attributes := #[] }, { accessFlags := 25, nameIndex := 162, descriptorIndex := 25, attributes := #[] }, { accessFlags := 25, nameIndex := 187, descriptorIndex := 25, attributes := #[] }, { accessFlags := 26, nameIndex := 48, descriptorIndex := 25, attributes := #[] }, { accessFlags := 25, nameIndex := 277, descriptorIndex := 25, attributes := #[] }, { accessFlags := 25, nameIndex := 280, descriptorIndex := 25, attributes := #[] }, { accessFlags := 25, nameIndex := 282, descriptorIndex := 25, attributes := #[] }, { accessFlags := 25, nameIndex := 284, descriptorIndex := 25, attributes := #[] }, { accessFlags := 25, nameIndex := 286, descriptorIndex := 25, attributes := #[] }, { accessFlags := 25, nameIndex := 288, descriptorIndex := 25, attributes := #[] }, { accessFlags := 25, nameIndex := 290, descriptorIndex := 25, attributes := #[] }, { accessFlags := 25, nameIndex := 292, descriptorIndex := 25, attributes := #[] }, { accessFlags := 26, nameIndex := 108, descriptorIndex := 109, attributes := #[] }, { accessFlags := 25, nameIndex := 294, descriptorIndex := 25, attributes := #[] }])
  fields := #[{ name := "U", type := (.object "jdk/internal/misc/Unsafe"), accessFlags := 24, slot := 0, constantValue := 0 }, { name := "BIG_ENDIAN", type := .boolean, accessFlags := 26, slot := 1, constantValue := 0 }, { name := "LOG2_ARRAY_BOOLEAN_INDEX_SCALE", type := .int, accessFlags := 25, slot := 2, constantValue := 0 }, { name := "LOG2_ARRAY_BYTE_INDEX_SCALE", type := .int, accessFlags := 25, slot := 3, constantValue := 0 }, { name := "LOG2_ARRAY_CHAR_INDEX_SCALE", type := .int, accessFlags := 25, slot := 4, constantValue := 0 }, { name := "LOG2_ARRAY_SHORT_INDEX_SCALE", type := .int, accessFlags := 25, slot := 5, constantValue := 0 }, { name := "LOG2_ARRAY_INT_INDEX_SCALE", type := .int, accessFlags := 25, slot := 6, constantValue := 0 }, { name := "LOG2_ARRAY_LONG_INDEX_SCALE", type := .int, accessFlags := 25, slot := 7, constantValue := 0 }, { name := "LOG2_ARRAY_FLOAT_INDEX_SCALE", type := .int, accessFlags := 25, slot := 8, constantValue := 0 }, { name := "LOG2_ARRAY_DOUBLE_INDEX_SCALE", type := .int, accessFlags := 25, slot := 9, constantValue := 0 }, { name := "LOG2_BYTE_BIT_SIZE", type := .int, accessFlags := 26, slot := 10, constantValue := 0 }, { name := "T_BOOLEAN", type := .int, accessFlags := 25, slot := 11, constantValue := 0 }, { name := "T_CHAR", type := .int, accessFlags := 25, slot := 12, constantValue := 0 }, { name := "T_FLOAT", type := .int, accessFlags := 25, slot := 13, constantValue := 0 }, { name := "T_DOUBLE", type := .int, accessFlags := 25, slot := 14, constantValue := 0 }, { name := "T_BYTE", type := .int, accessFlags := 25, slot := 15, constantValue := 0 }, { name := "T_SHORT", type := .int, accessFlags := 25, slot := 16, constantValue := 0 }, { name := "T_INT", type := .int, accessFlags := 25, slot := 17, constantValue := 0 }, { name := "T_LONG", type := .int, accessFlags := 25, slot := 18, constantValue := 0 }, { name := "JLA", type := (.object "jdk/internal/access/JavaLangAccess"), accessFlags := 26, slot := 19, constantValue := 0 }, { name := "SOFT_MAX_ARRAY_LENGTH", type := .int, accessFlags := 25, slot := 20, constantValue := 0 }]
  methods := #[k12m0]
  instanceTypes := #[]
  staticTypes := #[(.object "jdk/internal/misc/Unsafe"), .boolean, .int, .int, .int, .int, .int, .int, .int, .int, .int, .int, .int, .int, .int, .int, .int, .int, .int, (.object "jdk/internal/access/JavaLangAccess"), .int]
  resolved := Array.replicate 378 none
  statics := none }

def pool13 : Array CpInfo := pool [(1, u "java/lang/Cloneable"), (0, .class_ 1), (0, u "java/lang/Object"), (0, .class_ 3)] 3

/-- java/lang/Cloneable -/
def k13 : Class := { plain "java/lang/Cloneable" (some 0) with
  accessFlags := 1537
  interfaces := #[]
  cf := some (fileOf pool13 2 #[] #[] 1537 4 #[] #[])
  fields := #[]
  methods := #[]
  instanceTypes := #[]
  staticTypes := #[]
  resolved := Array.replicate 8 none
  statics := none }

/-- the primitive byte -/
def k14 : Class := { plain "byte" none with kind := .primitive 'B', accessFlags := 0x411 }
/-- [B -/
def k15 : Class := { plain "[B" (some 0) with kind := .array 14 .byte, interfaces := #[13, 2], accessFlags := 1041 }

/-- the primitive char -/
def k16 : Class := { plain "char" none with kind := .primitive 'C', accessFlags := 0x411 }
/-- [C -/
def k17 : Class := { plain "[C" (some 0) with kind := .array 16 .char, interfaces := #[13, 2], accessFlags := 1041 }

/-- the primitive int -/
def k18 : Class := { plain "int" none with kind := .primitive 'I', accessFlags := 0x411 }
/-- [I -/
def k19 : Class := { plain "[I" (some 0) with kind := .array 18 .int, interfaces := #[13, 2], accessFlags := 1041 }

def heap : Heap := #[{ cls := 7, slots := #[.long 0, .int 1, .null, .int 0, .null, .int 0, .int 0], vm := .statics 7 },
  { cls := 10, slots := #[.null, .null, .null], vm := .statics 10 },
  { cls := 11, slots := #[.int 0, .int 8, .int 0, .int 1], vm := .statics 11 }]
def classes : Array Class := #[k0, k1, k2, k3, k4, k5, k6, k7, k8, k9, k10, k11, k12, k13, k14, k15, k16, k17, k18, k19]
def interned : List (Array UInt16 × Addr) := []
def slotsUsed : Nat := 14
def theMethod : MethodId := ⟨1, 3⟩
def args0 : Array Value := #[.int 5, .int 4, .int 7, .int 9]
def aboutOver (below : List Frame) : State where
  vm := { classes := classes, interned := interned.toArray }
  heap := heap
  slotsUsed := slotsUsed
  threads := #[{ frames := .invoking theMethod args0 :: below }]
def below0 : List Frame := [.native { method := ⟨0, 0⟩, args := #[] }]
def about1 : State := aboutOver below0
def p0 : Program := .bare "" "" ""
def e0 : Env := launch0.env 0 0 0
theorem w_frames : about1.frames = Frame.invoking theMethod args0 :: below0 := rfl
set_option maxRecDepth 65536 in
theorem w_args : argsFit about1.vm theMethod args0 = true := by decide +kernel
set_option maxRecDepth 65536 in
theorem w_heap : heapFits about1 = true := by decide +kernel
set_option maxRecDepth 65536 in
theorem w_runnable : about1.curStatus? = some .runnable := by decide +kernel
set_option maxRecDepth 65536 in
theorem w_alone : about1.alone = true := by decide +kernel
set_option maxRecDepth 65536 in
theorem w_named : about1.methodNamed? x = some theMethod := by decide +kernel
set_option maxRecDepth 65536 in
theorem w_hears : about1.hears theMethod below0 = true := by decide +kernel
set_option maxRecDepth 65536 in
theorem w_ripe : about1.ripe theMethod args0 below0 = true := by decide +kernel
theorem w_running : about1.status = .running := rfl
set_option maxRecDepth 65536 in
theorem w_room : about1.hasRoom e0.platform room_1 = true :=
  launch0.hasRoom_least _ room_1 (by decide +kernel) (by decide +kernel) (by decide +kernel) (by decide +kernel) (by decide +kernel) (by decide +kernel)
theorem allAtoms_all (ts : List Jvm.Cond) (a : Array Jvm.Value) (st : Jvm.State) : (allAtoms ts).before a st = ts.all (fun c => c.before a st) := by
  induction ts with
  | nil => rfl
  | cons c t ih =>
    show (Jvm.Cond.and c (allAtoms t)).before a st = _
    rw [Jvm.Cond.before_and, ih, List.all_cons]
def words1 : List Jvm.Cond := Jvm.Cond.code x code maxLocals ret :: tables_1
/-- a 'code' word, met by the world's own term for the bytes: nothing is compared byte by byte -/
theorem code_word {y : MethodName} {bytes : ByteArray} {mx : Nat} {rt : Option FieldType} {a : Array Value} {s : State} {m : MethodId} {meth : Method} {c : Code} (h1 : s.methodNamed? y = some m) (h2 : s.vm.method? m = some meth) (h3 : meth.code = some c) (h4 : c.code = bytes)
    (h5 : (c.maxLocals == mx && c.exceptionTable.isEmpty && decide (c.maxStack ≤ mostOperands) && decide (meth.sig.returnType = rt) && !meth.locks && decide (parseMethodDescriptor y.desc = some meth.sig)) = true) : (Jvm.Cond.code y bytes mx rt).before a s = true := by
  simp only [Bool.and_eq_true, beq_iff_eq, Bool.not_eq_true', decide_eq_true_eq] at h5
  obtain ⟨⟨⟨⟨⟨g1, g2⟩, g3⟩, g4⟩, g5⟩, g6⟩ := h5
  simp [Cond.before, Cond.holds, Cond.value, h1, h2, h3, h4, g1, g2, g3, g4, g5, g6]
def isCode : Jvm.Cond → Bool
  | .code _ _ _ _ => true
  | _ => false
theorem all_split {L : List Jvm.Cond} {P : Jvm.Cond → Bool} (h1 : L.all (fun c => isCode c || P c) = true) (h2 : ∀ c ∈ L.filter isCode, P c = true) : L.all P = true := by
  refine List.all_eq_true.mpr fun c hc => ?_
  have h := List.all_eq_true.mp h1 c hc
  rcases Bool.eq_false_or_eq_true (isCode c) with hi | hi
  · exact h2 c (List.mem_filter.mpr ⟨hc, hi⟩)
  · simpa [hi] using h
set_option maxRecDepth 65536 in
theorem w_c0 : (Jvm.Cond.code x code maxLocals ret).before args0 about1 = true := code_word (m := ⟨1, 3⟩) (meth := k1m3) (c := k1c3) (by decide +kernel) rfl rfl rfl (by decide +kernel)
set_option maxRecDepth 65536 in
theorem w_c1 : (Jvm.Cond.code ({ cls := "com/example/hermod/hermod/model/NamesIsValidPinLaw", name := "ch", desc := "(I)C" } : Jvm.MethodName) method_2_code (1 : Nat) (Option.some Jvm.ClassFile.FieldType.char)).before args0 about1 = true := code_word (m := ⟨1, 1⟩) (meth := k1m1) (c := k1c1) (by decide +kernel) rfl rfl rfl (by decide +kernel)
set_option maxRecDepth 65536 in
theorem w_c2 : (Jvm.Cond.code ({ cls := "java/lang/String", name := "<init>", desc := "([C)V" } : Jvm.MethodName) jdk_42_method_3_code (2 : Nat) (Option.none : Option Jvm.ClassFile.FieldType)).before args0 about1 = true := code_word (m := ⟨7, 1⟩) (meth := k7m1) (c := k7c1) (by decide +kernel) rfl rfl rfl (by decide +kernel)
set_option maxRecDepth 65536 in
theorem w_c3 : (Jvm.Cond.code ({ cls := "java/lang/String", name := "<init>", desc := "([CIILjava/lang/Void;)V" } : Jvm.MethodName) jdk_42_method_149_code (6 : Nat) (Option.none : Option Jvm.ClassFile.FieldType)).before args0 about1 = true := code_word (m := ⟨7, 5⟩) (meth := k7m5) (c := k7c5) (by decide +kernel) rfl rfl rfl (by decide +kernel)
set_option maxRecDepth 65536 in
theorem w_c4 : (Jvm.Cond.code ({ cls := "java/lang/Object", name := "<init>", desc := "()V" } : Jvm.MethodName) object_method_1_code (1 : Nat) (Option.none : Option Jvm.ClassFile.FieldType)).before args0 about1 = true := code_word (m := ⟨0, 0⟩) (meth := k0m0) (c := k0c0) (by decide +kernel) rfl rfl rfl (by decide +kernel)
set_option maxRecDepth 65536 in
theorem w_c5 : (Jvm.Cond.code ({ cls := "com/example/hermod/hermod/model/Names", name := "isValid", desc := "(Ljava/lang/String;)Z" } : Jvm.MethodName) prog_12_method_2_code (2 : Nat) (Option.some Jvm.ClassFile.FieldType.boolean)).before args0 about1 = true := code_word (m := ⟨8, 1⟩) (meth := k8m1) (c := k8c1) (by decide +kernel) rfl rfl rfl (by decide +kernel)
set_option maxRecDepth 65536 in
theorem w_c6 : (Jvm.Cond.code ({ cls := "java/lang/String", name := "isEmpty", desc := "()Z" } : Jvm.MethodName) jdk_42_method_55_code (1 : Nat) (Option.some Jvm.ClassFile.FieldType.boolean)).before args0 about1 = true := code_word (m := ⟨7, 3⟩) (meth := k7m3) (c := k7c3) (by decide +kernel) rfl rfl rfl (by decide +kernel)
set_option maxRecDepth 65536 in
theorem w_c7 : (Jvm.Cond.code ({ cls := "java/lang/String", name := "length", desc := "()I" } : Jvm.MethodName) jdk_42_method_54_code (1 : Nat) (Option.some Jvm.ClassFile.FieldType.int)).before args0 about1 = true := code_word (m := ⟨7, 2⟩) (meth := k7m2) (c := k7c2) (by decide +kernel) rfl rfl rfl (by decide +kernel)
set_option maxRecDepth 65536 in
theorem w_c8 : (Jvm.Cond.code ({ cls := "java/lang/String", name := "coder", desc := "()B" } : Jvm.MethodName) jdk_42_method_152_code (1 : Nat) (Option.some Jvm.ClassFile.FieldType.byte)).before args0 about1 = true := code_word (m := ⟨7, 6⟩) (meth := k7m6) (c := k7c6) (by decide +kernel) rfl rfl rfl (by decide +kernel)
set_option maxRecDepth 65536 in
theorem w_c9 : (Jvm.Cond.code ({ cls := "java/lang/String", name := "charAt", desc := "(I)C" } : Jvm.MethodName) jdk_42_method_56_code (2 : Nat) (Option.some Jvm.ClassFile.FieldType.char)).before args0 about1 = true := code_word (m := ⟨7, 4⟩) (meth := k7m4) (c := k7c4) (by decide +kernel) rfl rfl rfl (by decide +kernel)
set_option maxRecDepth 65536 in
theorem w_c10 : (Jvm.Cond.code ({ cls := "java/lang/String", name := "isLatin1", desc := "()Z" } : Jvm.MethodName) jdk_42_method_154_code (1 : Nat) (Option.some Jvm.ClassFile.FieldType.boolean)).before args0 about1 = true := code_word (m := ⟨7, 7⟩) (meth := k7m7) (c := k7c7) (by decide +kernel) rfl rfl rfl (by decide +kernel)
set_option maxRecDepth 65536 in
theorem w_c11 : (Jvm.Cond.code ({ cls := "java/lang/StringLatin1", name := "charAt", desc := "([BI)C" } : Jvm.MethodName) jdk_43_method_2_code (2 : Nat) (Option.some Jvm.ClassFile.FieldType.char)).before args0 about1 = true := code_word (m := ⟨9, 1⟩) (meth := k9m1) (c := k9c1) (by decide +kernel) rfl rfl rfl (by decide +kernel)
set_option maxRecDepth 65536 in
theorem w_c12 : (Jvm.Cond.code ({ cls := "java/lang/String", name := "checkIndex", desc := "(II)V" } : Jvm.MethodName) jdk_42_method_155_code (2 : Nat) (Option.none : Option Jvm.ClassFile.FieldType)).before args0 about1 = true := code_word (m := ⟨7, 8⟩) (meth := k7m8) (c := k7c8) (by decide +kernel) rfl rfl rfl (by decide +kernel)
set_option maxRecDepth 65536 in
theorem w_c13 : (Jvm.Cond.code ({ cls := "jdk/internal/util/Preconditions", name := "checkIndex", desc := "(IILjava/util/function/BiFunction;)I" } : Jvm.MethodName) jdk_41_method_11_code (3 : Nat) (Option.some Jvm.ClassFile.FieldType.int)).before args0 about1 = true := code_word (m := ⟨10, 1⟩) (meth := k10m1) (c := k10c1) (by decide +kernel) rfl rfl rfl (by decide +kernel)
set_option maxRecDepth 65536 in
theorem w_c14 : (Jvm.Cond.code ({ cls := "com/example/hermod/hermod/model/Names", name := "isNameCharacter", desc := "(C)Z" } : Jvm.MethodName) prog_12_method_3_code (1 : Nat) (Option.some Jvm.ClassFile.FieldType.boolean)).before args0 about1 = true := code_word (m := ⟨8, 2⟩) (meth := k8m2) (c := k8c2) (by decide +kernel) rfl rfl rfl (by decide +kernel)
set_option maxRecDepth 65536 in
theorem w_c15 : (Jvm.Cond.code ({ cls := "java/lang/StringUTF16", name := "compress", desc := "([CII)[B" } : Jvm.MethodName) jdk_52_method_16_code (6 : Nat) (Option.some (Jvm.ClassFile.FieldType.array Jvm.ClassFile.FieldType.byte))).before args0 about1 = true := code_word (m := ⟨11, 8⟩) (meth := k11m8) (c := k11c8) (by decide +kernel) rfl rfl rfl (by decide +kernel)
set_option maxRecDepth 65536 in
theorem w_c16 : (Jvm.Cond.code ({ cls := "java/lang/StringUTF16", name := "compress", desc := "([CI[BII)I" } : Jvm.MethodName) jdk_52_method_21_code (7 : Nat) (Option.some Jvm.ClassFile.FieldType.int)).before args0 about1 = true := code_word (m := ⟨11, 9⟩) (meth := k11m9) (c := k11c9) (by decide +kernel) rfl rfl rfl (by decide +kernel)
set_option maxRecDepth 65536 in
theorem w_c17 : (Jvm.Cond.code ({ cls := "java/lang/StringUTF16", name := "coderFromArrayLen", desc := "([BI)B" } : Jvm.MethodName) jdk_52_method_15_code (2 : Nat) (Option.some Jvm.ClassFile.FieldType.byte)).before args0 about1 = true := code_word (m := ⟨11, 7⟩) (meth := k11m7) (c := k11c7) (by decide +kernel) rfl rfl rfl (by decide +kernel)
set_option maxRecDepth 65536 in
theorem w_c18 : (Jvm.Cond.code ({ cls := "com/example/hermod/hermod/model/NamesIsValidPinLaw", name := "ok", desc := "(C)Z" } : Jvm.MethodName) method_3_code (2 : Nat) (Option.some Jvm.ClassFile.FieldType.boolean)).before args0 about1 = true := code_word (m := ⟨1, 2⟩) (meth := k1m2) (c := k1c2) (by decide +kernel) rfl rfl rfl (by decide +kernel)
set_option maxRecDepth 65536 in
theorem w_c19 : (Jvm.Cond.code ({ cls := "java/lang/StringUTF16", name := "toBytes", desc := "([CII)[B" } : Jvm.MethodName) jdk_52_method_14_code (5 : Nat) (Option.some (Jvm.ClassFile.FieldType.array Jvm.ClassFile.FieldType.byte))).before args0 about1 = true := code_word (m := ⟨11, 6⟩) (meth := k11m6) (c := k11c6) (by decide +kernel) rfl rfl rfl (by decide +kernel)
set_option maxRecDepth 65536 in
theorem w_c20 : (Jvm.Cond.code ({ cls := "java/lang/StringUTF16", name := "newBytesFor", desc := "(I)[B" } : Jvm.MethodName) jdk_52_method_2_code (1 : Nat) (Option.some (Jvm.ClassFile.FieldType.array Jvm.ClassFile.FieldType.byte))).before args0 about1 = true := code_word (m := ⟨11, 1⟩) (meth := k11m1) (c := k11c1) (by decide +kernel) rfl rfl rfl (by decide +kernel)
set_option maxRecDepth 65536 in
theorem w_c21 : (Jvm.Cond.code ({ cls := "java/lang/StringUTF16", name := "newBytesLength", desc := "(I)I" } : Jvm.MethodName) jdk_52_method_3_code (1 : Nat) (Option.some Jvm.ClassFile.FieldType.int)).before args0 about1 = true := code_word (m := ⟨11, 2⟩) (meth := k11m2) (c := k11c2) (by decide +kernel) rfl rfl rfl (by decide +kernel)
set_option maxRecDepth 65536 in
theorem w_c22 : (Jvm.Cond.code ({ cls := "java/lang/StringUTF16", name := "putChar", desc := "([BII)V" } : Jvm.MethodName) jdk_52_method_4_code (3 : Nat) (Option.none : Option Jvm.ClassFile.FieldType)).before args0 about1 = true := code_word (m := ⟨11, 3⟩) (meth := k11m3) (c := k11c3) (by decide +kernel) rfl rfl rfl (by decide +kernel)
set_option maxRecDepth 65536 in
theorem w_c23 : (Jvm.Cond.code ({ cls := "java/lang/StringUTF16", name := "getChar", desc := "([BI)C" } : Jvm.MethodName) jdk_52_method_5_code (2 : Nat) (Option.some Jvm.ClassFile.FieldType.char)).before args0 about1 = true := code_word (m := ⟨11, 4⟩) (meth := k11m4) (c := k11c4) (by decide +kernel) rfl rfl rfl (by decide +kernel)
set_option maxRecDepth 65536 in
theorem w_c24 : (Jvm.Cond.code ({ cls := "java/lang/StringUTF16", name := "charAt", desc := "([BI)C" } : Jvm.MethodName) jdk_52_method_83_code (2 : Nat) (Option.some Jvm.ClassFile.FieldType.char)).before args0 about1 = true := code_word (m := ⟨11, 10⟩) (meth := k11m10) (c := k11c10) (by decide +kernel) rfl rfl rfl (by decide +kernel)
set_option maxRecDepth 65536 in
theorem w_c25 : (Jvm.Cond.code ({ cls := "java/lang/StringUTF16", name := "checkIndex", desc := "(I[B)V" } : Jvm.MethodName) jdk_52_method_91_code (2 : Nat) (Option.none : Option Jvm.ClassFile.FieldType)).before args0 about1 = true := code_word (m := ⟨11, 11⟩) (meth := k11m11) (c := k11c11) (by decide +kernel) rfl rfl rfl (by decide +kernel)
set_option maxRecDepth 65536 in
theorem w_c26 : (Jvm.Cond.code ({ cls := "java/lang/StringUTF16", name := "length", desc := "([B)I" } : Jvm.MethodName) jdk_52_method_6_code (1 : Nat) (Option.some Jvm.ClassFile.FieldType.int)).before args0 about1 = true := code_word (m := ⟨11, 5⟩) (meth := k11m5) (c := k11c5) (by decide +kernel) rfl rfl rfl (by decide +kernel)
def codes1 : List Jvm.Cond := [Jvm.Cond.code x code maxLocals ret, Jvm.Cond.code ({ cls := "com/example/hermod/hermod/model/NamesIsValidPinLaw", name := "ch", desc := "(I)C" } : Jvm.MethodName) method_2_code (1 : Nat) (Option.some Jvm.ClassFile.FieldType.char), Jvm.Cond.code ({ cls := "java/lang/String", name := "<init>", desc := "([C)V" } : Jvm.MethodName) jdk_42_method_3_code (2 : Nat) (Option.none : Option Jvm.ClassFile.FieldType), Jvm.Cond.code ({ cls := "java/lang/String", name := "<init>", desc := "([CIILjava/lang/Void;)V" } : Jvm.MethodName) jdk_42_method_149_code (6 : Nat) (Option.none : Option Jvm.ClassFile.FieldType), Jvm.Cond.code ({ cls := "java/lang/Object", name := "<init>", desc := "()V" } : Jvm.MethodName) object_method_1_code (1 : Nat) (Option.none : Option Jvm.ClassFile.FieldType), Jvm.Cond.code ({ cls := "com/example/hermod/hermod/model/Names", name := "isValid", desc := "(Ljava/lang/String;)Z" } : Jvm.MethodName) prog_12_method_2_code (2 : Nat) (Option.some Jvm.ClassFile.FieldType.boolean), Jvm.Cond.code ({ cls := "java/lang/String", name := "isEmpty", desc := "()Z" } : Jvm.MethodName) jdk_42_method_55_code (1 : Nat) (Option.some Jvm.ClassFile.FieldType.boolean), Jvm.Cond.code ({ cls := "java/lang/String", name := "length", desc := "()I" } : Jvm.MethodName) jdk_42_method_54_code (1 : Nat) (Option.some Jvm.ClassFile.FieldType.int), Jvm.Cond.code ({ cls := "java/lang/String", name := "coder", desc := "()B" } : Jvm.MethodName) jdk_42_method_152_code (1 : Nat) (Option.some Jvm.ClassFile.FieldType.byte), Jvm.Cond.code ({ cls := "java/lang/String", name := "charAt", desc := "(I)C" } : Jvm.MethodName) jdk_42_method_56_code (2 : Nat) (Option.some Jvm.ClassFile.FieldType.char), Jvm.Cond.code ({ cls := "java/lang/String", name := "isLatin1", desc := "()Z" } : Jvm.MethodName) jdk_42_method_154_code (1 : Nat) (Option.some Jvm.ClassFile.FieldType.boolean), Jvm.Cond.code ({ cls := "java/lang/StringLatin1", name := "charAt", desc := "([BI)C" } : Jvm.MethodName) jdk_43_method_2_code (2 : Nat) (Option.some Jvm.ClassFile.FieldType.char), Jvm.Cond.code ({ cls := "java/lang/String", name := "checkIndex", desc := "(II)V" } : Jvm.MethodName) jdk_42_method_155_code (2 : Nat) (Option.none : Option Jvm.ClassFile.FieldType), Jvm.Cond.code ({ cls := "jdk/internal/util/Preconditions", name := "checkIndex", desc := "(IILjava/util/function/BiFunction;)I" } : Jvm.MethodName) jdk_41_method_11_code (3 : Nat) (Option.some Jvm.ClassFile.FieldType.int), Jvm.Cond.code ({ cls := "com/example/hermod/hermod/model/Names", name := "isNameCharacter", desc := "(C)Z" } : Jvm.MethodName) prog_12_method_3_code (1 : Nat) (Option.some Jvm.ClassFile.FieldType.boolean), Jvm.Cond.code ({ cls := "java/lang/StringUTF16", name := "compress", desc := "([CII)[B" } : Jvm.MethodName) jdk_52_method_16_code (6 : Nat) (Option.some (Jvm.ClassFile.FieldType.array Jvm.ClassFile.FieldType.byte)), Jvm.Cond.code ({ cls := "java/lang/StringUTF16", name := "compress", desc := "([CI[BII)I" } : Jvm.MethodName) jdk_52_method_21_code (7 : Nat) (Option.some Jvm.ClassFile.FieldType.int), Jvm.Cond.code ({ cls := "java/lang/StringUTF16", name := "coderFromArrayLen", desc := "([BI)B" } : Jvm.MethodName) jdk_52_method_15_code (2 : Nat) (Option.some Jvm.ClassFile.FieldType.byte), Jvm.Cond.code ({ cls := "com/example/hermod/hermod/model/NamesIsValidPinLaw", name := "ok", desc := "(C)Z" } : Jvm.MethodName) method_3_code (2 : Nat) (Option.some Jvm.ClassFile.FieldType.boolean), Jvm.Cond.code ({ cls := "java/lang/StringUTF16", name := "toBytes", desc := "([CII)[B" } : Jvm.MethodName) jdk_52_method_14_code (5 : Nat) (Option.some (Jvm.ClassFile.FieldType.array Jvm.ClassFile.FieldType.byte)), Jvm.Cond.code ({ cls := "java/lang/StringUTF16", name := "newBytesFor", desc := "(I)[B" } : Jvm.MethodName) jdk_52_method_2_code (1 : Nat) (Option.some (Jvm.ClassFile.FieldType.array Jvm.ClassFile.FieldType.byte)), Jvm.Cond.code ({ cls := "java/lang/StringUTF16", name := "newBytesLength", desc := "(I)I" } : Jvm.MethodName) jdk_52_method_3_code (1 : Nat) (Option.some Jvm.ClassFile.FieldType.int), Jvm.Cond.code ({ cls := "java/lang/StringUTF16", name := "putChar", desc := "([BII)V" } : Jvm.MethodName) jdk_52_method_4_code (3 : Nat) (Option.none : Option Jvm.ClassFile.FieldType), Jvm.Cond.code ({ cls := "java/lang/StringUTF16", name := "getChar", desc := "([BI)C" } : Jvm.MethodName) jdk_52_method_5_code (2 : Nat) (Option.some Jvm.ClassFile.FieldType.char), Jvm.Cond.code ({ cls := "java/lang/StringUTF16", name := "charAt", desc := "([BI)C" } : Jvm.MethodName) jdk_52_method_83_code (2 : Nat) (Option.some Jvm.ClassFile.FieldType.char), Jvm.Cond.code ({ cls := "java/lang/StringUTF16", name := "checkIndex", desc := "(I[B)V" } : Jvm.MethodName) jdk_52_method_91_code (2 : Nat) (Option.none : Option Jvm.ClassFile.FieldType), Jvm.Cond.code ({ cls := "java/lang/StringUTF16", name := "length", desc := "([B)I" } : Jvm.MethodName) jdk_52_method_6_code (1 : Nat) (Option.some Jvm.ClassFile.FieldType.int)]
set_option maxRecDepth 65536 in
theorem codes_eq : words1.filter isCode = codes1 := rfl
theorem w_codes : ∀ c ∈ words1.filter isCode, c.before args0 about1 = true := by
  rw [codes_eq]
  intro c hc
  simp only [codes1, List.mem_cons, List.not_mem_nil, or_false] at hc
  rcases hc with rfl | rfl | rfl | rfl | rfl | rfl | rfl | rfl | rfl | rfl | rfl | rfl | rfl | rfl | rfl | rfl | rfl | rfl | rfl | rfl | rfl | rfl | rfl | rfl | rfl | rfl | rfl
  · exact w_c0
  · exact w_c1
  · exact w_c2
  · exact w_c3
  · exact w_c4
  · exact w_c5
  · exact w_c6
  · exact w_c7
  · exact w_c8
  · exact w_c9
  · exact w_c10
  · exact w_c11
  · exact w_c12
  · exact w_c13
  · exact w_c14
  · exact w_c15
  · exact w_c16
  · exact w_c17
  · exact w_c18
  · exact w_c19
  · exact w_c20
  · exact w_c21
  · exact w_c22
  · exact w_c23
  · exact w_c24
  · exact w_c25
  · exact w_c26
set_option maxRecDepth 65536 in
theorem w_t1 : (words1.take 24).all (fun c => isCode c || c.before args0 about1) = true := by decide +kernel
set_option maxRecDepth 65536 in
theorem w_t2 : ((words1.drop 24).take 24).all (fun c => isCode c || c.before args0 about1) = true := by decide +kernel
set_option maxRecDepth 65536 in
theorem w_t3 : (((words1.drop 24).drop 24).take 24).all (fun c => isCode c || c.before args0 about1) = true := by decide +kernel
set_option maxRecDepth 65536 in
theorem w_t4 : ((((words1.drop 24).drop 24).drop 24).take 24).all (fun c => isCode c || c.before args0 about1) = true := by decide +kernel
set_option maxRecDepth 65536 in
theorem w_t5 : ((((words1.drop 24).drop 24).drop 24).drop 24).all (fun c => isCode c || c.before args0 about1) = true := by decide +kernel
theorem w_tables : (allAtoms (Jvm.Cond.code x code maxLocals ret :: tables_1)).before args0 about1 = true := by
  rw [allAtoms_all]
  show words1.all (fun c => c.before args0 about1) = true
  refine all_split ?_ w_codes
  rw [← List.take_append_drop 24 words1, List.all_append, w_t1, ← List.take_append_drop 24 (words1.drop 24), List.all_append, w_t2, ← List.take_append_drop 24 ((words1.drop 24).drop 24), List.all_append, w_t3, ← List.take_append_drop 24 (((words1.drop 24).drop 24).drop 24), List.all_append, w_t4, w_t5]
  rfl
set_option maxRecDepth 65536 in
theorem w_rest : rest_1_c.before args0 about1 = true := by decide +kernel
set_option maxRecDepth 65536 in
theorem w_case : (Jvm.Cond.and given_1 narrow_1).before args0 about1 = true := by decide +kernel
set_option maxRecDepth 65536 in
theorem w_consts : constsHeld consts_1 about1 := Jvm.Lit.constsHeldB_iff.mp (by decide +kernel)
theorem w_applies : (headSpec (Jvm.Cond.code x code maxLocals ret :: tables_1) room_1).applies x e0.platform about1 = true :=
  (Spec.applies_iff w_frames).mpr ⟨w_running, w_runnable, w_alone, w_named, w_hears, w_ripe, w_room, w_tables⟩
theorem atStart : AtStart classFile x code maxLocals ret World_1 tables_1 room_1 Calls_1 rest_1 Pre_1 launch0 p0 e0 about1 theMethod args0 below0 :=
  ⟨lists_1, trivial, launch0.admits_env _ _ _, launch0.least_env, fairChoices_fair.cas, fairChoices_fair.clock, w_frames, w_args, w_heap, w_applies, ⟨w_consts, trivial⟩, w_rest, w_case⟩
end start1
theorem witness_1 : WitnessClaimed_1 := ⟨start1.p0, start1.e0, start1.about1, start1.theMethod, start1.args0, start1.below0, start1.atStart⟩
end Jvm.Pilot.@@N@@
