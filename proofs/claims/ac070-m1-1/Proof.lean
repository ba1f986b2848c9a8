import JvmDerived
import JvmDerived.Pilot.@@N@@Statement
import JvmDerived.Pilot.@@N@@Code
set_option linter.unusedVariables false
set_option linter.unusedSimpArgs false
namespace Jvm.Pilot.@@N@@
open Jvm Jvm.ClassFile Sem Op Lib Jvm.Free Jvm.Stand Jvm.LawKit Jvm.RoadKit Bundle Jvm.Pilot.@@N@@.Jvm.D
section OwnLayer
/-- where the walk of the body y stands: after k cells and n slots made, with the heap h and the top frame g -/
def Rch (p : Program) (l : Launch) (e : Env) (R : Room) (s : State) (m : MethodId) (args : Array Value) (below : List Frame) (meth : Method) (c : Code) (Z : State) (y : MethodName) (bc : ByteArray) (ml : Nat) (rt : Option FieldType) (n0 : Nat) (T0 : State) (g0 : JFrame) (k n : Nat) (h : Heap) (g : JFrame) : Prop :=
  (p.tables.exec = Jvm.exec ∧ c.code = bc ∧ c.maxLocals = ml ∧ s.vm.findClass y.cls = some m.cls ∧ Z.Warmed39 s.vm ∧ meth.sig.returnType = rt ∧ meth.locks = false ∧ meth.name = y.name) ∧
  ∃ T locs, Stand p l e R s m args below meth c T locs k n ∧ T.heap = h ∧ Fr n0 locs ∧ ∀ target, Steps p.tables e below (T.setTop g) target → Steps p.tables e below (T0.setTop g0) target
/-- the body has returned v, with the heap h -/
def Don (p : Program) (l : Launch) (e : Env) (R : Room) (s : State) (m : MethodId) (args : Array Value) (below : List Frame) (meth : Method) (c : Code) (rt : Option FieldType) (n0 : Nat) (T0 : State) (g0 : JFrame) (v : Option Value) (h : Heap) : Prop :=
  ∃ T locs k n, Stand p l e R s m args below meth c T locs k n ∧ k ≤ R.cells ∧ n ≤ R.slots ∧ T.heap = h ∧ Fr n0 locs ∧ meth.locks = false ∧ (meth.sig.returnType = none → v = none) ∧
    ∀ fs, (∀ (f : JFrame) (acts : List Action), f.method = m → f.locked = none → f.entered = [] → (doReturn e (T.setTop f) acts v).1 = T.setFrames fs) → Steps p.tables e below (T0.setTop g0) (T.setFrames fs)
/-- a body's contract -/
def Ctr (l : Launch) (Z : State) (y : MethodName) (bc : ByteArray) (ml : Nat) (rt : Option FieldType) (rm : Room) (as : Array Value) (h0 : Heap) (n0 : Nat) (Q : Option Value → Heap → Prop) : Prop :=
  ∀ ws : List Jvm.Cond, MetFree l y (head1 (Jvm.Cond.code y bc ml rt :: ws) rm) (fun a U => a = as ∧ Z.Warmed39 U.vm ∧ U.heap = h0) (fun _ _ _ _ _ => True) (fun _ U o U' => ∃ v L, o = .returned v ∧ (Fr n0 L ∧ Q v U'.heap) ∧ FrameEnd U o U' L rm.cells rm.slots)
variable {p : Program} {l : Launch} {e : Env} {R : Room} {s : State} {m : MethodId} {args : Array Value} {below : List Frame} {meth : Method} {c : Code} {Z : State} {y : MethodName} {bc : ByteArray} {ml : Nat} {rt : Option FieldType} {n0 : Nat} {T0 : State} {g0 : JFrame} {k n : Nat} {h : Heap} {a0 : Array Value} {pc pc' : Nat} {L : Array Slot} {S : List Value}
theorem Rch.step {k' n' : Nat} {h' : Heap} {g g' : JFrame} (r : Rch p l e R s m args below meth c Z y bc ml rt n0 T0 g0 k n h g)
    (f : ∀ T locs, Stand p l e R s m args below meth c T locs k n → T.heap = h → Fr n0 locs → ∃ T' locs', Stand p l e R s m args below meth c T' locs' k' n' ∧ T'.heap = h' ∧ Fr n0 locs' ∧ ∀ target, Steps p.tables e below (T'.setTop g') target → Steps p.tables e below (T.setTop g) target) :
    Rch p l e R s m args below meth c Z y bc ml rt n0 T0 g0 k' n' h' g' := by
  obtain ⟨q, T, locs, X, eT, N, st⟩ := r
  obtain ⟨T', locs', X', eT', N', st'⟩ := f T locs X eT N
  exact ⟨q, T', locs', X', eT', N', fun t z => st t (st' t z)⟩
theorem Rch.pure {g g' : JFrame} (r : Rch p l e R s m args below meth c Z y bc ml rt n0 T0 g0 k n h g)
    (f : ∀ T locs, Stand p l e R s m args below meth c T locs k n → T.heap = h → ∀ target, Steps p.tables e below (T.setTop g') target → Steps p.tables e below (T.setTop g) target) :
    Rch p l e R s m args below meth c Z y bc ml rt n0 T0 g0 k n h g' :=
  r.step fun T locs X eT N => ⟨T, locs, X, eT, N, f T locs X eT⟩
theorem Rch.keep {g g' : JFrame} (r : Rch p l e R s m args below meth c Z y bc ml rt n0 T0 g0 k n h g)
    (f : ∀ T locs, Stand p l e R s m args below meth c T locs k n → T.heap = h → ∃ T', Stand p l e R s m args below meth c T' locs k n ∧ T'.heap = h ∧ ∀ target, Steps p.tables e below (T'.setTop g') target → Steps p.tables e below (T.setTop g) target) :
    Rch p l e R s m args below meth c Z y bc ml rt n0 T0 g0 k n h g' :=
  r.step fun T locs X eT N => by
    obtain ⟨T', X', e', st⟩ := f T locs X eT
    exact ⟨T', locs, X', e', N, st⟩
theorem Rch.widen {g : JFrame} {k' n' : Nat} (r : Rch p l e R s m args below meth c Z y bc ml rt n0 T0 g0 k n h g) (hk : k ≤ k') (hn : n ≤ n') : Rch p l e R s m args below meth c Z y bc ml rt n0 T0 g0 k' n' h g := by
  obtain ⟨q, T, locs, X, eT, N, st⟩ := r
  exact ⟨q, T, locs, ⟨X.admits, X.cas, X.clock, X.frames, X.room, X.hears, X.method, X.code, X.here, X.tail, X.warmed, X.limits, X.bytes, X.same.mono hk hn⟩, eT, N, st⟩
theorem Rch.eqh {g : JFrame} {h' : Heap} (r : Rch p l e R s m args below meth c Z y bc ml rt n0 T0 g0 k n h g) (q : h = h') : Rch p l e R s m args below meth c Z y bc ml rt n0 T0 g0 k n h' g := q ▸ r
theorem Rch.eqg {g g' : JFrame} (r : Rch p l e R s m args below meth c Z y bc ml rt n0 T0 g0 k n h g) (q : g = g') : Rch p l e R s m args below meth c Z y bc ml rt n0 T0 g0 k n h g' := q ▸ r
-- loads and stores
theorem Rch.iloadN (r : Rch p l e R s m args below meth c Z y bc ml rt n0 T0 g0 k n h (mkF m pc L S)) {i : Fin 4} {v : Int32} (hd : decode bc pc = .ok (.iload_n i, 1)) (hl : L[i.val]? = some (.val (.int v))) (hp : pc + 1 = pc') : Rch p l e R s m args below meth c Z y bc ml rt n0 T0 g0 k n h (mkF m pc' L (.int v :: S)) := by
  subst hp; exact r.pure fun T locs X eT t z => XS.iloadN X.here r.1.1 rfl (hb r.1.2.1 hd) hl z
theorem Rch.iload (r : Rch p l e R s m args below meth c Z y bc ml rt n0 T0 g0 k n h (mkF m pc L S)) {i : Nat} {v : Int32} (hd : decode bc pc = .ok (.iload i, 2)) (hl : L[i]? = some (.val (.int v))) (hp : pc + 2 = pc') : Rch p l e R s m args below meth c Z y bc ml rt n0 T0 g0 k n h (mkF m pc' L (.int v :: S)) := by
  subst hp; exact r.pure fun T locs X eT t z => XS.iload X.here r.1.1 rfl (hb r.1.2.1 hd) hl z
theorem Rch.lloadN (r : Rch p l e R s m args below meth c Z y bc ml rt n0 T0 g0 k n h (mkF m pc L S)) {i : Fin 4} {v : Int64} (hd : decode bc pc = .ok (.lload_n i, 1)) (hl : L[i.val]? = some (.val (.long v))) (hp : pc + 1 = pc') : Rch p l e R s m args below meth c Z y bc ml rt n0 T0 g0 k n h (mkF m pc' L (.long v :: S)) := by
  subst hp; exact r.pure fun T locs X eT t z => XS.lloadN X.here r.1.1 rfl (hb r.1.2.1 hd) hl z
theorem Rch.lload (r : Rch p l e R s m args below meth c Z y bc ml rt n0 T0 g0 k n h (mkF m pc L S)) {i : Nat} {v : Int64} (hd : decode bc pc = .ok (.lload i, 2)) (hl : L[i]? = some (.val (.long v))) (hp : pc + 2 = pc') : Rch p l e R s m args below meth c Z y bc ml rt n0 T0 g0 k n h (mkF m pc' L (.long v :: S)) := by
  subst hp; exact r.pure fun T locs X eT t z => XS.lload X.here r.1.1 rfl (hb r.1.2.1 hd) hl z
theorem Rch.aloadN (r : Rch p l e R s m args below meth c Z y bc ml rt n0 T0 g0 k n h (mkF m pc L S)) {i : Fin 4} {v : Value} (hd : decode bc pc = .ok (.aload_n i, 1)) (hl : L[i.val]? = some (.val v)) (hv : v.isRef = true) (hp : pc + 1 = pc') : Rch p l e R s m args below meth c Z y bc ml rt n0 T0 g0 k n h (mkF m pc' L (v :: S)) := by
  subst hp; exact r.pure fun T locs X eT t z => XS.aloadN X.here r.1.1 rfl (hb r.1.2.1 hd) hl hv z
theorem Rch.aload (r : Rch p l e R s m args below meth c Z y bc ml rt n0 T0 g0 k n h (mkF m pc L S)) {i : Nat} {v : Value} (hd : decode bc pc = .ok (.aload i, 2)) (hl : L[i]? = some (.val v)) (hv : v.isRef = true) (hp : pc + 2 = pc') : Rch p l e R s m args below meth c Z y bc ml rt n0 T0 g0 k n h (mkF m pc' L (v :: S)) := by
  subst hp; exact r.pure fun T locs X eT t z => XS.aload X.here r.1.1 rfl (hb r.1.2.1 hd) hl hv z
theorem Rch.istoreN {i : Fin 4} {v : Int32} {L' : Array Slot} (r : Rch p l e R s m args below meth c Z y bc ml rt n0 T0 g0 k n h (mkF m pc L (.int v :: S))) (hd : decode bc pc = .ok (.istore_n i, 1)) (hl : storeLocals L i.val (.int v) = some L') (hp : pc + 1 = pc') : Rch p l e R s m args below meth c Z y bc ml rt n0 T0 g0 k n h (mkF m pc' L' S) := by
  subst hp; exact r.pure fun T locs X eT t z => XS.istoreN X.here r.1.1 rfl (hb r.1.2.1 hd) rfl hl z
theorem Rch.istore {i : Nat} {v : Int32} {L' : Array Slot} (r : Rch p l e R s m args below meth c Z y bc ml rt n0 T0 g0 k n h (mkF m pc L (.int v :: S))) (hd : decode bc pc = .ok (.istore i, 2)) (hl : storeLocals L i (.int v) = some L') (hp : pc + 2 = pc') : Rch p l e R s m args below meth c Z y bc ml rt n0 T0 g0 k n h (mkF m pc' L' S) := by
  subst hp; exact r.pure fun T locs X eT t z => XS.istore X.here r.1.1 rfl (hb r.1.2.1 hd) rfl hl z
theorem Rch.lstoreN {i : Fin 4} {v : Int64} {L' : Array Slot} (r : Rch p l e R s m args below meth c Z y bc ml rt n0 T0 g0 k n h (mkF m pc L (.long v :: S))) (hd : decode bc pc = .ok (.lstore_n i, 1)) (hl : storeLocals L i.val (.long v) = some L') (hp : pc + 1 = pc') : Rch p l e R s m args below meth c Z y bc ml rt n0 T0 g0 k n h (mkF m pc' L' S) := by
  subst hp; exact r.pure fun T locs X eT t z => XS.lstoreN X.here r.1.1 rfl (hb r.1.2.1 hd) rfl hl z
theorem Rch.lstore {i : Nat} {v : Int64} {L' : Array Slot} (r : Rch p l e R s m args below meth c Z y bc ml rt n0 T0 g0 k n h (mkF m pc L (.long v :: S))) (hd : decode bc pc = .ok (.lstore i, 2)) (hl : storeLocals L i (.long v) = some L') (hp : pc + 2 = pc') : Rch p l e R s m args below meth c Z y bc ml rt n0 T0 g0 k n h (mkF m pc' L' S) := by
  subst hp; exact r.pure fun T locs X eT t z => XS.lstore X.here r.1.1 rfl (hb r.1.2.1 hd) rfl hl z
theorem Rch.astoreN {i : Fin 4} {v : Value} {L' : Array Slot} (r : Rch p l e R s m args below meth c Z y bc ml rt n0 T0 g0 k n h (mkF m pc L (v :: S))) (hd : decode bc pc = .ok (.astore_n i, 1)) (hv : v.isRef = true) (hl : storeLocals L i.val v = some L') (hp : pc + 1 = pc') : Rch p l e R s m args below meth c Z y bc ml rt n0 T0 g0 k n h (mkF m pc' L' S) := by
  subst hp; exact r.pure fun T locs X eT t z => XS.astoreN X.here r.1.1 rfl (hb r.1.2.1 hd) rfl hv hl z
theorem Rch.astore {i : Nat} {v : Value} {L' : Array Slot} (r : Rch p l e R s m args below meth c Z y bc ml rt n0 T0 g0 k n h (mkF m pc L (v :: S))) (hd : decode bc pc = .ok (.astore i, 2)) (hv : v.isRef = true) (hl : storeLocals L i v = some L') (hp : pc + 2 = pc') : Rch p l e R s m args below meth c Z y bc ml rt n0 T0 g0 k n h (mkF m pc' L' S) := by
  subst hp; exact r.pure fun T locs X eT t z => XS.astore X.here r.1.1 rfl (hb r.1.2.1 hd) rfl hv hl z
theorem Rch.iinc {i : Nat} {cst : Int} {v u : Int32} {L' : Array Slot} (r : Rch p l e R s m args below meth c Z y bc ml rt n0 T0 g0 k n h (mkF m pc L S)) (w : Int32) (hd : decode bc pc = .ok (.iinc i cst, 3)) (hw : Int32.ofInt cst = w) (hl : L[i]? = some (.val (.int v))) (hu : v + w = u) (hl' : storeLocals L i (.int u) = some L') (hp : pc + 3 = pc') : Rch p l e R s m args below meth c Z y bc ml rt n0 T0 g0 k n h (mkF m pc' L' S) := by
  subst hp hu hw; exact r.pure fun T locs X eT t z => XS.iinc X.here r.1.1 rfl (hb r.1.2.1 hd) hl hl' z
-- constants
theorem Rch.iconst (r : Rch p l e R s m args below meth c Z y bc ml rt n0 T0 g0 k n h (mkF m pc L S)) {i : Int} (w : Int32) (hd : decode bc pc = .ok (.iconst i, 1)) (hw : Int32.ofInt i = w) (hp : pc + 1 = pc') : Rch p l e R s m args below meth c Z y bc ml rt n0 T0 g0 k n h (mkF m pc' L (.int w :: S)) := by
  subst hp hw; exact r.pure fun T locs X eT t z => XS.iconst X.here r.1.1 rfl (hb r.1.2.1 hd) z
theorem Rch.bipush (r : Rch p l e R s m args below meth c Z y bc ml rt n0 T0 g0 k n h (mkF m pc L S)) {i : Int} (w : Int32) (hd : decode bc pc = .ok (.bipush i, 2)) (hw : (Int8.ofInt i).toInt32 = w) (hp : pc + 2 = pc') : Rch p l e R s m args below meth c Z y bc ml rt n0 T0 g0 k n h (mkF m pc' L (.int w :: S)) := by
  subst hp hw; exact r.pure fun T locs X eT t z => XS.bipush X.here r.1.1 rfl (hb r.1.2.1 hd) z
theorem Rch.sipush (r : Rch p l e R s m args below meth c Z y bc ml rt n0 T0 g0 k n h (mkF m pc L S)) {i : Int} (w : Int32) (hd : decode bc pc = .ok (.sipush i, 3)) (hw : (Int16.ofInt i).toInt32 = w) (hp : pc + 3 = pc') : Rch p l e R s m args below meth c Z y bc ml rt n0 T0 g0 k n h (mkF m pc' L (.int w :: S)) := by
  subst hp hw; exact r.pure fun T locs X eT t z => XS.sipush X.here r.1.1 rfl (hb r.1.2.1 hd) z
theorem Rch.lconst (r : Rch p l e R s m args below meth c Z y bc ml rt n0 T0 g0 k n h (mkF m pc L S)) {i : Fin 2} (w : Int64) (hd : decode bc pc = .ok (.lconst i, 1)) (hw : Int64.ofNat i = w) (hp : pc + 1 = pc') : Rch p l e R s m args below meth c Z y bc ml rt n0 T0 g0 k n h (mkF m pc' L (.long w :: S)) := by
  subst hp hw; exact r.pure fun T locs X eT t z => XS.lconst X.here r.1.1 rfl (hb r.1.2.1 hd) z
theorem Rch.anull (r : Rch p l e R s m args below meth c Z y bc ml rt n0 T0 g0 k n h (mkF m pc L S)) (hd : decode bc pc = .ok (.aconst_null, 1)) (hp : pc + 1 = pc') : Rch p l e R s m args below meth c Z y bc ml rt n0 T0 g0 k n h (mkF m pc' L (.null :: S)) := by
  subst hp; exact r.pure fun T locs X eT t z => XS.aconstNull X.here r.1.1 rfl (hb r.1.2.1 hd) z
theorem Rch.ldc (r : Rch p l e R s m args below meth c Z y bc ml rt n0 T0 g0 k n h (mkF m pc L S)) {i : Nat} {w : Int32} (hd : decode bc pc = .ok (.ldc i, 2)) (hc : (Jvm.Cond.constant y.cls i w).before a0 Z = true) (hp : pc + 2 = pc') : Rch p l e R s m args below meth c Z y bc ml rt n0 T0 g0 k n h (mkF m pc' L (.int w :: S)) := by
  subst hp; exact r.pure fun T locs X eT t z => X.ldcInt r.1.1 r.1.2.2.2.1 (mvT r.1.2.2.2.2.1 hc) (g := mkF m pc L S) rfl (hb r.1.2.1 hd) t z
theorem Rch.ldcw (r : Rch p l e R s m args below meth c Z y bc ml rt n0 T0 g0 k n h (mkF m pc L S)) {i : Nat} {w : Int32} (hd : decode bc pc = .ok (.ldc_w i, 3)) (hc : (Jvm.Cond.constant y.cls i w).before a0 Z = true) (hp : pc + 3 = pc') : Rch p l e R s m args below meth c Z y bc ml rt n0 T0 g0 k n h (mkF m pc' L (.int w :: S)) := by
  subst hp; exact r.pure fun T locs X eT t z => X.ldcwInt r.1.1 r.1.2.2.2.1 (mvT r.1.2.2.2.2.1 hc) (g := mkF m pc L S) rfl (hb r.1.2.1 hd) t z
theorem Rch.ldc2 (r : Rch p l e R s m args below meth c Z y bc ml rt n0 T0 g0 k n h (mkF m pc L S)) {i : Nat} {w : Int64} (hd : decode bc pc = .ok (.ldc2_w i, 3)) (hc : (Jvm.Cond.constantLong y.cls i w).before a0 Z = true) (hp : pc + 3 = pc') : Rch p l e R s m args below meth c Z y bc ml rt n0 T0 g0 k n h (mkF m pc' L (.long w :: S)) := by
  subst hp; exact r.pure fun T locs X eT t z => X.ldc2Long r.1.1 r.1.2.2.2.1 (mvT r.1.2.2.2.2.1 hc) (g := mkF m pc L S) rfl (hb r.1.2.1 hd) t z
-- sums and the like
theorem Rch.iadd {a : Int32} {b : Int32} {u : Int32} (r : Rch p l e R s m args below meth c Z y bc ml rt n0 T0 g0 k n h (mkF m pc L (.int b :: .int a :: S))) (hd : decode bc pc = .ok (.iadd, 1)) (hu : a + b = u) (hp : pc + 1 = pc') : Rch p l e R s m args below meth c Z y bc ml rt n0 T0 g0 k n h (mkF m pc' L (.int u :: S)) := by
  subst hp hu; exact r.pure fun T locs X eT t z => XS.iadd X.here r.1.1 rfl (hb r.1.2.1 hd) rfl z
theorem Rch.isub {a : Int32} {b : Int32} {u : Int32} (r : Rch p l e R s m args below meth c Z y bc ml rt n0 T0 g0 k n h (mkF m pc L (.int b :: .int a :: S))) (hd : decode bc pc = .ok (.isub, 1)) (hu : a - b = u) (hp : pc + 1 = pc') : Rch p l e R s m args below meth c Z y bc ml rt n0 T0 g0 k n h (mkF m pc' L (.int u :: S)) := by
  subst hp hu; exact r.pure fun T locs X eT t z => XS.isub X.here r.1.1 rfl (hb r.1.2.1 hd) rfl z
theorem Rch.imul {a : Int32} {b : Int32} {u : Int32} (r : Rch p l e R s m args below meth c Z y bc ml rt n0 T0 g0 k n h (mkF m pc L (.int b :: .int a :: S))) (hd : decode bc pc = .ok (.imul, 1)) (hu : a * b = u) (hp : pc + 1 = pc') : Rch p l e R s m args below meth c Z y bc ml rt n0 T0 g0 k n h (mkF m pc' L (.int u :: S)) := by
  subst hp hu; exact r.pure fun T locs X eT t z => XS.imul X.here r.1.1 rfl (hb r.1.2.1 hd) rfl z
theorem Rch.iand {a : Int32} {b : Int32} {u : Int32} (r : Rch p l e R s m args below meth c Z y bc ml rt n0 T0 g0 k n h (mkF m pc L (.int b :: .int a :: S))) (hd : decode bc pc = .ok (.iand, 1)) (hu : a &&& b = u) (hp : pc + 1 = pc') : Rch p l e R s m args below meth c Z y bc ml rt n0 T0 g0 k n h (mkF m pc' L (.int u :: S)) := by
  subst hp hu; exact r.pure fun T locs X eT t z => XS.iand X.here r.1.1 rfl (hb r.1.2.1 hd) rfl z
theorem Rch.ior {a : Int32} {b : Int32} {u : Int32} (r : Rch p l e R s m args below meth c Z y bc ml rt n0 T0 g0 k n h (mkF m pc L (.int b :: .int a :: S))) (hd : decode bc pc = .ok (.ior, 1)) (hu : a ||| b = u) (hp : pc + 1 = pc') : Rch p l e R s m args below meth c Z y bc ml rt n0 T0 g0 k n h (mkF m pc' L (.int u :: S)) := by
  subst hp hu; exact r.pure fun T locs X eT t z => XS.ior X.here r.1.1 rfl (hb r.1.2.1 hd) rfl z
theorem Rch.ixor {a : Int32} {b : Int32} {u : Int32} (r : Rch p l e R s m args below meth c Z y bc ml rt n0 T0 g0 k n h (mkF m pc L (.int b :: .int a :: S))) (hd : decode bc pc = .ok (.ixor, 1)) (hu : a ^^^ b = u) (hp : pc + 1 = pc') : Rch p l e R s m args below meth c Z y bc ml rt n0 T0 g0 k n h (mkF m pc' L (.int u :: S)) := by
  subst hp hu; exact r.pure fun T locs X eT t z => XS.ixor X.here r.1.1 rfl (hb r.1.2.1 hd) rfl z
theorem Rch.ladd {a : Int64} {b : Int64} {u : Int64} (r : Rch p l e R s m args below meth c Z y bc ml rt n0 T0 g0 k n h (mkF m pc L (.long b :: .long a :: S))) (hd : decode bc pc = .ok (.ladd, 1)) (hu : a + b = u) (hp : pc + 1 = pc') : Rch p l e R s m args below meth c Z y bc ml rt n0 T0 g0 k n h (mkF m pc' L (.long u :: S)) := by
  subst hp hu; exact r.pure fun T locs X eT t z => XS.ladd X.here r.1.1 rfl (hb r.1.2.1 hd) rfl z
theorem Rch.lsub {a : Int64} {b : Int64} {u : Int64} (r : Rch p l e R s m args below meth c Z y bc ml rt n0 T0 g0 k n h (mkF m pc L (.long b :: .long a :: S))) (hd : decode bc pc = .ok (.lsub, 1)) (hu : a - b = u) (hp : pc + 1 = pc') : Rch p l e R s m args below meth c Z y bc ml rt n0 T0 g0 k n h (mkF m pc' L (.long u :: S)) := by
  subst hp hu; exact r.pure fun T locs X eT t z => XS.lsub X.here r.1.1 rfl (hb r.1.2.1 hd) rfl z
theorem Rch.lmul {a : Int64} {b : Int64} {u : Int64} (r : Rch p l e R s m args below meth c Z y bc ml rt n0 T0 g0 k n h (mkF m pc L (.long b :: .long a :: S))) (hd : decode bc pc = .ok (.lmul, 1)) (hu : a * b = u) (hp : pc + 1 = pc') : Rch p l e R s m args below meth c Z y bc ml rt n0 T0 g0 k n h (mkF m pc' L (.long u :: S)) := by
  subst hp hu; exact r.pure fun T locs X eT t z => XS.lmul X.here r.1.1 rfl (hb r.1.2.1 hd) rfl z
theorem Rch.land {a : Int64} {b : Int64} {u : Int64} (r : Rch p l e R s m args below meth c Z y bc ml rt n0 T0 g0 k n h (mkF m pc L (.long b :: .long a :: S))) (hd : decode bc pc = .ok (.land, 1)) (hu : a &&& b = u) (hp : pc + 1 = pc') : Rch p l e R s m args below meth c Z y bc ml rt n0 T0 g0 k n h (mkF m pc' L (.long u :: S)) := by
  subst hp hu; exact r.pure fun T locs X eT t z => XS.land X.here r.1.1 rfl (hb r.1.2.1 hd) rfl z
theorem Rch.lor {a : Int64} {b : Int64} {u : Int64} (r : Rch p l e R s m args below meth c Z y bc ml rt n0 T0 g0 k n h (mkF m pc L (.long b :: .long a :: S))) (hd : decode bc pc = .ok (.lor, 1)) (hu : a ||| b = u) (hp : pc + 1 = pc') : Rch p l e R s m args below meth c Z y bc ml rt n0 T0 g0 k n h (mkF m pc' L (.long u :: S)) := by
  subst hp hu; exact r.pure fun T locs X eT t z => XS.lor X.here r.1.1 rfl (hb r.1.2.1 hd) rfl z
theorem Rch.lxor {a : Int64} {b : Int64} {u : Int64} (r : Rch p l e R s m args below meth c Z y bc ml rt n0 T0 g0 k n h (mkF m pc L (.long b :: .long a :: S))) (hd : decode bc pc = .ok (.lxor, 1)) (hu : a ^^^ b = u) (hp : pc + 1 = pc') : Rch p l e R s m args below meth c Z y bc ml rt n0 T0 g0 k n h (mkF m pc' L (.long u :: S)) := by
  subst hp hu; exact r.pure fun T locs X eT t z => XS.lxor X.here r.1.1 rfl (hb r.1.2.1 hd) rfl z
theorem Rch.ishl {a : Int32} {b : Int32} {u : Int32} (r : Rch p l e R s m args below meth c Z y bc ml rt n0 T0 g0 k n h (mkF m pc L (.int b :: .int a :: S))) (hd : decode bc pc = .ok (.ishl, 1)) (hu : a <<< (b &&& 31) = u) (hp : pc + 1 = pc') : Rch p l e R s m args below meth c Z y bc ml rt n0 T0 g0 k n h (mkF m pc' L (.int u :: S)) := by
  subst hp hu; exact r.pure fun T locs X eT t z => XS.ishl X.here r.1.1 rfl (hb r.1.2.1 hd) rfl z
theorem Rch.ishr {a : Int32} {b : Int32} {u : Int32} (r : Rch p l e R s m args below meth c Z y bc ml rt n0 T0 g0 k n h (mkF m pc L (.int b :: .int a :: S))) (hd : decode bc pc = .ok (.ishr, 1)) (hu : a >>> (b &&& 31) = u) (hp : pc + 1 = pc') : Rch p l e R s m args below meth c Z y bc ml rt n0 T0 g0 k n h (mkF m pc' L (.int u :: S)) := by
  subst hp hu; exact r.pure fun T locs X eT t z => XS.ishr X.here r.1.1 rfl (hb r.1.2.1 hd) rfl z
theorem Rch.iushr {a : Int32} {b : Int32} {u : Int32} (r : Rch p l e R s m args below meth c Z y bc ml rt n0 T0 g0 k n h (mkF m pc L (.int b :: .int a :: S))) (hd : decode bc pc = .ok (.iushr, 1)) (hu : (a.toUInt32 >>> (b &&& 31).toUInt32).toInt32 = u) (hp : pc + 1 = pc') : Rch p l e R s m args below meth c Z y bc ml rt n0 T0 g0 k n h (mkF m pc' L (.int u :: S)) := by
  subst hp hu; exact r.pure fun T locs X eT t z => XS.iushr X.here r.1.1 rfl (hb r.1.2.1 hd) rfl z
theorem Rch.lcmp {a : Int64} {b : Int64} {u : Int32} (r : Rch p l e R s m args below meth c Z y bc ml rt n0 T0 g0 k n h (mkF m pc L (.long b :: .long a :: S))) (hd : decode bc pc = .ok (.lcmp, 1)) (hu : lcmpW a b = u) (hp : pc + 1 = pc') : Rch p l e R s m args below meth c Z y bc ml rt n0 T0 g0 k n h (mkF m pc' L (.int u :: S)) := by
  subst hp hu; exact r.pure fun T locs X eT t z => XS.lcmp X.here r.1.1 rfl (hb r.1.2.1 hd) rfl z
theorem Rch.idiv {a : Int32} {b : Int32} {u : Int32} (r : Rch p l e R s m args below meth c Z y bc ml rt n0 T0 g0 k n h (mkF m pc L (.int b :: .int a :: S))) (hd : decode bc pc = .ok (.idiv, 1)) (h0 : b ≠ 0) (hu : a / b = u) (hp : pc + 1 = pc') : Rch p l e R s m args below meth c Z y bc ml rt n0 T0 g0 k n h (mkF m pc' L (.int u :: S)) := by
  subst hp hu; exact r.pure fun T locs X eT t z => XS.idiv X.here r.1.1 rfl (hb r.1.2.1 hd) rfl h0 z
theorem Rch.irem {a : Int32} {b : Int32} {u : Int32} (r : Rch p l e R s m args below meth c Z y bc ml rt n0 T0 g0 k n h (mkF m pc L (.int b :: .int a :: S))) (hd : decode bc pc = .ok (.irem, 1)) (h0 : b ≠ 0) (hu : a % b = u) (hp : pc + 1 = pc') : Rch p l e R s m args below meth c Z y bc ml rt n0 T0 g0 k n h (mkF m pc' L (.int u :: S)) := by
  subst hp hu; exact r.pure fun T locs X eT t z => iremM X r.1.1 rfl (hb r.1.2.1 hd) rfl h0 z
theorem Rch.ineg {a : Int32} {u : Int32} (r : Rch p l e R s m args below meth c Z y bc ml rt n0 T0 g0 k n h (mkF m pc L (.int a :: S))) (hd : decode bc pc = .ok (.ineg, 1)) (hu : -a = u) (hp : pc + 1 = pc') : Rch p l e R s m args below meth c Z y bc ml rt n0 T0 g0 k n h (mkF m pc' L (.int u :: S)) := by
  subst hp hu; exact r.pure fun T locs X eT t z => XS.ineg X.here r.1.1 rfl (hb r.1.2.1 hd) rfl z
theorem Rch.lneg {a : Int64} {u : Int64} (r : Rch p l e R s m args below meth c Z y bc ml rt n0 T0 g0 k n h (mkF m pc L (.long a :: S))) (hd : decode bc pc = .ok (.lneg, 1)) (hu : -a = u) (hp : pc + 1 = pc') : Rch p l e R s m args below meth c Z y bc ml rt n0 T0 g0 k n h (mkF m pc' L (.long u :: S)) := by
  subst hp hu; exact r.pure fun T locs X eT t z => XS.lneg X.here r.1.1 rfl (hb r.1.2.1 hd) rfl z
theorem Rch.i2l {a : Int32} {u : Int64} (r : Rch p l e R s m args below meth c Z y bc ml rt n0 T0 g0 k n h (mkF m pc L (.int a :: S))) (hd : decode bc pc = .ok (.i2l, 1)) (hu : a.toInt64 = u) (hp : pc + 1 = pc') : Rch p l e R s m args below meth c Z y bc ml rt n0 T0 g0 k n h (mkF m pc' L (.long u :: S)) := by
  subst hp hu; exact r.pure fun T locs X eT t z => XS.i2l X.here r.1.1 rfl (hb r.1.2.1 hd) rfl z
theorem Rch.l2i {a : Int64} {u : Int32} (r : Rch p l e R s m args below meth c Z y bc ml rt n0 T0 g0 k n h (mkF m pc L (.long a :: S))) (hd : decode bc pc = .ok (.l2i, 1)) (hu : a.toInt32 = u) (hp : pc + 1 = pc') : Rch p l e R s m args below meth c Z y bc ml rt n0 T0 g0 k n h (mkF m pc' L (.int u :: S)) := by
  subst hp hu; exact r.pure fun T locs X eT t z => XS.l2i X.here r.1.1 rfl (hb r.1.2.1 hd) rfl z
theorem Rch.i2b {a : Int32} {u : Int32} (r : Rch p l e R s m args below meth c Z y bc ml rt n0 T0 g0 k n h (mkF m pc L (.int a :: S))) (hd : decode bc pc = .ok (.i2b, 1)) (hu : a.toInt8.toInt32 = u) (hp : pc + 1 = pc') : Rch p l e R s m args below meth c Z y bc ml rt n0 T0 g0 k n h (mkF m pc' L (.int u :: S)) := by
  subst hp hu; exact r.pure fun T locs X eT t z => XS.i2b X.here r.1.1 rfl (hb r.1.2.1 hd) rfl z
theorem Rch.i2s {a : Int32} {u : Int32} (r : Rch p l e R s m args below meth c Z y bc ml rt n0 T0 g0 k n h (mkF m pc L (.int a :: S))) (hd : decode bc pc = .ok (.i2s, 1)) (hu : a.toInt16.toInt32 = u) (hp : pc + 1 = pc') : Rch p l e R s m args below meth c Z y bc ml rt n0 T0 g0 k n h (mkF m pc' L (.int u :: S)) := by
  subst hp hu; exact r.pure fun T locs X eT t z => XS.i2s X.here r.1.1 rfl (hb r.1.2.1 hd) rfl z
theorem Rch.i2c {a : Int32} {u : Int32} (r : Rch p l e R s m args below meth c Z y bc ml rt n0 T0 g0 k n h (mkF m pc L (.int a :: S))) (hd : decode bc pc = .ok (.i2c, 1)) (hu : a.toUInt32.toUInt16.toUInt32.toInt32 = u) (hp : pc + 1 = pc') : Rch p l e R s m args below meth c Z y bc ml rt n0 T0 g0 k n h (mkF m pc' L (.int u :: S)) := by
  subst hp hu; exact r.pure fun T locs X eT t z => XS.i2c X.here r.1.1 rfl (hb r.1.2.1 hd) rfl z
theorem Rch.lshl {a : Int64} {b : Int32} {u : Int64} (r : Rch p l e R s m args below meth c Z y bc ml rt n0 T0 g0 k n h (mkF m pc L (.int b :: .long a :: S))) (hd : decode bc pc = .ok (.lshl, 1)) (hu : a <<< (b &&& 0x3f).toInt64 = u) (hp : pc + 1 = pc') : Rch p l e R s m args below meth c Z y bc ml rt n0 T0 g0 k n h (mkF m pc' L (.long u :: S)) := by
  subst hp hu; exact r.pure fun T locs X eT t z => XS.lshl X.here r.1.1 rfl (hb r.1.2.1 hd) rfl z
theorem Rch.lshr {a : Int64} {b : Int32} {u : Int64} (r : Rch p l e R s m args below meth c Z y bc ml rt n0 T0 g0 k n h (mkF m pc L (.int b :: .long a :: S))) (hd : decode bc pc = .ok (.lshr, 1)) (hu : a >>> (b &&& 0x3f).toInt64 = u) (hp : pc + 1 = pc') : Rch p l e R s m args below meth c Z y bc ml rt n0 T0 g0 k n h (mkF m pc' L (.long u :: S)) := by
  subst hp hu; exact r.pure fun T locs X eT t z => XS.lshr X.here r.1.1 rfl (hb r.1.2.1 hd) rfl z
theorem Rch.lushr {a : Int64} {b : Int32} {u : Int64} (r : Rch p l e R s m args below meth c Z y bc ml rt n0 T0 g0 k n h (mkF m pc L (.int b :: .long a :: S))) (hd : decode bc pc = .ok (.lushr, 1)) (hu : (a.toUInt64 >>> (b &&& 0x3f).toInt64.toUInt64).toInt64 = u) (hp : pc + 1 = pc') : Rch p l e R s m args below meth c Z y bc ml rt n0 T0 g0 k n h (mkF m pc' L (.long u :: S)) := by
  subst hp hu; exact r.pure fun T locs X eT t z => XS.lushr X.here r.1.1 rfl (hb r.1.2.1 hd) rfl z
theorem Rch.dup {v : Value} (r : Rch p l e R s m args below meth c Z y bc ml rt n0 T0 g0 k n h (mkF m pc L (v :: S))) (hd : decode bc pc = .ok (.dup, 1)) (hv : v.category = 1) (hp : pc + 1 = pc') : Rch p l e R s m args below meth c Z y bc ml rt n0 T0 g0 k n h (mkF m pc' L (v :: v :: S)) := by
  subst hp; exact r.pure fun T locs X eT t z => XS.dup X.here r.1.1 rfl (hb r.1.2.1 hd) rfl hv z
theorem Rch.dupx1 {v w : Value} (r : Rch p l e R s m args below meth c Z y bc ml rt n0 T0 g0 k n h (mkF m pc L (v :: w :: S))) (hd : decode bc pc = .ok (.dup_x1, 1)) (hv : v.category = 1) (hw : w.category = 1) (hp : pc + 1 = pc') : Rch p l e R s m args below meth c Z y bc ml rt n0 T0 g0 k n h (mkF m pc' L (v :: w :: v :: S)) := by
  subst hp; exact r.pure fun T locs X eT t z => XS.dupX1 X.here r.1.1 rfl (hb r.1.2.1 hd) rfl hv hw z
theorem Rch.dup2 {v w : Value} (r : Rch p l e R s m args below meth c Z y bc ml rt n0 T0 g0 k n h (mkF m pc L (v :: w :: S))) (hd : decode bc pc = .ok (.dup2, 1)) (hv : v.category = 1) (hw : w.category = 1) (hp : pc + 1 = pc') : Rch p l e R s m args below meth c Z y bc ml rt n0 T0 g0 k n h (mkF m pc' L (v :: w :: v :: w :: S)) := by
  subst hp
  refine r.pure fun T locs X eT t z => ?_
  have hx := r.1.1
  have hd' := hb r.1.2.1 hd
  jvm_step X.here [X.here.top, hx, hd', hv, hw]
  exact z
theorem Rch.dupx2 {v w u : Value} (r : Rch p l e R s m args below meth c Z y bc ml rt n0 T0 g0 k n h (mkF m pc L (v :: w :: u :: S))) (hd : decode bc pc = .ok (.dup_x2, 1)) (hv : v.category = 1) (hw : w.category = 1) (hu : u.category = 1) (hp : pc + 1 = pc') : Rch p l e R s m args below meth c Z y bc ml rt n0 T0 g0 k n h (mkF m pc' L (v :: w :: u :: v :: S)) := by
  subst hp
  refine r.pure fun T locs X eT t z => ?_
  have hx := r.1.1
  have hd' := hb r.1.2.1 hd
  jvm_step X.here [X.here.top, hx, hd', hv, hw, hu]
  exact z
theorem Rch.pop {v : Value} (r : Rch p l e R s m args below meth c Z y bc ml rt n0 T0 g0 k n h (mkF m pc L (v :: S))) (hd : decode bc pc = .ok (.pop, 1)) (hv : v.category = 1) (hp : pc + 1 = pc') : Rch p l e R s m args below meth c Z y bc ml rt n0 T0 g0 k n h (mkF m pc' L S) := by
  subst hp; exact r.pure fun T locs X eT t z => XS.pop X.here r.1.1 rfl (hb r.1.2.1 hd) rfl hv z
-- branches
theorem Rch.goto {o : Int} (r : Rch p l e R s m args below meth c Z y bc ml rt n0 T0 g0 k n h (mkF m pc L S)) (hd : decode bc pc = .ok (.goto o, 3)) (ho : 0 ≤ (pc : Int) + o) (hp : ((pc : Int) + o).toNat = pc') : Rch p l e R s m args below meth c Z y bc ml rt n0 T0 g0 k n h (mkF m pc' L S) :=
  r.pure fun T locs X eT t z => XS.goto X.here r.1.1 rfl (pc0 := pc) rfl (hb r.1.2.1 hd) ho hp z
theorem Rch.icT {cd : ClassFile.Cond} {x w : Int32} {o : Int} (r : Rch p l e R s m args below meth c Z y bc ml rt n0 T0 g0 k n h (mkF m pc L (.int w :: .int x :: S))) (hd : decode bc pc = .ok (.if_icmp cd o, 3)) (hc : if_icmp.holds cd x w = true) (ho : 0 ≤ (pc : Int) + o) (hp : ((pc : Int) + o).toNat = pc') : Rch p l e R s m args below meth c Z y bc ml rt n0 T0 g0 k n h (mkF m pc' L S) :=
  r.pure fun T locs X eT t z => XS.icmpYes X.here r.1.1 rfl (pc0 := pc) rfl (hb r.1.2.1 hd) rfl hc ho hp z
theorem Rch.icF {cd : ClassFile.Cond} {x w : Int32} {o : Int} (r : Rch p l e R s m args below meth c Z y bc ml rt n0 T0 g0 k n h (mkF m pc L (.int w :: .int x :: S))) (hd : decode bc pc = .ok (.if_icmp cd o, 3)) (hc : if_icmp.holds cd x w = false) (hp : pc + 3 = pc') : Rch p l e R s m args below meth c Z y bc ml rt n0 T0 g0 k n h (mkF m pc' L S) := by
  subst hp; exact r.pure fun T locs X eT t z => XS.icmpNo X.here r.1.1 rfl (hb r.1.2.1 hd) rfl hc z
theorem Rch.ifT {cd : ClassFile.Cond} {x : Int32} {o : Int} (r : Rch p l e R s m args below meth c Z y bc ml rt n0 T0 g0 k n h (mkF m pc L (.int x :: S))) (hd : decode bc pc = .ok (.ifCond cd o, 3)) (hc : if_icmp.holds cd x 0 = true) (ho : 0 ≤ (pc : Int) + o) (hp : ((pc : Int) + o).toNat = pc') : Rch p l e R s m args below meth c Z y bc ml rt n0 T0 g0 k n h (mkF m pc' L S) :=
  r.pure fun T locs X eT t z => XS.ifYes X.here r.1.1 rfl (pc0 := pc) rfl (hb r.1.2.1 hd) rfl ((if0 _ _).trans hc) ho hp z
theorem Rch.ifF {cd : ClassFile.Cond} {x : Int32} {o : Int} (r : Rch p l e R s m args below meth c Z y bc ml rt n0 T0 g0 k n h (mkF m pc L (.int x :: S))) (hd : decode bc pc = .ok (.ifCond cd o, 3)) (hc : if_icmp.holds cd x 0 = false) (hp : pc + 3 = pc') : Rch p l e R s m args below meth c Z y bc ml rt n0 T0 g0 k n h (mkF m pc' L S) := by
  subst hp; exact r.pure fun T locs X eT t z => XS.ifNo X.here r.1.1 rfl (hb r.1.2.1 hd) rfl ((if0 _ _).trans hc) z
theorem Rch.acmp {cd : ACond} {v w : Value} {o : Int} {same : Bool} (r : Rch p l e R s m args below meth c Z y bc ml rt n0 T0 g0 k n h (mkF m pc L (w :: v :: S))) (hd : decode bc pc = .ok (.if_acmp cd o, 3)) (hv : v.isRef = true) (hw : w.isRef = true) (hq : decide (v = w) = same) (ho : 0 ≤ (pc : Int) + o) (hp : pc' = if acV cd same = true then ((pc : Int) + o).toNat else pc + 3) : Rch p l e R s m args below meth c Z y bc ml rt n0 T0 g0 k n h (mkF m pc' L S) :=
  r.pure fun T locs X eT t z => Jvm.RoadKit.acmp X r.1.1 rfl hv hw (pc0 := pc) rfl (hb r.1.2.1 hd) rfl hq ho hp z
theorem Rch.nullT {o : Int} (r : Rch p l e R s m args below meth c Z y bc ml rt n0 T0 g0 k n h (mkF m pc L (.null :: S))) (hd : decode bc pc = .ok (.ifnull o, 3)) (ho : 0 ≤ (pc : Int) + o) (hp : ((pc : Int) + o).toNat = pc') : Rch p l e R s m args below meth c Z y bc ml rt n0 T0 g0 k n h (mkF m pc' L S) :=
  r.pure fun T locs X eT t z => XS.ifnullYes X.here r.1.1 rfl (pc0 := pc) rfl (hb r.1.2.1 hd) rfl ho hp z
theorem Rch.nullF {a : Addr} {o : Int} (r : Rch p l e R s m args below meth c Z y bc ml rt n0 T0 g0 k n h (mkF m pc L (.ref a :: S))) (hd : decode bc pc = .ok (.ifnull o, 3)) (hp : pc + 3 = pc') : Rch p l e R s m args below meth c Z y bc ml rt n0 T0 g0 k n h (mkF m pc' L S) := by
  subst hp; exact r.pure fun T locs X eT t z => XS.ifnullNo X.here r.1.1 rfl (hb r.1.2.1 hd) rfl z
theorem Rch.nnT {a : Addr} {o : Int} (r : Rch p l e R s m args below meth c Z y bc ml rt n0 T0 g0 k n h (mkF m pc L (.ref a :: S))) (hd : decode bc pc = .ok (.ifnonnull o, 3)) (ho : 0 ≤ (pc : Int) + o) (hp : ((pc : Int) + o).toNat = pc') : Rch p l e R s m args below meth c Z y bc ml rt n0 T0 g0 k n h (mkF m pc' L S) :=
  r.pure fun T locs X eT t z => XS.ifnonnullYes X.here r.1.1 rfl (pc0 := pc) rfl (hb r.1.2.1 hd) rfl ho hp z
theorem Rch.nnF {o : Int} (r : Rch p l e R s m args below meth c Z y bc ml rt n0 T0 g0 k n h (mkF m pc L (.null :: S))) (hd : decode bc pc = .ok (.ifnonnull o, 3)) (hp : pc + 3 = pc') : Rch p l e R s m args below meth c Z y bc ml rt n0 T0 g0 k n h (mkF m pc' L S) := by
  subst hp; exact r.pure fun T locs X eT t z => XS.ifnonnullNo X.here r.1.1 rfl (hb r.1.2.1 hd) rfl z
-- fields
theorem Rch.getF {R0 O nm d host : String} {idx : Nat} {a : Addr} {v : Value} (r : Rch p l e R s m args below meth c Z y bc ml rt n0 T0 g0 k n h (mkF m pc L (.ref a :: S))) (hd : decode bc pc = .ok (.getfield idx, 3)) (w : (Jvm.Cond.fieldLink y.cls idx R0 nm d).before a0 Z = true ∨ (Jvm.Cond.fieldLinkNest y.cls idx R0 nm d host).before a0 Z = true) (via : Via Z R0 O nm d) (F : Fld Z h a O nm d v) (hp : pc + 3 = pc') :
    Rch p l e R s m args below meth c Z y bc ml rt n0 T0 g0 k n h (mkF m pc' L (v :: S)) := by
  subst hp; exact r.keep fun T locs X eT => getF X r.1.1 r.1.2.2.2.2.1 r.1.2.2.2.1 w via eT F (g := mkF m pc L (.ref a :: S)) rfl rfl (hb r.1.2.1 hd)
theorem Rch.getS {R0 O nm d host : String} {idx : Nat} {v : Value} (r : Rch p l e R s m args below meth c Z y bc ml rt n0 T0 g0 k n h (mkF m pc L S)) (hd : decode bc pc = .ok (.getstatic idx, 3)) (w : (Jvm.Cond.fieldLink y.cls idx R0 nm d).before a0 Z = true ∨ (Jvm.Cond.fieldLinkNest y.cls idx R0 nm d host).before a0 Z = true) (via : Via Z R0 O nm d) (F : Sta Z h O nm d v) (hp : pc + 3 = pc') :
    Rch p l e R s m args below meth c Z y bc ml rt n0 T0 g0 k n h (mkF m pc' L (v :: S)) := by
  subst hp; exact r.keep fun T locs X eT => getS2 X r.1.1 r.1.2.2.2.2.1 r.1.2.2.2.1 w via eT F (g := mkF m pc L S) rfl (hb r.1.2.1 hd)
theorem Rch.putF {R0 O nm d host C : String} {idx kk : Nat} {ty : FieldType} {a : Addr} {v old : Value} (r : Rch p l e R s m args below meth c Z y bc ml rt n0 T0 g0 k n h (mkF m pc L (v :: .ref a :: S))) (hd : decode bc pc = .ok (.putfield idx, 3)) (w : (Jvm.Cond.fieldLink y.cls idx R0 nm d).before a0 Z = true ∨ (Jvm.Cond.fieldLinkNest y.cls idx R0 nm d host).before a0 Z = true) (via : Via Z R0 O nm d) (F : Fld Z h a O nm d old) (E : Exa Z h a C)
    (lw : (Jvm.Cond.lays C O nm d).before a0 Z = true ∨ ((Jvm.Cond.laysFinal C O nm d).before a0 Z = true ∧ y.cls = O ∧ y.name = "<init>")) (wi : (Jvm.Cond.instantiable C kk).before a0 Z = true) (hty : parseFieldDescriptor d = some ty) (hn : narrow ty v = v) (hf : fits ty v = true) (hN : n0 ≤ a) (hp : pc + 3 = pc') :
    ∃ h', Wr h h' a (Jvm.RoadKit.slotOf Z O nm d) v ∧ Rch p l e R s m args below meth c Z y bc ml rt n0 T0 g0 k n h' (mkF m pc' L S) := by
  subst hp
  obtain ⟨q, T, locs, X, eT, N, st⟩ := r
  obtain ⟨T', h', X', e', W, st'⟩ := putF X q.1 q.2.2.2.2.1 q.2.2.2.1 w via eT F E (lw.imp id fun z => ⟨z.1, z.2.1, q.2.2.2.2.2.2.2.trans z.2.2⟩) wi hty hn hf (g := mkF m pc L (v :: .ref a :: S)) rfl rfl (hb q.2.1 hd)
  exact ⟨h', W, q, T', _, X', e', Fr.snoc X' N hN, fun t z => st t (st' t z)⟩
theorem Rch.putFN {R0 O nm d C : String} {idx kk : Nat} {ty : FieldType} {a : Addr} {v v' old : Value} (r : Rch p l e R s m args below meth c Z y bc ml rt n0 T0 g0 k n h (mkF m pc L (v :: .ref a :: S))) (hd : decode bc pc = .ok (.putfield idx, 3)) (w : (Jvm.Cond.fieldLink y.cls idx R0 nm d).before a0 Z = true) (via : Via Z R0 O nm d) (F : Fld Z h a O nm d old) (E : Exa Z h a C)
    (lw : (Jvm.Cond.lays C O nm d).before a0 Z = true ∨ ((Jvm.Cond.laysFinal C O nm d).before a0 Z = true ∧ y.cls = O ∧ y.name = "<init>")) (wi : (Jvm.Cond.instantiable C kk).before a0 Z = true) (hty : parseFieldDescriptor d = some ty) (hn : narrow ty v = v') (hf : fits ty v' = true) (hN : n0 ≤ a) (hp : pc + 3 = pc') :
    ∃ h', Wr h h' a (Jvm.RoadKit.slotOf Z O nm d) v' ∧ Rch p l e R s m args below meth c Z y bc ml rt n0 T0 g0 k n h' (mkF m pc' L S) := by
  subst hp
  obtain ⟨q, T, locs, X, eT, N, st⟩ := r
  obtain ⟨T', h', X', e', W, st'⟩ := putFN X q.1 q.2.2.2.2.1 q.2.2.2.1 w via eT F E (lw.imp id fun z => ⟨z.1, z.2.1, q.2.2.2.2.2.2.2.trans z.2.2⟩) wi hty hn hf (g := mkF m pc L (v :: .ref a :: S)) rfl rfl (hb q.2.1 hd)
  exact ⟨h', W, q, T', _, X', e', Fr.snoc X' N hN, fun t z => st t (st' t z)⟩
-- objects and arrays
theorem Rch.newO {C : String} {idx i : Nat} (r : Rch p l e R s m args below meth c Z y bc ml rt n0 T0 g0 k n h (mkF m pc L S)) (hd : decode bc pc = .ok (.new idx, 3)) (w : (Jvm.Cond.classLink y.cls idx C).before a0 Z = true) (wi : (Jvm.Cond.instantiable C i).before a0 Z = true) (wz : (Jvm.Cond.initialized C).before a0 Z = true) {k' n' : Nat} (hk : k + 1 = k') (hn' : n + i = n') (hc : k' ≤ R.cells) (hl : n' ≤ R.slots) (hp : pc + 3 = pc') :
    ∃ h' a, a = h.size ∧ Ext h h' ∧ Exa Z h' a C ∧ (∀ {O nm d : String} {ty : FieldType}, Laid Z a0 C O nm d → parseFieldDescriptor d = some ty → Fld Z h' a O nm d (defaultValue ty)) ∧ Rch p l e R s m args below meth c Z y bc ml rt n0 T0 g0 k' n' h' (mkF m pc' L (.ref a :: S)) := by
  subst hp hk hn'
  obtain ⟨q, T, locs, X, eT, N, st⟩ := r
  obtain ⟨T', h', X', e', E, A, D, -, st'⟩ := newO X q.1 q.2.2.2.2.1 q.2.2.2.1 w wi wz eT (g := mkF m pc L S) rfl (hb q.2.1 hd) hc hl
  exact ⟨h', h.size, rfl, E, A, D, q, T', locs, X', e', N, fun t z => st t (st' t z)⟩
theorem Rch.newP {aty : ArrayType} {i : Int32} (r : Rch p l e R s m args below meth c Z y bc ml rt n0 T0 g0 k n h (mkF m pc L (.int i :: S))) (hd : decode bc pc = .ok (.newarray aty, 2)) (w : (Jvm.Cond.arrayClass (newarray.typeOf aty)).before a0 Z = true) (hn : ¬ i < 0) {cap : Nat} (hcap : i.toNatClampNeg ≤ cap) (hbg : cap * 8 ≤ 536870912) {k' n' : Nat} (hk : k + 1 = k') (hn' : n + cap = n') (hc : k' ≤ R.cells) (hl : n' ≤ R.slots) (hp : pc + 2 = pc') :
    ∃ h' a cA, a = h.size ∧ Ext h h' ∧ Arv Z h' a cA (newarray.typeOf aty) i [] (defaultValue (newarray.typeOf aty)) ∧ Rch p l e R s m args below meth c Z y bc ml rt n0 T0 g0 k' n' h' (mkF m pc' L (.ref a :: S)) := by
  subst hp hk hn'
  obtain ⟨q, T, locs, X, eT, N, st⟩ := r
  obtain ⟨T', h', cA, X', e', E, A, st'⟩ := newP X q.1 q.2.2.2.2.1 w eT (g := mkF m pc L (.int i :: S)) rfl (hb q.2.1 hd) rfl hn hcap hbg hc hl
  exact ⟨h', h.size, cA, rfl, E, Arv.new A hn, q, T', locs, X', e', N, fun t z => st t (st' t z)⟩
theorem Rch.newR {C : String} {idx : Nat} {i : Int32} (r : Rch p l e R s m args below meth c Z y bc ml rt n0 T0 g0 k n h (mkF m pc L (.int i :: S))) (hd : decode bc pc = .ok (.anewarray idx, 3)) (w1 : (Jvm.Cond.classLink y.cls idx C).before a0 Z = true) (w2 : (Jvm.Cond.arrayOver (.object C)).before a0 Z = true) (hn : ¬ i < 0) {cap : Nat} (hcap : i.toNatClampNeg ≤ cap) (hbg : cap * 8 ≤ 536870912) {k' n' : Nat} (hk : k + 1 = k') (hn' : n + cap = n') (hc : k' ≤ R.cells) (hl : n' ≤ R.slots) (hp : pc + 3 = pc') :
    ∃ h' a cA, a = h.size ∧ Ext h h' ∧ Ovr Z cA C ∧ Arv Z h' a cA (.object C) i [] .null ∧ Rch p l e R s m args below meth c Z y bc ml rt n0 T0 g0 k' n' h' (mkF m pc' L (.ref a :: S)) := by
  subst hp hk hn'
  obtain ⟨q, T, locs, X, eT, N, st⟩ := r
  obtain ⟨T', h', cA, X', e', E, A, O, st'⟩ := newR X q.1 q.2.2.2.2.1 q.2.2.2.1 w1 w2 eT (g := mkF m pc L (.int i :: S)) rfl (hb q.2.1 hd) rfl hn hcap hbg hc hl
  exact ⟨h', h.size, cA, rfl, E, O, Arv.new A hn, q, T', locs, X', e', N, fun t z => st t (st' t z)⟩
theorem inbI {c : Cell} {z j : Int32} (S : c.slots.size = z.toNatClampNeg) (h1 : ¬ j < 0) (h2 : j < z) : ¬ (j < 0 ∨ c.slots.size ≤ j.toNatClampNeg) := inb_of S ⟨h1, h2⟩
theorem Rch.stI {a : Addr} {kc : ClassId} {z j : Int32} {x : Int32} {vs : List Value} {dv : Value} (r : Rch p l e R s m args below meth c Z y bc ml rt n0 T0 g0 k n h (mkF m pc L (.int x :: .int j :: .ref a :: S))) (hd : decode bc pc = .ok (.iastore, 1)) (V : Arv Z h a kc .int z vs dv) (h1 : ¬ j < 0) (h2 : j < z) (h3 : j.toNatClampNeg < vs.length) (hN : n0 ≤ a) (hp : pc + 1 = pc') :
    ∃ h', Wr h h' a j.toNatClampNeg (.int x) ∧ Arv Z h' a kc .int z (vs.set j.toNatClampNeg (.int x)) dv ∧ Rch p l e R s m args below meth c Z y bc ml rt n0 T0 g0 k n h' (mkF m pc' L S) := by
  subst hp
  obtain ⟨q, T, locs, X, eT, N, st⟩ := r
  obtain ⟨cl, A, q1, S1, q3, H, G⟩ := V
  obtain ⟨T', h', X', e', W, st'⟩ := stI X q.1 q.2.2.2.2.1 eT A (j := j) (inbI S1 h1 h2) (g := mkF m pc L (.int x :: .int j :: .ref a :: S)) rfl rfl (hb q.2.1 hd)
  exact ⟨h', W, Arv.set A q1 S1 q3 H G rfl W _ rfl h3, q, T', _, X', e', Fr.snoc X' N hN, fun t z => st t (st' t z)⟩
theorem Rch.stB {a : Addr} {kc : ClassId} {z j : Int32} {x : Int32} {vs : List Value} {dv : Value} (r : Rch p l e R s m args below meth c Z y bc ml rt n0 T0 g0 k n h (mkF m pc L (.int x :: .int j :: .ref a :: S))) (hd : decode bc pc = .ok (.bastore, 1)) (V : Arv Z h a kc .byte z vs dv) (h1 : ¬ j < 0) (h2 : j < z) (h3 : j.toNatClampNeg < vs.length) (hN : n0 ≤ a) (hp : pc + 1 = pc') :
    ∃ h', Wr h h' a j.toNatClampNeg (.int (nar .byte x)) ∧ Arv Z h' a kc .byte z (vs.set j.toNatClampNeg (.int (nar .byte x))) dv ∧ Rch p l e R s m args below meth c Z y bc ml rt n0 T0 g0 k n h' (mkF m pc' L S) := by
  subst hp
  obtain ⟨q, T, locs, X, eT, N, st⟩ := r
  obtain ⟨cl, A, q1, S1, q3, H, G⟩ := V
  obtain ⟨T', h', X', e', W, st'⟩ := stB X q.1 q.2.2.2.2.1 eT A (j := j) (inbI S1 h1 h2) (g := mkF m pc L (.int x :: .int j :: .ref a :: S)) rfl rfl (hb q.2.1 hd)
  exact ⟨h', W, Arv.set A q1 S1 q3 H G (fits_nar_byte _) W _ rfl h3, q, T', _, X', e', Fr.snoc X' N hN, fun t z => st t (st' t z)⟩
theorem Rch.stC {a : Addr} {kc : ClassId} {z j : Int32} {x : Int32} {vs : List Value} {dv : Value} (r : Rch p l e R s m args below meth c Z y bc ml rt n0 T0 g0 k n h (mkF m pc L (.int x :: .int j :: .ref a :: S))) (hd : decode bc pc = .ok (.castore, 1)) (V : Arv Z h a kc .char z vs dv) (h1 : ¬ j < 0) (h2 : j < z) (h3 : j.toNatClampNeg < vs.length) (hN : n0 ≤ a) (hp : pc + 1 = pc') :
    ∃ h', Wr h h' a j.toNatClampNeg (.int (nar .char x)) ∧ Arv Z h' a kc .char z (vs.set j.toNatClampNeg (.int (nar .char x))) dv ∧ Rch p l e R s m args below meth c Z y bc ml rt n0 T0 g0 k n h' (mkF m pc' L S) := by
  subst hp
  obtain ⟨q, T, locs, X, eT, N, st⟩ := r
  obtain ⟨cl, A, q1, S1, q3, H, G⟩ := V
  obtain ⟨T', h', X', e', W, st'⟩ := stC X q.1 q.2.2.2.2.1 eT A (j := j) (inbI S1 h1 h2) (g := mkF m pc L (.int x :: .int j :: .ref a :: S)) rfl rfl (hb q.2.1 hd)
  exact ⟨h', W, Arv.set A q1 S1 q3 H G (fits_nar_char _) W _ rfl h3, q, T', _, X', e', Fr.snoc X' N hN, fun t z => st t (st' t z)⟩
theorem Rch.stZ {a : Addr} {kc : ClassId} {z j : Int32} {x : Int32} {vs : List Value} {dv : Value} (r : Rch p l e R s m args below meth c Z y bc ml rt n0 T0 g0 k n h (mkF m pc L (.int x :: .int j :: .ref a :: S))) (hd : decode bc pc = .ok (.bastore, 1)) (V : Arv Z h a kc .boolean z vs dv) (h1 : ¬ j < 0) (h2 : j < z) (h3 : j.toNatClampNeg < vs.length) (hN : n0 ≤ a) (hp : pc + 1 = pc') :
    ∃ h', Wr h h' a j.toNatClampNeg (.int (nar .boolean x)) ∧ Arv Z h' a kc .boolean z (vs.set j.toNatClampNeg (.int (nar .boolean x))) dv ∧ Rch p l e R s m args below meth c Z y bc ml rt n0 T0 g0 k n h' (mkF m pc' L S) := by
  subst hp
  obtain ⟨q, T, locs, X, eT, N, st⟩ := r
  obtain ⟨cl, A, q1, S1, q3, H, G⟩ := V
  obtain ⟨T', h', X', e', W, st'⟩ := stZ X q.1 q.2.2.2.2.1 eT A (j := j) (inbI S1 h1 h2) (g := mkF m pc L (.int x :: .int j :: .ref a :: S)) rfl rfl (hb q.2.1 hd)
  exact ⟨h', W, Arv.set A q1 S1 q3 H G (fits_nar_bool _) W _ rfl h3, q, T', _, X', e', Fr.snoc X' N hN, fun t z => st t (st' t z)⟩
theorem Rch.stJ {a : Addr} {kc : ClassId} {z j : Int32} {x : Int64} {vs : List Value} {dv : Value} (r : Rch p l e R s m args below meth c Z y bc ml rt n0 T0 g0 k n h (mkF m pc L (.long x :: .int j :: .ref a :: S))) (hd : decode bc pc = .ok (.lastore, 1)) (V : Arv Z h a kc .long z vs dv) (h1 : ¬ j < 0) (h2 : j < z) (h3 : j.toNatClampNeg < vs.length) (hN : n0 ≤ a) (hp : pc + 1 = pc') :
    ∃ h', Wr h h' a j.toNatClampNeg (.long x) ∧ Arv Z h' a kc .long z (vs.set j.toNatClampNeg (.long x)) dv ∧ Rch p l e R s m args below meth c Z y bc ml rt n0 T0 g0 k n h' (mkF m pc' L S) := by
  subst hp
  obtain ⟨q, T, locs, X, eT, N, st⟩ := r
  obtain ⟨cl, A, q1, S1, q3, H, G⟩ := V
  obtain ⟨T', h', X', e', W, st'⟩ := stJ X q.1 q.2.2.2.2.1 eT A (j := j) (inbI S1 h1 h2) (g := mkF m pc L (.long x :: .int j :: .ref a :: S)) rfl rfl (hb q.2.1 hd)
  exact ⟨h', W, Arv.set A q1 S1 q3 H G rfl W _ rfl h3, q, T', _, X', e', Fr.snoc X' N hN, fun t z => st t (st' t z)⟩
theorem Rch.stR {C : String} {a : Addr} {kc : ClassId} {z j : Int32} {v : Value} {vs : List Value} {dv : Value} (r : Rch p l e R s m args below meth c Z y bc ml rt n0 T0 g0 k n h (mkF m pc L (v :: .int j :: .ref a :: S))) (hd : decode bc pc = .ok (.aastore, 1)) (V : Arv Z h a kc (.object C) z vs dv) (h1 : ¬ j < 0) (h2 : j < z) (h3 : j.toNatClampNeg < vs.length) (hs : Sto Z h a v) (hv : v.isRef = true) (hN : n0 ≤ a) (hp : pc + 1 = pc') :
    ∃ h', Wr h h' a j.toNatClampNeg v ∧ Arv Z h' a kc (.object C) z (vs.set j.toNatClampNeg v) dv ∧ Rch p l e R s m args below meth c Z y bc ml rt n0 T0 g0 k n h' (mkF m pc' L S) := by
  subst hp
  obtain ⟨q, T, locs, X, eT, N, st⟩ := r
  obtain ⟨cl, A, q1, S1, q3, H, G⟩ := V
  obtain ⟨T', h', X', e', W, st'⟩ := stR X q.1 q.2.2.2.2.1 eT A (j := j) (inbI S1 h1 h2) rfl hs (g := mkF m pc L (v :: .int j :: .ref a :: S)) rfl rfl (hb q.2.1 hd)
  have hf : fits (.object C) v = true := by cases v <;> first | rfl | (cases hv; done)
  exact ⟨h', W, Arv.set A q1 S1 q3 H G hf W _ rfl h3, q, T', _, X', e', Fr.snoc X' N hN, fun t z => st t (st' t z)⟩
theorem Rch.ldI {a : Addr} {kc : ClassId} {z j : Int32} {vs : List Value} {dv : Value} (v : Value) (r : Rch p l e R s m args below meth c Z y bc ml rt n0 T0 g0 k n h (mkF m pc L (.int j :: .ref a :: S))) (hd : decode bc pc = .ok (.iaload, 1)) (V : Arv Z h a kc .int z vs dv) (h1 : ¬ j < 0) (h2 : j < z) (hv : vs.getD j.toNatClampNeg dv = v) (hp : pc + 1 = pc') :
    Rch p l e R s m args below meth c Z y bc ml rt n0 T0 g0 k n h (mkF m pc' L (v :: S)) := by
  subst hp
  obtain ⟨cl, A, q1, S1, q3, H, G⟩ := V
  exact r.pure fun T locs X eT t w => X.iaload r.1.1 (j := j) (v := v) (by rw [eT]; exact A.1) (State.isArrayOf_alike r.1.2.2.2.2.1.alike A.2.1) A.2.2 (inbI S1 h1 h2) (Has.at H (inbI S1 h1 h2) hv) (g := mkF m pc L (.int j :: .ref a :: S)) rfl rfl (hb r.1.2.1 hd) _ w
theorem Rch.ldJ {a : Addr} {kc : ClassId} {z j : Int32} {vs : List Value} {dv : Value} (v : Value) (r : Rch p l e R s m args below meth c Z y bc ml rt n0 T0 g0 k n h (mkF m pc L (.int j :: .ref a :: S))) (hd : decode bc pc = .ok (.laload, 1)) (V : Arv Z h a kc .long z vs dv) (h1 : ¬ j < 0) (h2 : j < z) (hv : vs.getD j.toNatClampNeg dv = v) (hp : pc + 1 = pc') :
    Rch p l e R s m args below meth c Z y bc ml rt n0 T0 g0 k n h (mkF m pc' L (v :: S)) := by
  subst hp
  obtain ⟨cl, A, q1, S1, q3, H, G⟩ := V
  exact r.pure fun T locs X eT t w => X.laload r.1.1 (j := j) (v := v) (by rw [eT]; exact A.1) (State.isArrayOf_alike r.1.2.2.2.2.1.alike A.2.1) A.2.2 (inbI S1 h1 h2) (Has.at H (inbI S1 h1 h2) hv) (g := mkF m pc L (.int j :: .ref a :: S)) rfl rfl (hb r.1.2.1 hd) _ w
theorem Rch.ldB {a : Addr} {kc : ClassId} {z j : Int32} {vs : List Value} {dv : Value} (v : Value) (r : Rch p l e R s m args below meth c Z y bc ml rt n0 T0 g0 k n h (mkF m pc L (.int j :: .ref a :: S))) (hd : decode bc pc = .ok (.baload, 1)) (V : Arv Z h a kc .byte z vs dv) (h1 : ¬ j < 0) (h2 : j < z) (hv : vs.getD j.toNatClampNeg dv = v) (hp : pc + 1 = pc') :
    Rch p l e R s m args below meth c Z y bc ml rt n0 T0 g0 k n h (mkF m pc' L (v :: S)) := by
  subst hp
  obtain ⟨cl, A, q1, S1, q3, H, G⟩ := V
  exact r.pure fun T locs X eT t w => X.baloadBytes r.1.1 (j := j) (v := v) (by rw [eT]; exact A.1) (State.isArrayOf_alike r.1.2.2.2.2.1.alike A.2.1) A.2.2 (inbI S1 h1 h2) (Has.at H (inbI S1 h1 h2) hv) (g := mkF m pc L (.int j :: .ref a :: S)) rfl rfl (hb r.1.2.1 hd) _ w
theorem Rch.ldC {a : Addr} {kc : ClassId} {z j : Int32} {vs : List Value} {dv : Value} (v : Value) (r : Rch p l e R s m args below meth c Z y bc ml rt n0 T0 g0 k n h (mkF m pc L (.int j :: .ref a :: S))) (hd : decode bc pc = .ok (.caload, 1)) (V : Arv Z h a kc .char z vs dv) (h1 : ¬ j < 0) (h2 : j < z) (hv : vs.getD j.toNatClampNeg dv = v) (hp : pc + 1 = pc') :
    Rch p l e R s m args below meth c Z y bc ml rt n0 T0 g0 k n h (mkF m pc' L (v :: S)) := by
  subst hp
  obtain ⟨cl, A, q1, S1, q3, H, G⟩ := V
  exact r.pure fun T locs X eT t w => X.caload r.1.1 (j := j) (v := v) (by rw [eT]; exact A.1) (State.isArrayOf_alike r.1.2.2.2.2.1.alike A.2.1) A.2.2 (inbI S1 h1 h2) (Has.at H (inbI S1 h1 h2) hv) (g := mkF m pc L (.int j :: .ref a :: S)) rfl rfl (hb r.1.2.1 hd) _ w
theorem Rch.ldR {ty : FieldType} {a : Addr} {kc : ClassId} {z j : Int32} {vs : List Value} {dv : Value} (v : Value) (r : Rch p l e R s m args below meth c Z y bc ml rt n0 T0 g0 k n h (mkF m pc L (.int j :: .ref a :: S))) (hd : decode bc pc = .ok (.aaload, 1)) (V : Arv Z h a kc ty z vs dv) (hty : ty.isReference = true) (h1 : ¬ j < 0) (h2 : j < z) (hv : vs.getD j.toNatClampNeg dv = v) (hp : pc + 1 = pc') :
    Rch p l e R s m args below meth c Z y bc ml rt n0 T0 g0 k n h (mkF m pc' L (v :: S)) := by
  subst hp
  obtain ⟨cl, A, q1, S1, q3, H, G⟩ := V
  exact r.pure fun T locs X eT t w => X.aaload r.1.1 (j := j) (v := v) (by rw [eT]; exact A.1) (State.isArrayOf_alike r.1.2.2.2.2.1.alike A.2.1) hty A.2.2 (inbI S1 h1 h2) (Has.at H (inbI S1 h1 h2) hv) (g := mkF m pc L (.int j :: .ref a :: S)) rfl rfl (hb r.1.2.1 hd) _ w
theorem Rch.ldI0 {a : Addr} {kc : ClassId} {z j : Int32} {vs : List Value} {dv : Value} (r : Rch p l e R s m args below meth c Z y bc ml rt n0 T0 g0 k n h (mkF m pc L (.int j :: .ref a :: S))) (hd : decode bc pc = .ok (.iaload, 1)) (V : Arv Z h a kc .int z vs dv) (h1 : ¬ j < 0) (h2 : j < z) (hp : pc + 1 = pc') :
    ∃ x : Int32, vs.getD j.toNatClampNeg dv = .int x ∧ Rch p l e R s m args below meth c Z y bc ml rt n0 T0 g0 k n h (mkF m pc' L (.int x :: S)) := by
  have V0 := V
  obtain ⟨cl, A, q1, S1, q3, H, G⟩ := V0
  have hlt := Nat.lt_of_not_le fun q => inbI S1 h1 h2 (Or.inr q)
  obtain ⟨x, hx⟩ := fit_I (G _ hlt) (Or.inl rfl)
  exact ⟨x, hx, Rch.ldI (.int x) r hd V h1 h2 hx hp⟩
theorem Rch.stI0 {a : Addr} {kc : ClassId} {z j x : Int32} {vs : List Value} {dv : Value} (r : Rch p l e R s m args below meth c Z y bc ml rt n0 T0 g0 k n h (mkF m pc L (.int x :: .int j :: .ref a :: S))) (hd : decode bc pc = .ok (.iastore, 1)) (V : Arv Z h a kc .int z vs dv) (h1 : ¬ j < 0) (h2 : j < z) (hN : n0 ≤ a) (hp : pc + 1 = pc') :
    ∃ h' vs', Wr h h' a j.toNatClampNeg (.int x) ∧ Arv Z h' a kc .int z vs' dv ∧ Rch p l e R s m args below meth c Z y bc ml rt n0 T0 g0 k n h' (mkF m pc' L S) := by
  obtain ⟨h', W, V', r'⟩ := Rch.stI r hd (V.pad (pad_rep vs dv (j.toNatClampNeg + 1))) h1 h2 (by simp; omega) hN hp
  exact ⟨h', _, W, V', r'⟩
theorem Rch.alen {ty : FieldType} {a : Addr} {kc : ClassId} {z : Int32} {vs : List Value} {dv : Value} (r : Rch p l e R s m args below meth c Z y bc ml rt n0 T0 g0 k n h (mkF m pc L (.ref a :: S))) (hd : decode bc pc = .ok (.arraylength, 1)) (V : Arv Z h a kc ty z vs dv) (hp : pc + 1 = pc') :
    Rch p l e R s m args below meth c Z y bc ml rt n0 T0 g0 k n h (mkF m pc' L (.int z :: S)) := by
  subst hp
  obtain ⟨cl, A, -, S1, S2, -, -⟩ := V
  refine r.pure fun T locs X eT t w => X.arraylength r.1.1 (by rw [eT]; exact A.1) (State.isArrayOf_alike r.1.2.2.2.2.1.alike A.2.1) (g := mkF m pc L (.ref a :: S)) rfl rfl (hb r.1.2.1 hd) _ ?_
  rw [len_of S1 S2]
  exact w
-- returns
theorem Rch.retZ {z : Int32} {t : FieldType} (r : Rch p l e R s m args below meth c Z y bc ml rt n0 T0 g0 k n h (mkF m pc L (.int z :: S))) (hd : decode bc pc = .ok (.ireturn, 1)) (hrt : rt = some t) (ht : t = .boolean ∨ t = .byte ∨ t = .char ∨ t = .short) (w : Int32) (hw : nar t z = w) (hk : k ≤ R.cells) (hn : n ≤ R.slots) : Don p l e R s m args below meth c rt n0 T0 g0 (some (.int w)) h := by
  subst hw
  obtain ⟨q, T, locs, X, eT, N, st⟩ := r
  refine ⟨T, locs, k, n, X, hk, hn, eT, N, q.2.2.2.2.2.2.1, (fun z => ?_), fun fs hl => st _ (retN X q.1 (t := t) (q.2.2.2.2.2.1.trans hrt) ht (hb q.2.1 hd) hl)⟩
  rw [q.2.2.2.2.2.1, hrt] at z; cases z
theorem Rch.retI {z : Int32} (r : Rch p l e R s m args below meth c Z y bc ml rt n0 T0 g0 k n h (mkF m pc L (.int z :: S))) (hd : decode bc pc = .ok (.ireturn, 1)) (hrt : rt = some .int) (hk : k ≤ R.cells) (hn : n ≤ R.slots) : Don p l e R s m args below meth c rt n0 T0 g0 (some (.int z)) h := by
  obtain ⟨q, T, locs, X, eT, N, st⟩ := r
  refine ⟨T, locs, k, n, X, hk, hn, eT, N, q.2.2.2.2.2.2.1, (fun z => ?_), fun fs hl => st _ (retOut X q.1 (t := .int) (q.2.2.2.2.2.1.trans hrt) rfl (Or.inl ⟨rfl, Or.inl rfl, _, rfl⟩) (hb q.2.1 hd) hl)⟩
  rw [q.2.2.2.2.2.1, hrt] at z; cases z
theorem Rch.retJ {z : Int64} (r : Rch p l e R s m args below meth c Z y bc ml rt n0 T0 g0 k n h (mkF m pc L (.long z :: S))) (hd : decode bc pc = .ok (.lreturn, 1)) (hrt : rt = some .long) (hk : k ≤ R.cells) (hn : n ≤ R.slots) : Don p l e R s m args below meth c rt n0 T0 g0 (some (.long z)) h := by
  obtain ⟨q, T, locs, X, eT, N, st⟩ := r
  refine ⟨T, locs, k, n, X, hk, hn, eT, N, q.2.2.2.2.2.2.1, (fun z => ?_), fun fs hl => st _ (retOut X q.1 (t := .long) (q.2.2.2.2.2.1.trans hrt) rfl (Or.inr (Or.inl ⟨rfl, rfl, _, rfl⟩)) (hb q.2.1 hd) hl)⟩
  rw [q.2.2.2.2.2.1, hrt] at z; cases z
theorem Rch.retA {v : Value} {t : FieldType} (r : Rch p l e R s m args below meth c Z y bc ml rt n0 T0 g0 k n h (mkF m pc L (v :: S))) (hd : decode bc pc = .ok (.areturn, 1)) (hrt : rt = some t) (ht : t.isReference = true) (hv : v.isRef = true) (hk : k ≤ R.cells) (hn : n ≤ R.slots) : Don p l e R s m args below meth c rt n0 T0 g0 (some v) h := by
  obtain ⟨q, T, locs, X, eT, N, st⟩ := r
  have hnar : narrow t v = v := by cases v <;> first | (cases hv; done) | (cases t <;> rfl)
  refine ⟨T, locs, k, n, X, hk, hn, eT, N, q.2.2.2.2.2.2.1, (fun z => ?_), fun fs hl => st _ (retOut X q.1 (t := t) (q.2.2.2.2.2.1.trans hrt) hnar (Or.inr (Or.inr (Or.inr (Or.inr ⟨rfl, ht, hv⟩)))) (hb q.2.1 hd) hl)⟩
  rw [q.2.2.2.2.2.1, hrt] at z; cases z
theorem Rch.retV (r : Rch p l e R s m args below meth c Z y bc ml rt n0 T0 g0 k n h (mkF m pc L [])) (hd : decode bc pc = .ok (.return_, 1)) (hrt : rt = none) (hk : k ≤ R.cells) (hn : n ≤ R.slots) : Don p l e R s m args below meth c rt n0 T0 g0 none h := by
  obtain ⟨q, T, locs, X, eT, N, st⟩ := r
  exact ⟨T, locs, k, n, X, hk, hn, eT, N, q.2.2.2.2.2.2.1, fun _ => rfl, fun fs hl => st _ (X.returnOut q.1 (q.2.2.2.2.2.1.trans hrt) (hb q.2.1 hd) hl)⟩
-- entering a body
theorem ent {rm : Room} {as : Array Value} {h0 : Heap} {Q : Option Value → Heap → Prop} {L0 : Array Slot} (hpl : plainFor y = true) (hL : ∀ m, entryFrame m as ml = mkF m 0 L0 [])
    (H : ∀ p e s m below meth c T0, Rch p l e rm s m as below meth c Z y bc ml rt n0 T0 (mkF m 0 L0 []) 0 0 h0 (mkF m 0 L0 []) → ∃ v h, Don p l e rm s m as below meth c rt n0 T0 (mkF m 0 L0 []) v h ∧ Q v h) : Ctr l Z y bc ml rt rm as h0 n0 Q := by
  intro ws
  refine MetFree.of_bodySF hpl hisR ?_
  intro p e s m args below meth c s₁ Bd hml0 hP hK
  obtain ⟨rfl, hZ, hh⟩ := hP
  have hown : s.vm.findClass y.cls = some m.cls := findClass_of_methodNamed Bd.named
  have hnm := (name_of_methodNamed Bd.named Bd.method).1
  have X0 : Stand p l e rm s m args below meth c s₁ [] 0 0 := Stand.of_body Bd
  have e0 : s₁.heap = h0 := by rw [← hh, Bd.state]; rfl
  obtain ⟨v, h, ⟨T, locs, k, n, X, hk, hn, eT, N, hlk, hv, st⟩, hq⟩ := H p e s m below meth c s₁ ⟨⟨Bd.exec, Bd.bytes, hml0, hown, hZ, Bd.returns, Bd.notSynchronized, hnm⟩, s₁, [], X0, e0, Fr.nil n0, fun _ z => z⟩
  obtain ⟨fs, hr, hrun, hended, hW, hsame⟩ := X.leave (v := v) hv hlk
  refine ⟨_, _, castTop (hL m) (st fs hr), hrun, hended, v, locs, rfl, ⟨N, ?_⟩, ⟨_, rfl⟩, hW, hsame.mono hk hn⟩
  show Q v T.heap
  rw [eT]; exact hq
-- calls
theorem Rch.callS {z : MethodName} {bc' : ByteArray} {ml' : Nat} {rt' : Option FieldType} {rm : Room} {idx : Nat} {ps : List FieldType} {ro : Option FieldType} {Q : Option Value → Heap → Prop} (argsL : List Value) {rest : List Value} (W : Nat)
    (r : Rch p l e R s m args below meth c Z y bc ml rt n0 T0 g0 k n h (mkF m pc L S)) (hd : decode bc pc = .ok (.invokestatic idx, 3)) (w1 : (Jvm.Cond.methodLink y.cls idx z).before a0 Z = true) (w2 : (Jvm.Cond.static z).before a0 Z = true) (w3 : (Jvm.Cond.initialized z.cls).before a0 Z = true) (w4 : (Jvm.Cond.code z bc' ml' rt').before a0 Z = true)
    (hy : z.cls ≠ "java/lang/invoke/MethodHandle" ∧ z.cls ≠ "java/lang/invoke/VarHandle") (C : Ctr l Z z bc' ml' rt' rm argsL.toArray h n0 Q) (pd : parseMethodDescriptor z.desc = some ⟨ps, ro⟩) (hlen : argsL.length = ps.length) (hS : S = argsL.reverse ++ rest) (hml : L.size = ml)
    (hW : (rest.map fun v => v.category).sum ≤ W) (hf : rm.frames + 1 ≤ R.frames) (hlo : W + (ml' + 11) + rm.locals ≤ R.locals) {k' n' : Nat} (hk : k + rm.cells = k') (hn' : n + rm.slots = n') (hc : k' ≤ R.cells) (hl : n' ≤ R.slots) (hp : pc + 3 = pc') :
    ∃ v h', Q v h' ∧ Rch p l e R s m args below meth c Z y bc ml rt n0 T0 g0 k' n' h' (mkF m pc' L (v.toList ++ rest)) := by
  subst hp hS hk hn'
  obtain ⟨q, T, locs, X, eT, N, st⟩ := r
  obtain ⟨v, _, ⟨T', L', kk', nn'⟩, -, X', ⟨Lc, hQ, l1, y1, z1⟩, st'⟩ := Jvm.LawKit.callS X q.1 (y := z) q.2.2.2.1 (mvT q.2.2.2.2.1 w1) (mvT q.2.2.2.2.1 w2) (mvT q.2.2.2.2.1 w3) (mvT q.2.2.2.2.1 w4) hy (backOf (W := W) (Q := fun v h L => Fr n0 L ∧ Q v h) (C []) q.2.2.2.2.1 w4 w3 hf hlo) (g := mkF m pc L (argsL.reverse ++ rest)) rfl (by rw [q.2.2.1]; exact hml) (argsL := argsL) (rest := rest) (lenOf pd hlen) rfl (by simpa using hW) (hb q.2.1 hd) (fun _ _ => ⟨rfl, eT, hc, hl⟩)
  dsimp only [Pt.U, Pt.locs, Pt.cells, Pt.slots] at X' l1 y1 z1 st' hQ
  subst l1 y1 z1
  exact ⟨v, T'.heap, hQ.2, q, T', _, X', rfl, N.app hQ.1, fun t u => st t (st' t u)⟩
theorem Rch.callC {z : MethodName} {bc' : ByteArray} {ml' : Nat} {rm : Room} {idx : Nat} {ps : List FieldType} {ro : Option FieldType} {Q : Option Value → Heap → Prop} {a : Addr} (argsL : List Value) {rest : List Value} (W : Nat)
    (r : Rch p l e R s m args below meth c Z y bc ml rt n0 T0 g0 k n h (mkF m pc L S)) (hd : decode bc pc = .ok (.invokespecial idx, 3)) (hi : z.name = "<init>") (w1 : (Jvm.Cond.methodLink y.cls idx z).before a0 Z = true) (w2 : (Jvm.Cond.instanceMethod z).before a0 Z = true) (w3 : (Jvm.Cond.initialized z.cls).before a0 Z = true) (w4 : (Jvm.Cond.code z bc' ml' none).before a0 Z = true)
    (hy : z.cls ≠ "java/lang/invoke/MethodHandle" ∧ z.cls ≠ "java/lang/invoke/VarHandle") (C : Ctr l Z z bc' ml' none rm (.ref a :: argsL).toArray h n0 Q) (pd : parseMethodDescriptor z.desc = some ⟨ps, ro⟩) (hlen : argsL.length = ps.length) (hS : S = argsL.reverse ++ .ref a :: rest) (hml : L.size = ml)
    (hW : (rest.map fun v => v.category).sum ≤ W) (hf : rm.frames + 1 ≤ R.frames) (hlo : W + (ml' + 11) + rm.locals ≤ R.locals) {k' n' : Nat} (hk : k + rm.cells = k') (hn' : n + rm.slots = n') (hc : k' ≤ R.cells) (hl : n' ≤ R.slots) (hp : pc + 3 = pc') :
    ∃ v h', Q v h' ∧ Rch p l e R s m args below meth c Z y bc ml rt n0 T0 g0 k' n' h' (mkF m pc' L (v.toList ++ rest)) := by
  subst hp hS hk hn'
  obtain ⟨q, T, locs, X, eT, N, st⟩ := r
  obtain ⟨v, _, ⟨T', L', kk', nn'⟩, -, X', ⟨Lc, hQ, l1, y1, z1⟩, st'⟩ := X.specialBack q.1 (y := z) hi q.2.2.2.1 (mvT q.2.2.2.2.1 w1) (mvT q.2.2.2.2.1 w2) (mvT q.2.2.2.2.1 w4) hy (backOf (W := W) (Q := fun v h L => Fr n0 L ∧ Q v h) (C []) q.2.2.2.2.1 w4 w3 hf hlo) (g := mkF m pc L (argsL.reverse ++ .ref a :: rest)) rfl (by rw [q.2.2.1]; exact hml) (Steps.refl _) (a := a) (argsL := argsL) (rest := rest) (lenOf pd hlen) rfl (by simpa using hW) (hb q.2.1 hd) (fun _ _ => ⟨rfl, eT, hc, hl⟩)
  dsimp only [Pt.U, Pt.locs, Pt.cells, Pt.slots] at X' l1 y1 z1 st' hQ
  subst l1 y1 z1
  exact ⟨v, T'.heap, hQ.2, q, T', _, X', rfl, N.app hQ.1, fun t u => st t (st'.trans u)⟩
theorem Rch.callV {z z' : MethodName} {K : String} {bc' : ByteArray} {ml' : Nat} {rt' : Option FieldType} {rm : Room} {idx : Nat} {ps : List FieldType} {ro : Option FieldType} {Q : Option Value → Heap → Prop} {a : Addr} (argsL : List Value) {rest : List Value} (W : Nat)
    (r : Rch p l e R s m args below meth c Z y bc ml rt n0 T0 g0 k n h (mkF m pc L S)) (hd : decode bc pc = .ok (.invokevirtual idx, 3)) (w1 : (Jvm.Cond.methodLink y.cls idx z).before a0 Z = true) (w2 : (Jvm.Cond.declares z).before a0 Z = true) (nf : NotFace s z) (w5 : (Jvm.Cond.selects K z z').before a0 Z = true) (w6 : (Jvm.Cond.instanceMethod z').before a0 Z = true) (w3 : (Jvm.Cond.initialized z'.cls).before a0 Z = true) (w4 : (Jvm.Cond.code z' bc' ml' rt').before a0 Z = true)
    (hy : z.cls ≠ "java/lang/invoke/MethodHandle" ∧ z.cls ≠ "java/lang/invoke/VarHandle") (C : Ctr l Z z' bc' ml' rt' rm (.ref a :: argsL).toArray h n0 Q) (E : Exa Z h a K) (pd : parseMethodDescriptor z.desc = some ⟨ps, ro⟩) (hlen : argsL.length = ps.length) (hS : S = argsL.reverse ++ .ref a :: rest) (hml : L.size = ml)
    (hW : (rest.map fun v => v.category).sum ≤ W) (hf : rm.frames + 1 ≤ R.frames) (hlo : W + (ml' + 11) + rm.locals ≤ R.locals) {k' n' : Nat} (hk : k + rm.cells = k') (hn' : n + rm.slots = n') (hc : k' ≤ R.cells) (hl : n' ≤ R.slots) (hp : pc + 3 = pc') :
    ∃ v h', Q v h' ∧ Rch p l e R s m args below meth c Z y bc ml rt n0 T0 g0 k' n' h' (mkF m pc' L (v.toList ++ rest)) := by
  subst hp hS hk hn'
  obtain ⟨q, T, locs, X, eT, N, st⟩ := r
  obtain ⟨cq, kq, qa, qb, qc⟩ := isOf q.2.2.2.2.1 eT E
  obtain ⟨v, _, ⟨T', L', kk', nn'⟩, -, X', ⟨Lc, hQ, l1, y1, z1⟩, st'⟩ := X.virtualBack q.1 (y := z) (z := z') q.2.2.2.1 (mvT q.2.2.2.2.1 w1) (mvT q.2.2.2.2.1 w2) nf (mvT q.2.2.2.2.1 w5) (mvT q.2.2.2.2.1 w6) hy (backOf (W := W) (Q := fun v h L => Fr n0 L ∧ Q v h) (C []) q.2.2.2.2.1 w4 w3 hf hlo) qa qc (g := mkF m pc L (argsL.reverse ++ .ref a :: rest)) rfl (by rw [q.2.2.1]; exact hml) (Steps.refl _) (argsL := argsL) (rest := rest) (lenOf pd hlen) rfl (by simpa using hW) (hb q.2.1 hd) (fun _ _ => ⟨rfl, eT, hc, hl⟩)
  dsimp only [Pt.U, Pt.locs, Pt.cells, Pt.slots] at X' l1 y1 z1 st' hQ
  subst l1 y1 z1
  exact ⟨v, T'.heap, hQ.2, q, T', _, X', rfl, N.app hQ.1, fun t u => st t (st'.trans u)⟩
theorem Rch.nface {z z' : MethodName} {K : String} {g : JFrame} (r : Rch p l e R s m args below meth c Z y bc ml rt n0 T0 g0 k n h g) (w : (Jvm.Cond.selects K z z').before a0 Z = true) (hq : z = z') : NotFace s z := by
  subst hq; exact notFace_of_selects (args := #[]) (mvT r.1.2.2.2.2.1 w)
theorem Rch.initO {idx : Nat} {a : Addr} (W : Nat) (r : Rch p l e R s m args below meth c Z y bc ml rt n0 T0 g0 k n h (mkF m pc L (.ref a :: S))) (hd : decode bc pc = .ok (.invokespecial idx, 3)) (w1 : (Jvm.Cond.methodLink y.cls idx Lib.objectInit).before a0 Z = true) (w2 : (Jvm.Cond.instanceMethod Lib.objectInit).before a0 Z = true) (w3 : (Jvm.Cond.code Lib.objectInit ⟨#[0xb1]⟩ 1 none).before a0 Z = true) (hml : L.size = ml)
    (hf : 1 ≤ R.frames) (hW : (S.map fun v => v.category).sum ≤ W) (hl : W + 12 ≤ R.locals) (hp : pc + 3 = pc') : Rch p l e R s m args below meth c Z y bc ml rt n0 T0 g0 k n h (mkF m pc' L S) := by
  subst hp
  exact r.keep fun T locs X eT => initO X r.1.1 r.1.2.2.2.2.1 r.1.2.2.2.1 w1 w2 w3 eT (g := mkF m pc L (.ref a :: S)) rfl (by rw [r.1.2.2.1]; exact hml) rfl (hb r.1.2.1 hd) hf (W := W) (by simpa using hW) hl
end OwnLayer

section OwnArrJ
/-- a long[] of the length z whose values are F -/
def ArJ (Z : State) (h : Heap) (a : Addr) (z : Int32) (F : List Int64) : Prop := ∃ kc, Arv Z h a kc .long z (F.map Value.long) (.long 0)
theorem getD_mapJ (F : List Int64) (i : Nat) : (F.map Value.long).getD i (.long 0) = .long (F.getD i 0) := by
  simp only [List.getD_eq_getElem?_getD, List.getElem?_map]
  cases F[i]? <;> rfl
variable {p : Program} {l : Launch} {e : Env} {R : Room} {s : State} {m : MethodId} {args : Array Value} {below : List Frame} {meth : Method} {c : Code} {Z : State} {y : MethodName} {bc : ByteArray} {ml : Nat} {rt : Option FieldType} {n0 : Nat} {T0 : State} {g0 : JFrame} {k n : Nat} {h h' : Heap} {a0 : Array Value} {pc pc' : Nat} {L : Array Slot} {S : List Value} {a b : Addr} {z j : Int32} {x : Int64} {F : List Int64}
theorem ArJ.lt (V : ArJ Z h a z F) : a < h.size := by obtain ⟨_, V⟩ := V; exact Jvm.RoadKit.Arv.lt V
theorem ArJ.ext (V : ArJ Z h a z F) (E : Ext h h') : ArJ Z h' a z F := by obtain ⟨kc, V⟩ := V; exact ⟨kc, Jvm.RoadKit.Arv.ext V E⟩
theorem ArJ.other {sl : Nat} {v : Value} (V : ArJ Z h b z F) (W : Wr h h' a sl v) (q : b ≠ a) : ArJ Z h' b z F := by obtain ⟨kc, V⟩ := V; exact ⟨kc, Jvm.RoadKit.Arv.other V W q⟩
theorem ArJ.keep {ws : List Addr} (V : ArJ Z h a z F) (K : Keep h h' ws) (q : a ∉ ws) : ArJ Z h' a z F := by obtain ⟨kc, V⟩ := V; exact ⟨kc, Jvm.RoadKit.Arv.keep V K q⟩
theorem ArJ.new {kc : ClassId} (V : Arv Z h a kc .long z [] (.long 0)) (i : Nat) : ArJ Z h a z (List.replicate i 0) := ⟨kc, by
  have q := Jvm.RoadKit.Arv.pad V (pad_rep [] (.long 0) i)
  simpa using q⟩
theorem Rch.gJ (u : Int64) (r : Rch p l e R s m args below meth c Z y bc ml rt n0 T0 g0 k n h (mkF m pc L (.int j :: .ref a :: S))) (hd : decode bc pc = .ok (.laload, 1)) (V : ArJ Z h a z F) (h1 : ¬ j < 0) (h2 : j < z) (hv : F.getD j.toNatClampNeg 0 = u) (hp : pc + 1 = pc') :
    Rch p l e R s m args below meth c Z y bc ml rt n0 T0 g0 k n h (mkF m pc' L (.long u :: S)) := by
  obtain ⟨kc, V⟩ := V
  subst hv
  exact Rch.ldJ (.long _) r hd V h1 h2 (getD_mapJ F _) hp
theorem Rch.sJ (r : Rch p l e R s m args below meth c Z y bc ml rt n0 T0 g0 k n h (mkF m pc L (.long x :: .int j :: .ref a :: S))) (hd : decode bc pc = .ok (.lastore, 1)) (V : ArJ Z h a z F) (h1 : ¬ j < 0) (h2 : j < z) (h3 : j.toNatClampNeg < F.length) (hN : n0 ≤ a) (hp : pc + 1 = pc') :
    ∃ h', Wr h h' a j.toNatClampNeg (.long x) ∧ ArJ Z h' a z (F.set j.toNatClampNeg x) ∧ Rch p l e R s m args below meth c Z y bc ml rt n0 T0 g0 k n h' (mkF m pc' L S) := by
  obtain ⟨kc, V⟩ := V
  obtain ⟨h', W, V', r'⟩ := Rch.stJ r hd V h1 h2 (by simpa using h3) hN hp
  exact ⟨h', W, ⟨kc, by rw [List.map_set]; exact V'⟩, r'⟩
theorem Rch.lenJ (r : Rch p l e R s m args below meth c Z y bc ml rt n0 T0 g0 k n h (mkF m pc L (.ref a :: S))) (hd : decode bc pc = .ok (.arraylength, 1)) (V : ArJ Z h a z F) (hp : pc + 1 = pc') :
    Rch p l e R s m args below meth c Z y bc ml rt n0 T0 g0 k n h (mkF m pc' L (.int z :: S)) := by
  obtain ⟨kc, V⟩ := V
  exact Rch.alen r hd V hp
end OwnArrJ

/-- a LongHeap at a, its array at v with the values F, its size sz -/
def LH (Z : State) (h : Heap) (n0 : Nat) (a v : Addr) (F : List Int64) (sz : Int32) : Prop := Exa Z h a "com/example/hailstream/hailstream/LongHeap" ∧ Fld Z h a "com/example/hailstream/hailstream/LongHeap" "values" "[J" (.ref v) ∧ Fld Z h a "com/example/hailstream/hailstream/LongHeap" "size" "I" (.int sz) ∧ ArJ Z h v 16 F ∧ a ≠ v ∧ n0 ≤ a ∧ n0 ≤ v
theorem LH.putSize {Z : State} {h h' : Heap} {n0 : Nat} {a v : Addr} {F : List Int64} {sz sz' : Int32} {a0 : Array Value} (M : LH Z h n0 a v F sz) (W : Wr h h' a (Jvm.RoadKit.slotOf Z "com/example/hailstream/hailstream/LongHeap" "size" "I") (.int sz')) (l1 : Laid Z a0 "com/example/hailstream/hailstream/LongHeap" "com/example/hailstream/hailstream/LongHeap" "values" "[J") (l2 : Laid Z a0 "com/example/hailstream/hailstream/LongHeap" "com/example/hailstream/hailstream/LongHeap" "size" "I") : LH Z h' n0 a v F sz' :=
  ⟨M.1.wr W, M.2.1.other W (Or.inr (slot_ne l1 l2 (by decide) (t := .array .long) (t' := .int) (by decide) (by decide))), M.2.2.1.same W, M.2.2.2.1.other W M.2.2.2.2.1.symm, M.2.2.2.2⟩
theorem LH.putElem {Z : State} {h h' : Heap} {n0 : Nat} {a v : Addr} {F F' : List Int64} {sz : Int32} {j : Nat} {x : Value} (M : LH Z h n0 a v F sz) (W : Wr h h' v j x) (V : ArJ Z h' v 16 F') : LH Z h' n0 a v F' sz :=
  ⟨M.1.wr W, M.2.1.other W (Or.inl M.2.2.2.2.1), M.2.2.1.other W (Or.inl M.2.2.2.2.1), V, M.2.2.2.2⟩
theorem LH.keep {Z : State} {h h' : Heap} {n0 : Nat} {a v : Addr} {F : List Int64} {sz : Int32} {ws : List Addr} (M : LH Z h n0 a v F sz) (K : Keep h h' ws) (q1 : a ∉ ws) (q2 : v ∉ ws) : LH Z h' n0 a v F sz :=
  ⟨M.1.keep K, M.2.1.keep K q1, M.2.2.1.keep K q1, M.2.2.2.1.keep K q2, M.2.2.2.2⟩
theorem pn_com_example_hailstream_hailstream_LongHeap : plainName "com/example/hailstream/hailstream/LongHeap" = true := by first | (simp [plainName, overriddenIn]; done) | decide +kernel
theorem d4_0 : decode prog_12_method_4_code 0 = .ok (.aload_n 0, 1) := by decide +kernel
theorem d4_1 : decode prog_12_method_4_code 1 = .ok (.getfield 13, 3) := by decide +kernel
theorem d4_4 : decode prog_12_method_4_code 4 = .ok (.aload_n 0, 1) := by decide +kernel
theorem d4_5 : decode prog_12_method_4_code 5 = .ok (.getfield 7, 3) := by decide +kernel
theorem d4_8 : decode prog_12_method_4_code 8 = .ok (.arraylength, 1) := by decide +kernel
theorem d4_9 : decode prog_12_method_4_code 9 = .ok (.if_icmp .ne 20, 3) := by decide +kernel
theorem d4_29 : decode prog_12_method_4_code 29 = .ok (.aload_n 0, 1) := by decide +kernel
theorem d4_30 : decode prog_12_method_4_code 30 = .ok (.dup, 1) := by decide +kernel
theorem d4_31 : decode prog_12_method_4_code 31 = .ok (.getfield 13, 3) := by decide +kernel
theorem d4_34 : decode prog_12_method_4_code 34 = .ok (.dup_x1, 1) := by decide +kernel
theorem d4_35 : decode prog_12_method_4_code 35 = .ok (.iconst 1, 1) := by decide +kernel
theorem d4_36 : decode prog_12_method_4_code 36 = .ok (.iadd, 1) := by decide +kernel
theorem d4_37 : decode prog_12_method_4_code 37 = .ok (.putfield 13, 3) := by decide +kernel
theorem d4_40 : decode prog_12_method_4_code 40 = .ok (.istore_n 3, 1) := by decide +kernel
theorem d4_41 : decode prog_12_method_4_code 41 = .ok (.iload_n 3, 1) := by decide +kernel
theorem d4_42 : decode prog_12_method_4_code 42 = .ok (.ifCond .le 43, 3) := by decide +kernel
theorem d4_85 : decode prog_12_method_4_code 85 = .ok (.aload_n 0, 1) := by decide +kernel
theorem d4_86 : decode prog_12_method_4_code 86 = .ok (.getfield 7, 3) := by decide +kernel
theorem d4_89 : decode prog_12_method_4_code 89 = .ok (.iload_n 3, 1) := by decide +kernel
theorem d4_90 : decode prog_12_method_4_code 90 = .ok (.lload_n 1, 1) := by decide +kernel
theorem d4_91 : decode prog_12_method_4_code 91 = .ok (.lastore, 1) := by decide +kernel
theorem d4_92 : decode prog_12_method_4_code 92 = .ok (.return_, 1) := by decide +kernel
set_option maxRecDepth 65536 in
set_option maxHeartbeats 40000000 in
theorem add0 (l : Launch) (Z : State) (a0 : Array Value) (hw : ∀ d ∈ tables_1, d.before a0 Z = true) (a vv : Addr) (w' x0 x1 x2 x3 x4 : Int64) (h0 : Heap) (n0 : Nat) (M : LH Z h0 n0 a vv [x0, x1, x2, x3, x4, 0, 0, 0, 0, 0, 0, 0, 0, 0, 0, 0] (0 : Int32)) (hH : True) :
    Ctr l Z (⟨"com/example/hailstream/hailstream/LongHeap", "add", "(J)V"⟩ : MethodName) prog_12_method_4_code 4 none ({ frames := 0, cells := 0, slots := 0, locals := 0 } : Room) #[(.ref a), (.long w')] h0 n0 (fun v h => v = none ∧ ∃ y0 y1 y2 y3 y4 : Int64, LH Z h n0 a vv [y0, y1, y2, y3, y4, 0, 0, 0, 0, 0, 0, 0, 0, 0, 0, 0] (1 : Int32) ∧ (True) ∧ (∀ z, List.count z [y0] = List.count z [w']) ∧ Keep h0 h [a, vv]) := by
  refine ent (plainFor_of_name pn_com_example_hailstream_hailstream_LongHeap) (L0 := #[.val (.ref a), .val (.long w'), .second, .unset]) (fun m => by first | (simp [entryFrame, mkF, argsToLocals, Value.category]; done) | rfl) ?_
  intro p e s m below meth c T0 r0
  have r1 := r0.aloadN (pc' := 1) d4_0 rfl rfl rfl
  have r2 := r1.getF (host := "") (pc' := 4) d4_1 (Or.inl (hw _ (List.mem_of_getElem? (i := 21) rfl))) Via.refl M.2.2.1 rfl
  have r3 := r2.aloadN (pc' := 5) d4_4 rfl rfl rfl
  have r4 := r3.getF (host := "") (pc' := 8) d4_5 (Or.inl (hw _ (List.mem_of_getElem? (i := 14) rfl))) Via.refl M.2.1 rfl
  have r5 := r4.lenJ (pc' := 9) d4_8 M.2.2.2.1 rfl
  have r6 := r5.icT (pc' := 29) d4_9 (feq (by decide : ¬ (0 : Int32) = (16 : Int32))).2 (by decide) (by decide)
  have r7 := r6.aloadN (pc' := 30) d4_29 rfl rfl rfl
  have r8 := r7.dup (pc' := 31) d4_30 rfl rfl
  have r9 := r8.getF (host := "") (pc' := 34) d4_31 (Or.inl (hw _ (List.mem_of_getElem? (i := 21) rfl))) Via.refl M.2.2.1 rfl
  have r10 := r9.dupx1 (pc' := 35) d4_34 rfl rfl rfl
  have r11 := r10.iconst (pc' := 36) (1 : Int32) d4_35 rfl rfl
  have r12 := r11.iadd (pc' := 37) (u := (1 : Int32)) d4_36 (by decide) rfl
  obtain ⟨h13, W13, r13⟩ := r12.putF (host := "") (pc' := 40) d4_37 (Or.inl (hw _ (List.mem_of_getElem? (i := 21) rfl))) Via.refl M.2.2.1 M.1 (Or.inl (hw _ (List.mem_of_getElem? (i := 22) rfl))) (hw _ (List.mem_of_getElem? (i := 6) rfl)) (ty := .int) (by decide) rfl rfl M.2.2.2.2.2.1 rfl
  have M13 : LH Z h13 n0 a vv [x0, x1, x2, x3, x4, 0, 0, 0, 0, 0, 0, 0, 0, 0, 0, 0] (1 : Int32) := LH.putSize M W13 (Or.inl (hw _ (List.mem_of_getElem? (i := 15) rfl))) (Or.inl (hw _ (List.mem_of_getElem? (i := 22) rfl)))
  have K13 := (Keep.refl h0 [a, vv]).wr W13 (Or.inl (by simp))
  have r14 := r13.istoreN (pc' := 41) (L' := #[.val (.ref a), .val (.long w'), .second, .val (.int (0 : Int32))]) d4_40 rfl rfl
  have r15 := r14.iloadN (pc' := 42) d4_41 rfl rfl
  have r16 := r15.ifT (pc' := 85) d4_42 (flt (by decide : ¬ (0 : Int32) < (0 : Int32))).2.2.2 (by decide) (by decide)
  have r17 := r16.aloadN (pc' := 86) d4_85 rfl rfl rfl
  have r18 := r17.getF (host := "") (pc' := 89) d4_86 (Or.inl (hw _ (List.mem_of_getElem? (i := 14) rfl))) Via.refl M13.2.1 rfl
  have r19 := r18.iloadN (pc' := 90) d4_89 rfl rfl
  have r20 := r19.lloadN (pc' := 91) d4_90 rfl rfl
  obtain ⟨h21, W21, V21, r21⟩ := r20.sJ (pc' := 92) d4_91 M13.2.2.2.1 (by decide) (by decide) (Nat.le_of_ble_eq_true rfl) M13.2.2.2.2.2.2 rfl
  have M21 : LH Z h21 n0 a vv [w', x1, x2, x3, x4, 0, 0, 0, 0, 0, 0, 0, 0, 0, 0, 0] (1 : Int32) := LH.putElem M13 W21 V21
  have K21 := K13.wr W21 (Or.inl (by simp))
  exact ⟨_, _, r21.retV d4_92 rfl (by decide) (by decide), rfl, w', x1, x2, x3, x4, M21, trivial, fun z => by simp only [List.count_cons, List.count_nil] <;> omega, K21⟩
theorem d4_45 : decode prog_12_method_4_code 45 = .ok (.aload_n 0, 1) := by decide +kernel
theorem d4_46 : decode prog_12_method_4_code 46 = .ok (.getfield 7, 3) := by decide +kernel
theorem d4_49 : decode prog_12_method_4_code 49 = .ok (.iload_n 3, 1) := by decide +kernel
theorem d4_50 : decode prog_12_method_4_code 50 = .ok (.iconst 1, 1) := by decide +kernel
theorem d4_51 : decode prog_12_method_4_code 51 = .ok (.isub, 1) := by decide +kernel
theorem d4_52 : decode prog_12_method_4_code 52 = .ok (.iconst 2, 1) := by decide +kernel
theorem d4_53 : decode prog_12_method_4_code 53 = .ok (.idiv, 1) := by decide +kernel
theorem d4_54 : decode prog_12_method_4_code 54 = .ok (.laload, 1) := by decide +kernel
theorem d4_55 : decode prog_12_method_4_code 55 = .ok (.lload_n 1, 1) := by decide +kernel
theorem d4_56 : decode prog_12_method_4_code 56 = .ok (.lcmp, 1) := by decide +kernel
theorem d4_57 : decode prog_12_method_4_code 57 = .ok (.ifCond .le 28, 3) := by decide +kernel
theorem d4_60 : decode prog_12_method_4_code 60 = .ok (.aload_n 0, 1) := by decide +kernel
theorem d4_61 : decode prog_12_method_4_code 61 = .ok (.getfield 7, 3) := by decide +kernel
theorem d4_64 : decode prog_12_method_4_code 64 = .ok (.iload_n 3, 1) := by decide +kernel
theorem d4_65 : decode prog_12_method_4_code 65 = .ok (.aload_n 0, 1) := by decide +kernel
theorem d4_66 : decode prog_12_method_4_code 66 = .ok (.getfield 7, 3) := by decide +kernel
theorem d4_69 : decode prog_12_method_4_code 69 = .ok (.iload_n 3, 1) := by decide +kernel
theorem d4_70 : decode prog_12_method_4_code 70 = .ok (.iconst 1, 1) := by decide +kernel
theorem d4_71 : decode prog_12_method_4_code 71 = .ok (.isub, 1) := by decide +kernel
theorem d4_72 : decode prog_12_method_4_code 72 = .ok (.iconst 2, 1) := by decide +kernel
theorem d4_73 : decode prog_12_method_4_code 73 = .ok (.idiv, 1) := by decide +kernel
theorem d4_74 : decode prog_12_method_4_code 74 = .ok (.laload, 1) := by decide +kernel
theorem d4_75 : decode prog_12_method_4_code 75 = .ok (.lastore, 1) := by decide +kernel
theorem d4_76 : decode prog_12_method_4_code 76 = .ok (.iload_n 3, 1) := by decide +kernel
theorem d4_77 : decode prog_12_method_4_code 77 = .ok (.iconst 1, 1) := by decide +kernel
theorem d4_78 : decode prog_12_method_4_code 78 = .ok (.isub, 1) := by decide +kernel
theorem d4_79 : decode prog_12_method_4_code 79 = .ok (.iconst 2, 1) := by decide +kernel
theorem d4_80 : decode prog_12_method_4_code 80 = .ok (.idiv, 1) := by decide +kernel
theorem d4_81 : decode prog_12_method_4_code 81 = .ok (.istore_n 3, 1) := by decide +kernel
theorem d4_82 : decode prog_12_method_4_code 82 = .ok (.goto (-41), 3) := by decide +kernel
set_option maxRecDepth 65536 in
set_option maxHeartbeats 40000000 in
theorem add1 (l : Launch) (Z : State) (a0 : Array Value) (hw : ∀ d ∈ tables_1, d.before a0 Z = true) (a vv : Addr) (w' x0 x1 x2 x3 x4 : Int64) (h0 : Heap) (n0 : Nat) (M : LH Z h0 n0 a vv [x0, x1, x2, x3, x4, 0, 0, 0, 0, 0, 0, 0, 0, 0, 0, 0] (1 : Int32)) (hH : True) :
    Ctr l Z (⟨"com/example/hailstream/hailstream/LongHeap", "add", "(J)V"⟩ : MethodName) prog_12_method_4_code 4 none ({ frames := 0, cells := 0, slots := 0, locals := 0 } : Room) #[(.ref a), (.long w')] h0 n0 (fun v h => v = none ∧ ∃ y0 y1 y2 y3 y4 : Int64, LH Z h n0 a vv [y0, y1, y2, y3, y4, 0, 0, 0, 0, 0, 0, 0, 0, 0, 0, 0] (2 : Int32) ∧ (y0.toInt ≤ y1.toInt) ∧ (∀ z, List.count z [y0, y1] = List.count z [w', x0]) ∧ Keep h0 h [a, vv]) := by
  refine ent (plainFor_of_name pn_com_example_hailstream_hailstream_LongHeap) (L0 := #[.val (.ref a), .val (.long w'), .second, .unset]) (fun m => by first | (simp [entryFrame, mkF, argsToLocals, Value.category]; done) | rfl) ?_
  intro p e s m below meth c T0 r0
  have r22 := r0.aloadN (pc' := 1) d4_0 rfl rfl rfl
  have r23 := r22.getF (host := "") (pc' := 4) d4_1 (Or.inl (hw _ (List.mem_of_getElem? (i := 21) rfl))) Via.refl M.2.2.1 rfl
  have r24 := r23.aloadN (pc' := 5) d4_4 rfl rfl rfl
  have r25 := r24.getF (host := "") (pc' := 8) d4_5 (Or.inl (hw _ (List.mem_of_getElem? (i := 14) rfl))) Via.refl M.2.1 rfl
  have r26 := r25.lenJ (pc' := 9) d4_8 M.2.2.2.1 rfl
  have r27 := r26.icT (pc' := 29) d4_9 (feq (by decide : ¬ (1 : Int32) = (16 : Int32))).2 (by decide) (by decide)
  have r28 := r27.aloadN (pc' := 30) d4_29 rfl rfl rfl
  have r29 := r28.dup (pc' := 31) d4_30 rfl rfl
  have r30 := r29.getF (host := "") (pc' := 34) d4_31 (Or.inl (hw _ (List.mem_of_getElem? (i := 21) rfl))) Via.refl M.2.2.1 rfl
  have r31 := r30.dupx1 (pc' := 35) d4_34 rfl rfl rfl
  have r32 := r31.iconst (pc' := 36) (1 : Int32) d4_35 rfl rfl
  have r33 := r32.iadd (pc' := 37) (u := (2 : Int32)) d4_36 (by decide) rfl
  obtain ⟨h34, W34, r34⟩ := r33.putF (host := "") (pc' := 40) d4_37 (Or.inl (hw _ (List.mem_of_getElem? (i := 21) rfl))) Via.refl M.2.2.1 M.1 (Or.inl (hw _ (List.mem_of_getElem? (i := 22) rfl))) (hw _ (List.mem_of_getElem? (i := 6) rfl)) (ty := .int) (by decide) rfl rfl M.2.2.2.2.2.1 rfl
  have M34 : LH Z h34 n0 a vv [x0, x1, x2, x3, x4, 0, 0, 0, 0, 0, 0, 0, 0, 0, 0, 0] (2 : Int32) := LH.putSize M W34 (Or.inl (hw _ (List.mem_of_getElem? (i := 15) rfl))) (Or.inl (hw _ (List.mem_of_getElem? (i := 22) rfl)))
  have K34 := (Keep.refl h0 [a, vv]).wr W34 (Or.inl (by simp))
  have r35 := r34.istoreN (pc' := 41) (L' := #[.val (.ref a), .val (.long w'), .second, .val (.int (1 : Int32))]) d4_40 rfl rfl
  have r36 := r35.iloadN (pc' := 42) d4_41 rfl rfl
  have r37 := r36.ifF (pc' := 45) d4_42 (tlt (by decide : (0 : Int32) < (1 : Int32))).2.2.2 rfl
  have r38 := r37.aloadN (pc' := 46) d4_45 rfl rfl rfl
  have r39 := r38.getF (host := "") (pc' := 49) d4_46 (Or.inl (hw _ (List.mem_of_getElem? (i := 14) rfl))) Via.refl M34.2.1 rfl
  have r40 := r39.iloadN (pc' := 50) d4_49 rfl rfl
  have r41 := r40.iconst (pc' := 51) (1 : Int32) d4_50 rfl rfl
  have r42 := r41.isub (pc' := 52) (u := (0 : Int32)) d4_51 (by decide) rfl
  have r43 := r42.iconst (pc' := 53) (2 : Int32) d4_52 rfl rfl
  have r44 := r43.idiv (pc' := 54) (u := (0 : Int32)) d4_53 (by decide) (by decide) rfl
  have r45 := Rch.gJ (pc' := 55) x0 r44 d4_54 M34.2.2.2.1 (by decide) (by decide) rfl rfl
  have r46 := r45.lloadN (pc' := 56) d4_55 rfl rfl
  have r47 := r46.lcmp (pc' := 57) d4_56 rfl rfl
  by_cases hc48 : (0 : Int32) < (lcmpW x0 w')
  · -- yes
    have r49 := r47.ifF (pc' := 60) d4_57 (tlt hc48).2.2.2 rfl
    have r50 := r49.aloadN (pc' := 61) d4_60 rfl rfl rfl
    have r51 := r50.getF (host := "") (pc' := 64) d4_61 (Or.inl (hw _ (List.mem_of_getElem? (i := 14) rfl))) Via.refl M34.2.1 rfl
    have r52 := r51.iloadN (pc' := 65) d4_64 rfl rfl
    have r53 := r52.aloadN (pc' := 66) d4_65 rfl rfl rfl
    have r54 := r53.getF (host := "") (pc' := 69) d4_66 (Or.inl (hw _ (List.mem_of_getElem? (i := 14) rfl))) Via.refl M34.2.1 rfl
    have r55 := r54.iloadN (pc' := 70) d4_69 rfl rfl
    have r56 := r55.iconst (pc' := 71) (1 : Int32) d4_70 rfl rfl
    have r57 := r56.isub (pc' := 72) (u := (0 : Int32)) d4_71 (by decide) rfl
    have r58 := r57.iconst (pc' := 73) (2 : Int32) d4_72 rfl rfl
    have r59 := r58.idiv (pc' := 74) (u := (0 : Int32)) d4_73 (by decide) (by decide) rfl
    have r60 := Rch.gJ (pc' := 75) x0 r59 d4_74 M34.2.2.2.1 (by decide) (by decide) rfl rfl
    obtain ⟨h61, W61, V61, r61⟩ := r60.sJ (pc' := 76) d4_75 M34.2.2.2.1 (by decide) (by decide) (Nat.le_of_ble_eq_true rfl) M34.2.2.2.2.2.2 rfl
    have M61 : LH Z h61 n0 a vv [x0, x0, x2, x3, x4, 0, 0, 0, 0, 0, 0, 0, 0, 0, 0, 0] (2 : Int32) := LH.putElem M34 W61 V61
    have K61 := K34.wr W61 (Or.inl (by simp))
    have r62 := r61.iloadN (pc' := 77) d4_76 rfl rfl
    have r63 := r62.iconst (pc' := 78) (1 : Int32) d4_77 rfl rfl
    have r64 := r63.isub (pc' := 79) (u := (0 : Int32)) d4_78 (by decide) rfl
    have r65 := r64.iconst (pc' := 80) (2 : Int32) d4_79 rfl rfl
    have r66 := r65.idiv (pc' := 81) (u := (0 : Int32)) d4_80 (by decide) (by decide) rfl
    have r67 := r66.istoreN (pc' := 82) (L' := #[.val (.ref a), .val (.long w'), .second, .val (.int (0 : Int32))]) d4_81 rfl rfl
    have r68 := r67.goto (pc' := 41) d4_82 (by decide) (by decide)
    have r69 := r68.iloadN (pc' := 42) d4_41 rfl rfl
    have r70 := r69.ifT (pc' := 85) d4_42 (flt (by decide : ¬ (0 : Int32) < (0 : Int32))).2.2.2 (by decide) (by decide)
    have r71 := r70.aloadN (pc' := 86) d4_85 rfl rfl rfl
    have r72 := r71.getF (host := "") (pc' := 89) d4_86 (Or.inl (hw _ (List.mem_of_getElem? (i := 14) rfl))) Via.refl M61.2.1 rfl
    have r73 := r72.iloadN (pc' := 90) d4_89 rfl rfl
    have r74 := r73.lloadN (pc' := 91) d4_90 rfl rfl
    obtain ⟨h75, W75, V75, r75⟩ := r74.sJ (pc' := 92) d4_91 M61.2.2.2.1 (by decide) (by decide) (Nat.le_of_ble_eq_true rfl) M61.2.2.2.2.2.2 rfl
    have M75 : LH Z h75 n0 a vv [w', x0, x2, x3, x4, 0, 0, 0, 0, 0, 0, 0, 0, 0, 0, 0] (2 : Int32) := LH.putElem M61 W75 V75
    have K75 := K61.wr W75 (Or.inl (by simp))
    simp only [lw_lt, lw_gt, Int64.lt_iff_toInt_lt] at hc48
    exact ⟨_, _, r75.retV d4_92 rfl (by decide) (by decide), rfl, w', x0, x2, x3, x4, M75, (by omega), fun z => by simp only [List.count_cons, List.count_nil] <;> omega, K75⟩
  · -- not no
    have r76 := r47.ifT (pc' := 85) d4_57 (flt hc48).2.2.2 (by decide) (by decide)
    have r77 := r76.aloadN (pc' := 86) d4_85 rfl rfl rfl
    have r78 := r77.getF (host := "") (pc' := 89) d4_86 (Or.inl (hw _ (List.mem_of_getElem? (i := 14) rfl))) Via.refl M34.2.1 rfl
    have r79 := r78.iloadN (pc' := 90) d4_89 rfl rfl
    have r80 := r79.lloadN (pc' := 91) d4_90 rfl rfl
    obtain ⟨h81, W81, V81, r81⟩ := r80.sJ (pc' := 92) d4_91 M34.2.2.2.1 (by decide) (by decide) (Nat.le_of_ble_eq_true rfl) M34.2.2.2.2.2.2 rfl
    have M81 : LH Z h81 n0 a vv [x0, w', x2, x3, x4, 0, 0, 0, 0, 0, 0, 0, 0, 0, 0, 0] (2 : Int32) := LH.putElem M34 W81 V81
    have K81 := K34.wr W81 (Or.inl (by simp))
    simp only [lw_lt, lw_gt, Int64.lt_iff_toInt_lt] at hc48
    exact ⟨_, _, r81.retV d4_92 rfl (by decide) (by decide), rfl, x0, w', x2, x3, x4, M81, (by omega), fun z => by simp only [List.count_cons, List.count_nil] <;> omega, K81⟩
set_option maxRecDepth 65536 in
set_option maxHeartbeats 40000000 in
theorem add2 (l : Launch) (Z : State) (a0 : Array Value) (hw : ∀ d ∈ tables_1, d.before a0 Z = true) (a vv : Addr) (w' x0 x1 x2 x3 x4 : Int64) (h0 : Heap) (n0 : Nat) (M : LH Z h0 n0 a vv [x0, x1, x2, x3, x4, 0, 0, 0, 0, 0, 0, 0, 0, 0, 0, 0] (2 : Int32)) (hH : x0.toInt ≤ x1.toInt) :
    Ctr l Z (⟨"com/example/hailstream/hailstream/LongHeap", "add", "(J)V"⟩ : MethodName) prog_12_method_4_code 4 none ({ frames := 0, cells := 0, slots := 0, locals := 0 } : Room) #[(.ref a), (.long w')] h0 n0 (fun v h => v = none ∧ ∃ y0 y1 y2 y3 y4 : Int64, LH Z h n0 a vv [y0, y1, y2, y3, y4, 0, 0, 0, 0, 0, 0, 0, 0, 0, 0, 0] (3 : Int32) ∧ (y0.toInt ≤ y1.toInt ∧ y0.toInt ≤ y2.toInt) ∧ (∀ z, List.count z [y0, y1, y2] = List.count z [w', x0, x1]) ∧ Keep h0 h [a, vv]) := by
  refine ent (plainFor_of_name pn_com_example_hailstream_hailstream_LongHeap) (L0 := #[.val (.ref a), .val (.long w'), .second, .unset]) (fun m => by first | (simp [entryFrame, mkF, argsToLocals, Value.category]; done) | rfl) ?_
  intro p e s m below meth c T0 r0
  have r82 := r0.aloadN (pc' := 1) d4_0 rfl rfl rfl
  have r83 := r82.getF (host := "") (pc' := 4) d4_1 (Or.inl (hw _ (List.mem_of_getElem? (i := 21) rfl))) Via.refl M.2.2.1 rfl
  have r84 := r83.aloadN (pc' := 5) d4_4 rfl rfl rfl
  have r85 := r84.getF (host := "") (pc' := 8) d4_5 (Or.inl (hw _ (List.mem_of_getElem? (i := 14) rfl))) Via.refl M.2.1 rfl
  have r86 := r85.lenJ (pc' := 9) d4_8 M.2.2.2.1 rfl
  have r87 := r86.icT (pc' := 29) d4_9 (feq (by decide : ¬ (2 : Int32) = (16 : Int32))).2 (by decide) (by decide)
  have r88 := r87.aloadN (pc' := 30) d4_29 rfl rfl rfl
  have r89 := r88.dup (pc' := 31) d4_30 rfl rfl
  have r90 := r89.getF (host := "") (pc' := 34) d4_31 (Or.inl (hw _ (List.mem_of_getElem? (i := 21) rfl))) Via.refl M.2.2.1 rfl
  have r91 := r90.dupx1 (pc' := 35) d4_34 rfl rfl rfl
  have r92 := r91.iconst (pc' := 36) (1 : Int32) d4_35 rfl rfl
  have r93 := r92.iadd (pc' := 37) (u := (3 : Int32)) d4_36 (by decide) rfl
  obtain ⟨h94, W94, r94⟩ := r93.putF (host := "") (pc' := 40) d4_37 (Or.inl (hw _ (List.mem_of_getElem? (i := 21) rfl))) Via.refl M.2.2.1 M.1 (Or.inl (hw _ (List.mem_of_getElem? (i := 22) rfl))) (hw _ (List.mem_of_getElem? (i := 6) rfl)) (ty := .int) (by decide) rfl rfl M.2.2.2.2.2.1 rfl
  have M94 : LH Z h94 n0 a vv [x0, x1, x2, x3, x4, 0, 0, 0, 0, 0, 0, 0, 0, 0, 0, 0] (3 : Int32) := LH.putSize M W94 (Or.inl (hw _ (List.mem_of_getElem? (i := 15) rfl))) (Or.inl (hw _ (List.mem_of_getElem? (i := 22) rfl)))
  have K94 := (Keep.refl h0 [a, vv]).wr W94 (Or.inl (by simp))
  have r95 := r94.istoreN (pc' := 41) (L' := #[.val (.ref a), .val (.long w'), .second, .val (.int (2 : Int32))]) d4_40 rfl rfl
  have r96 := r95.iloadN (pc' := 42) d4_41 rfl rfl
  have r97 := r96.ifF (pc' := 45) d4_42 (tlt (by decide : (0 : Int32) < (2 : Int32))).2.2.2 rfl
  have r98 := r97.aloadN (pc' := 46) d4_45 rfl rfl rfl
  have r99 := r98.getF (host := "") (pc' := 49) d4_46 (Or.inl (hw _ (List.mem_of_getElem? (i := 14) rfl))) Via.refl M94.2.1 rfl
  have r100 := r99.iloadN (pc' := 50) d4_49 rfl rfl
  have r101 := r100.iconst (pc' := 51) (1 : Int32) d4_50 rfl rfl
  have r102 := r101.isub (pc' := 52) (u := (1 : Int32)) d4_51 (by decide) rfl
  have r103 := r102.iconst (pc' := 53) (2 : Int32) d4_52 rfl rfl
  have r104 := r103.idiv (pc' := 54) (u := (0 : Int32)) d4_53 (by decide) (by decide) rfl
  have r105 := Rch.gJ (pc' := 55) x0 r104 d4_54 M94.2.2.2.1 (by decide) (by decide) rfl rfl
  have r106 := r105.lloadN (pc' := 56) d4_55 rfl rfl
  have r107 := r106.lcmp (pc' := 57) d4_56 rfl rfl
  by_cases hc108 : (0 : Int32) < (lcmpW x0 w')
  · -- yes
    have r109 := r107.ifF (pc' := 60) d4_57 (tlt hc108).2.2.2 rfl
    have r110 := r109.aloadN (pc' := 61) d4_60 rfl rfl rfl
    have r111 := r110.getF (host := "") (pc' := 64) d4_61 (Or.inl (hw _ (List.mem_of_getElem? (i := 14) rfl))) Via.refl M94.2.1 rfl
    have r112 := r111.iloadN (pc' := 65) d4_64 rfl rfl
    have r113 := r112.aloadN (pc' := 66) d4_65 rfl rfl rfl
    have r114 := r113.getF (host := "") (pc' := 69) d4_66 (Or.inl (hw _ (List.mem_of_getElem? (i := 14) rfl))) Via.refl M94.2.1 rfl
    have r115 := r114.iloadN (pc' := 70) d4_69 rfl rfl
    have r116 := r115.iconst (pc' := 71) (1 : Int32) d4_70 rfl rfl
    have r117 := r116.isub (pc' := 72) (u := (1 : Int32)) d4_71 (by decide) rfl
    have r118 := r117.iconst (pc' := 73) (2 : Int32) d4_72 rfl rfl
    have r119 := r118.idiv (pc' := 74) (u := (0 : Int32)) d4_73 (by decide) (by decide) rfl
    have r120 := Rch.gJ (pc' := 75) x0 r119 d4_74 M94.2.2.2.1 (by decide) (by decide) rfl rfl
    obtain ⟨h121, W121, V121, r121⟩ := r120.sJ (pc' := 76) d4_75 M94.2.2.2.1 (by decide) (by decide) (Nat.le_of_ble_eq_true rfl) M94.2.2.2.2.2.2 rfl
    have M121 : LH Z h121 n0 a vv [x0, x1, x0, x3, x4, 0, 0, 0, 0, 0, 0, 0, 0, 0, 0, 0] (3 : Int32) := LH.putElem M94 W121 V121
    have K121 := K94.wr W121 (Or.inl (by simp))
    have r122 := r121.iloadN (pc' := 77) d4_76 rfl rfl
    have r123 := r122.iconst (pc' := 78) (1 : Int32) d4_77 rfl rfl
    have r124 := r123.isub (pc' := 79) (u := (1 : Int32)) d4_78 (by decide) rfl
    have r125 := r124.iconst (pc' := 80) (2 : Int32) d4_79 rfl rfl
    have r126 := r125.idiv (pc' := 81) (u := (0 : Int32)) d4_80 (by decide) (by decide) rfl
    have r127 := r126.istoreN (pc' := 82) (L' := #[.val (.ref a), .val (.long w'), .second, .val (.int (0 : Int32))]) d4_81 rfl rfl
    have r128 := r127.goto (pc' := 41) d4_82 (by decide) (by decide)
    have r129 := r128.iloadN (pc' := 42) d4_41 rfl rfl
    have r130 := r129.ifT (pc' := 85) d4_42 (flt (by decide : ¬ (0 : Int32) < (0 : Int32))).2.2.2 (by decide) (by decide)
    have r131 := r130.aloadN (pc' := 86) d4_85 rfl rfl rfl
    have r132 := r131.getF (host := "") (pc' := 89) d4_86 (Or.inl (hw _ (List.mem_of_getElem? (i := 14) rfl))) Via.refl M121.2.1 rfl
    have r133 := r132.iloadN (pc' := 90) d4_89 rfl rfl
    have r134 := r133.lloadN (pc' := 91) d4_90 rfl rfl
    obtain ⟨h135, W135, V135, r135⟩ := r134.sJ (pc' := 92) d4_91 M121.2.2.2.1 (by decide) (by decide) (Nat.le_of_ble_eq_true rfl) M121.2.2.2.2.2.2 rfl
    have M135 : LH Z h135 n0 a vv [w', x1, x0, x3, x4, 0, 0, 0, 0, 0, 0, 0, 0, 0, 0, 0] (3 : Int32) := LH.putElem M121 W135 V135
    have K135 := K121.wr W135 (Or.inl (by simp))
    simp only [lw_lt, lw_gt, Int64.lt_iff_toInt_lt] at hc108
    exact ⟨_, _, r135.retV d4_92 rfl (by decide) (by decide), rfl, w', x1, x0, x3, x4, M135, ⟨by omega, by omega⟩, fun z => by simp only [List.count_cons, List.count_nil] <;> omega, K135⟩
  · -- not no
    have r136 := r107.ifT (pc' := 85) d4_57 (flt hc108).2.2.2 (by decide) (by decide)
    have r137 := r136.aloadN (pc' := 86) d4_85 rfl rfl rfl
    have r138 := r137.getF (host := "") (pc' := 89) d4_86 (Or.inl (hw _ (List.mem_of_getElem? (i := 14) rfl))) Via.refl M94.2.1 rfl
    have r139 := r138.iloadN (pc' := 90) d4_89 rfl rfl
    have r140 := r139.lloadN (pc' := 91) d4_90 rfl rfl
    obtain ⟨h141, W141, V141, r141⟩ := r140.sJ (pc' := 92) d4_91 M94.2.2.2.1 (by decide) (by decide) (Nat.le_of_ble_eq_true rfl) M94.2.2.2.2.2.2 rfl
    have M141 : LH Z h141 n0 a vv [x0, x1, w', x3, x4, 0, 0, 0, 0, 0, 0, 0, 0, 0, 0, 0] (3 : Int32) := LH.putElem M94 W141 V141
    have K141 := K94.wr W141 (Or.inl (by simp))
    simp only [lw_lt, lw_gt, Int64.lt_iff_toInt_lt] at hc108
    exact ⟨_, _, r141.retV d4_92 rfl (by decide) (by decide), rfl, x0, x1, w', x3, x4, M141, ⟨by omega, by omega⟩, fun z => by simp only [List.count_cons, List.count_nil] <;> omega, K141⟩
set_option maxRecDepth 65536 in
set_option maxHeartbeats 40000000 in
theorem add3 (l : Launch) (Z : State) (a0 : Array Value) (hw : ∀ d ∈ tables_1, d.before a0 Z = true) (a vv : Addr) (w' x0 x1 x2 x3 x4 : Int64) (h0 : Heap) (n0 : Nat) (M : LH Z h0 n0 a vv [x0, x1, x2, x3, x4, 0, 0, 0, 0, 0, 0, 0, 0, 0, 0, 0] (3 : Int32)) (hH : x0.toInt ≤ x1.toInt ∧ x0.toInt ≤ x2.toInt) :
    Ctr l Z (⟨"com/example/hailstream/hailstream/LongHeap", "add", "(J)V"⟩ : MethodName) prog_12_method_4_code 4 none ({ frames := 0, cells := 0, slots := 0, locals := 0 } : Room) #[(.ref a), (.long w')] h0 n0 (fun v h => v = none ∧ ∃ y0 y1 y2 y3 y4 : Int64, LH Z h n0 a vv [y0, y1, y2, y3, y4, 0, 0, 0, 0, 0, 0, 0, 0, 0, 0, 0] (4 : Int32) ∧ (y0.toInt ≤ y1.toInt ∧ y0.toInt ≤ y2.toInt ∧ y1.toInt ≤ y3.toInt) ∧ (∀ z, List.count z [y0, y1, y2, y3] = List.count z [w', x0, x1, x2]) ∧ Keep h0 h [a, vv]) := by
  refine ent (plainFor_of_name pn_com_example_hailstream_hailstream_LongHeap) (L0 := #[.val (.ref a), .val (.long w'), .second, .unset]) (fun m => by first | (simp [entryFrame, mkF, argsToLocals, Value.category]; done) | rfl) ?_
  intro p e s m below meth c T0 r0
  have r142 := r0.aloadN (pc' := 1) d4_0 rfl rfl rfl
  have r143 := r142.getF (host := "") (pc' := 4) d4_1 (Or.inl (hw _ (List.mem_of_getElem? (i := 21) rfl))) Via.refl M.2.2.1 rfl
  have r144 := r143.aloadN (pc' := 5) d4_4 rfl rfl rfl
  have r145 := r144.getF (host := "") (pc' := 8) d4_5 (Or.inl (hw _ (List.mem_of_getElem? (i := 14) rfl))) Via.refl M.2.1 rfl
  have r146 := r145.lenJ (pc' := 9) d4_8 M.2.2.2.1 rfl
  have r147 := r146.icT (pc' := 29) d4_9 (feq (by decide : ¬ (3 : Int32) = (16 : Int32))).2 (by decide) (by decide)
  have r148 := r147.aloadN (pc' := 30) d4_29 rfl rfl rfl
  have r149 := r148.dup (pc' := 31) d4_30 rfl rfl
  have r150 := r149.getF (host := "") (pc' := 34) d4_31 (Or.inl (hw _ (List.mem_of_getElem? (i := 21) rfl))) Via.refl M.2.2.1 rfl
  have r151 := r150.dupx1 (pc' := 35) d4_34 rfl rfl rfl
  have r152 := r151.iconst (pc' := 36) (1 : Int32) d4_35 rfl rfl
  have r153 := r152.iadd (pc' := 37) (u := (4 : Int32)) d4_36 (by decide) rfl
  obtain ⟨h154, W154, r154⟩ := r153.putF (host := "") (pc' := 40) d4_37 (Or.inl (hw _ (List.mem_of_getElem? (i := 21) rfl))) Via.refl M.2.2.1 M.1 (Or.inl (hw _ (List.mem_of_getElem? (i := 22) rfl))) (hw _ (List.mem_of_getElem? (i := 6) rfl)) (ty := .int) (by decide) rfl rfl M.2.2.2.2.2.1 rfl
  have M154 : LH Z h154 n0 a vv [x0, x1, x2, x3, x4, 0, 0, 0, 0, 0, 0, 0, 0, 0, 0, 0] (4 : Int32) := LH.putSize M W154 (Or.inl (hw _ (List.mem_of_getElem? (i := 15) rfl))) (Or.inl (hw _ (List.mem_of_getElem? (i := 22) rfl)))
  have K154 := (Keep.refl h0 [a, vv]).wr W154 (Or.inl (by simp))
  have r155 := r154.istoreN (pc' := 41) (L' := #[.val (.ref a), .val (.long w'), .second, .val (.int (3 : Int32))]) d4_40 rfl rfl
  have r156 := r155.iloadN (pc' := 42) d4_41 rfl rfl
  have r157 := r156.ifF (pc' := 45) d4_42 (tlt (by decide : (0 : Int32) < (3 : Int32))).2.2.2 rfl
  have r158 := r157.aloadN (pc' := 46) d4_45 rfl rfl rfl
  have r159 := r158.getF (host := "") (pc' := 49) d4_46 (Or.inl (hw _ (List.mem_of_getElem? (i := 14) rfl))) Via.refl M154.2.1 rfl
  have r160 := r159.iloadN (pc' := 50) d4_49 rfl rfl
  have r161 := r160.iconst (pc' := 51) (1 : Int32) d4_50 rfl rfl
  have r162 := r161.isub (pc' := 52) (u := (2 : Int32)) d4_51 (by decide) rfl
  have r163 := r162.iconst (pc' := 53) (2 : Int32) d4_52 rfl rfl
  have r164 := r163.idiv (pc' := 54) (u := (1 : Int32)) d4_53 (by decide) (by decide) rfl
  have r165 := Rch.gJ (pc' := 55) x1 r164 d4_54 M154.2.2.2.1 (by decide) (by decide) rfl rfl
  have r166 := r165.lloadN (pc' := 56) d4_55 rfl rfl
  have r167 := r166.lcmp (pc' := 57) d4_56 rfl rfl
  by_cases hc168 : (0 : Int32) < (lcmpW x1 w')
  · -- yes
    have r169 := r167.ifF (pc' := 60) d4_57 (tlt hc168).2.2.2 rfl
    have r170 := r169.aloadN (pc' := 61) d4_60 rfl rfl rfl
    have r171 := r170.getF (host := "") (pc' := 64) d4_61 (Or.inl (hw _ (List.mem_of_getElem? (i := 14) rfl))) Via.refl M154.2.1 rfl
    have r172 := r171.iloadN (pc' := 65) d4_64 rfl rfl
    have r173 := r172.aloadN (pc' := 66) d4_65 rfl rfl rfl
    have r174 := r173.getF (host := "") (pc' := 69) d4_66 (Or.inl (hw _ (List.mem_of_getElem? (i := 14) rfl))) Via.refl M154.2.1 rfl
    have r175 := r174.iloadN (pc' := 70) d4_69 rfl rfl
    have r176 := r175.iconst (pc' := 71) (1 : Int32) d4_70 rfl rfl
    have r177 := r176.isub (pc' := 72) (u := (2 : Int32)) d4_71 (by decide) rfl
    have r178 := r177.iconst (pc' := 73) (2 : Int32) d4_72 rfl rfl
    have r179 := r178.idiv (pc' := 74) (u := (1 : Int32)) d4_73 (by decide) (by decide) rfl
    have r180 := Rch.gJ (pc' := 75) x1 r179 d4_74 M154.2.2.2.1 (by decide) (by decide) rfl rfl
    obtain ⟨h181, W181, V181, r181⟩ := r180.sJ (pc' := 76) d4_75 M154.2.2.2.1 (by decide) (by decide) (Nat.le_of_ble_eq_true rfl) M154.2.2.2.2.2.2 rfl
    have M181 : LH Z h181 n0 a vv [x0, x1, x2, x1, x4, 0, 0, 0, 0, 0, 0, 0, 0, 0, 0, 0] (4 : Int32) := LH.putElem M154 W181 V181
    have K181 := K154.wr W181 (Or.inl (by simp))
    have r182 := r181.iloadN (pc' := 77) d4_76 rfl rfl
    have r183 := r182.iconst (pc' := 78) (1 : Int32) d4_77 rfl rfl
    have r184 := r183.isub (pc' := 79) (u := (2 : Int32)) d4_78 (by decide) rfl
    have r185 := r184.iconst (pc' := 80) (2 : Int32) d4_79 rfl rfl
    have r186 := r185.idiv (pc' := 81) (u := (1 : Int32)) d4_80 (by decide) (by decide) rfl
    have r187 := r186.istoreN (pc' := 82) (L' := #[.val (.ref a), .val (.long w'), .second, .val (.int (1 : Int32))]) d4_81 rfl rfl
    have r188 := r187.goto (pc' := 41) d4_82 (by decide) (by decide)
    have r189 := r188.iloadN (pc' := 42) d4_41 rfl rfl
    have r190 := r189.ifF (pc' := 45) d4_42 (tlt (by decide : (0 : Int32) < (1 : Int32))).2.2.2 rfl
    have r191 := r190.aloadN (pc' := 46) d4_45 rfl rfl rfl
    have r192 := r191.getF (host := "") (pc' := 49) d4_46 (Or.inl (hw _ (List.mem_of_getElem? (i := 14) rfl))) Via.refl M181.2.1 rfl
    have r193 := r192.iloadN (pc' := 50) d4_49 rfl rfl
    have r194 := r193.iconst (pc' := 51) (1 : Int32) d4_50 rfl rfl
    have r195 := r194.isub (pc' := 52) (u := (0 : Int32)) d4_51 (by decide) rfl
    have r196 := r195.iconst (pc' := 53) (2 : Int32) d4_52 rfl rfl
    have r197 := r196.idiv (pc' := 54) (u := (0 : Int32)) d4_53 (by decide) (by decide) rfl
    have r198 := Rch.gJ (pc' := 55) x0 r197 d4_54 M181.2.2.2.1 (by decide) (by decide) rfl rfl
    have r199 := r198.lloadN (pc' := 56) d4_55 rfl rfl
    have r200 := r199.lcmp (pc' := 57) d4_56 rfl rfl
    by_cases hc201 : (0 : Int32) < (lcmpW x0 w')
    · -- yes
      have r202 := r200.ifF (pc' := 60) d4_57 (tlt hc201).2.2.2 rfl
      have r203 := r202.aloadN (pc' := 61) d4_60 rfl rfl rfl
      have r204 := r203.getF (host := "") (pc' := 64) d4_61 (Or.inl (hw _ (List.mem_of_getElem? (i := 14) rfl))) Via.refl M181.2.1 rfl
      have r205 := r204.iloadN (pc' := 65) d4_64 rfl rfl
      have r206 := r205.aloadN (pc' := 66) d4_65 rfl rfl rfl
      have r207 := r206.getF (host := "") (pc' := 69) d4_66 (Or.inl (hw _ (List.mem_of_getElem? (i := 14) rfl))) Via.refl M181.2.1 rfl
      have r208 := r207.iloadN (pc' := 70) d4_69 rfl rfl
      have r209 := r208.iconst (pc' := 71) (1 : Int32) d4_70 rfl rfl
      have r210 := r209.isub (pc' := 72) (u := (0 : Int32)) d4_71 (by decide) rfl
      have r211 := r210.iconst (pc' := 73) (2 : Int32) d4_72 rfl rfl
      have r212 := r211.idiv (pc' := 74) (u := (0 : Int32)) d4_73 (by decide) (by decide) rfl
      have r213 := Rch.gJ (pc' := 75) x0 r212 d4_74 M181.2.2.2.1 (by decide) (by decide) rfl rfl
      obtain ⟨h214, W214, V214, r214⟩ := r213.sJ (pc' := 76) d4_75 M181.2.2.2.1 (by decide) (by decide) (Nat.le_of_ble_eq_true rfl) M181.2.2.2.2.2.2 rfl
      have M214 : LH Z h214 n0 a vv [x0, x0, x2, x1, x4, 0, 0, 0, 0, 0, 0, 0, 0, 0, 0, 0] (4 : Int32) := LH.putElem M181 W214 V214
      have K214 := K181.wr W214 (Or.inl (by simp))
      have r215 := r214.iloadN (pc' := 77) d4_76 rfl rfl
      have r216 := r215.iconst (pc' := 78) (1 : Int32) d4_77 rfl rfl
      have r217 := r216.isub (pc' := 79) (u := (0 : Int32)) d4_78 (by decide) rfl
      have r218 := r217.iconst (pc' := 80) (2 : Int32) d4_79 rfl rfl
      have r219 := r218.idiv (pc' := 81) (u := (0 : Int32)) d4_80 (by decide) (by decide) rfl
      have r220 := r219.istoreN (pc' := 82) (L' := #[.val (.ref a), .val (.long w'), .second, .val (.int (0 : Int32))]) d4_81 rfl rfl
      have r221 := r220.goto (pc' := 41) d4_82 (by decide) (by decide)
      have r222 := r221.iloadN (pc' := 42) d4_41 rfl rfl
      have r223 := r222.ifT (pc' := 85) d4_42 (flt (by decide : ¬ (0 : Int32) < (0 : Int32))).2.2.2 (by decide) (by decide)
      have r224 := r223.aloadN (pc' := 86) d4_85 rfl rfl rfl
      have r225 := r224.getF (host := "") (pc' := 89) d4_86 (Or.inl (hw _ (List.mem_of_getElem? (i := 14) rfl))) Via.refl M214.2.1 rfl
      have r226 := r225.iloadN (pc' := 90) d4_89 rfl rfl
      have r227 := r226.lloadN (pc' := 91) d4_90 rfl rfl
      obtain ⟨h228, W228, V228, r228⟩ := r227.sJ (pc' := 92) d4_91 M214.2.2.2.1 (by decide) (by decide) (Nat.le_of_ble_eq_true rfl) M214.2.2.2.2.2.2 rfl
      have M228 : LH Z h228 n0 a vv [w', x0, x2, x1, x4, 0, 0, 0, 0, 0, 0, 0, 0, 0, 0, 0] (4 : Int32) := LH.putElem M214 W228 V228
      have K228 := K214.wr W228 (Or.inl (by simp))
      simp only [lw_lt, lw_gt, Int64.lt_iff_toInt_lt] at hc168 hc201
      exact ⟨_, _, r228.retV d4_92 rfl (by decide) (by decide), rfl, w', x0, x2, x1, x4, M228, ⟨by omega, by omega, by omega⟩, fun z => by simp only [List.count_cons, List.count_nil] <;> omega, K228⟩
    · -- not no
      have r229 := r200.ifT (pc' := 85) d4_57 (flt hc201).2.2.2 (by decide) (by decide)
      have r230 := r229.aloadN (pc' := 86) d4_85 rfl rfl rfl
      have r231 := r230.getF (host := "") (pc' := 89) d4_86 (Or.inl (hw _ (List.mem_of_getElem? (i := 14) rfl))) Via.refl M181.2.1 rfl
      have r232 := r231.iloadN (pc' := 90) d4_89 rfl rfl
      have r233 := r232.lloadN (pc' := 91) d4_90 rfl rfl
      obtain ⟨h234, W234, V234, r234⟩ := r233.sJ (pc' := 92) d4_91 M181.2.2.2.1 (by decide) (by decide) (Nat.le_of_ble_eq_true rfl) M181.2.2.2.2.2.2 rfl
      have M234 : LH Z h234 n0 a vv [x0, w', x2, x1, x4, 0, 0, 0, 0, 0, 0, 0, 0, 0, 0, 0] (4 : Int32) := LH.putElem M181 W234 V234
      have K234 := K181.wr W234 (Or.inl (by simp))
      simp only [lw_lt, lw_gt, Int64.lt_iff_toInt_lt] at hc168 hc201
      exact ⟨_, _, r234.retV d4_92 rfl (by decide) (by decide), rfl, x0, w', x2, x1, x4, M234, ⟨by omega, by omega, by omega⟩, fun z => by simp only [List.count_cons, List.count_nil] <;> omega, K234⟩
  · -- not no
    have r235 := r167.ifT (pc' := 85) d4_57 (flt hc168).2.2.2 (by decide) (by decide)
    have r236 := r235.aloadN (pc' := 86) d4_85 rfl rfl rfl
    have r237 := r236.getF (host := "") (pc' := 89) d4_86 (Or.inl (hw _ (List.mem_of_getElem? (i := 14) rfl))) Via.refl M154.2.1 rfl
    have r238 := r237.iloadN (pc' := 90) d4_89 rfl rfl
    have r239 := r238.lloadN (pc' := 91) d4_90 rfl rfl
    obtain ⟨h240, W240, V240, r240⟩ := r239.sJ (pc' := 92) d4_91 M154.2.2.2.1 (by decide) (by decide) (Nat.le_of_ble_eq_true rfl) M154.2.2.2.2.2.2 rfl
    have M240 : LH Z h240 n0 a vv [x0, x1, x2, w', x4, 0, 0, 0, 0, 0, 0, 0, 0, 0, 0, 0] (4 : Int32) := LH.putElem M154 W240 V240
    have K240 := K154.wr W240 (Or.inl (by simp))
    simp only [lw_lt, lw_gt, Int64.lt_iff_toInt_lt] at hc168
    exact ⟨_, _, r240.retV d4_92 rfl (by decide) (by decide), rfl, x0, x1, x2, w', x4, M240, ⟨by omega, by omega, by omega⟩, fun z => by simp only [List.count_cons, List.count_nil] <;> omega, K240⟩
set_option maxRecDepth 65536 in
set_option maxHeartbeats 40000000 in
theorem add4 (l : Launch) (Z : State) (a0 : Array Value) (hw : ∀ d ∈ tables_1, d.before a0 Z = true) (a vv : Addr) (w' x0 x1 x2 x3 x4 : Int64) (h0 : Heap) (n0 : Nat) (M : LH Z h0 n0 a vv [x0, x1, x2, x3, x4, 0, 0, 0, 0, 0, 0, 0, 0, 0, 0, 0] (4 : Int32)) (hH : x0.toInt ≤ x1.toInt ∧ x0.toInt ≤ x2.toInt ∧ x1.toInt ≤ x3.toInt) :
    Ctr l Z (⟨"com/example/hailstream/hailstream/LongHeap", "add", "(J)V"⟩ : MethodName) prog_12_method_4_code 4 none ({ frames := 0, cells := 0, slots := 0, locals := 0 } : Room) #[(.ref a), (.long w')] h0 n0 (fun v h => v = none ∧ ∃ y0 y1 y2 y3 y4 : Int64, LH Z h n0 a vv [y0, y1, y2, y3, y4, 0, 0, 0, 0, 0, 0, 0, 0, 0, 0, 0] (5 : Int32) ∧ (y0.toInt ≤ y1.toInt ∧ y0.toInt ≤ y2.toInt ∧ y1.toInt ≤ y3.toInt ∧ y1.toInt ≤ y4.toInt) ∧ (∀ z, List.count z [y0, y1, y2, y3, y4] = List.count z [w', x0, x1, x2, x3]) ∧ Keep h0 h [a, vv]) := by
  refine ent (plainFor_of_name pn_com_example_hailstream_hailstream_LongHeap) (L0 := #[.val (.ref a), .val (.long w'), .second, .unset]) (fun m => by first | (simp [entryFrame, mkF, argsToLocals, Value.category]; done) | rfl) ?_
  intro p e s m below meth c T0 r0
  have r241 := r0.aloadN (pc' := 1) d4_0 rfl rfl rfl
  have r242 := r241.getF (host := "") (pc' := 4) d4_1 (Or.inl (hw _ (List.mem_of_getElem? (i := 21) rfl))) Via.refl M.2.2.1 rfl
  have r243 := r242.aloadN (pc' := 5) d4_4 rfl rfl rfl
  have r244 := r243.getF (host := "") (pc' := 8) d4_5 (Or.inl (hw _ (List.mem_of_getElem? (i := 14) rfl))) Via.refl M.2.1 rfl
  have r245 := r244.lenJ (pc' := 9) d4_8 M.2.2.2.1 rfl
  have r246 := r245.icT (pc' := 29) d4_9 (feq (by decide : ¬ (4 : Int32) = (16 : Int32))).2 (by decide) (by decide)
  have r247 := r246.aloadN (pc' := 30) d4_29 rfl rfl rfl
  have r248 := r247.dup (pc' := 31) d4_30 rfl rfl
  have r249 := r248.getF (host := "") (pc' := 34) d4_31 (Or.inl (hw _ (List.mem_of_getElem? (i := 21) rfl))) Via.refl M.2.2.1 rfl
  have r250 := r249.dupx1 (pc' := 35) d4_34 rfl rfl rfl
  have r251 := r250.iconst (pc' := 36) (1 : Int32) d4_35 rfl rfl
  have r252 := r251.iadd (pc' := 37) (u := (5 : Int32)) d4_36 (by decide) rfl
  obtain ⟨h253, W253, r253⟩ := r252.putF (host := "") (pc' := 40) d4_37 (Or.inl (hw _ (List.mem_of_getElem? (i := 21) rfl))) Via.refl M.2.2.1 M.1 (Or.inl (hw _ (List.mem_of_getElem? (i := 22) rfl))) (hw _ (List.mem_of_getElem? (i := 6) rfl)) (ty := .int) (by decide) rfl rfl M.2.2.2.2.2.1 rfl
  have M253 : LH Z h253 n0 a vv [x0, x1, x2, x3, x4, 0, 0, 0, 0, 0, 0, 0, 0, 0, 0, 0] (5 : Int32) := LH.putSize M W253 (Or.inl (hw _ (List.mem_of_getElem? (i := 15) rfl))) (Or.inl (hw _ (List.mem_of_getElem? (i := 22) rfl)))
  have K253 := (Keep.refl h0 [a, vv]).wr W253 (Or.inl (by simp))
  have r254 := r253.istoreN (pc' := 41) (L' := #[.val (.ref a), .val (.long w'), .second, .val (.int (4 : Int32))]) d4_40 rfl rfl
  have r255 := r254.iloadN (pc' := 42) d4_41 rfl rfl
  have r256 := r255.ifF (pc' := 45) d4_42 (tlt (by decide : (0 : Int32) < (4 : Int32))).2.2.2 rfl
  have r257 := r256.aloadN (pc' := 46) d4_45 rfl rfl rfl
  have r258 := r257.getF (host := "") (pc' := 49) d4_46 (Or.inl (hw _ (List.mem_of_getElem? (i := 14) rfl))) Via.refl M253.2.1 rfl
  have r259 := r258.iloadN (pc' := 50) d4_49 rfl rfl
  have r260 := r259.iconst (pc' := 51) (1 : Int32) d4_50 rfl rfl
  have r261 := r260.isub (pc' := 52) (u := (3 : Int32)) d4_51 (by decide) rfl
  have r262 := r261.iconst (pc' := 53) (2 : Int32) d4_52 rfl rfl
  have r263 := r262.idiv (pc' := 54) (u := (1 : Int32)) d4_53 (by decide) (by decide) rfl
  have r264 := Rch.gJ (pc' := 55) x1 r263 d4_54 M253.2.2.2.1 (by decide) (by decide) rfl rfl
  have r265 := r264.lloadN (pc' := 56) d4_55 rfl rfl
  have r266 := r265.lcmp (pc' := 57) d4_56 rfl rfl
  by_cases hc267 : (0 : Int32) < (lcmpW x1 w')
  · -- yes
    have r268 := r266.ifF (pc' := 60) d4_57 (tlt hc267).2.2.2 rfl
    have r269 := r268.aloadN (pc' := 61) d4_60 rfl rfl rfl
    have r270 := r269.getF (host := "") (pc' := 64) d4_61 (Or.inl (hw _ (List.mem_of_getElem? (i := 14) rfl))) Via.refl M253.2.1 rfl
    have r271 := r270.iloadN (pc' := 65) d4_64 rfl rfl
    have r272 := r271.aloadN (pc' := 66) d4_65 rfl rfl rfl
    have r273 := r272.getF (host := "") (pc' := 69) d4_66 (Or.inl (hw _ (List.mem_of_getElem? (i := 14) rfl))) Via.refl M253.2.1 rfl
    have r274 := r273.iloadN (pc' := 70) d4_69 rfl rfl
    have r275 := r274.iconst (pc' := 71) (1 : Int32) d4_70 rfl rfl
    have r276 := r275.isub (pc' := 72) (u := (3 : Int32)) d4_71 (by decide) rfl
    have r277 := r276.iconst (pc' := 73) (2 : Int32) d4_72 rfl rfl
    have r278 := r277.idiv (pc' := 74) (u := (1 : Int32)) d4_73 (by decide) (by decide) rfl
    have r279 := Rch.gJ (pc' := 75) x1 r278 d4_74 M253.2.2.2.1 (by decide) (by decide) rfl rfl
    obtain ⟨h280, W280, V280, r280⟩ := r279.sJ (pc' := 76) d4_75 M253.2.2.2.1 (by decide) (by decide) (Nat.le_of_ble_eq_true rfl) M253.2.2.2.2.2.2 rfl
    have M280 : LH Z h280 n0 a vv [x0, x1, x2, x3, x1, 0, 0, 0, 0, 0, 0, 0, 0, 0, 0, 0] (5 : Int32) := LH.putElem M253 W280 V280
    have K280 := K253.wr W280 (Or.inl (by simp))
    have r281 := r280.iloadN (pc' := 77) d4_76 rfl rfl
    have r282 := r281.iconst (pc' := 78) (1 : Int32) d4_77 rfl rfl
    have r283 := r282.isub (pc' := 79) (u := (3 : Int32)) d4_78 (by decide) rfl
    have r284 := r283.iconst (pc' := 80) (2 : Int32) d4_79 rfl rfl
    have r285 := r284.idiv (pc' := 81) (u := (1 : Int32)) d4_80 (by decide) (by decide) rfl
    have r286 := r285.istoreN (pc' := 82) (L' := #[.val (.ref a), .val (.long w'), .second, .val (.int (1 : Int32))]) d4_81 rfl rfl
    have r287 := r286.goto (pc' := 41) d4_82 (by decide) (by decide)
    have r288 := r287.iloadN (pc' := 42) d4_41 rfl rfl
    have r289 := r288.ifF (pc' := 45) d4_42 (tlt (by decide : (0 : Int32) < (1 : Int32))).2.2.2 rfl
    have r290 := r289.aloadN (pc' := 46) d4_45 rfl rfl rfl
    have r291 := r290.getF (host := "") (pc' := 49) d4_46 (Or.inl (hw _ (List.mem_of_getElem? (i := 14) rfl))) Via.refl M280.2.1 rfl
    have r292 := r291.iloadN (pc' := 50) d4_49 rfl rfl
    have r293 := r292.iconst (pc' := 51) (1 : Int32) d4_50 rfl rfl
    have r294 := r293.isub (pc' := 52) (u := (0 : Int32)) d4_51 (by decide) rfl
    have r295 := r294.iconst (pc' := 53) (2 : Int32) d4_52 rfl rfl
    have r296 := r295.idiv (pc' := 54) (u := (0 : Int32)) d4_53 (by decide) (by decide) rfl
    have r297 := Rch.gJ (pc' := 55) x0 r296 d4_54 M280.2.2.2.1 (by decide) (by decide) rfl rfl
    have r298 := r297.lloadN (pc' := 56) d4_55 rfl rfl
    have r299 := r298.lcmp (pc' := 57) d4_56 rfl rfl
    by_cases hc300 : (0 : Int32) < (lcmpW x0 w')
    · -- yes
      have r301 := r299.ifF (pc' := 60) d4_57 (tlt hc300).2.2.2 rfl
      have r302 := r301.aloadN (pc' := 61) d4_60 rfl rfl rfl
      have r303 := r302.getF (host := "") (pc' := 64) d4_61 (Or.inl (hw _ (List.mem_of_getElem? (i := 14) rfl))) Via.refl M280.2.1 rfl
      have r304 := r303.iloadN (pc' := 65) d4_64 rfl rfl
      have r305 := r304.aloadN (pc' := 66) d4_65 rfl rfl rfl
      have r306 := r305.getF (host := "") (pc' := 69) d4_66 (Or.inl (hw _ (List.mem_of_getElem? (i := 14) rfl))) Via.refl M280.2.1 rfl
      have r307 := r306.iloadN (pc' := 70) d4_69 rfl rfl
      have r308 := r307.iconst (pc' := 71) (1 : Int32) d4_70 rfl rfl
      have r309 := r308.isub (pc' := 72) (u := (0 : Int32)) d4_71 (by decide) rfl
      have r310 := r309.iconst (pc' := 73) (2 : Int32) d4_72 rfl rfl
      have r311 := r310.idiv (pc' := 74) (u := (0 : Int32)) d4_73 (by decide) (by decide) rfl
      have r312 := Rch.gJ (pc' := 75) x0 r311 d4_74 M280.2.2.2.1 (by decide) (by decide) rfl rfl
      obtain ⟨h313, W313, V313, r313⟩ := r312.sJ (pc' := 76) d4_75 M280.2.2.2.1 (by decide) (by decide) (Nat.le_of_ble_eq_true rfl) M280.2.2.2.2.2.2 rfl
      have M313 : LH Z h313 n0 a vv [x0, x0, x2, x3, x1, 0, 0, 0, 0, 0, 0, 0, 0, 0, 0, 0] (5 : Int32) := LH.putElem M280 W313 V313
      have K313 := K280.wr W313 (Or.inl (by simp))
      have r314 := r313.iloadN (pc' := 77) d4_76 rfl rfl
      have r315 := r314.iconst (pc' := 78) (1 : Int32) d4_77 rfl rfl
      have r316 := r315.isub (pc' := 79) (u := (0 : Int32)) d4_78 (by decide) rfl
      have r317 := r316.iconst (pc' := 80) (2 : Int32) d4_79 rfl rfl
      have r318 := r317.idiv (pc' := 81) (u := (0 : Int32)) d4_80 (by decide) (by decide) rfl
      have r319 := r318.istoreN (pc' := 82) (L' := #[.val (.ref a), .val (.long w'), .second, .val (.int (0 : Int32))]) d4_81 rfl rfl
      have r320 := r319.goto (pc' := 41) d4_82 (by decide) (by decide)
      have r321 := r320.iloadN (pc' := 42) d4_41 rfl rfl
      have r322 := r321.ifT (pc' := 85) d4_42 (flt (by decide : ¬ (0 : Int32) < (0 : Int32))).2.2.2 (by decide) (by decide)
      have r323 := r322.aloadN (pc' := 86) d4_85 rfl rfl rfl
      have r324 := r323.getF (host := "") (pc' := 89) d4_86 (Or.inl (hw _ (List.mem_of_getElem? (i := 14) rfl))) Via.refl M313.2.1 rfl
      have r325 := r324.iloadN (pc' := 90) d4_89 rfl rfl
      have r326 := r325.lloadN (pc' := 91) d4_90 rfl rfl
      obtain ⟨h327, W327, V327, r327⟩ := r326.sJ (pc' := 92) d4_91 M313.2.2.2.1 (by decide) (by decide) (Nat.le_of_ble_eq_true rfl) M313.2.2.2.2.2.2 rfl
      have M327 : LH Z h327 n0 a vv [w', x0, x2, x3, x1, 0, 0, 0, 0, 0, 0, 0, 0, 0, 0, 0] (5 : Int32) := LH.putElem M313 W327 V327
      have K327 := K313.wr W327 (Or.inl (by simp))
      simp only [lw_lt, lw_gt, Int64.lt_iff_toInt_lt] at hc267 hc300
      exact ⟨_, _, r327.retV d4_92 rfl (by decide) (by decide), rfl, w', x0, x2, x3, x1, M327, ⟨by omega, by omega, by omega, by omega⟩, fun z => by simp only [List.count_cons, List.count_nil] <;> omega, K327⟩
    · -- not no
      have r328 := r299.ifT (pc' := 85) d4_57 (flt hc300).2.2.2 (by decide) (by decide)
      have r329 := r328.aloadN (pc' := 86) d4_85 rfl rfl rfl
      have r330 := r329.getF (host := "") (pc' := 89) d4_86 (Or.inl (hw _ (List.mem_of_getElem? (i := 14) rfl))) Via.refl M280.2.1 rfl
      have r331 := r330.iloadN (pc' := 90) d4_89 rfl rfl
      have r332 := r331.lloadN (pc' := 91) d4_90 rfl rfl
      obtain ⟨h333, W333, V333, r333⟩ := r332.sJ (pc' := 92) d4_91 M280.2.2.2.1 (by decide) (by decide) (Nat.le_of_ble_eq_true rfl) M280.2.2.2.2.2.2 rfl
      have M333 : LH Z h333 n0 a vv [x0, w', x2, x3, x1, 0, 0, 0, 0, 0, 0, 0, 0, 0, 0, 0] (5 : Int32) := LH.putElem M280 W333 V333
      have K333 := K280.wr W333 (Or.inl (by simp))
      simp only [lw_lt, lw_gt, Int64.lt_iff_toInt_lt] at hc267 hc300
      exact ⟨_, _, r333.retV d4_92 rfl (by decide) (by decide), rfl, x0, w', x2, x3, x1, M333, ⟨by omega, by omega, by omega, by omega⟩, fun z => by simp only [List.count_cons, List.count_nil] <;> omega, K333⟩
  · -- not no
    have r334 := r266.ifT (pc' := 85) d4_57 (flt hc267).2.2.2 (by decide) (by decide)
    have r335 := r334.aloadN (pc' := 86) d4_85 rfl rfl rfl
    have r336 := r335.getF (host := "") (pc' := 89) d4_86 (Or.inl (hw _ (List.mem_of_getElem? (i := 14) rfl))) Via.refl M253.2.1 rfl
    have r337 := r336.iloadN (pc' := 90) d4_89 rfl rfl
    have r338 := r337.lloadN (pc' := 91) d4_90 rfl rfl
    obtain ⟨h339, W339, V339, r339⟩ := r338.sJ (pc' := 92) d4_91 M253.2.2.2.1 (by decide) (by decide) (Nat.le_of_ble_eq_true rfl) M253.2.2.2.2.2.2 rfl
    have M339 : LH Z h339 n0 a vv [x0, x1, x2, x3, w', 0, 0, 0, 0, 0, 0, 0, 0, 0, 0, 0] (5 : Int32) := LH.putElem M253 W339 V339
    have K339 := K253.wr W339 (Or.inl (by simp))
    simp only [lw_lt, lw_gt, Int64.lt_iff_toInt_lt] at hc267
    exact ⟨_, _, r339.retV d4_92 rfl (by decide) (by decide), rfl, x0, x1, x2, x3, w', M339, ⟨by omega, by omega, by omega, by omega⟩, fun z => by simp only [List.count_cons, List.count_nil] <;> omega, K339⟩
theorem d5_0 : decode prog_12_method_5_code 0 = .ok (.aload_n 0, 1) := by decide +kernel
theorem d5_1 : decode prog_12_method_5_code 1 = .ok (.getfield 7, 3) := by decide +kernel
theorem d5_4 : decode prog_12_method_5_code 4 = .ok (.iconst 0, 1) := by decide +kernel
theorem d5_5 : decode prog_12_method_5_code 5 = .ok (.laload, 1) := by decide +kernel
theorem d5_6 : decode prog_12_method_5_code 6 = .ok (.lstore_n 1, 1) := by decide +kernel
theorem d5_7 : decode prog_12_method_5_code 7 = .ok (.aload_n 0, 1) := by decide +kernel
theorem d5_8 : decode prog_12_method_5_code 8 = .ok (.getfield 7, 3) := by decide +kernel
theorem d5_11 : decode prog_12_method_5_code 11 = .ok (.aload_n 0, 1) := by decide +kernel
theorem d5_12 : decode prog_12_method_5_code 12 = .ok (.dup, 1) := by decide +kernel
theorem d5_13 : decode prog_12_method_5_code 13 = .ok (.getfield 13, 3) := by decide +kernel
theorem d5_16 : decode prog_12_method_5_code 16 = .ok (.iconst 1, 1) := by decide +kernel
theorem d5_17 : decode prog_12_method_5_code 17 = .ok (.isub, 1) := by decide +kernel
theorem d5_18 : decode prog_12_method_5_code 18 = .ok (.dup_x1, 1) := by decide +kernel
theorem d5_19 : decode prog_12_method_5_code 19 = .ok (.putfield 13, 3) := by decide +kernel
theorem d5_22 : decode prog_12_method_5_code 22 = .ok (.laload, 1) := by decide +kernel
theorem d5_23 : decode prog_12_method_5_code 23 = .ok (.lstore_n 3, 1) := by decide +kernel
theorem d5_24 : decode prog_12_method_5_code 24 = .ok (.iconst 0, 1) := by decide +kernel
theorem d5_25 : decode prog_12_method_5_code 25 = .ok (.istore 5, 2) := by decide +kernel
theorem d5_27 : decode prog_12_method_5_code 27 = .ok (.iconst 2, 1) := by decide +kernel
theorem d5_28 : decode prog_12_method_5_code 28 = .ok (.iload 5, 2) := by decide +kernel
theorem d5_30 : decode prog_12_method_5_code 30 = .ok (.imul, 1) := by decide +kernel
theorem d5_31 : decode prog_12_method_5_code 31 = .ok (.iconst 1, 1) := by decide +kernel
theorem d5_32 : decode prog_12_method_5_code 32 = .ok (.iadd, 1) := by decide +kernel
theorem d5_33 : decode prog_12_method_5_code 33 = .ok (.aload_n 0, 1) := by decide +kernel
theorem d5_34 : decode prog_12_method_5_code 34 = .ok (.getfield 13, 3) := by decide +kernel
theorem d5_37 : decode prog_12_method_5_code 37 = .ok (.if_icmp .ge 81, 3) := by decide +kernel
theorem d5_40 : decode prog_12_method_5_code 40 = .ok (.iconst 2, 1) := by decide +kernel
theorem d5_41 : decode prog_12_method_5_code 41 = .ok (.iload 5, 2) := by decide +kernel
theorem d5_43 : decode prog_12_method_5_code 43 = .ok (.imul, 1) := by decide +kernel
theorem d5_44 : decode prog_12_method_5_code 44 = .ok (.iconst 1, 1) := by decide +kernel
theorem d5_45 : decode prog_12_method_5_code 45 = .ok (.iadd, 1) := by decide +kernel
theorem d5_46 : decode prog_12_method_5_code 46 = .ok (.istore 6, 2) := by decide +kernel
theorem d5_48 : decode prog_12_method_5_code 48 = .ok (.iload 6, 2) := by decide +kernel
theorem d5_50 : decode prog_12_method_5_code 50 = .ok (.iconst 1, 1) := by decide +kernel
theorem d5_51 : decode prog_12_method_5_code 51 = .ok (.iadd, 1) := by decide +kernel
theorem d5_52 : decode prog_12_method_5_code 52 = .ok (.aload_n 0, 1) := by decide +kernel
theorem d5_53 : decode prog_12_method_5_code 53 = .ok (.getfield 13, 3) := by decide +kernel
theorem d5_56 : decode prog_12_method_5_code 56 = .ok (.if_icmp .ge 26, 3) := by decide +kernel
theorem d5_59 : decode prog_12_method_5_code 59 = .ok (.aload_n 0, 1) := by decide +kernel
theorem d5_60 : decode prog_12_method_5_code 60 = .ok (.getfield 7, 3) := by decide +kernel
theorem d5_63 : decode prog_12_method_5_code 63 = .ok (.iload 6, 2) := by decide +kernel
theorem d5_65 : decode prog_12_method_5_code 65 = .ok (.iconst 1, 1) := by decide +kernel
theorem d5_66 : decode prog_12_method_5_code 66 = .ok (.iadd, 1) := by decide +kernel
theorem d5_67 : decode prog_12_method_5_code 67 = .ok (.laload, 1) := by decide +kernel
theorem d5_68 : decode prog_12_method_5_code 68 = .ok (.aload_n 0, 1) := by decide +kernel
theorem d5_69 : decode prog_12_method_5_code 69 = .ok (.getfield 7, 3) := by decide +kernel
theorem d5_72 : decode prog_12_method_5_code 72 = .ok (.iload 6, 2) := by decide +kernel
theorem d5_74 : decode prog_12_method_5_code 74 = .ok (.laload, 1) := by decide +kernel
theorem d5_75 : decode prog_12_method_5_code 75 = .ok (.lcmp, 1) := by decide +kernel
theorem d5_76 : decode prog_12_method_5_code 76 = .ok (.ifCond .ge 6, 3) := by decide +kernel
theorem d5_79 : decode prog_12_method_5_code 79 = .ok (.iinc 6 1, 3) := by decide +kernel
theorem d5_82 : decode prog_12_method_5_code 82 = .ok (.aload_n 0, 1) := by decide +kernel
theorem d5_83 : decode prog_12_method_5_code 83 = .ok (.getfield 7, 3) := by decide +kernel
theorem d5_86 : decode prog_12_method_5_code 86 = .ok (.iload 6, 2) := by decide +kernel
theorem d5_88 : decode prog_12_method_5_code 88 = .ok (.laload, 1) := by decide +kernel
theorem d5_89 : decode prog_12_method_5_code 89 = .ok (.lload_n 3, 1) := by decide +kernel
theorem d5_90 : decode prog_12_method_5_code 90 = .ok (.lcmp, 1) := by decide +kernel
theorem d5_91 : decode prog_12_method_5_code 91 = .ok (.ifCond .lt 6, 3) := by decide +kernel
theorem d5_97 : decode prog_12_method_5_code 97 = .ok (.aload_n 0, 1) := by decide +kernel
theorem d5_98 : decode prog_12_method_5_code 98 = .ok (.getfield 7, 3) := by decide +kernel
theorem d5_101 : decode prog_12_method_5_code 101 = .ok (.iload 5, 2) := by decide +kernel
theorem d5_103 : decode prog_12_method_5_code 103 = .ok (.aload_n 0, 1) := by decide +kernel
theorem d5_104 : decode prog_12_method_5_code 104 = .ok (.getfield 7, 3) := by decide +kernel
theorem d5_107 : decode prog_12_method_5_code 107 = .ok (.iload 6, 2) := by decide +kernel
theorem d5_109 : decode prog_12_method_5_code 109 = .ok (.laload, 1) := by decide +kernel
theorem d5_110 : decode prog_12_method_5_code 110 = .ok (.lastore, 1) := by decide +kernel
theorem d5_111 : decode prog_12_method_5_code 111 = .ok (.iload 6, 2) := by decide +kernel
theorem d5_113 : decode prog_12_method_5_code 113 = .ok (.istore 5, 2) := by decide +kernel
theorem d5_115 : decode prog_12_method_5_code 115 = .ok (.goto (-88), 3) := by decide +kernel
theorem d5_118 : decode prog_12_method_5_code 118 = .ok (.aload_n 0, 1) := by decide +kernel
theorem d5_119 : decode prog_12_method_5_code 119 = .ok (.getfield 7, 3) := by decide +kernel
theorem d5_122 : decode prog_12_method_5_code 122 = .ok (.iload 5, 2) := by decide +kernel
theorem d5_124 : decode prog_12_method_5_code 124 = .ok (.lload_n 3, 1) := by decide +kernel
theorem d5_125 : decode prog_12_method_5_code 125 = .ok (.lastore, 1) := by decide +kernel
theorem d5_126 : decode prog_12_method_5_code 126 = .ok (.lload_n 1, 1) := by decide +kernel
theorem d5_127 : decode prog_12_method_5_code 127 = .ok (.lreturn, 1) := by decide +kernel
theorem d5_94 : decode prog_12_method_5_code 94 = .ok (.goto 24, 3) := by decide +kernel
set_option maxRecDepth 65536 in
set_option maxHeartbeats 40000000 in
theorem poll5 (l : Launch) (Z : State) (a0 : Array Value) (hw : ∀ d ∈ tables_1, d.before a0 Z = true) (a vv : Addr) (x0 x1 x2 x3 x4 : Int64) (h0 : Heap) (n0 : Nat) (M : LH Z h0 n0 a vv [x0, x1, x2, x3, x4, 0, 0, 0, 0, 0, 0, 0, 0, 0, 0, 0] (5 : Int32)) (hH : x0.toInt ≤ x1.toInt ∧ x0.toInt ≤ x2.toInt ∧ x1.toInt ≤ x3.toInt ∧ x1.toInt ≤ x4.toInt) :
    Ctr l Z (⟨"com/example/hailstream/hailstream/LongHeap", "poll", "()J"⟩ : MethodName) prog_12_method_5_code 7 (some .long) ({ frames := 0, cells := 0, slots := 0, locals := 0 } : Room) #[(.ref a)] h0 n0 (fun v h => v = some (.long x0) ∧ ∃ y0 y1 y2 y3 y4 : Int64, LH Z h n0 a vv [y0, y1, y2, y3, y4, 0, 0, 0, 0, 0, 0, 0, 0, 0, 0, 0] (4 : Int32) ∧ (y0.toInt ≤ y1.toInt ∧ y0.toInt ≤ y2.toInt ∧ y1.toInt ≤ y3.toInt) ∧ (∀ z, List.count z [x0, y0, y1, y2, y3] = List.count z [x0, x1, x2, x3, x4]) ∧ (x0.toInt ≤ y0.toInt ∧ x0.toInt ≤ y1.toInt ∧ x0.toInt ≤ y2.toInt ∧ x0.toInt ≤ y3.toInt) ∧ Keep h0 h [a, vv]) := by
  refine ent (plainFor_of_name pn_com_example_hailstream_hailstream_LongHeap) (L0 := #[.val (.ref a), .unset, .unset, .unset, .unset, .unset, .unset]) (fun m => by first | (simp [entryFrame, mkF, argsToLocals, Value.category]; done) | rfl) ?_
  intro p e s m below meth c T0 r0
  have r340 := r0.aloadN (pc' := 1) d5_0 rfl rfl rfl
  have r341 := r340.getF (host := "") (pc' := 4) d5_1 (Or.inl (hw _ (List.mem_of_getElem? (i := 14) rfl))) Via.refl M.2.1 rfl
  have r342 := r341.iconst (pc' := 5) (0 : Int32) d5_4 rfl rfl
  have r343 := Rch.gJ (pc' := 6) x0 r342 d5_5 M.2.2.2.1 (by decide) (by decide) rfl rfl
  have r344 := r343.lstoreN (pc' := 7) (L' := #[.val (.ref a), .val (.long x0), .second, .unset, .unset, .unset, .unset]) d5_6 rfl rfl
  have r345 := r344.aloadN (pc' := 8) d5_7 rfl rfl rfl
  have r346 := r345.getF (host := "") (pc' := 11) d5_8 (Or.inl (hw _ (List.mem_of_getElem? (i := 14) rfl))) Via.refl M.2.1 rfl
  have r347 := r346.aloadN (pc' := 12) d5_11 rfl rfl rfl
  have r348 := r347.dup (pc' := 13) d5_12 rfl rfl
  have r349 := r348.getF (host := "") (pc' := 16) d5_13 (Or.inl (hw _ (List.mem_of_getElem? (i := 21) rfl))) Via.refl M.2.2.1 rfl
  have r350 := r349.iconst (pc' := 17) (1 : Int32) d5_16 rfl rfl
  have r351 := r350.isub (pc' := 18) (u := (4 : Int32)) d5_17 (by decide) rfl
  have r352 := r351.dupx1 (pc' := 19) d5_18 rfl rfl rfl
  obtain ⟨h353, W353, r353⟩ := r352.putF (host := "") (pc' := 22) d5_19 (Or.inl (hw _ (List.mem_of_getElem? (i := 21) rfl))) Via.refl M.2.2.1 M.1 (Or.inl (hw _ (List.mem_of_getElem? (i := 22) rfl))) (hw _ (List.mem_of_getElem? (i := 6) rfl)) (ty := .int) (by decide) rfl rfl M.2.2.2.2.2.1 rfl
  have M353 : LH Z h353 n0 a vv [x0, x1, x2, x3, x4, 0, 0, 0, 0, 0, 0, 0, 0, 0, 0, 0] (4 : Int32) := LH.putSize M W353 (Or.inl (hw _ (List.mem_of_getElem? (i := 15) rfl))) (Or.inl (hw _ (List.mem_of_getElem? (i := 22) rfl)))
  have K353 := (Keep.refl h0 [a, vv]).wr W353 (Or.inl (by simp))
  have r354 := Rch.gJ (pc' := 23) x4 r353 d5_22 M353.2.2.2.1 (by decide) (by decide) rfl rfl
  have r355 := r354.lstoreN (pc' := 24) (L' := #[.val (.ref a), .val (.long x0), .second, .val (.long x4), .second, .unset, .unset]) d5_23 rfl rfl
  have r356 := r355.iconst (pc' := 25) (0 : Int32) d5_24 rfl rfl
  have r357 := r356.istore (pc' := 27) (L' := #[.val (.ref a), .val (.long x0), .second, .val (.long x4), .second, .val (.int (0 : Int32)), .unset]) d5_25 rfl rfl
  have r358 := r357.iconst (pc' := 28) (2 : Int32) d5_27 rfl rfl
  have r359 := r358.iload (pc' := 30) d5_28 rfl rfl
  have r360 := r359.imul (pc' := 31) (u := (0 : Int32)) d5_30 (by decide) rfl
  have r361 := r360.iconst (pc' := 32) (1 : Int32) d5_31 rfl rfl
  have r362 := r361.iadd (pc' := 33) (u := (1 : Int32)) d5_32 (by decide) rfl
  have r363 := r362.aloadN (pc' := 34) d5_33 rfl rfl rfl
  have r364 := r363.getF (host := "") (pc' := 37) d5_34 (Or.inl (hw _ (List.mem_of_getElem? (i := 21) rfl))) Via.refl M353.2.2.1 rfl
  have r365 := r364.icF (pc' := 40) d5_37 (tlt (by decide : (1 : Int32) < (4 : Int32))).2.1 rfl
  have r366 := r365.iconst (pc' := 41) (2 : Int32) d5_40 rfl rfl
  have r367 := r366.iload (pc' := 43) d5_41 rfl rfl
  have r368 := r367.imul (pc' := 44) (u := (0 : Int32)) d5_43 (by decide) rfl
  have r369 := r368.iconst (pc' := 45) (1 : Int32) d5_44 rfl rfl
  have r370 := r369.iadd (pc' := 46) (u := (1 : Int32)) d5_45 (by decide) rfl
  have r371 := r370.istore (pc' := 48) (L' := #[.val (.ref a), .val (.long x0), .second, .val (.long x4), .second, .val (.int (0 : Int32)), .val (.int (1 : Int32))]) d5_46 rfl rfl
  have r372 := r371.iload (pc' := 50) d5_48 rfl rfl
  have r373 := r372.iconst (pc' := 51) (1 : Int32) d5_50 rfl rfl
  have r374 := r373.iadd (pc' := 52) (u := (2 : Int32)) d5_51 (by decide) rfl
  have r375 := r374.aloadN (pc' := 53) d5_52 rfl rfl rfl
  have r376 := r375.getF (host := "") (pc' := 56) d5_53 (Or.inl (hw _ (List.mem_of_getElem? (i := 21) rfl))) Via.refl M353.2.2.1 rfl
  have r377 := r376.icF (pc' := 59) d5_56 (tlt (by decide : (2 : Int32) < (4 : Int32))).2.1 rfl
  have r378 := r377.aloadN (pc' := 60) d5_59 rfl rfl rfl
  have r379 := r378.getF (host := "") (pc' := 63) d5_60 (Or.inl (hw _ (List.mem_of_getElem? (i := 14) rfl))) Via.refl M353.2.1 rfl
  have r380 := r379.iload (pc' := 65) d5_63 rfl rfl
  have r381 := r380.iconst (pc' := 66) (1 : Int32) d5_65 rfl rfl
  have r382 := r381.iadd (pc' := 67) (u := (2 : Int32)) d5_66 (by decide) rfl
  have r383 := Rch.gJ (pc' := 68) x2 r382 d5_67 M353.2.2.2.1 (by decide) (by decide) rfl rfl
  have r384 := r383.aloadN (pc' := 69) d5_68 rfl rfl rfl
  have r385 := r384.getF (host := "") (pc' := 72) d5_69 (Or.inl (hw _ (List.mem_of_getElem? (i := 14) rfl))) Via.refl M353.2.1 rfl
  have r386 := r385.iload (pc' := 74) d5_72 rfl rfl
  have r387 := Rch.gJ (pc' := 75) x1 r386 d5_74 M353.2.2.2.1 (by decide) (by decide) rfl rfl
  have r388 := r387.lcmp (pc' := 76) d5_75 rfl rfl
  by_cases hc389 : (lcmpW x2 x1) < (0 : Int32)
  · -- yes
    have r390 := r388.ifF (pc' := 79) d5_76 (tlt hc389).2.1 rfl
    have r391 := r390.iinc (pc' := 82) (L' := #[.val (.ref a), .val (.long x0), .second, .val (.long x4), .second, .val (.int (0 : Int32)), .val (.int (2 : Int32))]) (1 : Int32) d5_79 rfl rfl (by decide) rfl rfl
    have r392 := r391.aloadN (pc' := 83) d5_82 rfl rfl rfl
    have r393 := r392.getF (host := "") (pc' := 86) d5_83 (Or.inl (hw _ (List.mem_of_getElem? (i := 14) rfl))) Via.refl M353.2.1 rfl
    have r394 := r393.iload (pc' := 88) d5_86 rfl rfl
    have r395 := Rch.gJ (pc' := 89) x2 r394 d5_88 M353.2.2.2.1 (by decide) (by decide) rfl rfl
    have r396 := r395.lloadN (pc' := 90) d5_89 rfl rfl
    have r397 := r396.lcmp (pc' := 91) d5_90 rfl rfl
    by_cases hc398 : (lcmpW x2 x4) < (0 : Int32)
    · -- yes
      have r399 := r397.ifT (pc' := 97) d5_91 (tlt hc398).1 (by decide) (by decide)
      have r400 := r399.aloadN (pc' := 98) d5_97 rfl rfl rfl
      have r401 := r400.getF (host := "") (pc' := 101) d5_98 (Or.inl (hw _ (List.mem_of_getElem? (i := 14) rfl))) Via.refl M353.2.1 rfl
      have r402 := r401.iload (pc' := 103) d5_101 rfl rfl
      have r403 := r402.aloadN (pc' := 104) d5_103 rfl rfl rfl
      have r404 := r403.getF (host := "") (pc' := 107) d5_104 (Or.inl (hw _ (List.mem_of_getElem? (i := 14) rfl))) Via.refl M353.2.1 rfl
      have r405 := r404.iload (pc' := 109) d5_107 rfl rfl
      have r406 := Rch.gJ (pc' := 110) x2 r405 d5_109 M353.2.2.2.1 (by decide) (by decide) rfl rfl
      obtain ⟨h407, W407, V407, r407⟩ := r406.sJ (pc' := 111) d5_110 M353.2.2.2.1 (by decide) (by decide) (Nat.le_of_ble_eq_true rfl) M353.2.2.2.2.2.2 rfl
      have M407 : LH Z h407 n0 a vv [x2, x1, x2, x3, x4, 0, 0, 0, 0, 0, 0, 0, 0, 0, 0, 0] (4 : Int32) := LH.putElem M353 W407 V407
      have K407 := K353.wr W407 (Or.inl (by simp))
      have r408 := r407.iload (pc' := 113) d5_111 rfl rfl
      have r409 := r408.istore (pc' := 115) (L' := #[.val (.ref a), .val (.long x0), .second, .val (.long x4), .second, .val (.int (2 : Int32)), .val (.int (2 : Int32))]) d5_113 rfl rfl
      have r410 := r409.goto (pc' := 27) d5_115 (by decide) (by decide)
      have r411 := r410.iconst (pc' := 28) (2 : Int32) d5_27 rfl rfl
      have r412 := r411.iload (pc' := 30) d5_28 rfl rfl
      have r413 := r412.imul (pc' := 31) (u := (4 : Int32)) d5_30 (by decide) rfl
      have r414 := r413.iconst (pc' := 32) (1 : Int32) d5_31 rfl rfl
      have r415 := r414.iadd (pc' := 33) (u := (5 : Int32)) d5_32 (by decide) rfl
      have r416 := r415.aloadN (pc' := 34) d5_33 rfl rfl rfl
      have r417 := r416.getF (host := "") (pc' := 37) d5_34 (Or.inl (hw _ (List.mem_of_getElem? (i := 21) rfl))) Via.refl M407.2.2.1 rfl
      have r418 := r417.icT (pc' := 118) d5_37 (flt (by decide : ¬ (5 : Int32) < (4 : Int32))).2.1 (by decide) (by decide)
      have r419 := r418.aloadN (pc' := 119) d5_118 rfl rfl rfl
      have r420 := r419.getF (host := "") (pc' := 122) d5_119 (Or.inl (hw _ (List.mem_of_getElem? (i := 14) rfl))) Via.refl M407.2.1 rfl
      have r421 := r420.iload (pc' := 124) d5_122 rfl rfl
      have r422 := r421.lloadN (pc' := 125) d5_124 rfl rfl
      obtain ⟨h423, W423, V423, r423⟩ := r422.sJ (pc' := 126) d5_125 M407.2.2.2.1 (by decide) (by decide) (Nat.le_of_ble_eq_true rfl) M407.2.2.2.2.2.2 rfl
      have M423 : LH Z h423 n0 a vv [x2, x1, x4, x3, x4, 0, 0, 0, 0, 0, 0, 0, 0, 0, 0, 0] (4 : Int32) := LH.putElem M407 W423 V423
      have K423 := K407.wr W423 (Or.inl (by simp))
      have r424 := r423.lloadN (pc' := 127) d5_126 rfl rfl
      simp only [lw_lt, lw_gt, Int64.lt_iff_toInt_lt] at hc389 hc398
      exact ⟨_, _, r424.retJ d5_127 rfl (by decide) (by decide), rfl, x2, x1, x4, x3, x4, M423, ⟨by omega, by omega, by omega⟩, fun z => by simp only [List.count_cons, List.count_nil] <;> omega, ⟨by omega, by omega, by omega, by omega⟩, K423⟩
    · -- not no
      have r425 := r397.ifF (pc' := 94) d5_91 (flt hc398).1 rfl
      have r426 := r425.goto (pc' := 118) d5_94 (by decide) (by decide)
      have r427 := r426.aloadN (pc' := 119) d5_118 rfl rfl rfl
      have r428 := r427.getF (host := "") (pc' := 122) d5_119 (Or.inl (hw _ (List.mem_of_getElem? (i := 14) rfl))) Via.refl M353.2.1 rfl
      have r429 := r428.iload (pc' := 124) d5_122 rfl rfl
      have r430 := r429.lloadN (pc' := 125) d5_124 rfl rfl
      obtain ⟨h431, W431, V431, r431⟩ := r430.sJ (pc' := 126) d5_125 M353.2.2.2.1 (by decide) (by decide) (Nat.le_of_ble_eq_true rfl) M353.2.2.2.2.2.2 rfl
      have M431 : LH Z h431 n0 a vv [x4, x1, x2, x3, x4, 0, 0, 0, 0, 0, 0, 0, 0, 0, 0, 0] (4 : Int32) := LH.putElem M353 W431 V431
      have K431 := K353.wr W431 (Or.inl (by simp))
      have r432 := r431.lloadN (pc' := 127) d5_126 rfl rfl
      simp only [lw_lt, lw_gt, Int64.lt_iff_toInt_lt] at hc389 hc398
      exact ⟨_, _, r432.retJ d5_127 rfl (by decide) (by decide), rfl, x4, x1, x2, x3, x4, M431, ⟨by omega, by omega, by omega⟩, fun z => by simp only [List.count_cons, List.count_nil] <;> omega, ⟨by omega, by omega, by omega, by omega⟩, K431⟩
  · -- not no
    have r433 := r388.ifT (pc' := 82) d5_76 (flt hc389).2.1 (by decide) (by decide)
    have r434 := r433.aloadN (pc' := 83) d5_82 rfl rfl rfl
    have r435 := r434.getF (host := "") (pc' := 86) d5_83 (Or.inl (hw _ (List.mem_of_getElem? (i := 14) rfl))) Via.refl M353.2.1 rfl
    have r436 := r435.iload (pc' := 88) d5_86 rfl rfl
    have r437 := Rch.gJ (pc' := 89) x1 r436 d5_88 M353.2.2.2.1 (by decide) (by decide) rfl rfl
    have r438 := r437.lloadN (pc' := 90) d5_89 rfl rfl
    have r439 := r438.lcmp (pc' := 91) d5_90 rfl rfl
    by_cases hc440 : (lcmpW x1 x4) < (0 : Int32)
    · -- yes
      have r441 := r439.ifT (pc' := 97) d5_91 (tlt hc440).1 (by decide) (by decide)
      have r442 := r441.aloadN (pc' := 98) d5_97 rfl rfl rfl
      have r443 := r442.getF (host := "") (pc' := 101) d5_98 (Or.inl (hw _ (List.mem_of_getElem? (i := 14) rfl))) Via.refl M353.2.1 rfl
      have r444 := r443.iload (pc' := 103) d5_101 rfl rfl
      have r445 := r444.aloadN (pc' := 104) d5_103 rfl rfl rfl
      have r446 := r445.getF (host := "") (pc' := 107) d5_104 (Or.inl (hw _ (List.mem_of_getElem? (i := 14) rfl))) Via.refl M353.2.1 rfl
      have r447 := r446.iload (pc' := 109) d5_107 rfl rfl
      have r448 := Rch.gJ (pc' := 110) x1 r447 d5_109 M353.2.2.2.1 (by decide) (by decide) rfl rfl
      obtain ⟨h449, W449, V449, r449⟩ := r448.sJ (pc' := 111) d5_110 M353.2.2.2.1 (by decide) (by decide) (Nat.le_of_ble_eq_true rfl) M353.2.2.2.2.2.2 rfl
      have M449 : LH Z h449 n0 a vv [x1, x1, x2, x3, x4, 0, 0, 0, 0, 0, 0, 0, 0, 0, 0, 0] (4 : Int32) := LH.putElem M353 W449 V449
      have K449 := K353.wr W449 (Or.inl (by simp))
      have r450 := r449.iload (pc' := 113) d5_111 rfl rfl
      have r451 := r450.istore (pc' := 115) (L' := #[.val (.ref a), .val (.long x0), .second, .val (.long x4), .second, .val (.int (1 : Int32)), .val (.int (1 : Int32))]) d5_113 rfl rfl
      have r452 := r451.goto (pc' := 27) d5_115 (by decide) (by decide)
      have r453 := r452.iconst (pc' := 28) (2 : Int32) d5_27 rfl rfl
      have r454 := r453.iload (pc' := 30) d5_28 rfl rfl
      have r455 := r454.imul (pc' := 31) (u := (2 : Int32)) d5_30 (by decide) rfl
      have r456 := r455.iconst (pc' := 32) (1 : Int32) d5_31 rfl rfl
      have r457 := r456.iadd (pc' := 33) (u := (3 : Int32)) d5_32 (by decide) rfl
      have r458 := r457.aloadN (pc' := 34) d5_33 rfl rfl rfl
      have r459 := r458.getF (host := "") (pc' := 37) d5_34 (Or.inl (hw _ (List.mem_of_getElem? (i := 21) rfl))) Via.refl M449.2.2.1 rfl
      have r460 := r459.icF (pc' := 40) d5_37 (tlt (by decide : (3 : Int32) < (4 : Int32))).2.1 rfl
      have r461 := r460.iconst (pc' := 41) (2 : Int32) d5_40 rfl rfl
      have r462 := r461.iload (pc' := 43) d5_41 rfl rfl
      have r463 := r462.imul (pc' := 44) (u := (2 : Int32)) d5_43 (by decide) rfl
      have r464 := r463.iconst (pc' := 45) (1 : Int32) d5_44 rfl rfl
      have r465 := r464.iadd (pc' := 46) (u := (3 : Int32)) d5_45 (by decide) rfl
      have r466 := r465.istore (pc' := 48) (L' := #[.val (.ref a), .val (.long x0), .second, .val (.long x4), .second, .val (.int (1 : Int32)), .val (.int (3 : Int32))]) d5_46 rfl rfl
      have r467 := r466.iload (pc' := 50) d5_48 rfl rfl
      have r468 := r467.iconst (pc' := 51) (1 : Int32) d5_50 rfl rfl
      have r469 := r468.iadd (pc' := 52) (u := (4 : Int32)) d5_51 (by decide) rfl
      have r470 := r469.aloadN (pc' := 53) d5_52 rfl rfl rfl
      have r471 := r470.getF (host := "") (pc' := 56) d5_53 (Or.inl (hw _ (List.mem_of_getElem? (i := 21) rfl))) Via.refl M449.2.2.1 rfl
      have r472 := r471.icT (pc' := 82) d5_56 (flt (by decide : ¬ (4 : Int32) < (4 : Int32))).2.1 (by decide) (by decide)
      have r473 := r472.aloadN (pc' := 83) d5_82 rfl rfl rfl
      have r474 := r473.getF (host := "") (pc' := 86) d5_83 (Or.inl (hw _ (List.mem_of_getElem? (i := 14) rfl))) Via.refl M449.2.1 rfl
      have r475 := r474.iload (pc' := 88) d5_86 rfl rfl
      have r476 := Rch.gJ (pc' := 89) x3 r475 d5_88 M449.2.2.2.1 (by decide) (by decide) rfl rfl
      have r477 := r476.lloadN (pc' := 90) d5_89 rfl rfl
      have r478 := r477.lcmp (pc' := 91) d5_90 rfl rfl
      by_cases hc479 : (lcmpW x3 x4) < (0 : Int32)
      · -- yes
        have r480 := r478.ifT (pc' := 97) d5_91 (tlt hc479).1 (by decide) (by decide)
        have r481 := r480.aloadN (pc' := 98) d5_97 rfl rfl rfl
        have r482 := r481.getF (host := "") (pc' := 101) d5_98 (Or.inl (hw _ (List.mem_of_getElem? (i := 14) rfl))) Via.refl M449.2.1 rfl
        have r483 := r482.iload (pc' := 103) d5_101 rfl rfl
        have r484 := r483.aloadN (pc' := 104) d5_103 rfl rfl rfl
        have r485 := r484.getF (host := "") (pc' := 107) d5_104 (Or.inl (hw _ (List.mem_of_getElem? (i := 14) rfl))) Via.refl M449.2.1 rfl
        have r486 := r485.iload (pc' := 109) d5_107 rfl rfl
        have r487 := Rch.gJ (pc' := 110) x3 r486 d5_109 M449.2.2.2.1 (by decide) (by decide) rfl rfl
        obtain ⟨h488, W488, V488, r488⟩ := r487.sJ (pc' := 111) d5_110 M449.2.2.2.1 (by decide) (by decide) (Nat.le_of_ble_eq_true rfl) M449.2.2.2.2.2.2 rfl
        have M488 : LH Z h488 n0 a vv [x1, x3, x2, x3, x4, 0, 0, 0, 0, 0, 0, 0, 0, 0, 0, 0] (4 : Int32) := LH.putElem M449 W488 V488
        have K488 := K449.wr W488 (Or.inl (by simp))
        have r489 := r488.iload (pc' := 113) d5_111 rfl rfl
        have r490 := r489.istore (pc' := 115) (L' := #[.val (.ref a), .val (.long x0), .second, .val (.long x4), .second, .val (.int (3 : Int32)), .val (.int (3 : Int32))]) d5_113 rfl rfl
        have r491 := r490.goto (pc' := 27) d5_115 (by decide) (by decide)
        have r492 := r491.iconst (pc' := 28) (2 : Int32) d5_27 rfl rfl
        have r493 := r492.iload (pc' := 30) d5_28 rfl rfl
        have r494 := r493.imul (pc' := 31) (u := (6 : Int32)) d5_30 (by decide) rfl
        have r495 := r494.iconst (pc' := 32) (1 : Int32) d5_31 rfl rfl
        have r496 := r495.iadd (pc' := 33) (u := (7 : Int32)) d5_32 (by decide) rfl
        have r497 := r496.aloadN (pc' := 34) d5_33 rfl rfl rfl
        have r498 := r497.getF (host := "") (pc' := 37) d5_34 (Or.inl (hw _ (List.mem_of_getElem? (i := 21) rfl))) Via.refl M488.2.2.1 rfl
        have r499 := r498.icT (pc' := 118) d5_37 (flt (by decide : ¬ (7 : Int32) < (4 : Int32))).2.1 (by decide) (by decide)
        have r500 := r499.aloadN (pc' := 119) d5_118 rfl rfl rfl
        have r501 := r500.getF (host := "") (pc' := 122) d5_119 (Or.inl (hw _ (List.mem_of_getElem? (i := 14) rfl))) Via.refl M488.2.1 rfl
        have r502 := r501.iload (pc' := 124) d5_122 rfl rfl
        have r503 := r502.lloadN (pc' := 125) d5_124 rfl rfl
        obtain ⟨h504, W504, V504, r504⟩ := r503.sJ (pc' := 126) d5_125 M488.2.2.2.1 (by decide) (by decide) (Nat.le_of_ble_eq_true rfl) M488.2.2.2.2.2.2 rfl
        have M504 : LH Z h504 n0 a vv [x1, x3, x2, x4, x4, 0, 0, 0, 0, 0, 0, 0, 0, 0, 0, 0] (4 : Int32) := LH.putElem M488 W504 V504
        have K504 := K488.wr W504 (Or.inl (by simp))
        have r505 := r504.lloadN (pc' := 127) d5_126 rfl rfl
        simp only [lw_lt, lw_gt, Int64.lt_iff_toInt_lt] at hc389 hc440 hc479
        exact ⟨_, _, r505.retJ d5_127 rfl (by decide) (by decide), rfl, x1, x3, x2, x4, x4, M504, ⟨by omega, by omega, by omega⟩, fun z => by simp only [List.count_cons, List.count_nil] <;> omega, ⟨by omega, by omega, by omega, by omega⟩, K504⟩
      · -- not no
        have r506 := r478.ifF (pc' := 94) d5_91 (flt hc479).1 rfl
        have r507 := r506.goto (pc' := 118) d5_94 (by decide) (by decide)
        have r508 := r507.aloadN (pc' := 119) d5_118 rfl rfl rfl
        have r509 := r508.getF (host := "") (pc' := 122) d5_119 (Or.inl (hw _ (List.mem_of_getElem? (i := 14) rfl))) Via.refl M449.2.1 rfl
        have r510 := r509.iload (pc' := 124) d5_122 rfl rfl
        have r511 := r510.lloadN (pc' := 125) d5_124 rfl rfl
        obtain ⟨h512, W512, V512, r512⟩ := r511.sJ (pc' := 126) d5_125 M449.2.2.2.1 (by decide) (by decide) (Nat.le_of_ble_eq_true rfl) M449.2.2.2.2.2.2 rfl
        have M512 : LH Z h512 n0 a vv [x1, x4, x2, x3, x4, 0, 0, 0, 0, 0, 0, 0, 0, 0, 0, 0] (4 : Int32) := LH.putElem M449 W512 V512
        have K512 := K449.wr W512 (Or.inl (by simp))
        have r513 := r512.lloadN (pc' := 127) d5_126 rfl rfl
        simp only [lw_lt, lw_gt, Int64.lt_iff_toInt_lt] at hc389 hc440 hc479
        exact ⟨_, _, r513.retJ d5_127 rfl (by decide) (by decide), rfl, x1, x4, x2, x3, x4, M512, ⟨by omega, by omega, by omega⟩, fun z => by simp only [List.count_cons, List.count_nil] <;> omega, ⟨by omega, by omega, by omega, by omega⟩, K512⟩
    · -- not no
      have r514 := r439.ifF (pc' := 94) d5_91 (flt hc440).1 rfl
      have r515 := r514.goto (pc' := 118) d5_94 (by decide) (by decide)
      have r516 := r515.aloadN (pc' := 119) d5_118 rfl rfl rfl
      have r517 := r516.getF (host := "") (pc' := 122) d5_119 (Or.inl (hw _ (List.mem_of_getElem? (i := 14) rfl))) Via.refl M353.2.1 rfl
      have r518 := r517.iload (pc' := 124) d5_122 rfl rfl
      have r519 := r518.lloadN (pc' := 125) d5_124 rfl rfl
      obtain ⟨h520, W520, V520, r520⟩ := r519.sJ (pc' := 126) d5_125 M353.2.2.2.1 (by decide) (by decide) (Nat.le_of_ble_eq_true rfl) M353.2.2.2.2.2.2 rfl
      have M520 : LH Z h520 n0 a vv [x4, x1, x2, x3, x4, 0, 0, 0, 0, 0, 0, 0, 0, 0, 0, 0] (4 : Int32) := LH.putElem M353 W520 V520
      have K520 := K353.wr W520 (Or.inl (by simp))
      have r521 := r520.lloadN (pc' := 127) d5_126 rfl rfl
      simp only [lw_lt, lw_gt, Int64.lt_iff_toInt_lt] at hc389 hc440
      exact ⟨_, _, r521.retJ d5_127 rfl (by decide) (by decide), rfl, x4, x1, x2, x3, x4, M520, ⟨by omega, by omega, by omega⟩, fun z => by simp only [List.count_cons, List.count_nil] <;> omega, ⟨by omega, by omega, by omega, by omega⟩, K520⟩
set_option maxRecDepth 65536 in
set_option maxHeartbeats 40000000 in
theorem poll4 (l : Launch) (Z : State) (a0 : Array Value) (hw : ∀ d ∈ tables_1, d.before a0 Z = true) (a vv : Addr) (x0 x1 x2 x3 x4 : Int64) (h0 : Heap) (n0 : Nat) (M : LH Z h0 n0 a vv [x0, x1, x2, x3, x4, 0, 0, 0, 0, 0, 0, 0, 0, 0, 0, 0] (4 : Int32)) (hH : x0.toInt ≤ x1.toInt ∧ x0.toInt ≤ x2.toInt ∧ x1.toInt ≤ x3.toInt) :
    Ctr l Z (⟨"com/example/hailstream/hailstream/LongHeap", "poll", "()J"⟩ : MethodName) prog_12_method_5_code 7 (some .long) ({ frames := 0, cells := 0, slots := 0, locals := 0 } : Room) #[(.ref a)] h0 n0 (fun v h => v = some (.long x0) ∧ ∃ y0 y1 y2 y3 y4 : Int64, LH Z h n0 a vv [y0, y1, y2, y3, y4, 0, 0, 0, 0, 0, 0, 0, 0, 0, 0, 0] (3 : Int32) ∧ (y0.toInt ≤ y1.toInt ∧ y0.toInt ≤ y2.toInt) ∧ (∀ z, List.count z [x0, y0, y1, y2] = List.count z [x0, x1, x2, x3]) ∧ (x0.toInt ≤ y0.toInt ∧ x0.toInt ≤ y1.toInt ∧ x0.toInt ≤ y2.toInt) ∧ Keep h0 h [a, vv]) := by
  refine ent (plainFor_of_name pn_com_example_hailstream_hailstream_LongHeap) (L0 := #[.val (.ref a), .unset, .unset, .unset, .unset, .unset, .unset]) (fun m => by first | (simp [entryFrame, mkF, argsToLocals, Value.category]; done) | rfl) ?_
  intro p e s m below meth c T0 r0
  have r522 := r0.aloadN (pc' := 1) d5_0 rfl rfl rfl
  have r523 := r522.getF (host := "") (pc' := 4) d5_1 (Or.inl (hw _ (List.mem_of_getElem? (i := 14) rfl))) Via.refl M.2.1 rfl
  have r524 := r523.iconst (pc' := 5) (0 : Int32) d5_4 rfl rfl
  have r525 := Rch.gJ (pc' := 6) x0 r524 d5_5 M.2.2.2.1 (by decide) (by decide) rfl rfl
  have r526 := r525.lstoreN (pc' := 7) (L' := #[.val (.ref a), .val (.long x0), .second, .unset, .unset, .unset, .unset]) d5_6 rfl rfl
  have r527 := r526.aloadN (pc' := 8) d5_7 rfl rfl rfl
  have r528 := r527.getF (host := "") (pc' := 11) d5_8 (Or.inl (hw _ (List.mem_of_getElem? (i := 14) rfl))) Via.refl M.2.1 rfl
  have r529 := r528.aloadN (pc' := 12) d5_11 rfl rfl rfl
  have r530 := r529.dup (pc' := 13) d5_12 rfl rfl
  have r531 := r530.getF (host := "") (pc' := 16) d5_13 (Or.inl (hw _ (List.mem_of_getElem? (i := 21) rfl))) Via.refl M.2.2.1 rfl
  have r532 := r531.iconst (pc' := 17) (1 : Int32) d5_16 rfl rfl
  have r533 := r532.isub (pc' := 18) (u := (3 : Int32)) d5_17 (by decide) rfl
  have r534 := r533.dupx1 (pc' := 19) d5_18 rfl rfl rfl
  obtain ⟨h535, W535, r535⟩ := r534.putF (host := "") (pc' := 22) d5_19 (Or.inl (hw _ (List.mem_of_getElem? (i := 21) rfl))) Via.refl M.2.2.1 M.1 (Or.inl (hw _ (List.mem_of_getElem? (i := 22) rfl))) (hw _ (List.mem_of_getElem? (i := 6) rfl)) (ty := .int) (by decide) rfl rfl M.2.2.2.2.2.1 rfl
  have M535 : LH Z h535 n0 a vv [x0, x1, x2, x3, x4, 0, 0, 0, 0, 0, 0, 0, 0, 0, 0, 0] (3 : Int32) := LH.putSize M W535 (Or.inl (hw _ (List.mem_of_getElem? (i := 15) rfl))) (Or.inl (hw _ (List.mem_of_getElem? (i := 22) rfl)))
  have K535 := (Keep.refl h0 [a, vv]).wr W535 (Or.inl (by simp))
  have r536 := Rch.gJ (pc' := 23) x3 r535 d5_22 M535.2.2.2.1 (by decide) (by decide) rfl rfl
  have r537 := r536.lstoreN (pc' := 24) (L' := #[.val (.ref a), .val (.long x0), .second, .val (.long x3), .second, .unset, .unset]) d5_23 rfl rfl
  have r538 := r537.iconst (pc' := 25) (0 : Int32) d5_24 rfl rfl
  have r539 := r538.istore (pc' := 27) (L' := #[.val (.ref a), .val (.long x0), .second, .val (.long x3), .second, .val (.int (0 : Int32)), .unset]) d5_25 rfl rfl
  have r540 := r539.iconst (pc' := 28) (2 : Int32) d5_27 rfl rfl
  have r541 := r540.iload (pc' := 30) d5_28 rfl rfl
  have r542 := r541.imul (pc' := 31) (u := (0 : Int32)) d5_30 (by decide) rfl
  have r543 := r542.iconst (pc' := 32) (1 : Int32) d5_31 rfl rfl
  have r544 := r543.iadd (pc' := 33) (u := (1 : Int32)) d5_32 (by decide) rfl
  have r545 := r544.aloadN (pc' := 34) d5_33 rfl rfl rfl
  have r546 := r545.getF (host := "") (pc' := 37) d5_34 (Or.inl (hw _ (List.mem_of_getElem? (i := 21) rfl))) Via.refl M535.2.2.1 rfl
  have r547 := r546.icF (pc' := 40) d5_37 (tlt (by decide : (1 : Int32) < (3 : Int32))).2.1 rfl
  have r548 := r547.iconst (pc' := 41) (2 : Int32) d5_40 rfl rfl
  have r549 := r548.iload (pc' := 43) d5_41 rfl rfl
  have r550 := r549.imul (pc' := 44) (u := (0 : Int32)) d5_43 (by decide) rfl
  have r551 := r550.iconst (pc' := 45) (1 : Int32) d5_44 rfl rfl
  have r552 := r551.iadd (pc' := 46) (u := (1 : Int32)) d5_45 (by decide) rfl
  have r553 := r552.istore (pc' := 48) (L' := #[.val (.ref a), .val (.long x0), .second, .val (.long x3), .second, .val (.int (0 : Int32)), .val (.int (1 : Int32))]) d5_46 rfl rfl
  have r554 := r553.iload (pc' := 50) d5_48 rfl rfl
  have r555 := r554.iconst (pc' := 51) (1 : Int32) d5_50 rfl rfl
  have r556 := r555.iadd (pc' := 52) (u := (2 : Int32)) d5_51 (by decide) rfl
  have r557 := r556.aloadN (pc' := 53) d5_52 rfl rfl rfl
  have r558 := r557.getF (host := "") (pc' := 56) d5_53 (Or.inl (hw _ (List.mem_of_getElem? (i := 21) rfl))) Via.refl M535.2.2.1 rfl
  have r559 := r558.icF (pc' := 59) d5_56 (tlt (by decide : (2 : Int32) < (3 : Int32))).2.1 rfl
  have r560 := r559.aloadN (pc' := 60) d5_59 rfl rfl rfl
  have r561 := r560.getF (host := "") (pc' := 63) d5_60 (Or.inl (hw _ (List.mem_of_getElem? (i := 14) rfl))) Via.refl M535.2.1 rfl
  have r562 := r561.iload (pc' := 65) d5_63 rfl rfl
  have r563 := r562.iconst (pc' := 66) (1 : Int32) d5_65 rfl rfl
  have r564 := r563.iadd (pc' := 67) (u := (2 : Int32)) d5_66 (by decide) rfl
  have r565 := Rch.gJ (pc' := 68) x2 r564 d5_67 M535.2.2.2.1 (by decide) (by decide) rfl rfl
  have r566 := r565.aloadN (pc' := 69) d5_68 rfl rfl rfl
  have r567 := r566.getF (host := "") (pc' := 72) d5_69 (Or.inl (hw _ (List.mem_of_getElem? (i := 14) rfl))) Via.refl M535.2.1 rfl
  have r568 := r567.iload (pc' := 74) d5_72 rfl rfl
  have r569 := Rch.gJ (pc' := 75) x1 r568 d5_74 M535.2.2.2.1 (by decide) (by decide) rfl rfl
  have r570 := r569.lcmp (pc' := 76) d5_75 rfl rfl
  by_cases hc571 : (lcmpW x2 x1) < (0 : Int32)
  · -- yes
    have r572 := r570.ifF (pc' := 79) d5_76 (tlt hc571).2.1 rfl
    have r573 := r572.iinc (pc' := 82) (L' := #[.val (.ref a), .val (.long x0), .second, .val (.long x3), .second, .val (.int (0 : Int32)), .val (.int (2 : Int32))]) (1 : Int32) d5_79 rfl rfl (by decide) rfl rfl
    have r574 := r573.aloadN (pc' := 83) d5_82 rfl rfl rfl
    have r575 := r574.getF (host := "") (pc' := 86) d5_83 (Or.inl (hw _ (List.mem_of_getElem? (i := 14) rfl))) Via.refl M535.2.1 rfl
    have r576 := r575.iload (pc' := 88) d5_86 rfl rfl
    have r577 := Rch.gJ (pc' := 89) x2 r576 d5_88 M535.2.2.2.1 (by decide) (by decide) rfl rfl
    have r578 := r577.lloadN (pc' := 90) d5_89 rfl rfl
    have r579 := r578.lcmp (pc' := 91) d5_90 rfl rfl
    by_cases hc580 : (lcmpW x2 x3) < (0 : Int32)
    · -- yes
      have r581 := r579.ifT (pc' := 97) d5_91 (tlt hc580).1 (by decide) (by decide)
      have r582 := r581.aloadN (pc' := 98) d5_97 rfl rfl rfl
      have r583 := r582.getF (host := "") (pc' := 101) d5_98 (Or.inl (hw _ (List.mem_of_getElem? (i := 14) rfl))) Via.refl M535.2.1 rfl
      have r584 := r583.iload (pc' := 103) d5_101 rfl rfl
      have r585 := r584.aloadN (pc' := 104) d5_103 rfl rfl rfl
      have r586 := r585.getF (host := "") (pc' := 107) d5_104 (Or.inl (hw _ (List.mem_of_getElem? (i := 14) rfl))) Via.refl M535.2.1 rfl
      have r587 := r586.iload (pc' := 109) d5_107 rfl rfl
      have r588 := Rch.gJ (pc' := 110) x2 r587 d5_109 M535.2.2.2.1 (by decide) (by decide) rfl rfl
      obtain ⟨h589, W589, V589, r589⟩ := r588.sJ (pc' := 111) d5_110 M535.2.2.2.1 (by decide) (by decide) (Nat.le_of_ble_eq_true rfl) M535.2.2.2.2.2.2 rfl
      have M589 : LH Z h589 n0 a vv [x2, x1, x2, x3, x4, 0, 0, 0, 0, 0, 0, 0, 0, 0, 0, 0] (3 : Int32) := LH.putElem M535 W589 V589
      have K589 := K535.wr W589 (Or.inl (by simp))
      have r590 := r589.iload (pc' := 113) d5_111 rfl rfl
      have r591 := r590.istore (pc' := 115) (L' := #[.val (.ref a), .val (.long x0), .second, .val (.long x3), .second, .val (.int (2 : Int32)), .val (.int (2 : Int32))]) d5_113 rfl rfl
      have r592 := r591.goto (pc' := 27) d5_115 (by decide) (by decide)
      have r593 := r592.iconst (pc' := 28) (2 : Int32) d5_27 rfl rfl
      have r594 := r593.iload (pc' := 30) d5_28 rfl rfl
      have r595 := r594.imul (pc' := 31) (u := (4 : Int32)) d5_30 (by decide) rfl
      have r596 := r595.iconst (pc' := 32) (1 : Int32) d5_31 rfl rfl
      have r597 := r596.iadd (pc' := 33) (u := (5 : Int32)) d5_32 (by decide) rfl
      have r598 := r597.aloadN (pc' := 34) d5_33 rfl rfl rfl
      have r599 := r598.getF (host := "") (pc' := 37) d5_34 (Or.inl (hw _ (List.mem_of_getElem? (i := 21) rfl))) Via.refl M589.2.2.1 rfl
      have r600 := r599.icT (pc' := 118) d5_37 (flt (by decide : ¬ (5 : Int32) < (3 : Int32))).2.1 (by decide) (by decide)
      have r601 := r600.aloadN (pc' := 119) d5_118 rfl rfl rfl
      have r602 := r601.getF (host := "") (pc' := 122) d5_119 (Or.inl (hw _ (List.mem_of_getElem? (i := 14) rfl))) Via.refl M589.2.1 rfl
      have r603 := r602.iload (pc' := 124) d5_122 rfl rfl
      have r604 := r603.lloadN (pc' := 125) d5_124 rfl rfl
      obtain ⟨h605, W605, V605, r605⟩ := r604.sJ (pc' := 126) d5_125 M589.2.2.2.1 (by decide) (by decide) (Nat.le_of_ble_eq_true rfl) M589.2.2.2.2.2.2 rfl
      have M605 : LH Z h605 n0 a vv [x2, x1, x3, x3, x4, 0, 0, 0, 0, 0, 0, 0, 0, 0, 0, 0] (3 : Int32) := LH.putElem M589 W605 V605
      have K605 := K589.wr W605 (Or.inl (by simp))
      have r606 := r605.lloadN (pc' := 127) d5_126 rfl rfl
      simp only [lw_lt, lw_gt, Int64.lt_iff_toInt_lt] at hc571 hc580
      exact ⟨_, _, r606.retJ d5_127 rfl (by decide) (by decide), rfl, x2, x1, x3, x3, x4, M605, ⟨by omega, by omega⟩, fun z => by simp only [List.count_cons, List.count_nil] <;> omega, ⟨by omega, by omega, by omega⟩, K605⟩
    · -- not no
      have r607 := r579.ifF (pc' := 94) d5_91 (flt hc580).1 rfl
      have r608 := r607.goto (pc' := 118) d5_94 (by decide) (by decide)
      have r609 := r608.aloadN (pc' := 119) d5_118 rfl rfl rfl
      have r610 := r609.getF (host := "") (pc' := 122) d5_119 (Or.inl (hw _ (List.mem_of_getElem? (i := 14) rfl))) Via.refl M535.2.1 rfl
      have r611 := r610.iload (pc' := 124) d5_122 rfl rfl
      have r612 := r611.lloadN (pc' := 125) d5_124 rfl rfl
      obtain ⟨h613, W613, V613, r613⟩ := r612.sJ (pc' := 126) d5_125 M535.2.2.2.1 (by decide) (by decide) (Nat.le_of_ble_eq_true rfl) M535.2.2.2.2.2.2 rfl
      have M613 : LH Z h613 n0 a vv [x3, x1, x2, x3, x4, 0, 0, 0, 0, 0, 0, 0, 0, 0, 0, 0] (3 : Int32) := LH.putElem M535 W613 V613
      have K613 := K535.wr W613 (Or.inl (by simp))
      have r614 := r613.lloadN (pc' := 127) d5_126 rfl rfl
      simp only [lw_lt, lw_gt, Int64.lt_iff_toInt_lt] at hc571 hc580
      exact ⟨_, _, r614.retJ d5_127 rfl (by decide) (by decide), rfl, x3, x1, x2, x3, x4, M613, ⟨by omega, by omega⟩, fun z => by simp only [List.count_cons, List.count_nil] <;> omega, ⟨by omega, by omega, by omega⟩, K613⟩
  · -- not no
    have r615 := r570.ifT (pc' := 82) d5_76 (flt hc571).2.1 (by decide) (by decide)
    have r616 := r615.aloadN (pc' := 83) d5_82 rfl rfl rfl
    have r617 := r616.getF (host := "") (pc' := 86) d5_83 (Or.inl (hw _ (List.mem_of_getElem? (i := 14) rfl))) Via.refl M535.2.1 rfl
    have r618 := r617.iload (pc' := 88) d5_86 rfl rfl
    have r619 := Rch.gJ (pc' := 89) x1 r618 d5_88 M535.2.2.2.1 (by decide) (by decide) rfl rfl
    have r620 := r619.lloadN (pc' := 90) d5_89 rfl rfl
    have r621 := r620.lcmp (pc' := 91) d5_90 rfl rfl
    by_cases hc622 : (lcmpW x1 x3) < (0 : Int32)
    · -- yes
      have r623 := r621.ifT (pc' := 97) d5_91 (tlt hc622).1 (by decide) (by decide)
      have r624 := r623.aloadN (pc' := 98) d5_97 rfl rfl rfl
      have r625 := r624.getF (host := "") (pc' := 101) d5_98 (Or.inl (hw _ (List.mem_of_getElem? (i := 14) rfl))) Via.refl M535.2.1 rfl
      have r626 := r625.iload (pc' := 103) d5_101 rfl rfl
      have r627 := r626.aloadN (pc' := 104) d5_103 rfl rfl rfl
      have r628 := r627.getF (host := "") (pc' := 107) d5_104 (Or.inl (hw _ (List.mem_of_getElem? (i := 14) rfl))) Via.refl M535.2.1 rfl
      have r629 := r628.iload (pc' := 109) d5_107 rfl rfl
      have r630 := Rch.gJ (pc' := 110) x1 r629 d5_109 M535.2.2.2.1 (by decide) (by decide) rfl rfl
      obtain ⟨h631, W631, V631, r631⟩ := r630.sJ (pc' := 111) d5_110 M535.2.2.2.1 (by decide) (by decide) (Nat.le_of_ble_eq_true rfl) M535.2.2.2.2.2.2 rfl
      have M631 : LH Z h631 n0 a vv [x1, x1, x2, x3, x4, 0, 0, 0, 0, 0, 0, 0, 0, 0, 0, 0] (3 : Int32) := LH.putElem M535 W631 V631
      have K631 := K535.wr W631 (Or.inl (by simp))
      have r632 := r631.iload (pc' := 113) d5_111 rfl rfl
      have r633 := r632.istore (pc' := 115) (L' := #[.val (.ref a), .val (.long x0), .second, .val (.long x3), .second, .val (.int (1 : Int32)), .val (.int (1 : Int32))]) d5_113 rfl rfl
      have r634 := r633.goto (pc' := 27) d5_115 (by decide) (by decide)
      have r635 := r634.iconst (pc' := 28) (2 : Int32) d5_27 rfl rfl
      have r636 := r635.iload (pc' := 30) d5_28 rfl rfl
      have r637 := r636.imul (pc' := 31) (u := (2 : Int32)) d5_30 (by decide) rfl
      have r638 := r637.iconst (pc' := 32) (1 : Int32) d5_31 rfl rfl
      have r639 := r638.iadd (pc' := 33) (u := (3 : Int32)) d5_32 (by decide) rfl
      have r640 := r639.aloadN (pc' := 34) d5_33 rfl rfl rfl
      have r641 := r640.getF (host := "") (pc' := 37) d5_34 (Or.inl (hw _ (List.mem_of_getElem? (i := 21) rfl))) Via.refl M631.2.2.1 rfl
      have r642 := r641.icT (pc' := 118) d5_37 (flt (by decide : ¬ (3 : Int32) < (3 : Int32))).2.1 (by decide) (by decide)
      have r643 := r642.aloadN (pc' := 119) d5_118 rfl rfl rfl
      have r644 := r643.getF (host := "") (pc' := 122) d5_119 (Or.inl (hw _ (List.mem_of_getElem? (i := 14) rfl))) Via.refl M631.2.1 rfl
      have r645 := r644.iload (pc' := 124) d5_122 rfl rfl
      have r646 := r645.lloadN (pc' := 125) d5_124 rfl rfl
      obtain ⟨h647, W647, V647, r647⟩ := r646.sJ (pc' := 126) d5_125 M631.2.2.2.1 (by decide) (by decide) (Nat.le_of_ble_eq_true rfl) M631.2.2.2.2.2.2 rfl
      have M647 : LH Z h647 n0 a vv [x1, x3, x2, x3, x4, 0, 0, 0, 0, 0, 0, 0, 0, 0, 0, 0] (3 : Int32) := LH.putElem M631 W647 V647
      have K647 := K631.wr W647 (Or.inl (by simp))
      have r648 := r647.lloadN (pc' := 127) d5_126 rfl rfl
      simp only [lw_lt, lw_gt, Int64.lt_iff_toInt_lt] at hc571 hc622
      exact ⟨_, _, r648.retJ d5_127 rfl (by decide) (by decide), rfl, x1, x3, x2, x3, x4, M647, ⟨by omega, by omega⟩, fun z => by simp only [List.count_cons, List.count_nil] <;> omega, ⟨by omega, by omega, by omega⟩, K647⟩
    · -- not no
      have r649 := r621.ifF (pc' := 94) d5_91 (flt hc622).1 rfl
      have r650 := r649.goto (pc' := 118) d5_94 (by decide) (by decide)
      have r651 := r650.aloadN (pc' := 119) d5_118 rfl rfl rfl
      have r652 := r651.getF (host := "") (pc' := 122) d5_119 (Or.inl (hw _ (List.mem_of_getElem? (i := 14) rfl))) Via.refl M535.2.1 rfl
      have r653 := r652.iload (pc' := 124) d5_122 rfl rfl
      have r654 := r653.lloadN (pc' := 125) d5_124 rfl rfl
      obtain ⟨h655, W655, V655, r655⟩ := r654.sJ (pc' := 126) d5_125 M535.2.2.2.1 (by decide) (by decide) (Nat.le_of_ble_eq_true rfl) M535.2.2.2.2.2.2 rfl
      have M655 : LH Z h655 n0 a vv [x3, x1, x2, x3, x4, 0, 0, 0, 0, 0, 0, 0, 0, 0, 0, 0] (3 : Int32) := LH.putElem M535 W655 V655
      have K655 := K535.wr W655 (Or.inl (by simp))
      have r656 := r655.lloadN (pc' := 127) d5_126 rfl rfl
      simp only [lw_lt, lw_gt, Int64.lt_iff_toInt_lt] at hc571 hc622
      exact ⟨_, _, r656.retJ d5_127 rfl (by decide) (by decide), rfl, x3, x1, x2, x3, x4, M655, ⟨by omega, by omega⟩, fun z => by simp only [List.count_cons, List.count_nil] <;> omega, ⟨by omega, by omega, by omega⟩, K655⟩
set_option maxRecDepth 65536 in
set_option maxHeartbeats 40000000 in
theorem poll3 (l : Launch) (Z : State) (a0 : Array Value) (hw : ∀ d ∈ tables_1, d.before a0 Z = true) (a vv : Addr) (x0 x1 x2 x3 x4 : Int64) (h0 : Heap) (n0 : Nat) (M : LH Z h0 n0 a vv [x0, x1, x2, x3, x4, 0, 0, 0, 0, 0, 0, 0, 0, 0, 0, 0] (3 : Int32)) (hH : x0.toInt ≤ x1.toInt ∧ x0.toInt ≤ x2.toInt) :
    Ctr l Z (⟨"com/example/hailstream/hailstream/LongHeap", "poll", "()J"⟩ : MethodName) prog_12_method_5_code 7 (some .long) ({ frames := 0, cells := 0, slots := 0, locals := 0 } : Room) #[(.ref a)] h0 n0 (fun v h => v = some (.long x0) ∧ ∃ y0 y1 y2 y3 y4 : Int64, LH Z h n0 a vv [y0, y1, y2, y3, y4, 0, 0, 0, 0, 0, 0, 0, 0, 0, 0, 0] (2 : Int32) ∧ (y0.toInt ≤ y1.toInt) ∧ (∀ z, List.count z [x0, y0, y1] = List.count z [x0, x1, x2]) ∧ (x0.toInt ≤ y0.toInt ∧ x0.toInt ≤ y1.toInt) ∧ Keep h0 h [a, vv]) := by
  refine ent (plainFor_of_name pn_com_example_hailstream_hailstream_LongHeap) (L0 := #[.val (.ref a), .unset, .unset, .unset, .unset, .unset, .unset]) (fun m => by first | (simp [entryFrame, mkF, argsToLocals, Value.category]; done) | rfl) ?_
  intro p e s m below meth c T0 r0
  have r657 := r0.aloadN (pc' := 1) d5_0 rfl rfl rfl
  have r658 := r657.getF (host := "") (pc' := 4) d5_1 (Or.inl (hw _ (List.mem_of_getElem? (i := 14) rfl))) Via.refl M.2.1 rfl
  have r659 := r658.iconst (pc' := 5) (0 : Int32) d5_4 rfl rfl
  have r660 := Rch.gJ (pc' := 6) x0 r659 d5_5 M.2.2.2.1 (by decide) (by decide) rfl rfl
  have r661 := r660.lstoreN (pc' := 7) (L' := #[.val (.ref a), .val (.long x0), .second, .unset, .unset, .unset, .unset]) d5_6 rfl rfl
  have r662 := r661.aloadN (pc' := 8) d5_7 rfl rfl rfl
  have r663 := r662.getF (host := "") (pc' := 11) d5_8 (Or.inl (hw _ (List.mem_of_getElem? (i := 14) rfl))) Via.refl M.2.1 rfl
  have r664 := r663.aloadN (pc' := 12) d5_11 rfl rfl rfl
  have r665 := r664.dup (pc' := 13) d5_12 rfl rfl
  have r666 := r665.getF (host := "") (pc' := 16) d5_13 (Or.inl (hw _ (List.mem_of_getElem? (i := 21) rfl))) Via.refl M.2.2.1 rfl
  have r667 := r666.iconst (pc' := 17) (1 : Int32) d5_16 rfl rfl
  have r668 := r667.isub (pc' := 18) (u := (2 : Int32)) d5_17 (by decide) rfl
  have r669 := r668.dupx1 (pc' := 19) d5_18 rfl rfl rfl
  obtain ⟨h670, W670, r670⟩ := r669.putF (host := "") (pc' := 22) d5_19 (Or.inl (hw _ (List.mem_of_getElem? (i := 21) rfl))) Via.refl M.2.2.1 M.1 (Or.inl (hw _ (List.mem_of_getElem? (i := 22) rfl))) (hw _ (List.mem_of_getElem? (i := 6) rfl)) (ty := .int) (by decide) rfl rfl M.2.2.2.2.2.1 rfl
  have M670 : LH Z h670 n0 a vv [x0, x1, x2, x3, x4, 0, 0, 0, 0, 0, 0, 0, 0, 0, 0, 0] (2 : Int32) := LH.putSize M W670 (Or.inl (hw _ (List.mem_of_getElem? (i := 15) rfl))) (Or.inl (hw _ (List.mem_of_getElem? (i := 22) rfl)))
  have K670 := (Keep.refl h0 [a, vv]).wr W670 (Or.inl (by simp))
  have r671 := Rch.gJ (pc' := 23) x2 r670 d5_22 M670.2.2.2.1 (by decide) (by decide) rfl rfl
  have r672 := r671.lstoreN (pc' := 24) (L' := #[.val (.ref a), .val (.long x0), .second, .val (.long x2), .second, .unset, .unset]) d5_23 rfl rfl
  have r673 := r672.iconst (pc' := 25) (0 : Int32) d5_24 rfl rfl
  have r674 := r673.istore (pc' := 27) (L' := #[.val (.ref a), .val (.long x0), .second, .val (.long x2), .second, .val (.int (0 : Int32)), .unset]) d5_25 rfl rfl
  have r675 := r674.iconst (pc' := 28) (2 : Int32) d5_27 rfl rfl
  have r676 := r675.iload (pc' := 30) d5_28 rfl rfl
  have r677 := r676.imul (pc' := 31) (u := (0 : Int32)) d5_30 (by decide) rfl
  have r678 := r677.iconst (pc' := 32) (1 : Int32) d5_31 rfl rfl
  have r679 := r678.iadd (pc' := 33) (u := (1 : Int32)) d5_32 (by decide) rfl
  have r680 := r679.aloadN (pc' := 34) d5_33 rfl rfl rfl
  have r681 := r680.getF (host := "") (pc' := 37) d5_34 (Or.inl (hw _ (List.mem_of_getElem? (i := 21) rfl))) Via.refl M670.2.2.1 rfl
  have r682 := r681.icF (pc' := 40) d5_37 (tlt (by decide : (1 : Int32) < (2 : Int32))).2.1 rfl
  have r683 := r682.iconst (pc' := 41) (2 : Int32) d5_40 rfl rfl
  have r684 := r683.iload (pc' := 43) d5_41 rfl rfl
  have r685 := r684.imul (pc' := 44) (u := (0 : Int32)) d5_43 (by decide) rfl
  have r686 := r685.iconst (pc' := 45) (1 : Int32) d5_44 rfl rfl
  have r687 := r686.iadd (pc' := 46) (u := (1 : Int32)) d5_45 (by decide) rfl
  have r688 := r687.istore (pc' := 48) (L' := #[.val (.ref a), .val (.long x0), .second, .val (.long x2), .second, .val (.int (0 : Int32)), .val (.int (1 : Int32))]) d5_46 rfl rfl
  have r689 := r688.iload (pc' := 50) d5_48 rfl rfl
  have r690 := r689.iconst (pc' := 51) (1 : Int32) d5_50 rfl rfl
  have r691 := r690.iadd (pc' := 52) (u := (2 : Int32)) d5_51 (by decide) rfl
  have r692 := r691.aloadN (pc' := 53) d5_52 rfl rfl rfl
  have r693 := r692.getF (host := "") (pc' := 56) d5_53 (Or.inl (hw _ (List.mem_of_getElem? (i := 21) rfl))) Via.refl M670.2.2.1 rfl
  have r694 := r693.icT (pc' := 82) d5_56 (flt (by decide : ¬ (2 : Int32) < (2 : Int32))).2.1 (by decide) (by decide)
  have r695 := r694.aloadN (pc' := 83) d5_82 rfl rfl rfl
  have r696 := r695.getF (host := "") (pc' := 86) d5_83 (Or.inl (hw _ (List.mem_of_getElem? (i := 14) rfl))) Via.refl M670.2.1 rfl
  have r697 := r696.iload (pc' := 88) d5_86 rfl rfl
  have r698 := Rch.gJ (pc' := 89) x1 r697 d5_88 M670.2.2.2.1 (by decide) (by decide) rfl rfl
  have r699 := r698.lloadN (pc' := 90) d5_89 rfl rfl
  have r700 := r699.lcmp (pc' := 91) d5_90 rfl rfl
  by_cases hc701 : (lcmpW x1 x2) < (0 : Int32)
  · -- yes
    have r702 := r700.ifT (pc' := 97) d5_91 (tlt hc701).1 (by decide) (by decide)
    have r703 := r702.aloadN (pc' := 98) d5_97 rfl rfl rfl
    have r704 := r703.getF (host := "") (pc' := 101) d5_98 (Or.inl (hw _ (List.mem_of_getElem? (i := 14) rfl))) Via.refl M670.2.1 rfl
    have r705 := r704.iload (pc' := 103) d5_101 rfl rfl
    have r706 := r705.aloadN (pc' := 104) d5_103 rfl rfl rfl
    have r707 := r706.getF (host := "") (pc' := 107) d5_104 (Or.inl (hw _ (List.mem_of_getElem? (i := 14) rfl))) Via.refl M670.2.1 rfl
    have r708 := r707.iload (pc' := 109) d5_107 rfl rfl
    have r709 := Rch.gJ (pc' := 110) x1 r708 d5_109 M670.2.2.2.1 (by decide) (by decide) rfl rfl
    obtain ⟨h710, W710, V710, r710⟩ := r709.sJ (pc' := 111) d5_110 M670.2.2.2.1 (by decide) (by decide) (Nat.le_of_ble_eq_true rfl) M670.2.2.2.2.2.2 rfl
    have M710 : LH Z h710 n0 a vv [x1, x1, x2, x3, x4, 0, 0, 0, 0, 0, 0, 0, 0, 0, 0, 0] (2 : Int32) := LH.putElem M670 W710 V710
    have K710 := K670.wr W710 (Or.inl (by simp))
    have r711 := r710.iload (pc' := 113) d5_111 rfl rfl
    have r712 := r711.istore (pc' := 115) (L' := #[.val (.ref a), .val (.long x0), .second, .val (.long x2), .second, .val (.int (1 : Int32)), .val (.int (1 : Int32))]) d5_113 rfl rfl
    have r713 := r712.goto (pc' := 27) d5_115 (by decide) (by decide)
    have r714 := r713.iconst (pc' := 28) (2 : Int32) d5_27 rfl rfl
    have r715 := r714.iload (pc' := 30) d5_28 rfl rfl
    have r716 := r715.imul (pc' := 31) (u := (2 : Int32)) d5_30 (by decide) rfl
    have r717 := r716.iconst (pc' := 32) (1 : Int32) d5_31 rfl rfl
    have r718 := r717.iadd (pc' := 33) (u := (3 : Int32)) d5_32 (by decide) rfl
    have r719 := r718.aloadN (pc' := 34) d5_33 rfl rfl rfl
    have r720 := r719.getF (host := "") (pc' := 37) d5_34 (Or.inl (hw _ (List.mem_of_getElem? (i := 21) rfl))) Via.refl M710.2.2.1 rfl
    have r721 := r720.icT (pc' := 118) d5_37 (flt (by decide : ¬ (3 : Int32) < (2 : Int32))).2.1 (by decide) (by decide)
    have r722 := r721.aloadN (pc' := 119) d5_118 rfl rfl rfl
    have r723 := r722.getF (host := "") (pc' := 122) d5_119 (Or.inl (hw _ (List.mem_of_getElem? (i := 14) rfl))) Via.refl M710.2.1 rfl
    have r724 := r723.iload (pc' := 124) d5_122 rfl rfl
    have r725 := r724.lloadN (pc' := 125) d5_124 rfl rfl
    obtain ⟨h726, W726, V726, r726⟩ := r725.sJ (pc' := 126) d5_125 M710.2.2.2.1 (by decide) (by decide) (Nat.le_of_ble_eq_true rfl) M710.2.2.2.2.2.2 rfl
    have M726 : LH Z h726 n0 a vv [x1, x2, x2, x3, x4, 0, 0, 0, 0, 0, 0, 0, 0, 0, 0, 0] (2 : Int32) := LH.putElem M710 W726 V726
    have K726 := K710.wr W726 (Or.inl (by simp))
    have r727 := r726.lloadN (pc' := 127) d5_126 rfl rfl
    simp only [lw_lt, lw_gt, Int64.lt_iff_toInt_lt] at hc701
    exact ⟨_, _, r727.retJ d5_127 rfl (by decide) (by decide), rfl, x1, x2, x2, x3, x4, M726, (by omega), fun z => by simp only [List.count_cons, List.count_nil] <;> omega, ⟨by omega, by omega⟩, K726⟩
  · -- not no
    have r728 := r700.ifF (pc' := 94) d5_91 (flt hc701).1 rfl
    have r729 := r728.goto (pc' := 118) d5_94 (by decide) (by decide)
    have r730 := r729.aloadN (pc' := 119) d5_118 rfl rfl rfl
    have r731 := r730.getF (host := "") (pc' := 122) d5_119 (Or.inl (hw _ (List.mem_of_getElem? (i := 14) rfl))) Via.refl M670.2.1 rfl
    have r732 := r731.iload (pc' := 124) d5_122 rfl rfl
    have r733 := r732.lloadN (pc' := 125) d5_124 rfl rfl
    obtain ⟨h734, W734, V734, r734⟩ := r733.sJ (pc' := 126) d5_125 M670.2.2.2.1 (by decide) (by decide) (Nat.le_of_ble_eq_true rfl) M670.2.2.2.2.2.2 rfl
    have M734 : LH Z h734 n0 a vv [x2, x1, x2, x3, x4, 0, 0, 0, 0, 0, 0, 0, 0, 0, 0, 0] (2 : Int32) := LH.putElem M670 W734 V734
    have K734 := K670.wr W734 (Or.inl (by simp))
    have r735 := r734.lloadN (pc' := 127) d5_126 rfl rfl
    simp only [lw_lt, lw_gt, Int64.lt_iff_toInt_lt] at hc701
    exact ⟨_, _, r735.retJ d5_127 rfl (by decide) (by decide), rfl, x2, x1, x2, x3, x4, M734, (by omega), fun z => by simp only [List.count_cons, List.count_nil] <;> omega, ⟨by omega, by omega⟩, K734⟩
set_option maxRecDepth 65536 in
set_option maxHeartbeats 40000000 in
theorem poll2 (l : Launch) (Z : State) (a0 : Array Value) (hw : ∀ d ∈ tables_1, d.before a0 Z = true) (a vv : Addr) (x0 x1 x2 x3 x4 : Int64) (h0 : Heap) (n0 : Nat) (M : LH Z h0 n0 a vv [x0, x1, x2, x3, x4, 0, 0, 0, 0, 0, 0, 0, 0, 0, 0, 0] (2 : Int32)) (hH : x0.toInt ≤ x1.toInt) :
    Ctr l Z (⟨"com/example/hailstream/hailstream/LongHeap", "poll", "()J"⟩ : MethodName) prog_12_method_5_code 7 (some .long) ({ frames := 0, cells := 0, slots := 0, locals := 0 } : Room) #[(.ref a)] h0 n0 (fun v h => v = some (.long x0) ∧ ∃ y0 y1 y2 y3 y4 : Int64, LH Z h n0 a vv [y0, y1, y2, y3, y4, 0, 0, 0, 0, 0, 0, 0, 0, 0, 0, 0] (1 : Int32) ∧ (True) ∧ (∀ z, List.count z [x0, y0] = List.count z [x0, x1]) ∧ (x0.toInt ≤ y0.toInt) ∧ Keep h0 h [a, vv]) := by
  refine ent (plainFor_of_name pn_com_example_hailstream_hailstream_LongHeap) (L0 := #[.val (.ref a), .unset, .unset, .unset, .unset, .unset, .unset]) (fun m => by first | (simp [entryFrame, mkF, argsToLocals, Value.category]; done) | rfl) ?_
  intro p e s m below meth c T0 r0
  have r736 := r0.aloadN (pc' := 1) d5_0 rfl rfl rfl
  have r737 := r736.getF (host := "") (pc' := 4) d5_1 (Or.inl (hw _ (List.mem_of_getElem? (i := 14) rfl))) Via.refl M.2.1 rfl
  have r738 := r737.iconst (pc' := 5) (0 : Int32) d5_4 rfl rfl
  have r739 := Rch.gJ (pc' := 6) x0 r738 d5_5 M.2.2.2.1 (by decide) (by decide) rfl rfl
  have r740 := r739.lstoreN (pc' := 7) (L' := #[.val (.ref a), .val (.long x0), .second, .unset, .unset, .unset, .unset]) d5_6 rfl rfl
  have r741 := r740.aloadN (pc' := 8) d5_7 rfl rfl rfl
  have r742 := r741.getF (host := "") (pc' := 11) d5_8 (Or.inl (hw _ (List.mem_of_getElem? (i := 14) rfl))) Via.refl M.2.1 rfl
  have r743 := r742.aloadN (pc' := 12) d5_11 rfl rfl rfl
  have r744 := r743.dup (pc' := 13) d5_12 rfl rfl
  have r745 := r744.getF (host := "") (pc' := 16) d5_13 (Or.inl (hw _ (List.mem_of_getElem? (i := 21) rfl))) Via.refl M.2.2.1 rfl
  have r746 := r745.iconst (pc' := 17) (1 : Int32) d5_16 rfl rfl
  have r747 := r746.isub (pc' := 18) (u := (1 : Int32)) d5_17 (by decide) rfl
  have r748 := r747.dupx1 (pc' := 19) d5_18 rfl rfl rfl
  obtain ⟨h749, W749, r749⟩ := r748.putF (host := "") (pc' := 22) d5_19 (Or.inl (hw _ (List.mem_of_getElem? (i := 21) rfl))) Via.refl M.2.2.1 M.1 (Or.inl (hw _ (List.mem_of_getElem? (i := 22) rfl))) (hw _ (List.mem_of_getElem? (i := 6) rfl)) (ty := .int) (by decide) rfl rfl M.2.2.2.2.2.1 rfl
  have M749 : LH Z h749 n0 a vv [x0, x1, x2, x3, x4, 0, 0, 0, 0, 0, 0, 0, 0, 0, 0, 0] (1 : Int32) := LH.putSize M W749 (Or.inl (hw _ (List.mem_of_getElem? (i := 15) rfl))) (Or.inl (hw _ (List.mem_of_getElem? (i := 22) rfl)))
  have K749 := (Keep.refl h0 [a, vv]).wr W749 (Or.inl (by simp))
  have r750 := Rch.gJ (pc' := 23) x1 r749 d5_22 M749.2.2.2.1 (by decide) (by decide) rfl rfl
  have r751 := r750.lstoreN (pc' := 24) (L' := #[.val (.ref a), .val (.long x0), .second, .val (.long x1), .second, .unset, .unset]) d5_23 rfl rfl
  have r752 := r751.iconst (pc' := 25) (0 : Int32) d5_24 rfl rfl
  have r753 := r752.istore (pc' := 27) (L' := #[.val (.ref a), .val (.long x0), .second, .val (.long x1), .second, .val (.int (0 : Int32)), .unset]) d5_25 rfl rfl
  have r754 := r753.iconst (pc' := 28) (2 : Int32) d5_27 rfl rfl
  have r755 := r754.iload (pc' := 30) d5_28 rfl rfl
  have r756 := r755.imul (pc' := 31) (u := (0 : Int32)) d5_30 (by decide) rfl
  have r757 := r756.iconst (pc' := 32) (1 : Int32) d5_31 rfl rfl
  have r758 := r757.iadd (pc' := 33) (u := (1 : Int32)) d5_32 (by decide) rfl
  have r759 := r758.aloadN (pc' := 34) d5_33 rfl rfl rfl
  have r760 := r759.getF (host := "") (pc' := 37) d5_34 (Or.inl (hw _ (List.mem_of_getElem? (i := 21) rfl))) Via.refl M749.2.2.1 rfl
  have r761 := r760.icT (pc' := 118) d5_37 (flt (by decide : ¬ (1 : Int32) < (1 : Int32))).2.1 (by decide) (by decide)
  have r762 := r761.aloadN (pc' := 119) d5_118 rfl rfl rfl
  have r763 := r762.getF (host := "") (pc' := 122) d5_119 (Or.inl (hw _ (List.mem_of_getElem? (i := 14) rfl))) Via.refl M749.2.1 rfl
  have r764 := r763.iload (pc' := 124) d5_122 rfl rfl
  have r765 := r764.lloadN (pc' := 125) d5_124 rfl rfl
  obtain ⟨h766, W766, V766, r766⟩ := r765.sJ (pc' := 126) d5_125 M749.2.2.2.1 (by decide) (by decide) (Nat.le_of_ble_eq_true rfl) M749.2.2.2.2.2.2 rfl
  have M766 : LH Z h766 n0 a vv [x1, x1, x2, x3, x4, 0, 0, 0, 0, 0, 0, 0, 0, 0, 0, 0] (1 : Int32) := LH.putElem M749 W766 V766
  have K766 := K749.wr W766 (Or.inl (by simp))
  have r767 := r766.lloadN (pc' := 127) d5_126 rfl rfl
  exact ⟨_, _, r767.retJ d5_127 rfl (by decide) (by decide), rfl, x1, x1, x2, x3, x4, M766, trivial, fun z => by simp only [List.count_cons, List.count_nil] <;> omega, (by omega), K766⟩
set_option maxRecDepth 65536 in
set_option maxHeartbeats 40000000 in
theorem poll1 (l : Launch) (Z : State) (a0 : Array Value) (hw : ∀ d ∈ tables_1, d.before a0 Z = true) (a vv : Addr) (x0 x1 x2 x3 x4 : Int64) (h0 : Heap) (n0 : Nat) (M : LH Z h0 n0 a vv [x0, x1, x2, x3, x4, 0, 0, 0, 0, 0, 0, 0, 0, 0, 0, 0] (1 : Int32)) (hH : True) :
    Ctr l Z (⟨"com/example/hailstream/hailstream/LongHeap", "poll", "()J"⟩ : MethodName) prog_12_method_5_code 7 (some .long) ({ frames := 0, cells := 0, slots := 0, locals := 0 } : Room) #[(.ref a)] h0 n0 (fun v h => v = some (.long x0) ∧ ∃ y0 y1 y2 y3 y4 : Int64, LH Z h n0 a vv [y0, y1, y2, y3, y4, 0, 0, 0, 0, 0, 0, 0, 0, 0, 0, 0] (0 : Int32) ∧ (True) ∧ (∀ z, List.count z [x0] = List.count z [x0]) ∧ (True) ∧ Keep h0 h [a, vv]) := by
  refine ent (plainFor_of_name pn_com_example_hailstream_hailstream_LongHeap) (L0 := #[.val (.ref a), .unset, .unset, .unset, .unset, .unset, .unset]) (fun m => by first | (simp [entryFrame, mkF, argsToLocals, Value.category]; done) | rfl) ?_
  intro p e s m below meth c T0 r0
  have r768 := r0.aloadN (pc' := 1) d5_0 rfl rfl rfl
  have r769 := r768.getF (host := "") (pc' := 4) d5_1 (Or.inl (hw _ (List.mem_of_getElem? (i := 14) rfl))) Via.refl M.2.1 rfl
  have r770 := r769.iconst (pc' := 5) (0 : Int32) d5_4 rfl rfl
  have r771 := Rch.gJ (pc' := 6) x0 r770 d5_5 M.2.2.2.1 (by decide) (by decide) rfl rfl
  have r772 := r771.lstoreN (pc' := 7) (L' := #[.val (.ref a), .val (.long x0), .second, .unset, .unset, .unset, .unset]) d5_6 rfl rfl
  have r773 := r772.aloadN (pc' := 8) d5_7 rfl rfl rfl
  have r774 := r773.getF (host := "") (pc' := 11) d5_8 (Or.inl (hw _ (List.mem_of_getElem? (i := 14) rfl))) Via.refl M.2.1 rfl
  have r775 := r774.aloadN (pc' := 12) d5_11 rfl rfl rfl
  have r776 := r775.dup (pc' := 13) d5_12 rfl rfl
  have r777 := r776.getF (host := "") (pc' := 16) d5_13 (Or.inl (hw _ (List.mem_of_getElem? (i := 21) rfl))) Via.refl M.2.2.1 rfl
  have r778 := r777.iconst (pc' := 17) (1 : Int32) d5_16 rfl rfl
  have r779 := r778.isub (pc' := 18) (u := (0 : Int32)) d5_17 (by decide) rfl
  have r780 := r779.dupx1 (pc' := 19) d5_18 rfl rfl rfl
  obtain ⟨h781, W781, r781⟩ := r780.putF (host := "") (pc' := 22) d5_19 (Or.inl (hw _ (List.mem_of_getElem? (i := 21) rfl))) Via.refl M.2.2.1 M.1 (Or.inl (hw _ (List.mem_of_getElem? (i := 22) rfl))) (hw _ (List.mem_of_getElem? (i := 6) rfl)) (ty := .int) (by decide) rfl rfl M.2.2.2.2.2.1 rfl
  have M781 : LH Z h781 n0 a vv [x0, x1, x2, x3, x4, 0, 0, 0, 0, 0, 0, 0, 0, 0, 0, 0] (0 : Int32) := LH.putSize M W781 (Or.inl (hw _ (List.mem_of_getElem? (i := 15) rfl))) (Or.inl (hw _ (List.mem_of_getElem? (i := 22) rfl)))
  have K781 := (Keep.refl h0 [a, vv]).wr W781 (Or.inl (by simp))
  have r782 := Rch.gJ (pc' := 23) x0 r781 d5_22 M781.2.2.2.1 (by decide) (by decide) rfl rfl
  have r783 := r782.lstoreN (pc' := 24) (L' := #[.val (.ref a), .val (.long x0), .second, .val (.long x0), .second, .unset, .unset]) d5_23 rfl rfl
  have r784 := r783.iconst (pc' := 25) (0 : Int32) d5_24 rfl rfl
  have r785 := r784.istore (pc' := 27) (L' := #[.val (.ref a), .val (.long x0), .second, .val (.long x0), .second, .val (.int (0 : Int32)), .unset]) d5_25 rfl rfl
  have r786 := r785.iconst (pc' := 28) (2 : Int32) d5_27 rfl rfl
  have r787 := r786.iload (pc' := 30) d5_28 rfl rfl
  have r788 := r787.imul (pc' := 31) (u := (0 : Int32)) d5_30 (by decide) rfl
  have r789 := r788.iconst (pc' := 32) (1 : Int32) d5_31 rfl rfl
  have r790 := r789.iadd (pc' := 33) (u := (1 : Int32)) d5_32 (by decide) rfl
  have r791 := r790.aloadN (pc' := 34) d5_33 rfl rfl rfl
  have r792 := r791.getF (host := "") (pc' := 37) d5_34 (Or.inl (hw _ (List.mem_of_getElem? (i := 21) rfl))) Via.refl M781.2.2.1 rfl
  have r793 := r792.icT (pc' := 118) d5_37 (flt (by decide : ¬ (1 : Int32) < (0 : Int32))).2.1 (by decide) (by decide)
  have r794 := r793.aloadN (pc' := 119) d5_118 rfl rfl rfl
  have r795 := r794.getF (host := "") (pc' := 122) d5_119 (Or.inl (hw _ (List.mem_of_getElem? (i := 14) rfl))) Via.refl M781.2.1 rfl
  have r796 := r795.iload (pc' := 124) d5_122 rfl rfl
  have r797 := r796.lloadN (pc' := 125) d5_124 rfl rfl
  obtain ⟨h798, W798, V798, r798⟩ := r797.sJ (pc' := 126) d5_125 M781.2.2.2.1 (by decide) (by decide) (Nat.le_of_ble_eq_true rfl) M781.2.2.2.2.2.2 rfl
  have M798 : LH Z h798 n0 a vv [x0, x1, x2, x3, x4, 0, 0, 0, 0, 0, 0, 0, 0, 0, 0, 0] (0 : Int32) := LH.putElem M781 W798 V798
  have K798 := K781.wr W798 (Or.inl (by simp))
  have r799 := r798.lloadN (pc' := 127) d5_126 rfl rfl
  exact ⟨_, _, r799.retJ d5_127 rfl (by decide) (by decide), rfl, x0, x1, x2, x3, x4, M798, trivial, fun z => by simp only [List.count_cons, List.count_nil] <;> omega, trivial, K798⟩
theorem d6_0 : decode prog_12_method_2_code 0 = .ok (.aload_n 0, 1) := by decide +kernel
theorem d6_1 : decode prog_12_method_2_code 1 = .ok (.getfield 13, 3) := by decide +kernel
theorem d6_4 : decode prog_12_method_2_code 4 = .ok (.ifCond .ne 7, 3) := by decide +kernel
theorem d6_7 : decode prog_12_method_2_code 7 = .ok (.iconst 1, 1) := by decide +kernel
theorem d6_8 : decode prog_12_method_2_code 8 = .ok (.goto 4, 3) := by decide +kernel
theorem d6_12 : decode prog_12_method_2_code 12 = .ok (.ireturn, 1) := by decide +kernel
set_option maxRecDepth 65536 in
set_option maxHeartbeats 40000000 in
theorem emp (l : Launch) (Z : State) (a0 : Array Value) (hw : ∀ d ∈ tables_1, d.before a0 Z = true) (a vv : Addr) (F : List Int64) (h0 : Heap) (n0 : Nat) (M : LH Z h0 n0 a vv F 0) :
    Ctr l Z (⟨"com/example/hailstream/hailstream/LongHeap", "isEmpty", "()Z"⟩ : MethodName) prog_12_method_2_code 1 (some .boolean) ({ frames := 0, cells := 0, slots := 0, locals := 0 } : Room) #[(.ref a)] h0 n0 (fun v h => v = some (.int 1) ∧ h0 = h) := by
  refine ent (plainFor_of_name pn_com_example_hailstream_hailstream_LongHeap) (L0 := #[.val (.ref a)]) (fun m => by first | (simp [entryFrame, mkF, argsToLocals, Value.category]; done) | rfl) ?_
  intro p e s m below meth c T0 r0
  have r800 := r0.aloadN (pc' := 1) d6_0 rfl rfl rfl
  have r801 := r800.getF (host := "") (pc' := 4) d6_1 (Or.inl (hw _ (List.mem_of_getElem? (i := 21) rfl))) Via.refl M.2.2.1 rfl
  have r802 := r801.ifF (pc' := 7) d6_4 (teq (by decide : (0 : Int32) = (0 : Int32))).2 rfl
  have r803 := r802.iconst (pc' := 8) (1 : Int32) d6_7 rfl rfl
  have r804 := r803.goto (pc' := 12) d6_8 (by decide) (by decide)
  exact ⟨_, _, r804.retZ d6_12 rfl (t := .boolean) (by simp) (1 : Int32) rfl (by decide) (by decide), rfl, rfl⟩
theorem d2_0 : decode prog_12_method_1_code 0 = .ok (.aload_n 0, 1) := by decide +kernel
theorem d2_1 : decode prog_12_method_1_code 1 = .ok (.invokespecial 1, 3) := by decide +kernel
theorem d2_4 : decode prog_12_method_1_code 4 = .ok (.aload_n 0, 1) := by decide +kernel
theorem d2_5 : decode prog_12_method_1_code 5 = .ok (.bipush 16, 2) := by decide +kernel
theorem d2_7 : decode prog_12_method_1_code 7 = .ok (.newarray .long, 2) := by decide +kernel
theorem d2_9 : decode prog_12_method_1_code 9 = .ok (.putfield 7, 3) := by decide +kernel
theorem d2_12 : decode prog_12_method_1_code 12 = .ok (.return_, 1) := by decide +kernel
set_option maxRecDepth 65536 in
set_option maxHeartbeats 40000000 in
theorem ctor (l : Launch) (Z : State) (a0 : Array Value) (hw : ∀ d ∈ tables_1, d.before a0 Z = true) (a : Addr) (h0 : Heap) (n0 : Nat) (Z0 : n0 ≤ h0.size) (E : Exa Z h0 a "com/example/hailstream/hailstream/LongHeap") (F1 : Fld Z h0 a "com/example/hailstream/hailstream/LongHeap" "values" "[J" .null) (F2 : Fld Z h0 a "com/example/hailstream/hailstream/LongHeap" "size" "I" (.int 0)) (ga : n0 ≤ a) :
    Ctr l Z (⟨"com/example/hailstream/hailstream/LongHeap", "<init>", "()V"⟩ : MethodName) prog_12_method_1_code 1 none ({ frames := 1, cells := 1, slots := 16, locals := 13 } : Room) #[(.ref a)] h0 n0 (fun v h => v = none ∧ ∃ vv : Addr, LH Z h n0 a vv [0, 0, 0, 0, 0, 0, 0, 0, 0, 0, 0, 0, 0, 0, 0, 0] 0 ∧ h0.size ≤ vv ∧ Keep h0 h [a]) := by
  refine ent (plainFor_of_name pn_com_example_hailstream_hailstream_LongHeap) (L0 := #[.val (.ref a)]) (fun m => by first | (simp [entryFrame, mkF, argsToLocals, Value.category]; done) | rfl) ?_
  intro p e s m below meth c T0 r0
  have r805 := r0.aloadN (pc' := 1) d2_0 rfl rfl rfl
  have r806 := r805.initO (pc' := 4) 0 d2_1 (hw _ (List.mem_of_getElem? (i := 11) rfl)) (hw _ (List.mem_of_getElem? (i := 12) rfl)) (hw _ (List.mem_of_getElem? (i := 13) rfl)) rfl (by decide) (Nat.le_of_ble_eq_true rfl) (by decide) rfl
  have r807 := r806.aloadN (pc' := 5) d2_4 rfl rfl rfl
  have r808 := r807.bipush (pc' := 7) (16 : Int32) d2_5 rfl rfl
  obtain ⟨h809, b809, kc809, hb809, E809, V809, r809⟩ := r808.newP (pc' := 9) d2_7 (hw _ (List.mem_of_getElem? (i := 0) rfl)) (by decide) (cap := 16) (by decide) (by decide) (k' := 1) (n' := 16) rfl rfl (by decide) (by decide) rfl
  have g809 : n0 ≤ b809 := hb809 ▸ Z0
  have zp809 : n0 ≤ h809.size := Nat.le_trans Z0 E809.1
  have VJ : ArJ Z h809 b809 16 [0, 0, 0, 0, 0, 0, 0, 0, 0, 0, 0, 0, 0, 0, 0, 0] := ArJ.new V809 16
  have hne : a ≠ b809 := Nat.ne_of_lt (hb809 ▸ E.lt)
  obtain ⟨h9, W9, r9⟩ := r809.putF (host := "") (pc' := 12) d2_9 (Or.inl (hw _ (List.mem_of_getElem? (i := 14) rfl))) Via.refl (F1.ext E809) (E.ext E809) (Or.inl (hw _ (List.mem_of_getElem? (i := 15) rfl))) (hw _ (List.mem_of_getElem? (i := 6) rfl)) (ty := .array .long) (by decide) rfl rfl ga rfl
  have M : LH Z h9 n0 a b809 [0, 0, 0, 0, 0, 0, 0, 0, 0, 0, 0, 0, 0, 0, 0, 0] 0 := ⟨(E.ext E809).wr W9, (F1.ext E809).same W9, (F2.ext E809).other W9 (Or.inr (slot_ne (Or.inl (hw _ (List.mem_of_getElem? (i := 22) rfl))) (Or.inl (hw _ (List.mem_of_getElem? (i := 15) rfl))) (by decide) (t := .int) (t' := .array .long) (by decide) (by decide))), VJ.other W9 hne.symm, hne, ga, g809⟩
  have K9 : Keep h0 h9 [a] := ((Keep.refl h0 [a]).ext E809).wr W9 (Or.inl (by simp))
  exact ⟨_, _, r9.retV d2_12 rfl (by decide) (by decide), rfl, b809, M, Nat.le_of_eq hb809.symm, K9⟩
theorem pn_com_example_hailstream_hailstream_LongHeapPollPinLaw : plainName "com/example/hailstream/hailstream/LongHeapPollPinLaw" = true := by first | (simp [plainName, overriddenIn]; done) | decide +kernel
theorem d1_0 : decode method_3_code 0 = .ok (.aload_n 0, 1) := by decide +kernel
theorem d1_1 : decode method_3_code 1 = .ok (.iload_n 2, 1) := by decide +kernel
theorem d1_2 : decode method_3_code 2 = .ok (.laload, 1) := by decide +kernel
theorem d1_3 : decode method_3_code 3 = .ok (.aload_n 0, 1) := by decide +kernel
theorem d1_4 : decode method_3_code 4 = .ok (.iload_n 1, 1) := by decide +kernel
theorem d1_5 : decode method_3_code 5 = .ok (.laload, 1) := by decide +kernel
theorem d1_6 : decode method_3_code 6 = .ok (.lcmp, 1) := by decide +kernel
theorem d1_7 : decode method_3_code 7 = .ok (.ifCond .ge 17, 3) := by decide +kernel
theorem d1_10 : decode method_3_code 10 = .ok (.aload_n 0, 1) := by decide +kernel
theorem d1_11 : decode method_3_code 11 = .ok (.iload_n 1, 1) := by decide +kernel
theorem d1_12 : decode method_3_code 12 = .ok (.laload, 1) := by decide +kernel
theorem d1_13 : decode method_3_code 13 = .ok (.lstore_n 3, 1) := by decide +kernel
theorem d1_14 : decode method_3_code 14 = .ok (.aload_n 0, 1) := by decide +kernel
theorem d1_15 : decode method_3_code 15 = .ok (.iload_n 1, 1) := by decide +kernel
theorem d1_16 : decode method_3_code 16 = .ok (.aload_n 0, 1) := by decide +kernel
theorem d1_17 : decode method_3_code 17 = .ok (.iload_n 2, 1) := by decide +kernel
theorem d1_18 : decode method_3_code 18 = .ok (.laload, 1) := by decide +kernel
theorem d1_19 : decode method_3_code 19 = .ok (.lastore, 1) := by decide +kernel
theorem d1_20 : decode method_3_code 20 = .ok (.aload_n 0, 1) := by decide +kernel
theorem d1_21 : decode method_3_code 21 = .ok (.iload_n 2, 1) := by decide +kernel
theorem d1_22 : decode method_3_code 22 = .ok (.lload_n 3, 1) := by decide +kernel
theorem d1_23 : decode method_3_code 23 = .ok (.lastore, 1) := by decide +kernel
theorem d1_24 : decode method_3_code 24 = .ok (.return_, 1) := by decide +kernel
set_option maxRecDepth 65536 in
set_option maxHeartbeats 40000000 in
theorem cs (l : Launch) (Z : State) (a0 : Array Value) (hw : ∀ d ∈ tables_1, d.before a0 Z = true) (a : Addr) (i j : Int32) (F : List Int64) (xi xj : Int64) (h0 : Heap) (n0 : Nat) (V : ArJ Z h0 a 5 F) (h1 : ¬ i < 0) (h2 : i < 5) (h3 : ¬ j < 0) (h4 : j < 5) (e1 : F.getD i.toNatClampNeg 0 = xi) (e2 : F.getD j.toNatClampNeg 0 = xj) (l1 : i.toNatClampNeg < F.length) (l2 : j.toNatClampNeg < F.length) (hij : i.toNatClampNeg ≠ j.toNatClampNeg) (ga : n0 ≤ a) :
    Ctr l Z (⟨"com/example/hailstream/hailstream/LongHeapPollPinLaw", "cs", "([JII)V"⟩ : MethodName) method_3_code 5 none ({ frames := 0, cells := 0, slots := 0, locals := 0 } : Room) #[(.ref a), (.int i), (.int j)] h0 n0 (fun v h => v = none ∧ ((xi.toInt ≤ xj.toInt ∧ ArJ Z h a 5 F) ∨ (xj.toInt ≤ xi.toInt ∧ ArJ Z h a 5 ((F.set i.toNatClampNeg xj).set j.toNatClampNeg xi))) ∧ Keep h0 h [a]) := by
  refine ent (plainFor_of_name pn_com_example_hailstream_hailstream_LongHeapPollPinLaw) (L0 := #[.val (.ref a), .val (.int i), .val (.int j), .unset, .unset]) (fun m => by first | (simp [entryFrame, mkF, argsToLocals, Value.category]; done) | rfl) ?_
  intro p e s m below meth c T0 r0
  have r810 := r0.aloadN (pc' := 1) d1_0 rfl rfl rfl
  have r811 := r810.iloadN (pc' := 2) d1_1 rfl rfl
  have r812 := Rch.gJ (pc' := 3) xj r811 d1_2 V h3 h4 e2 rfl
  have r813 := r812.aloadN (pc' := 4) d1_3 rfl rfl rfl
  have r814 := r813.iloadN (pc' := 5) d1_4 rfl rfl
  have r815 := Rch.gJ (pc' := 6) xi r814 d1_5 V h1 h2 e1 rfl
  have r816 := r815.lcmp (pc' := 7) d1_6 rfl rfl
  by_cases hc817 : (lcmpW xj xi) < (0 : Int32)
  · -- yes
    have r818 := r816.ifF (pc' := 10) d1_7 (tlt hc817).2.1 rfl
    have r819 := r818.aloadN (pc' := 11) d1_10 rfl rfl rfl
    have r820 := r819.iloadN (pc' := 12) d1_11 rfl rfl
    have r821 := Rch.gJ (pc' := 13) xi r820 d1_12 V h1 h2 e1 rfl
    have r822 := r821.lstoreN (pc' := 14) (L' := #[.val (.ref a), .val (.int i), .val (.int j), .val (.long xi), .second]) d1_13 rfl rfl
    have r823 := r822.aloadN (pc' := 15) d1_14 rfl rfl rfl
    have r824 := r823.iloadN (pc' := 16) d1_15 rfl rfl
    have r825 := r824.aloadN (pc' := 17) d1_16 rfl rfl rfl
    have r826 := r825.iloadN (pc' := 18) d1_17 rfl rfl
    have r827 := Rch.gJ (pc' := 19) xj r826 d1_18 V h3 h4 e2 rfl
    obtain ⟨h5, W5, V5, r5⟩ := r827.sJ (pc' := 20) d1_19 V h1 h2 l1 ga rfl
    have r828 := r5.aloadN (pc' := 21) d1_20 rfl rfl rfl
    have r829 := r828.iloadN (pc' := 22) d1_21 rfl rfl
    have r830 := r829.lloadN (pc' := 23) d1_22 rfl rfl
    obtain ⟨h6, W6, V6, r6⟩ := r830.sJ (pc' := 24) d1_23 V5 h3 h4 (by simpa using l2) ga rfl
    simp only [lw_lt, Int64.lt_iff_toInt_lt] at hc817
    exact ⟨_, _, r6.retV d1_24 rfl (by decide) (by decide), rfl, Or.inr ⟨by omega, V6⟩, ((Keep.refl h0 [a]).wr W5 (Or.inl (by simp))).wr W6 (Or.inl (by simp))⟩
  · -- not no
    have r831 := r816.ifT (pc' := 24) d1_7 (flt hc817).2.1 (by decide) (by decide)
    simp only [lw_lt, Int64.lt_iff_toInt_lt] at hc817
    exact ⟨_, _, r831.retV d1_24 rfl (by decide) (by decide), rfl, Or.inl ⟨by omega, V⟩, Keep.refl _ _⟩
theorem sort5 {s0 s1 s2 s3 s4 p0 p1 p2 p3 p4 : Int64} (a1 : s0.toInt ≤ s1.toInt) (a2 : s1.toInt ≤ s2.toInt) (a3 : s2.toInt ≤ s3.toInt) (a4 : s3.toInt ≤ s4.toInt) (b1 : p0.toInt ≤ p1.toInt) (b2 : p1.toInt ≤ p2.toInt) (b3 : p2.toInt ≤ p3.toInt) (b4 : p3.toInt ≤ p4.toInt) (hc : ∀ z, List.count z [p0, p1, p2, p3, p4] = List.count z [s0, s1, s2, s3, s4]) : p0 = s0 ∧ p1 = s1 ∧ p2 = s2 ∧ p3 = s3 ∧ p4 = s4 := by
  have hp : List.Perm [p0, p1, p2, p3, p4] [s0, s1, s2, s3, s4] := List.perm_iff_count.mpr hc
  have := hp.eq_of_pairwise (le := fun a b : Int64 => a.toInt ≤ b.toInt) (fun a b _ _ h1 h2 => Int64.toInt_inj.mp (by omega)) (by simp; omega) (by simp; omega)
  simpa using this
theorem pd_5 : parseMethodDescriptor "([JII)V" = some ⟨[(.array .long), .int, .int], none⟩ := by decide +kernel
theorem pd_1 : parseMethodDescriptor "()V" = some ⟨[], none⟩ := by decide +kernel
theorem pd_3 : parseMethodDescriptor "(J)V" = some ⟨[.long], none⟩ := by decide +kernel
theorem pd_0 : parseMethodDescriptor "()J" = some ⟨[], some .long⟩ := by decide +kernel
theorem pd_2 : parseMethodDescriptor "()Z" = some ⟨[], some .boolean⟩ := by decide +kernel
set_option maxRecDepth 65536 in
set_option maxHeartbeats 40000000 in
theorem law (l : Launch) (Z : State) (a0 : Array Value) (hw : ∀ d ∈ tables_1, d.before a0 Z = true) (i0 i1 i2 i3 i4 : Int64) (h0 : Heap) (n0 : Nat) (Z0 : n0 ≤ h0.size) :
    Ctr l Z x code maxLocals ret room_1 #[(.long i0), (.long i1), (.long i2), (.long i3), (.long i4)] h0 n0 (fun v h => v = some (.int 1)) := by
  refine ent (plainFor_of_name pn_com_example_hailstream_hailstream_LongHeapPollPinLaw) (L0 := #[.val (.long i0), .second, .val (.long i1), .second, .val (.long i2), .second, .val (.long i3), .second, .val (.long i4), .second, .unset, .unset, .unset, .unset, .unset, .unset, .unset, .unset, .unset, .unset, .unset, .unset]) (fun m => by first | (simp [entryFrame, mkF, argsToLocals, Value.category, maxLocals]; done) | rfl) ?_
  intro p e s m below meth c T0 r0
  have r832 := r0.iconst (pc' := 1) (5 : Int32) at_0 rfl rfl
  obtain ⟨h833, b833, kc833, hb833, E833, V833, r833⟩ := r832.newP (pc' := 3) at_1 (hw _ (List.mem_of_getElem? (i := 0) rfl)) (by decide) (cap := 5) (by decide) (by decide) (k' := 1) (n' := 5) rfl rfl (by decide) (by decide) rfl
  have g833 : n0 ≤ b833 := hb833 ▸ Z0
  have zp833 : n0 ≤ h833.size := Nat.le_trans Z0 E833.1
  have V0 : ArJ Z h833 b833 5 [0, 0, 0, 0, 0] := ArJ.new V833 5
  have r834 := r833.astore (pc' := 5) (L' := #[.val (.long i0), .second, .val (.long i1), .second, .val (.long i2), .second, .val (.long i3), .second, .val (.long i4), .second, .val (.ref b833), .unset, .unset, .unset, .unset, .unset, .unset, .unset, .unset, .unset, .unset, .unset]) at_3 rfl rfl rfl
  have r835 := r834.aload (pc' := 7) at_5 rfl rfl rfl
  have r836 := r835.iconst (pc' := 8) (0 : Int32) at_7 rfl rfl
  have r837 := r836.lloadN (pc' := 9) at_8 rfl rfl
  obtain ⟨h838, W838, V838, r838⟩ := r837.sJ (pc' := 10) at_9 V0 (by decide) (by decide) (Nat.le_of_ble_eq_true rfl) g833 rfl
  replace V838 : ArJ Z h838 b833 5 [i0, 0, 0, 0, 0] := V838
  have zp838 : n0 ≤ h838.size := Nat.le_trans zp833 (Nat.le_of_eq W838.size.symm)
  have r839 := r838.aload (pc' := 12) at_10 rfl rfl rfl
  have r840 := r839.iconst (pc' := 13) (1 : Int32) at_12 rfl rfl
  have r841 := r840.lloadN (pc' := 14) at_13 rfl rfl
  obtain ⟨h842, W842, V842, r842⟩ := r841.sJ (pc' := 15) at_14 V838 (by decide) (by decide) (Nat.le_of_ble_eq_true rfl) g833 rfl
  replace V842 : ArJ Z h842 b833 5 [i0, i1, 0, 0, 0] := V842
  have zp842 : n0 ≤ h842.size := Nat.le_trans zp838 (Nat.le_of_eq W842.size.symm)
  have r843 := r842.aload (pc' := 17) at_15 rfl rfl rfl
  have r844 := r843.iconst (pc' := 18) (2 : Int32) at_17 rfl rfl
  have r845 := r844.lload (pc' := 20) at_18 rfl rfl
  obtain ⟨h846, W846, V846, r846⟩ := r845.sJ (pc' := 21) at_20 V842 (by decide) (by decide) (Nat.le_of_ble_eq_true rfl) g833 rfl
  replace V846 : ArJ Z h846 b833 5 [i0, i1, i2, 0, 0] := V846
  have zp846 : n0 ≤ h846.size := Nat.le_trans zp842 (Nat.le_of_eq W846.size.symm)
  have r847 := r846.aload (pc' := 23) at_21 rfl rfl rfl
  have r848 := r847.iconst (pc' := 24) (3 : Int32) at_23 rfl rfl
  have r849 := r848.lload (pc' := 26) at_24 rfl rfl
  obtain ⟨h850, W850, V850, r850⟩ := r849.sJ (pc' := 27) at_26 V846 (by decide) (by decide) (Nat.le_of_ble_eq_true rfl) g833 rfl
  replace V850 : ArJ Z h850 b833 5 [i0, i1, i2, i3, 0] := V850
  have zp850 : n0 ≤ h850.size := Nat.le_trans zp846 (Nat.le_of_eq W850.size.symm)
  have r851 := r850.aload (pc' := 29) at_27 rfl rfl rfl
  have r852 := r851.iconst (pc' := 30) (4 : Int32) at_29 rfl rfl
  have r853 := r852.lload (pc' := 32) at_30 rfl rfl
  obtain ⟨h854, W854, V854, r854⟩ := r853.sJ (pc' := 33) at_32 V850 (by decide) (by decide) (Nat.le_of_ble_eq_true rfl) g833 rfl
  replace V854 : ArJ Z h854 b833 5 [i0, i1, i2, i3, i4] := V854
  have zp854 : n0 ≤ h854.size := Nat.le_trans zp850 (Nat.le_of_eq W854.size.symm)
  have r855 := r854.aload (pc' := 35) at_33 rfl rfl rfl
  have r856 := r855.iconst (pc' := 36) (0 : Int32) at_35 rfl rfl
  have r857 := r856.iconst (pc' := 37) (3 : Int32) at_36 rfl rfl
  obtain ⟨v861, h862, hq860, r859⟩ := r857.callS (pc' := 40) [(.ref b833), (.int (0 : Int32)), (.int (3 : Int32))] (rest := []) 0 at_37 (hw _ (List.mem_of_getElem? (i := 1) rfl)) (hw _ (List.mem_of_getElem? (i := 2) rfl)) (hw _ (List.mem_of_getElem? (i := 3) rfl)) (hw _ (List.mem_of_getElem? (i := 4) rfl)) (by decide) (cs l Z a0 hw b833 (0 : Int32) (3 : Int32) [i0, i1, i2, i3, i4] i0 i3 h854 n0 V854 (by decide) (by decide) (by decide) (by decide) rfl rfl (Nat.le_of_ble_eq_true rfl) (Nat.le_of_ble_eq_true rfl) (by decide) g833) pd_5 rfl rfl rfl (Nat.le_of_ble_eq_true rfl) (by decide) (by decide) (k' := 1) (n' := 5) rfl rfl (by decide) (by decide) rfl
  obtain ⟨rfl, D858, K858⟩ := hq860
  dsimp only [Option.toList, List.cons_append, List.nil_append] at r859
  obtain ⟨u0, v0, huw, V858⟩ : ∃ u v : Int64, ((u = i0 ∧ v = i3 ∧ i0.toInt ≤ i3.toInt) ∨ (u = i3 ∧ v = i0 ∧ i3.toInt ≤ i0.toInt)) ∧ ArJ Z h862 b833 5 [u, i1, i2, v, i4] := by
    rcases D858 with ⟨q1, q2⟩ | ⟨q1, q2⟩
    · exact ⟨_, _, Or.inl ⟨rfl, rfl, q1⟩, q2⟩
    · exact ⟨_, _, Or.inr ⟨rfl, rfl, q1⟩, q2⟩
  have O0 : (u0.toInt ≤ v0.toInt) := by rcases huw with ⟨rfl, rfl, q⟩ | ⟨rfl, rfl, q⟩ <;> omega
  have cn0 : ∀ z, List.count z [u0, i1, i2, v0, i4] = List.count z [i0, i1, i2, i3, i4] := by intro z; rcases huw with ⟨rfl, rfl, q⟩ | ⟨rfl, rfl, q⟩ <;> simp only [List.count_cons, List.count_nil] <;> omega
  clear huw
  have zp858 : n0 ≤ h862.size := Nat.le_trans zp854 K858.1
  have r863 := r859.aload (pc' := 42) at_40 rfl rfl rfl
  have r864 := r863.iconst (pc' := 43) (1 : Int32) at_42 rfl rfl
  have r865 := r864.iconst (pc' := 44) (4 : Int32) at_43 rfl rfl
  obtain ⟨v869, h870, hq868, r867⟩ := r865.callS (pc' := 47) [(.ref b833), (.int (1 : Int32)), (.int (4 : Int32))] (rest := []) 0 at_44 (hw _ (List.mem_of_getElem? (i := 1) rfl)) (hw _ (List.mem_of_getElem? (i := 2) rfl)) (hw _ (List.mem_of_getElem? (i := 3) rfl)) (hw _ (List.mem_of_getElem? (i := 4) rfl)) (by decide) (cs l Z a0 hw b833 (1 : Int32) (4 : Int32) [u0, i1, i2, v0, i4] i1 i4 h862 n0 V858 (by decide) (by decide) (by decide) (by decide) rfl rfl (Nat.le_of_ble_eq_true rfl) (Nat.le_of_ble_eq_true rfl) (by decide) g833) pd_5 rfl rfl rfl (Nat.le_of_ble_eq_true rfl) (by decide) (by decide) (k' := 1) (n' := 5) rfl rfl (by decide) (by decide) rfl
  obtain ⟨rfl, D866, K866⟩ := hq868
  dsimp only [Option.toList, List.cons_append, List.nil_append] at r867
  obtain ⟨u1, v1, huw, V866⟩ : ∃ u v : Int64, ((u = i1 ∧ v = i4 ∧ i1.toInt ≤ i4.toInt) ∨ (u = i4 ∧ v = i1 ∧ i4.toInt ≤ i1.toInt)) ∧ ArJ Z h870 b833 5 [u0, u, i2, v0, v] := by
    rcases D866 with ⟨q1, q2⟩ | ⟨q1, q2⟩
    · exact ⟨_, _, Or.inl ⟨rfl, rfl, q1⟩, q2⟩
    · exact ⟨_, _, Or.inr ⟨rfl, rfl, q1⟩, q2⟩
  have O1 : (u0.toInt ≤ v0.toInt) ∧ (u1.toInt ≤ v1.toInt) := by rcases huw with ⟨rfl, rfl, q⟩ | ⟨rfl, rfl, q⟩ <;> omega
  have cn1 : ∀ z, List.count z [u0, u1, i2, v0, v1] = List.count z [u0, i1, i2, v0, i4] := by intro z; rcases huw with ⟨rfl, rfl, q⟩ | ⟨rfl, rfl, q⟩ <;> simp only [List.count_cons, List.count_nil] <;> omega
  clear huw
  have zp866 : n0 ≤ h870.size := Nat.le_trans zp858 K866.1
  have r871 := r867.aload (pc' := 49) at_47 rfl rfl rfl
  have r872 := r871.iconst (pc' := 50) (0 : Int32) at_49 rfl rfl
  have r873 := r872.iconst (pc' := 51) (2 : Int32) at_50 rfl rfl
  obtain ⟨v877, h878, hq876, r875⟩ := r873.callS (pc' := 54) [(.ref b833), (.int (0 : Int32)), (.int (2 : Int32))] (rest := []) 0 at_51 (hw _ (List.mem_of_getElem? (i := 1) rfl)) (hw _ (List.mem_of_getElem? (i := 2) rfl)) (hw _ (List.mem_of_getElem? (i := 3) rfl)) (hw _ (List.mem_of_getElem? (i := 4) rfl)) (by decide) (cs l Z a0 hw b833 (0 : Int32) (2 : Int32) [u0, u1, i2, v0, v1] u0 i2 h870 n0 V866 (by decide) (by decide) (by decide) (by decide) rfl rfl (Nat.le_of_ble_eq_true rfl) (Nat.le_of_ble_eq_true rfl) (by decide) g833) pd_5 rfl rfl rfl (Nat.le_of_ble_eq_true rfl) (by decide) (by decide) (k' := 1) (n' := 5) rfl rfl (by decide) (by decide) rfl
  obtain ⟨rfl, D874, K874⟩ := hq876
  dsimp only [Option.toList, List.cons_append, List.nil_append] at r875
  obtain ⟨u2, v2, huw, V874⟩ : ∃ u v : Int64, ((u = u0 ∧ v = i2 ∧ u0.toInt ≤ i2.toInt) ∨ (u = i2 ∧ v = u0 ∧ i2.toInt ≤ u0.toInt)) ∧ ArJ Z h878 b833 5 [u, u1, v, v0, v1] := by
    rcases D874 with ⟨q1, q2⟩ | ⟨q1, q2⟩
    · exact ⟨_, _, Or.inl ⟨rfl, rfl, q1⟩, q2⟩
    · exact ⟨_, _, Or.inr ⟨rfl, rfl, q1⟩, q2⟩
  have O2 : (u2.toInt ≤ v2.toInt) ∧ (u2.toInt ≤ v0.toInt) ∧ (u1.toInt ≤ v1.toInt) := by rcases huw with ⟨rfl, rfl, q⟩ | ⟨rfl, rfl, q⟩ <;> omega
  have cn2 : ∀ z, List.count z [u2, u1, v2, v0, v1] = List.count z [u0, u1, i2, v0, v1] := by intro z; rcases huw with ⟨rfl, rfl, q⟩ | ⟨rfl, rfl, q⟩ <;> simp only [List.count_cons, List.count_nil] <;> omega
  clear huw
  have zp874 : n0 ≤ h878.size := Nat.le_trans zp866 K874.1
  have r879 := r875.aload (pc' := 56) at_54 rfl rfl rfl
  have r880 := r879.iconst (pc' := 57) (1 : Int32) at_56 rfl rfl
  have r881 := r880.iconst (pc' := 58) (3 : Int32) at_57 rfl rfl
  obtain ⟨v885, h886, hq884, r883⟩ := r881.callS (pc' := 61) [(.ref b833), (.int (1 : Int32)), (.int (3 : Int32))] (rest := []) 0 at_58 (hw _ (List.mem_of_getElem? (i := 1) rfl)) (hw _ (List.mem_of_getElem? (i := 2) rfl)) (hw _ (List.mem_of_getElem? (i := 3) rfl)) (hw _ (List.mem_of_getElem? (i := 4) rfl)) (by decide) (cs l Z a0 hw b833 (1 : Int32) (3 : Int32) [u2, u1, v2, v0, v1] u1 v0 h878 n0 V874 (by decide) (by decide) (by decide) (by decide) rfl rfl (Nat.le_of_ble_eq_true rfl) (Nat.le_of_ble_eq_true rfl) (by decide) g833) pd_5 rfl rfl rfl (Nat.le_of_ble_eq_true rfl) (by decide) (by decide) (k' := 1) (n' := 5) rfl rfl (by decide) (by decide) rfl
  obtain ⟨rfl, D882, K882⟩ := hq884
  dsimp only [Option.toList, List.cons_append, List.nil_append] at r883
  obtain ⟨u3, v3, huw, V882⟩ : ∃ u v : Int64, ((u = u1 ∧ v = v0 ∧ u1.toInt ≤ v0.toInt) ∨ (u = v0 ∧ v = u1 ∧ v0.toInt ≤ u1.toInt)) ∧ ArJ Z h886 b833 5 [u2, u, v2, v, v1] := by
    rcases D882 with ⟨q1, q2⟩ | ⟨q1, q2⟩
    · exact ⟨_, _, Or.inl ⟨rfl, rfl, q1⟩, q2⟩
    · exact ⟨_, _, Or.inr ⟨rfl, rfl, q1⟩, q2⟩
  have O3 : (u2.toInt ≤ v2.toInt) ∧ (u2.toInt ≤ v3.toInt) ∧ (u3.toInt ≤ v3.toInt) ∧ (u3.toInt ≤ v1.toInt) := by rcases huw with ⟨rfl, rfl, q⟩ | ⟨rfl, rfl, q⟩ <;> omega
  have cn3 : ∀ z, List.count z [u2, u3, v2, v3, v1] = List.count z [u2, u1, v2, v0, v1] := by intro z; rcases huw with ⟨rfl, rfl, q⟩ | ⟨rfl, rfl, q⟩ <;> simp only [List.count_cons, List.count_nil] <;> omega
  clear huw
  have zp882 : n0 ≤ h886.size := Nat.le_trans zp874 K882.1
  have r887 := r883.aload (pc' := 63) at_61 rfl rfl rfl
  have r888 := r887.iconst (pc' := 64) (0 : Int32) at_63 rfl rfl
  have r889 := r888.iconst (pc' := 65) (1 : Int32) at_64 rfl rfl
  obtain ⟨v893, h894, hq892, r891⟩ := r889.callS (pc' := 68) [(.ref b833), (.int (0 : Int32)), (.int (1 : Int32))] (rest := []) 0 at_65 (hw _ (List.mem_of_getElem? (i := 1) rfl)) (hw _ (List.mem_of_getElem? (i := 2) rfl)) (hw _ (List.mem_of_getElem? (i := 3) rfl)) (hw _ (List.mem_of_getElem? (i := 4) rfl)) (by decide) (cs l Z a0 hw b833 (0 : Int32) (1 : Int32) [u2, u3, v2, v3, v1] u2 u3 h886 n0 V882 (by decide) (by decide) (by decide) (by decide) rfl rfl (Nat.le_of_ble_eq_true rfl) (Nat.le_of_ble_eq_true rfl) (by decide) g833) pd_5 rfl rfl rfl (Nat.le_of_ble_eq_true rfl) (by decide) (by decide) (k' := 1) (n' := 5) rfl rfl (by decide) (by decide) rfl
  obtain ⟨rfl, D890, K890⟩ := hq892
  dsimp only [Option.toList, List.cons_append, List.nil_append] at r891
  obtain ⟨u4, v4, huw, V890⟩ : ∃ u v : Int64, ((u = u2 ∧ v = u3 ∧ u2.toInt ≤ u3.toInt) ∨ (u = u3 ∧ v = u2 ∧ u3.toInt ≤ u2.toInt)) ∧ ArJ Z h894 b833 5 [u, v, v2, v3, v1] := by
    rcases D890 with ⟨q1, q2⟩ | ⟨q1, q2⟩
    · exact ⟨_, _, Or.inl ⟨rfl, rfl, q1⟩, q2⟩
    · exact ⟨_, _, Or.inr ⟨rfl, rfl, q1⟩, q2⟩
  have O4 : (u4.toInt ≤ v4.toInt) ∧ (u4.toInt ≤ v2.toInt) ∧ (u4.toInt ≤ v3.toInt) ∧ (u4.toInt ≤ v1.toInt) ∧ (v4.toInt ≤ v3.toInt) := by rcases huw with ⟨rfl, rfl, q⟩ | ⟨rfl, rfl, q⟩ <;> omega
  have cn4 : ∀ z, List.count z [u4, v4, v2, v3, v1] = List.count z [u2, u3, v2, v3, v1] := by intro z; rcases huw with ⟨rfl, rfl, q⟩ | ⟨rfl, rfl, q⟩ <;> simp only [List.count_cons, List.count_nil] <;> omega
  clear huw
  have zp890 : n0 ≤ h894.size := Nat.le_trans zp882 K890.1
  have r895 := r891.aload (pc' := 70) at_68 rfl rfl rfl
  have r896 := r895.iconst (pc' := 71) (2 : Int32) at_70 rfl rfl
  have r897 := r896.iconst (pc' := 72) (4 : Int32) at_71 rfl rfl
  obtain ⟨v901, h902, hq900, r899⟩ := r897.callS (pc' := 75) [(.ref b833), (.int (2 : Int32)), (.int (4 : Int32))] (rest := []) 0 at_72 (hw _ (List.mem_of_getElem? (i := 1) rfl)) (hw _ (List.mem_of_getElem? (i := 2) rfl)) (hw _ (List.mem_of_getElem? (i := 3) rfl)) (hw _ (List.mem_of_getElem? (i := 4) rfl)) (by decide) (cs l Z a0 hw b833 (2 : Int32) (4 : Int32) [u4, v4, v2, v3, v1] v2 v1 h894 n0 V890 (by decide) (by decide) (by decide) (by decide) rfl rfl (Nat.le_of_ble_eq_true rfl) (Nat.le_of_ble_eq_true rfl) (by decide) g833) pd_5 rfl rfl rfl (Nat.le_of_ble_eq_true rfl) (by decide) (by decide) (k' := 1) (n' := 5) rfl rfl (by decide) (by decide) rfl
  obtain ⟨rfl, D898, K898⟩ := hq900
  dsimp only [Option.toList, List.cons_append, List.nil_append] at r899
  obtain ⟨u5, v5, huw, V898⟩ : ∃ u v : Int64, ((u = v2 ∧ v = v1 ∧ v2.toInt ≤ v1.toInt) ∨ (u = v1 ∧ v = v2 ∧ v1.toInt ≤ v2.toInt)) ∧ ArJ Z h902 b833 5 [u4, v4, u, v3, v] := by
    rcases D898 with ⟨q1, q2⟩ | ⟨q1, q2⟩
    · exact ⟨_, _, Or.inl ⟨rfl, rfl, q1⟩, q2⟩
    · exact ⟨_, _, Or.inr ⟨rfl, rfl, q1⟩, q2⟩
  have O5 : (u4.toInt ≤ v4.toInt) ∧ (u4.toInt ≤ u5.toInt) ∧ (u4.toInt ≤ v3.toInt) ∧ (u4.toInt ≤ v5.toInt) ∧ (v4.toInt ≤ v3.toInt) ∧ (u5.toInt ≤ v5.toInt) := by rcases huw with ⟨rfl, rfl, q⟩ | ⟨rfl, rfl, q⟩ <;> omega
  have cn5 : ∀ z, List.count z [u4, v4, u5, v3, v5] = List.count z [u4, v4, v2, v3, v1] := by intro z; rcases huw with ⟨rfl, rfl, q⟩ | ⟨rfl, rfl, q⟩ <;> simp only [List.count_cons, List.count_nil] <;> omega
  clear huw
  have zp898 : n0 ≤ h902.size := Nat.le_trans zp890 K898.1
  have r903 := r899.aload (pc' := 77) at_75 rfl rfl rfl
  have r904 := r903.iconst (pc' := 78) (1 : Int32) at_77 rfl rfl
  have r905 := r904.iconst (pc' := 79) (2 : Int32) at_78 rfl rfl
  obtain ⟨v909, h910, hq908, r907⟩ := r905.callS (pc' := 82) [(.ref b833), (.int (1 : Int32)), (.int (2 : Int32))] (rest := []) 0 at_79 (hw _ (List.mem_of_getElem? (i := 1) rfl)) (hw _ (List.mem_of_getElem? (i := 2) rfl)) (hw _ (List.mem_of_getElem? (i := 3) rfl)) (hw _ (List.mem_of_getElem? (i := 4) rfl)) (by decide) (cs l Z a0 hw b833 (1 : Int32) (2 : Int32) [u4, v4, u5, v3, v5] v4 u5 h902 n0 V898 (by decide) (by decide) (by decide) (by decide) rfl rfl (Nat.le_of_ble_eq_true rfl) (Nat.le_of_ble_eq_true rfl) (by decide) g833) pd_5 rfl rfl rfl (Nat.le_of_ble_eq_true rfl) (by decide) (by decide) (k' := 1) (n' := 5) rfl rfl (by decide) (by decide) rfl
  obtain ⟨rfl, D906, K906⟩ := hq908
  dsimp only [Option.toList, List.cons_append, List.nil_append] at r907
  obtain ⟨u6, v6, huw, V906⟩ : ∃ u v : Int64, ((u = v4 ∧ v = u5 ∧ v4.toInt ≤ u5.toInt) ∨ (u = u5 ∧ v = v4 ∧ u5.toInt ≤ v4.toInt)) ∧ ArJ Z h910 b833 5 [u4, u, v, v3, v5] := by
    rcases D906 with ⟨q1, q2⟩ | ⟨q1, q2⟩
    · exact ⟨_, _, Or.inl ⟨rfl, rfl, q1⟩, q2⟩
    · exact ⟨_, _, Or.inr ⟨rfl, rfl, q1⟩, q2⟩
  have O6 : (u4.toInt ≤ u6.toInt) ∧ (u4.toInt ≤ v6.toInt) ∧ (u4.toInt ≤ v3.toInt) ∧ (u4.toInt ≤ v5.toInt) ∧ (u6.toInt ≤ v6.toInt) ∧ (u6.toInt ≤ v3.toInt) ∧ (u6.toInt ≤ v5.toInt) ∧ (v6.toInt ≤ v3.toInt∨v6.toInt ≤ v5.toInt) := by rcases huw with ⟨rfl, rfl, q⟩ | ⟨rfl, rfl, q⟩ <;> omega
  have cn6 : ∀ z, List.count z [u4, u6, v6, v3, v5] = List.count z [u4, v4, u5, v3, v5] := by intro z; rcases huw with ⟨rfl, rfl, q⟩ | ⟨rfl, rfl, q⟩ <;> simp only [List.count_cons, List.count_nil] <;> omega
  clear huw
  have zp906 : n0 ≤ h910.size := Nat.le_trans zp898 K906.1
  have r911 := r907.aload (pc' := 84) at_82 rfl rfl rfl
  have r912 := r911.iconst (pc' := 85) (3 : Int32) at_84 rfl rfl
  have r913 := r912.iconst (pc' := 86) (4 : Int32) at_85 rfl rfl
  obtain ⟨v917, h918, hq916, r915⟩ := r913.callS (pc' := 89) [(.ref b833), (.int (3 : Int32)), (.int (4 : Int32))] (rest := []) 0 at_86 (hw _ (List.mem_of_getElem? (i := 1) rfl)) (hw _ (List.mem_of_getElem? (i := 2) rfl)) (hw _ (List.mem_of_getElem? (i := 3) rfl)) (hw _ (List.mem_of_getElem? (i := 4) rfl)) (by decide) (cs l Z a0 hw b833 (3 : Int32) (4 : Int32) [u4, u6, v6, v3, v5] v3 v5 h910 n0 V906 (by decide) (by decide) (by decide) (by decide) rfl rfl (Nat.le_of_ble_eq_true rfl) (Nat.le_of_ble_eq_true rfl) (by decide) g833) pd_5 rfl rfl rfl (Nat.le_of_ble_eq_true rfl) (by decide) (by decide) (k' := 1) (n' := 5) rfl rfl (by decide) (by decide) rfl
  obtain ⟨rfl, D914, K914⟩ := hq916
  dsimp only [Option.toList, List.cons_append, List.nil_append] at r915
  obtain ⟨u7, v7, huw, V914⟩ : ∃ u v : Int64, ((u = v3 ∧ v = v5 ∧ v3.toInt ≤ v5.toInt) ∨ (u = v5 ∧ v = v3 ∧ v5.toInt ≤ v3.toInt)) ∧ ArJ Z h918 b833 5 [u4, u6, v6, u, v] := by
    rcases D914 with ⟨q1, q2⟩ | ⟨q1, q2⟩
    · exact ⟨_, _, Or.inl ⟨rfl, rfl, q1⟩, q2⟩
    · exact ⟨_, _, Or.inr ⟨rfl, rfl, q1⟩, q2⟩
  have O7 : (u4.toInt ≤ u6.toInt) ∧ (u4.toInt ≤ v6.toInt) ∧ (u4.toInt ≤ u7.toInt) ∧ (u4.toInt ≤ v7.toInt) ∧ (u6.toInt ≤ v6.toInt) ∧ (u6.toInt ≤ u7.toInt) ∧ (u6.toInt ≤ v7.toInt) ∧ (u7.toInt ≤ v7.toInt) ∧ (v6.toInt ≤ v7.toInt) := by rcases huw with ⟨rfl, rfl, q⟩ | ⟨rfl, rfl, q⟩ <;> omega
  have cn7 : ∀ z, List.count z [u4, u6, v6, u7, v7] = List.count z [u4, u6, v6, v3, v5] := by intro z; rcases huw with ⟨rfl, rfl, q⟩ | ⟨rfl, rfl, q⟩ <;> simp only [List.count_cons, List.count_nil] <;> omega
  clear huw
  have zp914 : n0 ≤ h918.size := Nat.le_trans zp906 K914.1
  have r919 := r915.aload (pc' := 91) at_89 rfl rfl rfl
  have r920 := r919.iconst (pc' := 92) (2 : Int32) at_91 rfl rfl
  have r921 := r920.iconst (pc' := 93) (3 : Int32) at_92 rfl rfl
  obtain ⟨v925, h926, hq924, r923⟩ := r921.callS (pc' := 96) [(.ref b833), (.int (2 : Int32)), (.int (3 : Int32))] (rest := []) 0 at_93 (hw _ (List.mem_of_getElem? (i := 1) rfl)) (hw _ (List.mem_of_getElem? (i := 2) rfl)) (hw _ (List.mem_of_getElem? (i := 3) rfl)) (hw _ (List.mem_of_getElem? (i := 4) rfl)) (by decide) (cs l Z a0 hw b833 (2 : Int32) (3 : Int32) [u4, u6, v6, u7, v7] v6 u7 h918 n0 V914 (by decide) (by decide) (by decide) (by decide) rfl rfl (Nat.le_of_ble_eq_true rfl) (Nat.le_of_ble_eq_true rfl) (by decide) g833) pd_5 rfl rfl rfl (Nat.le_of_ble_eq_true rfl) (by decide) (by decide) (k' := 1) (n' := 5) rfl rfl (by decide) (by decide) rfl
  obtain ⟨rfl, D922, K922⟩ := hq924
  dsimp only [Option.toList, List.cons_append, List.nil_append] at r923
  obtain ⟨u8, v8, huw, V922⟩ : ∃ u v : Int64, ((u = v6 ∧ v = u7 ∧ v6.toInt ≤ u7.toInt) ∨ (u = u7 ∧ v = v6 ∧ u7.toInt ≤ v6.toInt)) ∧ ArJ Z h926 b833 5 [u4, u6, u, v, v7] := by
    rcases D922 with ⟨q1, q2⟩ | ⟨q1, q2⟩
    · exact ⟨_, _, Or.inl ⟨rfl, rfl, q1⟩, q2⟩
    · exact ⟨_, _, Or.inr ⟨rfl, rfl, q1⟩, q2⟩
  have O8 : (u4.toInt ≤ u6.toInt) ∧ (u6.toInt ≤ u8.toInt) ∧ (u8.toInt ≤ v8.toInt) ∧ (v8.toInt ≤ v7.toInt) := by rcases huw with ⟨rfl, rfl, q⟩ | ⟨rfl, rfl, q⟩ <;> omega
  have cn8 : ∀ z, List.count z [u4, u6, u8, v8, v7] = List.count z [u4, u6, v6, u7, v7] := by intro z; rcases huw with ⟨rfl, rfl, q⟩ | ⟨rfl, rfl, q⟩ <;> simp only [List.count_cons, List.count_nil] <;> omega
  clear huw
  have zp922 : n0 ≤ h926.size := Nat.le_trans zp914 K922.1
  obtain ⟨h927, a, ha, E927, EX, D927, r927⟩ := r923.newO (pc' := 99) at_96 (hw _ (List.mem_of_getElem? (i := 5) rfl)) (hw _ (List.mem_of_getElem? (i := 6) rfl)) (hw _ (List.mem_of_getElem? (i := 7) rfl)) (k' := 2) (n' := 7) rfl rfl (by decide) (by decide) rfl
  have ga' : n0 ≤ a := ha ▸ zp922
  have hba : b833 ≠ a := Nat.ne_of_lt (ha ▸ V922.lt)
  have V7 := V922.ext E927
  have zp927 : n0 ≤ h927.size := Nat.le_trans zp922 E927.1
  have r928 := r927.dup (pc' := 100) at_99 rfl rfl
  obtain ⟨v931, h932, hq930, r929⟩ := r928.callC (pc' := 103) (a := a) [] (rest := [(.ref a)]) 1 at_100 rfl (hw _ (List.mem_of_getElem? (i := 8) rfl)) (hw _ (List.mem_of_getElem? (i := 9) rfl)) (hw _ (List.mem_of_getElem? (i := 7) rfl)) (hw _ (List.mem_of_getElem? (i := 10) rfl)) (by decide) (ctor l Z a0 hw a h927 n0 zp927 EX (D927 (Or.inl (hw _ (List.mem_of_getElem? (i := 15) rfl))) (ty := .array .long) (by decide)) (D927 (Or.inl (hw _ (List.mem_of_getElem? (i := 22) rfl))) (ty := .int) (by decide)) ga') pd_1 rfl rfl rfl (Nat.le_of_ble_eq_true rfl) (by decide) (by decide) (k' := 3) (n' := 23) rfl rfl (by decide) (by decide) rfl
  obtain ⟨rfl, vv, M0, hvv, KC⟩ := hq930
  dsimp only [Option.toList, List.cons_append, List.nil_append] at r929
  have V8 := V7.keep KC (ninS hba nin0)
  have hbv : b833 ≠ vv := Nat.ne_of_lt (Nat.lt_of_lt_of_le V7.lt hvv)
  have r933 := r929.astore (pc' := 105) (L' := #[.val (.long i0), .second, .val (.long i1), .second, .val (.long i2), .second, .val (.long i3), .second, .val (.long i4), .second, .val (.ref b833), .val (.ref a), .unset, .unset, .unset, .unset, .unset, .unset, .unset, .unset, .unset, .unset]) at_103 rfl rfl rfl
  have r934 := r933.aload (pc' := 107) at_105 rfl rfl rfl
  have r935 := r934.lloadN (pc' := 108) at_107 rfl rfl
  obtain ⟨v938, h939, hq937, r936⟩ := r935.callV (pc' := 111) (a := a) [(.long i0)] (rest := []) 0 at_108 (hw _ (List.mem_of_getElem? (i := 16) rfl)) (hw _ (List.mem_of_getElem? (i := 17) rfl)) (r935.nface (hw _ (List.mem_of_getElem? (i := 19) rfl)) rfl) (hw _ (List.mem_of_getElem? (i := 19) rfl)) (hw _ (List.mem_of_getElem? (i := 18) rfl)) (hw _ (List.mem_of_getElem? (i := 7) rfl)) (hw _ (List.mem_of_getElem? (i := 20) rfl)) (by decide) (add0 l Z a0 hw a vv i0 0 0 0 0 0 h932 n0 M0 trivial) M0.1 pd_3 rfl rfl rfl (Nat.le_of_ble_eq_true rfl) (by decide) (by decide) (k' := 3) (n' := 23) rfl rfl (by decide) (by decide) rfl
  obtain ⟨rfl, A0_0, A0_1, A0_2, A0_3, A0_4, MA0, hHA0, cA0, KA0⟩ := hq937
  dsimp only [Option.toList, List.cons_append, List.nil_append] at r936
  have VA0 := V8.keep KA0 (ninS hba (ninS hbv nin0))
  have r940 := r936.aload (pc' := 113) at_111 rfl rfl rfl
  have r941 := r940.lloadN (pc' := 114) at_113 rfl rfl
  obtain ⟨v944, h945, hq943, r942⟩ := r941.callV (pc' := 117) (a := a) [(.long i1)] (rest := []) 0 at_114 (hw _ (List.mem_of_getElem? (i := 16) rfl)) (hw _ (List.mem_of_getElem? (i := 17) rfl)) (r941.nface (hw _ (List.mem_of_getElem? (i := 19) rfl)) rfl) (hw _ (List.mem_of_getElem? (i := 19) rfl)) (hw _ (List.mem_of_getElem? (i := 18) rfl)) (hw _ (List.mem_of_getElem? (i := 7) rfl)) (hw _ (List.mem_of_getElem? (i := 20) rfl)) (by decide) (add1 l Z a0 hw a vv i1 A0_0 A0_1 A0_2 A0_3 A0_4 h939 n0 MA0 hHA0) MA0.1 pd_3 rfl rfl rfl (Nat.le_of_ble_eq_true rfl) (by decide) (by decide) (k' := 3) (n' := 23) rfl rfl (by decide) (by decide) rfl
  obtain ⟨rfl, A1_0, A1_1, A1_2, A1_3, A1_4, MA1, hHA1, cA1, KA1⟩ := hq943
  dsimp only [Option.toList, List.cons_append, List.nil_append] at r942
  have VA1 := VA0.keep KA1 (ninS hba (ninS hbv nin0))
  have r946 := r942.aload (pc' := 119) at_117 rfl rfl rfl
  have r947 := r946.lload (pc' := 121) at_119 rfl rfl
  obtain ⟨v950, h951, hq949, r948⟩ := r947.callV (pc' := 124) (a := a) [(.long i2)] (rest := []) 0 at_121 (hw _ (List.mem_of_getElem? (i := 16) rfl)) (hw _ (List.mem_of_getElem? (i := 17) rfl)) (r947.nface (hw _ (List.mem_of_getElem? (i := 19) rfl)) rfl) (hw _ (List.mem_of_getElem? (i := 19) rfl)) (hw _ (List.mem_of_getElem? (i := 18) rfl)) (hw _ (List.mem_of_getElem? (i := 7) rfl)) (hw _ (List.mem_of_getElem? (i := 20) rfl)) (by decide) (add2 l Z a0 hw a vv i2 A1_0 A1_1 A1_2 A1_3 A1_4 h945 n0 MA1 hHA1) MA1.1 pd_3 rfl rfl rfl (Nat.le_of_ble_eq_true rfl) (by decide) (by decide) (k' := 3) (n' := 23) rfl rfl (by decide) (by decide) rfl
  obtain ⟨rfl, A2_0, A2_1, A2_2, A2_3, A2_4, MA2, hHA2, cA2, KA2⟩ := hq949
  dsimp only [Option.toList, List.cons_append, List.nil_append] at r948
  have VA2 := VA1.keep KA2 (ninS hba (ninS hbv nin0))
  have r952 := r948.aload (pc' := 126) at_124 rfl rfl rfl
  have r953 := r952.lload (pc' := 128) at_126 rfl rfl
  obtain ⟨v956, h957, hq955, r954⟩ := r953.callV (pc' := 131) (a := a) [(.long i3)] (rest := []) 0 at_128 (hw _ (List.mem_of_getElem? (i := 16) rfl)) (hw _ (List.mem_of_getElem? (i := 17) rfl)) (r953.nface (hw _ (List.mem_of_getElem? (i := 19) rfl)) rfl) (hw _ (List.mem_of_getElem? (i := 19) rfl)) (hw _ (List.mem_of_getElem? (i := 18) rfl)) (hw _ (List.mem_of_getElem? (i := 7) rfl)) (hw _ (List.mem_of_getElem? (i := 20) rfl)) (by decide) (add3 l Z a0 hw a vv i3 A2_0 A2_1 A2_2 A2_3 A2_4 h951 n0 MA2 hHA2) MA2.1 pd_3 rfl rfl rfl (Nat.le_of_ble_eq_true rfl) (by decide) (by decide) (k' := 3) (n' := 23) rfl rfl (by decide) (by decide) rfl
  obtain ⟨rfl, A3_0, A3_1, A3_2, A3_3, A3_4, MA3, hHA3, cA3, KA3⟩ := hq955
  dsimp only [Option.toList, List.cons_append, List.nil_append] at r954
  have VA3 := VA2.keep KA3 (ninS hba (ninS hbv nin0))
  have r958 := r954.aload (pc' := 133) at_131 rfl rfl rfl
  have r959 := r958.lload (pc' := 135) at_133 rfl rfl
  obtain ⟨v962, h963, hq961, r960⟩ := r959.callV (pc' := 138) (a := a) [(.long i4)] (rest := []) 0 at_135 (hw _ (List.mem_of_getElem? (i := 16) rfl)) (hw _ (List.mem_of_getElem? (i := 17) rfl)) (r959.nface (hw _ (List.mem_of_getElem? (i := 19) rfl)) rfl) (hw _ (List.mem_of_getElem? (i := 19) rfl)) (hw _ (List.mem_of_getElem? (i := 18) rfl)) (hw _ (List.mem_of_getElem? (i := 7) rfl)) (hw _ (List.mem_of_getElem? (i := 20) rfl)) (by decide) (add4 l Z a0 hw a vv i4 A3_0 A3_1 A3_2 A3_3 A3_4 h957 n0 MA3 hHA3) MA3.1 pd_3 rfl rfl rfl (Nat.le_of_ble_eq_true rfl) (by decide) (by decide) (k' := 3) (n' := 23) rfl rfl (by decide) (by decide) rfl
  obtain ⟨rfl, A4_0, A4_1, A4_2, A4_3, A4_4, MA4, hHA4, cA4, KA4⟩ := hq961
  dsimp only [Option.toList, List.cons_append, List.nil_append] at r960
  have VA4 := VA3.keep KA4 (ninS hba (ninS hbv nin0))
  have r964 := r960.aload (pc' := 140) at_138 rfl rfl rfl
  obtain ⟨v967, h968, hq966, r965⟩ := r964.callV (pc' := 143) (a := a) [] (rest := []) 0 at_140 (hw _ (List.mem_of_getElem? (i := 23) rfl)) (hw _ (List.mem_of_getElem? (i := 24) rfl)) (r964.nface (hw _ (List.mem_of_getElem? (i := 26) rfl)) rfl) (hw _ (List.mem_of_getElem? (i := 26) rfl)) (hw _ (List.mem_of_getElem? (i := 25) rfl)) (hw _ (List.mem_of_getElem? (i := 7) rfl)) (hw _ (List.mem_of_getElem? (i := 27) rfl)) (by decide) (poll5 l Z a0 hw a vv A4_0 A4_1 A4_2 A4_3 A4_4 h963 n0 MA4 hHA4) MA4.1 pd_0 rfl rfl rfl (Nat.le_of_ble_eq_true rfl) (by decide) (by decide) (k' := 3) (n' := 23) rfl rfl (by decide) (by decide) rfl
  obtain ⟨rfl, P5_0, P5_1, P5_2, P5_3, P5_4, MP5, hHP5, cP5, leP5, KP5⟩ := hq966
  dsimp only [Option.toList, List.cons_append, List.nil_append] at r965
  have VP5 := VA4.keep KP5 (ninS hba (ninS hbv nin0))
  have r969 := r965.lstore (pc' := 145) (L' := #[.val (.long i0), .second, .val (.long i1), .second, .val (.long i2), .second, .val (.long i3), .second, .val (.long i4), .second, .val (.ref b833), .val (.ref a), .val (.long A4_0), .second, .unset, .unset, .unset, .unset, .unset, .unset, .unset, .unset]) at_143 rfl rfl
  have r970 := r969.aload (pc' := 147) at_145 rfl rfl rfl
  obtain ⟨v973, h974, hq972, r971⟩ := r970.callV (pc' := 150) (a := a) [] (rest := []) 0 at_147 (hw _ (List.mem_of_getElem? (i := 23) rfl)) (hw _ (List.mem_of_getElem? (i := 24) rfl)) (r970.nface (hw _ (List.mem_of_getElem? (i := 26) rfl)) rfl) (hw _ (List.mem_of_getElem? (i := 26) rfl)) (hw _ (List.mem_of_getElem? (i := 25) rfl)) (hw _ (List.mem_of_getElem? (i := 7) rfl)) (hw _ (List.mem_of_getElem? (i := 27) rfl)) (by decide) (poll4 l Z a0 hw a vv P5_0 P5_1 P5_2 P5_3 P5_4 h968 n0 MP5 hHP5) MP5.1 pd_0 rfl rfl rfl (Nat.le_of_ble_eq_true rfl) (by decide) (by decide) (k' := 3) (n' := 23) rfl rfl (by decide) (by decide) rfl
  obtain ⟨rfl, P4_0, P4_1, P4_2, P4_3, P4_4, MP4, hHP4, cP4, leP4, KP4⟩ := hq972
  dsimp only [Option.toList, List.cons_append, List.nil_append] at r971
  have VP4 := VP5.keep KP4 (ninS hba (ninS hbv nin0))
  have r975 := r971.lstore (pc' := 152) (L' := #[.val (.long i0), .second, .val (.long i1), .second, .val (.long i2), .second, .val (.long i3), .second, .val (.long i4), .second, .val (.ref b833), .val (.ref a), .val (.long A4_0), .second, .val (.long P5_0), .second, .unset, .unset, .unset, .unset, .unset, .unset]) at_150 rfl rfl
  have r976 := r975.aload (pc' := 154) at_152 rfl rfl rfl
  obtain ⟨v979, h980, hq978, r977⟩ := r976.callV (pc' := 157) (a := a) [] (rest := []) 0 at_154 (hw _ (List.mem_of_getElem? (i := 23) rfl)) (hw _ (List.mem_of_getElem? (i := 24) rfl)) (r976.nface (hw _ (List.mem_of_getElem? (i := 26) rfl)) rfl) (hw _ (List.mem_of_getElem? (i := 26) rfl)) (hw _ (List.mem_of_getElem? (i := 25) rfl)) (hw _ (List.mem_of_getElem? (i := 7) rfl)) (hw _ (List.mem_of_getElem? (i := 27) rfl)) (by decide) (poll3 l Z a0 hw a vv P4_0 P4_1 P4_2 P4_3 P4_4 h974 n0 MP4 hHP4) MP4.1 pd_0 rfl rfl rfl (Nat.le_of_ble_eq_true rfl) (by decide) (by decide) (k' := 3) (n' := 23) rfl rfl (by decide) (by decide) rfl
  obtain ⟨rfl, P3_0, P3_1, P3_2, P3_3, P3_4, MP3, hHP3, cP3, leP3, KP3⟩ := hq978
  dsimp only [Option.toList, List.cons_append, List.nil_append] at r977
  have VP3 := VP4.keep KP3 (ninS hba (ninS hbv nin0))
  have r981 := r977.lstore (pc' := 159) (L' := #[.val (.long i0), .second, .val (.long i1), .second, .val (.long i2), .second, .val (.long i3), .second, .val (.long i4), .second, .val (.ref b833), .val (.ref a), .val (.long A4_0), .second, .val (.long P5_0), .second, .val (.long P4_0), .second, .unset, .unset, .unset, .unset]) at_157 rfl rfl
  have r982 := r981.aload (pc' := 161) at_159 rfl rfl rfl
  obtain ⟨v985, h986, hq984, r983⟩ := r982.callV (pc' := 164) (a := a) [] (rest := []) 0 at_161 (hw _ (List.mem_of_getElem? (i := 23) rfl)) (hw _ (List.mem_of_getElem? (i := 24) rfl)) (r982.nface (hw _ (List.mem_of_getElem? (i := 26) rfl)) rfl) (hw _ (List.mem_of_getElem? (i := 26) rfl)) (hw _ (List.mem_of_getElem? (i := 25) rfl)) (hw _ (List.mem_of_getElem? (i := 7) rfl)) (hw _ (List.mem_of_getElem? (i := 27) rfl)) (by decide) (poll2 l Z a0 hw a vv P3_0 P3_1 P3_2 P3_3 P3_4 h980 n0 MP3 hHP3) MP3.1 pd_0 rfl rfl rfl (Nat.le_of_ble_eq_true rfl) (by decide) (by decide) (k' := 3) (n' := 23) rfl rfl (by decide) (by decide) rfl
  obtain ⟨rfl, P2_0, P2_1, P2_2, P2_3, P2_4, MP2, hHP2, cP2, leP2, KP2⟩ := hq984
  dsimp only [Option.toList, List.cons_append, List.nil_append] at r983
  have VP2 := VP3.keep KP2 (ninS hba (ninS hbv nin0))
  have r987 := r983.lstore (pc' := 166) (L' := #[.val (.long i0), .second, .val (.long i1), .second, .val (.long i2), .second, .val (.long i3), .second, .val (.long i4), .second, .val (.ref b833), .val (.ref a), .val (.long A4_0), .second, .val (.long P5_0), .second, .val (.long P4_0), .second, .val (.long P3_0), .second, .unset, .unset]) at_164 rfl rfl
  have r988 := r987.aload (pc' := 168) at_166 rfl rfl rfl
  obtain ⟨v991, h992, hq990, r989⟩ := r988.callV (pc' := 171) (a := a) [] (rest := []) 0 at_168 (hw _ (List.mem_of_getElem? (i := 23) rfl)) (hw _ (List.mem_of_getElem? (i := 24) rfl)) (r988.nface (hw _ (List.mem_of_getElem? (i := 26) rfl)) rfl) (hw _ (List.mem_of_getElem? (i := 26) rfl)) (hw _ (List.mem_of_getElem? (i := 25) rfl)) (hw _ (List.mem_of_getElem? (i := 7) rfl)) (hw _ (List.mem_of_getElem? (i := 27) rfl)) (by decide) (poll1 l Z a0 hw a vv P2_0 P2_1 P2_2 P2_3 P2_4 h986 n0 MP2 hHP2) MP2.1 pd_0 rfl rfl rfl (Nat.le_of_ble_eq_true rfl) (by decide) (by decide) (k' := 3) (n' := 23) rfl rfl (by decide) (by decide) rfl
  obtain ⟨rfl, P1_0, P1_1, P1_2, P1_3, P1_4, MP1, hHP1, cP1, leP1, KP1⟩ := hq990
  dsimp only [Option.toList, List.cons_append, List.nil_append] at r989
  have VP1 := VP2.keep KP1 (ninS hba (ninS hbv nin0))
  have r993 := r989.lstore (pc' := 173) (L' := #[.val (.long i0), .second, .val (.long i1), .second, .val (.long i2), .second, .val (.long i3), .second, .val (.long i4), .second, .val (.ref b833), .val (.ref a), .val (.long A4_0), .second, .val (.long P5_0), .second, .val (.long P4_0), .second, .val (.long P3_0), .second, .val (.long P2_0), .second]) at_171 rfl rfl
  have r994 := r993.lload (pc' := 175) at_173 rfl rfl
  have r995 := r994.aload (pc' := 177) at_175 rfl rfl rfl
  have r996 := r995.iconst (pc' := 178) (0 : Int32) at_177 rfl rfl
  have hc : ∀ z, List.count z [A4_0, P5_0, P4_0, P3_0, P2_0] = List.count z [u4, u6, u8, v8, v7] := by
    intro z
    have cA0 := cA0 z
    have cA1 := cA1 z
    have cA2 := cA2 z
    have cA3 := cA3 z
    have cA4 := cA4 z
    have cP5 := cP5 z
    have cP4 := cP4 z
    have cP3 := cP3 z
    have cP2 := cP2 z
    have cP1 := cP1 z
    have cn0 := cn0 z
    have cn1 := cn1 z
    have cn2 := cn2 z
    have cn3 := cn3 z
    have cn4 := cn4 z
    have cn5 := cn5 z
    have cn6 := cn6 z
    have cn7 := cn7 z
    have cn8 := cn8 z
    simp only [List.count_cons, List.count_nil] at cA0 cA1 cA2 cA3 cA4 cP5 cP4 cP3 cP2 cP1 cn0 cn1 cn2 cn3 cn4 cn5 cn6 cn7 cn8 ⊢
    omega
  obtain ⟨e0, e1, e2, e3, e4⟩ := sort5 O8.1 O8.2.1 O8.2.2.1 O8.2.2.2 (by omega) (by omega) (by omega) (by omega) hc
  have r997 := Rch.gJ (pc' := 179) u4 r996 at_178 VP1 (by decide) (by decide) rfl rfl
  have r998 := r997.lcmp (pc' := 180) at_179 rfl rfl
  have r999 := r998.ifF (pc' := 183) at_180 (teq ((lw_eq _ _).mpr e0)).2 rfl
  have r1000 := r999.lload (pc' := 185) at_183 rfl rfl
  have r1001 := r1000.aload (pc' := 187) at_185 rfl rfl rfl
  have r1002 := r1001.iconst (pc' := 188) (1 : Int32) at_187 rfl rfl
  have r1003 := Rch.gJ (pc' := 189) u6 r1002 at_188 VP1 (by decide) (by decide) rfl rfl
  have r1004 := r1003.lcmp (pc' := 190) at_189 rfl rfl
  have r1005 := r1004.ifF (pc' := 193) at_190 (teq ((lw_eq _ _).mpr e1)).2 rfl
  have r1006 := r1005.lload (pc' := 195) at_193 rfl rfl
  have r1007 := r1006.aload (pc' := 197) at_195 rfl rfl rfl
  have r1008 := r1007.iconst (pc' := 198) (2 : Int32) at_197 rfl rfl
  have r1009 := Rch.gJ (pc' := 199) u8 r1008 at_198 VP1 (by decide) (by decide) rfl rfl
  have r1010 := r1009.lcmp (pc' := 200) at_199 rfl rfl
  have r1011 := r1010.ifF (pc' := 203) at_200 (teq ((lw_eq _ _).mpr e2)).2 rfl
  have r1012 := r1011.lload (pc' := 205) at_203 rfl rfl
  have r1013 := r1012.aload (pc' := 207) at_205 rfl rfl rfl
  have r1014 := r1013.iconst (pc' := 208) (3 : Int32) at_207 rfl rfl
  have r1015 := Rch.gJ (pc' := 209) v8 r1014 at_208 VP1 (by decide) (by decide) rfl rfl
  have r1016 := r1015.lcmp (pc' := 210) at_209 rfl rfl
  have r1017 := r1016.ifF (pc' := 213) at_210 (teq ((lw_eq _ _).mpr e3)).2 rfl
  have r1018 := r1017.lload (pc' := 215) at_213 rfl rfl
  have r1019 := r1018.aload (pc' := 217) at_215 rfl rfl rfl
  have r1020 := r1019.iconst (pc' := 218) (4 : Int32) at_217 rfl rfl
  have r1021 := Rch.gJ (pc' := 219) v7 r1020 at_218 VP1 (by decide) (by decide) rfl rfl
  have r1022 := r1021.lcmp (pc' := 220) at_219 rfl rfl
  have r1023 := r1022.ifF (pc' := 223) at_220 (teq ((lw_eq _ _).mpr e4)).2 rfl
  have r1024 := r1023.aload (pc' := 225) at_223 rfl rfl rfl
  obtain ⟨v1027, h1028, hq1026, r1025⟩ := r1024.callV (pc' := 228) (a := a) [] (rest := []) 0 at_225 (hw _ (List.mem_of_getElem? (i := 28) rfl)) (hw _ (List.mem_of_getElem? (i := 29) rfl)) (r1024.nface (hw _ (List.mem_of_getElem? (i := 31) rfl)) rfl) (hw _ (List.mem_of_getElem? (i := 31) rfl)) (hw _ (List.mem_of_getElem? (i := 30) rfl)) (hw _ (List.mem_of_getElem? (i := 7) rfl)) (hw _ (List.mem_of_getElem? (i := 32) rfl)) (by decide) (emp l Z a0 hw a vv [P1_0, P1_1, P1_2, P1_3, P1_4, 0, 0, 0, 0, 0, 0, 0, 0, 0, 0, 0] h992 n0 MP1) MP1.1 pd_2 rfl rfl rfl (Nat.le_of_ble_eq_true rfl) (by decide) (by decide) (k' := 3) (n' := 23) rfl rfl (by decide) (by decide) rfl
  obtain ⟨rfl, rfl⟩ := hq1026
  dsimp only [Option.toList, List.cons_append, List.nil_append] at r1025
  have r1029 := r1025.ifF (pc' := 231) at_228 (feq (by decide : ¬ (1 : Int32) = (0 : Int32))).1 rfl
  have r1030 := r1029.iconst (pc' := 232) (1 : Int32) at_231 rfl rfl
  have r1031 := r1030.goto (pc' := 236) at_232 (by decide) (by decide)
  exact ⟨_, _, r1031.retZ at_236 rfl (t := .boolean) (by simp) (1 : Int32) rfl (by decide) (by decide), rfl⟩
set_option maxRecDepth 65536 in
set_option maxHeartbeats 40000000 in
theorem comes_1 {Post : Tables → Env → Array Value → State → Outcome → State → Prop} (hpost : ∀ tb e args s v u, (limb_1_1.after args s (.returned v) u = true ∧ limb_1_2.after args s (.returned v) u = true ∧ True) → FrameEnd s (.returned v) u (Jvm.fieldLocs frame_1_writes args s ++ Jvm.arrayLocs frame_1_arrays args s ++ Jvm.staticLocs frame_1_statics s) 16 128 → Post tb e args s (.returned v) u) :
    ArmFor flags0 classFile x code maxLocals ret World_1 tables_1 room_1 Calls_1 rest_1 Pre_1 Post := by
  intro l hfl _ _ p e ha hc hk s m args below hf hA hF happ hP
  obtain ⟨hcalls, hrest, hpre⟩ := hP
  obtain ⟨-, -, -, hnamed, -, -, -, hat⟩ := (Spec.applies_iff hf).mp happ
  obtain ⟨hg, hn⟩ := and_e (Cond.before_iff.mp (show (Jvm.Cond.and given_1 narrow_1).before args s = true from hpre))
  obtain ⟨gg1, gg2⟩ := and_e hg
  obtain ⟨gg3, gg4⟩ := and_e gg2
  obtain ⟨gg5, gg6⟩ := and_e gg4
  obtain ⟨gg7, gg8⟩ := and_e gg6
  obtain ⟨gg9, gg10⟩ := and_e gg8
  obtain ⟨w0, w1, w2, w3, w4, rfl⟩ : ∃ w0 w1 w2 w3 w4 : Value, args = #[w0, w1, w2, w3, w4] := by
    have hs : args.size = 5 := by simpa [Cond.value, given_1] using gg1
    obtain ⟨L⟩ := args
    match L, hs with
    | [w0, w1, w2, w3, w4], _ => exact ⟨w0, w1, w2, w3, w4, rfl⟩
  have hw := fun d (hd : d ∈ tables_1) => atoms_spec (ws := Jvm.Cond.code x code maxLocals ret :: tables_1) hat d (List.mem_cons_of_mem _ hd)
  obtain ⟨i0, ei0⟩ := isL_v gg3
  obtain rfl : w0 = (.long i0) := Option.some.inj ei0
  obtain ⟨i1, ei1⟩ := isL_v gg5
  obtain rfl : w1 = (.long i1) := Option.some.inj ei1
  obtain ⟨i2, ei2⟩ := isL_v gg7
  obtain rfl : w2 = (.long i2) := Option.some.inj ei2
  obtain ⟨i3, ei3⟩ := isL_v gg9
  obtain rfl : w3 = (.long i3) := Option.some.inj ei3
  obtain ⟨i4, ei4⟩ := isL_v gg10
  obtain rfl : w4 = (.long i4) := Option.some.inj ei4
  obtain ⟨n, o, h1, h2, h3, _, L, rfl, ⟨N, rfl⟩, hq⟩ := law l s _ hw i0 i1 i2 i3 i4 s.heap s.heap.size (Nat.le_refl _) tables_1 p e ha hc hk s m _ below hf ((Spec.applies_iff_loose hf).mp happ).1 ⟨rfl, State.Warmed39.refl s, rfl⟩ trivial
  refine ⟨n, _, h1, h2, h3, hpost _ _ _ _ _ _ ⟨Cond.after_iff.mpr rfl, Cond.after_iff.mpr (eq_i res_at (Term.int_eval (1)) rfl), trivial⟩ ⟨hq.1, hq.2.1, (hq.2.2.sift fun y hy => Or.inr (N y hy)).mono (by decide) (by decide)⟩⟩
theorem main_1_1 : Claimed_1_1 := comes_1 fun _ _ _ _ _ _ h hF => ⟨h.1, hF⟩
theorem main_1_2 : Claimed_1_2 := comes_1 fun _ _ _ _ _ _ h hF => ⟨h.2.1, hF⟩

end Jvm.Pilot.@@N@@
namespace Jvm.Pilot.@@N@@
open Jvm Jvm.ClassFile Sem Op Lib Jvm.Free Jvm.Stand Jvm.Pilot.@@N@@.Jvm.D
/-! MADE BY PROGRAM (witnessworld.py) out of the Statement's table words and the real class files: 11 classes; the members and pool entries that the words name. The judged class is class 1, her method 1. -/
namespace start1
open Jvm.ClassFile
def u (s : String) : CpInfo := .utf8 (stringToUtf16 s)
/-- a pool by its gaps: so many unusable entries, then the entry; so many at the end -/
def gap : Nat → List CpInfo → List CpInfo
  | 0, r => r
  | n + 1, r => .unusable :: gap n r
def poolList (es : List (Nat × CpInfo)) (last : Nat) : List CpInfo := es.foldr (fun e r => gap e.1 (e.2 :: r)) (gap last [])
def pool (es : List (Nat × CpInfo)) (last : Nat) : Array CpInfo := ⟨poolList es last⟩
def fileOf (pool : Array CpInfo) (this : Nat) (attrs : Array Attribute := #[]) (ms : Array MethodInfo := #[]) (fl : Nat := 33) (sup : Nat := 0) (ifs : Array Nat := #[]) (fds : Array FieldInfo := #[]) : ClassFile where
  minorVersion := 0
  majorVersion := 65
  constantPool := pool
  accessFlags := fl
  thisClass := this
  superClass := sup
  interfaces := ifs
  fields := fds
  methods := ms
  attributes := attrs
def plain (name : String) (sup : Option ClassId) : Class where
  name := name
  kind := .ordinary
  loader := none
  accessFlags := 33
  super := sup
  interfaces := #[]
  cf := none
  fields := #[]
  methods := #[]
  instanceTypes := #[]
  staticTypes := #[]
  resolved := #[]
  callSites := []
  init := .initialized
  statics := none
  mirror := none

def pool0 : Array CpInfo := pool [(5, u "<init>"), (0, u "()V"), (1, .class_ 10), (1, u "java/lang/Object")] 113

def k0c0 : Code := { maxStack := 0, maxLocals := 1, code := object_method_1_code, exceptionTable := #[], attributes := #[] }
def k0m0 : Method := { name := "<init>", desc := "()V", sig := { parameters := [], returnType := none }, accessFlags := 1, code := some k0c0 }
/-- java/lang/Object -/
def k0 : Class := { plain "java/lang/Object" none with
  accessFlags := 33
  interfaces := #[]
  cf := some (fileOf pool0 8 #[] #[{ accessFlags := 1, nameIndex := 5, descriptorIndex := 6, attributes := #[] }] 33 0 #[] #[])
  fields := #[]
  methods := #[k0m0]
  instanceTypes := #[]
  staticTypes := #[]
  resolved := Array.replicate 124 none
  statics := none }

def pool1 : Array CpInfo := pool [(2, .class_ 4), (0, .nameAndType 5 6), (0, u "java/lang/Object"), (0, u "<init>"), (0, u "()V"), (0, .methodref 8 9), (0, .class_ 10), (0, .nameAndType 11 12), (0, u "com/example/hailstream/hailstream/LongHeapPollPinLaw"), (0, u "cs"), (0, u "([JII)V"), (0, .class_ 14), (0, u "com/example/hailstream/hailstream/LongHeap"), (0, .methodref 13 3), (0, .methodref 13 17), (0, .nameAndType 18 19), (0, u "add"), (0, u "(J)V"), (0, .methodref 13 21), (0, .nameAndType 22 23), (0, u "poll"), (0, u "()J"), (0, .methodref 13 25), (0, .nameAndType 26 27), (0, u "isEmpty"), (0, u "()Z"), (2, u "law"), (0, u "(JJJJJ)Z")] 5

def k1m0 : Method := { name := "<init>", desc := "()V", sig := { parameters := [], returnType := none }, accessFlags := 1, code := none }
def k1c1 : Code := { maxStack := 4, maxLocals := 22, code := code, exceptionTable := #[], attributes := #[] }
def k1m1 : Method := { name := "law", desc := "(JJJJJ)Z", sig := { parameters := [.long, .long, .long, .long, .long], returnType := some .boolean }, accessFlags := 9, code := some k1c1 }
def k1c2 : Code := { maxStack := 4, maxLocals := 5, code := method_3_code, exceptionTable := #[], attributes := #[] }
def k1m2 : Method := { name := "cs", desc := "([JII)V", sig := { parameters := [(.array .long), .int, .int], returnType := none }, accessFlags := 10, code := some k1c2 }
/-- com/example/hailstream/hailstream/LongHeapPollPinLaw -/
def k1 : Class := { plain "com/example/hailstream/hailstream/LongHeapPollPinLaw" (some 0) with
  accessFlags := 49
  interfaces := #[]
  cf := some (fileOf pool1 8 #[] #[{ accessFlags := 1, nameIndex := 5, descriptorIndex := 6, attributes := #[] }, { accessFlags := 9, nameIndex := 30, descriptorIndex := 31, attributes := #[] }, { accessFlags := 10, nameIndex := 11, descriptorIndex := 12, attributes := #[] }] 49 2 #[] #[])
  fields := #[]
  methods := #[k1m0, k1m1, k1m2]
  instanceTypes := #[]
  staticTypes := #[]
  resolved := Array.replicate 37 none
  statics := none }

def pool2 : Array CpInfo := pool [(1, .methodref 2 3), (0, .class_ 4), (0, .nameAndType 5 6), (0, u "java/lang/Object"), (0, u "<init>"), (0, u "()V"), (0, .fieldref 8 9), (0, .class_ 10), (0, .nameAndType 11 12), (0, u "com/example/hailstream/hailstream/LongHeap"), (0, u "values"), (0, u "[J"), (0, .fieldref 8 14), (0, .nameAndType 15 16), (0, u "size"), (0, u "I"), (8, u "isEmpty"), (0, u "()Z"), (2, u "()J"), (0, u "add"), (0, u "(J)V"), (0, u "poll")] 2

def k2c0 : Code := { maxStack := 2, maxLocals := 1, code := prog_12_method_1_code, exceptionTable := #[], attributes := #[] }
def k2m0 : Method := { name := "<init>", desc := "()V", sig := { parameters := [], returnType := none }, accessFlags := 0, code := some k2c0 }
def k2c1 : Code := { maxStack := 1, maxLocals := 1, code := prog_12_method_2_code, exceptionTable := #[], attributes := #[] }
def k2m1 : Method := { name := "isEmpty", desc := "()Z", sig := { parameters := [], returnType := some .boolean }, accessFlags := 0, code := some k2c1 }
def k2c2 : Code := { maxStack := 5, maxLocals := 4, code := prog_12_method_4_code, exceptionTable := #[], attributes := #[] }
def k2m2 : Method := { name := "add", desc := "(J)V", sig := { parameters := [.long], returnType := none }, accessFlags := 0, code := some k2c2 }
def k2c3 : Code := { maxStack := 4, maxLocals := 7, code := prog_12_method_5_code, exceptionTable := #[], attributes := #[] }
def k2m3 : Method := { name := "poll", desc := "()J", sig := { parameters := [], returnType := some .long }, accessFlags := 0, code := some k2c3 }
/-- com/example/hailstream/hailstream/LongHeap -/
def k2 : Class := { plain "com/example/hailstream/hailstream/LongHeap" (some 0) with
  accessFlags := 48
  interfaces := #[]
  cf := some (fileOf pool2 8 #[] #[{ accessFlags := 0, nameIndex := 5, descriptorIndex := 6, attributes := #[] }, { accessFlags := 0, nameIndex := 25, descriptorIndex := 26, attributes := #[] }, { accessFlags := 0, nameIndex := 30, descriptorIndex := 31, attributes := #[] }, { accessFlags := 0, nameIndex := 32, descriptorIndex := 29, attributes := #[] }] 48 2 #[] #[{ accessFlags := 2, nameIndex := 11, descriptorIndex := 12, attributes := #[] }, { accessFlags := 2, nameIndex := 15, descriptorIndex := 16, attributes := #[] }])
  fields := #[{ name := "values", type := (.array .long), accessFlags := 2, slot := 0, constantValue := 0 }, { name := "size", type := .int, accessFlags := 2, slot := 1, constantValue := 0 }]
  methods := #[k2m0, k2m1, k2m2, k2m3]
  instanceTypes := #[(.array .long), .int]
  staticTypes := #[]
  resolved := Array.replicate 35 none
  statics := none }

def pool3 : Array CpInfo := pool [(1, u "java/lang/Cloneable"), (0, .class_ 1), (0, u "java/lang/Object"), (0, .class_ 3)] 3

/-- java/lang/Cloneable -/
def k3 : Class := { plain "java/lang/Cloneable" (some 0) with
  accessFlags := 1537
  interfaces := #[]
  cf := some (fileOf pool3 2 #[] #[] 1537 4 #[] #[])
  fields := #[]
  methods := #[]
  instanceTypes := #[]
  staticTypes := #[]
  resolved := Array.replicate 8 none
  statics := none }

def pool4 : Array CpInfo := pool [(1, u "java/io/Serializable"), (0, .class_ 1), (0, u "java/lang/Object"), (0, .class_ 3)] 3

/-- java/io/Serializable -/
def k4 : Class := { plain "java/io/Serializable" (some 0) with
  accessFlags := 1537
  interfaces := #[]
  cf := some (fileOf pool4 2 #[] #[] 1537 4 #[] #[])
  fields := #[]
  methods := #[]
  instanceTypes := #[]
  staticTypes := #[]
  resolved := Array.replicate 8 none
  statics := none }

/-- the primitive byte -/
def k5 : Class := { plain "byte" none with kind := .primitive 'B', accessFlags := 0x411 }
/-- [B -/
def k6 : Class := { plain "[B" (some 0) with kind := .array 5 .byte, interfaces := #[3, 4], accessFlags := 1041 }

/-- the primitive int -/
def k7 : Class := { plain "int" none with kind := .primitive 'I', accessFlags := 0x411 }
/-- [I -/
def k8 : Class := { plain "[I" (some 0) with kind := .array 7 .int, interfaces := #[3, 4], accessFlags := 1041 }

/-- the primitive long -/
def k9 : Class := { plain "long" none with kind := .primitive 'J', accessFlags := 0x411 }
/-- [J -/
def k10 : Class := { plain "[J" (some 0) with kind := .array 9 .long, interfaces := #[3, 4], accessFlags := 1041 }

def heap : Heap := #[]
def classes : Array Class := #[k0, k1, k2, k3, k4, k5, k6, k7, k8, k9, k10]
def interned : List (Array UInt16 × Addr) := []
def slotsUsed : Nat := 0
def theMethod : MethodId := ⟨1, 1⟩
def args0 : Array Value := #[.long 5, .long 3, .long 9, .long 1, .long 7]
def aboutOver (below : List Frame) : State where
  vm := { classes := classes, interned := interned.toArray }
  heap := heap
  slotsUsed := slotsUsed
  threads := #[{ frames := .invoking theMethod args0 :: below }]
def below0 : List Frame := [.native { method := ⟨0, 0⟩, args := #[] }]
def about1 : State := aboutOver below0
def p0 : Program := .bare "" "" ""
def e0 : Env := launch0.env 0 0 0
theorem w_frames : about1.frames = Frame.invoking theMethod args0 :: below0 := rfl
set_option maxRecDepth 65536 in
theorem w_args : argsFit about1.vm theMethod args0 = true := by decide +kernel
set_option maxRecDepth 65536 in
theorem w_heap : heapFits about1 = true := by decide +kernel
set_option maxRecDepth 65536 in
theorem w_runnable : about1.curStatus? = some .runnable := by decide +kernel
set_option maxRecDepth 65536 in
theorem w_alone : about1.alone = true := by decide +kernel
set_option maxRecDepth 65536 in
theorem w_named : about1.methodNamed? x = some theMethod := by decide +kernel
set_option maxRecDepth 65536 in
theorem w_hears : about1.hears theMethod below0 = true := by decide +kernel
set_option maxRecDepth 65536 in
theorem w_ripe : about1.ripe theMethod args0 below0 = true := by decide +kernel
theorem w_running : about1.status = .running := rfl
set_option maxRecDepth 65536 in
theorem w_room : about1.hasRoom e0.platform room_1 = true :=
  launch0.hasRoom_least _ room_1 (by decide +kernel) (by decide +kernel) (by decide +kernel) (by decide +kernel) (by decide +kernel) (by decide +kernel)
theorem allAtoms_all (ts : List Jvm.Cond) (a : Array Jvm.Value) (st : Jvm.State) : (allAtoms ts).before a st = ts.all (fun c => c.before a st) := by
  induction ts with
  | nil => rfl
  | cons c t ih =>
    show (Jvm.Cond.and c (allAtoms t)).before a st = _
    rw [Jvm.Cond.before_and, ih, List.all_cons]
def words1 : List Jvm.Cond := Jvm.Cond.code x code maxLocals ret :: tables_1
/-- a 'code' word, met by the world's own term for the bytes: nothing is compared byte by byte -/
theorem code_word {y : MethodName} {bytes : ByteArray} {mx : Nat} {rt : Option FieldType} {a : Array Value} {s : State} {m : MethodId} {meth : Method} {c : Code} (h1 : s.methodNamed? y = some m) (h2 : s.vm.method? m = some meth) (h3 : meth.code = some c) (h4 : c.code = bytes)
    (h5 : (c.maxLocals == mx && c.exceptionTable.isEmpty && decide (c.maxStack ≤ mostOperands) && decide (meth.sig.returnType = rt) && !meth.locks && decide (parseMethodDescriptor y.desc = some meth.sig)) = true) : (Jvm.Cond.code y bytes mx rt).before a s = true := by
  simp only [Bool.and_eq_true, beq_iff_eq, Bool.not_eq_true', decide_eq_true_eq] at h5
  obtain ⟨⟨⟨⟨⟨g1, g2⟩, g3⟩, g4⟩, g5⟩, g6⟩ := h5
  simp [Cond.before, Cond.holds, Cond.value, h1, h2, h3, h4, g1, g2, g3, g4, g5, g6]
def isCode : Jvm.Cond → Bool
  | .code _ _ _ _ => true
  | _ => false
theorem all_split {L : List Jvm.Cond} {P : Jvm.Cond → Bool} (h1 : L.all (fun c => isCode c || P c) = true) (h2 : ∀ c ∈ L.filter isCode, P c = true) : L.all P = true := by
  refine List.all_eq_true.mpr fun c hc => ?_
  have h := List.all_eq_true.mp h1 c hc
  rcases Bool.eq_false_or_eq_true (isCode c) with hi | hi
  · exact h2 c (List.mem_filter.mpr ⟨hc, hi⟩)
  · simpa [hi] using h
set_option maxRecDepth 65536 in
theorem w_c0 : (Jvm.Cond.code x code maxLocals ret).before args0 about1 = true := code_word (m := ⟨1, 1⟩) (meth := k1m1) (c := k1c1) (by decide +kernel) rfl rfl rfl (by decide +kernel)
set_option maxRecDepth 65536 in
theorem w_c1 : (Jvm.Cond.code ({ cls := "com/example/hailstream/hailstream/LongHeapPollPinLaw", name := "cs", desc := "([JII)V" } : Jvm.MethodName) method_3_code (5 : Nat) (Option.none : Option Jvm.ClassFile.FieldType)).before args0 about1 = true := code_word (m := ⟨1, 2⟩) (meth := k1m2) (c := k1c2) (by decide +kernel) rfl rfl rfl (by decide +kernel)
set_option maxRecDepth 65536 in
theorem w_c2 : (Jvm.Cond.code ({ cls := "com/example/hailstream/hailstream/LongHeap", name := "<init>", desc := "()V" } : Jvm.MethodName) prog_12_method_1_code (1 : Nat) (Option.none : Option Jvm.ClassFile.FieldType)).before args0 about1 = true := code_word (m := ⟨2, 0⟩) (meth := k2m0) (c := k2c0) (by decide +kernel) rfl rfl rfl (by decide +kernel)
set_option maxRecDepth 65536 in
theorem w_c3 : (Jvm.Cond.code ({ cls := "java/lang/Object", name := "<init>", desc := "()V" } : Jvm.MethodName) object_method_1_code (1 : Nat) (Option.none : Option Jvm.ClassFile.FieldType)).before args0 about1 = true := code_word (m := ⟨0, 0⟩) (meth := k0m0) (c := k0c0) (by decide +kernel) rfl rfl rfl (by decide +kernel)
set_option maxRecDepth 65536 in
theorem w_c4 : (Jvm.Cond.code ({ cls := "com/example/hailstream/hailstream/LongHeap", name := "add", desc := "(J)V" } : Jvm.MethodName) prog_12_method_4_code (4 : Nat) (Option.none : Option Jvm.ClassFile.FieldType)).before args0 about1 = true := code_word (m := ⟨2, 2⟩) (meth := k2m2) (c := k2c2) (by decide +kernel) rfl rfl rfl (by decide +kernel)
set_option maxRecDepth 65536 in
theorem w_c5 : (Jvm.Cond.code ({ cls := "com/example/hailstream/hailstream/LongHeap", name := "poll", desc := "()J" } : Jvm.MethodName) prog_12_method_5_code (7 : Nat) (Option.some Jvm.ClassFile.FieldType.long)).before args0 about1 = true := code_word (m := ⟨2, 3⟩) (meth := k2m3) (c := k2c3) (by decide +kernel) rfl rfl rfl (by decide +kernel)
set_option maxRecDepth 65536 in
theorem w_c6 : (Jvm.Cond.code ({ cls := "com/example/hailstream/hailstream/LongHeap", name := "isEmpty", desc := "()Z" } : Jvm.MethodName) prog_12_method_2_code (1 : Nat) (Option.some Jvm.ClassFile.FieldType.boolean)).before args0 about1 = true := code_word (m := ⟨2, 1⟩) (meth := k2m1) (c := k2c1) (by decide +kernel) rfl rfl rfl (by decide +kernel)
def codes1 : List Jvm.Cond := [Jvm.Cond.code x code maxLocals ret, Jvm.Cond.code ({ cls := "com/example/hailstream/hailstream/LongHeapPollPinLaw", name := "cs", desc := "([JII)V" } : Jvm.MethodName) method_3_code (5 : Nat) (Option.none : Option Jvm.ClassFile.FieldType), Jvm.Cond.code ({ cls := "com/example/hailstream/hailstream/LongHeap", name := "<init>", desc := "()V" } : Jvm.MethodName) prog_12_method_1_code (1 : Nat) (Option.none : Option Jvm.ClassFile.FieldType), Jvm.Cond.code ({ cls := "java/lang/Object", name := "<init>", desc := "()V" } : Jvm.MethodName) object_method_1_code (1 : Nat) (Option.none : Option Jvm.ClassFile.FieldType), Jvm.Cond.code ({ cls := "com/example/hailstream/hailstream/LongHeap", name := "add", desc := "(J)V" } : Jvm.MethodName) prog_12_method_4_code (4 : Nat) (Option.none : Option Jvm.ClassFile.FieldType), Jvm.Cond.code ({ cls := "com/example/hailstream/hailstream/LongHeap", name := "poll", desc := "()J" } : Jvm.MethodName) prog_12_method_5_code (7 : Nat) (Option.some Jvm.ClassFile.FieldType.long), Jvm.Cond.code ({ cls := "com/example/hailstream/hailstream/LongHeap", name := "isEmpty", desc := "()Z" } : Jvm.MethodName) prog_12_method_2_code (1 : Nat) (Option.some Jvm.ClassFile.FieldType.boolean)]
set_option maxRecDepth 65536 in
theorem codes_eq : words1.filter isCode = codes1 := rfl
theorem w_codes : ∀ c ∈ words1.filter isCode, c.before args0 about1 = true := by
  rw [codes_eq]
  intro c hc
  simp only [codes1, List.mem_cons, List.not_mem_nil, or_false] at hc
  rcases hc with rfl | rfl | rfl | rfl | rfl | rfl | rfl
  · exact w_c0
  · exact w_c1
  · exact w_c2
  · exact w_c3
  · exact w_c4
  · exact w_c5
  · exact w_c6
set_option maxRecDepth 65536 in
theorem w_t1 : (words1.take 24).all (fun c => isCode c || c.before args0 about1) = true := by decide +kernel
set_option maxRecDepth 65536 in
theorem w_t2 : (words1.drop 24).all (fun c => isCode c || c.before args0 about1) = true := by decide +kernel
theorem w_tables : (allAtoms (Jvm.Cond.code x code maxLocals ret :: tables_1)).before args0 about1 = true := by
  rw [allAtoms_all]
  show words1.all (fun c => c.before args0 about1) = true
  refine all_split ?_ w_codes
  rw [← List.take_append_drop 24 words1, List.all_append, w_t1, w_t2]
  rfl
set_option maxRecDepth 65536 in
theorem w_case : (Jvm.Cond.and given_1 narrow_1).before args0 about1 = true := by decide +kernel
theorem w_applies : (headSpec (Jvm.Cond.code x code maxLocals ret :: tables_1) room_1).applies x e0.platform about1 = true :=
  (Spec.applies_iff w_frames).mpr ⟨w_running, w_runnable, w_alone, w_named, w_hears, w_ripe, w_room, w_tables⟩
theorem atStart : AtStart classFile x code maxLocals ret World_1 tables_1 room_1 Calls_1 rest_1 Pre_1 launch0 p0 e0 about1 theMethod args0 below0 :=
  ⟨lists_1, trivial, launch0.admits_env _ _ _, launch0.least_env, fairChoices_fair.cas, fairChoices_fair.clock, w_frames, w_args, w_heap, w_applies, trivial, trivial, w_case⟩
end start1
theorem witness_1 : WitnessClaimed_1 := ⟨start1.p0, start1.e0, start1.about1, start1.theMethod, start1.args0, start1.below0, start1.atStart⟩
end Jvm.Pilot.@@N@@
