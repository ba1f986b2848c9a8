import JvmDerived
import JvmDerived.Pilot.@@N@@Statement
import JvmDerived.Pilot.@@N@@Code
set_option linter.unusedVariables false
set_option linter.unusedSimpArgs false
namespace Jvm.Pilot.@@N@@
open Jvm Jvm.ClassFile Sem Op Lib Jvm.Free Jvm.Stand Jvm.LawKit Jvm.RoadKit Bundle Jvm.Pilot.@@N@@.Jvm.D
section OwnLayer
/-- where the walk of the body y stands: after k cells and n slots made, with the heap h and the top frame g -/
def Rch (p : Program) (l : Launch) (e : Env) (R : Room) (s : State) (m : MethodId) (args : Array Value) (below : List Frame) (meth : Method) (c : Code) (Z : State) (y : MethodName) (bc : ByteArray) (ml : Nat) (rt : Option FieldType) (n0 : Nat) (T0 : State) (g0 : JFrame) (k n : Nat) (h : Heap) (g : JFrame) : Prop :=
  (p.tables.exec = Jvm.exec ∧ c.code = bc ∧ c.maxLocals = ml ∧ s.vm.findClass y.cls = some m.cls ∧ Z.Warmed39 s.vm ∧ meth.sig.returnType = rt ∧ meth.locks = false ∧ meth.name = y.name) ∧
  ∃ T locs, Stand p l e R s m args below meth c T locs k n ∧ T.heap = h ∧ Fr n0 locs ∧ ∀ target, Steps p.tables e below (T.setTop g) target → Steps p.tables e below (T0.setTop g0) target
/-- the body has returned v, with the heap h -/
def Don (p : Program) (l : Launch) (e : Env) (R : Room) (s : State) (m : MethodId) (args : Array Value) (below : List Frame) (meth : Method) (c : Code) (rt : Option FieldType) (n0 : Nat) (T0 : State) (g0 : JFrame) (v : Option Value) (h : Heap) : Prop :=
  ∃ T locs k n, Stand p l e R s m args below meth c T locs k n ∧ k ≤ R.cells ∧ n ≤ R.slots ∧ T.heap = h ∧ Fr n0 locs ∧ meth.locks = false ∧ (meth.sig.returnType = none → v = none) ∧
    ∀ fs, (∀ (f : JFrame) (acts : List Action), f.method = m → f.locked = none → f.entered = [] → (doReturn e (T.setTop f) acts v).1 = T.setFrames fs) → Steps p.tables e below (T0.setTop g0) (T.setFrames fs)
/-- a body's contract -/
def Ctr (l : Launch) (Z : State) (y : MethodName) (bc : ByteArray) (ml : Nat) (rt : Option FieldType) (rm : Room) (as : Array Value) (h0 : Heap) (n0 : Nat) (Q : Option Value → Heap → Prop) : Prop :=
  ∀ ws : List Jvm.Cond, MetFree l y (head1 (Jvm.Cond.code y bc ml rt :: ws) rm) (fun a U => a = as ∧ Z.Warmed39 U.vm ∧ U.heap = h0) (fun _ _ _ _ _ => True) (fun _ U o U' => ∃ v L, o = .returned v ∧ (Fr n0 L ∧ Q v U'.heap) ∧ FrameEnd U o U' L rm.cells rm.slots)
variable {p : Program} {l : Launch} {e : Env} {R : Room} {s : State} {m : MethodId} {args : Array Value} {below : List Frame} {meth : Method} {c : Code} {Z : State} {y : MethodName} {bc : ByteArray} {ml : Nat} {rt : Option FieldType} {n0 : Nat} {T0 : State} {g0 : JFrame} {k n : Nat} {h : Heap} {a0 : Array Value} {pc pc' : Nat} {L : Array Slot} {S : List Value}
theorem Rch.step {k' n' : Nat} {h' : Heap} {g g' : JFrame} (r : Rch p l e R s m args below meth c Z y bc ml rt n0 T0 g0 k n h g)
    (f : ∀ T locs, Stand p l e R s m args below meth c T locs k n → T.heap = h → Fr n0 locs → ∃ T' locs', Stand p l e R s m args below meth c T' locs' k' n' ∧ T'.heap = h' ∧ Fr n0 locs' ∧ ∀ target, Steps p.tables e below (T'.setTop g') target → Steps p.tables e below (T.setTop g) target) :
    Rch p l e R s m args below meth c Z y bc ml rt n0 T0 g0 k' n' h' g' := by
  obtain ⟨q, T, locs, X, eT, N, st⟩ := r
  obtain ⟨T', locs', X', eT', N', st'⟩ := f T locs X eT N
  exact ⟨q, T', locs', X', eT', N', fun t z => st t (st' t z)⟩
theorem Rch.pure {g g' : JFrame} (r : Rch p l e R s m args below meth c Z y bc ml rt n0 T0 g0 k n h g)
    (f : ∀ T locs, Stand p l e R s m args below meth c T locs k n → T.heap = h → ∀ target, Steps p.tables e below (T.setTop g') target → Steps p.tables e below (T.setTop g) target) :
    Rch p l e R s m args below meth c Z y bc ml rt n0 T0 g0 k n h g' :=
  r.step fun T locs X eT N => ⟨T, locs, X, eT, N, f T locs X eT⟩
theorem Rch.keep {g g' : JFrame} (r : Rch p l e R s m args below meth c Z y bc ml rt n0 T0 g0 k n h g)
    (f : ∀ T locs, Stand p l e R s m args below meth c T locs k n → T.heap = h → ∃ T', Stand p l e R s m args below meth c T' locs k n ∧ T'.heap = h ∧ ∀ target, Steps p.tables e below (T'.setTop g') target → Steps p.tables e below (T.setTop g) target) :
    Rch p l e R s m args below meth c Z y bc ml rt n0 T0 g0 k n h g' :=
  r.step fun T locs X eT N => by
    obtain ⟨T', X', e', st⟩ := f T locs X eT
    exact ⟨T', locs, X', e', N, st⟩
theorem Rch.widen {g : JFrame} {k' n' : Nat} (r : Rch p l e R s m args below meth c Z y bc ml rt n0 T0 g0 k n h g) (hk : k ≤ k') (hn : n ≤ n') : Rch p l e R s m args below meth c Z y bc ml rt n0 T0 g0 k' n' h g := by
  obtain ⟨q, T, locs, X, eT, N, st⟩ := r
  exact ⟨q, T, locs, ⟨X.admits, X.cas, X.clock, X.frames, X.room, X.hears, X.method, X.code, X.here, X.tail, X.warmed, X.limits, X.bytes, X.same.mono hk hn⟩, eT, N, st⟩
theorem Rch.eqh {g : JFrame} {h' : Heap} (r : Rch p l e R s m args below meth c Z y bc ml rt n0 T0 g0 k n h g) (q : h = h') : Rch p l e R s m args below meth c Z y bc ml rt n0 T0 g0 k n h' g := q ▸ r
theorem Rch.eqg {g g' : JFrame} (r : Rch p l e R s m args below meth c Z y bc ml rt n0 T0 g0 k n h g) (q : g = g') : Rch p l e R s m args below meth c Z y bc ml rt n0 T0 g0 k n h g' := q ▸ r
-- loads and stores
theorem Rch.iloadN (r : Rch p l e R s m args below meth c Z y bc ml rt n0 T0 g0 k n h (mkF m pc L S)) {i : Fin 4} {v : Int32} (hd : decode bc pc = .ok (.iload_n i, 1)) (hl : L[i.val]? = some (.val (.int v))) (hp : pc + 1 = pc') : Rch p l e R s m args below meth c Z y bc ml rt n0 T0 g0 k n h (mkF m pc' L (.int v :: S)) := by
  subst hp; exact r.pure fun T locs X eT t z => XS.iloadN X.here r.1.1 rfl (hb r.1.2.1 hd) hl z
theorem Rch.iload (r : Rch p l e R s m args below meth c Z y bc ml rt n0 T0 g0 k n h (mkF m pc L S)) {i : Nat} {v : Int32} (hd : decode bc pc = .ok (.iload i, 2)) (hl : L[i]? = some (.val (.int v))) (hp : pc + 2 = pc') : Rch p l e R s m args below meth c Z y bc ml rt n0 T0 g0 k n h (mkF m pc' L (.int v :: S)) := by
  subst hp; exact r.pure fun T locs X eT t z => XS.iload X.here r.1.1 rfl (hb r.1.2.1 hd) hl z
theorem Rch.lloadN (r : Rch p l e R s m args below meth c Z y bc ml rt n0 T0 g0 k n h (mkF m pc L S)) {i : Fin 4} {v : Int64} (hd : decode bc pc = .ok (.lload_n i, 1)) (hl : L[i.val]? = some (.val (.long v))) (hp : pc + 1 = pc') : Rch p l e R s m args below meth c Z y bc ml rt n0 T0 g0 k n h (mkF m pc' L (.long v :: S)) := by
  subst hp; exact r.pure fun T locs X eT t z => XS.lloadN X.here r.1.1 rfl (hb r.1.2.1 hd) hl z
theorem Rch.lload (r : Rch p l e R s m args below meth c Z y bc ml rt n0 T0 g0 k n h (mkF m pc L S)) {i : Nat} {v : Int64} (hd : decode bc pc = .ok (.lload i, 2)) (hl : L[i]? = some (.val (.long v))) (hp : pc + 2 = pc') : Rch p l e R s m args below meth c Z y bc ml rt n0 T0 g0 k n h (mkF m pc' L (.long v :: S)) := by
  subst hp; exact r.pure fun T locs X eT t z => XS.lload X.here r.1.1 rfl (hb r.1.2.1 hd) hl z
theorem Rch.aloadN (r : Rch p l e R s m args below meth c Z y bc ml rt n0 T0 g0 k n h (mkF m pc L S)) {i : Fin 4} {v : Value} (hd : decode bc pc = .ok (.aload_n i, 1)) (hl : L[i.val]? = some (.val v)) (hv : v.isRef = true) (hp : pc + 1 = pc') : Rch p l e R s m args below meth c Z y bc ml rt n0 T0 g0 k n h (mkF m pc' L (v :: S)) := by
  subst hp; exact r.pure fun T locs X eT t z => XS.aloadN X.here r.1.1 rfl (hb r.1.2.1 hd) hl hv z
theorem Rch.aload (r : Rch p l e R s m args below meth c Z y bc ml rt n0 T0 g0 k n h (mkF m pc L S)) {i : Nat} {v : Value} (hd : decode bc pc = .ok (.aload i, 2)) (hl : L[i]? = some (.val v)) (hv : v.isRef = true) (hp : pc + 2 = pc') : Rch p l e R s m args below meth c Z y bc ml rt n0 T0 g0 k n h (mkF m pc' L (v :: S)) := by
  subst hp; exact r.pure fun T locs X eT t z => XS.aload X.here r.1.1 rfl (hb r.1.2.1 hd) hl hv z
theorem Rch.istoreN {i : Fin 4} {v : Int32} {L' : Array Slot} (r : Rch p l e R s m args below meth c Z y bc ml rt n0 T0 g0 k n h (mkF m pc L (.int v :: S))) (hd : decode bc pc = .ok (.istore_n i, 1)) (hl : storeLocals L i.val (.int v) = some L') (hp : pc + 1 = pc') : Rch p l e R s m args below meth c Z y bc ml rt n0 T0 g0 k n h (mkF m pc' L' S) := by
  subst hp; exact r.pure fun T locs X eT t z => XS.istoreN X.here r.1.1 rfl (hb r.1.2.1 hd) rfl hl z
theorem Rch.istore {i : Nat} {v : Int32} {L' : Array Slot} (r : Rch p l e R s m args below meth c Z y bc ml rt n0 T0 g0 k n h (mkF m pc L (.int v :: S))) (hd : decode bc pc = .ok (.istore i, 2)) (hl : storeLocals L i (.int v) = some L') (hp : pc + 2 = pc') : Rch p l e R s m args below meth c Z y bc ml rt n0 T0 g0 k n h (mkF m pc' L' S) := by
  subst hp; exact r.pure fun T locs X eT t z => XS.istore X.here r.1.1 rfl (hb r.1.2.1 hd) rfl hl z
theorem Rch.lstoreN {i : Fin 4} {v : Int64} {L' : Array Slot} (r : Rch p l e R s m args below meth c Z y bc ml rt n0 T0 g0 k n h (mkF m pc L (.long v :: S))) (hd : decode bc pc = .ok (.lstore_n i, 1)) (hl : storeLocals L i.val (.long v) = some L') (hp : pc + 1 = pc') : Rch p l e R s m args below meth c Z y bc ml rt n0 T0 g0 k n h (mkF m pc' L' S) := by
  subst hp; exact r.pure fun T locs X eT t z => XS.lstoreN X.here r.1.1 rfl (hb r.1.2.1 hd) rfl hl z
theorem Rch.lstore {i : Nat} {v : Int64} {L' : Array Slot} (r : Rch p l e R s m args below meth c Z y bc ml rt n0 T0 g0 k n h (mkF m pc L (.long v :: S))) (hd : decode bc pc = .ok (.lstore i, 2)) (hl : storeLocals L i (.long v) = some L') (hp : pc + 2 = pc') : Rch p l e R s m args below meth c Z y bc ml rt n0 T0 g0 k n h (mkF m pc' L' S) := by
  subst hp; exact r.pure fun T locs X eT t z => XS.lstore X.here r.1.1 rfl (hb r.1.2.1 hd) rfl hl z
theorem Rch.astoreN {i : Fin 4} {v : Value} {L' : Array Slot} (r : Rch p l e R s m args below meth c Z y bc ml rt n0 T0 g0 k n h (mkF m pc L (v :: S))) (hd : decode bc pc = .ok (.astore_n i, 1)) (hv : v.isRef = true) (hl : storeLocals L i.val v = some L') (hp : pc + 1 = pc') : Rch p l e R s m args below meth c Z y bc ml rt n0 T0 g0 k n h (mkF m pc' L' S) := by
  subst hp; exact r.pure fun T locs X eT t z => XS.astoreN X.here r.1.1 rfl (hb r.1.2.1 hd) rfl hv hl z
theorem Rch.astore {i : Nat} {v : Value} {L' : Array Slot} (r : Rch p l e R s m args below meth c Z y bc ml rt n0 T0 g0 k n h (mkF m pc L (v :: S))) (hd : decode bc pc = .ok (.astore i, 2)) (hv : v.isRef = true) (hl : storeLocals L i v = some L') (hp : pc + 2 = pc') : Rch p l e R s m args below meth c Z y bc ml rt n0 T0 g0 k n h (mkF m pc' L' S) := by
  subst hp; exact r.pure fun T locs X eT t z => XS.astore X.here r.1.1 rfl (hb r.1.2.1 hd) rfl hv hl z
theorem Rch.iinc {i : Nat} {cst : Int} {v u : Int32} {L' : Array Slot} (r : Rch p l e R s m args below meth c Z y bc ml rt n0 T0 g0 k n h (mkF m pc L S)) (w : Int32) (hd : decode bc pc = .ok (.iinc i cst, 3)) (hw : Int32.ofInt cst = w) (hl : L[i]? = some (.val (.int v))) (hu : v + w = u) (hl' : storeLocals L i (.int u) = some L') (hp : pc + 3 = pc') : Rch p l e R s m args below meth c Z y bc ml rt n0 T0 g0 k n h (mkF m pc' L' S) := by
  subst hp hu hw; exact r.pure fun T locs X eT t z => XS.iinc X.here r.1.1 rfl (hb r.1.2.1 hd) hl hl' z
-- constants
theorem Rch.iconst (r : Rch p l e R s m args below meth c Z y bc ml rt n0 T0 g0 k n h (mkF m pc L S)) {i : Int} (w : Int32) (hd : decode bc pc = .ok (.iconst i, 1)) (hw : Int32.ofInt i = w) (hp : pc + 1 = pc') : Rch p l e R s m args below meth c Z y bc ml rt n0 T0 g0 k n h (mkF m pc' L (.int w :: S)) := by
  subst hp hw; exact r.pure fun T locs X eT t z => XS.iconst X.here r.1.1 rfl (hb r.1.2.1 hd) z
theorem Rch.bipush (r : Rch p l e R s m args below meth c Z y bc ml rt n0 T0 g0 k n h (mkF m pc L S)) {i : Int} (w : Int32) (hd : decode bc pc = .ok (.bipush i, 2)) (hw : (Int8.ofInt i).toInt32 = w) (hp : pc + 2 = pc') : Rch p l e R s m args below meth c Z y bc ml rt n0 T0 g0 k n h (mkF m pc' L (.int w :: S)) := by
  subst hp hw; exact r.pure fun T locs X eT t z => XS.bipush X.here r.1.1 rfl (hb r.1.2.1 hd) z
theorem Rch.sipush (r : Rch p l e R s m args below meth c Z y bc ml rt n0 T0 g0 k n h (mkF m pc L S)) {i : Int} (w : Int32) (hd : decode bc pc = .ok (.sipush i, 3)) (hw : (Int16.ofInt i).toInt32 = w) (hp : pc + 3 = pc') : Rch p l e R s m args below meth c Z y bc ml rt n0 T0 g0 k n h (mkF m pc' L (.int w :: S)) := by
  subst hp hw; exact r.pure fun T locs X eT t z => XS.sipush X.here r.1.1 rfl (hb r.1.2.1 hd) z
theorem Rch.lconst (r : Rch p l e R s m args below meth c Z y bc ml rt n0 T0 g0 k n h (mkF m pc L S)) {i : Fin 2} (w : Int64) (hd : decode bc pc = .ok (.lconst i, 1)) (hw : Int64.ofNat i = w) (hp : pc + 1 = pc') : Rch p l e R s m args below meth c Z y bc ml rt n0 T0 g0 k n h (mkF m pc' L (.long w :: S)) := by
  subst hp hw; exact r.pure fun T locs X eT t z => XS.lconst X.here r.1.1 rfl (hb r.1.2.1 hd) z
theorem Rch.anull (r : Rch p l e R s m args below meth c Z y bc ml rt n0 T0 g0 k n h (mkF m pc L S)) (hd : decode bc pc = .ok (.aconst_null, 1)) (hp : pc + 1 = pc') : Rch p l e R s m args below meth c Z y bc ml rt n0 T0 g0 k n h (mkF m pc' L (.null :: S)) := by
  subst hp; exact r.pure fun T locs X eT t z => XS.aconstNull X.here r.1.1 rfl (hb r.1.2.1 hd) z
theorem Rch.ldc (r : Rch p l e R s m args below meth c Z y bc ml rt n0 T0 g0 k n h (mkF m pc L S)) {i : Nat} {w : Int32} (hd : decode bc pc = .ok (.ldc i, 2)) (hc : (Jvm.Cond.constant y.cls i w).before a0 Z = true) (hp : pc + 2 = pc') : Rch p l e R s m args below meth c Z y bc ml rt n0 T0 g0 k n h (mkF m pc' L (.int w :: S)) := by
  subst hp; exact r.pure fun T locs X eT t z => X.ldcInt r.1.1 r.1.2.2.2.1 (mvT r.1.2.2.2.2.1 hc) (g := mkF m pc L S) rfl (hb r.1.2.1 hd) t z
theorem Rch.ldcw (r : Rch p l e R s m args below meth c Z y bc ml rt n0 T0 g0 k n h (mkF m pc L S)) {i : Nat} {w : Int32} (hd : decode bc pc = .ok (.ldc_w i, 3)) (hc : (Jvm.Cond.constant y.cls i w).before a0 Z = true) (hp : pc + 3 = pc') : Rch p l e R s m args below meth c Z y bc ml rt n0 T0 g0 k n h (mkF m pc' L (.int w :: S)) := by
  subst hp; exact r.pure fun T locs X eT t z => X.ldcwInt r.1.1 r.1.2.2.2.1 (mvT r.1.2.2.2.2.1 hc) (g := mkF m pc L S) rfl (hb r.1.2.1 hd) t z
theorem Rch.ldc2 (r : Rch p l e R s m args below meth c Z y bc ml rt n0 T0 g0 k n h (mkF m pc L S)) {i : Nat} {w : Int64} (hd : decode bc pc = .ok (.ldc2_w i, 3)) (hc : (Jvm.Cond.constantLong y.cls i w).before a0 Z = true) (hp : pc + 3 = pc') : Rch p l e R s m args below meth c Z y bc ml rt n0 T0 g0 k n h (mkF m pc' L (.long w :: S)) := by
  subst hp; exact r.pure fun T locs X eT t z => X.ldc2Long r.1.1 r.1.2.2.2.1 (mvT r.1.2.2.2.2.1 hc) (g := mkF m pc L S) rfl (hb r.1.2.1 hd) t z
-- sums and the like
theorem Rch.iadd {a : Int32} {b : Int32} {u : Int32} (r : Rch p l e R s m args below meth c Z y bc ml rt n0 T0 g0 k n h (mkF m pc L (.int b :: .int a :: S))) (hd : decode bc pc = .ok (.iadd, 1)) (hu : a + b = u) (hp : pc + 1 = pc') : Rch p l e R s m args below meth c Z y bc ml rt n0 T0 g0 k n h (mkF m pc' L (.int u :: S)) := by
  subst hp hu; exact r.pure fun T locs X eT t z => XS.iadd X.here r.1.1 rfl (hb r.1.2.1 hd) rfl z
theorem Rch.isub {a : Int32} {b : Int32} {u : Int32} (r : Rch p l e R s m args below meth c Z y bc ml rt n0 T0 g0 k n h (mkF m pc L (.int b :: .int a :: S))) (hd : decode bc pc = .ok (.isub, 1)) (hu : a - b = u) (hp : pc + 1 = pc') : Rch p l e R s m args below meth c Z y bc ml rt n0 T0 g0 k n h (mkF m pc' L (.int u :: S)) := by
  subst hp hu; exact r.pure fun T locs X eT t z => XS.isub X.here r.1.1 rfl (hb r.1.2.1 hd) rfl z
theorem Rch.imul {a : Int32} {b : Int32} {u : Int32} (r : Rch p l e R s m args below meth c Z y bc ml rt n0 T0 g0 k n h (mkF m pc L (.int b :: .int a :: S))) (hd : decode bc pc = .ok (.imul, 1)) (hu : a * b = u) (hp : pc + 1 = pc') : Rch p l e R s m args below meth c Z y bc ml rt n0 T0 g0 k n h (mkF m pc' L (.int u :: S)) := by
  subst hp hu; exact r.pure fun T locs X eT t z => XS.imul X.here r.1.1 rfl (hb r.1.2.1 hd) rfl z
theorem Rch.iand {a : Int32} {b : Int32} {u : Int32} (r : Rch p l e R s m args below meth c Z y bc ml rt n0 T0 g0 k n h (mkF m pc L (.int b :: .int a :: S))) (hd : decode bc pc = .ok (.iand, 1)) (hu : a &&& b = u) (hp : pc + 1 = pc') : Rch p l e R s m args below meth c Z y bc ml rt n0 T0 g0 k n h (mkF m pc' L (.int u :: S)) := by
  subst hp hu; exact r.pure fun T locs X eT t z => XS.iand X.here r.1.1 rfl (hb r.1.2.1 hd) rfl z
theorem Rch.ior {a : Int32} {b : Int32} {u : Int32} (r : Rch p l e R s m args below meth c Z y bc ml rt n0 T0 g0 k n h (mkF m pc L (.int b :: .int a :: S))) (hd : decode bc pc = .ok (.ior, 1)) (hu : a ||| b = u) (hp : pc + 1 = pc') : Rch p l e R s m args below meth c Z y bc ml rt n0 T0 g0 k n h (mkF m pc' L (.int u :: S)) := by
  subst hp hu; exact r.pure fun T locs X eT t z => XS.ior X.here r.1.1 rfl (hb r.1.2.1 hd) rfl z
theorem Rch.ixor {a : Int32} {b : Int32} {u : Int32} (r : Rch p l e R s m args below meth c Z y bc ml rt n0 T0 g0 k n h (mkF m pc L (.int b :: .int a :: S))) (hd : decode bc pc = .ok (.ixor, 1)) (hu : a ^^^ b = u) (hp : pc + 1 = pc') : Rch p l e R s m args below meth c Z y bc ml rt n0 T0 g0 k n h (mkF m pc' L (.int u :: S)) := by
  subst hp hu; exact r.pure fun T locs X eT t z => XS.ixor X.here r.1.1 rfl (hb r.1.2.1 hd) rfl z
theorem Rch.ladd {a : Int64} {b : Int64} {u : Int64} (r : Rch p l e R s m args below meth c Z y bc ml rt n0 T0 g0 k n h (mkF m pc L (.long b :: .long a :: S))) (hd : decode bc pc = .ok (.ladd, 1)) (hu : a + b = u) (hp : pc + 1 = pc') : Rch p l e R s m args below meth c Z y bc ml rt n0 T0 g0 k n h (mkF m pc' L (.long u :: S)) := by
  subst hp hu; exact r.pure fun T locs X eT t z => XS.ladd X.here r.1.1 rfl (hb r.1.2.1 hd) rfl z
theorem Rch.lsub {a : Int64} {b : Int64} {u : Int64} (r : Rch p l e R s m args below meth c Z y bc ml rt n0 T0 g0 k n h (mkF m pc L (.long b :: .long a :: S))) (hd : decode bc pc = .ok (.lsub, 1)) (hu : a - b = u) (hp : pc + 1 = pc') : Rch p l e R s m args below meth c Z y bc ml rt n0 T0 g0 k n h (mkF m pc' L (.long u :: S)) := by
  subst hp hu; exact r.pure fun T locs X eT t z => XS.lsub X.here r.1.1 rfl (hb r.1.2.1 hd) rfl z
theorem Rch.lmul {a : Int64} {b : Int64} {u : Int64} (r : Rch p l e R s m args below meth c Z y bc ml rt n0 T0 g0 k n h (mkF m pc L (.long b :: .long a :: S))) (hd : decode bc pc = .ok (.lmul, 1)) (hu : a * b = u) (hp : pc + 1 = pc') : Rch p l e R s m args below meth c Z y bc ml rt n0 T0 g0 k n h (mkF m pc' L (.long u :: S)) := by
  subst hp hu; exact r.pure fun T locs X eT t z => XS.lmul X.here r.1.1 rfl (hb r.1.2.1 hd) rfl z
theorem Rch.land {a : Int64} {b : Int64} {u : Int64} (r : Rch p l e R s m args below meth c Z y bc ml rt n0 T0 g0 k n h (mkF m pc L (.long b :: .long a :: S))) (hd : decode bc pc = .ok (.land, 1)) (hu : a &&& b = u) (hp : pc + 1 = pc') : Rch p l e R s m args below meth c Z y bc ml rt n0 T0 g0 k n h (mkF m pc' L (.long u :: S)) := by
  subst hp hu; exact r.pure fun T locs X eT t z => XS.land X.here r.1.1 rfl (hb r.1.2.1 hd) rfl z
theorem Rch.lor {a : Int64} {b : Int64} {u : Int64} (r : Rch p l e R s m args below meth c Z y bc ml rt n0 T0 g0 k n h (mkF m pc L (.long b :: .long a :: S))) (hd : decode bc pc = .ok (.lor, 1)) (hu : a ||| b = u) (hp : pc + 1 = pc') : Rch p l e R s m args below meth c Z y bc ml rt n0 T0 g0 k n h (mkF m pc' L (.long u :: S)) := by
  subst hp hu; exact r.pure fun T locs X eT t z => XS.lor X.here r.1.1 rfl (hb r.1.2.1 hd) rfl z
theorem Rch.lxor {a : Int64} {b : Int64} {u : Int64} (r : Rch p l e R s m args below meth c Z y bc ml rt n0 T0 g0 k n h (mkF m pc L (.long b :: .long a :: S))) (hd : decode bc pc = .ok (.lxor, 1)) (hu : a ^^^ b = u) (hp : pc + 1 = pc') : Rch p l e R s m args below meth c Z y bc ml rt n0 T0 g0 k n h (mkF m pc' L (.long u :: S)) := by
  subst hp hu; exact r.pure fun T locs X eT t z => XS.lxor X.here r.1.1 rfl (hb r.1.2.1 hd) rfl z
theorem Rch.ishl {a : Int32} {b : Int32} {u : Int32} (r : Rch p l e R s m args below meth c Z y bc ml rt n0 T0 g0 k n h (mkF m pc L (.int b :: .int a :: S))) (hd : decode bc pc = .ok (.ishl, 1)) (hu : a <<< (b &&& 31) = u) (hp : pc + 1 = pc') : Rch p l e R s m args below meth c Z y bc ml rt n0 T0 g0 k n h (mkF m pc' L (.int u :: S)) := by
  subst hp hu; exact r.pure fun T locs X eT t z => XS.ishl X.here r.1.1 rfl (hb r.1.2.1 hd) rfl z
theorem Rch.ishr {a : Int32} {b : Int32} {u : Int32} (r : Rch p l e R s m args below meth c Z y bc ml rt n0 T0 g0 k n h (mkF m pc L (.int b :: .int a :: S))) (hd : decode bc pc = .ok (.ishr, 1)) (hu : a >>> (b &&& 31) = u) (hp : pc + 1 = pc') : Rch p l e R s m args below meth c Z y bc ml rt n0 T0 g0 k n h (mkF m pc' L (.int u :: S)) := by
  subst hp hu; exact r.pure fun T locs X eT t z => XS.ishr X.here r.1.1 rfl (hb r.1.2.1 hd) rfl z
theorem Rch.iushr {a : Int32} {b : Int32} {u : Int32} (r : Rch p l e R s m args below meth c Z y bc ml rt n0 T0 g0 k n h (mkF m pc L (.int b :: .int a :: S))) (hd : decode bc pc = .ok (.iushr, 1)) (hu : (a.toUInt32 >>> (b &&& 31).toUInt32).toInt32 = u) (hp : pc + 1 = pc') : Rch p l e R s m args below meth c Z y bc ml rt n0 T0 g0 k n h (mkF m pc' L (.int u :: S)) := by
  subst hp hu; exact r.pure fun T locs X eT t z => XS.iushr X.here r.1.1 rfl (hb r.1.2.1 hd) rfl z
theorem Rch.lcmp {a : Int64} {b : Int64} {u : Int32} (r : Rch p l e R s m args below meth c Z y bc ml rt n0 T0 g0 k n h (mkF m pc L (.long b :: .long a :: S))) (hd : decode bc pc = .ok (.lcmp, 1)) (hu : lcmpW a b = u) (hp : pc + 1 = pc') : Rch p l e R s m args below meth c Z y bc ml rt n0 T0 g0 k n h (mkF m pc' L (.int u :: S)) := by
  subst hp hu; exact r.pure fun T locs X eT t z => XS.lcmp X.here r.1.1 rfl (hb r.1.2.1 hd) rfl z
theorem Rch.idiv {a : Int32} {b : Int32} {u : Int32} (r : Rch p l e R s m args below meth c Z y bc ml rt n0 T0 g0 k n h (mkF m pc L (.int b :: .int a :: S))) (hd : decode bc pc = .ok (.idiv, 1)) (h0 : b ≠ 0) (hu : a / b = u) (hp : pc + 1 = pc') : Rch p l e R s m args below meth c Z y bc ml rt n0 T0 g0 k n h (mkF m pc' L (.int u :: S)) := by
  subst hp hu; exact r.pure fun T locs X eT t z => XS.idiv X.here r.1.1 rfl (hb r.1.2.1 hd) rfl h0 z
theorem Rch.irem {a : Int32} {b : Int32} {u : Int32} (r : Rch p l e R s m args below meth c Z y bc ml rt n0 T0 g0 k n h (mkF m pc L (.int b :: .int a :: S))) (hd : decode bc pc = .ok (.irem, 1)) (h0 : b ≠ 0) (hu : a % b = u) (hp : pc + 1 = pc') : Rch p l e R s m args below meth c Z y bc ml rt n0 T0 g0 k n h (mkF m pc' L (.int u :: S)) := by
  subst hp hu; exact r.pure fun T locs X eT t z => iremM X r.1.1 rfl (hb r.1.2.1 hd) rfl h0 z
theorem Rch.ineg {a : Int32} {u : Int32} (r : Rch p l e R s m args below meth c Z y bc ml rt n0 T0 g0 k n h (mkF m pc L (.int a :: S))) (hd : decode bc pc = .ok (.ineg, 1)) (hu : -a = u) (hp : pc + 1 = pc') : Rch p l e R s m args below meth c Z y bc ml rt n0 T0 g0 k n h (mkF m pc' L (.int u :: S)) := by
  subst hp hu; exact r.pure fun T locs X eT t z => XS.ineg X.here r.1.1 rfl (hb r.1.2.1 hd) rfl z
theorem Rch.lneg {a : Int64} {u : Int64} (r : Rch p l e R s m args below meth c Z y bc ml rt n0 T0 g0 k n h (mkF m pc L (.long a :: S))) (hd : decode bc pc = .ok (.lneg, 1)) (hu : -a = u) (hp : pc + 1 = pc') : Rch p l e R s m args below meth c Z y bc ml rt n0 T0 g0 k n h (mkF m pc' L (.long u :: S)) := by
  subst hp hu; exact r.pure fun T locs X eT t z => XS.lneg X.here r.1.1 rfl (hb r.1.2.1 hd) rfl z
theorem Rch.i2l {a : Int32} {u : Int64} (r : Rch p l e R s m args below meth c Z y bc ml rt n0 T0 g0 k n h (mkF m pc L (.int a :: S))) (hd : decode bc pc = .ok (.i2l, 1)) (hu : a.toInt64 = u) (hp : pc + 1 = pc') : Rch p l e R s m args below meth c Z y bc ml rt n0 T0 g0 k n h (mkF m pc' L (.long u :: S)) := by
  subst hp hu; exact r.pure fun T locs X eT t z => XS.i2l X.here r.1.1 rfl (hb r.1.2.1 hd) rfl z
theorem Rch.l2i {a : Int64} {u : Int32} (r : Rch p l e R s m args below meth c Z y bc ml rt n0 T0 g0 k n h (mkF m pc L (.long a :: S))) (hd : decode bc pc = .ok (.l2i, 1)) (hu : a.toInt32 = u) (hp : pc + 1 = pc') : Rch p l e R s m args below meth c Z y bc ml rt n0 T0 g0 k n h (mkF m pc' L (.int u :: S)) := by
  subst hp hu; exact r.pure fun T locs X eT t z => XS.l2i X.here r.1.1 rfl (hb r.1.2.1 hd) rfl z
theorem Rch.i2b {a : Int32} {u : Int32} (r : Rch p l e R s m args below meth c Z y bc ml rt n0 T0 g0 k n h (mkF m pc L (.int a :: S))) (hd : decode bc pc = .ok (.i2b, 1)) (hu : a.toInt8.toInt32 = u) (hp : pc + 1 = pc') : Rch p l e R s m args below meth c Z y bc ml rt n0 T0 g0 k n h (mkF m pc' L (.int u :: S)) := by
  subst hp hu; exact r.pure fun T locs X eT t z => XS.i2b X.here r.1.1 rfl (hb r.1.2.1 hd) rfl z
theorem Rch.i2s {a : Int32} {u : Int32} (r : Rch p l e R s m args below meth c Z y bc ml rt n0 T0 g0 k n h (mkF m pc L (.int a :: S))) (hd : decode bc pc = .ok (.i2s, 1)) (hu : a.toInt16.toInt32 = u) (hp : pc + 1 = pc') : Rch p l e R s m args below meth c Z y bc ml rt n0 T0 g0 k n h (mkF m pc' L (.int u :: S)) := by
  subst hp hu; exact r.pure fun T locs X eT t z => XS.i2s X.here r.1.1 rfl (hb r.1.2.1 hd) rfl z
theorem Rch.i2c {a : Int32} {u : Int32} (r : Rch p l e R s m args below meth c Z y bc ml rt n0 T0 g0 k n h (mkF m pc L (.int a :: S))) (hd : decode bc pc = .ok (.i2c, 1)) (hu : a.toUInt32.toUInt16.toUInt32.toInt32 = u) (hp : pc + 1 = pc') : Rch p l e R s m args below meth c Z y bc ml rt n0 T0 g0 k n h (mkF m pc' L (.int u :: S)) := by
  subst hp hu; exact r.pure fun T locs X eT t z => XS.i2c X.here r.1.1 rfl (hb r.1.2.1 hd) rfl z
theorem Rch.lshl {a : Int64} {b : Int32} {u : Int64} (r : Rch p l e R s m args below meth c Z y bc ml rt n0 T0 g0 k n h (mkF m pc L (.int b :: .long a :: S))) (hd : decode bc pc = .ok (.lshl, 1)) (hu : a <<< (b &&& 0x3f).toInt64 = u) (hp : pc + 1 = pc') : Rch p l e R s m args below meth c Z y bc ml rt n0 T0 g0 k n h (mkF m pc' L (.long u :: S)) := by
  subst hp hu; exact r.pure fun T locs X eT t z => XS.lshl X.here r.1.1 rfl (hb r.1.2.1 hd) rfl z
theorem Rch.lshr {a : Int64} {b : Int32} {u : Int64} (r : Rch p l e R s m args below meth c Z y bc ml rt n0 T0 g0 k n h (mkF m pc L (.int b :: .long a :: S))) (hd : decode bc pc = .ok (.lshr, 1)) (hu : a >>> (b &&& 0x3f).toInt64 = u) (hp : pc + 1 = pc') : Rch p l e R s m args below meth c Z y bc ml rt n0 T0 g0 k n h (mkF m pc' L (.long u :: S)) := by
  subst hp hu; exact r.pure fun T locs X eT t z => XS.lshr X.here r.1.1 rfl (hb r.1.2.1 hd) rfl z
theorem Rch.lushr {a : Int64} {b : Int32} {u : Int64} (r : Rch p l e R s m args below meth c Z y bc ml rt n0 T0 g0 k n h (mkF m pc L (.int b :: .long a :: S))) (hd : decode bc pc = .ok (.lushr, 1)) (hu : (a.toUInt64 >>> (b &&& 0x3f).toInt64.toUInt64).toInt64 = u) (hp : pc + 1 = pc') : Rch p l e R s m args below meth c Z y bc ml rt n0 T0 g0 k n h (mkF m pc' L (.long u :: S)) := by
  subst hp hu; exact r.pure fun T locs X eT t z => XS.lushr X.here r.1.1 rfl (hb r.1.2.1 hd) rfl z
theorem Rch.dup {v : Value} (r : Rch p l e R s m args below meth c Z y bc ml rt n0 T0 g0 k n h (mkF m pc L (v :: S))) (hd : decode bc pc = .ok (.dup, 1)) (hv : v.category = 1) (hp : pc + 1 = pc') : Rch p l e R s m args below meth c Z y bc ml rt n0 T0 g0 k n h (mkF m pc' L (v :: v :: S)) := by
  subst hp; exact r.pure fun T locs X eT t z => XS.dup X.here r.1.1 rfl (hb r.1.2.1 hd) rfl hv z
theorem Rch.dupx1 {v w : Value} (r : Rch p l e R s m args below meth c Z y bc ml rt n0 T0 g0 k n h (mkF m pc L (v :: w :: S))) (hd : decode bc pc = .ok (.dup_x1, 1)) (hv : v.category = 1) (hw : w.category = 1) (hp : pc + 1 = pc') : Rch p l e R s m args below meth c Z y bc ml rt n0 T0 g0 k n h (mkF m pc' L (v :: w :: v :: S)) := by
  subst hp; exact r.pure fun T locs X eT t z => XS.dupX1 X.here r.1.1 rfl (hb r.1.2.1 hd) rfl hv hw z
theorem Rch.dup2 {v w : Value} (r : Rch p l e R s m args below meth c Z y bc ml rt n0 T0 g0 k n h (mkF m pc L (v :: w :: S))) (hd : decode bc pc = .ok (.dup2, 1)) (hv : v.category = 1) (hw : w.category = 1) (hp : pc + 1 = pc') : Rch p l e R s m args below meth c Z y bc ml rt n0 T0 g0 k n h (mkF m pc' L (v :: w :: v :: w :: S)) := by
  subst hp
  refine r.pure fun T locs X eT t z => ?_
  have hx := r.1.1
  have hd' := hb r.1.2.1 hd
  jvm_step X.here [X.here.top, hx, hd', hv, hw]
  exact z
theorem Rch.dupx2 {v w u : Value} (r : Rch p l e R s m args below meth c Z y bc ml rt n0 T0 g0 k n h (mkF m pc L (v :: w :: u :: S))) (hd : decode bc pc = .ok (.dup_x2, 1)) (hv : v.category = 1) (hw : w.category = 1) (hu : u.category = 1) (hp : pc + 1 = pc') : Rch p l e R s m args below meth c Z y bc ml rt n0 T0 g0 k n h (mkF m pc' L (v :: w :: u :: v :: S)) := by
  subst hp
  refine r.pure fun T locs X eT t z => ?_
  have hx := r.1.1
  have hd' := hb r.1.2.1 hd
  jvm_step X.here [X.here.top, hx, hd', hv, hw, hu]
  exact z
theorem Rch.pop {v : Value} (r : Rch p l e R s m args below meth c Z y bc ml rt n0 T0 g0 k n h (mkF m pc L (v :: S))) (hd : decode bc pc = .ok (.pop, 1)) (hv : v.category = 1) (hp : pc + 1 = pc') : Rch p l e R s m args below meth c Z y bc ml rt n0 T0 g0 k n h (mkF m pc' L S) := by
  subst hp; exact r.pure fun T locs X eT t z => XS.pop X.here r.1.1 rfl (hb r.1.2.1 hd) rfl hv z
-- branches
theorem Rch.goto {o : Int} (r : Rch p l e R s m args below meth c Z y bc ml rt n0 T0 g0 k n h (mkF m pc L S)) (hd : decode bc pc = .ok (.goto o, 3)) (ho : 0 ≤ (pc : Int) + o) (hp : ((pc : Int) + o).toNat = pc') : Rch p l e R s m args below meth c Z y bc ml rt n0 T0 g0 k n h (mkF m pc' L S) :=
  r.pure fun T locs X eT t z => XS.goto X.here r.1.1 rfl (pc0 := pc) rfl (hb r.1.2.1 hd) ho hp z
theorem Rch.icT {cd : ClassFile.Cond} {x w : Int32} {o : Int} (r : Rch p l e R s m args below meth c Z y bc ml rt n0 T0 g0 k n h (mkF m pc L (.int w :: .int x :: S))) (hd : decode bc pc = .ok (.if_icmp cd o, 3)) (hc : if_icmp.holds cd x w = true) (ho : 0 ≤ (pc : Int) + o) (hp : ((pc : Int) + o).toNat = pc') : Rch p l e R s m args below meth c Z y bc ml rt n0 T0 g0 k n h (mkF m pc' L S) :=
  r.pure fun T locs X eT t z => XS.icmpYes X.here r.1.1 rfl (pc0 := pc) rfl (hb r.1.2.1 hd) rfl hc ho hp z
theorem Rch.icF {cd : ClassFile.Cond} {x w : Int32} {o : Int} (r : Rch p l e R s m args below meth c Z y bc ml rt n0 T0 g0 k n h (mkF m pc L (.int w :: .int x :: S))) (hd : decode bc pc = .ok (.if_icmp cd o, 3)) (hc : if_icmp.holds cd x w = false) (hp : pc + 3 = pc') : Rch p l e R s m args below meth c Z y bc ml rt n0 T0 g0 k n h (mkF m pc' L S) := by
  subst hp; exact r.pure fun T locs X eT t z => XS.icmpNo X.here r.1.1 rfl (hb r.1.2.1 hd) rfl hc z
theorem Rch.ifT {cd : ClassFile.Cond} {x : Int32} {o : Int} (r : Rch p l e R s m args below meth c Z y bc ml rt n0 T0 g0 k n h (mkF m pc L (.int x :: S))) (hd : decode bc pc = .ok (.ifCond cd o, 3)) (hc : if_icmp.holds cd x 0 = true) (ho : 0 ≤ (pc : Int) + o) (hp : ((pc : Int) + o).toNat = pc') : Rch p l e R s m args below meth c Z y bc ml rt n0 T0 g0 k n h (mkF m pc' L S) :=
  r.pure fun T locs X eT t z => XS.ifYes X.here r.1.1 rfl (pc0 := pc) rfl (hb r.1.2.1 hd) rfl ((if0 _ _).trans hc) ho hp z
theorem Rch.ifF {cd : ClassFile.Cond} {x : Int32} {o : Int} (r : Rch p l e R s m args below meth c Z y bc ml rt n0 T0 g0 k n h (mkF m pc L (.int x :: S))) (hd : decode bc pc = .ok (.ifCond cd o, 3)) (hc : if_icmp.holds cd x 0 = false) (hp : pc + 3 = pc') : Rch p l e R s m args below meth c Z y bc ml rt n0 T0 g0 k n h (mkF m pc' L S) := by
  subst hp; exact r.pure fun T locs X eT t z => XS.ifNo X.here r.1.1 rfl (hb r.1.2.1 hd) rfl ((if0 _ _).trans hc) z
theorem Rch.acmp {cd : ACond} {v w : Value} {o : Int} {same : Bool} (r : Rch p l e R s m args below meth c Z y bc ml rt n0 T0 g0 k n h (mkF m pc L (w :: v :: S))) (hd : decode bc pc = .ok (.if_acmp cd o, 3)) (hv : v.isRef = true) (hw : w.isRef = true) (hq : decide (v = w) = same) (ho : 0 ≤ (pc : Int) + o) (hp : pc' = if acV cd same = true then ((pc : Int) + o).toNat else pc + 3) : Rch p l e R s m args below meth c Z y bc ml rt n0 T0 g0 k n h (mkF m pc' L S) :=
  r.pure fun T locs X eT t z => Jvm.RoadKit.acmp X r.1.1 rfl hv hw (pc0 := pc) rfl (hb r.1.2.1 hd) rfl hq ho hp z
theorem Rch.nullT {o : Int} (r : Rch p l e R s m args below meth c Z y bc ml rt n0 T0 g0 k n h (mkF m pc L (.null :: S))) (hd : decode bc pc = .ok (.ifnull o, 3)) (ho : 0 ≤ (pc : Int) + o) (hp : ((pc : Int) + o).toNat = pc') : Rch p l e R s m args below meth c Z y bc ml rt n0 T0 g0 k n h (mkF m pc' L S) :=
  r.pure fun T locs X eT t z => XS.ifnullYes X.here r.1.1 rfl (pc0 := pc) rfl (hb r.1.2.1 hd) rfl ho hp z
theorem Rch.nullF {a : Addr} {o : Int} (r : Rch p l e R s m args below meth c Z y bc ml rt n0 T0 g0 k n h (mkF m pc L (.ref a :: S))) (hd : decode bc pc = .ok (.ifnull o, 3)) (hp : pc + 3 = pc') : Rch p l e R s m args below meth c Z y bc ml rt n0 T0 g0 k n h (mkF m pc' L S) := by
  subst hp; exact r.pure fun T locs X eT t z => XS.ifnullNo X.here r.1.1 rfl (hb r.1.2.1 hd) rfl z
theorem Rch.nnT {a : Addr} {o : Int} (r : Rch p l e R s m args below meth c Z y bc ml rt n0 T0 g0 k n h (mkF m pc L (.ref a :: S))) (hd : decode bc pc = .ok (.ifnonnull o, 3)) (ho : 0 ≤ (pc : Int) + o) (hp : ((pc : Int) + o).toNat = pc') : Rch p l e R s m args below meth c Z y bc ml rt n0 T0 g0 k n h (mkF m pc' L S) :=
  r.pure fun T locs X eT t z => XS.ifnonnullYes X.here r.1.1 rfl (pc0 := pc) rfl (hb r.1.2.1 hd) rfl ho hp z
theorem Rch.nnF {o : Int} (r : Rch p l e R s m args below meth c Z y bc ml rt n0 T0 g0 k n h (mkF m pc L (.null :: S))) (hd : decode bc pc = .ok (.ifnonnull o, 3)) (hp : pc + 3 = pc') : Rch p l e R s m args below meth c Z y bc ml rt n0 T0 g0 k n h (mkF m pc' L S) := by
  subst hp; exact r.pure fun T locs X eT t z => XS.ifnonnullNo X.here r.1.1 rfl (hb r.1.2.1 hd) rfl z
-- fields
theorem Rch.getF {R0 O nm d host : String} {idx : Nat} {a : Addr} {v : Value} (r : Rch p l e R s m args below meth c Z y bc ml rt n0 T0 g0 k n h (mkF m pc L (.ref a :: S))) (hd : decode bc pc = .ok (.getfield idx, 3)) (w : (Jvm.Cond.fieldLink y.cls idx R0 nm d).before a0 Z = true ∨ (Jvm.Cond.fieldLinkNest y.cls idx R0 nm d host).before a0 Z = true) (via : Via Z R0 O nm d) (F : Fld Z h a O nm d v) (hp : pc + 3 = pc') :
    Rch p l e R s m args below meth c Z y bc ml rt n0 T0 g0 k n h (mkF m pc' L (v :: S)) := by
  subst hp; exact r.keep fun T locs X eT => getF X r.1.1 r.1.2.2.2.2.1 r.1.2.2.2.1 w via eT F (g := mkF m pc L (.ref a :: S)) rfl rfl (hb r.1.2.1 hd)
theorem Rch.getS {R0 O nm d host : String} {idx : Nat} {v : Value} (r : Rch p l e R s m args below meth c Z y bc ml rt n0 T0 g0 k n h (mkF m pc L S)) (hd : decode bc pc = .ok (.getstatic idx, 3)) (w : (Jvm.Cond.fieldLink y.cls idx R0 nm d).before a0 Z = true ∨ (Jvm.Cond.fieldLinkNest y.cls idx R0 nm d host).before a0 Z = true) (via : Via Z R0 O nm d) (F : Sta Z h O nm d v) (hp : pc + 3 = pc') :
    Rch p l e R s m args below meth c Z y bc ml rt n0 T0 g0 k n h (mkF m pc' L (v :: S)) := by
  subst hp; exact r.keep fun T locs X eT => getS2 X r.1.1 r.1.2.2.2.2.1 r.1.2.2.2.1 w via eT F (g := mkF m pc L S) rfl (hb r.1.2.1 hd)
theorem Rch.putF {R0 O nm d host C : String} {idx kk : Nat} {ty : FieldType} {a : Addr} {v old : Value} (r : Rch p l e R s m args below meth c Z y bc ml rt n0 T0 g0 k n h (mkF m pc L (v :: .ref a :: S))) (hd : decode bc pc = .ok (.putfield idx, 3)) (w : (Jvm.Cond.fieldLink y.cls idx R0 nm d).before a0 Z = true ∨ (Jvm.Cond.fieldLinkNest y.cls idx R0 nm d host).before a0 Z = true) (via : Via Z R0 O nm d) (F : Fld Z h a O nm d old) (E : Exa Z h a C)
    (lw : (Jvm.Cond.lays C O nm d).before a0 Z = true ∨ ((Jvm.Cond.laysFinal C O nm d).before a0 Z = true ∧ y.cls = O ∧ y.name = "<init>")) (wi : (Jvm.Cond.instantiable C kk).before a0 Z = true) (hty : parseFieldDescriptor d = some ty) (hn : narrow ty v = v) (hf : fits ty v = true) (hN : n0 ≤ a) (hp : pc + 3 = pc') :
    ∃ h', Wr h h' a (Jvm.RoadKit.slotOf Z O nm d) v ∧ Rch p l e R s m args below meth c Z y bc ml rt n0 T0 g0 k n h' (mkF m pc' L S) := by
  subst hp
  obtain ⟨q, T, locs, X, eT, N, st⟩ := r
  obtain ⟨T', h', X', e', W, st'⟩ := putF X q.1 q.2.2.2.2.1 q.2.2.2.1 w via eT F E (lw.imp id fun z => ⟨z.1, z.2.1, q.2.2.2.2.2.2.2.trans z.2.2⟩) wi hty hn hf (g := mkF m pc L (v :: .ref a :: S)) rfl rfl (hb q.2.1 hd)
  exact ⟨h', W, q, T', _, X', e', Fr.snoc X' N hN, fun t z => st t (st' t z)⟩
theorem Rch.putFN {R0 O nm d C : String} {idx kk : Nat} {ty : FieldType} {a : Addr} {v v' old : Value} (r : Rch p l e R s m args below meth c Z y bc ml rt n0 T0 g0 k n h (mkF m pc L (v :: .ref a :: S))) (hd : decode bc pc = .ok (.putfield idx, 3)) (w : (Jvm.Cond.fieldLink y.cls idx R0 nm d).before a0 Z = true) (via : Via Z R0 O nm d) (F : Fld Z h a O nm d old) (E : Exa Z h a C)
    (lw : (Jvm.Cond.lays C O nm d).before a0 Z = true ∨ ((Jvm.Cond.laysFinal C O nm d).before a0 Z = true ∧ y.cls = O ∧ y.name = "<init>")) (wi : (Jvm.Cond.instantiable C kk).before a0 Z = true) (hty : parseFieldDescriptor d = some ty) (hn : narrow ty v = v') (hf : fits ty v' = true) (hN : n0 ≤ a) (hp : pc + 3 = pc') :
    ∃ h', Wr h h' a (Jvm.RoadKit.slotOf Z O nm d) v' ∧ Rch p l e R s m args below meth c Z y bc ml rt n0 T0 g0 k n h' (mkF m pc' L S) := by
  subst hp
  obtain ⟨q, T, locs, X, eT, N, st⟩ := r
  obtain ⟨T', h', X', e', W, st'⟩ := putFN X q.1 q.2.2.2.2.1 q.2.2.2.1 w via eT F E (lw.imp id fun z => ⟨z.1, z.2.1, q.2.2.2.2.2.2.2.trans z.2.2⟩) wi hty hn hf (g := mkF m pc L (v :: .ref a :: S)) rfl rfl (hb q.2.1 hd)
  exact ⟨h', W, q, T', _, X', e', Fr.snoc X' N hN, fun t z => st t (st' t z)⟩
-- objects and arrays
theorem Rch.newO {C : String} {idx i : Nat} (r : Rch p l e R s m args below meth c Z y bc ml rt n0 T0 g0 k n h (mkF m pc L S)) (hd : decode bc pc = .ok (.new idx, 3)) (w : (Jvm.Cond.classLink y.cls idx C).before a0 Z = true) (wi : (Jvm.Cond.instantiable C i).before a0 Z = true) (wz : (Jvm.Cond.initialized C).before a0 Z = true) {k' n' : Nat} (hk : k + 1 = k') (hn' : n + i = n') (hc : k' ≤ R.cells) (hl : n' ≤ R.slots) (hp : pc + 3 = pc') :
    ∃ h' a, a = h.size ∧ Ext h h' ∧ Exa Z h' a C ∧ (∀ {O nm d : String} {ty : FieldType}, Laid Z a0 C O nm d → parseFieldDescriptor d = some ty → Fld Z h' a O nm d (defaultValue ty)) ∧ Rch p l e R s m args below meth c Z y bc ml rt n0 T0 g0 k' n' h' (mkF m pc' L (.ref a :: S)) := by
  subst hp hk hn'
  obtain ⟨q, T, locs, X, eT, N, st⟩ := r
  obtain ⟨T', h', X', e', E, A, D, -, st'⟩ := newO X q.1 q.2.2.2.2.1 q.2.2.2.1 w wi wz eT (g := mkF m pc L S) rfl (hb q.2.1 hd) hc hl
  exact ⟨h', h.size, rfl, E, A, D, q, T', locs, X', e', N, fun t z => st t (st' t z)⟩
theorem Rch.newP {aty : ArrayType} {i : Int32} (r : Rch p l e R s m args below meth c Z y bc ml rt n0 T0 g0 k n h (mkF m pc L (.int i :: S))) (hd : decode bc pc = .ok (.newarray aty, 2)) (w : (Jvm.Cond.arrayClass (newarray.typeOf aty)).before a0 Z = true) (hn : ¬ i < 0) {cap : Nat} (hcap : i.toNatClampNeg ≤ cap) (hbg : cap * 8 ≤ 536870912) {k' n' : Nat} (hk : k + 1 = k') (hn' : n + cap = n') (hc : k' ≤ R.cells) (hl : n' ≤ R.slots) (hp : pc + 2 = pc') :
    ∃ h' a cA, a = h.size ∧ Ext h h' ∧ Arv Z h' a cA (newarray.typeOf aty) i [] (defaultValue (newarray.typeOf aty)) ∧ Rch p l e R s m args below meth c Z y bc ml rt n0 T0 g0 k' n' h' (mkF m pc' L (.ref a :: S)) := by
  subst hp hk hn'
  obtain ⟨q, T, locs, X, eT, N, st⟩ := r
  obtain ⟨T', h', cA, X', e', E, A, st'⟩ := newP X q.1 q.2.2.2.2.1 w eT (g := mkF m pc L (.int i :: S)) rfl (hb q.2.1 hd) rfl hn hcap hbg hc hl
  exact ⟨h', h.size, cA, rfl, E, Arv.new A hn, q, T', locs, X', e', N, fun t z => st t (st' t z)⟩
theorem Rch.newR {C : String} {idx : Nat} {i : Int32} (r : Rch p l e R s m args below meth c Z y bc ml rt n0 T0 g0 k n h (mkF m pc L (.int i :: S))) (hd : decode bc pc = .ok (.anewarray idx, 3)) (w1 : (Jvm.Cond.classLink y.cls idx C).before a0 Z = true) (w2 : (Jvm.Cond.arrayOver (.object C)).before a0 Z = true) (hn : ¬ i < 0) {cap : Nat} (hcap : i.toNatClampNeg ≤ cap) (hbg : cap * 8 ≤ 536870912) {k' n' : Nat} (hk : k + 1 = k') (hn' : n + cap = n') (hc : k' ≤ R.cells) (hl : n' ≤ R.slots) (hp : pc + 3 = pc') :
    ∃ h' a cA, a = h.size ∧ Ext h h' ∧ Ovr Z cA C ∧ Arv Z h' a cA (.object C) i [] .null ∧ Rch p l e R s m args below meth c Z y bc ml rt n0 T0 g0 k' n' h' (mkF m pc' L (.ref a :: S)) := by
  subst hp hk hn'
  obtain ⟨q, T, locs, X, eT, N, st⟩ := r
  obtain ⟨T', h', cA, X', e', E, A, O, st'⟩ := newR X q.1 q.2.2.2.2.1 q.2.2.2.1 w1 w2 eT (g := mkF m pc L (.int i :: S)) rfl (hb q.2.1 hd) rfl hn hcap hbg hc hl
  exact ⟨h', h.size, cA, rfl, E, O, Arv.new A hn, q, T', locs, X', e', N, fun t z => st t (st' t z)⟩
theorem inbI {c : Cell} {z j : Int32} (S : c.slots.size = z.toNatClampNeg) (h1 : ¬ j < 0) (h2 : j < z) : ¬ (j < 0 ∨ c.slots.size ≤ j.toNatClampNeg) := inb_of S ⟨h1, h2⟩
theorem Rch.stI {a : Addr} {kc : ClassId} {z j : Int32} {x : Int32} {vs : List Value} {dv : Value} (r : Rch p l e R s m args below meth c Z y bc ml rt n0 T0 g0 k n h (mkF m pc L (.int x :: .int j :: .ref a :: S))) (hd : decode bc pc = .ok (.iastore, 1)) (V : Arv Z h a kc .int z vs dv) (h1 : ¬ j < 0) (h2 : j < z) (h3 : j.toNatClampNeg < vs.length) (hN : n0 ≤ a) (hp : pc + 1 = pc') :
    ∃ h', Wr h h' a j.toNatClampNeg (.int x) ∧ Arv Z h' a kc .int z (vs.set j.toNatClampNeg (.int x)) dv ∧ Rch p l e R s m args below meth c Z y bc ml rt n0 T0 g0 k n h' (mkF m pc' L S) := by
  subst hp
  obtain ⟨q, T, locs, X, eT, N, st⟩ := r
  obtain ⟨cl, A, q1, S1, q3, H, G⟩ := V
  obtain ⟨T', h', X', e', W, st'⟩ := stI X q.1 q.2.2.2.2.1 eT A (j := j) (inbI S1 h1 h2) (g := mkF m pc L (.int x :: .int j :: .ref a :: S)) rfl rfl (hb q.2.1 hd)
  exact ⟨h', W, Arv.set A q1 S1 q3 H G rfl W _ rfl h3, q, T', _, X', e', Fr.snoc X' N hN, fun t z => st t (st' t z)⟩
theorem Rch.stB {a : Addr} {kc : ClassId} {z j : Int32} {x : Int32} {vs : List Value} {dv : Value} (r : Rch p l e R s m args below meth c Z y bc ml rt n0 T0 g0 k n h (mkF m pc L (.int x :: .int j :: .ref a :: S))) (hd : decode bc pc = .ok (.bastore, 1)) (V : Arv Z h a kc .byte z vs dv) (h1 : ¬ j < 0) (h2 : j < z) (h3 : j.toNatClampNeg < vs.length) (hN : n0 ≤ a) (hp : pc + 1 = pc') :
    ∃ h', Wr h h' a j.toNatClampNeg (.int (nar .byte x)) ∧ Arv Z h' a kc .byte z (vs.set j.toNatClampNeg (.int (nar .byte x))) dv ∧ Rch p l e R s m args below meth c Z y bc ml rt n0 T0 g0 k n h' (mkF m pc' L S) := by
  subst hp
  obtain ⟨q, T, locs, X, eT, N, st⟩ := r
  obtain ⟨cl, A, q1, S1, q3, H, G⟩ := V
  obtain ⟨T', h', X', e', W, st'⟩ := stB X q.1 q.2.2.2.2.1 eT A (j := j) (inbI S1 h1 h2) (g := mkF m pc L (.int x :: .int j :: .ref a :: S)) rfl rfl (hb q.2.1 hd)
  exact ⟨h', W, Arv.set A q1 S1 q3 H G (fits_nar_byte _) W _ rfl h3, q, T', _, X', e', Fr.snoc X' N hN, fun t z => st t (st' t z)⟩
theorem Rch.stC {a : Addr} {kc : ClassId} {z j : Int32} {x : Int32} {vs : List Value} {dv : Value} (r : Rch p l e R s m args below meth c Z y bc ml rt n0 T0 g0 k n h (mkF m pc L (.int x :: .int j :: .ref a :: S))) (hd : decode bc pc = .ok (.castore, 1)) (V : Arv Z h a kc .char z vs dv) (h1 : ¬ j < 0) (h2 : j < z) (h3 : j.toNatClampNeg < vs.length) (hN : n0 ≤ a) (hp : pc + 1 = pc') :
    ∃ h', Wr h h' a j.toNatClampNeg (.int (nar .char x)) ∧ Arv Z h' a kc .char z (vs.set j.toNatClampNeg (.int (nar .char x))) dv ∧ Rch p l e R s m args below meth c Z y bc ml rt n0 T0 g0 k n h' (mkF m pc' L S) := by
  subst hp
  obtain ⟨q, T, locs, X, eT, N, st⟩ := r
  obtain ⟨cl, A, q1, S1, q3, H, G⟩ := V
  obtain ⟨T', h', X', e', W, st'⟩ := stC X q.1 q.2.2.2.2.1 eT A (j := j) (inbI S1 h1 h2) (g := mkF m pc L (.int x :: .int j :: .ref a :: S)) rfl rfl (hb q.2.1 hd)
  exact ⟨h', W, Arv.set A q1 S1 q3 H G (fits_nar_char _) W _ rfl h3, q, T', _, X', e', Fr.snoc X' N hN, fun t z => st t (st' t z)⟩
theorem Rch.stZ {a : Addr} {kc : ClassId} {z j : Int32} {x : Int32} {vs : List Value} {dv : Value} (r : Rch p l e R s m args below meth c Z y bc ml rt n0 T0 g0 k n h (mkF m pc L (.int x :: .int j :: .ref a :: S))) (hd : decode bc pc = .ok (.bastore, 1)) (V : Arv Z h a kc .boolean z vs dv) (h1 : ¬ j < 0) (h2 : j < z) (h3 : j.toNatClampNeg < vs.length) (hN : n0 ≤ a) (hp : pc + 1 = pc') :
    ∃ h', Wr h h' a j.toNatClampNeg (.int (nar .boolean x)) ∧ Arv Z h' a kc .boolean z (vs.set j.toNatClampNeg (.int (nar .boolean x))) dv ∧ Rch p l e R s m args below meth c Z y bc ml rt n0 T0 g0 k n h' (mkF m pc' L S) := by
  subst hp
  obtain ⟨q, T, locs, X, eT, N, st⟩ := r
  obtain ⟨cl, A, q1, S1, q3, H, G⟩ := V
  obtain ⟨T', h', X', e', W, st'⟩ := stZ X q.1 q.2.2.2.2.1 eT A (j := j) (inbI S1 h1 h2) (g := mkF m pc L (.int x :: .int j :: .ref a :: S)) rfl rfl (hb q.2.1 hd)
  exact ⟨h', W, Arv.set A q1 S1 q3 H G (fits_nar_bool _) W _ rfl h3, q, T', _, X', e', Fr.snoc X' N hN, fun t z => st t (st' t z)⟩
theorem Rch.stJ {a : Addr} {kc : ClassId} {z j : Int32} {x : Int64} {vs : List Value} {dv : Value} (r : Rch p l e R s m args below meth c Z y bc ml rt n0 T0 g0 k n h (mkF m pc L (.long x :: .int j :: .ref a :: S))) (hd : decode bc pc = .ok (.lastore, 1)) (V : Arv Z h a kc .long z vs dv) (h1 : ¬ j < 0) (h2 : j < z) (h3 : j.toNatClampNeg < vs.length) (hN : n0 ≤ a) (hp : pc + 1 = pc') :
    ∃ h', Wr h h' a j.toNatClampNeg (.long x) ∧ Arv Z h' a kc .long z (vs.set j.toNatClampNeg (.long x)) dv ∧ Rch p l e R s m args below meth c Z y bc ml rt n0 T0 g0 k n h' (mkF m pc' L S) := by
  subst hp
  obtain ⟨q, T, locs, X, eT, N, st⟩ := r
  obtain ⟨cl, A, q1, S1, q3, H, G⟩ := V
  obtain ⟨T', h', X', e', W, st'⟩ := stJ X q.1 q.2.2.2.2.1 eT A (j := j) (inbI S1 h1 h2) (g := mkF m pc L (.long x :: .int j :: .ref a :: S)) rfl rfl (hb q.2.1 hd)
  exact ⟨h', W, Arv.set A q1 S1 q3 H G rfl W _ rfl h3, q, T', _, X', e', Fr.snoc X' N hN, fun t z => st t (st' t z)⟩
theorem Rch.stR {C : String} {a : Addr} {kc : ClassId} {z j : Int32} {v : Value} {vs : List Value} {dv : Value} (r : Rch p l e R s m args below meth c Z y bc ml rt n0 T0 g0 k n h (mkF m pc L (v :: .int j :: .ref a :: S))) (hd : decode bc pc = .ok (.aastore, 1)) (V : Arv Z h a kc (.object C) z vs dv) (h1 : ¬ j < 0) (h2 : j < z) (h3 : j.toNatClampNeg < vs.length) (hs : Sto Z h a v) (hv : v.isRef = true) (hN : n0 ≤ a) (hp : pc + 1 = pc') :
    ∃ h', Wr h h' a j.toNatClampNeg v ∧ Arv Z h' a kc (.object C) z (vs.set j.toNatClampNeg v) dv ∧ Rch p l e R s m args below meth c Z y bc ml rt n0 T0 g0 k n h' (mkF m pc' L S) := by
  subst hp
  obtain ⟨q, T, locs, X, eT, N, st⟩ := r
  obtain ⟨cl, A, q1, S1, q3, H, G⟩ := V
  obtain ⟨T', h', X', e', W, st'⟩ := stR X q.1 q.2.2.2.2.1 eT A (j := j) (inbI S1 h1 h2) rfl hs (g := mkF m pc L (v :: .int j :: .ref a :: S)) rfl rfl (hb q.2.1 hd)
  have hf : fits (.object C) v = true := by cases v <;> first | rfl | (cases hv; done)
  exact ⟨h', W, Arv.set A q1 S1 q3 H G hf W _ rfl h3, q, T', _, X', e', Fr.snoc X' N hN, fun t z => st t (st' t z)⟩
theorem Rch.ldI {a : Addr} {kc : ClassId} {z j : Int32} {vs : List Value} {dv : Value} (v : Value) (r : Rch p l e R s m args below meth c Z y bc ml rt n0 T0 g0 k n h (mkF m pc L (.int j :: .ref a :: S))) (hd : decode bc pc = .ok (.iaload, 1)) (V : Arv Z h a kc .int z vs dv) (h1 : ¬ j < 0) (h2 : j < z) (hv : vs.getD j.toNatClampNeg dv = v) (hp : pc + 1 = pc') :
    Rch p l e R s m args below meth c Z y bc ml rt n0 T0 g0 k n h (mkF m pc' L (v :: S)) := by
  subst hp
  obtain ⟨cl, A, q1, S1, q3, H, G⟩ := V
  exact r.pure fun T locs X eT t w => X.iaload r.1.1 (j := j) (v := v) (by rw [eT]; exact A.1) (State.isArrayOf_alike r.1.2.2.2.2.1.alike A.2.1) A.2.2 (inbI S1 h1 h2) (Has.at H (inbI S1 h1 h2) hv) (g := mkF m pc L (.int j :: .ref a :: S)) rfl rfl (hb r.1.2.1 hd) _ w
theorem Rch.ldJ {a : Addr} {kc : ClassId} {z j : Int32} {vs : List Value} {dv : Value} (v : Value) (r : Rch p l e R s m args below meth c Z y bc ml rt n0 T0 g0 k n h (mkF m pc L (.int j :: .ref a :: S))) (hd : decode bc pc = .ok (.laload, 1)) (V : Arv Z h a kc .long z vs dv) (h1 : ¬ j < 0) (h2 : j < z) (hv : vs.getD j.toNatClampNeg dv = v) (hp : pc + 1 = pc') :
    Rch p l e R s m args below meth c Z y bc ml rt n0 T0 g0 k n h (mkF m pc' L (v :: S)) := by
  subst hp
  obtain ⟨cl, A, q1, S1, q3, H, G⟩ := V
  exact r.pure fun T locs X eT t w => X.laload r.1.1 (j := j) (v := v) (by rw [eT]; exact A.1) (State.isArrayOf_alike r.1.2.2.2.2.1.alike A.2.1) A.2.2 (inbI S1 h1 h2) (Has.at H (inbI S1 h1 h2) hv) (g := mkF m pc L (.int j :: .ref a :: S)) rfl rfl (hb r.1.2.1 hd) _ w
theorem Rch.ldB {a : Addr} {kc : ClassId} {z j : Int32} {vs : List Value} {dv : Value} (v : Value) (r : Rch p l e R s m args below meth c Z y bc ml rt n0 T0 g0 k n h (mkF m pc L (.int j :: .ref a :: S))) (hd : decode bc pc = .ok (.baload, 1)) (V : Arv Z h a kc .byte z vs dv) (h1 : ¬ j < 0) (h2 : j < z) (hv : vs.getD j.toNatClampNeg dv = v) (hp : pc + 1 = pc') :
    Rch p l e R s m args below meth c Z y bc ml rt n0 T0 g0 k n h (mkF m pc' L (v :: S)) := by
  subst hp
  obtain ⟨cl, A, q1, S1, q3, H, G⟩ := V
  exact r.pure fun T locs X eT t w => X.baloadBytes r.1.1 (j := j) (v := v) (by rw [eT]; exact A.1) (State.isArrayOf_alike r.1.2.2.2.2.1.alike A.2.1) A.2.2 (inbI S1 h1 h2) (Has.at H (inbI S1 h1 h2) hv) (g := mkF m pc L (.int j :: .ref a :: S)) rfl rfl (hb r.1.2.1 hd) _ w
theorem Rch.ldC {a : Addr} {kc : ClassId} {z j : Int32} {vs : List Value} {dv : Value} (v : Value) (r : Rch p l e R s m args below meth c Z y bc ml rt n0 T0 g0 k n h (mkF m pc L (.int j :: .ref a :: S))) (hd : decode bc pc = .ok (.caload, 1)) (V : Arv Z h a kc .char z vs dv) (h1 : ¬ j < 0) (h2 : j < z) (hv : vs.getD j.toNatClampNeg dv = v) (hp : pc + 1 = pc') :
    Rch p l e R s m args below meth c Z y bc ml rt n0 T0 g0 k n h (mkF m pc' L (v :: S)) := by
  subst hp
  obtain ⟨cl, A, q1, S1, q3, H, G⟩ := V
  exact r.pure fun T locs X eT t w => X.caload r.1.1 (j := j) (v := v) (by rw [eT]; exact A.1) (State.isArrayOf_alike r.1.2.2.2.2.1.alike A.2.1) A.2.2 (inbI S1 h1 h2) (Has.at H (inbI S1 h1 h2) hv) (g := mkF m pc L (.int j :: .ref a :: S)) rfl rfl (hb r.1.2.1 hd) _ w
theorem Rch.ldR {ty : FieldType} {a : Addr} {kc : ClassId} {z j : Int32} {vs : List Value} {dv : Value} (v : Value) (r : Rch p l e R s m args below meth c Z y bc ml rt n0 T0 g0 k n h (mkF m pc L (.int j :: .ref a :: S))) (hd : decode bc pc = .ok (.aaload, 1)) (V : Arv Z h a kc ty z vs dv) (hty : ty.isReference = true) (h1 : ¬ j < 0) (h2 : j < z) (hv : vs.getD j.toNatClampNeg dv = v) (hp : pc + 1 = pc') :
    Rch p l e R s m args below meth c Z y bc ml rt n0 T0 g0 k n h (mkF m pc' L (v :: S)) := by
  subst hp
  obtain ⟨cl, A, q1, S1, q3, H, G⟩ := V
  exact r.pure fun T locs X eT t w => X.aaload r.1.1 (j := j) (v := v) (by rw [eT]; exact A.1) (State.isArrayOf_alike r.1.2.2.2.2.1.alike A.2.1) hty A.2.2 (inbI S1 h1 h2) (Has.at H (inbI S1 h1 h2) hv) (g := mkF m pc L (.int j :: .ref a :: S)) rfl rfl (hb r.1.2.1 hd) _ w
theorem Rch.ldI0 {a : Addr} {kc : ClassId} {z j : Int32} {vs : List Value} {dv : Value} (r : Rch p l e R s m args below meth c Z y bc ml rt n0 T0 g0 k n h (mkF m pc L (.int j :: .ref a :: S))) (hd : decode bc pc = .ok (.iaload, 1)) (V : Arv Z h a kc .int z vs dv) (h1 : ¬ j < 0) (h2 : j < z) (hp : pc + 1 = pc') :
    ∃ x : Int32, vs.getD j.toNatClampNeg dv = .int x ∧ Rch p l e R s m args below meth c Z y bc ml rt n0 T0 g0 k n h (mkF m pc' L (.int x :: S)) := by
  have V0 := V
  obtain ⟨cl, A, q1, S1, q3, H, G⟩ := V0
  have hlt := Nat.lt_of_not_le fun q => inbI S1 h1 h2 (Or.inr q)
  obtain ⟨x, hx⟩ := fit_I (G _ hlt) (Or.inl rfl)
  exact ⟨x, hx, Rch.ldI (.int x) r hd V h1 h2 hx hp⟩
theorem Rch.stI0 {a : Addr} {kc : ClassId} {z j x : Int32} {vs : List Value} {dv : Value} (r : Rch p l e R s m args below meth c Z y bc ml rt n0 T0 g0 k n h (mkF m pc L (.int x :: .int j :: .ref a :: S))) (hd : decode bc pc = .ok (.iastore, 1)) (V : Arv Z h a kc .int z vs dv) (h1 : ¬ j < 0) (h2 : j < z) (hN : n0 ≤ a) (hp : pc + 1 = pc') :
    ∃ h' vs', Wr h h' a j.toNatClampNeg (.int x) ∧ Arv Z h' a kc .int z vs' dv ∧ Rch p l e R s m args below meth c Z y bc ml rt n0 T0 g0 k n h' (mkF m pc' L S) := by
  obtain ⟨h', W, V', r'⟩ := Rch.stI r hd (V.pad (pad_rep vs dv (j.toNatClampNeg + 1))) h1 h2 (by simp; omega) hN hp
  exact ⟨h', _, W, V', r'⟩
theorem Rch.alen {ty : FieldType} {a : Addr} {kc : ClassId} {z : Int32} {vs : List Value} {dv : Value} (r : Rch p l e R s m args below meth c Z y bc ml rt n0 T0 g0 k n h (mkF m pc L (.ref a :: S))) (hd : decode bc pc = .ok (.arraylength, 1)) (V : Arv Z h a kc ty z vs dv) (hp : pc + 1 = pc') :
    Rch p l e R s m args below meth c Z y bc ml rt n0 T0 g0 k n h (mkF m pc' L (.int z :: S)) := by
  subst hp
  obtain ⟨cl, A, -, S1, S2, -, -⟩ := V
  refine r.pure fun T locs X eT t w => X.arraylength r.1.1 (by rw [eT]; exact A.1) (State.isArrayOf_alike r.1.2.2.2.2.1.alike A.2.1) (g := mkF m pc L (.ref a :: S)) rfl rfl (hb r.1.2.1 hd) _ ?_
  rw [len_of S1 S2]
  exact w
-- returns
theorem Rch.retZ {z : Int32} {t : FieldType} (r : Rch p l e R s m args below meth c Z y bc ml rt n0 T0 g0 k n h (mkF m pc L (.int z :: S))) (hd : decode bc pc = .ok (.ireturn, 1)) (hrt : rt = some t) (ht : t = .boolean ∨ t = .byte ∨ t = .char ∨ t = .short) (w : Int32) (hw : nar t z = w) (hk : k ≤ R.cells) (hn : n ≤ R.slots) : Don p l e R s m args below meth c rt n0 T0 g0 (some (.int w)) h := by
  subst hw
  obtain ⟨q, T, locs, X, eT, N, st⟩ := r
  refine ⟨T, locs, k, n, X, hk, hn, eT, N, q.2.2.2.2.2.2.1, (fun z => ?_), fun fs hl => st _ (retN X q.1 (t := t) (q.2.2.2.2.2.1.trans hrt) ht (hb q.2.1 hd) hl)⟩
  rw [q.2.2.2.2.2.1, hrt] at z; cases z
theorem Rch.retI {z : Int32} (r : Rch p l e R s m args below meth c Z y bc ml rt n0 T0 g0 k n h (mkF m pc L (.int z :: S))) (hd : decode bc pc = .ok (.ireturn, 1)) (hrt : rt = some .int) (hk : k ≤ R.cells) (hn : n ≤ R.slots) : Don p l e R s m args below meth c rt n0 T0 g0 (some (.int z)) h := by
  obtain ⟨q, T, locs, X, eT, N, st⟩ := r
  refine ⟨T, locs, k, n, X, hk, hn, eT, N, q.2.2.2.2.2.2.1, (fun z => ?_), fun fs hl => st _ (retOut X q.1 (t := .int) (q.2.2.2.2.2.1.trans hrt) rfl (Or.inl ⟨rfl, Or.inl rfl, _, rfl⟩) (hb q.2.1 hd) hl)⟩
  rw [q.2.2.2.2.2.1, hrt] at z; cases z
theorem Rch.retJ {z : Int64} (r : Rch p l e R s m args below meth c Z y bc ml rt n0 T0 g0 k n h (mkF m pc L (.long z :: S))) (hd : decode bc pc = .ok (.lreturn, 1)) (hrt : rt = some .long) (hk : k ≤ R.cells) (hn : n ≤ R.slots) : Don p l e R s m args below meth c rt n0 T0 g0 (some (.long z)) h := by
  obtain ⟨q, T, locs, X, eT, N, st⟩ := r
  refine ⟨T, locs, k, n, X, hk, hn, eT, N, q.2.2.2.2.2.2.1, (fun z => ?_), fun fs hl => st _ (retOut X q.1 (t := .long) (q.2.2.2.2.2.1.trans hrt) rfl (Or.inr (Or.inl ⟨rfl, rfl, _, rfl⟩)) (hb q.2.1 hd) hl)⟩
  rw [q.2.2.2.2.2.1, hrt] at z; cases z
theorem Rch.retA {v : Value} {t : FieldType} (r : Rch p l e R s m args below meth c Z y bc ml rt n0 T0 g0 k n h (mkF m pc L (v :: S))) (hd : decode bc pc = .ok (.areturn, 1)) (hrt : rt = some t) (ht : t.isReference = true) (hv : v.isRef = true) (hk : k ≤ R.cells) (hn : n ≤ R.slots) : Don p l e R s m args below meth c rt n0 T0 g0 (some v) h := by
  obtain ⟨q, T, locs, X, eT, N, st⟩ := r
  have hnar : narrow t v = v := by cases v <;> first | (cases hv; done) | (cases t <;> rfl)
  refine ⟨T, locs, k, n, X, hk, hn, eT, N, q.2.2.2.2.2.2.1, (fun z => ?_), fun fs hl => st _ (retOut X q.1 (t := t) (q.2.2.2.2.2.1.trans hrt) hnar (Or.inr (Or.inr (Or.inr (Or.inr ⟨rfl, ht, hv⟩)))) (hb q.2.1 hd) hl)⟩
  rw [q.2.2.2.2.2.1, hrt] at z; cases z
theorem Rch.retV (r : Rch p l e R s m args below meth c Z y bc ml rt n0 T0 g0 k n h (mkF m pc L [])) (hd : decode bc pc = .ok (.return_, 1)) (hrt : rt = none) (hk : k ≤ R.cells) (hn : n ≤ R.slots) : Don p l e R s m args below meth c rt n0 T0 g0 none h := by
  obtain ⟨q, T, locs, X, eT, N, st⟩ := r
  exact ⟨T, locs, k, n, X, hk, hn, eT, N, q.2.2.2.2.2.2.1, fun _ => rfl, fun fs hl => st _ (X.returnOut q.1 (q.2.2.2.2.2.1.trans hrt) (hb q.2.1 hd) hl)⟩
-- entering a body
theorem ent {rm : Room} {as : Array Value} {h0 : Heap} {Q : Option Value → Heap → Prop} {L0 : Array Slot} (hpl : plainFor y = true) (hL : ∀ m, entryFrame m as ml = mkF m 0 L0 [])
    (H : ∀ p e s m below meth c T0, Rch p l e rm s m as below meth c Z y bc ml rt n0 T0 (mkF m 0 L0 []) 0 0 h0 (mkF m 0 L0 []) → ∃ v h, Don p l e rm s m as below meth c rt n0 T0 (mkF m 0 L0 []) v h ∧ Q v h) : Ctr l Z y bc ml rt rm as h0 n0 Q := by
  intro ws
  refine MetFree.of_bodySF hpl hisR ?_
  intro p e s m args below meth c s₁ Bd hml0 hP hK
  obtain ⟨rfl, hZ, hh⟩ := hP
  have hown : s.vm.findClass y.cls = some m.cls := findClass_of_methodNamed Bd.named
  have hnm := (name_of_methodNamed Bd.named Bd.method).1
  have X0 : Stand p l e rm s m args below meth c s₁ [] 0 0 := Stand.of_body Bd
  have e0 : s₁.heap = h0 := by rw [← hh, Bd.state]; rfl
  obtain ⟨v, h, ⟨T, locs, k, n, X, hk, hn, eT, N, hlk, hv, st⟩, hq⟩ := H p e s m below meth c s₁ ⟨⟨Bd.exec, Bd.bytes, hml0, hown, hZ, Bd.returns, Bd.notSynchronized, hnm⟩, s₁, [], X0, e0, Fr.nil n0, fun _ z => z⟩
  obtain ⟨fs, hr, hrun, hended, hW, hsame⟩ := X.leave (v := v) hv hlk
  refine ⟨_, _, castTop (hL m) (st fs hr), hrun, hended, v, locs, rfl, ⟨N, ?_⟩, ⟨_, rfl⟩, hW, hsame.mono hk hn⟩
  show Q v T.heap
  rw [eT]; exact hq
-- calls
theorem Rch.callS {z : MethodName} {bc' : ByteArray} {ml' : Nat} {rt' : Option FieldType} {rm : Room} {idx : Nat} {ps : List FieldType} {ro : Option FieldType} {Q : Option Value → Heap → Prop} (argsL : List Value) {rest : List Value} (W : Nat)
    (r : Rch p l e R s m args below meth c Z y bc ml rt n0 T0 g0 k n h (mkF m pc L S)) (hd : decode bc pc = .ok (.invokestatic idx, 3)) (w1 : (Jvm.Cond.methodLink y.cls idx z).before a0 Z = true) (w2 : (Jvm.Cond.static z).before a0 Z = true) (w3 : (Jvm.Cond.initialized z.cls).before a0 Z = true) (w4 : (Jvm.Cond.code z bc' ml' rt').before a0 Z = true)
    (hy : z.cls ≠ "java/lang/invoke/MethodHandle" ∧ z.cls ≠ "java/lang/invoke/VarHandle") (C : Ctr l Z z bc' ml' rt' rm argsL.toArray h n0 Q) (pd : parseMethodDescriptor z.desc = some ⟨ps, ro⟩) (hlen : argsL.length = ps.length) (hS : S = argsL.reverse ++ rest) (hml : L.size = ml)
    (hW : (rest.map fun v => v.category).sum ≤ W) (hf : rm.frames + 1 ≤ R.frames) (hlo : W + (ml' + 11) + rm.locals ≤ R.locals) {k' n' : Nat} (hk : k + rm.cells = k') (hn' : n + rm.slots = n') (hc : k' ≤ R.cells) (hl : n' ≤ R.slots) (hp : pc + 3 = pc') :
    ∃ v h', Q v h' ∧ Rch p l e R s m args below meth c Z y bc ml rt n0 T0 g0 k' n' h' (mkF m pc' L (v.toList ++ rest)) := by
  subst hp hS hk hn'
  obtain ⟨q, T, locs, X, eT, N, st⟩ := r
  obtain ⟨v, _, ⟨T', L', kk', nn'⟩, -, X', ⟨Lc, hQ, l1, y1, z1⟩, st'⟩ := Jvm.LawKit.callS X q.1 (y := z) q.2.2.2.1 (mvT q.2.2.2.2.1 w1) (mvT q.2.2.2.2.1 w2) (mvT q.2.2.2.2.1 w3) (mvT q.2.2.2.2.1 w4) hy (backOf (W := W) (Q := fun v h L => Fr n0 L ∧ Q v h) (C []) q.2.2.2.2.1 w4 w3 hf hlo) (g := mkF m pc L (argsL.reverse ++ rest)) rfl (by rw [q.2.2.1]; exact hml) (argsL := argsL) (rest := rest) (lenOf pd hlen) rfl (by simpa using hW) (hb q.2.1 hd) (fun _ _ => ⟨rfl, eT, hc, hl⟩)
  dsimp only [Pt.U, Pt.locs, Pt.cells, Pt.slots] at X' l1 y1 z1 st' hQ
  subst l1 y1 z1
  exact ⟨v, T'.heap, hQ.2, q, T', _, X', rfl, N.app hQ.1, fun t u => st t (st' t u)⟩
theorem Rch.callC {z : MethodName} {bc' : ByteArray} {ml' : Nat} {rm : Room} {idx : Nat} {ps : List FieldType} {ro : Option FieldType} {Q : Option Value → Heap → Prop} {a : Addr} (argsL : List Value) {rest : List Value} (W : Nat)
    (r : Rch p l e R s m args below meth c Z y bc ml rt n0 T0 g0 k n h (mkF m pc L S)) (hd : decode bc pc = .ok (.invokespecial idx, 3)) (hi : z.name = "<init>") (w1 : (Jvm.Cond.methodLink y.cls idx z).before a0 Z = true) (w2 : (Jvm.Cond.instanceMethod z).before a0 Z = true) (w3 : (Jvm.Cond.initialized z.cls).before a0 Z = true) (w4 : (Jvm.Cond.code z bc' ml' none).before a0 Z = true)
    (hy : z.cls ≠ "java/lang/invoke/MethodHandle" ∧ z.cls ≠ "java/lang/invoke/VarHandle") (C : Ctr l Z z bc' ml' none rm (.ref a :: argsL).toArray h n0 Q) (pd : parseMethodDescriptor z.desc = some ⟨ps, ro⟩) (hlen : argsL.length = ps.length) (hS : S = argsL.reverse ++ .ref a :: rest) (hml : L.size = ml)
    (hW : (rest.map fun v => v.category).sum ≤ W) (hf : rm.frames + 1 ≤ R.frames) (hlo : W + (ml' + 11) + rm.locals ≤ R.locals) {k' n' : Nat} (hk : k + rm.cells = k') (hn' : n + rm.slots = n') (hc : k' ≤ R.cells) (hl : n' ≤ R.slots) (hp : pc + 3 = pc') :
    ∃ v h', Q v h' ∧ Rch p l e R s m args below meth c Z y bc ml rt n0 T0 g0 k' n' h' (mkF m pc' L (v.toList ++ rest)) := by
  subst hp hS hk hn'
  obtain ⟨q, T, locs, X, eT, N, st⟩ := r
  obtain ⟨v, _, ⟨T', L', kk', nn'⟩, -, X', ⟨Lc, hQ, l1, y1, z1⟩, st'⟩ := X.specialBack q.1 (y := z) hi q.2.2.2.1 (mvT q.2.2.2.2.1 w1) (mvT q.2.2.2.2.1 w2) (mvT q.2.2.2.2.1 w4) hy (backOf (W := W) (Q := fun v h L => Fr n0 L ∧ Q v h) (C []) q.2.2.2.2.1 w4 w3 hf hlo) (g := mkF m pc L (argsL.reverse ++ .ref a :: rest)) rfl (by rw [q.2.2.1]; exact hml) (Steps.refl _) (a := a) (argsL := argsL) (rest := rest) (lenOf pd hlen) rfl (by simpa using hW) (hb q.2.1 hd) (fun _ _ => ⟨rfl, eT, hc, hl⟩)
  dsimp only [Pt.U, Pt.locs, Pt.cells, Pt.slots] at X' l1 y1 z1 st' hQ
  subst l1 y1 z1
  exact ⟨v, T'.heap, hQ.2, q, T', _, X', rfl, N.app hQ.1, fun t u => st t (st'.trans u)⟩
theorem Rch.callV {z z' : MethodName} {K : String} {bc' : ByteArray} {ml' : Nat} {rt' : Option FieldType} {rm : Room} {idx : Nat} {ps : List FieldType} {ro : Option FieldType} {Q : Option Value → Heap → Prop} {a : Addr} (argsL : List Value) {rest : List Value} (W : Nat)
    (r : Rch p l e R s m args below meth c Z y bc ml rt n0 T0 g0 k n h (mkF m pc L S)) (hd : decode bc pc = .ok (.invokevirtual idx, 3)) (w1 : (Jvm.Cond.methodLink y.cls idx z).before a0 Z = true) (w2 : (Jvm.Cond.declares z).before a0 Z = true) (nf : NotFace s z) (w5 : (Jvm.Cond.selects K z z').before a0 Z = true) (w6 : (Jvm.Cond.instanceMethod z').before a0 Z = true) (w3 : (Jvm.Cond.initialized z'.cls).before a0 Z = true) (w4 : (Jvm.Cond.code z' bc' ml' rt').before a0 Z = true)
    (hy : z.cls ≠ "java/lang/invoke/MethodHandle" ∧ z.cls ≠ "java/lang/invoke/VarHandle") (C : Ctr l Z z' bc' ml' rt' rm (.ref a :: argsL).toArray h n0 Q) (E : Exa Z h a K) (pd : parseMethodDescriptor z.desc = some ⟨ps, ro⟩) (hlen : argsL.length = ps.length) (hS : S = argsL.reverse ++ .ref a :: rest) (hml : L.size = ml)
    (hW : (rest.map fun v => v.category).sum ≤ W) (hf : rm.frames + 1 ≤ R.frames) (hlo : W + (ml' + 11) + rm.locals ≤ R.locals) {k' n' : Nat} (hk : k + rm.cells = k') (hn' : n + rm.slots = n') (hc : k' ≤ R.cells) (hl : n' ≤ R.slots) (hp : pc + 3 = pc') :
    ∃ v h', Q v h' ∧ Rch p l e R s m args below meth c Z y bc ml rt n0 T0 g0 k' n' h' (mkF m pc' L (v.toList ++ rest)) := by
  subst hp hS hk hn'
  obtain ⟨q, T, locs, X, eT, N, st⟩ := r
  obtain ⟨cq, kq, qa, qb, qc⟩ := isOf q.2.2.2.2.1 eT E
  obtain ⟨v, _, ⟨T', L', kk', nn'⟩, -, X', ⟨Lc, hQ, l1, y1, z1⟩, st'⟩ := X.virtualBack q.1 (y := z) (z := z') q.2.2.2.1 (mvT q.2.2.2.2.1 w1) (mvT q.2.2.2.2.1 w2) nf (mvT q.2.2.2.2.1 w5) (mvT q.2.2.2.2.1 w6) hy (backOf (W := W) (Q := fun v h L => Fr n0 L ∧ Q v h) (C []) q.2.2.2.2.1 w4 w3 hf hlo) qa qc (g := mkF m pc L (argsL.reverse ++ .ref a :: rest)) rfl (by rw [q.2.2.1]; exact hml) (Steps.refl _) (argsL := argsL) (rest := rest) (lenOf pd hlen) rfl (by simpa using hW) (hb q.2.1 hd) (fun _ _ => ⟨rfl, eT, hc, hl⟩)
  dsimp only [Pt.U, Pt.locs, Pt.cells, Pt.slots] at X' l1 y1 z1 st' hQ
  subst l1 y1 z1
  exact ⟨v, T'.heap, hQ.2, q, T', _, X', rfl, N.app hQ.1, fun t u => st t (st'.trans u)⟩
theorem Rch.nface {z z' : MethodName} {K : String} {g : JFrame} (r : Rch p l e R s m args below meth c Z y bc ml rt n0 T0 g0 k n h g) (w : (Jvm.Cond.selects K z z').before a0 Z = true) (hq : z = z') : NotFace s z := by
  subst hq; exact notFace_of_selects (args := #[]) (mvT r.1.2.2.2.2.1 w)
theorem Rch.initO {idx : Nat} {a : Addr} (W : Nat) (r : Rch p l e R s m args below meth c Z y bc ml rt n0 T0 g0 k n h (mkF m pc L (.ref a :: S))) (hd : decode bc pc = .ok (.invokespecial idx, 3)) (w1 : (Jvm.Cond.methodLink y.cls idx Lib.objectInit).before a0 Z = true) (w2 : (Jvm.Cond.instanceMethod Lib.objectInit).before a0 Z = true) (w3 : (Jvm.Cond.code Lib.objectInit ⟨#[0xb1]⟩ 1 none).before a0 Z = true) (hml : L.size = ml)
    (hf : 1 ≤ R.frames) (hW : (S.map fun v => v.category).sum ≤ W) (hl : W + 12 ≤ R.locals) (hp : pc + 3 = pc') : Rch p l e R s m args below meth c Z y bc ml rt n0 T0 g0 k n h (mkF m pc' L S) := by
  subst hp
  exact r.keep fun T locs X eT => initO X r.1.1 r.1.2.2.2.2.1 r.1.2.2.2.1 w1 w2 w3 eT (g := mkF m pc L (.ref a :: S)) rfl (by rw [r.1.2.2.1]; exact hml) rfl (hb r.1.2.1 hd) hf (W := W) (by simpa using hW) hl
end OwnLayer
section OwnPriv
variable {p : Program} {l : Launch} {e : Env} {R : Room} {s : State} {m : MethodId} {args : Array Value} {below : List Frame} {meth : Method} {c : Code} {Z : State} {y : MethodName} {bc : ByteArray} {ml : Nat} {rt : Option FieldType} {n0 : Nat} {T0 : State} {g0 : JFrame} {k n : Nat} {h : Heap} {a0 : Array Value} {pc pc' : Nat} {L : Array Slot} {S : List Value}
/-- a private method of the class, by invokevirtual -/
theorem Rch.callP {z : MethodName} {bc' : ByteArray} {ml' : Nat} {rt' : Option FieldType} {rm : Room} {idx : Nat} {ps : List FieldType} {ro : Option FieldType} {Q : Option Value → Heap → Prop} {a : Addr} {K : String} (argsL : List Value) {rest : List Value} (W : Nat)
    (r : Rch p l e R s m args below meth c Z y bc ml rt n0 T0 g0 k n h (mkF m pc L S)) (hd : decode bc pc = .ok (.invokevirtual idx, 3)) (w1 : (Jvm.Cond.methodLink y.cls idx z).before a0 Z = true) (w2 : (Jvm.Cond.instanceMethod z).before a0 Z = true) (w5 : (Jvm.Cond.selects z.cls z z).before a0 Z = true) (w6 : (Jvm.Cond.privateMethod z).before a0 Z = true) (w3 : (Jvm.Cond.initialized z.cls).before a0 Z = true) (w4 : (Jvm.Cond.code z bc' ml' rt').before a0 Z = true)
    (hy : z.cls ≠ "java/lang/invoke/MethodHandle" ∧ z.cls ≠ "java/lang/invoke/VarHandle") (C : Ctr l Z z bc' ml' rt' rm (.ref a :: argsL).toArray h n0 Q) (E : Exa Z h a K) (pd : parseMethodDescriptor z.desc = some ⟨ps, ro⟩) (hlen : argsL.length = ps.length) (hS : S = argsL.reverse ++ .ref a :: rest) (hml : L.size = ml)
    (hW : (rest.map fun v => v.category).sum ≤ W) (hf : rm.frames + 1 ≤ R.frames) (hlo : W + (ml' + 11) + rm.locals ≤ R.locals) {k' n' : Nat} (hk : k + rm.cells = k') (hn' : n + rm.slots = n') (hc : k' ≤ R.cells) (hl : n' ≤ R.slots) (hp : pc + 3 = pc') :
    ∃ v h', Q v h' ∧ Rch p l e R s m args below meth c Z y bc ml rt n0 T0 g0 k' n' h' (mkF m pc' L (v.toList ++ rest)) := by
  subst hp hS hk hn'
  obtain ⟨q, T, locs, X, eT, N, st⟩ := r
  obtain ⟨cq, q1, q2⟩ := E.cell
  obtain ⟨v, _, ⟨T', L', kk', nn'⟩, -, X', ⟨Lc, hQ, l1, y1, z1⟩, st'⟩ := X.privateBack q.1 (y := z) q.2.2.2.1 (mvT q.2.2.2.2.1 w1) (mvT q.2.2.2.2.1 w2) (mvT q.2.2.2.2.1 w5) (Cond.privateMethod_at (mvP q.2.2.2.2.1 w6 (args := #[]))) (mvT q.2.2.2.2.1 w4) hy (backOf (W := W) (Q := fun v h L => Fr n0 L ∧ Q v h) (C []) q.2.2.2.2.1 w4 w3 hf hlo) (g := mkF m pc L (argsL.reverse ++ .ref a :: rest)) rfl (by rw [q.2.2.1]; exact hml) (Steps.refl _) (a := a) (by rw [eT]; exact q1) q2 (argsL := argsL) (rest := rest) (lenOf pd hlen) rfl (by simpa using hW) (hb q.2.1 hd) (fun _ _ => ⟨rfl, eT, hc, hl⟩)
  dsimp only [Pt.U, Pt.locs, Pt.cells, Pt.slots] at X' l1 y1 z1 st' hQ
  subst l1 y1 z1
  exact ⟨v, T'.heap, hQ.2, q, T', _, X', rfl, N.app hQ.1, fun t u => st t (st'.trans u)⟩
end OwnPriv
section OwnGrid
variable {p : Program} {l : Launch} {e : Env} {R : Room} {s : State} {m : MethodId} {args : Array Value} {below : List Frame} {meth : Method} {c : Code} {Z : State} {y : MethodName} {bc : ByteArray} {ml : Nat} {rt : Option FieldType} {n0 : Nat} {T0 : State} {g0 : JFrame} {k n : Nat} {h : Heap} {a0 : Array Value} {pc pc' : Nat} {L : Array Slot} {S : List Value}
theorem Rch.newPE {aty : ArrayType} {i : Int32} (ad : String) (r : Rch p l e R s m args below meth c Z y bc ml rt n0 T0 g0 k n h (mkF m pc L (.int i :: S))) (hd : decode bc pc = .ok (.newarray aty, 2)) (w : (Jvm.Cond.arrayClass (newarray.typeOf aty)).before a0 Z = true) (had : "[" ++ (newarray.typeOf aty).toString = ad) (hn : ¬ i < 0) {cap : Nat} (hcap : i.toNatClampNeg ≤ cap) (hbg : cap * 8 ≤ 536870912) {k' n' : Nat} (hk : k + 1 = k') (hn' : n + cap = n') (hc : k' ≤ R.cells) (hl : n' ≤ R.slots) (hp : pc + 2 = pc') :
    ∃ h' a cA, a = h.size ∧ Ext h h' ∧ Exa Z h' a ad ∧ Arv Z h' a cA (newarray.typeOf aty) i [] (defaultValue (newarray.typeOf aty)) ∧ Rch p l e R s m args below meth c Z y bc ml rt n0 T0 g0 k' n' h' (mkF m pc' L (.ref a :: S)) := by
  subst hp hk hn'
  obtain ⟨q, T, locs, X, eT, N, st⟩ := r
  obtain ⟨T', h', cA, X', e', E, A, EX, st'⟩ := newPE X q.1 q.2.2.2.2.1 w eT (g := mkF m pc L (.int i :: S)) rfl (hb q.2.1 hd) rfl hn hcap hbg hc hl had
  exact ⟨h', h.size, cA, rfl, E, EX, Arv.new A hn, q, T', locs, X', e', N, fun t z => st t (st' t z)⟩
theorem Rch.newRA {C : String} {ty : FieldType} {idx : Nat} {i : Int32} (ad : String) (r : Rch p l e R s m args below meth c Z y bc ml rt n0 T0 g0 k n h (mkF m pc L (.int i :: S))) (hd : decode bc pc = .ok (.anewarray idx, 3)) (hC : (FieldType.array ty).toString = C) (w1 : (Jvm.Cond.classLink y.cls idx C).before a0 Z = true) (w2 : (Jvm.Cond.arrayOver (.array ty)).before a0 Z = true) (had : "[" ++ C = ad) (hn : ¬ i < 0) {cap : Nat} (hcap : i.toNatClampNeg ≤ cap) (hbg : cap * 8 ≤ 536870912) {k' n' : Nat} (hk : k + 1 = k') (hn' : n + cap = n') (hc : k' ≤ R.cells) (hl : n' ≤ R.slots) (hp : pc + 3 = pc') :
    ∃ h' a cA, a = h.size ∧ Ext h h' ∧ OvrA Z cA ty C ∧ Arv Z h' a cA (.array ty) i [] .null ∧ Rch p l e R s m args below meth c Z y bc ml rt n0 T0 g0 k' n' h' (mkF m pc' L (.ref a :: S)) := by
  subst hp hk hn'
  obtain ⟨q, T, locs, X, eT, N, st⟩ := r
  obtain ⟨T', h', cA, X', e', E, A, EX, O, st'⟩ := newRA X q.1 q.2.2.2.2.1 q.2.2.2.1 hC w1 w2 eT (g := mkF m pc L (.int i :: S)) rfl (hb q.2.1 hd) rfl hn hcap hbg hc hl had
  exact ⟨h', h.size, cA, rfl, E, O, Arv.new A hn, q, T', locs, X', e', N, fun t z => st t (st' t z)⟩
theorem Rch.stRA {ty : FieldType} {C : String} {a b : Addr} {kc : ClassId} {z j : Int32} {vs : List Value} {dv : Value} (r : Rch p l e R s m args below meth c Z y bc ml rt n0 T0 g0 k n h (mkF m pc L (.ref b :: .int j :: .ref a :: S))) (hd : decode bc pc = .ok (.aastore, 1)) (V : Arv Z h a kc (.array ty) z vs dv) (O : OvrA Z kc ty C) (I : Exa Z h b C) (h1 : ¬ j < 0) (h2 : j < z) (h3 : j.toNatClampNeg < vs.length) (hN : n0 ≤ a) (hp : pc + 1 = pc') :
    ∃ h', Wr h h' a j.toNatClampNeg (.ref b) ∧ Arv Z h' a kc (.array ty) z (vs.set j.toNatClampNeg (.ref b)) dv ∧ Rch p l e R s m args below meth c Z y bc ml rt n0 T0 g0 k n h' (mkF m pc' L S) := by
  subst hp
  obtain ⟨q, T, locs, X, eT, N, st⟩ := r
  obtain ⟨cl, A, q1, S1, q3, H, G⟩ := V
  obtain ⟨T', h', X', e', W, st'⟩ := Jvm.RoadKit.stR X q.1 q.2.2.2.2.1 eT A (j := j) (inbI S1 h1 h2) rfl (Sto.ofVA A q1 O (Ins.self I)) (g := mkF m pc L (.ref b :: .int j :: .ref a :: S)) rfl rfl (hb q.2.1 hd)
  exact ⟨h', W, Arv.set A q1 S1 q3 H G rfl W _ rfl h3, q, T', _, X', e', Fr.snoc X' N hN, fun t z => st t (st' t z)⟩
end OwnGrid

section OwnArrI
/-- an int[] of the length z whose values are F (its ClassId unsaid) -/
def ArI (Z : State) (h : Heap) (a : Addr) (z : Int32) (F : List Int32) : Prop := ∃ kc, Arv Z h a kc .int z (F.map Value.int) (.int 0)
abbrev gI (F : List Int32) (j : Int32) : Int32 := F.getD j.toNatClampNeg 0
theorem getD_mapI (F : List Int32) (i : Nat) : (F.map Value.int).getD i (.int 0) = .int (F.getD i 0) := by
  simp only [List.getD_eq_getElem?_getD, List.getElem?_map]
  cases F[i]? <;> rfl
variable {p : Program} {l : Launch} {e : Env} {R : Room} {s : State} {m : MethodId} {args : Array Value} {below : List Frame} {meth : Method} {c : Code} {Z : State} {y : MethodName} {bc : ByteArray} {ml : Nat} {rt : Option FieldType} {n0 : Nat} {T0 : State} {g0 : JFrame} {k n : Nat} {h h' : Heap} {a0 : Array Value} {pc pc' : Nat} {L : Array Slot} {S : List Value} {a b : Addr} {z j x : Int32} {F : List Int32}
theorem ArI.lt (V : ArI Z h a z F) : a < h.size := by obtain ⟨_, V⟩ := V; exact Jvm.RoadKit.Arv.lt V
theorem ArI.ext (V : ArI Z h a z F) (E : Ext h h') : ArI Z h' a z F := by obtain ⟨kc, V⟩ := V; exact ⟨kc, Jvm.RoadKit.Arv.ext V E⟩
theorem ArI.other {sl : Nat} {v : Value} (V : ArI Z h b z F) (W : Wr h h' a sl v) (q : b ≠ a) : ArI Z h' b z F := by obtain ⟨kc, V⟩ := V; exact ⟨kc, Jvm.RoadKit.Arv.other V W q⟩
theorem ArI.keep {ws : List Addr} (V : ArI Z h a z F) (K : Keep h h' ws) (q : a ∉ ws) : ArI Z h' a z F := by obtain ⟨kc, V⟩ := V; exact ⟨kc, Jvm.RoadKit.Arv.keep V K q⟩
theorem ArI.new {kc : ClassId} (V : Arv Z h a kc .int z [] (.int 0)) (i : Nat) : ArI Z h a z (List.replicate i 0) := ⟨kc, by
  have q := Jvm.RoadKit.Arv.pad V (pad_rep [] (.int 0) i)
  simpa using q⟩
theorem Rch.gI (r : Rch p l e R s m args below meth c Z y bc ml rt n0 T0 g0 k n h (mkF m pc L (.int j :: .ref a :: S))) (hd : decode bc pc = .ok (.iaload, 1)) (V : ArI Z h a z F) (h1 : ¬ j < 0) (h2 : j < z) (hp : pc + 1 = pc') :
    Rch p l e R s m args below meth c Z y bc ml rt n0 T0 g0 k n h (mkF m pc' L (.int (gI F j) :: S)) := by
  obtain ⟨kc, V⟩ := V
  exact Rch.ldI (.int (F.getD j.toNatClampNeg 0)) r hd V h1 h2 (getD_mapI F _) hp
theorem Rch.sI (r : Rch p l e R s m args below meth c Z y bc ml rt n0 T0 g0 k n h (mkF m pc L (.int x :: .int j :: .ref a :: S))) (hd : decode bc pc = .ok (.iastore, 1)) (V : ArI Z h a z F) (h1 : ¬ j < 0) (h2 : j < z) (h3 : j.toNatClampNeg < F.length) (hN : n0 ≤ a) (hp : pc + 1 = pc') :
    ∃ h', Wr h h' a j.toNatClampNeg (.int x) ∧ ArI Z h' a z (F.set j.toNatClampNeg x) ∧ Rch p l e R s m args below meth c Z y bc ml rt n0 T0 g0 k n h' (mkF m pc' L S) := by
  obtain ⟨kc, V⟩ := V
  obtain ⟨h', W, V', r'⟩ := Rch.stI r hd V h1 h2 (by simpa using h3) hN hp
  exact ⟨h', W, ⟨kc, by rw [List.map_set]; exact V'⟩, r'⟩
theorem Rch.lenI (r : Rch p l e R s m args below meth c Z y bc ml rt n0 T0 g0 k n h (mkF m pc L (.ref a :: S))) (hd : decode bc pc = .ok (.arraylength, 1)) (V : ArI Z h a z F) (hp : pc + 1 = pc') :
    Rch p l e R s m args below meth c Z y bc ml rt n0 T0 g0 k n h (mkF m pc' L (.int z :: S)) := by
  obtain ⟨kc, V⟩ := V
  exact Rch.alen r hd V hp
end OwnArrI

theorem nn {j : Int32} (h : 0 ≤ j.toInt) : ¬ j < 0 := by rw [Int32.lt_iff_toInt_lt]; simp only [Int32.reduceToInt]; omega
theorem nn' {j : Int32} (h : ¬ j < 0) : 0 ≤ j.toInt := by rw [Int32.lt_iff_toInt_lt] at h; simp only [Int32.reduceToInt] at h; omega
theorem lti {i j : Int32} (h : i.toInt < j.toInt) : i < j := Int32.lt_iff_toInt_lt.mpr h
theorem ofT {i : Nat} (h : i < 1000) : (Int32.ofNat i).toInt = i := Int32.toInt_ofNat_of_lt (by omega)
theorem ofC {i : Nat} (h : i < 1000) : (Int32.ofNat i).toNatClampNeg = i := by simp only [Int32.toNatClampNeg, ofT h]; omega
theorem of1 (i : Nat) : Int32.ofNat i + (1 : Int32) = Int32.ofNat (i + 1) := (Int32.ofNat_add i 1).symm
theorem one_i (x : Int32) : (Slot.val (.int x)) = .unset ∨ ∃ w, (Slot.val (.int x)) = .val w ∧ w.category = 1 := Or.inr ⟨_, rfl, rfl⟩
abbrev One' (o : Slot) : Prop := o = .unset ∨ ∃ w, o = .val w ∧ w.category = 1
def nz (zn : Int32) : Nat := zn.toInt.toNat
theorem nz_i {z : Int32} (h : 0 ≤ z.toInt) : (nz z : Int) = z.toInt := by unfold nz; omega
/-- the counts behind k ends -/
def cN (zn : Int32) (E : List Int32) : Nat → List Int32
  | 0 => List.replicate (nz zn) 0
  | k + 1 => (cN zn E k).set (gI E (Int32.ofNat k)).toNatClampNeg (gI (cN zn E k) (gI E (Int32.ofNat k)) + 1)
/-- the lists behind k ends -/
def gN (zn : Int32) (E : List Int32) : Nat → List (List Int32)
  | 0 => List.replicate (nz zn) [0, 0, 0, 0]
  | k + 1 => (gN zn E k).set (gI E (Int32.ofNat k)).toNatClampNeg (((gN zn E k).getD (gI E (Int32.ofNat k)).toNatClampNeg []).set (gI (cN zn E k) (gI E (Int32.ofNat k))).toNatClampNeg (Int32.ofNat k))
theorem cN_len (zn : Int32) (E : List Int32) (k : Nat) : (cN zn E k).length = nz zn := by induction k with | zero => simp [cN] | succ k ih => simp [cN, ih]
theorem gN_len (zn : Int32) (E : List Int32) (k : Nat) : (gN zn E k).length = nz zn := by induction k with | zero => simp [gN] | succ k ih => simp [gN, ih]
theorem gN_in (zn : Int32) (E : List Int32) (k : Nat) : ∀ j, j < nz zn → ((gN zn E k).getD j []).length = 4 := by
  induction k with
  | zero => intro j hj; simp [gN, List.getD_eq_getElem?_getD, hj]
  | succ k ih =>
    intro j hj
    simp only [gN]
    by_cases q : (gI E (Int32.ofNat k)).toNatClampNeg = j
    · subst q
      rw [List.getD_eq_getElem?_getD, List.getElem?_set_self (by rw [gN_len]; exact hj)]
      simpa using ih _ hj
    · rw [List.getD_eq_getElem?_getD, List.getElem?_set_ne q, ← List.getD_eq_getElem?_getD]; exact ih j hj
def okB (zn : Int32) (n : Nat) (E : List Int32) : Prop := (∀ k, k < n → 0 ≤ (gI E (Int32.ofNat k)).toInt ∧ (gI E (Int32.ofNat k)).toInt < zn.toInt ∧ 0 ≤ (gI (cN zn E k) (gI E (Int32.ofNat k))).toInt ∧ (gI (cN zn E k) (gI E (Int32.ofNat k))).toInt < (gI (cN zn E n) (gI E (Int32.ofNat k))).toInt) ∧ ∀ i, i < nz zn → 0 ≤ ((cN zn E n).getD i 0).toInt ∧ ((cN zn E n).getD i 0).toInt ≤ 4
/-- lists at b: its i-th at A i, of the length (cs i) with the values (G i) -/
def Grid (Z : State) (h : Heap) (b : Addr) (zn : Int32) (A : Nat → Addr) (cs : List Int32) (G : List (List Int32)) : Prop := ∃ kb vs, Arv Z h b kb (.array .int) zn vs .null ∧ ∀ i, i < nz zn → vs.getD i .null = .ref (A i) ∧ ArI Z h (A i) (cs.getD i 0) (G.getD i [])
theorem pn_com_example_hailstream_hailstream_RoadMap : plainName "com/example/hailstream/hailstream/RoadMap" = true := by first | (simp [plainName, overriddenIn]; done) | decide +kernel
theorem d1_0 : decode prog_29_method_2_code 0 = .ok (.iload_n 1, 1) := by decide +kernel
theorem d1_1 : decode prog_29_method_2_code 1 = .ok (.newarray .int, 2) := by decide +kernel
theorem d1_3 : decode prog_29_method_2_code 3 = .ok (.astore_n 2, 1) := by decide +kernel
theorem d1_4 : decode prog_29_method_2_code 4 = .ok (.aload_n 0, 1) := by decide +kernel
theorem d1_5 : decode prog_29_method_2_code 5 = .ok (.astore_n 3, 1) := by decide +kernel
theorem d1_6 : decode prog_29_method_2_code 6 = .ok (.aload_n 3, 1) := by decide +kernel
theorem d1_7 : decode prog_29_method_2_code 7 = .ok (.arraylength, 1) := by decide +kernel
theorem d1_8 : decode prog_29_method_2_code 8 = .ok (.istore 4, 2) := by decide +kernel
theorem d1_10 : decode prog_29_method_2_code 10 = .ok (.iconst 0, 1) := by decide +kernel
theorem d1_11 : decode prog_29_method_2_code 11 = .ok (.istore 5, 2) := by decide +kernel
theorem d1_13 : decode prog_29_method_2_code 13 = .ok (.iload 5, 2) := by decide +kernel
theorem d1_15 : decode prog_29_method_2_code 15 = .ok (.iload 4, 2) := by decide +kernel
theorem d1_17 : decode prog_29_method_2_code 17 = .ok (.if_icmp .ge 23, 3) := by decide +kernel
theorem d1_20 : decode prog_29_method_2_code 20 = .ok (.aload_n 3, 1) := by decide +kernel
theorem d1_21 : decode prog_29_method_2_code 21 = .ok (.iload 5, 2) := by decide +kernel
theorem d1_23 : decode prog_29_method_2_code 23 = .ok (.iaload, 1) := by decide +kernel
theorem d1_24 : decode prog_29_method_2_code 24 = .ok (.istore 6, 2) := by decide +kernel
theorem d1_26 : decode prog_29_method_2_code 26 = .ok (.aload_n 2, 1) := by decide +kernel
theorem d1_27 : decode prog_29_method_2_code 27 = .ok (.iload 6, 2) := by decide +kernel
theorem d1_29 : decode prog_29_method_2_code 29 = .ok (.dup2, 1) := by decide +kernel
theorem d1_30 : decode prog_29_method_2_code 30 = .ok (.iaload, 1) := by decide +kernel
theorem d1_31 : decode prog_29_method_2_code 31 = .ok (.iconst 1, 1) := by decide +kernel
theorem d1_32 : decode prog_29_method_2_code 32 = .ok (.iadd, 1) := by decide +kernel
theorem d1_33 : decode prog_29_method_2_code 33 = .ok (.iastore, 1) := by decide +kernel
theorem d1_34 : decode prog_29_method_2_code 34 = .ok (.iinc 5 1, 3) := by decide +kernel
theorem d1_37 : decode prog_29_method_2_code 37 = .ok (.goto (-24), 3) := by decide +kernel
theorem d1_40 : decode prog_29_method_2_code 40 = .ok (.iload_n 1, 1) := by decide +kernel
theorem d1_41 : decode prog_29_method_2_code 41 = .ok (.anewarray 40, 3) := by decide +kernel
theorem d1_44 : decode prog_29_method_2_code 44 = .ok (.astore_n 3, 1) := by decide +kernel
theorem d1_45 : decode prog_29_method_2_code 45 = .ok (.iconst 0, 1) := by decide +kernel
theorem d1_46 : decode prog_29_method_2_code 46 = .ok (.istore 4, 2) := by decide +kernel
theorem d1_48 : decode prog_29_method_2_code 48 = .ok (.iload 4, 2) := by decide +kernel
theorem d1_50 : decode prog_29_method_2_code 50 = .ok (.iload_n 1, 1) := by decide +kernel
theorem d1_51 : decode prog_29_method_2_code 51 = .ok (.if_icmp .ge 24, 3) := by decide +kernel
theorem d1_54 : decode prog_29_method_2_code 54 = .ok (.aload_n 3, 1) := by decide +kernel
theorem d1_55 : decode prog_29_method_2_code 55 = .ok (.iload 4, 2) := by decide +kernel
theorem d1_57 : decode prog_29_method_2_code 57 = .ok (.aload_n 2, 1) := by decide +kernel
theorem d1_58 : decode prog_29_method_2_code 58 = .ok (.iload 4, 2) := by decide +kernel
theorem d1_60 : decode prog_29_method_2_code 60 = .ok (.iaload, 1) := by decide +kernel
theorem d1_61 : decode prog_29_method_2_code 61 = .ok (.newarray .int, 2) := by decide +kernel
theorem d1_63 : decode prog_29_method_2_code 63 = .ok (.aastore, 1) := by decide +kernel
theorem d1_64 : decode prog_29_method_2_code 64 = .ok (.aload_n 2, 1) := by decide +kernel
theorem d1_65 : decode prog_29_method_2_code 65 = .ok (.iload 4, 2) := by decide +kernel
theorem d1_67 : decode prog_29_method_2_code 67 = .ok (.iconst 0, 1) := by decide +kernel
theorem d1_68 : decode prog_29_method_2_code 68 = .ok (.iastore, 1) := by decide +kernel
theorem d1_69 : decode prog_29_method_2_code 69 = .ok (.iinc 4 1, 3) := by decide +kernel
theorem d1_72 : decode prog_29_method_2_code 72 = .ok (.goto (-24), 3) := by decide +kernel
theorem d1_75 : decode prog_29_method_2_code 75 = .ok (.iconst 0, 1) := by decide +kernel
theorem d1_76 : decode prog_29_method_2_code 76 = .ok (.istore 4, 2) := by decide +kernel
theorem d1_78 : decode prog_29_method_2_code 78 = .ok (.iload 4, 2) := by decide +kernel
theorem d1_80 : decode prog_29_method_2_code 80 = .ok (.aload_n 0, 1) := by decide +kernel
theorem d1_81 : decode prog_29_method_2_code 81 = .ok (.arraylength, 1) := by decide +kernel
theorem d1_82 : decode prog_29_method_2_code 82 = .ok (.if_icmp .ge 31, 3) := by decide +kernel
theorem d1_113 : decode prog_29_method_2_code 113 = .ok (.aload_n 3, 1) := by decide +kernel
theorem d1_114 : decode prog_29_method_2_code 114 = .ok (.areturn, 1) := by decide +kernel
theorem d1_85 : decode prog_29_method_2_code 85 = .ok (.aload_n 0, 1) := by decide +kernel
theorem d1_86 : decode prog_29_method_2_code 86 = .ok (.iload 4, 2) := by decide +kernel
theorem d1_88 : decode prog_29_method_2_code 88 = .ok (.iaload, 1) := by decide +kernel
theorem d1_89 : decode prog_29_method_2_code 89 = .ok (.istore 5, 2) := by decide +kernel
theorem d1_91 : decode prog_29_method_2_code 91 = .ok (.aload_n 3, 1) := by decide +kernel
theorem d1_92 : decode prog_29_method_2_code 92 = .ok (.iload 5, 2) := by decide +kernel
theorem d1_94 : decode prog_29_method_2_code 94 = .ok (.aaload, 1) := by decide +kernel
theorem d1_95 : decode prog_29_method_2_code 95 = .ok (.aload_n 2, 1) := by decide +kernel
theorem d1_96 : decode prog_29_method_2_code 96 = .ok (.iload 5, 2) := by decide +kernel
theorem d1_98 : decode prog_29_method_2_code 98 = .ok (.dup2, 1) := by decide +kernel
theorem d1_99 : decode prog_29_method_2_code 99 = .ok (.iaload, 1) := by decide +kernel
theorem d1_100 : decode prog_29_method_2_code 100 = .ok (.dup_x2, 1) := by decide +kernel
theorem d1_101 : decode prog_29_method_2_code 101 = .ok (.iconst 1, 1) := by decide +kernel
theorem d1_102 : decode prog_29_method_2_code 102 = .ok (.iadd, 1) := by decide +kernel
theorem d1_103 : decode prog_29_method_2_code 103 = .ok (.iastore, 1) := by decide +kernel
theorem d1_104 : decode prog_29_method_2_code 104 = .ok (.iload 4, 2) := by decide +kernel
theorem d1_106 : decode prog_29_method_2_code 106 = .ok (.iastore, 1) := by decide +kernel
theorem d1_107 : decode prog_29_method_2_code 107 = .ok (.iinc 4 1, 3) := by decide +kernel
theorem d1_110 : decode prog_29_method_2_code 110 = .ok (.goto (-32), 3) := by decide +kernel
set_option maxRecDepth 65536 in
set_option maxHeartbeats 40000000 in
theorem c_adj (l : Launch) (Z : State) (a0 : Array Value) (hw : ∀ d ∈ tables_1, d.before a0 Z = true) (a : Addr) (zl zn : Int32) (E : List Int32) (h0 : Heap) (n0 : Nat) (Z0 : n0 ≤ h0.size) (V : ArI Z h0 a zl E) (hl4 : 0 ≤ zl.toInt ∧ zl.toInt ≤ 4) (hz5 : 0 ≤ zn.toInt ∧ zn.toInt ≤ 5) (ok : okB zn (nz zl) E) :
    Ctr l Z (⟨"com/example/hailstream/hailstream/RoadMap", "adjacency", "([II)[[I"⟩ : MethodName) prog_29_method_2_code 7 (some (.array (.array .int))) ({ frames := 0, cells := 7, slots := 30, locals := 0 } : Room) #[(.ref a), (.int zn)] h0 n0 (fun v h => ∃ (b : Addr) (A : Nat → Addr), v = some (.ref b) ∧ Grid Z h b zn A (cN zn E (nz zl)) (gN zn E (nz zl)) ∧ Keep h0 h []) := by
  refine ent (plainFor_of_name pn_com_example_hailstream_hailstream_RoadMap) (L0 := #[.val (.ref a), .val (.int zn), .unset, .unset, .unset, .unset, .unset]) (fun m => by first | (simp [entryFrame, mkF, argsToLocals, Value.category]; done) | rfl) ?_
  intro p e s m below meth c T0 r0
  have hnzl := nz_i hl4.1
  have hnzn := nz_i hz5.1
  have r1 := r0.iloadN (pc' := 1) d1_0 rfl rfl
  obtain ⟨h1, cb, kc1, hcb, E1, V1, r1⟩ := r1.newP (pc' := 3) d1_1 (hw _ (List.mem_of_getElem? (i := 1) rfl)) (nn hz5.1) (cap := 5) (by simp only [Int32.toNatClampNeg]; omega) (by decide) (k' := 1) (n' := 5) rfl rfl (by decide) (by decide) rfl
  have VC : ArI Z h1 cb zn (cN zn E 0) := ArI.new V1 (nz zn)
  have szc : h0.size ≤ cb := Nat.le_of_eq hcb.symm
  have gc : n0 ≤ cb := Nat.le_trans Z0 szc
  have VA := V.ext E1
  have nac : a ≠ cb := Nat.ne_of_lt (Nat.lt_of_lt_of_le V.lt szc)
  have K1 : Keep h0 h1 [] := (Keep.refl h0 []).ext E1
  have r2 := r1.astoreN (pc' := 4) (L' := #[.val (.ref a), .val (.int zn), .val (.ref cb), .unset, .unset, .unset, .unset]) d1_3 rfl rfl rfl
  have r3 := r2.aloadN (pc' := 5) d1_4 rfl rfl rfl
  have r4 := r3.astoreN (pc' := 6) (L' := #[.val (.ref a), .val (.int zn), .val (.ref cb), .val (.ref a), .unset, .unset, .unset]) d1_5 rfl rfl rfl
  have r5 := r4.aloadN (pc' := 7) d1_6 rfl rfl rfl
  have r6 := r5.lenI (pc' := 8) d1_7 VA rfl
  have r7 := r6.istore (pc' := 10) (L' := #[.val (.ref a), .val (.int zn), .val (.ref cb), .val (.ref a), .val (.int zl), .unset, .unset]) d1_8 rfl rfl
  have r8 := r7.iconst (pc' := 11) (0 : Int32) d1_10 rfl rfl
  have r9 := r8.istore (pc' := 13) (L' := #[.val (.ref a), .val (.int zn), .val (.ref cb), .val (.ref a), .val (.int zl), .val (.int (0 : Int32)), .unset]) d1_11 rfl rfl
  have loop1 : ∀ (t i : Nat) (hh : Heap) (s6 : Slot), i + t = nz zl → One' s6 → ArI Z hh cb zn (cN zn E i) → ArI Z hh a zl E → Keep h0 hh [] → Rch p l e ({ frames := 0, cells := 7, slots := 30, locals := 0 } : Room) s m #[(.ref a), (.int zn)] below meth c Z (⟨"com/example/hailstream/hailstream/RoadMap", "adjacency", "([II)[[I"⟩ : MethodName) prog_29_method_2_code 7 (some (.array (.array .int))) n0 T0 (mkF m 0 #[.val (.ref a), .val (.int zn), .unset, .unset, .unset, .unset, .unset] []) 1 5 hh (mkF m 13 #[.val (.ref a), .val (.int zn), .val (.ref cb), .val (.ref a), .val (.int zl), .val (.int (Int32.ofNat i)), s6] []) → ∃ hh' s6', One' s6' ∧ ArI Z hh' cb zn (cN zn E (nz zl)) ∧ ArI Z hh' a zl E ∧ Keep h0 hh' [] ∧ Rch p l e ({ frames := 0, cells := 7, slots := 30, locals := 0 } : Room) s m #[(.ref a), (.int zn)] below meth c Z (⟨"com/example/hailstream/hailstream/RoadMap", "adjacency", "([II)[[I"⟩ : MethodName) prog_29_method_2_code 7 (some (.array (.array .int))) n0 T0 (mkF m 0 #[.val (.ref a), .val (.int zn), .unset, .unset, .unset, .unset, .unset] []) 1 5 hh' (mkF m 40 #[.val (.ref a), .val (.int zn), .val (.ref cb), .val (.ref a), .val (.int zl), .val (.int (Int32.ofNat (nz zl))), s6'] []) := by
    intro t
    induction t with
    | zero =>
      intro i hh s6 h1 h_s6 VC VA KK r
      have ei : i = nz zl := by omega
      subst ei
      have r10 := r.iload (pc' := 15) d1_13 rfl rfl
      have r11 := r10.iload (pc' := 17) d1_15 rfl rfl
      have hnl : ¬ (Int32.ofNat (nz zl)) < zl := by rw [Int32.lt_iff_toInt_lt, ofT (by omega)]; omega
      have r12 := r11.icT (pc' := 40) d1_17 (flt hnl).2.1 (by decide) (by decide)
      exact ⟨hh, s6, h_s6, VC, VA, KK, r12⟩
    | succ t ih =>
      intro i hh s6 h1 h_s6 VC VA KK r
      have r13 := r.iload (pc' := 15) d1_13 rfl rfl
      have r14 := r13.iload (pc' := 17) d1_15 rfl rfl
      have hi : i < nz zl := by omega
      have hit : (Int32.ofNat i).toInt = i := ofT (by omega)
      have hlt : (Int32.ofNat i) < zl := lti (by omega)
      obtain ⟨e1, e2, e3, e4⟩ := ok.1 i hi
      have r15 := r14.icF (pc' := 20) d1_17 (tlt hlt).2.1 rfl
      have r16 := r15.aloadN (pc' := 21) d1_20 rfl rfl rfl
      have r17 := r16.iload (pc' := 23) d1_21 rfl rfl
      have r18 := r17.gI (pc' := 24) d1_23 VA (nn (by omega)) hlt rfl
      have r19 := r18.istore (pc' := 26) (L' := #[.val (.ref a), .val (.int zn), .val (.ref cb), .val (.ref a), .val (.int zl), .val (.int (Int32.ofNat i)), .val (.int (gI E (Int32.ofNat i)))]) d1_24 (XS.store1 rfl h_s6 rfl) rfl
      have r20 := r19.aloadN (pc' := 27) d1_26 rfl rfl rfl
      have r21 := r20.iload (pc' := 29) d1_27 rfl rfl
      have r22 := r21.dup2 (pc' := 30) d1_29 rfl rfl rfl
      have r23 := r22.gI (pc' := 31) d1_30 VC (nn e1) (lti e2) rfl
      have r24 := r23.iconst (pc' := 32) (1 : Int32) d1_31 rfl rfl
      have r25 := r24.iadd (pc' := 33) d1_32 rfl rfl
      obtain ⟨h5, W5, V5, r5⟩ := r25.sI (pc' := 34) d1_33 VC (nn e1) (lti e2) (by rw [cN_len]; simp only [Int32.toNatClampNeg]; omega) gc rfl
      have r26 := r5.iinc (pc' := 37) (L' := #[.val (.ref a), .val (.int zn), .val (.ref cb), .val (.ref a), .val (.int zl), .val (.int (Int32.ofNat (i + 1))), .val (.int (gI E (Int32.ofNat i)))]) (1 : Int32) d1_34 rfl rfl (of1 i) rfl rfl
      have r27 := r26.goto (pc' := 13) d1_37 (by decide) (by decide)
      exact ih (i + 1) h5 _ (by omega) (one_i _) V5 (VA.other W5 nac) (KK.wr W5 (Or.inr szc)) r27
  obtain ⟨h2, s6, h_s6, VC, VA, K2, r2⟩ := loop1 (nz zl) 0 h1 .unset (by omega) (Or.inl rfl) VC VA K1 r9
  have r28 := r2.iloadN (pc' := 41) d1_40 rfl rfl
  obtain ⟨h3, b, kb, hb', E3, OV, VB, r3⟩ := Rch.newRA (pc' := 44) "[[I" r28 d1_41 (C := "[I") (by decide) (hw _ (List.mem_of_getElem? (i := 6) rfl)) (hw _ (List.mem_of_getElem? (i := 7) rfl)) (by decide) (nn hz5.1) (cap := 5) (by simp only [Int32.toNatClampNeg]; omega) (by decide) (k' := 2) (n' := 10) rfl rfl (by decide) (by decide) rfl
  have szb : h0.size ≤ b := hb' ▸ K2.1
  have gb : n0 ≤ b := Nat.le_trans Z0 szb
  have ncb : cb ≠ b := Nat.ne_of_lt (hb' ▸ VC.lt)
  have nab : a ≠ b := Nat.ne_of_lt (hb' ▸ VA.lt)
  replace VC := VC.ext E3
  replace VA := VA.ext E3
  have K3 := K2.ext E3
  replace VB := VB.pad (pad_rep [] _ (nz zn))
  have VB' : ∃ vs : List Value, vs.length = nz zn ∧ Arv Z h3 b kb (.array .int) zn vs .null := ⟨_, by simp, VB⟩
  clear VB
  obtain ⟨vs, lvs, VB⟩ := VB'
  have r29 := r3.astoreN (pc' := 45) (L' := #[.val (.ref a), .val (.int zn), .val (.ref cb), .val (.ref b), .val (.int zl), .val (.int (Int32.ofNat (nz zl))), s6]) d1_44 rfl rfl rfl
  have r30 := r29.iconst (pc' := 46) (0 : Int32) d1_45 rfl rfl
  have r31 := r30.istore (pc' := 48) (L' := #[.val (.ref a), .val (.int zn), .val (.ref cb), .val (.ref b), .val (.int (0 : Int32)), .val (.int (Int32.ofNat (nz zl))), s6]) d1_46 rfl rfl
  have loop2 : ∀ (t i : Nat) (hh : Heap) (D : List Int32) (vs : List Value) (A : Nat → Addr), i + t = nz zn → (D.length = nz zn ∧ (∀ j, j < i → D.getD j 0 = 0) ∧ (∀ j, i ≤ j → D.getD j 0 = (cN zn E (nz zl)).getD j 0)) → vs.length = nz zn → ArI Z hh cb zn D → Arv Z hh b kb (.array .int) zn vs .null → ((∀ j, j < i → vs.getD j .null = .ref (A j) ∧ ArI Z hh (A j) ((cN zn E (nz zl)).getD j 0) [0, 0, 0, 0] ∧ b < A j ∧ cb < A j ∧ a < A j ∧ h0.size ≤ A j) ∧ (∀ j j', j < i → j' < i → j ≠ j' → A j ≠ A j')) → ArI Z hh a zl E → Keep h0 hh [] → Rch p l e ({ frames := 0, cells := 7, slots := 30, locals := 0 } : Room) s m #[(.ref a), (.int zn)] below meth c Z (⟨"com/example/hailstream/hailstream/RoadMap", "adjacency", "([II)[[I"⟩ : MethodName) prog_29_method_2_code 7 (some (.array (.array .int))) n0 T0 (mkF m 0 #[.val (.ref a), .val (.int zn), .unset, .unset, .unset, .unset, .unset] []) (2 + i) (10 + 4 * i) hh (mkF m 48 #[.val (.ref a), .val (.int zn), .val (.ref cb), .val (.ref b), .val (.int (Int32.ofNat i)), .val (.int (Int32.ofNat (nz zl))), s6] []) → ∃ (hh' : Heap) (vs : List Value) (A : Nat → Addr), ArI Z hh' cb zn (cN zn E 0) ∧ Arv Z hh' b kb (.array .int) zn vs .null ∧ ((∀ j, j < nz zn → vs.getD j .null = .ref (A j) ∧ ArI Z hh' (A j) ((cN zn E (nz zl)).getD j 0) [0, 0, 0, 0] ∧ b < A j ∧ cb < A j ∧ a < A j ∧ h0.size ≤ A j) ∧ (∀ j j', j < nz zn → j' < nz zn → j ≠ j' → A j ≠ A j')) ∧ ArI Z hh' a zl E ∧ Keep h0 hh' [] ∧ Rch p l e ({ frames := 0, cells := 7, slots := 30, locals := 0 } : Room) s m #[(.ref a), (.int zn)] below meth c Z (⟨"com/example/hailstream/hailstream/RoadMap", "adjacency", "([II)[[I"⟩ : MethodName) prog_29_method_2_code 7 (some (.array (.array .int))) n0 T0 (mkF m 0 #[.val (.ref a), .val (.int zn), .unset, .unset, .unset, .unset, .unset] []) 7 30 hh' (mkF m 75 #[.val (.ref a), .val (.int zn), .val (.ref cb), .val (.ref b), .val (.int (Int32.ofNat (nz zn))), .val (.int (Int32.ofNat (nz zl))), s6] []) := by
    intro t
    induction t with
    | zero =>
      intro i hh D vs A h1 hD hvs VD VB FA VA KK r
      have ei : i = nz zn := by omega
      subst ei
      have r32 := r.iload (pc' := 50) d1_48 rfl rfl
      have r33 := r32.iloadN (pc' := 51) d1_50 rfl rfl
      have hnl : ¬ (Int32.ofNat (nz zn)) < zn := by rw [Int32.lt_iff_toInt_lt, ofT (by omega)]; omega
      have r34 := r33.icT (pc' := 75) d1_51 (flt hnl).2.1 (by decide) (by decide)
      have eD : D = cN zn E 0 := by
        apply List.ext_getElem (by rw [hD.1, cN_len])
        intro q q1 q2
        have := hD.2.1 q (by omega)
        rw [List.getD_eq_getElem?_getD, List.getElem?_eq_getElem q1] at this
        simpa [cN] using this
      subst eD
      exact ⟨hh, vs, A, VD, VB, FA, VA, KK, r34.widen (by omega) (by omega)⟩
    | succ t ih =>
      intro i hh D vs A h1 hD hvs VD VB FA VA KK r
      have r35 := r.iload (pc' := 50) d1_48 rfl rfl
      have r36 := r35.iloadN (pc' := 51) d1_50 rfl rfl
      have hi : i < nz zn := by omega
      have hit : (Int32.ofNat i).toInt = i := ofT (by omega)
      have hic : (Int32.ofNat i).toNatClampNeg = i := ofC (by omega)
      have hlt : (Int32.ofNat i) < zn := lti (by omega)
      have r37 := r36.icF (pc' := 54) d1_51 (tlt hlt).2.1 rfl
      have r38 := r37.aloadN (pc' := 55) d1_54 rfl rfl rfl
      have r39 := r38.iload (pc' := 57) d1_55 rfl rfl
      have r40 := r39.aloadN (pc' := 58) d1_57 rfl rfl rfl
      have r41 := r40.iload (pc' := 60) d1_58 rfl rfl
      have r42 := r41.gI (pc' := 61) d1_60 VD (nn (by omega)) hlt rfl
      have eg : gI D (Int32.ofNat i) = (cN zn E (nz zl)).getD i 0 := by show D.getD _ 0 = _; rw [hic]; exact hD.2.2 i (Nat.le_refl i)
      rw [eg] at r42
      have bc' := ok.2 i hi
      obtain ⟨h5, q, kq, hq, E5, EX5, V5, r5⟩ := Rch.newPE (pc' := 63) "[I" r42 d1_61 (hw _ (List.mem_of_getElem? (i := 1) rfl)) (by decide) (nn bc'.1) (cap := 4) (by simp only [Int32.toNatClampNeg]; omega) (by decide) (k' := 2 + (i + 1)) (n' := 10 + 4 * (i + 1)) (by omega) (by omega) (by show 2 + (i + 1) ≤ 7; omega) (by show 10 + 4 * (i + 1) ≤ 30; omega) rfl
      have VQ : ArI Z h5 q ((cN zn E (nz zl)).getD i 0) [0, 0, 0, 0] := ArI.new V5 4
      have nbq : b ≠ q := Nat.ne_of_lt (hq ▸ Jvm.RoadKit.Arv.lt VB)
      have ncq : cb ≠ q := Nat.ne_of_lt (hq ▸ VD.lt)
      have naq : a ≠ q := Nat.ne_of_lt (hq ▸ VA.lt)
      have lbq : b < q := hq ▸ Jvm.RoadKit.Arv.lt VB
      have lcq : cb < q := hq ▸ VD.lt
      have laq : a < q := hq ▸ VA.lt
      have szq : h0.size ≤ q := hq ▸ KK.1
      have lAq : ∀ j, j < i → A j < q := fun j hj => hq ▸ (FA.1 j hj).2.1.lt
      obtain ⟨h6, W6, V6, r6⟩ := Rch.stRA (pc' := 64) r5 d1_63 (Jvm.RoadKit.Arv.ext VB E5) OV EX5 (nn (by omega)) hlt (by omega) gb rfl
      have r43 := r6.aloadN (pc' := 65) d1_64 rfl rfl rfl
      have r44 := r43.iload (pc' := 67) d1_65 rfl rfl
      have r45 := r44.iconst (pc' := 68) (0 : Int32) d1_67 rfl rfl
      have VD6 := (VD.ext E5).other W6 ncb
      obtain ⟨h7, W7, V7, r7⟩ := r45.sI (pc' := 69) d1_68 VD6 (nn (by omega)) hlt (by omega) gc rfl
      have r46 := r7.iinc (pc' := 72) (L' := #[.val (.ref a), .val (.int zn), .val (.ref cb), .val (.ref b), .val (.int (Int32.ofNat (i + 1))), .val (.int (Int32.ofNat (nz zl))), s6]) (1 : Int32) d1_69 rfl rfl (of1 i) rfl rfl
      have r47 := r46.goto (pc' := 48) d1_72 (by decide) (by decide)
      rw [hic] at V6 V7
      refine ih (i + 1) h7 _ _ (fun j => if j = i then q else A j) (by omega) ⟨by simpa using hD.1, fun j hj => ?_, fun j hj => ?_⟩ (by simpa using hvs) V7 (Jvm.RoadKit.Arv.other V6 W7 ncb.symm) ⟨fun j hj => ?_, fun j j' hj hj' hne => ?_⟩ (((VA.ext E5).other W6 nab).other W7 nac) (((KK.ext E5).wr W6 (Or.inr szb)).wr W7 (Or.inr szc)) r47
      · by_cases hji : j = i
        · subst hji; simp [List.getD_eq_getElem?_getD, hD.1, hi]
        · have := hD.2.1 j (by omega)
          simpa [List.getD_eq_getElem?_getD, List.getElem?_set_ne (Ne.symm hji)] using this
      · have hji : j ≠ i := by omega
        have := hD.2.2 j (by omega)
        simpa [List.getD_eq_getElem?_getD, List.getElem?_set_ne (Ne.symm hji)] using this
      · by_cases hji : j = i
        · subst hji; rw [if_pos rfl]; exact ⟨by simp [List.getD_eq_getElem?_getD, hvs, hi], (VQ.other W6 nbq.symm).other W7 ncq.symm, lbq, lcq, laq, szq⟩
        · rw [if_neg hji]; obtain ⟨f1, f2, f3, f4, f5, f6⟩ := FA.1 j (by omega)
          exact ⟨by simpa [List.getD_eq_getElem?_getD, List.getElem?_set_ne (Ne.symm hji)] using f1, ((f2.ext E5).other W6 (Nat.ne_of_gt f3)).other W7 (Nat.ne_of_gt f4), f3, f4, f5, f6⟩
      · by_cases h1 : j = i <;> by_cases h2 : j' = i
        · omega
        · rw [if_pos h1, if_neg h2]; exact Nat.ne_of_gt (lAq j' (by omega))
        · rw [if_neg h1, if_pos h2]; exact Nat.ne_of_lt (lAq j (by omega))
        · rw [if_neg h1, if_neg h2]; exact FA.2 j j' (by omega) (by omega) hne
  obtain ⟨h4, vs, A, VC, VB, FA, VA, K4, r4⟩ := loop2 (nz zn) 0 h3 _ vs (fun _ => 0) (by omega) ⟨cN_len _ _ _, fun j hj => absurd hj (by omega), fun j hj => rfl⟩ lvs VC VB ⟨fun j hj => absurd hj (by omega), fun j j' hj => absurd hj (by omega)⟩ VA K3 r31
  have r48 := r4.iconst (pc' := 76) (0 : Int32) d1_75 rfl rfl
  have r49 := r48.istore (pc' := 78) (L' := #[.val (.ref a), .val (.int zn), .val (.ref cb), .val (.ref b), .val (.int (0 : Int32)), .val (.int (Int32.ofNat (nz zl))), s6]) d1_76 rfl rfl
  have FA0 : ((∀ j, j < nz zn → vs.getD j .null = .ref (A j) ∧ ArI Z h4 (A j) ((cN zn E (nz zl)).getD j 0) ((gN zn E 0).getD j []) ∧ b < A j ∧ cb < A j ∧ a < A j ∧ h0.size ≤ A j) ∧ (∀ j j', j < nz zn → j' < nz zn → j ≠ j' → A j ≠ A j')) := ⟨fun j hj => by have := FA.1 j hj; rw [show (gN zn E 0).getD j [] = [0, 0, 0, 0] by simp [gN, List.getD_eq_getElem?_getD, hj]]; exact this, FA.2⟩
  have loop3 : ∀ (t i : Nat) (hh : Heap) (q5 : Int32), i + t = nz zl → ArI Z hh cb zn (cN zn E i) → Arv Z hh b kb (.array .int) zn vs .null → ((∀ j, j < nz zn → vs.getD j .null = .ref (A j) ∧ ArI Z hh (A j) ((cN zn E (nz zl)).getD j 0) ((gN zn E i).getD j []) ∧ b < A j ∧ cb < A j ∧ a < A j ∧ h0.size ≤ A j) ∧ (∀ j j', j < nz zn → j' < nz zn → j ≠ j' → A j ≠ A j')) → ArI Z hh a zl E → Keep h0 hh [] → Rch p l e ({ frames := 0, cells := 7, slots := 30, locals := 0 } : Room) s m #[(.ref a), (.int zn)] below meth c Z (⟨"com/example/hailstream/hailstream/RoadMap", "adjacency", "([II)[[I"⟩ : MethodName) prog_29_method_2_code 7 (some (.array (.array .int))) n0 T0 (mkF m 0 #[.val (.ref a), .val (.int zn), .unset, .unset, .unset, .unset, .unset] []) 7 30 hh (mkF m 78 #[.val (.ref a), .val (.int zn), .val (.ref cb), .val (.ref b), .val (.int (Int32.ofNat i)), .val (.int q5), s6] []) → ∃ v h, Don p l e ({ frames := 0, cells := 7, slots := 30, locals := 0 } : Room) s m #[(.ref a), (.int zn)] below meth c (some (.array (.array .int))) n0 T0 (mkF m 0 #[.val (.ref a), .val (.int zn), .unset, .unset, .unset, .unset, .unset] []) v h ∧ ∃ (b : Addr) (A : Nat → Addr), v = some (.ref b) ∧ Grid Z h b zn A (cN zn E (nz zl)) (gN zn E (nz zl)) ∧ Keep h0 h [] := by
    intro t
    induction t with
    | zero =>
      intro i hh q5 h1 VC VB FA VA KK r
      have ei : i = nz zl := by omega
      subst ei
      have r50 := r.iload (pc' := 80) d1_78 rfl rfl
      have r51 := r50.aloadN (pc' := 81) d1_80 rfl rfl rfl
      have r52 := r51.lenI (pc' := 82) d1_81 VA rfl
      have hnl : ¬ (Int32.ofNat (nz zl)) < zl := by rw [Int32.lt_iff_toInt_lt, ofT (by omega)]; omega
      have r53 := r52.icT (pc' := 113) d1_82 (flt hnl).2.1 (by decide) (by decide)
      have r54 := r53.aloadN (pc' := 114) d1_113 rfl rfl rfl
      exact ⟨_, _, r54.retA d1_114 rfl rfl rfl (by decide) (by decide), ⟨b, A, rfl, ⟨kb, vs, VB, fun j hj => ⟨(FA.1 j hj).1, (FA.1 j hj).2.1⟩⟩, KK⟩⟩
    | succ t ih =>
      intro i hh q5 h1 VC VB FA VA KK r
      have r55 := r.iload (pc' := 80) d1_78 rfl rfl
      have r56 := r55.aloadN (pc' := 81) d1_80 rfl rfl rfl
      have r57 := r56.lenI (pc' := 82) d1_81 VA rfl
      have hi : i < nz zl := by omega
      have hit : (Int32.ofNat i).toInt = i := ofT (by omega)
      have hlt : (Int32.ofNat i) < zl := lti (by omega)
      obtain ⟨e1, e2, e3, e4⟩ := ok.1 i hi
      have r58 := r57.icF (pc' := 85) d1_82 (tlt hlt).2.1 rfl
      have r59 := r58.aloadN (pc' := 86) d1_85 rfl rfl rfl
      have r60 := r59.iload (pc' := 88) d1_86 rfl rfl
      have r61 := r60.gI (pc' := 89) d1_88 VA (nn (by omega)) hlt rfl
      have r62 := r61.istore (pc' := 91) (L' := #[.val (.ref a), .val (.int zn), .val (.ref cb), .val (.ref b), .val (.int (Int32.ofNat i)), .val (.int (gI E (Int32.ofNat i))), s6]) d1_89 rfl rfl
      have r63 := r62.aloadN (pc' := 92) d1_91 rfl rfl rfl
      have r64 := r63.iload (pc' := 94) d1_92 rfl rfl
      have hen : (gI E (Int32.ofNat i)).toNatClampNeg < nz zn := by simp only [Int32.toNatClampNeg]; omega
      obtain ⟨f1, f2, f3, f4, f5, f6⟩ := FA.1 _ hen
      have r65 := Rch.ldR (pc' := 95) (.ref (A (gI E (Int32.ofNat i)).toNatClampNeg)) r64 d1_94 VB rfl (nn e1) (lti e2) f1 rfl
      have r66 := r65.aloadN (pc' := 96) d1_95 rfl rfl rfl
      have r67 := r66.iload (pc' := 98) d1_96 rfl rfl
      have r68 := r67.dup2 (pc' := 99) d1_98 rfl rfl rfl
      have r69 := r68.gI (pc' := 100) d1_99 VC (nn e1) (lti e2) rfl
      have r70 := r69.dupx2 (pc' := 101) d1_100 rfl rfl rfl rfl
      have r71 := r70.iconst (pc' := 102) (1 : Int32) d1_101 rfl rfl
      have r72 := r71.iadd (pc' := 103) d1_102 rfl rfl
      obtain ⟨h5, W5, V5, r5⟩ := r72.sI (pc' := 104) d1_103 VC (nn e1) (lti e2) (by rw [cN_len]; exact hen) gc rfl
      have r73 := r5.iload (pc' := 106) d1_104 rfl rfl
      have b4 := ok.2 _ hen
      have f2' := f2.other W5 (Nat.ne_of_gt f4)
      have gA : n0 ≤ (A (gI E (Int32.ofNat i)).toNatClampNeg) := Nat.le_trans Z0 f6
      obtain ⟨h6, W6, V6, r6⟩ := r73.sI (pc' := 107) d1_106 f2' (nn e3) (lti e4) (by rw [gN_in _ _ _ _ hen]; simp only [Int32.toNatClampNeg]; have e4' : (gI (cN zn E i) (gI E (Int32.ofNat i))).toInt < ((cN zn E (nz zl)).getD (gI E (Int32.ofNat i)).toNatClampNeg 0).toInt := e4; omega) gA rfl
      have r74 := r6.iinc (pc' := 110) (L' := #[.val (.ref a), .val (.int zn), .val (.ref cb), .val (.ref b), .val (.int (Int32.ofNat (i + 1))), .val (.int (gI E (Int32.ofNat i))), s6]) (1 : Int32) d1_107 rfl rfl (of1 i) rfl rfl
      have r75 := r74.goto (pc' := 78) d1_110 (by decide) (by decide)
      refine ih (i + 1) h6 _ (by omega) (V5.other W6 (Nat.ne_of_lt f4)) (Jvm.RoadKit.Arv.other (Jvm.RoadKit.Arv.other VB W5 ncb.symm) W6 (Nat.ne_of_lt f3)) ⟨fun j hj => ?_, FA.2⟩ ((VA.other W5 nac).other W6 (Nat.ne_of_lt f5)) ((KK.wr W5 (Or.inr szc)).wr W6 (Or.inr f6)) r75
      obtain ⟨g1, g2, g3, g4, g5, g6⟩ := FA.1 j hj
      refine ⟨g1, ?_, g3, g4, g5, g6⟩
      by_cases hje : (gI E (Int32.ofNat i)).toNatClampNeg = j
      · subst hje
        have e : (gN zn E (i + 1)).getD (gI E (Int32.ofNat i)).toNatClampNeg [] = ((gN zn E i).getD (gI E (Int32.ofNat i)).toNatClampNeg []).set (gI (cN zn E i) (gI E (Int32.ofNat i))).toNatClampNeg (Int32.ofNat i) := by
          simp only [gN]; rw [List.getD_eq_getElem?_getD, List.getElem?_set_self (by rw [gN_len]; exact hen)]; rfl
        rw [e]; exact V6
      · have e : (gN zn E (i + 1)).getD j [] = (gN zn E i).getD j [] := by
          simp only [gN]; rw [List.getD_eq_getElem?_getD, List.getElem?_set_ne hje, ← List.getD_eq_getElem?_getD]
        rw [e]; exact (g2.other W5 (Nat.ne_of_gt g4)).other W6 (FA.2 j _ hj hen (Ne.symm hje))
  exact loop3 (nz zl) 0 h4 _ (by omega) VC VB FA0 VA K4 r49
def atF (zl : Int32) (E : List Int32) (i n : Int32) : Int32 := if i < zl then (if gI E i = n then 1 else 0) else 0
def cntF (zl : Int32) (E : List Int32) (n : Int32) : Int32 := atF zl E 0 n + atF zl E 1 n + atF zl E 2 n + atF zl E 3 n
def enF (z' : Int32) (G : List Int32) (zl : Int32) (E : List Int32) (n p : Int32) : Int32 := if p < z' then (if gI G p < 0 then 0 else (if gI G p < zl then (if gI E (gI G p) = n then (if 0 < p then (if gI G (p - 1) < gI G p then 1 else 0) else 1) else 0) else 0)) else 1
def nkF (zn : Int32) (cs : List Int32) (G : List (List Int32)) (zl : Int32) (E : List Int32) (n : Int32) : Int32 := if n < zn then (if cs.getD n.toNatClampNeg 0 = cntF zl E n then (if enF (cs.getD n.toNatClampNeg 0) (G.getD n.toNatClampNeg []) zl E n 0 = 0 then 0 else (if enF (cs.getD n.toNatClampNeg 0) (G.getD n.toNatClampNeg []) zl E n 1 = 0 then 0 else (if enF (cs.getD n.toNatClampNeg 0) (G.getD n.toNatClampNeg []) zl E n 2 = 0 then 0 else (if enF (cs.getD n.toNatClampNeg 0) (G.getD n.toNatClampNeg []) zl E n 3 = 0 then 0 else 1)))) else 0) else 1
theorem pn_com_example_hailstream_hailstream_RoadMapAdjacencyPinLaw : plainName "com/example/hailstream/hailstream/RoadMapAdjacencyPinLaw" = true := by first | (simp [plainName, overriddenIn]; done) | decide +kernel
theorem d4_0 : decode method_3_code 0 = .ok (.iload_n 1, 1) := by decide +kernel
theorem d4_1 : decode method_3_code 1 = .ok (.aload_n 0, 1) := by decide +kernel
theorem d4_2 : decode method_3_code 2 = .ok (.arraylength, 1) := by decide +kernel
theorem d4_3 : decode method_3_code 3 = .ok (.if_icmp .ge 14, 3) := by decide +kernel
theorem d4_6 : decode method_3_code 6 = .ok (.aload_n 0, 1) := by decide +kernel
theorem d4_7 : decode method_3_code 7 = .ok (.iload_n 1, 1) := by decide +kernel
theorem d4_8 : decode method_3_code 8 = .ok (.iaload, 1) := by decide +kernel
theorem d4_9 : decode method_3_code 9 = .ok (.iload_n 2, 1) := by decide +kernel
theorem d4_10 : decode method_3_code 10 = .ok (.if_icmp .ne 7, 3) := by decide +kernel
theorem d4_13 : decode method_3_code 13 = .ok (.iconst 1, 1) := by decide +kernel
theorem d4_14 : decode method_3_code 14 = .ok (.goto 4, 3) := by decide +kernel
theorem d4_18 : decode method_3_code 18 = .ok (.ireturn, 1) := by decide +kernel
theorem d4_17 : decode method_3_code 17 = .ok (.iconst 0, 1) := by decide +kernel
set_option maxRecDepth 65536 in
set_option maxHeartbeats 40000000 in
theorem c_at (l : Launch) (Z : State) (a0 : Array Value) (hw : ∀ d ∈ tables_1, d.before a0 Z = true) (a : Addr) (i n zl : Int32) (E : List Int32) (h0 : Heap) (n0 : Nat) (V : ArI Z h0 a zl E) (hi : ¬ i < 0) :
    Ctr l Z (⟨"com/example/hailstream/hailstream/RoadMapAdjacencyPinLaw", "at", "([III)I"⟩ : MethodName) method_3_code 3 (some .int) ({ frames := 0, cells := 0, slots := 0, locals := 0 } : Room) #[(.ref a), (.int i), (.int n)] h0 n0 (fun v h => v = some (.int (atF zl E i n)) ∧ h0 = h) := by
  refine ent (plainFor_of_name pn_com_example_hailstream_hailstream_RoadMapAdjacencyPinLaw) (L0 := #[.val (.ref a), .val (.int i), .val (.int n)]) (fun m => by first | (simp [entryFrame, mkF, argsToLocals, Value.category]; done) | rfl) ?_
  intro p e s m below meth c T0 r0
  have r76 := r0.iloadN (pc' := 1) d4_0 rfl rfl
  have r77 := r76.aloadN (pc' := 2) d4_1 rfl rfl rfl
  have r78 := r77.lenI (pc' := 3) d4_2 V rfl
  by_cases hc79 : i < zl
  · -- yes
    have r80 := r78.icF (pc' := 6) d4_3 (tlt hc79).2.1 rfl
    have r81 := r80.aloadN (pc' := 7) d4_6 rfl rfl rfl
    have r82 := r81.iloadN (pc' := 8) d4_7 rfl rfl
    have r83 := r82.gI (pc' := 9) d4_8 V hi hc79 rfl
    have r84 := r83.iloadN (pc' := 10) d4_9 rfl rfl
    by_cases hc85 : (gI E i) = n
    · -- yes
      have r86 := r84.icF (pc' := 13) d4_10 (teq hc85).2 rfl
      have r87 := r86.iconst (pc' := 14) (1 : Int32) d4_13 rfl rfl
      have r88 := r87.goto (pc' := 18) d4_14 (by decide) (by decide)
      have e : atF zl E i n = (1 : Int32) := by unfold atF; rw [if_pos hc79, if_pos hc85]
      rw [e]
      exact ⟨_, _, r88.retI d4_18 rfl (by decide) (by decide), rfl, rfl⟩
    · -- not no
      have r89 := r84.icT (pc' := 17) d4_10 (feq hc85).2 (by decide) (by decide)
      have r90 := r89.iconst (pc' := 18) (0 : Int32) d4_17 rfl rfl
      have e : atF zl E i n = (0 : Int32) := by unfold atF; rw [if_pos hc79, if_neg hc85]
      rw [e]
      exact ⟨_, _, r90.retI d4_18 rfl (by decide) (by decide), rfl, rfl⟩
  · -- not no
    have r91 := r78.icT (pc' := 17) d4_3 (flt hc79).2.1 (by decide) (by decide)
    have r92 := r91.iconst (pc' := 18) (0 : Int32) d4_17 rfl rfl
    have e : atF zl E i n = (0 : Int32) := by unfold atF; rw [if_neg hc79]
    rw [e]
    exact ⟨_, _, r92.retI d4_18 rfl (by decide) (by decide), rfl, rfl⟩
theorem d3_0 : decode method_4_code 0 = .ok (.aload_n 0, 1) := by decide +kernel
theorem d3_1 : decode method_4_code 1 = .ok (.iconst 0, 1) := by decide +kernel
theorem d3_2 : decode method_4_code 2 = .ok (.iload_n 1, 1) := by decide +kernel
theorem d3_3 : decode method_4_code 3 = .ok (.invokestatic 20, 3) := by decide +kernel
theorem pd_3 : parseMethodDescriptor "([III)I" = some ⟨[(.array .int), .int, .int], some .int⟩ := by decide +kernel
theorem d3_6 : decode method_4_code 6 = .ok (.aload_n 0, 1) := by decide +kernel
theorem d3_7 : decode method_4_code 7 = .ok (.iconst 1, 1) := by decide +kernel
theorem d3_8 : decode method_4_code 8 = .ok (.iload_n 1, 1) := by decide +kernel
theorem d3_9 : decode method_4_code 9 = .ok (.invokestatic 20, 3) := by decide +kernel
theorem d3_12 : decode method_4_code 12 = .ok (.iadd, 1) := by decide +kernel
theorem d3_13 : decode method_4_code 13 = .ok (.aload_n 0, 1) := by decide +kernel
theorem d3_14 : decode method_4_code 14 = .ok (.iconst 2, 1) := by decide +kernel
theorem d3_15 : decode method_4_code 15 = .ok (.iload_n 1, 1) := by decide +kernel
theorem d3_16 : decode method_4_code 16 = .ok (.invokestatic 20, 3) := by decide +kernel
theorem d3_19 : decode method_4_code 19 = .ok (.iadd, 1) := by decide +kernel
theorem d3_20 : decode method_4_code 20 = .ok (.aload_n 0, 1) := by decide +kernel
theorem d3_21 : decode method_4_code 21 = .ok (.iconst 3, 1) := by decide +kernel
theorem d3_22 : decode method_4_code 22 = .ok (.iload_n 1, 1) := by decide +kernel
theorem d3_23 : decode method_4_code 23 = .ok (.invokestatic 20, 3) := by decide +kernel
theorem d3_26 : decode method_4_code 26 = .ok (.iadd, 1) := by decide +kernel
theorem d3_27 : decode method_4_code 27 = .ok (.ireturn, 1) := by decide +kernel
set_option maxRecDepth 65536 in
set_option maxHeartbeats 40000000 in
theorem c_cnt (l : Launch) (Z : State) (a0 : Array Value) (hw : ∀ d ∈ tables_1, d.before a0 Z = true) (a : Addr) (n zl : Int32) (E : List Int32) (h0 : Heap) (n0 : Nat) (V : ArI Z h0 a zl E) :
    Ctr l Z (⟨"com/example/hailstream/hailstream/RoadMapAdjacencyPinLaw", "count", "([II)I"⟩ : MethodName) method_4_code 2 (some .int) ({ frames := 1, cells := 0, slots := 0, locals := 17 } : Room) #[(.ref a), (.int n)] h0 n0 (fun v h => v = some (.int (cntF zl E n)) ∧ h0 = h) := by
  refine ent (plainFor_of_name pn_com_example_hailstream_hailstream_RoadMapAdjacencyPinLaw) (L0 := #[.val (.ref a), .val (.int n)]) (fun m => by first | (simp [entryFrame, mkF, argsToLocals, Value.category]; done) | rfl) ?_
  intro p e s m below meth c T0 r0
  have r93 := r0.aloadN (pc' := 1) d3_0 rfl rfl rfl
  have r94 := r93.iconst (pc' := 2) (0 : Int32) d3_1 rfl rfl
  have r95 := r94.iloadN (pc' := 3) d3_2 rfl rfl
  obtain ⟨v98, h99, hq97, r96⟩ := r95.callS (pc' := 6) [(.ref a), (.int (0 : Int32)), (.int n)] (rest := []) 0 d3_3 (hw _ (List.mem_of_getElem? (i := 16) rfl)) (hw _ (List.mem_of_getElem? (i := 17) rfl)) (hw _ (List.mem_of_getElem? (i := 10) rfl)) (hw _ (List.mem_of_getElem? (i := 18) rfl)) (by decide) (c_at l Z a0 hw a (0 : Int32) n zl E h0 n0 V (by decide)) pd_3 rfl rfl rfl (Nat.le_of_ble_eq_true rfl) (by decide) (by decide) (k' := 0) (n' := 0) rfl rfl (by decide) (by decide) rfl
  obtain ⟨rfl, rfl⟩ := hq97
  dsimp only [Option.toList, List.cons_append, List.nil_append] at r96
  have r100 := r96.aloadN (pc' := 7) d3_6 rfl rfl rfl
  have r101 := r100.iconst (pc' := 8) (1 : Int32) d3_7 rfl rfl
  have r102 := r101.iloadN (pc' := 9) d3_8 rfl rfl
  obtain ⟨v105, h106, hq104, r103⟩ := r102.callS (pc' := 12) [(.ref a), (.int (1 : Int32)), (.int n)] (rest := [(.int (atF zl E (0 : Int32) n))]) 1 d3_9 (hw _ (List.mem_of_getElem? (i := 16) rfl)) (hw _ (List.mem_of_getElem? (i := 17) rfl)) (hw _ (List.mem_of_getElem? (i := 10) rfl)) (hw _ (List.mem_of_getElem? (i := 18) rfl)) (by decide) (c_at l Z a0 hw a (1 : Int32) n zl E h0 n0 V (by decide)) pd_3 rfl rfl rfl (Nat.le_of_ble_eq_true rfl) (by decide) (by decide) (k' := 0) (n' := 0) rfl rfl (by decide) (by decide) rfl
  obtain ⟨rfl, rfl⟩ := hq104
  dsimp only [Option.toList, List.cons_append, List.nil_append] at r103
  have r107 := r103.iadd (pc' := 13) d3_12 rfl rfl
  have r108 := r107.aloadN (pc' := 14) d3_13 rfl rfl rfl
  have r109 := r108.iconst (pc' := 15) (2 : Int32) d3_14 rfl rfl
  have r110 := r109.iloadN (pc' := 16) d3_15 rfl rfl
  obtain ⟨v113, h114, hq112, r111⟩ := r110.callS (pc' := 19) [(.ref a), (.int (2 : Int32)), (.int n)] (rest := [(.int ((atF zl E (0 : Int32) n) + (atF zl E (1 : Int32) n)))]) 1 d3_16 (hw _ (List.mem_of_getElem? (i := 16) rfl)) (hw _ (List.mem_of_getElem? (i := 17) rfl)) (hw _ (List.mem_of_getElem? (i := 10) rfl)) (hw _ (List.mem_of_getElem? (i := 18) rfl)) (by decide) (c_at l Z a0 hw a (2 : Int32) n zl E h0 n0 V (by decide)) pd_3 rfl rfl rfl (Nat.le_of_ble_eq_true rfl) (by decide) (by decide) (k' := 0) (n' := 0) rfl rfl (by decide) (by decide) rfl
  obtain ⟨rfl, rfl⟩ := hq112
  dsimp only [Option.toList, List.cons_append, List.nil_append] at r111
  have r115 := r111.iadd (pc' := 20) d3_19 rfl rfl
  have r116 := r115.aloadN (pc' := 21) d3_20 rfl rfl rfl
  have r117 := r116.iconst (pc' := 22) (3 : Int32) d3_21 rfl rfl
  have r118 := r117.iloadN (pc' := 23) d3_22 rfl rfl
  obtain ⟨v121, h122, hq120, r119⟩ := r118.callS (pc' := 26) [(.ref a), (.int (3 : Int32)), (.int n)] (rest := [(.int (((atF zl E (0 : Int32) n) + (atF zl E (1 : Int32) n)) + (atF zl E (2 : Int32) n)))]) 1 d3_23 (hw _ (List.mem_of_getElem? (i := 16) rfl)) (hw _ (List.mem_of_getElem? (i := 17) rfl)) (hw _ (List.mem_of_getElem? (i := 10) rfl)) (hw _ (List.mem_of_getElem? (i := 18) rfl)) (by decide) (c_at l Z a0 hw a (3 : Int32) n zl E h0 n0 V (by decide)) pd_3 rfl rfl rfl (Nat.le_of_ble_eq_true rfl) (by decide) (by decide) (k' := 0) (n' := 0) rfl rfl (by decide) (by decide) rfl
  obtain ⟨rfl, rfl⟩ := hq120
  dsimp only [Option.toList, List.cons_append, List.nil_append] at r119
  have r123 := r119.iadd (pc' := 27) d3_26 rfl rfl
  exact ⟨_, _, r123.retI d3_27 rfl (by decide) (by decide), rfl, rfl⟩
theorem d5_0 : decode method_5_code 0 = .ok (.iload_n 3, 1) := by decide +kernel
theorem d5_1 : decode method_5_code 1 = .ok (.aload_n 0, 1) := by decide +kernel
theorem d5_2 : decode method_5_code 2 = .ok (.arraylength, 1) := by decide +kernel
theorem d5_3 : decode method_5_code 3 = .ok (.if_icmp .lt 5, 3) := by decide +kernel
theorem d5_8 : decode method_5_code 8 = .ok (.aload_n 0, 1) := by decide +kernel
theorem d5_9 : decode method_5_code 9 = .ok (.iload_n 3, 1) := by decide +kernel
theorem d5_10 : decode method_5_code 10 = .ok (.iaload, 1) := by decide +kernel
theorem d5_11 : decode method_5_code 11 = .ok (.istore 4, 2) := by decide +kernel
theorem d5_13 : decode method_5_code 13 = .ok (.iload 4, 2) := by decide +kernel
theorem d5_15 : decode method_5_code 15 = .ok (.ifCond .lt 10, 3) := by decide +kernel
theorem d5_25 : decode method_5_code 25 = .ok (.iconst 0, 1) := by decide +kernel
theorem d5_26 : decode method_5_code 26 = .ok (.ireturn, 1) := by decide +kernel
theorem d5_18 : decode method_5_code 18 = .ok (.iload 4, 2) := by decide +kernel
theorem d5_20 : decode method_5_code 20 = .ok (.aload_n 1, 1) := by decide +kernel
theorem d5_21 : decode method_5_code 21 = .ok (.arraylength, 1) := by decide +kernel
theorem d5_22 : decode method_5_code 22 = .ok (.if_icmp .lt 5, 3) := by decide +kernel
theorem d5_27 : decode method_5_code 27 = .ok (.aload_n 1, 1) := by decide +kernel
theorem d5_28 : decode method_5_code 28 = .ok (.iload 4, 2) := by decide +kernel
theorem d5_30 : decode method_5_code 30 = .ok (.iaload, 1) := by decide +kernel
theorem d5_31 : decode method_5_code 31 = .ok (.iload_n 2, 1) := by decide +kernel
theorem d5_32 : decode method_5_code 32 = .ok (.if_icmp .eq 5, 3) := by decide +kernel
theorem d5_37 : decode method_5_code 37 = .ok (.iload_n 3, 1) := by decide +kernel
theorem d5_38 : decode method_5_code 38 = .ok (.ifCond .le 15, 3) := by decide +kernel
theorem d5_41 : decode method_5_code 41 = .ok (.aload_n 0, 1) := by decide +kernel
theorem d5_42 : decode method_5_code 42 = .ok (.iload_n 3, 1) := by decide +kernel
theorem d5_43 : decode method_5_code 43 = .ok (.iconst 1, 1) := by decide +kernel
theorem d5_44 : decode method_5_code 44 = .ok (.isub, 1) := by decide +kernel
theorem d5_45 : decode method_5_code 45 = .ok (.iaload, 1) := by decide +kernel
theorem d5_46 : decode method_5_code 46 = .ok (.iload 4, 2) := by decide +kernel
theorem d5_48 : decode method_5_code 48 = .ok (.if_icmp .lt 5, 3) := by decide +kernel
theorem d5_53 : decode method_5_code 53 = .ok (.iconst 1, 1) := by decide +kernel
theorem d5_54 : decode method_5_code 54 = .ok (.ireturn, 1) := by decide +kernel
theorem d5_51 : decode method_5_code 51 = .ok (.iconst 0, 1) := by decide +kernel
theorem d5_52 : decode method_5_code 52 = .ok (.ireturn, 1) := by decide +kernel
theorem d5_35 : decode method_5_code 35 = .ok (.iconst 0, 1) := by decide +kernel
theorem d5_36 : decode method_5_code 36 = .ok (.ireturn, 1) := by decide +kernel
theorem d5_6 : decode method_5_code 6 = .ok (.iconst 1, 1) := by decide +kernel
theorem d5_7 : decode method_5_code 7 = .ok (.ireturn, 1) := by decide +kernel
set_option maxRecDepth 65536 in
set_option maxHeartbeats 40000000 in
theorem c_en (l : Launch) (Z : State) (a0 : Array Value) (hw : ∀ d ∈ tables_1, d.before a0 Z = true) (a b : Addr) (n q z' zl : Int32) (G E : List Int32) (h0 : Heap) (n0 : Nat) (VG : ArI Z h0 a z' G) (V : ArI Z h0 b zl E) (hq : 0 ≤ q.toInt ∧ q.toInt ≤ 3) :
    Ctr l Z (⟨"com/example/hailstream/hailstream/RoadMapAdjacencyPinLaw", "entryOk", "([I[III)Z"⟩ : MethodName) method_5_code 5 (some .boolean) ({ frames := 0, cells := 0, slots := 0, locals := 0 } : Room) #[(.ref a), (.ref b), (.int n), (.int q)] h0 n0 (fun v h => v = some (.int (enF z' G zl E n q)) ∧ h0 = h) := by
  refine ent (plainFor_of_name pn_com_example_hailstream_hailstream_RoadMapAdjacencyPinLaw) (L0 := #[.val (.ref a), .val (.ref b), .val (.int n), .val (.int q), .unset]) (fun m => by first | (simp [entryFrame, mkF, argsToLocals, Value.category]; done) | rfl) ?_
  intro p e s m below meth c T0 r0
  have r124 := r0.iloadN (pc' := 1) d5_0 rfl rfl
  have r125 := r124.aloadN (pc' := 2) d5_1 rfl rfl rfl
  have r126 := r125.lenI (pc' := 3) d5_2 VG rfl
  by_cases hc127 : q < z'
  · -- yes
    have r128 := r126.icT (pc' := 8) d5_3 (tlt hc127).1 (by decide) (by decide)
    have r129 := r128.aloadN (pc' := 9) d5_8 rfl rfl rfl
    have r130 := r129.iloadN (pc' := 10) d5_9 rfl rfl
    have r131 := r130.gI (pc' := 11) d5_10 VG (nn hq.1) hc127 rfl
    have r132 := r131.istore (pc' := 13) (L' := #[.val (.ref a), .val (.ref b), .val (.int n), .val (.int q), .val (.int (gI G q))]) d5_11 rfl rfl
    have r133 := r132.iload (pc' := 15) d5_13 rfl rfl
    by_cases hc134 : (gI G q) < (0 : Int32)
    · -- yes
      have r135 := r133.ifT (pc' := 25) d5_15 (tlt hc134).1 (by decide) (by decide)
      have r136 := r135.iconst (pc' := 26) (0 : Int32) d5_25 rfl rfl
      have e : enF z' G zl E n q = (0 : Int32) := by unfold enF; rw [if_pos hc127, if_pos hc134]
      rw [e]
      exact ⟨_, _, r136.retZ d5_26 rfl (t := .boolean) (by simp) (0 : Int32) rfl (by decide) (by decide), rfl, rfl⟩
    · -- not no
      have r137 := r133.ifF (pc' := 18) d5_15 (flt hc134).1 rfl
      have r138 := r137.iload (pc' := 20) d5_18 rfl rfl
      have r139 := r138.aloadN (pc' := 21) d5_20 rfl rfl rfl
      have r140 := r139.lenI (pc' := 22) d5_21 V rfl
      by_cases hc141 : (gI G q) < zl
      · -- yes
        have r142 := r140.icT (pc' := 27) d5_22 (tlt hc141).1 (by decide) (by decide)
        have r143 := r142.aloadN (pc' := 28) d5_27 rfl rfl rfl
        have r144 := r143.iload (pc' := 30) d5_28 rfl rfl
        have r145 := r144.gI (pc' := 31) d5_30 V hc134 hc141 rfl
        have r146 := r145.iloadN (pc' := 32) d5_31 rfl rfl
        by_cases hc147 : (gI E (gI G q)) = n
        · -- yes
          have r148 := r146.icT (pc' := 37) d5_32 (teq hc147).1 (by decide) (by decide)
          have r149 := r148.iloadN (pc' := 38) d5_37 rfl rfl
          by_cases hc150 : (0 : Int32) < q
          · -- yes
            have r151 := r149.ifF (pc' := 41) d5_38 (tlt hc150).2.2.2 rfl
            have r152 := r151.aloadN (pc' := 42) d5_41 rfl rfl rfl
            have r153 := r152.iloadN (pc' := 43) d5_42 rfl rfl
            have r154 := r153.iconst (pc' := 44) (1 : Int32) d5_43 rfl rfl
            have r155 := r154.isub (pc' := 45) d5_44 rfl rfl
            have hq1 : (q - (1 : Int32)).toInt = q.toInt - 1 := by
              have q1 := c_isub q 1
              have q2 := rng32 (q - 1)
              have q3 := Int32.lt_iff_toInt_lt.mp hc150
              simp only [Int32.reduceToInt] at q1 q3
              omega
            have q4 := Int32.lt_iff_toInt_lt.mp hc150
            simp only [Int32.reduceToInt] at q4
            have q5 := Int32.lt_iff_toInt_lt.mp hc127
            have r156 := r155.gI (pc' := 46) d5_45 VG (nn (by omega)) (lti (by omega)) rfl
            have r157 := r156.iload (pc' := 48) d5_46 rfl rfl
            by_cases hc158 : (gI G (q - (1 : Int32))) < (gI G q)
            · -- yes
              have r159 := r157.icT (pc' := 53) d5_48 (tlt hc158).1 (by decide) (by decide)
              have r160 := r159.iconst (pc' := 54) (1 : Int32) d5_53 rfl rfl
              have e : enF z' G zl E n q = (1 : Int32) := by unfold enF; rw [if_pos hc127, if_neg hc134, if_pos hc141, if_pos hc147, if_pos hc150, if_pos hc158]
              rw [e]
              exact ⟨_, _, r160.retZ d5_54 rfl (t := .boolean) (by simp) (1 : Int32) rfl (by decide) (by decide), rfl, rfl⟩
            · -- not no
              have r161 := r157.icF (pc' := 51) d5_48 (flt hc158).1 rfl
              have r162 := r161.iconst (pc' := 52) (0 : Int32) d5_51 rfl rfl
              have e : enF z' G zl E n q = (0 : Int32) := by unfold enF; rw [if_pos hc127, if_neg hc134, if_pos hc141, if_pos hc147, if_pos hc150, if_neg hc158]
              rw [e]
              exact ⟨_, _, r162.retZ d5_52 rfl (t := .boolean) (by simp) (0 : Int32) rfl (by decide) (by decide), rfl, rfl⟩
          · -- not no
            have r163 := r149.ifT (pc' := 53) d5_38 (flt hc150).2.2.2 (by decide) (by decide)
            have r164 := r163.iconst (pc' := 54) (1 : Int32) d5_53 rfl rfl
            have e : enF z' G zl E n q = (1 : Int32) := by unfold enF; rw [if_pos hc127, if_neg hc134, if_pos hc141, if_pos hc147, if_neg hc150]
            rw [e]
            exact ⟨_, _, r164.retZ d5_54 rfl (t := .boolean) (by simp) (1 : Int32) rfl (by decide) (by decide), rfl, rfl⟩
        · -- not no
          have r165 := r146.icF (pc' := 35) d5_32 (feq hc147).1 rfl
          have r166 := r165.iconst (pc' := 36) (0 : Int32) d5_35 rfl rfl
          have e : enF z' G zl E n q = (0 : Int32) := by unfold enF; rw [if_pos hc127, if_neg hc134, if_pos hc141, if_neg hc147]
          rw [e]
          exact ⟨_, _, r166.retZ d5_36 rfl (t := .boolean) (by simp) (0 : Int32) rfl (by decide) (by decide), rfl, rfl⟩
      · -- not no
        have r167 := r140.icF (pc' := 25) d5_22 (flt hc141).1 rfl
        have r168 := r167.iconst (pc' := 26) (0 : Int32) d5_25 rfl rfl
        have e : enF z' G zl E n q = (0 : Int32) := by unfold enF; rw [if_pos hc127, if_neg hc134, if_neg hc141]
        rw [e]
        exact ⟨_, _, r168.retZ d5_26 rfl (t := .boolean) (by simp) (0 : Int32) rfl (by decide) (by decide), rfl, rfl⟩
  · -- not no
    have r169 := r126.icF (pc' := 6) d5_3 (flt hc127).1 rfl
    have r170 := r169.iconst (pc' := 7) (1 : Int32) d5_6 rfl rfl
    have e : enF z' G zl E n q = (1 : Int32) := by unfold enF; rw [if_neg hc127]
    rw [e]
    exact ⟨_, _, r170.retZ d5_7 rfl (t := .boolean) (by simp) (1 : Int32) rfl (by decide) (by decide), rfl, rfl⟩
theorem d2_0 : decode method_6_code 0 = .ok (.iload_n 2, 1) := by decide +kernel
theorem d2_1 : decode method_6_code 1 = .ok (.aload_n 0, 1) := by decide +kernel
theorem d2_2 : decode method_6_code 2 = .ok (.arraylength, 1) := by decide +kernel
theorem d2_3 : decode method_6_code 3 = .ok (.if_icmp .lt 5, 3) := by decide +kernel
theorem d2_8 : decode method_6_code 8 = .ok (.aload_n 0, 1) := by decide +kernel
theorem d2_9 : decode method_6_code 9 = .ok (.iload_n 2, 1) := by decide +kernel
theorem d2_10 : decode method_6_code 10 = .ok (.aaload, 1) := by decide +kernel
theorem d2_11 : decode method_6_code 11 = .ok (.astore_n 3, 1) := by decide +kernel
theorem d2_12 : decode method_6_code 12 = .ok (.aload_n 3, 1) := by decide +kernel
theorem d2_13 : decode method_6_code 13 = .ok (.ifnonnull 5, 3) := by decide +kernel
theorem d2_18 : decode method_6_code 18 = .ok (.aload_n 3, 1) := by decide +kernel
theorem d2_19 : decode method_6_code 19 = .ok (.arraylength, 1) := by decide +kernel
theorem d2_20 : decode method_6_code 20 = .ok (.aload_n 1, 1) := by decide +kernel
theorem d2_21 : decode method_6_code 21 = .ok (.iload_n 2, 1) := by decide +kernel
theorem d2_22 : decode method_6_code 22 = .ok (.invokestatic 24, 3) := by decide +kernel
theorem pd_1 : parseMethodDescriptor "([II)I" = some ⟨[(.array .int), .int], some .int⟩ := by decide +kernel
theorem d2_25 : decode method_6_code 25 = .ok (.if_icmp .eq 5, 3) := by decide +kernel
theorem d2_30 : decode method_6_code 30 = .ok (.aload_n 3, 1) := by decide +kernel
theorem d2_31 : decode method_6_code 31 = .ok (.aload_n 1, 1) := by decide +kernel
theorem d2_32 : decode method_6_code 32 = .ok (.iload_n 2, 1) := by decide +kernel
theorem d2_33 : decode method_6_code 33 = .ok (.iconst 0, 1) := by decide +kernel
theorem d2_34 : decode method_6_code 34 = .ok (.invokestatic 28, 3) := by decide +kernel
theorem pd_4 : parseMethodDescriptor "([I[III)Z" = some ⟨[(.array .int), (.array .int), .int, .int], some .boolean⟩ := by decide +kernel
theorem d2_37 : decode method_6_code 37 = .ok (.ifCond .eq 37, 3) := by decide +kernel
theorem d2_74 : decode method_6_code 74 = .ok (.iconst 0, 1) := by decide +kernel
theorem d2_75 : decode method_6_code 75 = .ok (.ireturn, 1) := by decide +kernel
theorem d2_40 : decode method_6_code 40 = .ok (.aload_n 3, 1) := by decide +kernel
theorem d2_41 : decode method_6_code 41 = .ok (.aload_n 1, 1) := by decide +kernel
theorem d2_42 : decode method_6_code 42 = .ok (.iload_n 2, 1) := by decide +kernel
theorem d2_43 : decode method_6_code 43 = .ok (.iconst 1, 1) := by decide +kernel
theorem d2_44 : decode method_6_code 44 = .ok (.invokestatic 28, 3) := by decide +kernel
theorem d2_47 : decode method_6_code 47 = .ok (.ifCond .eq 27, 3) := by decide +kernel
theorem d2_50 : decode method_6_code 50 = .ok (.aload_n 3, 1) := by decide +kernel
theorem d2_51 : decode method_6_code 51 = .ok (.aload_n 1, 1) := by decide +kernel
theorem d2_52 : decode method_6_code 52 = .ok (.iload_n 2, 1) := by decide +kernel
theorem d2_53 : decode method_6_code 53 = .ok (.iconst 2, 1) := by decide +kernel
theorem d2_54 : decode method_6_code 54 = .ok (.invokestatic 28, 3) := by decide +kernel
theorem d2_57 : decode method_6_code 57 = .ok (.ifCond .eq 17, 3) := by decide +kernel
theorem d2_60 : decode method_6_code 60 = .ok (.aload_n 3, 1) := by decide +kernel
theorem d2_61 : decode method_6_code 61 = .ok (.aload_n 1, 1) := by decide +kernel
theorem d2_62 : decode method_6_code 62 = .ok (.iload_n 2, 1) := by decide +kernel
theorem d2_63 : decode method_6_code 63 = .ok (.iconst 3, 1) := by decide +kernel
theorem d2_64 : decode method_6_code 64 = .ok (.invokestatic 28, 3) := by decide +kernel
theorem d2_67 : decode method_6_code 67 = .ok (.ifCond .eq 7, 3) := by decide +kernel
theorem d2_70 : decode method_6_code 70 = .ok (.iconst 1, 1) := by decide +kernel
theorem d2_71 : decode method_6_code 71 = .ok (.goto 4, 3) := by decide +kernel
theorem d2_28 : decode method_6_code 28 = .ok (.iconst 0, 1) := by decide +kernel
theorem d2_29 : decode method_6_code 29 = .ok (.ireturn, 1) := by decide +kernel
theorem d2_6 : decode method_6_code 6 = .ok (.iconst 1, 1) := by decide +kernel
theorem d2_7 : decode method_6_code 7 = .ok (.ireturn, 1) := by decide +kernel
set_option maxRecDepth 65536 in
set_option maxHeartbeats 40000000 in
theorem c_nk (l : Launch) (Z : State) (a0 : Array Value) (hw : ∀ d ∈ tables_1, d.before a0 Z = true) (b a : Addr) (n zn zl : Int32) (A : Nat → Addr) (cs E : List Int32) (G : List (List Int32)) (h0 : Heap) (n0 : Nat) (GR : Grid Z h0 b zn A cs G) (V : ArI Z h0 a zl E) (hn : 0 ≤ n.toInt) :
    Ctr l Z (⟨"com/example/hailstream/hailstream/RoadMapAdjacencyPinLaw", "nodeOk", "([[I[II)Z"⟩ : MethodName) method_6_code 4 (some .boolean) ({ frames := 2, cells := 0, slots := 0, locals := 31 } : Room) #[(.ref b), (.ref a), (.int n)] h0 n0 (fun v h => v = some (.int (nkF zn cs G zl E n)) ∧ h0 = h) := by
  refine ent (plainFor_of_name pn_com_example_hailstream_hailstream_RoadMapAdjacencyPinLaw) (L0 := #[.val (.ref b), .val (.ref a), .val (.int n), .unset]) (fun m => by first | (simp [entryFrame, mkF, argsToLocals, Value.category]; done) | rfl) ?_
  intro p e s m below meth c T0 r0
  obtain ⟨kb, vs, VB, FA⟩ := GR
  have r171 := r0.iloadN (pc' := 1) d2_0 rfl rfl
  have r172 := r171.aloadN (pc' := 2) d2_1 rfl rfl rfl
  have r173 := r172.alen (pc' := 3) d2_2 VB rfl
  by_cases hc174 : n < zn
  · -- yes
    have r175 := r173.icT (pc' := 8) d2_3 (tlt hc174).1 (by decide) (by decide)
    have r176 := r175.aloadN (pc' := 9) d2_8 rfl rfl rfl
    have r177 := r176.iloadN (pc' := 10) d2_9 rfl rfl
    have hnn : n.toNatClampNeg < nz zn := by have := Int32.lt_iff_toInt_lt.mp hc174; simp only [Int32.toNatClampNeg, nz]; omega
    obtain ⟨f1, f2⟩ := FA _ hnn
    have r178 := Rch.ldR (pc' := 11) (.ref (A n.toNatClampNeg)) r177 d2_10 VB rfl (nn hn) hc174 f1 rfl
    have r179 := r178.astoreN (pc' := 12) (L' := #[.val (.ref b), .val (.ref a), .val (.int n), .val (.ref (A n.toNatClampNeg))]) d2_11 rfl rfl rfl
    have r180 := r179.aloadN (pc' := 13) d2_12 rfl rfl rfl
    have r181 := r180.nnT (pc' := 18) d2_13 (by decide) (by decide)
    have r182 := r181.aloadN (pc' := 19) d2_18 rfl rfl rfl
    have r183 := r182.lenI (pc' := 20) d2_19 f2 rfl
    have r184 := r183.aloadN (pc' := 21) d2_20 rfl rfl rfl
    have r185 := r184.iloadN (pc' := 22) d2_21 rfl rfl
    obtain ⟨v188, h189, hq187, r186⟩ := r185.callS (pc' := 25) [(.ref a), (.int n)] (rest := [(.int (cs.getD n.toNatClampNeg 0))]) 1 d2_22 (hw _ (List.mem_of_getElem? (i := 13) rfl)) (hw _ (List.mem_of_getElem? (i := 14) rfl)) (hw _ (List.mem_of_getElem? (i := 10) rfl)) (hw _ (List.mem_of_getElem? (i := 15) rfl)) (by decide) (c_cnt l Z a0 hw a n zl E h0 n0 V) pd_1 rfl rfl rfl (Nat.le_of_ble_eq_true rfl) (by decide) (by decide) (k' := 0) (n' := 0) rfl rfl (by decide) (by decide) rfl
    obtain ⟨rfl, rfl⟩ := hq187
    dsimp only [Option.toList, List.cons_append, List.nil_append] at r186
    by_cases hc190 : (cs.getD n.toNatClampNeg 0) = (cntF zl E n)
    · -- yes
      have r191 := r186.icT (pc' := 30) d2_25 (teq hc190).1 (by decide) (by decide)
      have r192 := r191.aloadN (pc' := 31) d2_30 rfl rfl rfl
      have r193 := r192.aloadN (pc' := 32) d2_31 rfl rfl rfl
      have r194 := r193.iloadN (pc' := 33) d2_32 rfl rfl
      have r195 := r194.iconst (pc' := 34) (0 : Int32) d2_33 rfl rfl
      obtain ⟨v198, h199, hq197, r196⟩ := r195.callS (pc' := 37) [(.ref (A n.toNatClampNeg)), (.ref a), (.int n), (.int (0 : Int32))] (rest := []) 0 d2_34 (hw _ (List.mem_of_getElem? (i := 19) rfl)) (hw _ (List.mem_of_getElem? (i := 20) rfl)) (hw _ (List.mem_of_getElem? (i := 10) rfl)) (hw _ (List.mem_of_getElem? (i := 21) rfl)) (by decide) (c_en l Z a0 hw (A n.toNatClampNeg) a n (0 : Int32) (cs.getD n.toNatClampNeg 0) zl (G.getD n.toNatClampNeg []) E h0 n0 f2 V (by decide)) pd_4 rfl rfl rfl (Nat.le_of_ble_eq_true rfl) (by decide) (by decide) (k' := 0) (n' := 0) rfl rfl (by decide) (by decide) rfl
      obtain ⟨rfl, rfl⟩ := hq197
      dsimp only [Option.toList, List.cons_append, List.nil_append] at r196
      by_cases hc200 : (enF (cs.getD n.toNatClampNeg 0) (G.getD n.toNatClampNeg []) zl E n (0 : Int32)) = (0 : Int32)
      · -- yes
        have r201 := r196.ifT (pc' := 74) d2_37 (teq hc200).1 (by decide) (by decide)
        have r202 := r201.iconst (pc' := 75) (0 : Int32) d2_74 rfl rfl
        have e : nkF zn cs G zl E n = (0 : Int32) := by unfold nkF; rw [if_pos hc174, if_pos hc190, if_pos hc200]
        rw [e]
        exact ⟨_, _, r202.retZ d2_75 rfl (t := .boolean) (by simp) (0 : Int32) rfl (by decide) (by decide), rfl, rfl⟩
      · -- not no
        have r203 := r196.ifF (pc' := 40) d2_37 (feq hc200).1 rfl
        have r204 := r203.aloadN (pc' := 41) d2_40 rfl rfl rfl
        have r205 := r204.aloadN (pc' := 42) d2_41 rfl rfl rfl
        have r206 := r205.iloadN (pc' := 43) d2_42 rfl rfl
        have r207 := r206.iconst (pc' := 44) (1 : Int32) d2_43 rfl rfl
        obtain ⟨v210, h211, hq209, r208⟩ := r207.callS (pc' := 47) [(.ref (A n.toNatClampNeg)), (.ref a), (.int n), (.int (1 : Int32))] (rest := []) 0 d2_44 (hw _ (List.mem_of_getElem? (i := 19) rfl)) (hw _ (List.mem_of_getElem? (i := 20) rfl)) (hw _ (List.mem_of_getElem? (i := 10) rfl)) (hw _ (List.mem_of_getElem? (i := 21) rfl)) (by decide) (c_en l Z a0 hw (A n.toNatClampNeg) a n (1 : Int32) (cs.getD n.toNatClampNeg 0) zl (G.getD n.toNatClampNeg []) E h0 n0 f2 V (by decide)) pd_4 rfl rfl rfl (Nat.le_of_ble_eq_true rfl) (by decide) (by decide) (k' := 0) (n' := 0) rfl rfl (by decide) (by decide) rfl
        obtain ⟨rfl, rfl⟩ := hq209
        dsimp only [Option.toList, List.cons_append, List.nil_append] at r208
        by_cases hc212 : (enF (cs.getD n.toNatClampNeg 0) (G.getD n.toNatClampNeg []) zl E n (1 : Int32)) = (0 : Int32)
        · -- yes
          have r213 := r208.ifT (pc' := 74) d2_47 (teq hc212).1 (by decide) (by decide)
          have r214 := r213.iconst (pc' := 75) (0 : Int32) d2_74 rfl rfl
          have e : nkF zn cs G zl E n = (0 : Int32) := by unfold nkF; rw [if_pos hc174, if_pos hc190, if_neg hc200, if_pos hc212]
          rw [e]
          exact ⟨_, _, r214.retZ d2_75 rfl (t := .boolean) (by simp) (0 : Int32) rfl (by decide) (by decide), rfl, rfl⟩
        · -- not no
          have r215 := r208.ifF (pc' := 50) d2_47 (feq hc212).1 rfl
          have r216 := r215.aloadN (pc' := 51) d2_50 rfl rfl rfl
          have r217 := r216.aloadN (pc' := 52) d2_51 rfl rfl rfl
          have r218 := r217.iloadN (pc' := 53) d2_52 rfl rfl
          have r219 := r218.iconst (pc' := 54) (2 : Int32) d2_53 rfl rfl
          obtain ⟨v222, h223, hq221, r220⟩ := r219.callS (pc' := 57) [(.ref (A n.toNatClampNeg)), (.ref a), (.int n), (.int (2 : Int32))] (rest := []) 0 d2_54 (hw _ (List.mem_of_getElem? (i := 19) rfl)) (hw _ (List.mem_of_getElem? (i := 20) rfl)) (hw _ (List.mem_of_getElem? (i := 10) rfl)) (hw _ (List.mem_of_getElem? (i := 21) rfl)) (by decide) (c_en l Z a0 hw (A n.toNatClampNeg) a n (2 : Int32) (cs.getD n.toNatClampNeg 0) zl (G.getD n.toNatClampNeg []) E h0 n0 f2 V (by decide)) pd_4 rfl rfl rfl (Nat.le_of_ble_eq_true rfl) (by decide) (by decide) (k' := 0) (n' := 0) rfl rfl (by decide) (by decide) rfl
          obtain ⟨rfl, rfl⟩ := hq221
          dsimp only [Option.toList, List.cons_append, List.nil_append] at r220
          by_cases hc224 : (enF (cs.getD n.toNatClampNeg 0) (G.getD n.toNatClampNeg []) zl E n (2 : Int32)) = (0 : Int32)
          · -- yes
            have r225 := r220.ifT (pc' := 74) d2_57 (teq hc224).1 (by decide) (by decide)
            have r226 := r225.iconst (pc' := 75) (0 : Int32) d2_74 rfl rfl
            have e : nkF zn cs G zl E n = (0 : Int32) := by unfold nkF; rw [if_pos hc174, if_pos hc190, if_neg hc200, if_neg hc212, if_pos hc224]
            rw [e]
            exact ⟨_, _, r226.retZ d2_75 rfl (t := .boolean) (by simp) (0 : Int32) rfl (by decide) (by decide), rfl, rfl⟩
          · -- not no
            have r227 := r220.ifF (pc' := 60) d2_57 (feq hc224).1 rfl
            have r228 := r227.aloadN (pc' := 61) d2_60 rfl rfl rfl
            have r229 := r228.aloadN (pc' := 62) d2_61 rfl rfl rfl
            have r230 := r229.iloadN (pc' := 63) d2_62 rfl rfl
            have r231 := r230.iconst (pc' := 64) (3 : Int32) d2_63 rfl rfl
            obtain ⟨v234, h235, hq233, r232⟩ := r231.callS (pc' := 67) [(.ref (A n.toNatClampNeg)), (.ref a), (.int n), (.int (3 : Int32))] (rest := []) 0 d2_64 (hw _ (List.mem_of_getElem? (i := 19) rfl)) (hw _ (List.mem_of_getElem? (i := 20) rfl)) (hw _ (List.mem_of_getElem? (i := 10) rfl)) (hw _ (List.mem_of_getElem? (i := 21) rfl)) (by decide) (c_en l Z a0 hw (A n.toNatClampNeg) a n (3 : Int32) (cs.getD n.toNatClampNeg 0) zl (G.getD n.toNatClampNeg []) E h0 n0 f2 V (by decide)) pd_4 rfl rfl rfl (Nat.le_of_ble_eq_true rfl) (by decide) (by decide) (k' := 0) (n' := 0) rfl rfl (by decide) (by decide) rfl
            obtain ⟨rfl, rfl⟩ := hq233
            dsimp only [Option.toList, List.cons_append, List.nil_append] at r232
            by_cases hc236 : (enF (cs.getD n.toNatClampNeg 0) (G.getD n.toNatClampNeg []) zl E n (3 : Int32)) = (0 : Int32)
            · -- yes
              have r237 := r232.ifT (pc' := 74) d2_67 (teq hc236).1 (by decide) (by decide)
              have r238 := r237.iconst (pc' := 75) (0 : Int32) d2_74 rfl rfl
              have e : nkF zn cs G zl E n = (0 : Int32) := by unfold nkF; rw [if_pos hc174, if_pos hc190, if_neg hc200, if_neg hc212, if_neg hc224, if_pos hc236]
              rw [e]
              exact ⟨_, _, r238.retZ d2_75 rfl (t := .boolean) (by simp) (0 : Int32) rfl (by decide) (by decide), rfl, rfl⟩
            · -- not no
              have r239 := r232.ifF (pc' := 70) d2_67 (feq hc236).1 rfl
              have r240 := r239.iconst (pc' := 71) (1 : Int32) d2_70 rfl rfl
              have r241 := r240.goto (pc' := 75) d2_71 (by decide) (by decide)
              have e : nkF zn cs G zl E n = (1 : Int32) := by unfold nkF; rw [if_pos hc174, if_pos hc190, if_neg hc200, if_neg hc212, if_neg hc224, if_neg hc236]
              rw [e]
              exact ⟨_, _, r241.retZ d2_75 rfl (t := .boolean) (by simp) (1 : Int32) rfl (by decide) (by decide), rfl, rfl⟩
    · -- not no
      have r242 := r186.icF (pc' := 28) d2_25 (feq hc190).1 rfl
      have r243 := r242.iconst (pc' := 29) (0 : Int32) d2_28 rfl rfl
      have e : nkF zn cs G zl E n = (0 : Int32) := by unfold nkF; rw [if_pos hc174, if_neg hc190]
      rw [e]
      exact ⟨_, _, r243.retZ d2_29 rfl (t := .boolean) (by simp) (0 : Int32) rfl (by decide) (by decide), rfl, rfl⟩
  · -- not no
    have r244 := r173.icF (pc' := 6) d2_3 (flt hc174).1 rfl
    have r245 := r244.iconst (pc' := 7) (1 : Int32) d2_6 rfl rfl
    have e : nkF zn cs G zl E n = (1 : Int32) := by unfold nkF; rw [if_neg hc174]
    rw [e]
    exact ⟨_, _, r245.retZ d2_7 rfl (t := .boolean) (by simp) (1 : Int32) rfl (by decide) (by decide), rfl, rfl⟩
def okb (zn : Int32) (n : Nat) (E : List Int32) : Bool := (List.range n).all (fun k => decide (0 ≤ (gI E (Int32.ofNat k)).toInt ∧ (gI E (Int32.ofNat k)).toInt < zn.toInt ∧ 0 ≤ (gI (cN zn E k) (gI E (Int32.ofNat k))).toInt ∧ (gI (cN zn E k) (gI E (Int32.ofNat k))).toInt < (gI (cN zn E n) (gI E (Int32.ofNat k))).toInt)) && (List.range (nz zn)).all (fun i => decide (0 ≤ ((cN zn E n).getD i 0).toInt ∧ ((cN zn E n).getD i 0).toInt ≤ 4))
theorem okB_of {zn : Int32} {n : Nat} {E : List Int32} (h : okb zn n E = true) : okB zn n E := by
  simp only [okb, Bool.and_eq_true, List.all_eq_true, List.mem_range, decide_eq_true_eq] at h
  exact ⟨h.1, h.2⟩
def nkb (zn zl : Int32) (E : List Int32) : Bool := (List.range 5).all fun n => nkF zn (cN zn E (nz zl)) (gN zn E (nz zl)) zl E (Int32.ofNat n) == 1
def fitv (zn ln i v : Nat) : Bool := if i < ln then v < zn else v == 0
def chk (zn ln v0 v1 v2 v3 : Nat) : Bool := okb (Int32.ofNat zn) ln [Int32.ofNat v0, Int32.ofNat v1, Int32.ofNat v2, Int32.ofNat v3] && nkb (Int32.ofNat zn) (Int32.ofNat ln) [Int32.ofNat v0, Int32.ofNat v1, Int32.ofNat v2, Int32.ofNat v3]
def chkAll : Bool := (List.range 6).all fun zn => (List.range 5).all fun ln => (zn == 0 && ln != 0) || (List.range 5).all fun v0 => !fitv zn ln 0 v0 || (List.range 5).all fun v1 => !fitv zn ln 1 v1 || (List.range 5).all fun v2 => !fitv zn ln 2 v2 || (List.range 5).all fun v3 => !fitv zn ln 3 v3 || chk zn ln v0 v1 v2 v3
set_option maxRecDepth 65536 in
theorem chkAll_t : chkAll = true := by decide +kernel
theorem imp_or {a b : Bool} (h : (!a || b) = true) (ha : a = true) : b = true := by subst ha; simpa using h
theorem chk_t {zn ln v0 v1 v2 v3 : Nat} (h1 : zn < 6) (h2 : ln < 5) (h0 : zn = 0 → ln = 0) (f0 : fitv zn ln 0 v0 = true) (f1 : fitv zn ln 1 v1 = true) (f2 : fitv zn ln 2 v2 = true) (f3 : fitv zn ln 3 v3 = true) (b0 : v0 < 5) (b1 : v1 < 5) (b2 : v2 < 5) (b3 : v3 < 5) : chk zn ln v0 v1 v2 v3 = true := by
  have h := chkAll_t
  simp only [chkAll, List.all_eq_true, List.mem_range] at h
  have q := h zn h1 ln h2
  have hb : (zn == 0 && ln != 0) = false := by
    by_cases z : zn = 0
    · simp [z, h0 z]
    · simp [z]
  rw [hb, Bool.false_or, List.all_eq_true] at q
  have q0 := imp_or (q v0 (List.mem_range.mpr b0)) f0
  have q1 := imp_or (List.all_eq_true.mp q0 v1 (List.mem_range.mpr b1)) f1
  have q2 := imp_or (List.all_eq_true.mp q1 v2 (List.mem_range.mpr b2)) f2
  exact imp_or (List.all_eq_true.mp q2 v3 (List.mem_range.mpr b3)) f3
theorem ofN' {x : Int32} (h : 0 ≤ x.toInt) : x = Int32.ofNat x.toInt.toNat := by
  apply Int32.toInt_inj.mp
  have := x.toInt_lt
  rw [Int32.toInt_ofNat_of_lt (by omega)]
  omega
def FitV (zn ln : Int32) (i : Int) (v : Int32) : Prop := (i < ln.toInt → 0 ≤ v.toInt ∧ v.toInt < zn.toInt) ∧ (¬ i < ln.toInt → v = 0)
theorem plain {zn ln v0 v1 v2 v3 : Int32} (hz : 0 ≤ zn.toInt ∧ zn.toInt ≤ 5) (hl : 0 ≤ ln.toInt ∧ ln.toInt ≤ 4) (h0 : zn.toInt = 0 → ln.toInt = 0) (f0 : FitV zn ln 0 v0) (f1 : FitV zn ln 1 v1) (f2 : FitV zn ln 2 v2) (f3 : FitV zn ln 3 v3) : okB zn (nz ln) [v0, v1, v2, v3] ∧ ∀ n : Nat, n < 5 → nkF zn (cN zn [v0, v1, v2, v3] (nz ln)) (gN zn [v0, v1, v2, v3] (nz ln)) ln [v0, v1, v2, v3] (Int32.ofNat n) = 1 := by
  have hnl := nz_i hl.1
  have hnz := nz_i hz.1
  have key : ∀ (i : Int) (v : Int32), 0 ≤ i → FitV zn ln i v → 0 ≤ v.toInt ∧ v.toInt < 5 ∧ fitv (nz zn) (nz ln) i.toNat v.toInt.toNat = true := by
    intro i v hi f
    by_cases q : i < ln.toInt
    · have := f.1 q
      refine ⟨this.1, by omega, ?_⟩
      unfold fitv; rw [if_pos (by omega)]; exact decide_eq_true (by omega)
    · have := f.2 q; subst this
      refine ⟨by decide, by decide, ?_⟩
      unfold fitv; rw [if_neg (by omega)]; rfl
  obtain ⟨a1, a2, a3⟩ := key 0 v0 (by decide) f0
  obtain ⟨b1, b2, b3⟩ := key 1 v1 (by decide) f1
  obtain ⟨c1, c2, c3⟩ := key 2 v2 (by decide) f2
  obtain ⟨d1, d2, d3⟩ := key 3 v3 (by decide) f3
  have h := chk_t (zn := nz zn) (ln := nz ln) (by omega) (by omega) (by omega) a3 b3 c3 d3 (by omega) (by omega) (by omega) (by omega)
  simp only [chk, Bool.and_eq_true] at h
  rw [← ofN' a1, ← ofN' b1, ← ofN' c1, ← ofN' d1, ← (show zn = Int32.ofNat (nz zn) from ofN' hz.1)] at h
  refine ⟨okB_of h.1, fun n hn => ?_⟩
  have h2 := h.2
  rw [← (show ln = Int32.ofNat (nz ln) from ofN' hl.1)] at h2
  simp only [nkb, List.all_eq_true, List.mem_range, beq_iff_eq] at h2
  exact h2 n hn
theorem rem_p (x y : Int32) (hy : 0 < y.toInt) : 0 ≤ ((x &&& (2147483647 : Int32)) % y).toInt ∧ ((x &&& (2147483647 : Int32)) % y).toInt < y.toInt := by
  have h1 := (c_and x 2147483647 (by decide)).1
  have h2 := (c_iremV (x &&& 2147483647) y).1 h1 hy
  exact ⟨h2.1, h2.2.1⟩
theorem pd_2 : parseMethodDescriptor "([II)[[I" = some ⟨[(.array .int), .int], some (.array (.array .int))⟩ := by decide +kernel
theorem pd_5 : parseMethodDescriptor "([[I[II)Z" = some ⟨[(.array (.array .int)), (.array .int), .int], some .boolean⟩ := by decide +kernel
set_option maxRecDepth 65536 in
set_option maxHeartbeats 40000000 in
theorem law (l : Launch) (Z : State) (a0 : Array Value) (hw : ∀ d ∈ tables_1, d.before a0 Z = true) (x0 x1 x2 x3 x4 x5 : Int32) (h0 : Heap) (n0 : Nat) (Z0 : n0 ≤ h0.size) :
    Ctr l Z x code maxLocals ret room_1 #[(.int x0), (.int x1), (.int x2), (.int x3), (.int x4), (.int x5)] h0 n0 (fun v h => v = some (.int 1)) := by
  refine ent (plainFor_of_name pn_com_example_hailstream_hailstream_RoadMapAdjacencyPinLaw) (L0 := #[.val (.int x0), .val (.int x1), .val (.int x2), .val (.int x3), .val (.int x4), .val (.int x5), .unset, .unset, .unset, .unset]) (fun m => by first | (simp [entryFrame, mkF, argsToLocals, Value.category, maxLocals]; done) | rfl) ?_
  intro p e s m below meth c T0 r0
  have r246 := r0.iloadN (pc' := 1) at_0 rfl rfl
  have r247 := r246.ldc (pc' := 3) at_1 (hw _ (List.mem_of_getElem? (i := 0) rfl)) rfl
  have r248 := r247.iand (pc' := 4) at_3 rfl rfl
  have r249 := r248.bipush (pc' := 6) (6 : Int32) at_4 rfl rfl
  have r250 := r249.irem (pc' := 7) at_6 (by decide) rfl rfl
  have r251 := r250.istore (pc' := 9) (L' := #[.val (.int x0), .val (.int x1), .val (.int x2), .val (.int x3), .val (.int x4), .val (.int x5), .val (.int ((x0 &&& (2147483647 : Int32)) % (6 : Int32))), .unset, .unset, .unset]) at_7 rfl rfl
  obtain ⟨zn, e_zn⟩ : ∃ z, z = ((x0 &&& (2147483647 : Int32)) % (6 : Int32)) := ⟨_, rfl⟩
  have h_zn := rem_p x0 (6 : Int32) (by decide)
  rw [← e_zn] at h_zn r251
  have r252 := r251.iloadN (pc' := 10) at_9 rfl rfl
  have r253 := r252.ldc (pc' := 12) at_10 (hw _ (List.mem_of_getElem? (i := 0) rfl)) rfl
  have r254 := r253.iand (pc' := 13) at_12 rfl rfl
  have r255 := r254.iconst (pc' := 14) (5 : Int32) at_13 rfl rfl
  have r256 := r255.irem (pc' := 15) at_14 (by decide) rfl rfl
  have r257 := r256.istore (pc' := 17) (L' := #[.val (.int x0), .val (.int x1), .val (.int x2), .val (.int x3), .val (.int x4), .val (.int x5), .val (.int zn), .val (.int ((x1 &&& (2147483647 : Int32)) % (5 : Int32))), .unset, .unset]) at_15 rfl rfl
  obtain ⟨l0, e_l0⟩ : ∃ z, z = ((x1 &&& (2147483647 : Int32)) % (5 : Int32)) := ⟨_, rfl⟩
  have h_l0 := rem_p x1 (5 : Int32) (by decide)
  rw [← e_l0] at h_l0 r257
  have hz6 : (6 : Int32).toInt = 6 := rfl
  have hz5' : (5 : Int32).toInt = 5 := rfl
  have r258 := r257.iload (pc' := 19) at_17 rfl rfl
  obtain ⟨zl, hzl, r259⟩ : ∃ zl : Int32, ((0 ≤ zl.toInt ∧ zl.toInt ≤ 4) ∧ (zn.toInt = 0 → zl.toInt = 0)) ∧ Rch p l e room_1 s m #[(.int x0), (.int x1), (.int x2), (.int x3), (.int x4), (.int x5)] below meth c Z x code maxLocals ret n0 T0 (mkF m 0 #[.val (.int x0), .val (.int x1), .val (.int x2), .val (.int x3), .val (.int x4), .val (.int x5), .unset, .unset, .unset, .unset] []) 0 0 h0 (mkF m 25 #[.val (.int x0), .val (.int x1), .val (.int x2), .val (.int x3), .val (.int x4), .val (.int x5), .val (.int zn), .val (.int zl), .unset, .unset] []) := by
    by_cases hc260 : zn = (0 : Int32)
    · -- yes
      have r261 := r258.ifF (pc' := 22) at_19 (teq hc260).2 rfl
      have r262 := r261.iconst (pc' := 23) (0 : Int32) at_22 rfl rfl
      have r263 := r262.istore (pc' := 25) (L' := #[.val (.int x0), .val (.int x1), .val (.int x2), .val (.int x3), .val (.int x4), .val (.int x5), .val (.int zn), .val (.int (0 : Int32)), .unset, .unset]) at_23 rfl rfl
      exact ⟨_, ⟨by decide, fun _ => by decide⟩, r263⟩
    · -- not no
      have r264 := r258.ifT (pc' := 25) at_19 (feq hc260).2 (by decide) (by decide)
      exact ⟨_, ⟨⟨h_l0.1, by omega⟩, fun q => absurd (Int32.toInt_inj.mp (by rw [q]; rfl)) hc260⟩, r264⟩
  have r265 := r259.iload (pc' := 27) at_25 rfl rfl
  obtain ⟨h1, ea, ke, hea, E1, V1, r1⟩ := r265.newP (pc' := 29) at_27 (hw _ (List.mem_of_getElem? (i := 1) rfl)) (nn hzl.1.1) (cap := 4) (by simp only [Int32.toNatClampNeg]; omega) (by decide) (k' := 1) (n' := 4) rfl rfl (by decide) (by decide) rfl
  have VE : ArI Z h1 ea zl [0, 0, 0, 0] := ArI.new V1 4
  have ge : n0 ≤ ea := hea ▸ Z0
  have zp1 : n0 ≤ h1.size := Nat.le_trans Z0 E1.1
  have r267 := r1.astore (pc' := 31) (L' := #[.val (.int x0), .val (.int x1), .val (.int x2), .val (.int x3), .val (.int x4), .val (.int x5), .val (.int zn), .val (.int zl), .val (.ref ea), .unset]) at_29 rfl rfl rfl
  have r268 := r267.iload (pc' := 33) at_31 rfl rfl
  obtain ⟨v0, g0, fv0, Ve0, zq0, r269⟩ : ∃ (v0 : Int32) (hh : Heap), FitV zn zl 0 v0 ∧ ArI Z hh ea zl [v0, 0, 0, 0] ∧ n0 ≤ hh.size ∧ Rch p l e room_1 s m #[(.int x0), (.int x1), (.int x2), (.int x3), (.int x4), (.int x5)] below meth c Z x code maxLocals ret n0 T0 (mkF m 0 #[.val (.int x0), .val (.int x1), .val (.int x2), .val (.int x3), .val (.int x4), .val (.int x5), .unset, .unset, .unset, .unset] []) 1 4 hh (mkF m 47 #[.val (.int x0), .val (.int x1), .val (.int x2), .val (.int x3), .val (.int x4), .val (.int x5), .val (.int zn), .val (.int zl), .val (.ref ea), .unset] []) := by
    by_cases hc270 : (0 : Int32) < zl
    · -- yes
      have r271 := r268.ifF (pc' := 36) at_33 (tlt hc270).2.2.2 rfl
      have hlt := Int32.lt_iff_toInt_lt.mp hc270
      simp only [Int32.reduceToInt] at hlt
      have hzp : 0 < zn.toInt := by omega
      have r272 := r271.aload (pc' := 38) at_36 rfl rfl rfl
      have r273 := r272.iconst (pc' := 39) (0 : Int32) at_38 rfl rfl
      have r274 := r273.iloadN (pc' := 40) at_39 rfl rfl
      have r275 := r274.ldc (pc' := 42) at_40 (hw _ (List.mem_of_getElem? (i := 0) rfl)) rfl
      have r276 := r275.iand (pc' := 43) at_42 rfl rfl
      have r277 := r276.iload (pc' := 45) at_43 rfl rfl
      have r278 := r277.irem (pc' := 46) at_45 (fun q => by rw [q] at hzp; exact absurd hzp (by decide)) rfl rfl
      obtain ⟨h5, W5, V5, r5⟩ := r278.sI (pc' := 47) at_46 VE (by decide) (lti (by simp only [Int32.reduceToInt]; omega)) (Nat.le_of_ble_eq_true rfl) ge rfl
      exact ⟨_, h5, ⟨fun _ => rem_p _ _ hzp, fun q => absurd (by omega) q⟩, V5, Nat.le_trans zp1 (Nat.le_of_eq W5.size.symm), r5⟩
    · -- not no
      have r279 := r268.ifT (pc' := 47) at_33 (flt hc270).2.2.2 (by decide) (by decide)
      have hge : ¬ (0 : Int) < zl.toInt := fun q => hc270 (lti (by simp only [Int32.reduceToInt]; omega))
      exact ⟨0, h1, ⟨fun q => absurd q hge, fun _ => rfl⟩, VE, zp1, r279⟩
  have r280 := r269.iload (pc' := 49) at_47 rfl rfl
  have r281 := r280.iconst (pc' := 50) (1 : Int32) at_49 rfl rfl
  obtain ⟨v1, g1, fv1, Ve1, zq1, r282⟩ : ∃ (v1 : Int32) (hh : Heap), FitV zn zl 1 v1 ∧ ArI Z hh ea zl [v0, v1, 0, 0] ∧ n0 ≤ hh.size ∧ Rch p l e room_1 s m #[(.int x0), (.int x1), (.int x2), (.int x3), (.int x4), (.int x5)] below meth c Z x code maxLocals ret n0 T0 (mkF m 0 #[.val (.int x0), .val (.int x1), .val (.int x2), .val (.int x3), .val (.int x4), .val (.int x5), .unset, .unset, .unset, .unset] []) 1 4 hh (mkF m 64 #[.val (.int x0), .val (.int x1), .val (.int x2), .val (.int x3), .val (.int x4), .val (.int x5), .val (.int zn), .val (.int zl), .val (.ref ea), .unset] []) := by
    by_cases hc283 : (1 : Int32) < zl
    · -- yes
      have r284 := r281.icF (pc' := 53) at_50 (tlt hc283).2.2.2 rfl
      have hlt := Int32.lt_iff_toInt_lt.mp hc283
      simp only [Int32.reduceToInt] at hlt
      have hzp : 0 < zn.toInt := by omega
      have r285 := r284.aload (pc' := 55) at_53 rfl rfl rfl
      have r286 := r285.iconst (pc' := 56) (1 : Int32) at_55 rfl rfl
      have r287 := r286.iloadN (pc' := 57) at_56 rfl rfl
      have r288 := r287.ldc (pc' := 59) at_57 (hw _ (List.mem_of_getElem? (i := 0) rfl)) rfl
      have r289 := r288.iand (pc' := 60) at_59 rfl rfl
      have r290 := r289.iload (pc' := 62) at_60 rfl rfl
      have r291 := r290.irem (pc' := 63) at_62 (fun q => by rw [q] at hzp; exact absurd hzp (by decide)) rfl rfl
      obtain ⟨h5, W5, V5, r5⟩ := r291.sI (pc' := 64) at_63 Ve0 (by decide) (lti (by simp only [Int32.reduceToInt]; omega)) (Nat.le_of_ble_eq_true rfl) ge rfl
      exact ⟨_, h5, ⟨fun _ => rem_p _ _ hzp, fun q => absurd (by omega) q⟩, V5, Nat.le_trans zq0 (Nat.le_of_eq W5.size.symm), r5⟩
    · -- not no
      have r292 := r281.icT (pc' := 64) at_50 (flt hc283).2.2.2 (by decide) (by decide)
      have hge : ¬ (1 : Int) < zl.toInt := fun q => hc283 (lti (by simp only [Int32.reduceToInt]; omega))
      exact ⟨0, g0, ⟨fun q => absurd q hge, fun _ => rfl⟩, Ve0, zq0, r292⟩
  have r293 := r282.iload (pc' := 66) at_64 rfl rfl
  have r294 := r293.iconst (pc' := 67) (2 : Int32) at_66 rfl rfl
  obtain ⟨v2, g2, fv2, Ve2, zq2, r295⟩ : ∃ (v2 : Int32) (hh : Heap), FitV zn zl 2 v2 ∧ ArI Z hh ea zl [v0, v1, v2, 0] ∧ n0 ≤ hh.size ∧ Rch p l e room_1 s m #[(.int x0), (.int x1), (.int x2), (.int x3), (.int x4), (.int x5)] below meth c Z x code maxLocals ret n0 T0 (mkF m 0 #[.val (.int x0), .val (.int x1), .val (.int x2), .val (.int x3), .val (.int x4), .val (.int x5), .unset, .unset, .unset, .unset] []) 1 4 hh (mkF m 82 #[.val (.int x0), .val (.int x1), .val (.int x2), .val (.int x3), .val (.int x4), .val (.int x5), .val (.int zn), .val (.int zl), .val (.ref ea), .unset] []) := by
    by_cases hc296 : (2 : Int32) < zl
    · -- yes
      have r297 := r294.icF (pc' := 70) at_67 (tlt hc296).2.2.2 rfl
      have hlt := Int32.lt_iff_toInt_lt.mp hc296
      simp only [Int32.reduceToInt] at hlt
      have hzp : 0 < zn.toInt := by omega
      have r298 := r297.aload (pc' := 72) at_70 rfl rfl rfl
      have r299 := r298.iconst (pc' := 73) (2 : Int32) at_72 rfl rfl
      have r300 := r299.iload (pc' := 75) at_73 rfl rfl
      have r301 := r300.ldc (pc' := 77) at_75 (hw _ (List.mem_of_getElem? (i := 0) rfl)) rfl
      have r302 := r301.iand (pc' := 78) at_77 rfl rfl
      have r303 := r302.iload (pc' := 80) at_78 rfl rfl
      have r304 := r303.irem (pc' := 81) at_80 (fun q => by rw [q] at hzp; exact absurd hzp (by decide)) rfl rfl
      obtain ⟨h5, W5, V5, r5⟩ := r304.sI (pc' := 82) at_81 Ve1 (by decide) (lti (by simp only [Int32.reduceToInt]; omega)) (Nat.le_of_ble_eq_true rfl) ge rfl
      exact ⟨_, h5, ⟨fun _ => rem_p _ _ hzp, fun q => absurd (by omega) q⟩, V5, Nat.le_trans zq1 (Nat.le_of_eq W5.size.symm), r5⟩
    · -- not no
      have r305 := r294.icT (pc' := 82) at_67 (flt hc296).2.2.2 (by decide) (by decide)
      have hge : ¬ (2 : Int) < zl.toInt := fun q => hc296 (lti (by simp only [Int32.reduceToInt]; omega))
      exact ⟨0, g1, ⟨fun q => absurd q hge, fun _ => rfl⟩, Ve1, zq1, r305⟩
  have r306 := r295.iload (pc' := 84) at_82 rfl rfl
  have r307 := r306.iconst (pc' := 85) (3 : Int32) at_84 rfl rfl
  obtain ⟨v3, g3, fv3, Ve3, zq3, r308⟩ : ∃ (v3 : Int32) (hh : Heap), FitV zn zl 3 v3 ∧ ArI Z hh ea zl [v0, v1, v2, v3] ∧ n0 ≤ hh.size ∧ Rch p l e room_1 s m #[(.int x0), (.int x1), (.int x2), (.int x3), (.int x4), (.int x5)] below meth c Z x code maxLocals ret n0 T0 (mkF m 0 #[.val (.int x0), .val (.int x1), .val (.int x2), .val (.int x3), .val (.int x4), .val (.int x5), .unset, .unset, .unset, .unset] []) 1 4 hh (mkF m 100 #[.val (.int x0), .val (.int x1), .val (.int x2), .val (.int x3), .val (.int x4), .val (.int x5), .val (.int zn), .val (.int zl), .val (.ref ea), .unset] []) := by
    by_cases hc309 : (3 : Int32) < zl
    · -- yes
      have r310 := r307.icF (pc' := 88) at_85 (tlt hc309).2.2.2 rfl
      have hlt := Int32.lt_iff_toInt_lt.mp hc309
      simp only [Int32.reduceToInt] at hlt
      have hzp : 0 < zn.toInt := by omega
      have r311 := r310.aload (pc' := 90) at_88 rfl rfl rfl
      have r312 := r311.iconst (pc' := 91) (3 : Int32) at_90 rfl rfl
      have r313 := r312.iload (pc' := 93) at_91 rfl rfl
      have r314 := r313.ldc (pc' := 95) at_93 (hw _ (List.mem_of_getElem? (i := 0) rfl)) rfl
      have r315 := r314.iand (pc' := 96) at_95 rfl rfl
      have r316 := r315.iload (pc' := 98) at_96 rfl rfl
      have r317 := r316.irem (pc' := 99) at_98 (fun q => by rw [q] at hzp; exact absurd hzp (by decide)) rfl rfl
      obtain ⟨h5, W5, V5, r5⟩ := r317.sI (pc' := 100) at_99 Ve2 (by decide) (lti (by simp only [Int32.reduceToInt]; omega)) (Nat.le_of_ble_eq_true rfl) ge rfl
      exact ⟨_, h5, ⟨fun _ => rem_p _ _ hzp, fun q => absurd (by omega) q⟩, V5, Nat.le_trans zq2 (Nat.le_of_eq W5.size.symm), r5⟩
    · -- not no
      have r318 := r307.icT (pc' := 100) at_85 (flt hc309).2.2.2 (by decide) (by decide)
      have hge : ¬ (3 : Int) < zl.toInt := fun q => hc309 (lti (by simp only [Int32.reduceToInt]; omega))
      exact ⟨0, g2, ⟨fun q => absurd q hge, fun _ => rfl⟩, Ve2, zq2, r318⟩
  have r319 := r308.aload (pc' := 102) at_100 rfl rfl rfl
  have r320 := r319.iload (pc' := 104) at_102 rfl rfl
  obtain ⟨okk, nk⟩ := plain (by omega : 0 ≤ zn.toInt ∧ zn.toInt ≤ 5) hzl.1 hzl.2 fv0 fv1 fv2 fv3
  obtain ⟨v323, h324, hq322, r321⟩ := r320.callS (pc' := 107) [(.ref ea), (.int zn)] (rest := []) 0 at_104 (hw _ (List.mem_of_getElem? (i := 2) rfl)) (hw _ (List.mem_of_getElem? (i := 3) rfl)) (hw _ (List.mem_of_getElem? (i := 4) rfl)) (hw _ (List.mem_of_getElem? (i := 5) rfl)) (by decide) (c_adj l Z a0 hw ea zl zn [v0, v1, v2, v3] g3 n0 zq3 Ve3 hzl.1 (by omega) okk) pd_2 rfl rfl rfl (Nat.le_of_ble_eq_true rfl) (by decide) (by decide) (k' := 8) (n' := 34) rfl rfl (by decide) (by decide) rfl
  obtain ⟨b, A, rfl, GR, KA⟩ := hq322
  dsimp only [Option.toList, List.cons_append, List.nil_append] at r321
  have VE5 := Ve3.keep KA nin0
  have r325 := r321.astore (pc' := 109) (L' := #[.val (.int x0), .val (.int x1), .val (.int x2), .val (.int x3), .val (.int x4), .val (.int x5), .val (.int zn), .val (.int zl), .val (.ref ea), .val (.ref b)]) at_107 rfl rfl rfl
  have r326 := r325.aload (pc' := 111) at_109 rfl rfl rfl
  have r327 := r326.nullF (pc' := 114) at_111 rfl
  have r328 := r327.aload (pc' := 116) at_114 rfl rfl rfl
  have GR0 := GR
  obtain ⟨kb, vs, VB, FA⟩ := GR0
  have r329 := r328.alen (pc' := 117) at_116 VB rfl
  have r330 := r329.iload (pc' := 119) at_117 rfl rfl
  have r331 := r330.icT (pc' := 124) at_119 (teq (rfl : zn = zn)).1 (by decide) (by decide)
  have r332 := r331.aload (pc' := 126) at_124 rfl rfl rfl
  have r333 := r332.aload (pc' := 128) at_126 rfl rfl rfl
  have r334 := r333.iconst (pc' := 129) (0 : Int32) at_128 rfl rfl
  obtain ⟨v337, h338, hq336, r335⟩ := r334.callS (pc' := 132) [(.ref b), (.ref ea), (.int (0 : Int32))] (rest := []) 0 at_129 (hw _ (List.mem_of_getElem? (i := 8) rfl)) (hw _ (List.mem_of_getElem? (i := 9) rfl)) (hw _ (List.mem_of_getElem? (i := 10) rfl)) (hw _ (List.mem_of_getElem? (i := 11) rfl)) (by decide) (c_nk l Z a0 hw b ea (0 : Int32) zn zl A (cN zn [v0, v1, v2, v3] (nz zl)) [v0, v1, v2, v3] (gN zn [v0, v1, v2, v3] (nz zl)) h324 n0 GR VE5 (by decide)) pd_5 rfl rfl rfl (Nat.le_of_ble_eq_true rfl) (by decide) (by decide) (k' := 8) (n' := 34) rfl rfl (by decide) (by decide) rfl
  obtain ⟨rfl, rfl⟩ := hq336
  dsimp only [Option.toList, List.cons_append, List.nil_append] at r335
  have r339 := r335.ifF (pc' := 135) at_132 (feq (by rw [show nkF zn (cN zn [v0, v1, v2, v3] (nz zl)) (gN zn [v0, v1, v2, v3] (nz zl)) zl [v0, v1, v2, v3] (0 : Int32) = 1 from nk 0 (by decide)]; decide)).1 rfl
  have r340 := r339.aload (pc' := 137) at_135 rfl rfl rfl
  have r341 := r340.aload (pc' := 139) at_137 rfl rfl rfl
  have r342 := r341.iconst (pc' := 140) (1 : Int32) at_139 rfl rfl
  obtain ⟨v345, h346, hq344, r343⟩ := r342.callS (pc' := 143) [(.ref b), (.ref ea), (.int (1 : Int32))] (rest := []) 0 at_140 (hw _ (List.mem_of_getElem? (i := 8) rfl)) (hw _ (List.mem_of_getElem? (i := 9) rfl)) (hw _ (List.mem_of_getElem? (i := 10) rfl)) (hw _ (List.mem_of_getElem? (i := 11) rfl)) (by decide) (c_nk l Z a0 hw b ea (1 : Int32) zn zl A (cN zn [v0, v1, v2, v3] (nz zl)) [v0, v1, v2, v3] (gN zn [v0, v1, v2, v3] (nz zl)) h324 n0 GR VE5 (by decide)) pd_5 rfl rfl rfl (Nat.le_of_ble_eq_true rfl) (by decide) (by decide) (k' := 8) (n' := 34) rfl rfl (by decide) (by decide) rfl
  obtain ⟨rfl, rfl⟩ := hq344
  dsimp only [Option.toList, List.cons_append, List.nil_append] at r343
  have r347 := r343.ifF (pc' := 146) at_143 (feq (by rw [show nkF zn (cN zn [v0, v1, v2, v3] (nz zl)) (gN zn [v0, v1, v2, v3] (nz zl)) zl [v0, v1, v2, v3] (1 : Int32) = 1 from nk 1 (by decide)]; decide)).1 rfl
  have r348 := r347.aload (pc' := 148) at_146 rfl rfl rfl
  have r349 := r348.aload (pc' := 150) at_148 rfl rfl rfl
  have r350 := r349.iconst (pc' := 151) (2 : Int32) at_150 rfl rfl
  obtain ⟨v353, h354, hq352, r351⟩ := r350.callS (pc' := 154) [(.ref b), (.ref ea), (.int (2 : Int32))] (rest := []) 0 at_151 (hw _ (List.mem_of_getElem? (i := 8) rfl)) (hw _ (List.mem_of_getElem? (i := 9) rfl)) (hw _ (List.mem_of_getElem? (i := 10) rfl)) (hw _ (List.mem_of_getElem? (i := 11) rfl)) (by decide) (c_nk l Z a0 hw b ea (2 : Int32) zn zl A (cN zn [v0, v1, v2, v3] (nz zl)) [v0, v1, v2, v3] (gN zn [v0, v1, v2, v3] (nz zl)) h324 n0 GR VE5 (by decide)) pd_5 rfl rfl rfl (Nat.le_of_ble_eq_true rfl) (by decide) (by decide) (k' := 8) (n' := 34) rfl rfl (by decide) (by decide) rfl
  obtain ⟨rfl, rfl⟩ := hq352
  dsimp only [Option.toList, List.cons_append, List.nil_append] at r351
  have r355 := r351.ifF (pc' := 157) at_154 (feq (by rw [show nkF zn (cN zn [v0, v1, v2, v3] (nz zl)) (gN zn [v0, v1, v2, v3] (nz zl)) zl [v0, v1, v2, v3] (2 : Int32) = 1 from nk 2 (by decide)]; decide)).1 rfl
  have r356 := r355.aload (pc' := 159) at_157 rfl rfl rfl
  have r357 := r356.aload (pc' := 161) at_159 rfl rfl rfl
  have r358 := r357.iconst (pc' := 162) (3 : Int32) at_161 rfl rfl
  obtain ⟨v361, h362, hq360, r359⟩ := r358.callS (pc' := 165) [(.ref b), (.ref ea), (.int (3 : Int32))] (rest := []) 0 at_162 (hw _ (List.mem_of_getElem? (i := 8) rfl)) (hw _ (List.mem_of_getElem? (i := 9) rfl)) (hw _ (List.mem_of_getElem? (i := 10) rfl)) (hw _ (List.mem_of_getElem? (i := 11) rfl)) (by decide) (c_nk l Z a0 hw b ea (3 : Int32) zn zl A (cN zn [v0, v1, v2, v3] (nz zl)) [v0, v1, v2, v3] (gN zn [v0, v1, v2, v3] (nz zl)) h324 n0 GR VE5 (by decide)) pd_5 rfl rfl rfl (Nat.le_of_ble_eq_true rfl) (by decide) (by decide) (k' := 8) (n' := 34) rfl rfl (by decide) (by decide) rfl
  obtain ⟨rfl, rfl⟩ := hq360
  dsimp only [Option.toList, List.cons_append, List.nil_append] at r359
  have r363 := r359.ifF (pc' := 168) at_165 (feq (by rw [show nkF zn (cN zn [v0, v1, v2, v3] (nz zl)) (gN zn [v0, v1, v2, v3] (nz zl)) zl [v0, v1, v2, v3] (3 : Int32) = 1 from nk 3 (by decide)]; decide)).1 rfl
  have r364 := r363.aload (pc' := 170) at_168 rfl rfl rfl
  have r365 := r364.aload (pc' := 172) at_170 rfl rfl rfl
  have r366 := r365.iconst (pc' := 173) (4 : Int32) at_172 rfl rfl
  obtain ⟨v369, h370, hq368, r367⟩ := r366.callS (pc' := 176) [(.ref b), (.ref ea), (.int (4 : Int32))] (rest := []) 0 at_173 (hw _ (List.mem_of_getElem? (i := 8) rfl)) (hw _ (List.mem_of_getElem? (i := 9) rfl)) (hw _ (List.mem_of_getElem? (i := 10) rfl)) (hw _ (List.mem_of_getElem? (i := 11) rfl)) (by decide) (c_nk l Z a0 hw b ea (4 : Int32) zn zl A (cN zn [v0, v1, v2, v3] (nz zl)) [v0, v1, v2, v3] (gN zn [v0, v1, v2, v3] (nz zl)) h324 n0 GR VE5 (by decide)) pd_5 rfl rfl rfl (Nat.le_of_ble_eq_true rfl) (by decide) (by decide) (k' := 8) (n' := 34) rfl rfl (by decide) (by decide) rfl
  obtain ⟨rfl, rfl⟩ := hq368
  dsimp only [Option.toList, List.cons_append, List.nil_append] at r367
  have r371 := r367.ifF (pc' := 179) at_176 (feq (by rw [show nkF zn (cN zn [v0, v1, v2, v3] (nz zl)) (gN zn [v0, v1, v2, v3] (nz zl)) zl [v0, v1, v2, v3] (4 : Int32) = 1 from nk 4 (by decide)]; decide)).1 rfl
  have r372 := r371.iconst (pc' := 180) (1 : Int32) at_179 rfl rfl
  have r373 := r372.goto (pc' := 184) at_180 (by decide) (by decide)
  exact ⟨_, _, r373.retZ at_184 rfl (t := .boolean) (by simp) (1 : Int32) rfl (by decide) (by decide), rfl⟩
set_option maxRecDepth 65536 in
set_option maxHeartbeats 40000000 in
theorem comes_1 {Post : Tables → Env → Array Value → State → Outcome → State → Prop} (hpost : ∀ tb e args s v u, (limb_1_1.after args s (.returned v) u = true ∧ limb_1_2.after args s (.returned v) u = true ∧ True) → FrameEnd s (.returned v) u (Jvm.fieldLocs frame_1_writes args s ++ Jvm.arrayLocs frame_1_arrays args s ++ Jvm.staticLocs frame_1_statics s) 24 128 → Post tb e args s (.returned v) u) :
    ArmFor flags0 classFile x code maxLocals ret World_1 tables_1 room_1 Calls_1 rest_1 Pre_1 Post := by
  intro l hfl _ _ p e ha hc hk s m args below hf hA hF happ hP
  obtain ⟨hcalls, hrest, hpre⟩ := hP
  obtain ⟨-, -, -, hnamed, -, -, -, hat⟩ := (Spec.applies_iff hf).mp happ
  obtain ⟨hg, hn⟩ := and_e (Cond.before_iff.mp (show (Jvm.Cond.and given_1 narrow_1).before args s = true from hpre))
  obtain ⟨gg1, gg2⟩ := and_e hg
  obtain ⟨gg3, gg4⟩ := and_e gg2
  obtain ⟨gg5, gg6⟩ := and_e gg4
  obtain ⟨gg7, gg8⟩ := and_e gg6
  obtain ⟨gg9, gg10⟩ := and_e gg8
  obtain ⟨gg11, gg12⟩ := and_e gg10
  obtain ⟨w0, w1, w2, w3, w4, w5, rfl⟩ : ∃ w0 w1 w2 w3 w4 w5 : Value, args = #[w0, w1, w2, w3, w4, w5] := by
    have hs : args.size = 6 := by simpa [Cond.value, given_1] using gg1
    obtain ⟨L⟩ := args
    match L, hs with
    | [w0, w1, w2, w3, w4, w5], _ => exact ⟨w0, w1, w2, w3, w4, w5, rfl⟩
  have hw := fun d (hd : d ∈ tables_1) => atoms_spec (ws := Jvm.Cond.code x code maxLocals ret :: tables_1) hat d (List.mem_cons_of_mem _ hd)
  obtain ⟨i0, ei0⟩ := is_v gg3
  obtain rfl : w0 = (.int i0) := Option.some.inj ei0
  obtain ⟨i1, ei1⟩ := is_v gg5
  obtain rfl : w1 = (.int i1) := Option.some.inj ei1
  obtain ⟨i2, ei2⟩ := is_v gg7
  obtain rfl : w2 = (.int i2) := Option.some.inj ei2
  obtain ⟨i3, ei3⟩ := is_v gg9
  obtain rfl : w3 = (.int i3) := Option.some.inj ei3
  obtain ⟨i4, ei4⟩ := is_v gg11
  obtain rfl : w4 = (.int i4) := Option.some.inj ei4
  obtain ⟨i5, ei5⟩ := is_v gg12
  obtain rfl : w5 = (.int i5) := Option.some.inj ei5
  obtain ⟨n, o, h1, h2, h3, _, L, rfl, ⟨N, rfl⟩, hq⟩ := law l s _ hw i0 i1 i2 i3 i4 i5 s.heap s.heap.size (Nat.le_refl _) tables_1 p e ha hc hk s m _ below hf ((Spec.applies_iff_loose hf).mp happ).1 ⟨rfl, State.Warmed39.refl s, rfl⟩ trivial
  refine ⟨n, _, h1, h2, h3, hpost _ _ _ _ _ _ ⟨Cond.after_iff.mpr rfl, Cond.after_iff.mpr (eq_i res_at (Term.int_eval (1)) rfl), trivial⟩ ⟨hq.1, hq.2.1, (hq.2.2.sift fun y hy => Or.inr (N y hy)).mono (by decide) (by decide)⟩⟩
theorem main_1_1 : Claimed_1_1 := comes_1 fun _ _ _ _ _ _ h hF => ⟨h.1, hF⟩
theorem main_1_2 : Claimed_1_2 := comes_1 fun _ _ _ _ _ _ h hF => ⟨h.2.1, hF⟩

end Jvm.Pilot.@@N@@
namespace Jvm.Pilot.@@N@@
open Jvm Jvm.ClassFile Sem Op Lib Jvm.Free Jvm.Stand Jvm.Pilot.@@N@@.Jvm.D
/-! MADE BY PROGRAM (witnessworld.py) out of the Statement's table words and the real class files: 9 classes; the members and pool entries that the words name. The judged class is class 1, her method 1. -/
namespace start1
open Jvm.ClassFile
def u (s : String) : CpInfo := .utf8 (stringToUtf16 s)
/-- a pool by its gaps: so many unusable entries, then the entry; so many at the end -/
def gap : Nat → List CpInfo → List CpInfo
  | 0, r => r
  | n + 1, r => .unusable :: gap n r
def poolList (es : List (Nat × CpInfo)) (last : Nat) : List CpInfo := es.foldr (fun e r => gap e.1 (e.2 :: r)) (gap last [])
def pool (es : List (Nat × CpInfo)) (last : Nat) : Array CpInfo := ⟨poolList es last⟩
def fileOf (pool : Array CpInfo) (this : Nat) (attrs : Array Attribute := #[]) (ms : Array MethodInfo := #[]) (fl : Nat := 33) (sup : Nat := 0) (ifs : Array Nat := #[]) (fds : Array FieldInfo := #[]) : ClassFile where
  minorVersion := 0
  majorVersion := 65
  constantPool := pool
  accessFlags := fl
  thisClass := this
  superClass := sup
  interfaces := ifs
  fields := fds
  methods := ms
  attributes := attrs
def plain (name : String) (sup : Option ClassId) : Class where
  name := name
  kind := .ordinary
  loader := none
  accessFlags := 33
  super := sup
  interfaces := #[]
  cf := none
  fields := #[]
  methods := #[]
  instanceTypes := #[]
  staticTypes := #[]
  resolved := #[]
  callSites := []
  init := .initialized
  statics := none
  mirror := none

def pool0 : Array CpInfo := pool [(5, u "<init>"), (0, u "()V"), (1, .class_ 10), (1, u "java/lang/Object")] 113

def k0m0 : Method := { name := "<init>", desc := "()V", sig := { parameters := [], returnType := none }, accessFlags := 1, code := none }
/-- java/lang/Object -/
def k0 : Class := { plain "java/lang/Object" none with
  accessFlags := 33
  interfaces := #[]
  cf := some (fileOf pool0 8 #[] #[{ accessFlags := 1, nameIndex := 5, descriptorIndex := 6, attributes := #[] }] 33 0 #[] #[])
  fields := #[]
  methods := #[k0m0]
  instanceTypes := #[]
  staticTypes := #[]
  resolved := Array.replicate 124 none
  statics := none }

def pool1 : Array CpInfo := pool [(2, .class_ 4), (1, u "java/lang/Object"), (0, u "<init>"), (0, u "()V"), (0, .integer 2147483647), (0, .methodref 9 10), (0, .class_ 11), (0, .nameAndType 12 13), (0, u "com/example/hailstream/hailstream/RoadMap"), (0, u "adjacency"), (0, u "([II)[[I"), (0, .methodref 15 16), (0, .class_ 17), (0, .nameAndType 18 19), (0, u "com/example/hailstream/hailstream/RoadMapAdjacencyPinLaw"), (0, u "nodeOk"), (0, u "([[I[II)Z"), (0, .methodref 15 21), (0, .nameAndType 22 23), (0, u "at"), (0, u "([III)I"), (0, .methodref 15 25), (0, .nameAndType 26 27), (0, u "count"), (0, u "([II)I"), (0, .methodref 15 29), (0, .nameAndType 30 31), (0, u "entryOk"), (0, u "([I[III)Z"), (2, u "law"), (0, u "(IIIIII)Z")] 7

def k1m0 : Method := { name := "<init>", desc := "()V", sig := { parameters := [], returnType := none }, accessFlags := 1, code := none }
def k1c1 : Code := { maxStack := 4, maxLocals := 10, code := code, exceptionTable := #[], attributes := #[] }
def k1m1 : Method := { name := "law", desc := "(IIIIII)Z", sig := { parameters := [.int, .int, .int, .int, .int, .int], returnType := some .boolean }, accessFlags := 9, code := some k1c1 }
def k1c2 : Code := { maxStack := 2, maxLocals := 3, code := method_3_code, exceptionTable := #[], attributes := #[] }
def k1m2 : Method := { name := "at", desc := "([III)I", sig := { parameters := [(.array .int), .int, .int], returnType := some .int }, accessFlags := 10, code := some k1c2 }
def k1c3 : Code := { maxStack := 4, maxLocals := 2, code := method_4_code, exceptionTable := #[], attributes := #[] }
def k1m3 : Method := { name := "count", desc := "([II)I", sig := { parameters := [(.array .int), .int], returnType := some .int }, accessFlags := 10, code := some k1c3 }
def k1c4 : Code := { maxStack := 3, maxLocals := 5, code := method_5_code, exceptionTable := #[], attributes := #[] }
def k1m4 : Method := { name := "entryOk", desc := "([I[III)Z", sig := { parameters := [(.array .int), (.array .int), .int, .int], returnType := some .boolean }, accessFlags := 10, code := some k1c4 }
def k1c5 : Code := { maxStack := 4, maxLocals := 4, code := method_6_code, exceptionTable := #[], attributes := #[] }
def k1m5 : Method := { name := "nodeOk", desc := "([[I[II)Z", sig := { parameters := [(.array (.array .int)), (.array .int), .int], returnType := some .boolean }, accessFlags := 10, code := some k1c5 }
/-- com/example/hailstream/hailstream/RoadMapAdjacencyPinLaw -/
def k1 : Class := { plain "com/example/hailstream/hailstream/RoadMapAdjacencyPinLaw" (some 0) with
  accessFlags := 49
  interfaces := #[]
  cf := some (fileOf pool1 15 #[] #[{ accessFlags := 1, nameIndex := 5, descriptorIndex := 6, attributes := #[] }, { accessFlags := 9, nameIndex := 34, descriptorIndex := 35, attributes := #[] }, { accessFlags := 10, nameIndex := 22, descriptorIndex := 23, attributes := #[] }, { accessFlags := 10, nameIndex := 26, descriptorIndex := 27, attributes := #[] }, { accessFlags := 10, nameIndex := 30, descriptorIndex := 31, attributes := #[] }, { accessFlags := 10, nameIndex := 18, descriptorIndex := 19, attributes := #[] }] 49 2 #[] #[])
  fields := #[]
  methods := #[k1m0, k1m1, k1m2, k1m3, k1m4, k1m5]
  instanceTypes := #[]
  staticTypes := #[]
  resolved := Array.replicate 43 none
  statics := none }

def pool2 : Array CpInfo := pool [(2, .class_ 4), (1, u "java/lang/Object"), (3, .class_ 10), (1, u "com/example/hailstream/hailstream/RoadMap"), (0, u "nodeIds"), (0, u "[J"), (2, u "latitudes"), (0, u "[D"), (2, u "longitudes"), (8, u "segmentStarts"), (0, u "[I"), (2, u "segmentEnds"), (2, u "segmentTimes"), (4, .class_ 29), (2, u "adjacency"), (0, u "([II)[[I"), (2, u "segmentsOut"), (0, u "[[I"), (2, u "segmentsIn"), (17, u "minLatitude"), (0, u "D"), (2, u "maxLatitude"), (2, u "minLongitude"), (2, u "maxLongitude"), (50, .class_ 131), (0, u "com/example/hailstream/hailstream/RoadMap$Builder"), (0, .class_ 133), (0, u "com/example/hailstream/hailstream/RoadMap$Builder$Road"), (0, .class_ 135), (0, u "com/example/hailstream/hailstream/RoadMap$Builder$Direction")] 4

def k2c0 : Code := { maxStack := 6, maxLocals := 7, code := prog_29_method_2_code, exceptionTable := #[], attributes := #[] }
def k2m0 : Method := { name := "adjacency", desc := "([II)[[I", sig := { parameters := [(.array .int), .int], returnType := some (.array (.array .int)) }, accessFlags := 8, code := some k2c0 }
/-- com/example/hailstream/hailstream/RoadMap -/
def k2 : Class := { plain "com/example/hailstream/hailstream/RoadMap" (some 0) with
  accessFlags := 48
  interfaces := #[]
  cf := some (fileOf pool2 8 #[.nestMembers #[130, 132, 134]] #[{ accessFlags := 8, nameIndex := 43, descriptorIndex := 44, attributes := #[] }] 48 2 #[] #[{ accessFlags := 18, nameIndex := 11, descriptorIndex := 12, attributes := #[] }, { accessFlags := 18, nameIndex := 15, descriptorIndex := 16, attributes := #[] }, { accessFlags := 18, nameIndex := 19, descriptorIndex := 16, attributes := #[] }, { accessFlags := 18, nameIndex := 28, descriptorIndex := 29, attributes := #[] }, { accessFlags := 18, nameIndex := 32, descriptorIndex := 29, attributes := #[] }, { accessFlags := 18, nameIndex := 35, descriptorIndex := 29, attributes := #[] }, { accessFlags := 18, nameIndex := 47, descriptorIndex := 48, attributes := #[] }, { accessFlags := 18, nameIndex := 51, descriptorIndex := 48, attributes := #[] }, { accessFlags := 18, nameIndex := 69, descriptorIndex := 70, attributes := #[] }, { accessFlags := 18, nameIndex := 73, descriptorIndex := 70, attributes := #[] }, { accessFlags := 18, nameIndex := 76, descriptorIndex := 70, attributes := #[] }, { accessFlags := 18, nameIndex := 79, descriptorIndex := 70, attributes := #[] }])
  fields := #[{ name := "nodeIds", type := (.array .long), accessFlags := 18, slot := 0, constantValue := 0 }, { name := "latitudes", type := (.array .double), accessFlags := 18, slot := 1, constantValue := 0 }, { name := "longitudes", type := (.array .double), accessFlags := 18, slot := 2, constantValue := 0 }, { name := "segmentStarts", type := (.array .int), accessFlags := 18, slot := 3, constantValue := 0 }, { name := "segmentEnds", type := (.array .int), accessFlags := 18, slot := 4, constantValue := 0 }, { name := "segmentTimes", type := (.array .int), accessFlags := 18, slot := 5, constantValue := 0 }, { name := "segmentsOut", type := (.array (.array .int)), accessFlags := 18, slot := 6, constantValue := 0 }, { name := "segmentsIn", type := (.array (.array .int)), accessFlags := 18, slot := 7, constantValue := 0 }, { name := "minLatitude", type := .double, accessFlags := 18, slot := 8, constantValue := 0 }, { name := "maxLatitude", type := .double, accessFlags := 18, slot := 9, constantValue := 0 }, { name := "minLongitude", type := .double, accessFlags := 18, slot := 10, constantValue := 0 }, { name := "maxLongitude", type := .double, accessFlags := 18, slot := 11, constantValue := 0 }]
  methods := #[k2m0]
  instanceTypes := #[(.array .long), (.array .double), (.array .double), (.array .int), (.array .int), (.array .int), (.array (.array .int)), (.array (.array .int)), .double, .double, .double, .double]
  staticTypes := #[]
  resolved := Array.replicate 140 none
  statics := none }

def pool3 : Array CpInfo := pool [(1, u "java/lang/Cloneable"), (0, .class_ 1), (0, u "java/lang/Object"), (0, .class_ 3)] 3

/-- java/lang/Cloneable -/
def k3 : Class := { plain "java/lang/Cloneable" (some 0) with
  accessFlags := 1537
  interfaces := #[]
  cf := some (fileOf pool3 2 #[] #[] 1537 4 #[] #[])
  fields := #[]
  methods := #[]
  instanceTypes := #[]
  staticTypes := #[]
  resolved := Array.replicate 8 none
  statics := none }

def pool4 : Array CpInfo := pool [(1, u "java/io/Serializable"), (0, .class_ 1), (0, u "java/lang/Object"), (0, .class_ 3)] 3

/-- java/io/Serializable -/
def k4 : Class := { plain "java/io/Serializable" (some 0) with
  accessFlags := 1537
  interfaces := #[]
  cf := some (fileOf pool4 2 #[] #[] 1537 4 #[] #[])
  fields := #[]
  methods := #[]
  instanceTypes := #[]
  staticTypes := #[]
  resolved := Array.replicate 8 none
  statics := none }

/-- the primitive byte -/
def k5 : Class := { plain "byte" none with kind := .primitive 'B', accessFlags := 0x411 }
/-- [B -/
def k6 : Class := { plain "[B" (some 0) with kind := .array 5 .byte, interfaces := #[3, 4], accessFlags := 1041 }

/-- the primitive int -/
def k7 : Class := { plain "int" none with kind := .primitive 'I', accessFlags := 0x411 }
/-- [I -/
def k8 : Class := { plain "[I" (some 0) with kind := .array 7 .int, interfaces := #[3, 4], accessFlags := 1041 }

/-- [[I -/
def k9 : Class := { plain "[[I" (some 0) with kind := .array 8 (.array .int), interfaces := #[3, 4], accessFlags := 1041 }
def heap : Heap := #[]
def classes : Array Class := #[k0, k1, k2, k3, k4, k5, k6, k7, k8, k9]
def interned : List (Array UInt16 × Addr) := []
def slotsUsed : Nat := 0
def theMethod : MethodId := ⟨1, 1⟩
def args0 : Array Value := #[.int 3, .int 2, .int 1, .int 4, .int 5, .int 6]
def aboutOver (below : List Frame) : State where
  vm := { classes := classes, interned := interned.toArray }
  heap := heap
  slotsUsed := slotsUsed
  threads := #[{ frames := .invoking theMethod args0 :: below }]
def below0 : List Frame := [.native { method := ⟨0, 0⟩, args := #[] }]
def about1 : State := aboutOver below0
def p0 : Program := .bare "" "" ""
def e0 : Env := launch0.env 0 0 0
theorem w_frames : about1.frames = Frame.invoking theMethod args0 :: below0 := rfl
set_option maxRecDepth 65536 in
theorem w_args : argsFit about1.vm theMethod args0 = true := by decide +kernel
set_option maxRecDepth 65536 in
theorem w_heap : heapFits about1 = true := by decide +kernel
set_option maxRecDepth 65536 in
theorem w_runnable : about1.curStatus? = some .runnable := by decide +kernel
set_option maxRecDepth 65536 in
theorem w_alone : about1.alone = true := by decide +kernel
set_option maxRecDepth 65536 in
theorem w_named : about1.methodNamed? x = some theMethod := by decide +kernel
set_option maxRecDepth 65536 in
theorem w_hears : about1.hears theMethod below0 = true := by decide +kernel
set_option maxRecDepth 65536 in
theorem w_ripe : about1.ripe theMethod args0 below0 = true := by decide +kernel
theorem w_running : about1.status = .running := rfl
set_option maxRecDepth 65536 in
theorem w_room : about1.hasRoom e0.platform room_1 = true :=
  launch0.hasRoom_least _ room_1 (by decide +kernel) (by decide +kernel) (by decide +kernel) (by decide +kernel) (by decide +kernel) (by decide +kernel)
theorem allAtoms_all (ts : List Jvm.Cond) (a : Array Jvm.Value) (st : Jvm.State) : (allAtoms ts).before a st = ts.all (fun c => c.before a st) := by
  induction ts with
  | nil => rfl
  | cons c t ih =>
    show (Jvm.Cond.and c (allAtoms t)).before a st = _
    rw [Jvm.Cond.before_and, ih, List.all_cons]
def words1 : List Jvm.Cond := Jvm.Cond.code x code maxLocals ret :: tables_1
/-- a 'code' word, met by the world's own term for the bytes: nothing is compared byte by byte -/
theorem code_word {y : MethodName} {bytes : ByteArray} {mx : Nat} {rt : Option FieldType} {a : Array Value} {s : State} {m : MethodId} {meth : Method} {c : Code} (h1 : s.methodNamed? y = some m) (h2 : s.vm.method? m = some meth) (h3 : meth.code = some c) (h4 : c.code = bytes)
    (h5 : (c.maxLocals == mx && c.exceptionTable.isEmpty && decide (c.maxStack ≤ mostOperands) && decide (meth.sig.returnType = rt) && !meth.locks && decide (parseMethodDescriptor y.desc = some meth.sig)) = true) : (Jvm.Cond.code y bytes mx rt).before a s = true := by
  simp only [Bool.and_eq_true, beq_iff_eq, Bool.not_eq_true', decide_eq_true_eq] at h5
  obtain ⟨⟨⟨⟨⟨g1, g2⟩, g3⟩, g4⟩, g5⟩, g6⟩ := h5
  simp [Cond.before, Cond.holds, Cond.value, h1, h2, h3, h4, g1, g2, g3, g4, g5, g6]
def isCode : Jvm.Cond → Bool
  | .code _ _ _ _ => true
  | _ => false
theorem all_split {L : List Jvm.Cond} {P : Jvm.Cond → Bool} (h1 : L.all (fun c => isCode c || P c) = true) (h2 : ∀ c ∈ L.filter isCode, P c = true) : L.all P = true := by
  refine List.all_eq_true.mpr fun c hc => ?_
  have h := List.all_eq_true.mp h1 c hc
  rcases Bool.eq_false_or_eq_true (isCode c) with hi | hi
  · exact h2 c (List.mem_filter.mpr ⟨hc, hi⟩)
  · simpa [hi] using h
set_option maxRecDepth 65536 in
theorem w_c0 : (Jvm.Cond.code x code maxLocals ret).before args0 about1 = true := code_word (m := ⟨1, 1⟩) (meth := k1m1) (c := k1c1) (by decide +kernel) rfl rfl rfl (by decide +kernel)
set_option maxRecDepth 65536 in
theorem w_c1 : (Jvm.Cond.code ({ cls := "com/example/hailstream/hailstream/RoadMap", name := "adjacency", desc := "([II)[[I" } : Jvm.MethodName) prog_29_method_2_code (7 : Nat) (Option.some (Jvm.ClassFile.FieldType.array (Jvm.ClassFile.FieldType.array Jvm.ClassFile.FieldType.int)))).before args0 about1 = true := code_word (m := ⟨2, 0⟩) (meth := k2m0) (c := k2c0) (by decide +kernel) rfl rfl rfl (by decide +kernel)
set_option maxRecDepth 65536 in
theorem w_c2 : (Jvm.Cond.code ({ cls := "com/example/hailstream/hailstream/RoadMapAdjacencyPinLaw", name := "nodeOk", desc := "([[I[II)Z" } : Jvm.MethodName) method_6_code (4 : Nat) (Option.some Jvm.ClassFile.FieldType.boolean)).before args0 about1 = true := code_word (m := ⟨1, 5⟩) (meth := k1m5) (c := k1c5) (by decide +kernel) rfl rfl rfl (by decide +kernel)
set_option maxRecDepth 65536 in
theorem w_c3 : (Jvm.Cond.code ({ cls := "com/example/hailstream/hailstream/RoadMapAdjacencyPinLaw", name := "count", desc := "([II)I" } : Jvm.MethodName) method_4_code (2 : Nat) (Option.some Jvm.ClassFile.FieldType.int)).before args0 about1 = true := code_word (m := ⟨1, 3⟩) (meth := k1m3) (c := k1c3) (by decide +kernel) rfl rfl rfl (by decide +kernel)
set_option maxRecDepth 65536 in
theorem w_c4 : (Jvm.Cond.code ({ cls := "com/example/hailstream/hailstream/RoadMapAdjacencyPinLaw", name := "at", desc := "([III)I" } : Jvm.MethodName) method_3_code (3 : Nat) (Option.some Jvm.ClassFile.FieldType.int)).before args0 about1 = true := code_word (m := ⟨1, 2⟩) (meth := k1m2) (c := k1c2) (by decide +kernel) rfl rfl rfl (by decide +kernel)
set_option maxRecDepth 65536 in
theorem w_c5 : (Jvm.Cond.code ({ cls := "com/example/hailstream/hailstream/RoadMapAdjacencyPinLaw", name := "entryOk", desc := "([I[III)Z" } : Jvm.MethodName) method_5_code (5 : Nat) (Option.some Jvm.ClassFile.FieldType.boolean)).before args0 about1 = true := code_word (m := ⟨1, 4⟩) (meth := k1m4) (c := k1c4) (by decide +kernel) rfl rfl rfl (by decide +kernel)
def codes1 : List Jvm.Cond := [Jvm.Cond.code x code maxLocals ret, Jvm.Cond.code ({ cls := "com/example/hailstream/hailstream/RoadMap", name := "adjacency", desc := "([II)[[I" } : Jvm.MethodName) prog_29_method_2_code (7 : Nat) (Option.some (Jvm.ClassFile.FieldType.array (Jvm.ClassFile.FieldType.array Jvm.ClassFile.FieldType.int))), Jvm.Cond.code ({ cls := "com/example/hailstream/hailstream/RoadMapAdjacencyPinLaw", name := "nodeOk", desc := "([[I[II)Z" } : Jvm.MethodName) method_6_code (4 : Nat) (Option.some Jvm.ClassFile.FieldType.boolean), Jvm.Cond.code ({ cls := "com/example/hailstream/hailstream/RoadMapAdjacencyPinLaw", name := "count", desc := "([II)I" } : Jvm.MethodName) method_4_code (2 : Nat) (Option.some Jvm.ClassFile.FieldType.int), Jvm.Cond.code ({ cls := "com/example/hailstream/hailstream/RoadMapAdjacencyPinLaw", name := "at", desc := "([III)I" } : Jvm.MethodName) method_3_code (3 : Nat) (Option.some Jvm.ClassFile.FieldType.int), Jvm.Cond.code ({ cls := "com/example/hailstream/hailstream/RoadMapAdjacencyPinLaw", name := "entryOk", desc := "([I[III)Z" } : Jvm.MethodName) method_5_code (5 : Nat) (Option.some Jvm.ClassFile.FieldType.boolean)]
set_option maxRecDepth 65536 in
theorem codes_eq : words1.filter isCode = codes1 := rfl
theorem w_codes : ∀ c ∈ words1.filter isCode, c.before args0 about1 = true := by
  rw [codes_eq]
  intro c hc
  simp only [codes1, List.mem_cons, List.not_mem_nil, or_false] at hc
  rcases hc with rfl | rfl | rfl | rfl | rfl | rfl
  · exact w_c0
  · exact w_c1
  · exact w_c2
  · exact w_c3
  · exact w_c4
  · exact w_c5
set_option maxRecDepth 65536 in
theorem w_t1 : words1.all (fun c => isCode c || c.before args0 about1) = true := by decide +kernel
theorem w_tables : (allAtoms (Jvm.Cond.code x code maxLocals ret :: tables_1)).before args0 about1 = true := by
  rw [allAtoms_all]
  show words1.all (fun c => c.before args0 about1) = true
  refine all_split ?_ w_codes
  rw [w_t1]
set_option maxRecDepth 65536 in
theorem w_case : (Jvm.Cond.and given_1 narrow_1).before args0 about1 = true := by decide +kernel
theorem w_applies : (headSpec (Jvm.Cond.code x code maxLocals ret :: tables_1) room_1).applies x e0.platform about1 = true :=
  (Spec.applies_iff w_frames).mpr ⟨w_running, w_runnable, w_alone, w_named, w_hears, w_ripe, w_room, w_tables⟩
theorem atStart : AtStart classFile x code maxLocals ret World_1 tables_1 room_1 Calls_1 rest_1 Pre_1 launch0 p0 e0 about1 theMethod args0 below0 :=
  ⟨lists_1, trivial, launch0.admits_env _ _ _, launch0.least_env, fairChoices_fair.cas, fairChoices_fair.clock, w_frames, w_args, w_heap, w_applies, trivial, trivial, w_case⟩
end start1
theorem witness_1 : WitnessClaimed_1 := ⟨start1.p0, start1.e0, start1.about1, start1.theMethod, start1.args0, start1.below0, start1.atStart⟩
end Jvm.Pilot.@@N@@
