import JvmDerived
import JvmDerived.Pilot.@@N@@Statement
import JvmDerived.Pilot.@@N@@Code
set_option linter.unusedVariables false
set_option linter.unusedSimpArgs false
namespace Jvm.Pilot.@@N@@
open Jvm Jvm.ClassFile Sem Op Lib Jvm.Free Jvm.Stand Jvm.LawKit Jvm.RoadKit Bundle Jvm.Pilot.@@N@@.Jvm.D
section OwnLayer
/-- where the walk of the body y stands: after k cells and n slots made, with the heap h and the top frame g -/
def Rch (p : Program) (l : Launch) (e : Env) (R : Room) (s : State) (m : MethodId) (args : Array Value) (below : List Frame) (meth : Method) (c : Code) (Z : State) (y : MethodName) (bc : ByteArray) (ml : Nat) (rt : Option FieldType) (n0 : Nat) (T0 : State) (g0 : JFrame) (k n : Nat) (h : Heap) (g : JFrame) : Prop :=
  (p.tables.exec = Jvm.exec ∧ c.code = bc ∧ c.maxLocals = ml ∧ s.vm.findClass y.cls = some m.cls ∧ Z.Warmed39 s.vm ∧ meth.sig.returnType = rt ∧ meth.locks = false ∧ meth.name = y.name) ∧
  ∃ T locs, Stand p l e R s m args below meth c T locs k n ∧ T.heap = h ∧ Fr n0 locs ∧ ∀ target, Steps p.tables e below (T.setTop g) target → Steps p.tables e below (T0.setTop g0) target
/-- the body has returned v, with the heap h -/
def Don (p : Program) (l : Launch) (e : Env) (R : Room) (s : State) (m : MethodId) (args : Array Value) (below : List Frame) (meth : Method) (c : Code) (rt : Option FieldType) (n0 : Nat) (T0 : State) (g0 : JFrame) (v : Option Value) (h : Heap) : Prop :=
  ∃ T locs k n, Stand p l e R s m args below meth c T locs k n ∧ k ≤ R.cells ∧ n ≤ R.slots ∧ T.heap = h ∧ Fr n0 locs ∧ meth.locks = false ∧ (meth.sig.returnType = none → v = none) ∧
    ∀ fs, (∀ (f : JFrame) (acts : List Action), f.method = m → f.locked = none → f.entered = [] → (doReturn e (T.setTop f) acts v).1 = T.setFrames fs) → Steps p.tables e below (T0.setTop g0) (T.setFrames fs)
/-- a body's contract -/
def Ctr (l : Launch) (Z : State) (y : MethodName) (bc : ByteArray) (ml : Nat) (rt : Option FieldType) (rm : Room) (as : Array Value) (h0 : Heap) (n0 : Nat) (Q : Option Value → Heap → Prop) : Prop :=
  ∀ ws : List Jvm.Cond, MetFree l y (head1 (Jvm.Cond.code y bc ml rt :: ws) rm) (fun a U => a = as ∧ Z.Warmed39 U.vm ∧ U.heap = h0) (fun _ _ _ _ _ => True) (fun _ U o U' => ∃ v L, o = .returned v ∧ (Fr n0 L ∧ Q v U'.heap) ∧ FrameEnd U o U' L rm.cells rm.slots)
variable {p : Program} {l : Launch} {e : Env} {R : Room} {s : State} {m : MethodId} {args : Array Value} {below : List Frame} {meth : Method} {c : Code} {Z : State} {y : MethodName} {bc : ByteArray} {ml : Nat} {rt : Option FieldType} {n0 : Nat} {T0 : State} {g0 : JFrame} {k n : Nat} {h : Heap} {a0 : Array Value} {pc pc' : Nat} {L : Array Slot} {S : List Value}
theorem Rch.step {k' n' : Nat} {h' : Heap} {g g' : JFrame} (r : Rch p l e R s m args below meth c Z y bc ml rt n0 T0 g0 k n h g)
    (f : ∀ T locs, Stand p l e R s m args below meth c T locs k n → T.heap = h → Fr n0 locs → ∃ T' locs', Stand p l e R s m args below meth c T' locs' k' n' ∧ T'.heap = h' ∧ Fr n0 locs' ∧ ∀ target, Steps p.tables e below (T'.setTop g') target → Steps p.tables e below (T.setTop g) target) :
    Rch p l e R s m args below meth c Z y bc ml rt n0 T0 g0 k' n' h' g' := by
  obtain ⟨q, T, locs, X, eT, N, st⟩ := r
  obtain ⟨T', locs', X', eT', N', st'⟩ := f T locs X eT N
  exact ⟨q, T', locs', X', eT', N', fun t z => st t (st' t z)⟩
theorem Rch.pure {g g' : JFrame} (r : Rch p l e R s m args below meth c Z y bc ml rt n0 T0 g0 k n h g)
    (f : ∀ T locs, Stand p l e R s m args below meth c T locs k n → T.heap = h → ∀ target, Steps p.tables e below (T.setTop g') target → Steps p.tables e below (T.setTop g) target) :
    Rch p l e R s m args below meth c Z y bc ml rt n0 T0 g0 k n h g' :=
  r.step fun T locs X eT N => ⟨T, locs, X, eT, N, f T locs X eT⟩
theorem Rch.keep {g g' : JFrame} (r : Rch p l e R s m args below meth c Z y bc ml rt n0 T0 g0 k n h g)
    (f : ∀ T locs, Stand p l e R s m args below meth c T locs k n → T.heap = h → ∃ T', Stand p l e R s m args below meth c T' locs k n ∧ T'.heap = h ∧ ∀ target, Steps p.tables e below (T'.setTop g') target → Steps p.tables e below (T.setTop g) target) :
    Rch p l e R s m args below meth c Z y bc ml rt n0 T0 g0 k n h g' :=
  r.step fun T locs X eT N => by
    obtain ⟨T', X', e', st⟩ := f T locs X eT
    exact ⟨T', locs, X', e', N, st⟩
theorem Rch.widen {g : JFrame} {k' n' : Nat} (r : Rch p l e R s m args below meth c Z y bc ml rt n0 T0 g0 k n h g) (hk : k ≤ k') (hn : n ≤ n') : Rch p l e R s m args below meth c Z y bc ml rt n0 T0 g0 k' n' h g := by
  obtain ⟨q, T, locs, X, eT, N, st⟩ := r
  exact ⟨q, T, locs, ⟨X.admits, X.cas, X.clock, X.frames, X.room, X.hears, X.method, X.code, X.here, X.tail, X.warmed, X.limits, X.bytes, X.same.mono hk hn⟩, eT, N, st⟩
theorem Rch.eqh {g : JFrame} {h' : Heap} (r : Rch p l e R s m args below meth c Z y bc ml rt n0 T0 g0 k n h g) (q : h = h') : Rch p l e R s m args below meth c Z y bc ml rt n0 T0 g0 k n h' g := q ▸ r
theorem Rch.eqg {g g' : JFrame} (r : Rch p l e R s m args below meth c Z y bc ml rt n0 T0 g0 k n h g) (q : g = g') : Rch p l e R s m args below meth c Z y bc ml rt n0 T0 g0 k n h g' := q ▸ r
-- loads and stores
theorem Rch.iloadN (r : Rch p l e R s m args below meth c Z y bc ml rt n0 T0 g0 k n h (mkF m pc L S)) {i : Fin 4} {v : Int32} (hd : decode bc pc = .ok (.iload_n i, 1)) (hl : L[i.val]? = some (.val (.int v))) (hp : pc + 1 = pc') : Rch p l e R s m args below meth c Z y bc ml rt n0 T0 g0 k n h (mkF m pc' L (.int v :: S)) := by
  subst hp; exact r.pure fun T locs X eT t z => XS.iloadN X.here r.1.1 rfl (hb r.1.2.1 hd) hl z
theorem Rch.iload (r : Rch p l e R s m args below meth c Z y bc ml rt n0 T0 g0 k n h (mkF m pc L S)) {i : Nat} {v : Int32} (hd : decode bc pc = .ok (.iload i, 2)) (hl : L[i]? = some (.val (.int v))) (hp : pc + 2 = pc') : Rch p l e R s m args below meth c Z y bc ml rt n0 T0 g0 k n h (mkF m pc' L (.int v :: S)) := by
  subst hp; exact r.pure fun T locs X eT t z => XS.iload X.here r.1.1 rfl (hb r.1.2.1 hd) hl z
theorem Rch.lloadN (r : Rch p l e R s m args below meth c Z y bc ml rt n0 T0 g0 k n h (mkF m pc L S)) {i : Fin 4} {v : Int64} (hd : decode bc pc = .ok (.lload_n i, 1)) (hl : L[i.val]? = some (.val (.long v))) (hp : pc + 1 = pc') : Rch p l e R s m args below meth c Z y bc ml rt n0 T0 g0 k n h (mkF m pc' L (.long v :: S)) := by
  subst hp; exact r.pure fun T locs X eT t z => XS.lloadN X.here r.1.1 rfl (hb r.1.2.1 hd) hl z
theorem Rch.lload (r : Rch p l e R s m args below meth c Z y bc ml rt n0 T0 g0 k n h (mkF m pc L S)) {i : Nat} {v : Int64} (hd : decode bc pc = .ok (.lload i, 2)) (hl : L[i]? = some (.val (.long v))) (hp : pc + 2 = pc') : Rch p l e R s m args below meth c Z y bc ml rt n0 T0 g0 k n h (mkF m pc' L (.long v :: S)) := by
  subst hp; exact r.pure fun T locs X eT t z => XS.lload X.here r.1.1 rfl (hb r.1.2.1 hd) hl z
theorem Rch.aloadN (r : Rch p l e R s m args below meth c Z y bc ml rt n0 T0 g0 k n h (mkF m pc L S)) {i : Fin 4} {v : Value} (hd : decode bc pc = .ok (.aload_n i, 1)) (hl : L[i.val]? = some (.val v)) (hv : v.isRef = true) (hp : pc + 1 = pc') : Rch p l e R s m args below meth c Z y bc ml rt n0 T0 g0 k n h (mkF m pc' L (v :: S)) := by
  subst hp; exact r.pure fun T locs X eT t z => XS.aloadN X.here r.1.1 rfl (hb r.1.2.1 hd) hl hv z
theorem Rch.aload (r : Rch p l e R s m args below meth c Z y bc ml rt n0 T0 g0 k n h (mkF m pc L S)) {i : Nat} {v : Value} (hd : decode bc pc = .ok (.aload i, 2)) (hl : L[i]? = some (.val v)) (hv : v.isRef = true) (hp : pc + 2 = pc') : Rch p l e R s m args below meth c Z y bc ml rt n0 T0 g0 k n h (mkF m pc' L (v :: S)) := by
  subst hp; exact r.pure fun T locs X eT t z => XS.aload X.here r.1.1 rfl (hb r.1.2.1 hd) hl hv z
theorem Rch.istoreN {i : Fin 4} {v : Int32} {L' : Array Slot} (r : Rch p l e R s m args below meth c Z y bc ml rt n0 T0 g0 k n h (mkF m pc L (.int v :: S))) (hd : decode bc pc = .ok (.istore_n i, 1)) (hl : storeLocals L i.val (.int v) = some L') (hp : pc + 1 = pc') : Rch p l e R s m args below meth c Z y bc ml rt n0 T0 g0 k n h (mkF m pc' L' S) := by
  subst hp; exact r.pure fun T locs X eT t z => XS.istoreN X.here r.1.1 rfl (hb r.1.2.1 hd) rfl hl z
theorem Rch.istore {i : Nat} {v : Int32} {L' : Array Slot} (r : Rch p l e R s m args below meth c Z y bc ml rt n0 T0 g0 k n h (mkF m pc L (.int v :: S))) (hd : decode bc pc = .ok (.istore i, 2)) (hl : storeLocals L i (.int v) = some L') (hp : pc + 2 = pc') : Rch p l e R s m args below meth c Z y bc ml rt n0 T0 g0 k n h (mkF m pc' L' S) := by
  subst hp; exact r.pure fun T locs X eT t z => XS.istore X.here r.1.1 rfl (hb r.1.2.1 hd) rfl hl z
theorem Rch.lstoreN {i : Fin 4} {v : Int64} {L' : Array Slot} (r : Rch p l e R s m args below meth c Z y bc ml rt n0 T0 g0 k n h (mkF m pc L (.long v :: S))) (hd : decode bc pc = .ok (.lstore_n i, 1)) (hl : storeLocals L i.val (.long v) = some L') (hp : pc + 1 = pc') : Rch p l e R s m args below meth c Z y bc ml rt n0 T0 g0 k n h (mkF m pc' L' S) := by
  subst hp; exact r.pure fun T locs X eT t z => XS.lstoreN X.here r.1.1 rfl (hb r.1.2.1 hd) rfl hl z
theorem Rch.lstore {i : Nat} {v : Int64} {L' : Array Slot} (r : Rch p l e R s m args below meth c Z y bc ml rt n0 T0 g0 k n h (mkF m pc L (.long v :: S))) (hd : decode bc pc = .ok (.lstore i, 2)) (hl : storeLocals L i (.long v) = some L') (hp : pc + 2 = pc') : Rch p l e R s m args below meth c Z y bc ml rt n0 T0 g0 k n h (mkF m pc' L' S) := by
  subst hp; exact r.pure fun T locs X eT t z => XS.lstore X.here r.1.1 rfl (hb r.1.2.1 hd) rfl hl z
theorem Rch.astoreN {i : Fin 4} {v : Value} {L' : Array Slot} (r : Rch p l e R s m args below meth c Z y bc ml rt n0 T0 g0 k n h (mkF m pc L (v :: S))) (hd : decode bc pc = .ok (.astore_n i, 1)) (hv : v.isRef = true) (hl : storeLocals L i.val v = some L') (hp : pc + 1 = pc') : Rch p l e R s m args below meth c Z y bc ml rt n0 T0 g0 k n h (mkF m pc' L' S) := by
  subst hp; exact r.pure fun T locs X eT t z => XS.astoreN X.here r.1.1 rfl (hb r.1.2.1 hd) rfl hv hl z
theorem Rch.astore {i : Nat} {v : Value} {L' : Array Slot} (r : Rch p l e R s m args below meth c Z y bc ml rt n0 T0 g0 k n h (mkF m pc L (v :: S))) (hd : decode bc pc = .ok (.astore i, 2)) (hv : v.isRef = true) (hl : storeLocals L i v = some L') (hp : pc + 2 = pc') : Rch p l e R s m args below meth c Z y bc ml rt n0 T0 g0 k n h (mkF m pc' L' S) := by
  subst hp; exact r.pure fun T locs X eT t z => XS.astore X.here r.1.1 rfl (hb r.1.2.1 hd) rfl hv hl z
theorem Rch.iinc {i : Nat} {cst : Int} {v u : Int32} {L' : Array Slot} (r : Rch p l e R s m args below meth c Z y bc ml rt n0 T0 g0 k n h (mkF m pc L S)) (w : Int32) (hd : decode bc pc = .ok (.iinc i cst, 3)) (hw : Int32.ofInt cst = w) (hl : L[i]? = some (.val (.int v))) (hu : v + w = u) (hl' : storeLocals L i (.int u) = some L') (hp : pc + 3 = pc') : Rch p l e R s m args below meth c Z y bc ml rt n0 T0 g0 k n h (mkF m pc' L' S) := by
  subst hp hu hw; exact r.pure fun T locs X eT t z => XS.iinc X.here r.1.1 rfl (hb r.1.2.1 hd) hl hl' z
-- constants
theorem Rch.iconst (r : Rch p l e R s m args below meth c Z y bc ml rt n0 T0 g0 k n h (mkF m pc L S)) {i : Int} (w : Int32) (hd : decode bc pc = .ok (.iconst i, 1)) (hw : Int32.ofInt i = w) (hp : pc + 1 = pc') : Rch p l e R s m args below meth c Z y bc ml rt n0 T0 g0 k n h (mkF m pc' L (.int w :: S)) := by
  subst hp hw; exact r.pure fun T locs X eT t z => XS.iconst X.here r.1.1 rfl (hb r.1.2.1 hd) z
theorem Rch.bipush (r : Rch p l e R s m args below meth c Z y bc ml rt n0 T0 g0 k n h (mkF m pc L S)) {i : Int} (w : Int32) (hd : decode bc pc = .ok (.bipush i, 2)) (hw : (Int8.ofInt i).toInt32 = w) (hp : pc + 2 = pc') : Rch p l e R s m args below meth c Z y bc ml rt n0 T0 g0 k n h (mkF m pc' L (.int w :: S)) := by
  subst hp hw; exact r.pure fun T locs X eT t z => XS.bipush X.here r.1.1 rfl (hb r.1.2.1 hd) z
theorem Rch.sipush (r : Rch p l e R s m args below meth c Z y bc ml rt n0 T0 g0 k n h (mkF m pc L S)) {i : Int} (w : Int32) (hd : decode bc pc = .ok (.sipush i, 3)) (hw : (Int16.ofInt i).toInt32 = w) (hp : pc + 3 = pc') : Rch p l e R s m args below meth c Z y bc ml rt n0 T0 g0 k n h (mkF m pc' L (.int w :: S)) := by
  subst hp hw; exact r.pure fun T locs X eT t z => XS.sipush X.here r.1.1 rfl (hb r.1.2.1 hd) z
theorem Rch.lconst (r : Rch p l e R s m args below meth c Z y bc ml rt n0 T0 g0 k n h (mkF m pc L S)) {i : Fin 2} (w : Int64) (hd : decode bc pc = .ok (.lconst i, 1)) (hw : Int64.ofNat i = w) (hp : pc + 1 = pc') : Rch p l e R s m args below meth c Z y bc ml rt n0 T0 g0 k n h (mkF m pc' L (.long w :: S)) := by
  subst hp hw; exact r.pure fun T locs X eT t z => XS.lconst X.here r.1.1 rfl (hb r.1.2.1 hd) z
theorem Rch.anull (r : Rch p l e R s m args below meth c Z y bc ml rt n0 T0 g0 k n h (mkF m pc L S)) (hd : decode bc pc = .ok (.aconst_null, 1)) (hp : pc + 1 = pc') : Rch p l e R s m args below meth c Z y bc ml rt n0 T0 g0 k n h (mkF m pc' L (.null :: S)) := by
  subst hp; exact r.pure fun T locs X eT t z => XS.aconstNull X.here r.1.1 rfl (hb r.1.2.1 hd) z
theorem Rch.ldc (r : Rch p l e R s m args below meth c Z y bc ml rt n0 T0 g0 k n h (mkF m pc L S)) {i : Nat} {w : Int32} (hd : decode bc pc = .ok (.ldc i, 2)) (hc : (Jvm.Cond.constant y.cls i w).before a0 Z = true) (hp : pc + 2 = pc') : Rch p l e R s m args below meth c Z y bc ml rt n0 T0 g0 k n h (mkF m pc' L (.int w :: S)) := by
  subst hp; exact r.pure fun T locs X eT t z => X.ldcInt r.1.1 r.1.2.2.2.1 (mvT r.1.2.2.2.2.1 hc) (g := mkF m pc L S) rfl (hb r.1.2.1 hd) t z
theorem Rch.ldcw (r : Rch p l e R s m args below meth c Z y bc ml rt n0 T0 g0 k n h (mkF m pc L S)) {i : Nat} {w : Int32} (hd : decode bc pc = .ok (.ldc_w i, 3)) (hc : (Jvm.Cond.constant y.cls i w).before a0 Z = true) (hp : pc + 3 = pc') : Rch p l e R s m args below meth c Z y bc ml rt n0 T0 g0 k n h (mkF m pc' L (.int w :: S)) := by
  subst hp; exact r.pure fun T locs X eT t z => X.ldcwInt r.1.1 r.1.2.2.2.1 (mvT r.1.2.2.2.2.1 hc) (g := mkF m pc L S) rfl (hb r.1.2.1 hd) t z
theorem Rch.ldc2 (r : Rch p l e R s m args below meth c Z y bc ml rt n0 T0 g0 k n h (mkF m pc L S)) {i : Nat} {w : Int64} (hd : decode bc pc = .ok (.ldc2_w i, 3)) (hc : (Jvm.Cond.constantLong y.cls i w).before a0 Z = true) (hp : pc + 3 = pc') : Rch p l e R s m args below meth c Z y bc ml rt n0 T0 g0 k n h (mkF m pc' L (.long w :: S)) := by
  subst hp; exact r.pure fun T locs X eT t z => X.ldc2Long r.1.1 r.1.2.2.2.1 (mvT r.1.2.2.2.2.1 hc) (g := mkF m pc L S) rfl (hb r.1.2.1 hd) t z
-- sums and the like
theorem Rch.iadd {a : Int32} {b : Int32} {u : Int32} (r : Rch p l e R s m args below meth c Z y bc ml rt n0 T0 g0 k n h (mkF m pc L (.int b :: .int a :: S))) (hd : decode bc pc = .ok (.iadd, 1)) (hu : a + b = u) (hp : pc + 1 = pc') : Rch p l e R s m args below meth c Z y bc ml rt n0 T0 g0 k n h (mkF m pc' L (.int u :: S)) := by
  subst hp hu; exact r.pure fun T locs X eT t z => XS.iadd X.here r.1.1 rfl (hb r.1.2.1 hd) rfl z
theorem Rch.isub {a : Int32} {b : Int32} {u : Int32} (r : Rch p l e R s m args below meth c Z y bc ml rt n0 T0 g0 k n h (mkF m pc L (.int b :: .int a :: S))) (hd : decode bc pc = .ok (.isub, 1)) (hu : a - b = u) (hp : pc + 1 = pc') : Rch p l e R s m args below meth c Z y bc ml rt n0 T0 g0 k n h (mkF m pc' L (.int u :: S)) := by
  subst hp hu; exact r.pure fun T locs X eT t z => XS.isub X.here r.1.1 rfl (hb r.1.2.1 hd) rfl z
theorem Rch.imul {a : Int32} {b : Int32} {u : Int32} (r : Rch p l e R s m args below meth c Z y bc ml rt n0 T0 g0 k n h (mkF m pc L (.int b :: .int a :: S))) (hd : decode bc pc = .ok (.imul, 1)) (hu : a * b = u) (hp : pc + 1 = pc') : Rch p l e R s m args below meth c Z y bc ml rt n0 T0 g0 k n h (mkF m pc' L (.int u :: S)) := by
  subst hp hu; exact r.pure fun T locs X eT t z => XS.imul X.here r.1.1 rfl (hb r.1.2.1 hd) rfl z
theorem Rch.iand {a : Int32} {b : Int32} {u : Int32} (r : Rch p l e R s m args below meth c Z y bc ml rt n0 T0 g0 k n h (mkF m pc L (.int b :: .int a :: S))) (hd : decode bc pc = .ok (.iand, 1)) (hu : a &&& b = u) (hp : pc + 1 = pc') : Rch p l e R s m args below meth c Z y bc ml rt n0 T0 g0 k n h (mkF m pc' L (.int u :: S)) := by
  subst hp hu; exact r.pure fun T locs X eT t z => XS.iand X.here r.1.1 rfl (hb r.1.2.1 hd) rfl z
theorem Rch.ior {a : Int32} {b : Int32} {u : Int32} (r : Rch p l e R s m args below meth c Z y bc ml rt n0 T0 g0 k n h (mkF m pc L (.int b :: .int a :: S))) (hd : decode bc pc = .ok (.ior, 1)) (hu : a ||| b = u) (hp : pc + 1 = pc') : Rch p l e R s m args below meth c Z y bc ml rt n0 T0 g0 k n h (mkF m pc' L (.int u :: S)) := by
  subst hp hu; exact r.pure fun T locs X eT t z => XS.ior X.here r.1.1 rfl (hb r.1.2.1 hd) rfl z
theorem Rch.ixor {a : Int32} {b : Int32} {u : Int32} (r : Rch p l e R s m args below meth c Z y bc ml rt n0 T0 g0 k n h (mkF m pc L (.int b :: .int a :: S))) (hd : decode bc pc = .ok (.ixor, 1)) (hu : a ^^^ b = u) (hp : pc + 1 = pc') : Rch p l e R s m args below meth c Z y bc ml rt n0 T0 g0 k n h (mkF m pc' L (.int u :: S)) := by
  subst hp hu; exact r.pure fun T locs X eT t z => XS.ixor X.here r.1.1 rfl (hb r.1.2.1 hd) rfl z
theorem Rch.ladd {a : Int64} {b : Int64} {u : Int64} (r : Rch p l e R s m args below meth c Z y bc ml rt n0 T0 g0 k n h (mkF m pc L (.long b :: .long a :: S))) (hd : decode bc pc = .ok (.ladd, 1)) (hu : a + b = u) (hp : pc + 1 = pc') : Rch p l e R s m args below meth c Z y bc ml rt n0 T0 g0 k n h (mkF m pc' L (.long u :: S)) := by
  subst hp hu; exact r.pure fun T locs X eT t z => XS.ladd X.here r.1.1 rfl (hb r.1.2.1 hd) rfl z
theorem Rch.lsub {a : Int64} {b : Int64} {u : Int64} (r : Rch p l e R s m args below meth c Z y bc ml rt n0 T0 g0 k n h (mkF m pc L (.long b :: .long a :: S))) (hd : decode bc pc = .ok (.lsub, 1)) (hu : a - b = u) (hp : pc + 1 = pc') : Rch p l e R s m args below meth c Z y bc ml rt n0 T0 g0 k n h (mkF m pc' L (.long u :: S)) := by
  subst hp hu; exact r.pure fun T locs X eT t z => XS.lsub X.here r.1.1 rfl (hb r.1.2.1 hd) rfl z
theorem Rch.lmul {a : Int64} {b : Int64} {u : Int64} (r : Rch p l e R s m args below meth c Z y bc ml rt n0 T0 g0 k n h (mkF m pc L (.long b :: .long a :: S))) (hd : decode bc pc = .ok (.lmul, 1)) (hu : a * b = u) (hp : pc + 1 = pc') : Rch p l e R s m args below meth c Z y bc ml rt n0 T0 g0 k n h (mkF m pc' L (.long u :: S)) := by
  subst hp hu; exact r.pure fun T locs X eT t z => XS.lmul X.here r.1.1 rfl (hb r.1.2.1 hd) rfl z
theorem Rch.land {a : Int64} {b : Int64} {u : Int64} (r : Rch p l e R s m args below meth c Z y bc ml rt n0 T0 g0 k n h (mkF m pc L (.long b :: .long a :: S))) (hd : decode bc pc = .ok (.land, 1)) (hu : a &&& b = u) (hp : pc + 1 = pc') : Rch p l e R s m args below meth c Z y bc ml rt n0 T0 g0 k n h (mkF m pc' L (.long u :: S)) := by
  subst hp hu; exact r.pure fun T locs X eT t z => XS.land X.here r.1.1 rfl (hb r.1.2.1 hd) rfl z
theorem Rch.lor {a : Int64} {b : Int64} {u : Int64} (r : Rch p l e R s m args below meth c Z y bc ml rt n0 T0 g0 k n h (mkF m pc L (.long b :: .long a :: S))) (hd : decode bc pc = .ok (.lor, 1)) (hu : a ||| b = u) (hp : pc + 1 = pc') : Rch p l e R s m args below meth c Z y bc ml rt n0 T0 g0 k n h (mkF m pc' L (.long u :: S)) := by
  subst hp hu; exact r.pure fun T locs X eT t z => XS.lor X.here r.1.1 rfl (hb r.1.2.1 hd) rfl z
theorem Rch.lxor {a : Int64} {b : Int64} {u : Int64} (r : Rch p l e R s m args below meth c Z y bc ml rt n0 T0 g0 k n h (mkF m pc L (.long b :: .long a :: S))) (hd : decode bc pc = .ok (.lxor, 1)) (hu : a ^^^ b = u) (hp : pc + 1 = pc') : Rch p l e R s m args below meth c Z y bc ml rt n0 T0 g0 k n h (mkF m pc' L (.long u :: S)) := by
  subst hp hu; exact r.pure fun T locs X eT t z => XS.lxor X.here r.1.1 rfl (hb r.1.2.1 hd) rfl z
theorem Rch.ishl {a : Int32} {b : Int32} {u : Int32} (r : Rch p l e R s m args below meth c Z y bc ml rt n0 T0 g0 k n h (mkF m pc L (.int b :: .int a :: S))) (hd : decode bc pc = .ok (.ishl, 1)) (hu : a <<< (b &&& 31) = u) (hp : pc + 1 = pc') : Rch p l e R s m args below meth c Z y bc ml rt n0 T0 g0 k n h (mkF m pc' L (.int u :: S)) := by
  subst hp hu; exact r.pure fun T locs X eT t z => XS.ishl X.here r.1.1 rfl (hb r.1.2.1 hd) rfl z
theorem Rch.ishr {a : Int32} {b : Int32} {u : Int32} (r : Rch p l e R s m args below meth c Z y bc ml rt n0 T0 g0 k n h (mkF m pc L (.int b :: .int a :: S))) (hd : decode bc pc = .ok (.ishr, 1)) (hu : a >>> (b &&& 31) = u) (hp : pc + 1 = pc') : Rch p l e R s m args below meth c Z y bc ml rt n0 T0 g0 k n h (mkF m pc' L (.int u :: S)) := by
  subst hp hu; exact r.pure fun T locs X eT t z => XS.ishr X.here r.1.1 rfl (hb r.1.2.1 hd) rfl z
theorem Rch.iushr {a : Int32} {b : Int32} {u : Int32} (r : Rch p l e R s m args below meth c Z y bc ml rt n0 T0 g0 k n h (mkF m pc L (.int b :: .int a :: S))) (hd : decode bc pc = .ok (.iushr, 1)) (hu : (a.toUInt32 >>> (b &&& 31).toUInt32).toInt32 = u) (hp : pc + 1 = pc') : Rch p l e R s m args below meth c Z y bc ml rt n0 T0 g0 k n h (mkF m pc' L (.int u :: S)) := by
  subst hp hu; exact r.pure fun T locs X eT t z => XS.iushr X.here r.1.1 rfl (hb r.1.2.1 hd) rfl z
theorem Rch.lcmp {a : Int64} {b : Int64} {u : Int32} (r : Rch p l e R s m args below meth c Z y bc ml rt n0 T0 g0 k n h (mkF m pc L (.long b :: .long a :: S))) (hd : decode bc pc = .ok (.lcmp, 1)) (hu : lcmpW a b = u) (hp : pc + 1 = pc') : Rch p l e R s m args below meth c Z y bc ml rt n0 T0 g0 k n h (mkF m pc' L (.int u :: S)) := by
  subst hp hu; exact r.pure fun T locs X eT t z => XS.lcmp X.here r.1.1 rfl (hb r.1.2.1 hd) rfl z
theorem Rch.idiv {a : Int32} {b : Int32} {u : Int32} (r : Rch p l e R s m args below meth c Z y bc ml rt n0 T0 g0 k n h (mkF m pc L (.int b :: .int a :: S))) (hd : decode bc pc = .ok (.idiv, 1)) (h0 : b ≠ 0) (hu : a / b = u) (hp : pc + 1 = pc') : Rch p l e R s m args below meth c Z y bc ml rt n0 T0 g0 k n h (mkF m pc' L (.int u :: S)) := by
  subst hp hu; exact r.pure fun T locs X eT t z => XS.idiv X.here r.1.1 rfl (hb r.1.2.1 hd) rfl h0 z
theorem Rch.irem {a : Int32} {b : Int32} {u : Int32} (r : Rch p l e R s m args below meth c Z y bc ml rt n0 T0 g0 k n h (mkF m pc L (.int b :: .int a :: S))) (hd : decode bc pc = .ok (.irem, 1)) (h0 : b ≠ 0) (hu : a % b = u) (hp : pc + 1 = pc') : Rch p l e R s m args below meth c Z y bc ml rt n0 T0 g0 k n h (mkF m pc' L (.int u :: S)) := by
  subst hp hu; exact r.pure fun T locs X eT t z => iremM X r.1.1 rfl (hb r.1.2.1 hd) rfl h0 z
theorem Rch.ineg {a : Int32} {u : Int32} (r : Rch p l e R s m args below meth c Z y bc ml rt n0 T0 g0 k n h (mkF m pc L (.int a :: S))) (hd : decode bc pc = .ok (.ineg, 1)) (hu : -a = u) (hp : pc + 1 = pc') : Rch p l e R s m args below meth c Z y bc ml rt n0 T0 g0 k n h (mkF m pc' L (.int u :: S)) := by
  subst hp hu; exact r.pure fun T locs X eT t z => XS.ineg X.here r.1.1 rfl (hb r.1.2.1 hd) rfl z
theorem Rch.lneg {a : Int64} {u : Int64} (r : Rch p l e R s m args below meth c Z y bc ml rt n0 T0 g0 k n h (mkF m pc L (.long a :: S))) (hd : decode bc pc = .ok (.lneg, 1)) (hu : -a = u) (hp : pc + 1 = pc') : Rch p l e R s m args below meth c Z y bc ml rt n0 T0 g0 k n h (mkF m pc' L (.long u :: S)) := by
  subst hp hu; exact r.pure fun T locs X eT t z => XS.lneg X.here r.1.1 rfl (hb r.1.2.1 hd) rfl z
theorem Rch.i2l {a : Int32} {u : Int64} (r : Rch p l e R s m args below meth c Z y bc ml rt n0 T0 g0 k n h (mkF m pc L (.int a :: S))) (hd : decode bc pc = .ok (.i2l, 1)) (hu : a.toInt64 = u) (hp : pc + 1 = pc') : Rch p l e R s m args below meth c Z y bc ml rt n0 T0 g0 k n h (mkF m pc' L (.long u :: S)) := by
  subst hp hu; exact r.pure fun T locs X eT t z => XS.i2l X.here r.1.1 rfl (hb r.1.2.1 hd) rfl z
theorem Rch.l2i {a : Int64} {u : Int32} (r : Rch p l e R s m args below meth c Z y bc ml rt n0 T0 g0 k n h (mkF m pc L (.long a :: S))) (hd : decode bc pc = .ok (.l2i, 1)) (hu : a.toInt32 = u) (hp : pc + 1 = pc') : Rch p l e R s m args below meth c Z y bc ml rt n0 T0 g0 k n h (mkF m pc' L (.int u :: S)) := by
  subst hp hu; exact r.pure fun T locs X eT t z => XS.l2i X.here r.1.1 rfl (hb r.1.2.1 hd) rfl z
theorem Rch.i2b {a : Int32} {u : Int32} (r : Rch p l e R s m args below meth c Z y bc ml rt n0 T0 g0 k n h (mkF m pc L (.int a :: S))) (hd : decode bc pc = .ok (.i2b, 1)) (hu : a.toInt8.toInt32 = u) (hp : pc + 1 = pc') : Rch p l e R s m args below meth c Z y bc ml rt n0 T0 g0 k n h (mkF m pc' L (.int u :: S)) := by
  subst hp hu; exact r.pure fun T locs X eT t z => XS.i2b X.here r.1.1 rfl (hb r.1.2.1 hd) rfl z
theorem Rch.i2s {a : Int32} {u : Int32} (r : Rch p l e R s m args below meth c Z y bc ml rt n0 T0 g0 k n h (mkF m pc L (.int a :: S))) (hd : decode bc pc = .ok (.i2s, 1)) (hu : a.toInt16.toInt32 = u) (hp : pc + 1 = pc') : Rch p l e R s m args below meth c Z y bc ml rt n0 T0 g0 k n h (mkF m pc' L (.int u :: S)) := by
  subst hp hu; exact r.pure fun T locs X eT t z => XS.i2s X.here r.1.1 rfl (hb r.1.2.1 hd) rfl z
theorem Rch.i2c {a : Int32} {u : Int32} (r : Rch p l e R s m args below meth c Z y bc ml rt n0 T0 g0 k n h (mkF m pc L (.int a :: S))) (hd : decode bc pc = .ok (.i2c, 1)) (hu : a.toUInt32.toUInt16.toUInt32.toInt32 = u) (hp : pc + 1 = pc') : Rch p l e R s m args below meth c Z y bc ml rt n0 T0 g0 k n h (mkF m pc' L (.int u :: S)) := by
  subst hp hu; exact r.pure fun T locs X eT t z => XS.i2c X.here r.1.1 rfl (hb r.1.2.1 hd) rfl z
theorem Rch.lshl {a : Int64} {b : Int32} {u : Int64} (r : Rch p l e R s m args below meth c Z y bc ml rt n0 T0 g0 k n h (mkF m pc L (.int b :: .long a :: S))) (hd : decode bc pc = .ok (.lshl, 1)) (hu : a <<< (b &&& 0x3f).toInt64 = u) (hp : pc + 1 = pc') : Rch p l e R s m args below meth c Z y bc ml rt n0 T0 g0 k n h (mkF m pc' L (.long u :: S)) := by
  subst hp hu; exact r.pure fun T locs X eT t z => XS.lshl X.here r.1.1 rfl (hb r.1.2.1 hd) rfl z
theorem Rch.lshr {a : Int64} {b : Int32} {u : Int64} (r : Rch p l e R s m args below meth c Z y bc ml rt n0 T0 g0 k n h (mkF m pc L (.int b :: .long a :: S))) (hd : decode bc pc = .ok (.lshr, 1)) (hu : a >>> (b &&& 0x3f).toInt64 = u) (hp : pc + 1 = pc') : Rch p l e R s m args below meth c Z y bc ml rt n0 T0 g0 k n h (mkF m pc' L (.long u :: S)) := by
  subst hp hu; exact r.pure fun T locs X eT t z => XS.lshr X.here r.1.1 rfl (hb r.1.2.1 hd) rfl z
theorem Rch.lushr {a : Int64} {b : Int32} {u : Int64} (r : Rch p l e R s m args below meth c Z y bc ml rt n0 T0 g0 k n h (mkF m pc L (.int b :: .long a :: S))) (hd : decode bc pc = .ok (.lushr, 1)) (hu : (a.toUInt64 >>> (b &&& 0x3f).toInt64.toUInt64).toInt64 = u) (hp : pc + 1 = pc') : Rch p l e R s m args below meth c Z y bc ml rt n0 T0 g0 k n h (mkF m pc' L (.long u :: S)) := by
  subst hp hu; exact r.pure fun T locs X eT t z => XS.lushr X.here r.1.1 rfl (hb r.1.2.1 hd) rfl z
theorem Rch.dup {v : Value} (r : Rch p l e R s m args below meth c Z y bc ml rt n0 T0 g0 k n h (mkF m pc L (v :: S))) (hd : decode bc pc = .ok (.dup, 1)) (hv : v.category = 1) (hp : pc + 1 = pc') : Rch p l e R s m args below meth c Z y bc ml rt n0 T0 g0 k n h (mkF m pc' L (v :: v :: S)) := by
  subst hp; exact r.pure fun T locs X eT t z => XS.dup X.here r.1.1 rfl (hb r.1.2.1 hd) rfl hv z
theorem Rch.dupx1 {v w : Value} (r : Rch p l e R s m args below meth c Z y bc ml rt n0 T0 g0 k n h (mkF m pc L (v :: w :: S))) (hd : decode bc pc = .ok (.dup_x1, 1)) (hv : v.category = 1) (hw : w.category = 1) (hp : pc + 1 = pc') : Rch p l e R s m args below meth c Z y bc ml rt n0 T0 g0 k n h (mkF m pc' L (v :: w :: v :: S)) := by
  subst hp; exact r.pure fun T locs X eT t z => XS.dupX1 X.here r.1.1 rfl (hb r.1.2.1 hd) rfl hv hw z
theorem Rch.dup2 {v w : Value} (r : Rch p l e R s m args below meth c Z y bc ml rt n0 T0 g0 k n h (mkF m pc L (v :: w :: S))) (hd : decode bc pc = .ok (.dup2, 1)) (hv : v.category = 1) (hw : w.category = 1) (hp : pc + 1 = pc') : Rch p l e R s m args below meth c Z y bc ml rt n0 T0 g0 k n h (mkF m pc' L (v :: w :: v :: w :: S)) := by
  subst hp
  refine r.pure fun T locs X eT t z => ?_
  have hx := r.1.1
  have hd' := hb r.1.2.1 hd
  jvm_step X.here [X.here.top, hx, hd', hv, hw]
  exact z
theorem Rch.dupx2 {v w u : Value} (r : Rch p l e R s m args below meth c Z y bc ml rt n0 T0 g0 k n h (mkF m pc L (v :: w :: u :: S))) (hd : decode bc pc = .ok (.dup_x2, 1)) (hv : v.category = 1) (hw : w.category = 1) (hu : u.category = 1) (hp : pc + 1 = pc') : Rch p l e R s m args below meth c Z y bc ml rt n0 T0 g0 k n h (mkF m pc' L (v :: w :: u :: v :: S)) := by
  subst hp
  refine r.pure fun T locs X eT t z => ?_
  have hx := r.1.1
  have hd' := hb r.1.2.1 hd
  jvm_step X.here [X.here.top, hx, hd', hv, hw, hu]
  exact z
theorem Rch.pop {v : Value} (r : Rch p l e R s m args below meth c Z y bc ml rt n0 T0 g0 k n h (mkF m pc L (v :: S))) (hd : decode bc pc = .ok (.pop, 1)) (hv : v.category = 1) (hp : pc + 1 = pc') : Rch p l e R s m args below meth c Z y bc ml rt n0 T0 g0 k n h (mkF m pc' L S) := by
  subst hp; exact r.pure fun T locs X eT t z => XS.pop X.here r.1.1 rfl (hb r.1.2.1 hd) rfl hv z
-- branches
theorem Rch.goto {o : Int} (r : Rch p l e R s m args below meth c Z y bc ml rt n0 T0 g0 k n h (mkF m pc L S)) (hd : decode bc pc = .ok (.goto o, 3)) (ho : 0 ≤ (pc : Int) + o) (hp : ((pc : Int) + o).toNat = pc') : Rch p l e R s m args below meth c Z y bc ml rt n0 T0 g0 k n h (mkF m pc' L S) :=
  r.pure fun T locs X eT t z => XS.goto X.here r.1.1 rfl (pc0 := pc) rfl (hb r.1.2.1 hd) ho hp z
theorem Rch.icT {cd : ClassFile.Cond} {x w : Int32} {o : Int} (r : Rch p l e R s m args below meth c Z y bc ml rt n0 T0 g0 k n h (mkF m pc L (.int w :: .int x :: S))) (hd : decode bc pc = .ok (.if_icmp cd o, 3)) (hc : if_icmp.holds cd x w = true) (ho : 0 ≤ (pc : Int) + o) (hp : ((pc : Int) + o).toNat = pc') : Rch p l e R s m args below meth c Z y bc ml rt n0 T0 g0 k n h (mkF m pc' L S) :=
  r.pure fun T locs X eT t z => XS.icmpYes X.here r.1.1 rfl (pc0 := pc) rfl (hb r.1.2.1 hd) rfl hc ho hp z
theorem Rch.icF {cd : ClassFile.Cond} {x w : Int32} {o : Int} (r : Rch p l e R s m args below meth c Z y bc ml rt n0 T0 g0 k n h (mkF m pc L (.int w :: .int x :: S))) (hd : decode bc pc = .ok (.if_icmp cd o, 3)) (hc : if_icmp.holds cd x w = false) (hp : pc + 3 = pc') : Rch p l e R s m args below meth c Z y bc ml rt n0 T0 g0 k n h (mkF m pc' L S) := by
  subst hp; exact r.pure fun T locs X eT t z => XS.icmpNo X.here r.1.1 rfl (hb r.1.2.1 hd) rfl hc z
theorem Rch.ifT {cd : ClassFile.Cond} {x : Int32} {o : Int} (r : Rch p l e R s m args below meth c Z y bc ml rt n0 T0 g0 k n h (mkF m pc L (.int x :: S))) (hd : decode bc pc = .ok (.ifCond cd o, 3)) (hc : if_icmp.holds cd x 0 = true) (ho : 0 ≤ (pc : Int) + o) (hp : ((pc : Int) + o).toNat = pc') : Rch p l e R s m args below meth c Z y bc ml rt n0 T0 g0 k n h (mkF m pc' L S) :=
  r.pure fun T locs X eT t z => XS.ifYes X.here r.1.1 rfl (pc0 := pc) rfl (hb r.1.2.1 hd) rfl ((if0 _ _).trans hc) ho hp z
theorem Rch.ifF {cd : ClassFile.Cond} {x : Int32} {o : Int} (r : Rch p l e R s m args below meth c Z y bc ml rt n0 T0 g0 k n h (mkF m pc L (.int x :: S))) (hd : decode bc pc = .ok (.ifCond cd o, 3)) (hc : if_icmp.holds cd x 0 = false) (hp : pc + 3 = pc') : Rch p l e R s m args below meth c Z y bc ml rt n0 T0 g0 k n h (mkF m pc' L S) := by
  subst hp; exact r.pure fun T locs X eT t z => XS.ifNo X.here r.1.1 rfl (hb r.1.2.1 hd) rfl ((if0 _ _).trans hc) z
theorem Rch.acmp {cd : ACond} {v w : Value} {o : Int} {same : Bool} (r : Rch p l e R s m args below meth c Z y bc ml rt n0 T0 g0 k n h (mkF m pc L (w :: v :: S))) (hd : decode bc pc = .ok (.if_acmp cd o, 3)) (hv : v.isRef = true) (hw : w.isRef = true) (hq : decide (v = w) = same) (ho : 0 ≤ (pc : Int) + o) (hp : pc' = if acV cd same = true then ((pc : Int) + o).toNat else pc + 3) : Rch p l e R s m args below meth c Z y bc ml rt n0 T0 g0 k n h (mkF m pc' L S) :=
  r.pure fun T locs X eT t z => Jvm.RoadKit.acmp X r.1.1 rfl hv hw (pc0 := pc) rfl (hb r.1.2.1 hd) rfl hq ho hp z
theorem Rch.nullT {o : Int} (r : Rch p l e R s m args below meth c Z y bc ml rt n0 T0 g0 k n h (mkF m pc L (.null :: S))) (hd : decode bc pc = .ok (.ifnull o, 3)) (ho : 0 ≤ (pc : Int) + o) (hp : ((pc : Int) + o).toNat = pc') : Rch p l e R s m args below meth c Z y bc ml rt n0 T0 g0 k n h (mkF m pc' L S) :=
  r.pure fun T locs X eT t z => XS.ifnullYes X.here r.1.1 rfl (pc0 := pc) rfl (hb r.1.2.1 hd) rfl ho hp z
theorem Rch.nullF {a : Addr} {o : Int} (r : Rch p l e R s m args below meth c Z y bc ml rt n0 T0 g0 k n h (mkF m pc L (.ref a :: S))) (hd : decode bc pc = .ok (.ifnull o, 3)) (hp : pc + 3 = pc') : Rch p l e R s m args below meth c Z y bc ml rt n0 T0 g0 k n h (mkF m pc' L S) := by
  subst hp; exact r.pure fun T locs X eT t z => XS.ifnullNo X.here r.1.1 rfl (hb r.1.2.1 hd) rfl z
theorem Rch.nnT {a : Addr} {o : Int} (r : Rch p l e R s m args below meth c Z y bc ml rt n0 T0 g0 k n h (mkF m pc L (.ref a :: S))) (hd : decode bc pc = .ok (.ifnonnull o, 3)) (ho : 0 ≤ (pc : Int) + o) (hp : ((pc : Int) + o).toNat = pc') : Rch p l e R s m args below meth c Z y bc ml rt n0 T0 g0 k n h (mkF m pc' L S) :=
  r.pure fun T locs X eT t z => XS.ifnonnullYes X.here r.1.1 rfl (pc0 := pc) rfl (hb r.1.2.1 hd) rfl ho hp z
theorem Rch.nnF {o : Int} (r : Rch p l e R s m args below meth c Z y bc ml rt n0 T0 g0 k n h (mkF m pc L (.null :: S))) (hd : decode bc pc = .ok (.ifnonnull o, 3)) (hp : pc + 3 = pc') : Rch p l e R s m args below meth c Z y bc ml rt n0 T0 g0 k n h (mkF m pc' L S) := by
  subst hp; exact r.pure fun T locs X eT t z => XS.ifnonnullNo X.here r.1.1 rfl (hb r.1.2.1 hd) rfl z
-- fields
theorem Rch.getF {R0 O nm d host : String} {idx : Nat} {a : Addr} {v : Value} (r : Rch p l e R s m args below meth c Z y bc ml rt n0 T0 g0 k n h (mkF m pc L (.ref a :: S))) (hd : decode bc pc = .ok (.getfield idx, 3)) (w : (Jvm.Cond.fieldLink y.cls idx R0 nm d).before a0 Z = true ∨ (Jvm.Cond.fieldLinkNest y.cls idx R0 nm d host).before a0 Z = true) (via : Via Z R0 O nm d) (F : Fld Z h a O nm d v) (hp : pc + 3 = pc') :
    Rch p l e R s m args below meth c Z y bc ml rt n0 T0 g0 k n h (mkF m pc' L (v :: S)) := by
  subst hp; exact r.keep fun T locs X eT => getF X r.1.1 r.1.2.2.2.2.1 r.1.2.2.2.1 w via eT F (g := mkF m pc L (.ref a :: S)) rfl rfl (hb r.1.2.1 hd)
theorem Rch.getS {R0 O nm d host : String} {idx : Nat} {v : Value} (r : Rch p l e R s m args below meth c Z y bc ml rt n0 T0 g0 k n h (mkF m pc L S)) (hd : decode bc pc = .ok (.getstatic idx, 3)) (w : (Jvm.Cond.fieldLink y.cls idx R0 nm d).before a0 Z = true ∨ (Jvm.Cond.fieldLinkNest y.cls idx R0 nm d host).before a0 Z = true) (via : Via Z R0 O nm d) (F : Sta Z h O nm d v) (hp : pc + 3 = pc') :
    Rch p l e R s m args below meth c Z y bc ml rt n0 T0 g0 k n h (mkF m pc' L (v :: S)) := by
  subst hp; exact r.keep fun T locs X eT => getS2 X r.1.1 r.1.2.2.2.2.1 r.1.2.2.2.1 w via eT F (g := mkF m pc L S) rfl (hb r.1.2.1 hd)
theorem Rch.putF {R0 O nm d host C : String} {idx kk : Nat} {ty : FieldType} {a : Addr} {v old : Value} (r : Rch p l e R s m args below meth c Z y bc ml rt n0 T0 g0 k n h (mkF m pc L (v :: .ref a :: S))) (hd : decode bc pc = .ok (.putfield idx, 3)) (w : (Jvm.Cond.fieldLink y.cls idx R0 nm d).before a0 Z = true ∨ (Jvm.Cond.fieldLinkNest y.cls idx R0 nm d host).before a0 Z = true) (via : Via Z R0 O nm d) (F : Fld Z h a O nm d old) (E : Exa Z h a C)
    (lw : (Jvm.Cond.lays C O nm d).before a0 Z = true ∨ ((Jvm.Cond.laysFinal C O nm d).before a0 Z = true ∧ y.cls = O ∧ y.name = "<init>")) (wi : (Jvm.Cond.instantiable C kk).before a0 Z = true) (hty : parseFieldDescriptor d = some ty) (hn : narrow ty v = v) (hf : fits ty v = true) (hN : n0 ≤ a) (hp : pc + 3 = pc') :
    ∃ h', Wr h h' a (Jvm.RoadKit.slotOf Z O nm d) v ∧ Rch p l e R s m args below meth c Z y bc ml rt n0 T0 g0 k n h' (mkF m pc' L S) := by
  subst hp
  obtain ⟨q, T, locs, X, eT, N, st⟩ := r
  obtain ⟨T', h', X', e', W, st'⟩ := putF X q.1 q.2.2.2.2.1 q.2.2.2.1 w via eT F E (lw.imp id fun z => ⟨z.1, z.2.1, q.2.2.2.2.2.2.2.trans z.2.2⟩) wi hty hn hf (g := mkF m pc L (v :: .ref a :: S)) rfl rfl (hb q.2.1 hd)
  exact ⟨h', W, q, T', _, X', e', Fr.snoc X' N hN, fun t z => st t (st' t z)⟩
theorem Rch.putFN {R0 O nm d C : String} {idx kk : Nat} {ty : FieldType} {a : Addr} {v v' old : Value} (r : Rch p l e R s m args below meth c Z y bc ml rt n0 T0 g0 k n h (mkF m pc L (v :: .ref a :: S))) (hd : decode bc pc = .ok (.putfield idx, 3)) (w : (Jvm.Cond.fieldLink y.cls idx R0 nm d).before a0 Z = true) (via : Via Z R0 O nm d) (F : Fld Z h a O nm d old) (E : Exa Z h a C)
    (lw : (Jvm.Cond.lays C O nm d).before a0 Z = true ∨ ((Jvm.Cond.laysFinal C O nm d).before a0 Z = true ∧ y.cls = O ∧ y.name = "<init>")) (wi : (Jvm.Cond.instantiable C kk).before a0 Z = true) (hty : parseFieldDescriptor d = some ty) (hn : narrow ty v = v') (hf : fits ty v' = true) (hN : n0 ≤ a) (hp : pc + 3 = pc') :
    ∃ h', Wr h h' a (Jvm.RoadKit.slotOf Z O nm d) v' ∧ Rch p l e R s m args below meth c Z y bc ml rt n0 T0 g0 k n h' (mkF m pc' L S) := by
  subst hp
  obtain ⟨q, T, locs, X, eT, N, st⟩ := r
  obtain ⟨T', h', X', e', W, st'⟩ := putFN X q.1 q.2.2.2.2.1 q.2.2.2.1 w via eT F E (lw.imp id fun z => ⟨z.1, z.2.1, q.2.2.2.2.2.2.2.trans z.2.2⟩) wi hty hn hf (g := mkF m pc L (v :: .ref a :: S)) rfl rfl (hb q.2.1 hd)
  exact ⟨h', W, q, T', _, X', e', Fr.snoc X' N hN, fun t z => st t (st' t z)⟩
-- objects and arrays
theorem Rch.newO {C : String} {idx i : Nat} (r : Rch p l e R s m args below meth c Z y bc ml rt n0 T0 g0 k n h (mkF m pc L S)) (hd : decode bc pc = .ok (.new idx, 3)) (w : (Jvm.Cond.classLink y.cls idx C).before a0 Z = true) (wi : (Jvm.Cond.instantiable C i).before a0 Z = true) (wz : (Jvm.Cond.initialized C).before a0 Z = true) {k' n' : Nat} (hk : k + 1 = k') (hn' : n + i = n') (hc : k' ≤ R.cells) (hl : n' ≤ R.slots) (hp : pc + 3 = pc') :
    ∃ h' a, a = h.size ∧ Ext h h' ∧ Exa Z h' a C ∧ (∀ {O nm d : String} {ty : FieldType}, Laid Z a0 C O nm d → parseFieldDescriptor d = some ty → Fld Z h' a O nm d (defaultValue ty)) ∧ Rch p l e R s m args below meth c Z y bc ml rt n0 T0 g0 k' n' h' (mkF m pc' L (.ref a :: S)) := by
  subst hp hk hn'
  obtain ⟨q, T, locs, X, eT, N, st⟩ := r
  obtain ⟨T', h', X', e', E, A, D, -, st'⟩ := newO X q.1 q.2.2.2.2.1 q.2.2.2.1 w wi wz eT (g := mkF m pc L S) rfl (hb q.2.1 hd) hc hl
  exact ⟨h', h.size, rfl, E, A, D, q, T', locs, X', e', N, fun t z => st t (st' t z)⟩
theorem Rch.newP {aty : ArrayType} {i : Int32} (r : Rch p l e R s m args below meth c Z y bc ml rt n0 T0 g0 k n h (mkF m pc L (.int i :: S))) (hd : decode bc pc = .ok (.newarray aty, 2)) (w : (Jvm.Cond.arrayClass (newarray.typeOf aty)).before a0 Z = true) (hn : ¬ i < 0) {cap : Nat} (hcap : i.toNatClampNeg ≤ cap) (hbg : cap * 8 ≤ 536870912) {k' n' : Nat} (hk : k + 1 = k') (hn' : n + cap = n') (hc : k' ≤ R.cells) (hl : n' ≤ R.slots) (hp : pc + 2 = pc') :
    ∃ h' a cA, a = h.size ∧ Ext h h' ∧ Arv Z h' a cA (newarray.typeOf aty) i [] (defaultValue (newarray.typeOf aty)) ∧ Rch p l e R s m args below meth c Z y bc ml rt n0 T0 g0 k' n' h' (mkF m pc' L (.ref a :: S)) := by
  subst hp hk hn'
  obtain ⟨q, T, locs, X, eT, N, st⟩ := r
  obtain ⟨T', h', cA, X', e', E, A, st'⟩ := newP X q.1 q.2.2.2.2.1 w eT (g := mkF m pc L (.int i :: S)) rfl (hb q.2.1 hd) rfl hn hcap hbg hc hl
  exact ⟨h', h.size, cA, rfl, E, Arv.new A hn, q, T', locs, X', e', N, fun t z => st t (st' t z)⟩
theorem Rch.newR {C : String} {idx : Nat} {i : Int32} (r : Rch p l e R s m args below meth c Z y bc ml rt n0 T0 g0 k n h (mkF m pc L (.int i :: S))) (hd : decode bc pc = .ok (.anewarray idx, 3)) (w1 : (Jvm.Cond.classLink y.cls idx C).before a0 Z = true) (w2 : (Jvm.Cond.arrayOver (.object C)).before a0 Z = true) (hn : ¬ i < 0) {cap : Nat} (hcap : i.toNatClampNeg ≤ cap) (hbg : cap * 8 ≤ 536870912) {k' n' : Nat} (hk : k + 1 = k') (hn' : n + cap = n') (hc : k' ≤ R.cells) (hl : n' ≤ R.slots) (hp : pc + 3 = pc') :
    ∃ h' a cA, a = h.size ∧ Ext h h' ∧ Ovr Z cA C ∧ Arv Z h' a cA (.object C) i [] .null ∧ Rch p l e R s m args below meth c Z y bc ml rt n0 T0 g0 k' n' h' (mkF m pc' L (.ref a :: S)) := by
  subst hp hk hn'
  obtain ⟨q, T, locs, X, eT, N, st⟩ := r
  obtain ⟨T', h', cA, X', e', E, A, O, st'⟩ := newR X q.1 q.2.2.2.2.1 q.2.2.2.1 w1 w2 eT (g := mkF m pc L (.int i :: S)) rfl (hb q.2.1 hd) rfl hn hcap hbg hc hl
  exact ⟨h', h.size, cA, rfl, E, O, Arv.new A hn, q, T', locs, X', e', N, fun t z => st t (st' t z)⟩
theorem inbI {c : Cell} {z j : Int32} (S : c.slots.size = z.toNatClampNeg) (h1 : ¬ j < 0) (h2 : j < z) : ¬ (j < 0 ∨ c.slots.size ≤ j.toNatClampNeg) := inb_of S ⟨h1, h2⟩
theorem Rch.stI {a : Addr} {kc : ClassId} {z j : Int32} {x : Int32} {vs : List Value} {dv : Value} (r : Rch p l e R s m args below meth c Z y bc ml rt n0 T0 g0 k n h (mkF m pc L (.int x :: .int j :: .ref a :: S))) (hd : decode bc pc = .ok (.iastore, 1)) (V : Arv Z h a kc .int z vs dv) (h1 : ¬ j < 0) (h2 : j < z) (h3 : j.toNatClampNeg < vs.length) (hN : n0 ≤ a) (hp : pc + 1 = pc') :
    ∃ h', Wr h h' a j.toNatClampNeg (.int x) ∧ Arv Z h' a kc .int z (vs.set j.toNatClampNeg (.int x)) dv ∧ Rch p l e R s m args below meth c Z y bc ml rt n0 T0 g0 k n h' (mkF m pc' L S) := by
  subst hp
  obtain ⟨q, T, locs, X, eT, N, st⟩ := r
  obtain ⟨cl, A, q1, S1, q3, H, G⟩ := V
  obtain ⟨T', h', X', e', W, st'⟩ := stI X q.1 q.2.2.2.2.1 eT A (j := j) (inbI S1 h1 h2) (g := mkF m pc L (.int x :: .int j :: .ref a :: S)) rfl rfl (hb q.2.1 hd)
  exact ⟨h', W, Arv.set A q1 S1 q3 H G rfl W _ rfl h3, q, T', _, X', e', Fr.snoc X' N hN, fun t z => st t (st' t z)⟩
theorem Rch.stB {a : Addr} {kc : ClassId} {z j : Int32} {x : Int32} {vs : List Value} {dv : Value} (r : Rch p l e R s m args below meth c Z y bc ml rt n0 T0 g0 k n h (mkF m pc L (.int x :: .int j :: .ref a :: S))) (hd : decode bc pc = .ok (.bastore, 1)) (V : Arv Z h a kc .byte z vs dv) (h1 : ¬ j < 0) (h2 : j < z) (h3 : j.toNatClampNeg < vs.length) (hN : n0 ≤ a) (hp : pc + 1 = pc') :
    ∃ h', Wr h h' a j.toNatClampNeg (.int (nar .byte x)) ∧ Arv Z h' a kc .byte z (vs.set j.toNatClampNeg (.int (nar .byte x))) dv ∧ Rch p l e R s m args below meth c Z y bc ml rt n0 T0 g0 k n h' (mkF m pc' L S) := by
  subst hp
  obtain ⟨q, T, locs, X, eT, N, st⟩ := r
  obtain ⟨cl, A, q1, S1, q3, H, G⟩ := V
  obtain ⟨T', h', X', e', W, st'⟩ := stB X q.1 q.2.2.2.2.1 eT A (j := j) (inbI S1 h1 h2) (g := mkF m pc L (.int x :: .int j :: .ref a :: S)) rfl rfl (hb q.2.1 hd)
  exact ⟨h', W, Arv.set A q1 S1 q3 H G (fits_nar_byte _) W _ rfl h3, q, T', _, X', e', Fr.snoc X' N hN, fun t z => st t (st' t z)⟩
theorem Rch.stC {a : Addr} {kc : ClassId} {z j : Int32} {x : Int32} {vs : List Value} {dv : Value} (r : Rch p l e R s m args below meth c Z y bc ml rt n0 T0 g0 k n h (mkF m pc L (.int x :: .int j :: .ref a :: S))) (hd : decode bc pc = .ok (.castore, 1)) (V : Arv Z h a kc .char z vs dv) (h1 : ¬ j < 0) (h2 : j < z) (h3 : j.toNatClampNeg < vs.length) (hN : n0 ≤ a) (hp : pc + 1 = pc') :
    ∃ h', Wr h h' a j.toNatClampNeg (.int (nar .char x)) ∧ Arv Z h' a kc .char z (vs.set j.toNatClampNeg (.int (nar .char x))) dv ∧ Rch p l e R s m args below meth c Z y bc ml rt n0 T0 g0 k n h' (mkF m pc' L S) := by
  subst hp
  obtain ⟨q, T, locs, X, eT, N, st⟩ := r
  obtain ⟨cl, A, q1, S1, q3, H, G⟩ := V
  obtain ⟨T', h', X', e', W, st'⟩ := stC X q.1 q.2.2.2.2.1 eT A (j := j) (inbI S1 h1 h2) (g := mkF m pc L (.int x :: .int j :: .ref a :: S)) rfl rfl (hb q.2.1 hd)
  exact ⟨h', W, Arv.set A q1 S1 q3 H G (fits_nar_char _) W _ rfl h3, q, T', _, X', e', Fr.snoc X' N hN, fun t z => st t (st' t z)⟩
theorem Rch.stZ {a : Addr} {kc : ClassId} {z j : Int32} {x : Int32} {vs : List Value} {dv : Value} (r : Rch p l e R s m args below meth c Z y bc ml rt n0 T0 g0 k n h (mkF m pc L (.int x :: .int j :: .ref a :: S))) (hd : decode bc pc = .ok (.bastore, 1)) (V : Arv Z h a kc .boolean z vs dv) (h1 : ¬ j < 0) (h2 : j < z) (h3 : j.toNatClampNeg < vs.length) (hN : n0 ≤ a) (hp : pc + 1 = pc') :
    ∃ h', Wr h h' a j.toNatClampNeg (.int (nar .boolean x)) ∧ Arv Z h' a kc .boolean z (vs.set j.toNatClampNeg (.int (nar .boolean x))) dv ∧ Rch p l e R s m args below meth c Z y bc ml rt n0 T0 g0 k n h' (mkF m pc' L S) := by
  subst hp
  obtain ⟨q, T, locs, X, eT, N, st⟩ := r
  obtain ⟨cl, A, q1, S1, q3, H, G⟩ := V
  obtain ⟨T', h', X', e', W, st'⟩ := stZ X q.1 q.2.2.2.2.1 eT A (j := j) (inbI S1 h1 h2) (g := mkF m pc L (.int x :: .int j :: .ref a :: S)) rfl rfl (hb q.2.1 hd)
  exact ⟨h', W, Arv.set A q1 S1 q3 H G (fits_nar_bool _) W _ rfl h3, q, T', _, X', e', Fr.snoc X' N hN, fun t z => st t (st' t z)⟩
theorem Rch.stJ {a : Addr} {kc : ClassId} {z j : Int32} {x : Int64} {vs : List Value} {dv : Value} (r : Rch p l e R s m args below meth c Z y bc ml rt n0 T0 g0 k n h (mkF m pc L (.long x :: .int j :: .ref a :: S))) (hd : decode bc pc = .ok (.lastore, 1)) (V : Arv Z h a kc .long z vs dv) (h1 : ¬ j < 0) (h2 : j < z) (h3 : j.toNatClampNeg < vs.length) (hN : n0 ≤ a) (hp : pc + 1 = pc') :
    ∃ h', Wr h h' a j.toNatClampNeg (.long x) ∧ Arv Z h' a kc .long z (vs.set j.toNatClampNeg (.long x)) dv ∧ Rch p l e R s m args below meth c Z y bc ml rt n0 T0 g0 k n h' (mkF m pc' L S) := by
  subst hp
  obtain ⟨q, T, locs, X, eT, N, st⟩ := r
  obtain ⟨cl, A, q1, S1, q3, H, G⟩ := V
  obtain ⟨T', h', X', e', W, st'⟩ := stJ X q.1 q.2.2.2.2.1 eT A (j := j) (inbI S1 h1 h2) (g := mkF m pc L (.long x :: .int j :: .ref a :: S)) rfl rfl (hb q.2.1 hd)
  exact ⟨h', W, Arv.set A q1 S1 q3 H G rfl W _ rfl h3, q, T', _, X', e', Fr.snoc X' N hN, fun t z => st t (st' t z)⟩
theorem Rch.stR {C : String} {a : Addr} {kc : ClassId} {z j : Int32} {v : Value} {vs : List Value} {dv : Value} (r : Rch p l e R s m args below meth c Z y bc ml rt n0 T0 g0 k n h (mkF m pc L (v :: .int j :: .ref a :: S))) (hd : decode bc pc = .ok (.aastore, 1)) (V : Arv Z h a kc (.object C) z vs dv) (h1 : ¬ j < 0) (h2 : j < z) (h3 : j.toNatClampNeg < vs.length) (hs : Sto Z h a v) (hv : v.isRef = true) (hN : n0 ≤ a) (hp : pc + 1 = pc') :
    ∃ h', Wr h h' a j.toNatClampNeg v ∧ Arv Z h' a kc (.object C) z (vs.set j.toNatClampNeg v) dv ∧ Rch p l e R s m args below meth c Z y bc ml rt n0 T0 g0 k n h' (mkF m pc' L S) := by
  subst hp
  obtain ⟨q, T, locs, X, eT, N, st⟩ := r
  obtain ⟨cl, A, q1, S1, q3, H, G⟩ := V
  obtain ⟨T', h', X', e', W, st'⟩ := stR X q.1 q.2.2.2.2.1 eT A (j := j) (inbI S1 h1 h2) rfl hs (g := mkF m pc L (v :: .int j :: .ref a :: S)) rfl rfl (hb q.2.1 hd)
  have hf : fits (.object C) v = true := by cases v <;> first | rfl | (cases hv; done)
  exact ⟨h', W, Arv.set A q1 S1 q3 H G hf W _ rfl h3, q, T', _, X', e', Fr.snoc X' N hN, fun t z => st t (st' t z)⟩
theorem Rch.ldI {a : Addr} {kc : ClassId} {z j : Int32} {vs : List Value} {dv : Value} (v : Value) (r : Rch p l e R s m args below meth c Z y bc ml rt n0 T0 g0 k n h (mkF m pc L (.int j :: .ref a :: S))) (hd : decode bc pc = .ok (.iaload, 1)) (V : Arv Z h a kc .int z vs dv) (h1 : ¬ j < 0) (h2 : j < z) (hv : vs.getD j.toNatClampNeg dv = v) (hp : pc + 1 = pc') :
    Rch p l e R s m args below meth c Z y bc ml rt n0 T0 g0 k n h (mkF m pc' L (v :: S)) := by
  subst hp
  obtain ⟨cl, A, q1, S1, q3, H, G⟩ := V
  exact r.pure fun T locs X eT t w => X.iaload r.1.1 (j := j) (v := v) (by rw [eT]; exact A.1) (State.isArrayOf_alike r.1.2.2.2.2.1.alike A.2.1) A.2.2 (inbI S1 h1 h2) (Has.at H (inbI S1 h1 h2) hv) (g := mkF m pc L (.int j :: .ref a :: S)) rfl rfl (hb r.1.2.1 hd) _ w
theorem Rch.ldJ {a : Addr} {kc : ClassId} {z j : Int32} {vs : List Value} {dv : Value} (v : Value) (r : Rch p l e R s m args below meth c Z y bc ml rt n0 T0 g0 k n h (mkF m pc L (.int j :: .ref a :: S))) (hd : decode bc pc = .ok (.laload, 1)) (V : Arv Z h a kc .long z vs dv) (h1 : ¬ j < 0) (h2 : j < z) (hv : vs.getD j.toNatClampNeg dv = v) (hp : pc + 1 = pc') :
    Rch p l e R s m args below meth c Z y bc ml rt n0 T0 g0 k n h (mkF m pc' L (v :: S)) := by
  subst hp
  obtain ⟨cl, A, q1, S1, q3, H, G⟩ := V
  exact r.pure fun T locs X eT t w => X.laload r.1.1 (j := j) (v := v) (by rw [eT]; exact A.1) (State.isArrayOf_alike r.1.2.2.2.2.1.alike A.2.1) A.2.2 (inbI S1 h1 h2) (Has.at H (inbI S1 h1 h2) hv) (g := mkF m pc L (.int j :: .ref a :: S)) rfl rfl (hb r.1.2.1 hd) _ w
theorem Rch.ldB {a : Addr} {kc : ClassId} {z j : Int32} {vs : List Value} {dv : Value} (v : Value) (r : Rch p l e R s m args below meth c Z y bc ml rt n0 T0 g0 k n h (mkF m pc L (.int j :: .ref a :: S))) (hd : decode bc pc = .ok (.baload, 1)) (V : Arv Z h a kc .byte z vs dv) (h1 : ¬ j < 0) (h2 : j < z) (hv : vs.getD j.toNatClampNeg dv = v) (hp : pc + 1 = pc') :
    Rch p l e R s m args below meth c Z y bc ml rt n0 T0 g0 k n h (mkF m pc' L (v :: S)) := by
  subst hp
  obtain ⟨cl, A, q1, S1, q3, H, G⟩ := V
  exact r.pure fun T locs X eT t w => X.baloadBytes r.1.1 (j := j) (v := v) (by rw [eT]; exact A.1) (State.isArrayOf_alike r.1.2.2.2.2.1.alike A.2.1) A.2.2 (inbI S1 h1 h2) (Has.at H (inbI S1 h1 h2) hv) (g := mkF m pc L (.int j :: .ref a :: S)) rfl rfl (hb r.1.2.1 hd) _ w
theorem Rch.ldC {a : Addr} {kc : ClassId} {z j : Int32} {vs : List Value} {dv : Value} (v : Value) (r : Rch p l e R s m args below meth c Z y bc ml rt n0 T0 g0 k n h (mkF m pc L (.int j :: .ref a :: S))) (hd : decode bc pc = .ok (.caload, 1)) (V : Arv Z h a kc .char z vs dv) (h1 : ¬ j < 0) (h2 : j < z) (hv : vs.getD j.toNatClampNeg dv = v) (hp : pc + 1 = pc') :
    Rch p l e R s m args below meth c Z y bc ml rt n0 T0 g0 k n h (mkF m pc' L (v :: S)) := by
  subst hp
  obtain ⟨cl, A, q1, S1, q3, H, G⟩ := V
  exact r.pure fun T locs X eT t w => X.caload r.1.1 (j := j) (v := v) (by rw [eT]; exact A.1) (State.isArrayOf_alike r.1.2.2.2.2.1.alike A.2.1) A.2.2 (inbI S1 h1 h2) (Has.at H (inbI S1 h1 h2) hv) (g := mkF m pc L (.int j :: .ref a :: S)) rfl rfl (hb r.1.2.1 hd) _ w
theorem Rch.ldR {ty : FieldType} {a : Addr} {kc : ClassId} {z j : Int32} {vs : List Value} {dv : Value} (v : Value) (r : Rch p l e R s m args below meth c Z y bc ml rt n0 T0 g0 k n h (mkF m pc L (.int j :: .ref a :: S))) (hd : decode bc pc = .ok (.aaload, 1)) (V : Arv Z h a kc ty z vs dv) (hty : ty.isReference = true) (h1 : ¬ j < 0) (h2 : j < z) (hv : vs.getD j.toNatClampNeg dv = v) (hp : pc + 1 = pc') :
    Rch p l e R s m args below meth c Z y bc ml rt n0 T0 g0 k n h (mkF m pc' L (v :: S)) := by
  subst hp
  obtain ⟨cl, A, q1, S1, q3, H, G⟩ := V
  exact r.pure fun T locs X eT t w => X.aaload r.1.1 (j := j) (v := v) (by rw [eT]; exact A.1) (State.isArrayOf_alike r.1.2.2.2.2.1.alike A.2.1) hty A.2.2 (inbI S1 h1 h2) (Has.at H (inbI S1 h1 h2) hv) (g := mkF m pc L (.int j :: .ref a :: S)) rfl rfl (hb r.1.2.1 hd) _ w
theorem Rch.ldI0 {a : Addr} {kc : ClassId} {z j : Int32} {vs : List Value} {dv : Value} (r : Rch p l e R s m args below meth c Z y bc ml rt n0 T0 g0 k n h (mkF m pc L (.int j :: .ref a :: S))) (hd : decode bc pc = .ok (.iaload, 1)) (V : Arv Z h a kc .int z vs dv) (h1 : ¬ j < 0) (h2 : j < z) (hp : pc + 1 = pc') :
    ∃ x : Int32, vs.getD j.toNatClampNeg dv = .int x ∧ Rch p l e R s m args below meth c Z y bc ml rt n0 T0 g0 k n h (mkF m pc' L (.int x :: S)) := by
  have V0 := V
  obtain ⟨cl, A, q1, S1, q3, H, G⟩ := V0
  have hlt := Nat.lt_of_not_le fun q => inbI S1 h1 h2 (Or.inr q)
  obtain ⟨x, hx⟩ := fit_I (G _ hlt) (Or.inl rfl)
  exact ⟨x, hx, Rch.ldI (.int x) r hd V h1 h2 hx hp⟩
theorem Rch.stI0 {a : Addr} {kc : ClassId} {z j x : Int32} {vs : List Value} {dv : Value} (r : Rch p l e R s m args below meth c Z y bc ml rt n0 T0 g0 k n h (mkF m pc L (.int x :: .int j :: .ref a :: S))) (hd : decode bc pc = .ok (.iastore, 1)) (V : Arv Z h a kc .int z vs dv) (h1 : ¬ j < 0) (h2 : j < z) (hN : n0 ≤ a) (hp : pc + 1 = pc') :
    ∃ h' vs', Wr h h' a j.toNatClampNeg (.int x) ∧ Arv Z h' a kc .int z vs' dv ∧ Rch p l e R s m args below meth c Z y bc ml rt n0 T0 g0 k n h' (mkF m pc' L S) := by
  obtain ⟨h', W, V', r'⟩ := Rch.stI r hd (V.pad (pad_rep vs dv (j.toNatClampNeg + 1))) h1 h2 (by simp; omega) hN hp
  exact ⟨h', _, W, V', r'⟩
theorem Rch.alen {ty : FieldType} {a : Addr} {kc : ClassId} {z : Int32} {vs : List Value} {dv : Value} (r : Rch p l e R s m args below meth c Z y bc ml rt n0 T0 g0 k n h (mkF m pc L (.ref a :: S))) (hd : decode bc pc = .ok (.arraylength, 1)) (V : Arv Z h a kc ty z vs dv) (hp : pc + 1 = pc') :
    Rch p l e R s m args below meth c Z y bc ml rt n0 T0 g0 k n h (mkF m pc' L (.int z :: S)) := by
  subst hp
  obtain ⟨cl, A, -, S1, S2, -, -⟩ := V
  refine r.pure fun T locs X eT t w => X.arraylength r.1.1 (by rw [eT]; exact A.1) (State.isArrayOf_alike r.1.2.2.2.2.1.alike A.2.1) (g := mkF m pc L (.ref a :: S)) rfl rfl (hb r.1.2.1 hd) _ ?_
  rw [len_of S1 S2]
  exact w
-- returns
theorem Rch.retZ {z : Int32} {t : FieldType} (r : Rch p l e R s m args below meth c Z y bc ml rt n0 T0 g0 k n h (mkF m pc L (.int z :: S))) (hd : decode bc pc = .ok (.ireturn, 1)) (hrt : rt = some t) (ht : t = .boolean ∨ t = .byte ∨ t = .char ∨ t = .short) (w : Int32) (hw : nar t z = w) (hk : k ≤ R.cells) (hn : n ≤ R.slots) : Don p l e R s m args below meth c rt n0 T0 g0 (some (.int w)) h := by
  subst hw
  obtain ⟨q, T, locs, X, eT, N, st⟩ := r
  refine ⟨T, locs, k, n, X, hk, hn, eT, N, q.2.2.2.2.2.2.1, (fun z => ?_), fun fs hl => st _ (retN X q.1 (t := t) (q.2.2.2.2.2.1.trans hrt) ht (hb q.2.1 hd) hl)⟩
  rw [q.2.2.2.2.2.1, hrt] at z; cases z
theorem Rch.retI {z : Int32} (r : Rch p l e R s m args below meth c Z y bc ml rt n0 T0 g0 k n h (mkF m pc L (.int z :: S))) (hd : decode bc pc = .ok (.ireturn, 1)) (hrt : rt = some .int) (hk : k ≤ R.cells) (hn : n ≤ R.slots) : Don p l e R s m args below meth c rt n0 T0 g0 (some (.int z)) h := by
  obtain ⟨q, T, locs, X, eT, N, st⟩ := r
  refine ⟨T, locs, k, n, X, hk, hn, eT, N, q.2.2.2.2.2.2.1, (fun z => ?_), fun fs hl => st _ (retOut X q.1 (t := .int) (q.2.2.2.2.2.1.trans hrt) rfl (Or.inl ⟨rfl, Or.inl rfl, _, rfl⟩) (hb q.2.1 hd) hl)⟩
  rw [q.2.2.2.2.2.1, hrt] at z; cases z
theorem Rch.retJ {z : Int64} (r : Rch p l e R s m args below meth c Z y bc ml rt n0 T0 g0 k n h (mkF m pc L (.long z :: S))) (hd : decode bc pc = .ok (.lreturn, 1)) (hrt : rt = some .long) (hk : k ≤ R.cells) (hn : n ≤ R.slots) : Don p l e R s m args below meth c rt n0 T0 g0 (some (.long z)) h := by
  obtain ⟨q, T, locs, X, eT, N, st⟩ := r
  refine ⟨T, locs, k, n, X, hk, hn, eT, N, q.2.2.2.2.2.2.1, (fun z => ?_), fun fs hl => st _ (retOut X q.1 (t := .long) (q.2.2.2.2.2.1.trans hrt) rfl (Or.inr (Or.inl ⟨rfl, rfl, _, rfl⟩)) (hb q.2.1 hd) hl)⟩
  rw [q.2.2.2.2.2.1, hrt] at z; cases z
theorem Rch.retA {v : Value} {t : FieldType} (r : Rch p l e R s m args below meth c Z y bc ml rt n0 T0 g0 k n h (mkF m pc L (v :: S))) (hd : decode bc pc = .ok (.areturn, 1)) (hrt : rt = some t) (ht : t.isReference = true) (hv : v.isRef = true) (hk : k ≤ R.cells) (hn : n ≤ R.slots) : Don p l e R s m args below meth c rt n0 T0 g0 (some v) h := by
  obtain ⟨q, T, locs, X, eT, N, st⟩ := r
  have hnar : narrow t v = v := by cases v <;> first | (cases hv; done) | (cases t <;> rfl)
  refine ⟨T, locs, k, n, X, hk, hn, eT, N, q.2.2.2.2.2.2.1, (fun z => ?_), fun fs hl => st _ (retOut X q.1 (t := t) (q.2.2.2.2.2.1.trans hrt) hnar (Or.inr (Or.inr (Or.inr (Or.inr ⟨rfl, ht, hv⟩)))) (hb q.2.1 hd) hl)⟩
  rw [q.2.2.2.2.2.1, hrt] at z; cases z
theorem Rch.retV (r : Rch p l e R s m args below meth c Z y bc ml rt n0 T0 g0 k n h (mkF m pc L [])) (hd : decode bc pc = .ok (.return_, 1)) (hrt : rt = none) (hk : k ≤ R.cells) (hn : n ≤ R.slots) : Don p l e R s m args below meth c rt n0 T0 g0 none h := by
  obtain ⟨q, T, locs, X, eT, N, st⟩ := r
  exact ⟨T, locs, k, n, X, hk, hn, eT, N, q.2.2.2.2.2.2.1, fun _ => rfl, fun fs hl => st _ (X.returnOut q.1 (q.2.2.2.2.2.1.trans hrt) (hb q.2.1 hd) hl)⟩
-- entering a body
theorem ent {rm : Room} {as : Array Value} {h0 : Heap} {Q : Option Value → Heap → Prop} {L0 : Array Slot} (hpl : plainFor y = true) (hL : ∀ m, entryFrame m as ml = mkF m 0 L0 [])
    (H : ∀ p e s m below meth c T0, Rch p l e rm s m as below meth c Z y bc ml rt n0 T0 (mkF m 0 L0 []) 0 0 h0 (mkF m 0 L0 []) → ∃ v h, Don p l e rm s m as below meth c rt n0 T0 (mkF m 0 L0 []) v h ∧ Q v h) : Ctr l Z y bc ml rt rm as h0 n0 Q := by
  intro ws
  refine MetFree.of_bodySF hpl hisR ?_
  intro p e s m args below meth c s₁ Bd hml0 hP hK
  obtain ⟨rfl, hZ, hh⟩ := hP
  have hown : s.vm.findClass y.cls = some m.cls := findClass_of_methodNamed Bd.named
  have hnm := (name_of_methodNamed Bd.named Bd.method).1
  have X0 : Stand p l e rm s m args below meth c s₁ [] 0 0 := Stand.of_body Bd
  have e0 : s₁.heap = h0 := by rw [← hh, Bd.state]; rfl
  obtain ⟨v, h, ⟨T, locs, k, n, X, hk, hn, eT, N, hlk, hv, st⟩, hq⟩ := H p e s m below meth c s₁ ⟨⟨Bd.exec, Bd.bytes, hml0, hown, hZ, Bd.returns, Bd.notSynchronized, hnm⟩, s₁, [], X0, e0, Fr.nil n0, fun _ z => z⟩
  obtain ⟨fs, hr, hrun, hended, hW, hsame⟩ := X.leave (v := v) hv hlk
  refine ⟨_, _, castTop (hL m) (st fs hr), hrun, hended, v, locs, rfl, ⟨N, ?_⟩, ⟨_, rfl⟩, hW, hsame.mono hk hn⟩
  show Q v T.heap
  rw [eT]; exact hq
-- calls
theorem Rch.callS {z : MethodName} {bc' : ByteArray} {ml' : Nat} {rt' : Option FieldType} {rm : Room} {idx : Nat} {ps : List FieldType} {ro : Option FieldType} {Q : Option Value → Heap → Prop} (argsL : List Value) {rest : List Value} (W : Nat)
    (r : Rch p l e R s m args below meth c Z y bc ml rt n0 T0 g0 k n h (mkF m pc L S)) (hd : decode bc pc = .ok (.invokestatic idx, 3)) (w1 : (Jvm.Cond.methodLink y.cls idx z).before a0 Z = true) (w2 : (Jvm.Cond.static z).before a0 Z = true) (w3 : (Jvm.Cond.initialized z.cls).before a0 Z = true) (w4 : (Jvm.Cond.code z bc' ml' rt').before a0 Z = true)
    (hy : z.cls ≠ "java/lang/invoke/MethodHandle" ∧ z.cls ≠ "java/lang/invoke/VarHandle") (C : Ctr l Z z bc' ml' rt' rm argsL.toArray h n0 Q) (pd : parseMethodDescriptor z.desc = some ⟨ps, ro⟩) (hlen : argsL.length = ps.length) (hS : S = argsL.reverse ++ rest) (hml : L.size = ml)
    (hW : (rest.map fun v => v.category).sum ≤ W) (hf : rm.frames + 1 ≤ R.frames) (hlo : W + (ml' + 11) + rm.locals ≤ R.locals) {k' n' : Nat} (hk : k + rm.cells = k') (hn' : n + rm.slots = n') (hc : k' ≤ R.cells) (hl : n' ≤ R.slots) (hp : pc + 3 = pc') :
    ∃ v h', Q v h' ∧ Rch p l e R s m args below meth c Z y bc ml rt n0 T0 g0 k' n' h' (mkF m pc' L (v.toList ++ rest)) := by
  subst hp hS hk hn'
  obtain ⟨q, T, locs, X, eT, N, st⟩ := r
  obtain ⟨v, _, ⟨T', L', kk', nn'⟩, -, X', ⟨Lc, hQ, l1, y1, z1⟩, st'⟩ := Jvm.LawKit.callS X q.1 (y := z) q.2.2.2.1 (mvT q.2.2.2.2.1 w1) (mvT q.2.2.2.2.1 w2) (mvT q.2.2.2.2.1 w3) (mvT q.2.2.2.2.1 w4) hy (backOf (W := W) (Q := fun v h L => Fr n0 L ∧ Q v h) (C []) q.2.2.2.2.1 w4 w3 hf hlo) (g := mkF m pc L (argsL.reverse ++ rest)) rfl (by rw [q.2.2.1]; exact hml) (argsL := argsL) (rest := rest) (lenOf pd hlen) rfl (by simpa using hW) (hb q.2.1 hd) (fun _ _ => ⟨rfl, eT, hc, hl⟩)
  dsimp only [Pt.U, Pt.locs, Pt.cells, Pt.slots] at X' l1 y1 z1 st' hQ
  subst l1 y1 z1
  exact ⟨v, T'.heap, hQ.2, q, T', _, X', rfl, N.app hQ.1, fun t u => st t (st' t u)⟩
theorem Rch.callC {z : MethodName} {bc' : ByteArray} {ml' : Nat} {rm : Room} {idx : Nat} {ps : List FieldType} {ro : Option FieldType} {Q : Option Value → Heap → Prop} {a : Addr} (argsL : List Value) {rest : List Value} (W : Nat)
    (r : Rch p l e R s m args below meth c Z y bc ml rt n0 T0 g0 k n h (mkF m pc L S)) (hd : decode bc pc = .ok (.invokespecial idx, 3)) (hi : z.name = "<init>") (w1 : (Jvm.Cond.methodLink y.cls idx z).before a0 Z = true) (w2 : (Jvm.Cond.instanceMethod z).before a0 Z = true) (w3 : (Jvm.Cond.initialized z.cls).before a0 Z = true) (w4 : (Jvm.Cond.code z bc' ml' none).before a0 Z = true)
    (hy : z.cls ≠ "java/lang/invoke/MethodHandle" ∧ z.cls ≠ "java/lang/invoke/VarHandle") (C : Ctr l Z z bc' ml' none rm (.ref a :: argsL).toArray h n0 Q) (pd : parseMethodDescriptor z.desc = some ⟨ps, ro⟩) (hlen : argsL.length = ps.length) (hS : S = argsL.reverse ++ .ref a :: rest) (hml : L.size = ml)
    (hW : (rest.map fun v => v.category).sum ≤ W) (hf : rm.frames + 1 ≤ R.frames) (hlo : W + (ml' + 11) + rm.locals ≤ R.locals) {k' n' : Nat} (hk : k + rm.cells = k') (hn' : n + rm.slots = n') (hc : k' ≤ R.cells) (hl : n' ≤ R.slots) (hp : pc + 3 = pc') :
    ∃ v h', Q v h' ∧ Rch p l e R s m args below meth c Z y bc ml rt n0 T0 g0 k' n' h' (mkF m pc' L (v.toList ++ rest)) := by
  subst hp hS hk hn'
  obtain ⟨q, T, locs, X, eT, N, st⟩ := r
  obtain ⟨v, _, ⟨T', L', kk', nn'⟩, -, X', ⟨Lc, hQ, l1, y1, z1⟩, st'⟩ := X.specialBack q.1 (y := z) hi q.2.2.2.1 (mvT q.2.2.2.2.1 w1) (mvT q.2.2.2.2.1 w2) (mvT q.2.2.2.2.1 w4) hy (backOf (W := W) (Q := fun v h L => Fr n0 L ∧ Q v h) (C []) q.2.2.2.2.1 w4 w3 hf hlo) (g := mkF m pc L (argsL.reverse ++ .ref a :: rest)) rfl (by rw [q.2.2.1]; exact hml) (Steps.refl _) (a := a) (argsL := argsL) (rest := rest) (lenOf pd hlen) rfl (by simpa using hW) (hb q.2.1 hd) (fun _ _ => ⟨rfl, eT, hc, hl⟩)
  dsimp only [Pt.U, Pt.locs, Pt.cells, Pt.slots] at X' l1 y1 z1 st' hQ
  subst l1 y1 z1
  exact ⟨v, T'.heap, hQ.2, q, T', _, X', rfl, N.app hQ.1, fun t u => st t (st'.trans u)⟩
theorem Rch.callV {z z' : MethodName} {K : String} {bc' : ByteArray} {ml' : Nat} {rt' : Option FieldType} {rm : Room} {idx : Nat} {ps : List FieldType} {ro : Option FieldType} {Q : Option Value → Heap → Prop} {a : Addr} (argsL : List Value) {rest : List Value} (W : Nat)
    (r : Rch p l e R s m args below meth c Z y bc ml rt n0 T0 g0 k n h (mkF m pc L S)) (hd : decode bc pc = .ok (.invokevirtual idx, 3)) (w1 : (Jvm.Cond.methodLink y.cls idx z).before a0 Z = true) (w2 : (Jvm.Cond.declares z).before a0 Z = true) (nf : NotFace s z) (w5 : (Jvm.Cond.selects K z z').before a0 Z = true) (w6 : (Jvm.Cond.instanceMethod z').before a0 Z = true) (w3 : (Jvm.Cond.initialized z'.cls).before a0 Z = true) (w4 : (Jvm.Cond.code z' bc' ml' rt').before a0 Z = true)
    (hy : z.cls ≠ "java/lang/invoke/MethodHandle" ∧ z.cls ≠ "java/lang/invoke/VarHandle") (C : Ctr l Z z' bc' ml' rt' rm (.ref a :: argsL).toArray h n0 Q) (E : Exa Z h a K) (pd : parseMethodDescriptor z.desc = some ⟨ps, ro⟩) (hlen : argsL.length = ps.length) (hS : S = argsL.reverse ++ .ref a :: rest) (hml : L.size = ml)
    (hW : (rest.map fun v => v.category).sum ≤ W) (hf : rm.frames + 1 ≤ R.frames) (hlo : W + (ml' + 11) + rm.locals ≤ R.locals) {k' n' : Nat} (hk : k + rm.cells = k') (hn' : n + rm.slots = n') (hc : k' ≤ R.cells) (hl : n' ≤ R.slots) (hp : pc + 3 = pc') :
    ∃ v h', Q v h' ∧ Rch p l e R s m args below meth c Z y bc ml rt n0 T0 g0 k' n' h' (mkF m pc' L (v.toList ++ rest)) := by
  subst hp hS hk hn'
  obtain ⟨q, T, locs, X, eT, N, st⟩ := r
  obtain ⟨cq, kq, qa, qb, qc⟩ := isOf q.2.2.2.2.1 eT E
  obtain ⟨v, _, ⟨T', L', kk', nn'⟩, -, X', ⟨Lc, hQ, l1, y1, z1⟩, st'⟩ := X.virtualBack q.1 (y := z) (z := z') q.2.2.2.1 (mvT q.2.2.2.2.1 w1) (mvT q.2.2.2.2.1 w2) nf (mvT q.2.2.2.2.1 w5) (mvT q.2.2.2.2.1 w6) hy (backOf (W := W) (Q := fun v h L => Fr n0 L ∧ Q v h) (C []) q.2.2.2.2.1 w4 w3 hf hlo) qa qc (g := mkF m pc L (argsL.reverse ++ .ref a :: rest)) rfl (by rw [q.2.2.1]; exact hml) (Steps.refl _) (argsL := argsL) (rest := rest) (lenOf pd hlen) rfl (by simpa using hW) (hb q.2.1 hd) (fun _ _ => ⟨rfl, eT, hc, hl⟩)
  dsimp only [Pt.U, Pt.locs, Pt.cells, Pt.slots] at X' l1 y1 z1 st' hQ
  subst l1 y1 z1
  exact ⟨v, T'.heap, hQ.2, q, T', _, X', rfl, N.app hQ.1, fun t u => st t (st'.trans u)⟩
theorem Rch.nface {z z' : MethodName} {K : String} {g : JFrame} (r : Rch p l e R s m args below meth c Z y bc ml rt n0 T0 g0 k n h g) (w : (Jvm.Cond.selects K z z').before a0 Z = true) (hq : z = z') : NotFace s z := by
  subst hq; exact notFace_of_selects (args := #[]) (mvT r.1.2.2.2.2.1 w)
theorem Rch.initO {idx : Nat} {a : Addr} (W : Nat) (r : Rch p l e R s m args below meth c Z y bc ml rt n0 T0 g0 k n h (mkF m pc L (.ref a :: S))) (hd : decode bc pc = .ok (.invokespecial idx, 3)) (w1 : (Jvm.Cond.methodLink y.cls idx Lib.objectInit).before a0 Z = true) (w2 : (Jvm.Cond.instanceMethod Lib.objectInit).before a0 Z = true) (w3 : (Jvm.Cond.code Lib.objectInit ⟨#[0xb1]⟩ 1 none).before a0 Z = true) (hml : L.size = ml)
    (hf : 1 ≤ R.frames) (hW : (S.map fun v => v.category).sum ≤ W) (hl : W + 12 ≤ R.locals) (hp : pc + 3 = pc') : Rch p l e R s m args below meth c Z y bc ml rt n0 T0 g0 k n h (mkF m pc' L S) := by
  subst hp
  exact r.keep fun T locs X eT => initO X r.1.1 r.1.2.2.2.2.1 r.1.2.2.2.1 w1 w2 w3 eT (g := mkF m pc L (.ref a :: S)) rfl (by rw [r.1.2.2.1]; exact hml) rfl (hb r.1.2.1 hd) hf (W := W) (by simpa using hW) hl
end OwnLayer

section OwnArrI
/-- an int[] of the length z whose values are F (its ClassId unsaid) -/
def ArI (Z : State) (h : Heap) (a : Addr) (z : Int32) (F : List Int32) : Prop := ∃ kc, Arv Z h a kc .int z (F.map Value.int) (.int 0)
abbrev gI (F : List Int32) (j : Int32) : Int32 := F.getD j.toNatClampNeg 0
theorem getD_mapI (F : List Int32) (i : Nat) : (F.map Value.int).getD i (.int 0) = .int (F.getD i 0) := by
  simp only [List.getD_eq_getElem?_getD, List.getElem?_map]
  cases F[i]? <;> rfl
variable {p : Program} {l : Launch} {e : Env} {R : Room} {s : State} {m : MethodId} {args : Array Value} {below : List Frame} {meth : Method} {c : Code} {Z : State} {y : MethodName} {bc : ByteArray} {ml : Nat} {rt : Option FieldType} {n0 : Nat} {T0 : State} {g0 : JFrame} {k n : Nat} {h h' : Heap} {a0 : Array Value} {pc pc' : Nat} {L : Array Slot} {S : List Value} {a b : Addr} {z j x : Int32} {F : List Int32}
theorem ArI.lt (V : ArI Z h a z F) : a < h.size := by obtain ⟨_, V⟩ := V; exact Jvm.RoadKit.Arv.lt V
theorem ArI.ext (V : ArI Z h a z F) (E : Ext h h') : ArI Z h' a z F := by obtain ⟨kc, V⟩ := V; exact ⟨kc, Jvm.RoadKit.Arv.ext V E⟩
theorem ArI.other {sl : Nat} {v : Value} (V : ArI Z h b z F) (W : Wr h h' a sl v) (q : b ≠ a) : ArI Z h' b z F := by obtain ⟨kc, V⟩ := V; exact ⟨kc, Jvm.RoadKit.Arv.other V W q⟩
theorem ArI.keep {ws : List Addr} (V : ArI Z h a z F) (K : Keep h h' ws) (q : a ∉ ws) : ArI Z h' a z F := by obtain ⟨kc, V⟩ := V; exact ⟨kc, Jvm.RoadKit.Arv.keep V K q⟩
theorem ArI.new {kc : ClassId} (V : Arv Z h a kc .int z [] (.int 0)) (i : Nat) : ArI Z h a z (List.replicate i 0) := ⟨kc, by
  have q := Jvm.RoadKit.Arv.pad V (pad_rep [] (.int 0) i)
  simpa using q⟩
theorem Rch.gI (r : Rch p l e R s m args below meth c Z y bc ml rt n0 T0 g0 k n h (mkF m pc L (.int j :: .ref a :: S))) (hd : decode bc pc = .ok (.iaload, 1)) (V : ArI Z h a z F) (h1 : ¬ j < 0) (h2 : j < z) (hp : pc + 1 = pc') :
    Rch p l e R s m args below meth c Z y bc ml rt n0 T0 g0 k n h (mkF m pc' L (.int (gI F j) :: S)) := by
  obtain ⟨kc, V⟩ := V
  exact Rch.ldI (.int (F.getD j.toNatClampNeg 0)) r hd V h1 h2 (getD_mapI F _) hp
theorem Rch.sI (r : Rch p l e R s m args below meth c Z y bc ml rt n0 T0 g0 k n h (mkF m pc L (.int x :: .int j :: .ref a :: S))) (hd : decode bc pc = .ok (.iastore, 1)) (V : ArI Z h a z F) (h1 : ¬ j < 0) (h2 : j < z) (h3 : j.toNatClampNeg < F.length) (hN : n0 ≤ a) (hp : pc + 1 = pc') :
    ∃ h', Wr h h' a j.toNatClampNeg (.int x) ∧ ArI Z h' a z (F.set j.toNatClampNeg x) ∧ Rch p l e R s m args below meth c Z y bc ml rt n0 T0 g0 k n h' (mkF m pc' L S) := by
  obtain ⟨kc, V⟩ := V
  obtain ⟨h', W, V', r'⟩ := Rch.stI r hd V h1 h2 (by simpa using h3) hN hp
  exact ⟨h', W, ⟨kc, by rw [List.map_set]; exact V'⟩, r'⟩
theorem Rch.lenI (r : Rch p l e R s m args below meth c Z y bc ml rt n0 T0 g0 k n h (mkF m pc L (.ref a :: S))) (hd : decode bc pc = .ok (.arraylength, 1)) (V : ArI Z h a z F) (hp : pc + 1 = pc') :
    Rch p l e R s m args below meth c Z y bc ml rt n0 T0 g0 k n h (mkF m pc' L (.int z :: S)) := by
  obtain ⟨kc, V⟩ := V
  exact Rch.alen r hd V hp
end OwnArrI

abbrev St := List Int32 × List Int32 × List Int32 × List Int32
def NB (Z : State) (h : Heap) (n0 : Nat) (a af an ax ap : Addr) (st : St) : Prop := Exa Z h a "com/example/hailstream/hailstream/NodeBuckets" ∧ (Fld Z h a "com/example/hailstream/hailstream/NodeBuckets" "first" "[I" (.ref af) ∧ Fld Z h a "com/example/hailstream/hailstream/NodeBuckets" "nodeOf" "[I" (.ref an) ∧ Fld Z h a "com/example/hailstream/hailstream/NodeBuckets" "next" "[I" (.ref ax) ∧ Fld Z h a "com/example/hailstream/hailstream/NodeBuckets" "previous" "[I" (.ref ap)) ∧ (ArI Z h af 2 st.1 ∧ ArI Z h an 3 st.2.1 ∧ ArI Z h ax 3 st.2.2.1 ∧ ArI Z h ap 3 st.2.2.2) ∧ (a ≠ af ∧ a ≠ an ∧ a ≠ ax ∧ a ≠ ap) ∧ (af ≠ an ∧ af ≠ ax ∧ af ≠ ap ∧ an ≠ ax ∧ an ≠ ap ∧ ax ≠ ap) ∧ (n0 ≤ a ∧ n0 ≤ af ∧ n0 ≤ an ∧ n0 ≤ ax ∧ n0 ≤ ap)
theorem NB.set0 {Z : State} {h h' : Heap} {n0 : Nat} {a af an ax ap : Addr} {st : St} {F' : List Int32} {j : Nat} {x : Value} (M : NB Z h n0 a af an ax ap st) (W : Wr h h' af j x) (V : ArI Z h' af 2 F') : NB Z h' n0 a af an ax ap (F', st.2.1, st.2.2.1, st.2.2.2) :=
  ⟨M.1.wr W, ⟨(M.2.1.1).other W (Or.inl (M.2.2.2.1.1)), (M.2.1.2.1).other W (Or.inl (M.2.2.2.1.1)), (M.2.1.2.2.1).other W (Or.inl (M.2.2.2.1.1)), (M.2.1.2.2.2).other W (Or.inl (M.2.2.2.1.1))⟩, ⟨V, (M.2.2.1.2.1).other W ((M.2.2.2.2.1.1).symm), (M.2.2.1.2.2.1).other W ((M.2.2.2.2.1.2.1).symm), (M.2.2.1.2.2.2).other W ((M.2.2.2.2.1.2.2.1).symm)⟩, M.2.2.2⟩
theorem NB.set1 {Z : State} {h h' : Heap} {n0 : Nat} {a af an ax ap : Addr} {st : St} {F' : List Int32} {j : Nat} {x : Value} (M : NB Z h n0 a af an ax ap st) (W : Wr h h' an j x) (V : ArI Z h' an 3 F') : NB Z h' n0 a af an ax ap (st.1, F', st.2.2.1, st.2.2.2) :=
  ⟨M.1.wr W, ⟨(M.2.1.1).other W (Or.inl (M.2.2.2.1.2.1)), (M.2.1.2.1).other W (Or.inl (M.2.2.2.1.2.1)), (M.2.1.2.2.1).other W (Or.inl (M.2.2.2.1.2.1)), (M.2.1.2.2.2).other W (Or.inl (M.2.2.2.1.2.1))⟩, ⟨(M.2.2.1.1).other W (M.2.2.2.2.1.1), V, (M.2.2.1.2.2.1).other W ((M.2.2.2.2.1.2.2.2.1).symm), (M.2.2.1.2.2.2).other W ((M.2.2.2.2.1.2.2.2.2.1).symm)⟩, M.2.2.2⟩
theorem NB.set2 {Z : State} {h h' : Heap} {n0 : Nat} {a af an ax ap : Addr} {st : St} {F' : List Int32} {j : Nat} {x : Value} (M : NB Z h n0 a af an ax ap st) (W : Wr h h' ax j x) (V : ArI Z h' ax 3 F') : NB Z h' n0 a af an ax ap (st.1, st.2.1, F', st.2.2.2) :=
  ⟨M.1.wr W, ⟨(M.2.1.1).other W (Or.inl (M.2.2.2.1.2.2.1)), (M.2.1.2.1).other W (Or.inl (M.2.2.2.1.2.2.1)), (M.2.1.2.2.1).other W (Or.inl (M.2.2.2.1.2.2.1)), (M.2.1.2.2.2).other W (Or.inl (M.2.2.2.1.2.2.1))⟩, ⟨(M.2.2.1.1).other W (M.2.2.2.2.1.2.1), (M.2.2.1.2.1).other W (M.2.2.2.2.1.2.2.2.1), V, (M.2.2.1.2.2.2).other W ((M.2.2.2.2.1.2.2.2.2.2).symm)⟩, M.2.2.2⟩
theorem NB.set3 {Z : State} {h h' : Heap} {n0 : Nat} {a af an ax ap : Addr} {st : St} {F' : List Int32} {j : Nat} {x : Value} (M : NB Z h n0 a af an ax ap st) (W : Wr h h' ap j x) (V : ArI Z h' ap 3 F') : NB Z h' n0 a af an ax ap (st.1, st.2.1, st.2.2.1, F') :=
  ⟨M.1.wr W, ⟨(M.2.1.1).other W (Or.inl (M.2.2.2.1.2.2.2)), (M.2.1.2.1).other W (Or.inl (M.2.2.2.1.2.2.2)), (M.2.1.2.2.1).other W (Or.inl (M.2.2.2.1.2.2.2)), (M.2.1.2.2.2).other W (Or.inl (M.2.2.2.1.2.2.2))⟩, ⟨(M.2.2.1.1).other W (M.2.2.2.2.1.2.2.1), (M.2.2.1.2.1).other W (M.2.2.2.2.1.2.2.2.2.1), (M.2.2.1.2.2.1).other W (M.2.2.2.2.1.2.2.2.2.2), V⟩, M.2.2.2⟩
theorem NB.keep {Z : State} {h h' : Heap} {n0 : Nat} {a af an ax ap : Addr} {st : St} (M : NB Z h n0 a af an ax ap st) (K : Keep h h' []) : NB Z h' n0 a af an ax ap st :=
  ⟨M.1.keep K, ⟨(M.2.1.1).keep K nin0, (M.2.1.2.1).keep K nin0, (M.2.1.2.2.1).keep K nin0, (M.2.1.2.2.2).keep K nin0⟩, ⟨(M.2.2.1.1).keep K nin0, (M.2.2.1.2.1).keep K nin0, (M.2.2.1.2.2.1).keep K nin0, (M.2.2.1.2.2.2).keep K nin0⟩, M.2.2.2⟩
def rng (b : Int) (F : List Int32) : Prop := ∀ y ∈ F, -1 ≤ y.toInt ∧ y.toInt < b
theorem rng.get {b : Int} {F : List Int32} (hr : rng b F) {j : Int32} (hl : j.toNatClampNeg < F.length) : -1 ≤ (gI F j).toInt ∧ (gI F j).toInt < b := by
  have : gI F j ∈ F := by
    show F.getD _ _ ∈ F
    rw [List.getD_eq_getElem?_getD, List.getElem?_eq_getElem hl]
    exact List.getElem_mem hl
  exact hr _ this
theorem rng.put {b : Int} {F : List Int32} (hr : rng b F) {k : Nat} {y : Int32} (h1 : -1 ≤ y.toInt ∧ y.toInt < b) : rng b (F.set k y) := fun z hz => by
  rcases List.mem_or_eq_of_mem_set hz with h | h
  · exact hr z h
  · rw [h]; exact h1
def WF (st : St) : Prop := (st.1.length = 2 ∧ st.2.1.length = 3 ∧ st.2.2.1.length = 3 ∧ st.2.2.2.length = 3) ∧ rng 3 st.1 ∧ rng 2 st.2.1 ∧ rng 3 st.2.2.1 ∧ rng 3 st.2.2.2
theorem nn {j : Int32} (h : 0 ≤ j.toInt) : ¬ j < 0 := by rw [Int32.lt_iff_toInt_lt]; simp only [Int32.reduceToInt]; omega
theorem nn' {j : Int32} (h : ¬ j < 0) : 0 ≤ j.toInt := by rw [Int32.lt_iff_toInt_lt] at h; simp only [Int32.reduceToInt] at h; omega
theorem lt2 {j : Int32} (h : j.toInt < 2) : j < 2 := by rw [Int32.lt_iff_toInt_lt]; exact h
theorem lt3 {j : Int32} (h : j.toInt < 3) : j < 3 := by rw [Int32.lt_iff_toInt_lt]; exact h
theorem ix {j : Int32} {b : Nat} {F : List Int32} (h : j.toInt < b) (hb : 0 < b) (hl : F.length = b) : j.toNatClampNeg < F.length := by simp only [Int32.toNatClampNeg]; omega
/-- remove -/
def rm1 (st : St) (m : Int32) : St := if gI st.2.2.2 m < 0 then (st.1.set (gI st.2.1 m).toNatClampNeg (gI st.2.2.1 m), st.2.1, st.2.2.1, st.2.2.2) else (st.1, st.2.1, st.2.2.1.set (gI st.2.2.2 m).toNatClampNeg (gI st.2.2.1 m), st.2.2.2)
def rm2 (st : St) (m : Int32) : St := if gI st.2.2.1 m < 0 then st else (st.1, st.2.1, st.2.2.1, st.2.2.2.set (gI st.2.2.1 m).toNatClampNeg (gI st.2.2.2 m))
def rm3 (st : St) (m : Int32) : St := (st.1, st.2.1.set m.toNatClampNeg (-1), st.2.2.1, st.2.2.2)
def rmF (st : St) (m : Int32) : St := if gI st.2.1 m < 0 then st else rm3 (rm2 (rm1 st m) m) m
theorem WF.r1 {st : St} {m : Int32} (w : WF st) (hm : 0 ≤ m.toInt ∧ m.toInt < 3) : WF (rm1 st m) := by
  obtain ⟨⟨l1, l2, l3, l4⟩, r1, r2, r3, r4⟩ := w
  have i3 : m.toNatClampNeg < st.2.2.1.length := ix hm.2 (by decide) l3
  unfold rm1
  by_cases h1 : gI st.2.2.2 m < 0
  · rw [if_pos h1]; exact ⟨⟨by simpa using l1, l2, l3, l4⟩, r1.put (r3.get i3), r2, r3, r4⟩
  · rw [if_neg h1]; exact ⟨⟨l1, l2, by simpa using l3, l4⟩, r1, r2, r3.put (r3.get i3), r4⟩
theorem WF.r2 {st : St} {m : Int32} (w : WF st) (hm : 0 ≤ m.toInt ∧ m.toInt < 3) : WF (rm2 st m) := by
  obtain ⟨⟨l1, l2, l3, l4⟩, r1, r2, r3, r4⟩ := w
  have i4 : m.toNatClampNeg < st.2.2.2.length := ix hm.2 (by decide) l4
  unfold rm2
  by_cases h1 : gI st.2.2.1 m < 0
  · rw [if_pos h1]; exact ⟨⟨l1, l2, l3, l4⟩, r1, r2, r3, r4⟩
  · rw [if_neg h1]; exact ⟨⟨l1, l2, l3, by simpa using l4⟩, r1, r2, r3, r4.put (r4.get i4)⟩
theorem WF.r3 {st : St} {m : Int32} (w : WF st) : WF (rm3 st m) := by
  obtain ⟨⟨l1, l2, l3, l4⟩, r1, r2, r3, r4⟩ := w
  exact ⟨⟨l1, by simpa [rm3] using l2, l3, l4⟩, r1, r2.put (by decide), r3, r4⟩
theorem WF.rm {st : St} {m : Int32} (w : WF st) (hm : 0 ≤ m.toInt ∧ m.toInt < 3) : WF (rmF st m) := by
  unfold rmF
  by_cases h1 : gI st.2.1 m < 0
  · rw [if_pos h1]; exact w
  · rw [if_neg h1]; exact ((w.r1 hm).r2 hm).r3
/-- file, behind its remove -/
def fl1 (st : St) (m nd : Int32) : St := (st.1, st.2.1.set m.toNatClampNeg nd, st.2.2.1.set m.toNatClampNeg (gI st.1 nd), st.2.2.2.set m.toNatClampNeg (-1))
def fl2 (st : St) (m nd : Int32) : St := if gI st.1 nd < 0 then st else (st.1, st.2.1, st.2.2.1, st.2.2.2.set (gI st.1 nd).toNatClampNeg m)
def fl3 (st : St) (m nd : Int32) : St := (st.1.set nd.toNatClampNeg m, st.2.1, st.2.2.1, st.2.2.2)
def fileF (st : St) (m nd : Int32) : St := fl3 (fl2 (fl1 (rmF st m) m nd) m nd) m nd
theorem WF.f1 {st : St} {m nd : Int32} (w : WF st) (hm : 0 ≤ m.toInt ∧ m.toInt < 3) (hn : 0 ≤ nd.toInt ∧ nd.toInt < 2) : WF (fl1 st m nd) := by
  obtain ⟨⟨l1, l2, l3, l4⟩, r1, r2, r3, r4⟩ := w
  have i1 : nd.toNatClampNeg < st.1.length := ix hn.2 (by decide) l1
  exact ⟨⟨l1, by simpa [fl1] using l2, by simpa [fl1] using l3, by simpa [fl1] using l4⟩, r1, r2.put (by omega), r3.put (r1.get i1), r4.put (by decide)⟩
theorem WF.f2 {st : St} {m nd : Int32} (w : WF st) (hm : 0 ≤ m.toInt ∧ m.toInt < 3) : WF (fl2 st m nd) := by
  obtain ⟨⟨l1, l2, l3, l4⟩, r1, r2, r3, r4⟩ := w
  unfold fl2
  by_cases h1 : gI st.1 nd < 0
  · rw [if_pos h1]; exact ⟨⟨l1, l2, l3, l4⟩, r1, r2, r3, r4⟩
  · rw [if_neg h1]; exact ⟨⟨l1, l2, l3, by simpa using l4⟩, r1, r2, r3, r4.put (by omega)⟩
theorem WF.f3 {st : St} {m nd : Int32} (w : WF st) (hm : 0 ≤ m.toInt ∧ m.toInt < 3) : WF (fl3 st m nd) := by
  obtain ⟨⟨l1, l2, l3, l4⟩, r1, r2, r3, r4⟩ := w
  exact ⟨⟨by simpa [fl3] using l1, l2, l3, l4⟩, r1.put (by omega), r2, r3, r4⟩
theorem WF.file {st : St} {m nd : Int32} (w : WF st) (hm : 0 ≤ m.toInt ∧ m.toInt < 3) (hn : 0 ≤ nd.toInt ∧ nd.toInt < 2) : WF (fileF st m nd) := (((w.rm hm).f1 hm hn).f2 hm).f3 hm
def psh (b : Bool) (x : Int32) (kE : Int32 × List Int32) : Int32 × List Int32 := if b then (kE.1 + 1, kE.2.set kE.1.toNatClampNeg x) else kE
def e1 (node mv ns : Int32) : Bool := mv != 0 && ns == node
def e2 (node cv r mv s k : Int32) : Bool := cv == node && r != k && !(mv != 0 && s == k)
def expF (node c0 c1 c2 r mv s ns : Int32) : List Int32 := (psh (e2 node c0 r mv s 0) 0 (psh (e2 node c1 r mv s 1) 1 (psh (e2 node c2 r mv s 2) 2 (psh (e1 node mv ns) s (0, [-1, -1, -1, -1]))))).2
def mtF (st : St) (node : Int32) (E : List Int32) : Int32 := if gI st.1 node = gI E 0 then (if gI st.1 node < 0 then 1 else (if gI st.2.2.1 (gI st.1 node) = gI E 1 then (if gI st.2.2.1 (gI st.1 node) < 0 then 1 else (if gI st.2.2.1 (gI st.2.2.1 (gI st.1 node)) = gI E 2 then (if gI st.2.2.1 (gI st.2.2.1 (gI st.1 node)) < 0 then 1 else (if gI st.2.2.1 (gI st.2.2.1 (gI st.2.2.1 (gI st.1 node))) = gI E 3 then 1 else 0)) else 0)) else 0)) else 0
def stF (c0 c1 c2 r mv s ns : Int32) : St :=
  let s0 : St := ([-1, -1], [-1, -1, -1], [0, 0, 0], [0, 0, 0])
  let s1 := if c0 < 2 then fileF s0 0 c0 else s0
  let s2 := if c1 < 2 then fileF s1 1 c1 else s1
  let s3 := if c2 < 2 then fileF s2 2 c2 else s2
  let s4 := rmF s3 r
  if mv = 0 then s4 else rmF (fileF s4 s ns) r
theorem plain0 : ∀ (c0 c1 c2 : Fin 4) (r : Fin 3) (mv ns : Fin 2), mtF (stF (Int32.ofNat c0) (Int32.ofNat c1) (Int32.ofNat c2) (Int32.ofNat r) (Int32.ofNat mv) ((Int32.ofNat r + 1) % 3) (Int32.ofNat ns)) 0 (expF 0 (Int32.ofNat c0) (Int32.ofNat c1) (Int32.ofNat c2) (Int32.ofNat r) (Int32.ofNat mv) ((Int32.ofNat r + 1) % 3) (Int32.ofNat ns)) = 1 ∧
    mtF (stF (Int32.ofNat c0) (Int32.ofNat c1) (Int32.ofNat c2) (Int32.ofNat r) (Int32.ofNat mv) ((Int32.ofNat r + 1) % 3) (Int32.ofNat ns)) 1 (expF 1 (Int32.ofNat c0) (Int32.ofNat c1) (Int32.ofNat c2) (Int32.ofNat r) (Int32.ofNat mv) ((Int32.ofNat r + 1) % 3) (Int32.ofNat ns)) = 1 := by decide +kernel
theorem ofN {x : Int32} {b : Nat} (h : 0 ≤ x.toInt ∧ x.toInt < b) (hb : b ≤ 100) : ∃ i : Fin b, x = Int32.ofNat i.1 := by
  refine ⟨⟨x.toInt.toNat, by omega⟩, ?_⟩
  apply Int32.toInt_inj.mp
  rw [Int32.toInt_ofNat_of_lt (by simp only []; omega)]
  simp only []; omega
theorem plain {c0 c1 c2 r mv ns : Int32} (h0 : 0 ≤ c0.toInt ∧ c0.toInt < 4) (h1 : 0 ≤ c1.toInt ∧ c1.toInt < 4) (h2 : 0 ≤ c2.toInt ∧ c2.toInt < 4) (hr : 0 ≤ r.toInt ∧ r.toInt < 3) (hm : 0 ≤ mv.toInt ∧ mv.toInt < 2) (hn : 0 ≤ ns.toInt ∧ ns.toInt < 2) : mtF (stF c0 c1 c2 r mv ((r + 1) % 3) ns) 0 (expF 0 c0 c1 c2 r mv ((r + 1) % 3) ns) = 1 ∧ mtF (stF c0 c1 c2 r mv ((r + 1) % 3) ns) 1 (expF 1 c0 c1 c2 r mv ((r + 1) % 3) ns) = 1 := by
  obtain ⟨i0, rfl⟩ := ofN (b := 4) h0 (by decide)
  obtain ⟨i1, rfl⟩ := ofN (b := 4) h1 (by decide)
  obtain ⟨i2, rfl⟩ := ofN (b := 4) h2 (by decide)
  obtain ⟨i3, rfl⟩ := ofN (b := 3) hr (by decide)
  obtain ⟨i4, rfl⟩ := ofN (b := 2) hm (by decide)
  obtain ⟨i5, rfl⟩ := ofN (b := 2) hn (by decide)
  exact plain0 i0 i1 i2 i3 i4 i5
theorem pn_com_example_hailstream_hailstream_NodeBuckets : plainName "com/example/hailstream/hailstream/NodeBuckets" = true := by first | (simp [plainName, overriddenIn]; done) | decide +kernel
theorem d8_0 : decode prog_18_method_4_code 0 = .ok (.aload_n 0, 1) := by decide +kernel
theorem d8_1 : decode prog_18_method_4_code 1 = .ok (.getfield 7, 3) := by decide +kernel
theorem d8_4 : decode prog_18_method_4_code 4 = .ok (.iload_n 1, 1) := by decide +kernel
theorem d8_5 : decode prog_18_method_4_code 5 = .ok (.iaload, 1) := by decide +kernel
theorem d8_6 : decode prog_18_method_4_code 6 = .ok (.ireturn, 1) := by decide +kernel
set_option maxRecDepth 65536 in
set_option maxHeartbeats 40000000 in
theorem c_first (l : Launch) (Z : State) (a0 : Array Value) (hw : ∀ d ∈ tables_1, d.before a0 Z = true) (a af an ax ap : Addr) (j : Int32) (st : St) (h0 : Heap) (n0 : Nat) (M : NB Z h0 n0 a af an ax ap st) (hj : 0 ≤ j.toInt ∧ j.toInt < 2) :
    Ctr l Z (⟨"com/example/hailstream/hailstream/NodeBuckets", "first", "(I)I"⟩ : MethodName) prog_18_method_4_code 2 (some .int) ({ frames := 0, cells := 0, slots := 0, locals := 0 } : Room) #[(.ref a), (.int j)] h0 n0 (fun v h => v = some (.int (gI st.1 j)) ∧ h0 = h) := by
  refine ent (plainFor_of_name pn_com_example_hailstream_hailstream_NodeBuckets) (L0 := #[.val (.ref a), .val (.int j)]) (fun m => by first | (simp [entryFrame, mkF, argsToLocals, Value.category]; done) | rfl) ?_
  intro p e s m below meth c T0 r0
  have r1 := r0.aloadN (pc' := 1) d8_0 rfl rfl rfl
  have r2 := r1.getF (host := "") (pc' := 4) d8_1 (Or.inl (hw _ (List.mem_of_getElem? (i := 10) rfl))) Via.refl M.2.1.1 rfl
  have r3 := r2.iloadN (pc' := 5) d8_4 rfl rfl
  have r4 := r3.gI (pc' := 6) d8_5 (M.2.2.1.1) (nn hj.1) (lt2 hj.2) rfl
  exact ⟨_, _, r4.retI d8_6 rfl (by decide) (by decide), rfl, rfl⟩
theorem d9_0 : decode prog_18_method_5_code 0 = .ok (.aload_n 0, 1) := by decide +kernel
theorem d9_1 : decode prog_18_method_5_code 1 = .ok (.getfield 16, 3) := by decide +kernel
theorem d9_4 : decode prog_18_method_5_code 4 = .ok (.iload_n 1, 1) := by decide +kernel
theorem d9_5 : decode prog_18_method_5_code 5 = .ok (.iaload, 1) := by decide +kernel
theorem d9_6 : decode prog_18_method_5_code 6 = .ok (.ireturn, 1) := by decide +kernel
set_option maxRecDepth 65536 in
set_option maxHeartbeats 40000000 in
theorem c_next (l : Launch) (Z : State) (a0 : Array Value) (hw : ∀ d ∈ tables_1, d.before a0 Z = true) (a af an ax ap : Addr) (j : Int32) (st : St) (h0 : Heap) (n0 : Nat) (M : NB Z h0 n0 a af an ax ap st) (hj : 0 ≤ j.toInt ∧ j.toInt < 3) :
    Ctr l Z (⟨"com/example/hailstream/hailstream/NodeBuckets", "next", "(I)I"⟩ : MethodName) prog_18_method_5_code 2 (some .int) ({ frames := 0, cells := 0, slots := 0, locals := 0 } : Room) #[(.ref a), (.int j)] h0 n0 (fun v h => v = some (.int (gI st.2.2.1 j)) ∧ h0 = h) := by
  refine ent (plainFor_of_name pn_com_example_hailstream_hailstream_NodeBuckets) (L0 := #[.val (.ref a), .val (.int j)]) (fun m => by first | (simp [entryFrame, mkF, argsToLocals, Value.category]; done) | rfl) ?_
  intro p e s m below meth c T0 r0
  have r5 := r0.aloadN (pc' := 1) d9_0 rfl rfl rfl
  have r6 := r5.getF (host := "") (pc' := 4) d9_1 (Or.inl (hw _ (List.mem_of_getElem? (i := 14) rfl))) Via.refl M.2.1.2.2.1 rfl
  have r7 := r6.iloadN (pc' := 5) d9_4 rfl rfl
  have r8 := r7.gI (pc' := 6) d9_5 (M.2.2.1.2.2.1) (nn hj.1) (lt3 hj.2) rfl
  exact ⟨_, _, r8.retI d9_6 rfl (by decide) (by decide), rfl, rfl⟩
theorem d5_0 : decode prog_18_method_3_code 0 = .ok (.aload_n 0, 1) := by decide +kernel
theorem d5_1 : decode prog_18_method_3_code 1 = .ok (.getfield 13, 3) := by decide +kernel
theorem d5_4 : decode prog_18_method_3_code 4 = .ok (.iload_n 1, 1) := by decide +kernel
theorem d5_5 : decode prog_18_method_3_code 5 = .ok (.iaload, 1) := by decide +kernel
theorem d5_6 : decode prog_18_method_3_code 6 = .ok (.istore_n 2, 1) := by decide +kernel
theorem d5_7 : decode prog_18_method_3_code 7 = .ok (.iload_n 2, 1) := by decide +kernel
theorem d5_8 : decode prog_18_method_3_code 8 = .ok (.ifCond .ge 4, 3) := by decide +kernel
theorem d5_11 : decode prog_18_method_3_code 11 = .ok (.return_, 1) := by decide +kernel
theorem d5_12 : decode prog_18_method_3_code 12 = .ok (.aload_n 0, 1) := by decide +kernel
theorem d5_13 : decode prog_18_method_3_code 13 = .ok (.getfield 19, 3) := by decide +kernel
theorem d5_16 : decode prog_18_method_3_code 16 = .ok (.iload_n 1, 1) := by decide +kernel
theorem d5_17 : decode prog_18_method_3_code 17 = .ok (.iaload, 1) := by decide +kernel
theorem d5_18 : decode prog_18_method_3_code 18 = .ok (.ifCond .lt 23, 3) := by decide +kernel
theorem d5_41 : decode prog_18_method_3_code 41 = .ok (.aload_n 0, 1) := by decide +kernel
theorem d5_42 : decode prog_18_method_3_code 42 = .ok (.getfield 7, 3) := by decide +kernel
theorem d5_45 : decode prog_18_method_3_code 45 = .ok (.iload_n 2, 1) := by decide +kernel
theorem d5_46 : decode prog_18_method_3_code 46 = .ok (.aload_n 0, 1) := by decide +kernel
theorem d5_47 : decode prog_18_method_3_code 47 = .ok (.getfield 16, 3) := by decide +kernel
theorem d5_50 : decode prog_18_method_3_code 50 = .ok (.iload_n 1, 1) := by decide +kernel
theorem d5_51 : decode prog_18_method_3_code 51 = .ok (.iaload, 1) := by decide +kernel
theorem d5_52 : decode prog_18_method_3_code 52 = .ok (.iastore, 1) := by decide +kernel
theorem d5_21 : decode prog_18_method_3_code 21 = .ok (.aload_n 0, 1) := by decide +kernel
theorem d5_22 : decode prog_18_method_3_code 22 = .ok (.getfield 16, 3) := by decide +kernel
theorem d5_25 : decode prog_18_method_3_code 25 = .ok (.aload_n 0, 1) := by decide +kernel
theorem d5_26 : decode prog_18_method_3_code 26 = .ok (.getfield 19, 3) := by decide +kernel
theorem d5_29 : decode prog_18_method_3_code 29 = .ok (.iload_n 1, 1) := by decide +kernel
theorem d5_30 : decode prog_18_method_3_code 30 = .ok (.iaload, 1) := by decide +kernel
theorem d5_31 : decode prog_18_method_3_code 31 = .ok (.aload_n 0, 1) := by decide +kernel
theorem d5_32 : decode prog_18_method_3_code 32 = .ok (.getfield 16, 3) := by decide +kernel
theorem d5_35 : decode prog_18_method_3_code 35 = .ok (.iload_n 1, 1) := by decide +kernel
theorem d5_36 : decode prog_18_method_3_code 36 = .ok (.iaload, 1) := by decide +kernel
theorem d5_37 : decode prog_18_method_3_code 37 = .ok (.iastore, 1) := by decide +kernel
theorem d5_38 : decode prog_18_method_3_code 38 = .ok (.goto 15, 3) := by decide +kernel
theorem d5_53 : decode prog_18_method_3_code 53 = .ok (.aload_n 0, 1) := by decide +kernel
theorem d5_54 : decode prog_18_method_3_code 54 = .ok (.getfield 16, 3) := by decide +kernel
theorem d5_57 : decode prog_18_method_3_code 57 = .ok (.iload_n 1, 1) := by decide +kernel
theorem d5_58 : decode prog_18_method_3_code 58 = .ok (.iaload, 1) := by decide +kernel
theorem d5_59 : decode prog_18_method_3_code 59 = .ok (.ifCond .lt 20, 3) := by decide +kernel
theorem d5_62 : decode prog_18_method_3_code 62 = .ok (.aload_n 0, 1) := by decide +kernel
theorem d5_63 : decode prog_18_method_3_code 63 = .ok (.getfield 19, 3) := by decide +kernel
theorem d5_66 : decode prog_18_method_3_code 66 = .ok (.aload_n 0, 1) := by decide +kernel
theorem d5_67 : decode prog_18_method_3_code 67 = .ok (.getfield 16, 3) := by decide +kernel
theorem d5_70 : decode prog_18_method_3_code 70 = .ok (.iload_n 1, 1) := by decide +kernel
theorem d5_71 : decode prog_18_method_3_code 71 = .ok (.iaload, 1) := by decide +kernel
theorem d5_72 : decode prog_18_method_3_code 72 = .ok (.aload_n 0, 1) := by decide +kernel
theorem d5_73 : decode prog_18_method_3_code 73 = .ok (.getfield 19, 3) := by decide +kernel
theorem d5_76 : decode prog_18_method_3_code 76 = .ok (.iload_n 1, 1) := by decide +kernel
theorem d5_77 : decode prog_18_method_3_code 77 = .ok (.iaload, 1) := by decide +kernel
theorem d5_78 : decode prog_18_method_3_code 78 = .ok (.iastore, 1) := by decide +kernel
theorem d5_79 : decode prog_18_method_3_code 79 = .ok (.aload_n 0, 1) := by decide +kernel
theorem d5_80 : decode prog_18_method_3_code 80 = .ok (.getfield 13, 3) := by decide +kernel
theorem d5_83 : decode prog_18_method_3_code 83 = .ok (.iload_n 1, 1) := by decide +kernel
theorem d5_84 : decode prog_18_method_3_code 84 = .ok (.iconst (-1), 1) := by decide +kernel
theorem d5_85 : decode prog_18_method_3_code 85 = .ok (.iastore, 1) := by decide +kernel
theorem d5_86 : decode prog_18_method_3_code 86 = .ok (.return_, 1) := by decide +kernel
set_option maxRecDepth 65536 in
set_option maxHeartbeats 40000000 in
theorem c_rm (l : Launch) (Z : State) (a0 : Array Value) (hw : ∀ d ∈ tables_1, d.before a0 Z = true) (a af an ax ap : Addr) (j : Int32) (st : St) (h0 : Heap) (n0 : Nat) (M : NB Z h0 n0 a af an ax ap st) (wf : WF st) (hj : 0 ≤ j.toInt ∧ j.toInt < 3) :
    Ctr l Z (⟨"com/example/hailstream/hailstream/NodeBuckets", "remove", "(I)V"⟩ : MethodName) prog_18_method_3_code 3 none ({ frames := 0, cells := 0, slots := 0, locals := 0 } : Room) #[(.ref a), (.int j)] h0 n0 (fun v h => v = none ∧ NB Z h n0 a af an ax ap (rmF st j) ∧ Keep h0 h [af, an, ax, ap]) := by
  refine ent (plainFor_of_name pn_com_example_hailstream_hailstream_NodeBuckets) (L0 := #[.val (.ref a), .val (.int j), .unset]) (fun m => by first | (simp [entryFrame, mkF, argsToLocals, Value.category]; done) | rfl) ?_
  intro p e s m below meth c T0 r0
  obtain ⟨⟨l1, l2, l3, l4⟩, q1, q2, q3, q4⟩ := id wf
  have jn := nn hj.1
  have j3 := lt3 hj.2
  have i2 : j.toNatClampNeg < st.2.1.length := ix hj.2 (by decide) l2
  have i3 : j.toNatClampNeg < st.2.2.1.length := ix hj.2 (by decide) l3
  have i4 : j.toNatClampNeg < st.2.2.2.length := ix hj.2 (by decide) l4
  have bN := q2.get i2
  have bX := q3.get i3
  have bP := q4.get i4
  have r9 := r0.aloadN (pc' := 1) d5_0 rfl rfl rfl
  have r10 := r9.getF (host := "") (pc' := 4) d5_1 (Or.inl (hw _ (List.mem_of_getElem? (i := 12) rfl))) Via.refl M.2.1.2.1 rfl
  have r11 := r10.iloadN (pc' := 5) d5_4 rfl rfl
  have r12 := r11.gI (pc' := 6) d5_5 (M.2.2.1.2.1) jn j3 rfl
  have r13 := r12.istoreN (pc' := 7) (L' := #[.val (.ref a), .val (.int j), .val (.int (gI st.2.1 j))]) d5_6 rfl rfl
  have r14 := r13.iloadN (pc' := 8) d5_7 rfl rfl
  by_cases hc15 : (gI st.2.1 j) < (0 : Int32)
  · -- yes
    have r16 := r14.ifF (pc' := 11) d5_8 (tlt hc15).2.1 rfl
    have e : rmF st j = st := if_pos hc15
    rw [e]
    exact ⟨_, _, r16.retV d5_11 rfl (by decide) (by decide), rfl, M, Keep.refl _ _⟩
  · -- not no
    have r17 := r14.ifT (pc' := 12) d5_8 (flt hc15).2.1 (by decide) (by decide)
    have r18 := r17.aloadN (pc' := 13) d5_12 rfl rfl rfl
    have r19 := r18.getF (host := "") (pc' := 16) d5_13 (Or.inl (hw _ (List.mem_of_getElem? (i := 16) rfl))) Via.refl M.2.1.2.2.2 rfl
    have r20 := r19.iloadN (pc' := 17) d5_16 rfl rfl
    have r21 := r20.gI (pc' := 18) d5_17 (M.2.2.1.2.2.2) jn j3 rfl
    obtain ⟨h1, M1, K1, r22⟩ : ∃ h1, NB Z h1 n0 a af an ax ap (rm1 st j) ∧ Keep h0 h1 [af, an, ax, ap] ∧ Rch p l e ({ frames := 0, cells := 0, slots := 0, locals := 0 } : Room) s m #[(.ref a), (.int j)] below meth c Z (⟨"com/example/hailstream/hailstream/NodeBuckets", "remove", "(I)V"⟩ : MethodName) prog_18_method_3_code 3 none n0 T0 (mkF m 0 #[.val (.ref a), .val (.int j), .unset] []) 0 0 h1 (mkF m 53 #[.val (.ref a), .val (.int j), .val (.int (gI st.2.1 j))] []) := by
      by_cases hc23 : (gI st.2.2.2 j) < (0 : Int32)
      · -- yes
        have r24 := r21.ifT (pc' := 41) d5_18 (tlt hc23).1 (by decide) (by decide)
        have r25 := r24.aloadN (pc' := 42) d5_41 rfl rfl rfl
        have r26 := r25.getF (host := "") (pc' := 45) d5_42 (Or.inl (hw _ (List.mem_of_getElem? (i := 10) rfl))) Via.refl M.2.1.1 rfl
        have r27 := r26.iloadN (pc' := 46) d5_45 rfl rfl
        have r28 := r27.aloadN (pc' := 47) d5_46 rfl rfl rfl
        have r29 := r28.getF (host := "") (pc' := 50) d5_47 (Or.inl (hw _ (List.mem_of_getElem? (i := 14) rfl))) Via.refl M.2.1.2.2.1 rfl
        have r30 := r29.iloadN (pc' := 51) d5_50 rfl rfl
        have r31 := r30.gI (pc' := 52) d5_51 (M.2.2.1.2.2.1) jn j3 rfl
        obtain ⟨h32, W32, V32, r32⟩ := r31.sI (pc' := 53) d5_52 (M.2.2.1.1) hc15 (lt2 bN.2) (ix bN.2 (by decide) l1) (M.2.2.2.2.2.2.1) rfl
        have M32 := NB.set0 M W32 V32
        have K32 := (Keep.refl h0 [af, an, ax, ap]).wr W32 (Or.inl (by simp))
        have e : rm1 st j = ((st.1.set ((gI st.2.1 j)).toNatClampNeg (gI st.2.2.1 j)), st.2.1, st.2.2.1, st.2.2.2) := if_pos hc23
        rw [e]
        exact ⟨_, M32, K32, r32⟩
      · -- not no
        have r33 := r21.ifF (pc' := 21) d5_18 (flt hc23).1 rfl
        have r34 := r33.aloadN (pc' := 22) d5_21 rfl rfl rfl
        have r35 := r34.getF (host := "") (pc' := 25) d5_22 (Or.inl (hw _ (List.mem_of_getElem? (i := 14) rfl))) Via.refl M.2.1.2.2.1 rfl
        have r36 := r35.aloadN (pc' := 26) d5_25 rfl rfl rfl
        have r37 := r36.getF (host := "") (pc' := 29) d5_26 (Or.inl (hw _ (List.mem_of_getElem? (i := 16) rfl))) Via.refl M.2.1.2.2.2 rfl
        have r38 := r37.iloadN (pc' := 30) d5_29 rfl rfl
        have r39 := r38.gI (pc' := 31) d5_30 (M.2.2.1.2.2.2) jn j3 rfl
        have r40 := r39.aloadN (pc' := 32) d5_31 rfl rfl rfl
        have r41 := r40.getF (host := "") (pc' := 35) d5_32 (Or.inl (hw _ (List.mem_of_getElem? (i := 14) rfl))) Via.refl M.2.1.2.2.1 rfl
        have r42 := r41.iloadN (pc' := 36) d5_35 rfl rfl
        have r43 := r42.gI (pc' := 37) d5_36 (M.2.2.1.2.2.1) jn j3 rfl
        obtain ⟨h44, W44, V44, r44⟩ := r43.sI (pc' := 38) d5_37 (M.2.2.1.2.2.1) hc23 (lt3 bP.2) (ix bP.2 (by decide) l3) (M.2.2.2.2.2.2.2.2.1) rfl
        have M44 := NB.set2 M W44 V44
        have K44 := (Keep.refl h0 [af, an, ax, ap]).wr W44 (Or.inl (by simp))
        have r45 := r44.goto (pc' := 53) d5_38 (by decide) (by decide)
        have e : rm1 st j = (st.1, st.2.1, (st.2.2.1.set ((gI st.2.2.2 j)).toNatClampNeg (gI st.2.2.1 j)), st.2.2.2) := if_neg hc23
        rw [e]
        exact ⟨_, M44, K44, r45⟩
    have wf1 := wf.r1 (m := j) hj
    obtain ⟨s1, es1⟩ : ∃ s1, s1 = rm1 st j := ⟨_, rfl⟩
    rw [← es1] at M1 wf1
    obtain ⟨⟨l1', l2', l3', l4'⟩, q1', q2', q3', q4'⟩ := id wf1
    have i3' : j.toNatClampNeg < s1.2.2.1.length := ix hj.2 (by decide) l3'
    have bX' := q3'.get i3'
    have r46 := r22.aloadN (pc' := 54) d5_53 rfl rfl rfl
    have r47 := r46.getF (host := "") (pc' := 57) d5_54 (Or.inl (hw _ (List.mem_of_getElem? (i := 14) rfl))) Via.refl M1.2.1.2.2.1 rfl
    have r48 := r47.iloadN (pc' := 58) d5_57 rfl rfl
    have r49 := r48.gI (pc' := 59) d5_58 (M1.2.2.1.2.2.1) jn j3 rfl
    obtain ⟨h2, M2, K2, r50⟩ : ∃ h2, NB Z h2 n0 a af an ax ap (rm2 s1 j) ∧ Keep h0 h2 [af, an, ax, ap] ∧ Rch p l e ({ frames := 0, cells := 0, slots := 0, locals := 0 } : Room) s m #[(.ref a), (.int j)] below meth c Z (⟨"com/example/hailstream/hailstream/NodeBuckets", "remove", "(I)V"⟩ : MethodName) prog_18_method_3_code 3 none n0 T0 (mkF m 0 #[.val (.ref a), .val (.int j), .unset] []) 0 0 h2 (mkF m 79 #[.val (.ref a), .val (.int j), .val (.int (gI st.2.1 j))] []) := by
      by_cases hc51 : (gI s1.2.2.1 j) < (0 : Int32)
      · -- yes
        have r52 := r49.ifT (pc' := 79) d5_59 (tlt hc51).1 (by decide) (by decide)
        have e : rm2 s1 j = s1 := if_pos hc51
        rw [e]
        exact ⟨_, M1, K1, r52⟩
      · -- not no
        have r53 := r49.ifF (pc' := 62) d5_59 (flt hc51).1 rfl
        have r54 := r53.aloadN (pc' := 63) d5_62 rfl rfl rfl
        have r55 := r54.getF (host := "") (pc' := 66) d5_63 (Or.inl (hw _ (List.mem_of_getElem? (i := 16) rfl))) Via.refl M1.2.1.2.2.2 rfl
        have r56 := r55.aloadN (pc' := 67) d5_66 rfl rfl rfl
        have r57 := r56.getF (host := "") (pc' := 70) d5_67 (Or.inl (hw _ (List.mem_of_getElem? (i := 14) rfl))) Via.refl M1.2.1.2.2.1 rfl
        have r58 := r57.iloadN (pc' := 71) d5_70 rfl rfl
        have r59 := r58.gI (pc' := 72) d5_71 (M1.2.2.1.2.2.1) jn j3 rfl
        have r60 := r59.aloadN (pc' := 73) d5_72 rfl rfl rfl
        have r61 := r60.getF (host := "") (pc' := 76) d5_73 (Or.inl (hw _ (List.mem_of_getElem? (i := 16) rfl))) Via.refl M1.2.1.2.2.2 rfl
        have r62 := r61.iloadN (pc' := 77) d5_76 rfl rfl
        have r63 := r62.gI (pc' := 78) d5_77 (M1.2.2.1.2.2.2) jn j3 rfl
        obtain ⟨h64, W64, V64, r64⟩ := r63.sI (pc' := 79) d5_78 (M1.2.2.1.2.2.2) hc51 (lt3 bX'.2) (ix bX'.2 (by decide) l4') (M1.2.2.2.2.2.2.2.2.2) rfl
        have M64 := NB.set3 M1 W64 V64
        have K64 := K1.wr W64 (Or.inl (by simp))
        have e : rm2 s1 j = (s1.1, s1.2.1, s1.2.2.1, (s1.2.2.2.set ((gI s1.2.2.1 j)).toNatClampNeg (gI s1.2.2.2 j))) := if_neg hc51
        rw [e]
        exact ⟨_, M64, K64, r64⟩
    have wf2 := wf1.r2 (m := j) hj
    obtain ⟨s2, es2⟩ : ∃ s2, s2 = rm2 s1 j := ⟨_, rfl⟩
    rw [← es2] at M2 wf2
    have r65 := r50.aloadN (pc' := 80) d5_79 rfl rfl rfl
    have r66 := r65.getF (host := "") (pc' := 83) d5_80 (Or.inl (hw _ (List.mem_of_getElem? (i := 12) rfl))) Via.refl M2.2.1.2.1 rfl
    have r67 := r66.iloadN (pc' := 84) d5_83 rfl rfl
    have r68 := r67.iconst (pc' := 85) (-1 : Int32) d5_84 rfl rfl
    obtain ⟨h69, W69, V69, r69⟩ := r68.sI (pc' := 86) d5_85 (M2.2.2.1.2.1) jn j3 (ix hj.2 (by decide) wf2.1.2.1) (M2.2.2.2.2.2.2.2.1) rfl
    have M69 := NB.set1 M2 W69 V69
    have K69 := K2.wr W69 (Or.inl (by simp))
    have e : rmF st j = rm3 s2 j := by unfold rmF; rw [if_neg hc15, ← es1, ← es2]
    rw [e]
    exact ⟨_, _, r69.retV d5_86 rfl (by decide) (by decide), rfl, M69, K69⟩
theorem d4_0 : decode prog_18_method_2_code 0 = .ok (.aload_n 0, 1) := by decide +kernel
theorem d4_1 : decode prog_18_method_2_code 1 = .ok (.iload_n 1, 1) := by decide +kernel
theorem d4_2 : decode prog_18_method_2_code 2 = .ok (.invokevirtual 28, 3) := by decide +kernel
theorem pd_2 : parseMethodDescriptor "(I)V" = some ⟨[.int], none⟩ := by decide +kernel
theorem d4_5 : decode prog_18_method_2_code 5 = .ok (.aload_n 0, 1) := by decide +kernel
theorem d4_6 : decode prog_18_method_2_code 6 = .ok (.getfield 13, 3) := by decide +kernel
theorem d4_9 : decode prog_18_method_2_code 9 = .ok (.iload_n 1, 1) := by decide +kernel
theorem d4_10 : decode prog_18_method_2_code 10 = .ok (.iload_n 2, 1) := by decide +kernel
theorem d4_11 : decode prog_18_method_2_code 11 = .ok (.iastore, 1) := by decide +kernel
theorem d4_12 : decode prog_18_method_2_code 12 = .ok (.aload_n 0, 1) := by decide +kernel
theorem d4_13 : decode prog_18_method_2_code 13 = .ok (.getfield 19, 3) := by decide +kernel
theorem d4_16 : decode prog_18_method_2_code 16 = .ok (.iload_n 1, 1) := by decide +kernel
theorem d4_17 : decode prog_18_method_2_code 17 = .ok (.iconst (-1), 1) := by decide +kernel
theorem d4_18 : decode prog_18_method_2_code 18 = .ok (.iastore, 1) := by decide +kernel
theorem d4_19 : decode prog_18_method_2_code 19 = .ok (.aload_n 0, 1) := by decide +kernel
theorem d4_20 : decode prog_18_method_2_code 20 = .ok (.getfield 16, 3) := by decide +kernel
theorem d4_23 : decode prog_18_method_2_code 23 = .ok (.iload_n 1, 1) := by decide +kernel
theorem d4_24 : decode prog_18_method_2_code 24 = .ok (.aload_n 0, 1) := by decide +kernel
theorem d4_25 : decode prog_18_method_2_code 25 = .ok (.getfield 7, 3) := by decide +kernel
theorem d4_28 : decode prog_18_method_2_code 28 = .ok (.iload_n 2, 1) := by decide +kernel
theorem d4_29 : decode prog_18_method_2_code 29 = .ok (.iaload, 1) := by decide +kernel
theorem d4_30 : decode prog_18_method_2_code 30 = .ok (.iastore, 1) := by decide +kernel
theorem d4_31 : decode prog_18_method_2_code 31 = .ok (.aload_n 0, 1) := by decide +kernel
theorem d4_32 : decode prog_18_method_2_code 32 = .ok (.getfield 7, 3) := by decide +kernel
theorem d4_35 : decode prog_18_method_2_code 35 = .ok (.iload_n 2, 1) := by decide +kernel
theorem d4_36 : decode prog_18_method_2_code 36 = .ok (.iaload, 1) := by decide +kernel
theorem d4_37 : decode prog_18_method_2_code 37 = .ok (.ifCond .lt 15, 3) := by decide +kernel
theorem d4_40 : decode prog_18_method_2_code 40 = .ok (.aload_n 0, 1) := by decide +kernel
theorem d4_41 : decode prog_18_method_2_code 41 = .ok (.getfield 19, 3) := by decide +kernel
theorem d4_44 : decode prog_18_method_2_code 44 = .ok (.aload_n 0, 1) := by decide +kernel
theorem d4_45 : decode prog_18_method_2_code 45 = .ok (.getfield 7, 3) := by decide +kernel
theorem d4_48 : decode prog_18_method_2_code 48 = .ok (.iload_n 2, 1) := by decide +kernel
theorem d4_49 : decode prog_18_method_2_code 49 = .ok (.iaload, 1) := by decide +kernel
theorem d4_50 : decode prog_18_method_2_code 50 = .ok (.iload_n 1, 1) := by decide +kernel
theorem d4_51 : decode prog_18_method_2_code 51 = .ok (.iastore, 1) := by decide +kernel
theorem d4_52 : decode prog_18_method_2_code 52 = .ok (.aload_n 0, 1) := by decide +kernel
theorem d4_53 : decode prog_18_method_2_code 53 = .ok (.getfield 7, 3) := by decide +kernel
theorem d4_56 : decode prog_18_method_2_code 56 = .ok (.iload_n 2, 1) := by decide +kernel
theorem d4_57 : decode prog_18_method_2_code 57 = .ok (.iload_n 1, 1) := by decide +kernel
theorem d4_58 : decode prog_18_method_2_code 58 = .ok (.iastore, 1) := by decide +kernel
theorem d4_59 : decode prog_18_method_2_code 59 = .ok (.return_, 1) := by decide +kernel
set_option maxRecDepth 65536 in
set_option maxHeartbeats 40000000 in
theorem c_file (l : Launch) (Z : State) (a0 : Array Value) (hw : ∀ d ∈ tables_1, d.before a0 Z = true) (a af an ax ap : Addr) (j nd : Int32) (st : St) (h0 : Heap) (n0 : Nat) (M : NB Z h0 n0 a af an ax ap st) (wf : WF st) (hj : 0 ≤ j.toInt ∧ j.toInt < 3) (hn : 0 ≤ nd.toInt ∧ nd.toInt < 2) :
    Ctr l Z (⟨"com/example/hailstream/hailstream/NodeBuckets", "file", "(II)V"⟩ : MethodName) prog_18_method_2_code 3 none ({ frames := 1, cells := 0, slots := 0, locals := 14 } : Room) #[(.ref a), (.int j), (.int nd)] h0 n0 (fun v h => v = none ∧ NB Z h n0 a af an ax ap (fileF st j nd) ∧ Keep h0 h [af, an, ax, ap]) := by
  refine ent (plainFor_of_name pn_com_example_hailstream_hailstream_NodeBuckets) (L0 := #[.val (.ref a), .val (.int j), .val (.int nd)]) (fun m => by first | (simp [entryFrame, mkF, argsToLocals, Value.category]; done) | rfl) ?_
  intro p e s m below meth c T0 r0
  have jn := nn hj.1
  have j3 := lt3 hj.2
  have nn_ := nn hn.1
  have n2 := lt2 hn.2
  have r70 := r0.aloadN (pc' := 1) d4_0 rfl rfl rfl
  have r71 := r70.iloadN (pc' := 2) d4_1 rfl rfl
  obtain ⟨v74, h75, hq73, r72⟩ := r71.callV (pc' := 5) (a := a) [(.int j)] (rest := []) 0 d4_2 (hw _ (List.mem_of_getElem? (i := 27) rfl)) (hw _ (List.mem_of_getElem? (i := 28) rfl)) (r71.nface (hw _ (List.mem_of_getElem? (i := 30) rfl)) rfl) (hw _ (List.mem_of_getElem? (i := 30) rfl)) (hw _ (List.mem_of_getElem? (i := 29) rfl)) (hw _ (List.mem_of_getElem? (i := 2) rfl)) (hw _ (List.mem_of_getElem? (i := 31) rfl)) (by decide) (c_rm l Z a0 hw a af an ax ap j st h0 n0 M wf hj) M.1 pd_2 rfl rfl rfl (Nat.le_of_ble_eq_true rfl) (by decide) (by decide) (k' := 0) (n' := 0) rfl rfl (by decide) (by decide) rfl
  obtain ⟨rfl, M0, K0⟩ := hq73
  dsimp only [Option.toList, List.cons_append, List.nil_append] at r72
  have wf0 := wf.rm (m := j) hj
  obtain ⟨s0, es0⟩ : ∃ s0, s0 = rmF st j := ⟨_, rfl⟩
  rw [← es0] at M0 wf0
  have r76 := r72.aloadN (pc' := 6) d4_5 rfl rfl rfl
  have r77 := r76.getF (host := "") (pc' := 9) d4_6 (Or.inl (hw _ (List.mem_of_getElem? (i := 12) rfl))) Via.refl M0.2.1.2.1 rfl
  have r78 := r77.iloadN (pc' := 10) d4_9 rfl rfl
  have r79 := r78.iloadN (pc' := 11) d4_10 rfl rfl
  obtain ⟨h80, W80, V80, r80⟩ := r79.sI (pc' := 12) d4_11 (M0.2.2.1.2.1) jn j3 (ix hj.2 (by decide) wf0.1.2.1) (M0.2.2.2.2.2.2.2.1) rfl
  have M80 := NB.set1 M0 W80 V80
  have K80 := K0.wr W80 (Or.inl (by simp))
  have r81 := r80.aloadN (pc' := 13) d4_12 rfl rfl rfl
  have r82 := r81.getF (host := "") (pc' := 16) d4_13 (Or.inl (hw _ (List.mem_of_getElem? (i := 16) rfl))) Via.refl M80.2.1.2.2.2 rfl
  have r83 := r82.iloadN (pc' := 17) d4_16 rfl rfl
  have r84 := r83.iconst (pc' := 18) (-1 : Int32) d4_17 rfl rfl
  obtain ⟨h85, W85, V85, r85⟩ := r84.sI (pc' := 19) d4_18 (M80.2.2.1.2.2.2) jn j3 (ix hj.2 (by decide) wf0.1.2.2.2) (M80.2.2.2.2.2.2.2.2.2) rfl
  have M85 := NB.set3 M80 W85 V85
  have K85 := K80.wr W85 (Or.inl (by simp))
  have r86 := r85.aloadN (pc' := 20) d4_19 rfl rfl rfl
  have r87 := r86.getF (host := "") (pc' := 23) d4_20 (Or.inl (hw _ (List.mem_of_getElem? (i := 14) rfl))) Via.refl M85.2.1.2.2.1 rfl
  have r88 := r87.iloadN (pc' := 24) d4_23 rfl rfl
  have r89 := r88.aloadN (pc' := 25) d4_24 rfl rfl rfl
  have r90 := r89.getF (host := "") (pc' := 28) d4_25 (Or.inl (hw _ (List.mem_of_getElem? (i := 10) rfl))) Via.refl M85.2.1.1 rfl
  have r91 := r90.iloadN (pc' := 29) d4_28 rfl rfl
  have r92 := r91.gI (pc' := 30) d4_29 (M85.2.2.1.1) nn_ n2 rfl
  obtain ⟨h93, W93, V93, r93⟩ := r92.sI (pc' := 31) d4_30 (M85.2.2.1.2.2.1) jn j3 (ix hj.2 (by decide) wf0.1.2.2.1) (M85.2.2.2.2.2.2.2.2.1) rfl
  have M93 := NB.set2 M85 W93 V93
  have K93 := K85.wr W93 (Or.inl (by simp))
  have r94 := r93.aloadN (pc' := 32) d4_31 rfl rfl rfl
  have r95 := r94.getF (host := "") (pc' := 35) d4_32 (Or.inl (hw _ (List.mem_of_getElem? (i := 10) rfl))) Via.refl M93.2.1.1 rfl
  have r96 := r95.iloadN (pc' := 36) d4_35 rfl rfl
  have M1 : NB Z h93 n0 a af an ax ap (fl1 s0 j nd) := M93
  have wf1 := wf0.f1 (m := j) (nd := nd) hj hn
  obtain ⟨s1, es1⟩ : ∃ s1, s1 = fl1 s0 j nd := ⟨_, rfl⟩
  rw [← es1] at M1 wf1
  have i1 : nd.toNatClampNeg < s1.1.length := ix hn.2 (by decide) wf1.1.1
  have bF := wf1.2.1.get i1
  have r97 := r96.gI (pc' := 37) d4_36 (M1.2.2.1.1) nn_ n2 rfl
  obtain ⟨h2, M2, K2, r98⟩ : ∃ h2, NB Z h2 n0 a af an ax ap (fl2 s1 j nd) ∧ Keep h0 h2 [af, an, ax, ap] ∧ Rch p l e ({ frames := 1, cells := 0, slots := 0, locals := 14 } : Room) s m #[(.ref a), (.int j), (.int nd)] below meth c Z (⟨"com/example/hailstream/hailstream/NodeBuckets", "file", "(II)V"⟩ : MethodName) prog_18_method_2_code 3 none n0 T0 (mkF m 0 #[.val (.ref a), .val (.int j), .val (.int nd)] []) 0 0 h2 (mkF m 52 #[.val (.ref a), .val (.int j), .val (.int nd)] []) := by
    by_cases hc99 : (gI s1.1 nd) < (0 : Int32)
    · -- yes
      have r100 := r97.ifT (pc' := 52) d4_37 (tlt hc99).1 (by decide) (by decide)
      have e : fl2 s1 j nd = s1 := if_pos hc99
      rw [e]
      exact ⟨_, M1, K93, r100⟩
    · -- not no
      have r101 := r97.ifF (pc' := 40) d4_37 (flt hc99).1 rfl
      have r102 := r101.aloadN (pc' := 41) d4_40 rfl rfl rfl
      have r103 := r102.getF (host := "") (pc' := 44) d4_41 (Or.inl (hw _ (List.mem_of_getElem? (i := 16) rfl))) Via.refl M1.2.1.2.2.2 rfl
      have r104 := r103.aloadN (pc' := 45) d4_44 rfl rfl rfl
      have r105 := r104.getF (host := "") (pc' := 48) d4_45 (Or.inl (hw _ (List.mem_of_getElem? (i := 10) rfl))) Via.refl M1.2.1.1 rfl
      have r106 := r105.iloadN (pc' := 49) d4_48 rfl rfl
      have r107 := r106.gI (pc' := 50) d4_49 (M1.2.2.1.1) nn_ n2 rfl
      have r108 := r107.iloadN (pc' := 51) d4_50 rfl rfl
      obtain ⟨h109, W109, V109, r109⟩ := r108.sI (pc' := 52) d4_51 (M1.2.2.1.2.2.2) hc99 (lt3 bF.2) (ix bF.2 (by decide) wf1.1.2.2.2) (M1.2.2.2.2.2.2.2.2.2) rfl
      have M109 := NB.set3 M1 W109 V109
      have K109 := K93.wr W109 (Or.inl (by simp))
      have e : fl2 s1 j nd = (s1.1, s1.2.1, s1.2.2.1, (s1.2.2.2.set ((gI s1.1 nd)).toNatClampNeg j)) := if_neg hc99
      rw [e]
      exact ⟨_, M109, K109, r109⟩
  have wf2 := wf1.f2 (m := j) (nd := nd) hj
  obtain ⟨s2, es2⟩ : ∃ s2, s2 = fl2 s1 j nd := ⟨_, rfl⟩
  rw [← es2] at M2 wf2
  have r110 := r98.aloadN (pc' := 53) d4_52 rfl rfl rfl
  have r111 := r110.getF (host := "") (pc' := 56) d4_53 (Or.inl (hw _ (List.mem_of_getElem? (i := 10) rfl))) Via.refl M2.2.1.1 rfl
  have r112 := r111.iloadN (pc' := 57) d4_56 rfl rfl
  have r113 := r112.iloadN (pc' := 58) d4_57 rfl rfl
  obtain ⟨h114, W114, V114, r114⟩ := r113.sI (pc' := 59) d4_58 (M2.2.2.1.1) nn_ n2 (ix hn.2 (by decide) wf2.1.1) (M2.2.2.2.2.2.2.1) rfl
  have M114 := NB.set0 M2 W114 V114
  have K114 := K2.wr W114 (Or.inl (by simp))
  have e : fileF st j nd = fl3 s2 j nd := by unfold fileF; rw [← es0, ← es1, ← es2]
  rw [e]
  exact ⟨_, _, r114.retV d4_59 rfl (by decide) (by decide), rfl, M114, K114⟩
theorem pn_java_util_Arrays : plainName "java/util/Arrays" = true := by first | (simp [plainName, overriddenIn]; done) | decide +kernel
theorem d3_0 : decode jdk_65_method_103_code 0 = .ok (.iconst 0, 1) := by decide +kernel
theorem d3_1 : decode jdk_65_method_103_code 1 = .ok (.istore_n 2, 1) := by decide +kernel
theorem d3_2 : decode jdk_65_method_103_code 2 = .ok (.aload_n 0, 1) := by decide +kernel
theorem d3_3 : decode jdk_65_method_103_code 3 = .ok (.arraylength, 1) := by decide +kernel
theorem d3_4 : decode jdk_65_method_103_code 4 = .ok (.istore_n 3, 1) := by decide +kernel
theorem d3_5 : decode jdk_65_method_103_code 5 = .ok (.iload_n 2, 1) := by decide +kernel
theorem d3_6 : decode jdk_65_method_103_code 6 = .ok (.iload_n 3, 1) := by decide +kernel
theorem d3_7 : decode jdk_65_method_103_code 7 = .ok (.if_icmp .ge 13, 3) := by decide +kernel
theorem d3_20 : decode jdk_65_method_103_code 20 = .ok (.return_, 1) := by decide +kernel
theorem d3_10 : decode jdk_65_method_103_code 10 = .ok (.aload_n 0, 1) := by decide +kernel
theorem d3_11 : decode jdk_65_method_103_code 11 = .ok (.iload_n 2, 1) := by decide +kernel
theorem d3_12 : decode jdk_65_method_103_code 12 = .ok (.iload_n 1, 1) := by decide +kernel
theorem d3_13 : decode jdk_65_method_103_code 13 = .ok (.iastore, 1) := by decide +kernel
theorem d3_14 : decode jdk_65_method_103_code 14 = .ok (.iinc 2 1, 3) := by decide +kernel
theorem d3_17 : decode jdk_65_method_103_code 17 = .ok (.goto (-12), 3) := by decide +kernel
set_option maxRecDepth 65536 in
set_option maxHeartbeats 40000000 in
theorem c_fill (l : Launch) (Z : State) (a0 : Array Value) (hw : ∀ d ∈ tables_1, d.before a0 Z = true) (a : Addr) (z : Int32) (F : List Int32) (h0 : Heap) (n0 : Nat) (V : ArI Z h0 a z F) (hz : 0 ≤ z.toInt) (hl : F.length = z.toInt.toNat) (hN : n0 ≤ a) :
    Ctr l Z (⟨"java/util/Arrays", "fill", "([II)V"⟩ : MethodName) jdk_65_method_103_code 4 none ({ frames := 0, cells := 0, slots := 0, locals := 0 } : Room) #[(.ref a), (.int (-1 : Int32))] h0 n0 (fun v h => v = none ∧ ArI Z h a z (List.replicate F.length (-1)) ∧ Keep h0 h [a]) := by
  refine ent (plainFor_of_name pn_java_util_Arrays) (L0 := #[.val (.ref a), .val (.int (-1 : Int32)), .unset, .unset]) (fun m => by first | (simp [entryFrame, mkF, argsToLocals, Value.category]; done) | rfl) ?_
  intro p e s m below meth c T0 r0
  have r115 := r0.iconst (pc' := 1) (0 : Int32) d3_0 rfl rfl
  have r116 := r115.istoreN (pc' := 2) (L' := #[.val (.ref a), .val (.int (-1 : Int32)), .val (.int (0 : Int32)), .unset]) d3_1 rfl rfl
  have r117 := r116.aloadN (pc' := 3) d3_2 rfl rfl rfl
  have r118 := r117.lenI (pc' := 4) d3_3 V rfl
  have r119 := r118.istoreN (pc' := 5) (L' := #[.val (.ref a), .val (.int (-1 : Int32)), .val (.int (0 : Int32)), .val (.int z)]) d3_4 rfl rfl
  have loop : ∀ (t : Nat) (i : Int32) (hh : Heap) (G : List Int32), i.toInt + t = z.toInt → 0 ≤ i.toInt → G.length = F.length → (∀ q : Nat, (q : Int) < i.toInt → G.getD q 0 = -1) → ArI Z hh a z G → Keep h0 hh [a] → Rch p l e ({ frames := 0, cells := 0, slots := 0, locals := 0 } : Room) s m #[(.ref a), (.int (-1 : Int32))] below meth c Z (⟨"java/util/Arrays", "fill", "([II)V"⟩ : MethodName) jdk_65_method_103_code 4 none n0 T0 (mkF m 0 #[.val (.ref a), .val (.int (-1 : Int32)), .unset, .unset] []) 0 0 hh (mkF m 5 #[.val (.ref a), .val (.int (-1 : Int32)), .val (.int i), .val (.int z)] []) → ∃ v h, Don p l e ({ frames := 0, cells := 0, slots := 0, locals := 0 } : Room) s m #[(.ref a), (.int (-1 : Int32))] below meth c none n0 T0 (mkF m 0 #[.val (.ref a), .val (.int (-1 : Int32)), .unset, .unset] []) v h ∧ v = none ∧ ArI Z h a z (List.replicate F.length (-1)) ∧ Keep h0 h [a] := by
    intro t
    induction t with
    | zero =>
      intro i hh G h1 h2 h3 h4 VG KG r
      have r120 := r.iloadN (pc' := 6) d3_5 rfl rfl
      have r121 := r120.iloadN (pc' := 7) d3_6 rfl rfl
      have hnl : ¬ i < z := by rw [Int32.lt_iff_toInt_lt]; omega
      have r122 := r121.icT (pc' := 20) d3_7 (flt hnl).2.1 (by decide) (by decide)
      have e : G = List.replicate F.length (-1) := by
        apply List.ext_getElem (by simp [h3])
        intro q hq1 hq2
        have := h4 q (by omega)
        rw [List.getD_eq_getElem?_getD, List.getElem?_eq_getElem hq1] at this
        simpa using this
      rw [← e]
      exact ⟨_, _, r122.retV d3_20 rfl (by decide) (by decide), rfl, VG, KG⟩
    | succ t ih =>
      intro i hh G h1 h2 h3 h4 VG KG r
      have r123 := r.iloadN (pc' := 6) d3_5 rfl rfl
      have r124 := r123.iloadN (pc' := 7) d3_6 rfl rfl
      have hl' : i < z := by rw [Int32.lt_iff_toInt_lt]; omega
      have r125 := r124.icF (pc' := 10) d3_7 (tlt hl').2.1 rfl
      have r126 := r125.aloadN (pc' := 11) d3_10 rfl rfl rfl
      have r127 := r126.iloadN (pc' := 12) d3_11 rfl rfl
      have r128 := r127.iloadN (pc' := 13) d3_12 rfl rfl
      have hg : i.toNatClampNeg < G.length := by simp only [Int32.toNatClampNeg]; omega
      obtain ⟨h5, W5, V5, r5⟩ := r128.sI (pc' := 14) d3_13 VG (nn h2) hl' hg hN rfl
      have r129 := r5.iinc (pc' := 17) (L' := #[.val (.ref a), .val (.int (-1 : Int32)), .val (.int (i + (1 : Int32))), .val (.int z)]) (1 : Int32) d3_14 rfl rfl rfl rfl rfl
      have r130 := r129.goto (pc' := 5) d3_17 (by decide) (by decide)
      have hi1 : (i + (1 : Int32)).toInt = i.toInt + 1 := by
        have q1 := c_iadd i 1
        have q2 := rng32 (i + 1)
        have q3 := rng32 z
        simp only [Int32.reduceToInt] at q1
        omega
      refine ih (i + (1 : Int32)) h5 (G.set i.toNatClampNeg (-1)) (by omega) (by omega) (by simpa using h3) (fun q hq => ?_) V5 (KG.wr W5 (Or.inl (by simp))) r130
      by_cases hqi : q = i.toNatClampNeg
      · subst hqi; simp [List.getD_eq_getElem?_getD, hg]
      · have := h4 q (by simp only [Int32.toNatClampNeg] at hqi; omega)
        simpa [List.getD_eq_getElem?_getD, List.getElem?_set_ne (Ne.symm hqi)] using this
  exact loop z.toInt.toNat 0 h0 F (by simp only [Int32.reduceToInt]; omega) (by decide) rfl (fun q hq => absurd hq (by simp only [Int32.reduceToInt]; omega)) V (Keep.refl _ _) r119
theorem d1_0 : decode prog_18_method_1_code 0 = .ok (.aload_n 0, 1) := by decide +kernel
theorem d1_1 : decode prog_18_method_1_code 1 = .ok (.invokespecial 1, 3) := by decide +kernel
theorem d1_4 : decode prog_18_method_1_code 4 = .ok (.aload_n 0, 1) := by decide +kernel
theorem d1_5 : decode prog_18_method_1_code 5 = .ok (.iload_n 2, 1) := by decide +kernel
theorem d1_6 : decode prog_18_method_1_code 6 = .ok (.newarray .int, 2) := by decide +kernel
theorem d1_8 : decode prog_18_method_1_code 8 = .ok (.putfield 7, 3) := by decide +kernel
theorem d1_11 : decode prog_18_method_1_code 11 = .ok (.aload_n 0, 1) := by decide +kernel
theorem d1_12 : decode prog_18_method_1_code 12 = .ok (.iload_n 1, 1) := by decide +kernel
theorem d1_13 : decode prog_18_method_1_code 13 = .ok (.newarray .int, 2) := by decide +kernel
theorem d1_15 : decode prog_18_method_1_code 15 = .ok (.putfield 13, 3) := by decide +kernel
theorem d1_18 : decode prog_18_method_1_code 18 = .ok (.aload_n 0, 1) := by decide +kernel
theorem d1_19 : decode prog_18_method_1_code 19 = .ok (.iload_n 1, 1) := by decide +kernel
theorem d1_20 : decode prog_18_method_1_code 20 = .ok (.newarray .int, 2) := by decide +kernel
theorem d1_22 : decode prog_18_method_1_code 22 = .ok (.putfield 16, 3) := by decide +kernel
theorem d1_25 : decode prog_18_method_1_code 25 = .ok (.aload_n 0, 1) := by decide +kernel
theorem d1_26 : decode prog_18_method_1_code 26 = .ok (.iload_n 1, 1) := by decide +kernel
theorem d1_27 : decode prog_18_method_1_code 27 = .ok (.newarray .int, 2) := by decide +kernel
theorem d1_29 : decode prog_18_method_1_code 29 = .ok (.putfield 19, 3) := by decide +kernel
theorem d1_32 : decode prog_18_method_1_code 32 = .ok (.aload_n 0, 1) := by decide +kernel
theorem d1_33 : decode prog_18_method_1_code 33 = .ok (.getfield 7, 3) := by decide +kernel
theorem d1_36 : decode prog_18_method_1_code 36 = .ok (.iconst (-1), 1) := by decide +kernel
theorem d1_37 : decode prog_18_method_1_code 37 = .ok (.invokestatic 22, 3) := by decide +kernel
theorem pd_7 : parseMethodDescriptor "([II)V" = some ⟨[(.array .int), .int], none⟩ := by decide +kernel
theorem d1_40 : decode prog_18_method_1_code 40 = .ok (.aload_n 0, 1) := by decide +kernel
theorem d1_41 : decode prog_18_method_1_code 41 = .ok (.getfield 13, 3) := by decide +kernel
theorem d1_44 : decode prog_18_method_1_code 44 = .ok (.iconst (-1), 1) := by decide +kernel
theorem d1_45 : decode prog_18_method_1_code 45 = .ok (.invokestatic 22, 3) := by decide +kernel
theorem d1_48 : decode prog_18_method_1_code 48 = .ok (.return_, 1) := by decide +kernel
set_option maxRecDepth 65536 in
set_option maxHeartbeats 40000000 in
theorem c_new (l : Launch) (Z : State) (a0 : Array Value) (hw : ∀ d ∈ tables_1, d.before a0 Z = true) (a : Addr) (h0 : Heap) (n0 : Nat) (Z0 : n0 ≤ h0.size) (E : Exa Z h0 a "com/example/hailstream/hailstream/NodeBuckets") (F0 : Fld Z h0 a "com/example/hailstream/hailstream/NodeBuckets" "first" "[I" .null) (F1 : Fld Z h0 a "com/example/hailstream/hailstream/NodeBuckets" "nodeOf" "[I" .null) (F2 : Fld Z h0 a "com/example/hailstream/hailstream/NodeBuckets" "next" "[I" .null) (F3 : Fld Z h0 a "com/example/hailstream/hailstream/NodeBuckets" "previous" "[I" .null) (ga : n0 ≤ a) :
    Ctr l Z (⟨"com/example/hailstream/hailstream/NodeBuckets", "<init>", "(II)V"⟩ : MethodName) prog_18_method_1_code 3 none ({ frames := 1, cells := 4, slots := 11, locals := 15 } : Room) #[(.ref a), (.int (3 : Int32)), (.int (2 : Int32))] h0 n0 (fun v h => v = none ∧ ∃ af an ax ap : Addr, NB Z h n0 a af an ax ap ([-1, -1], [-1, -1, -1], [0, 0, 0], [0, 0, 0]) ∧ Keep h0 h [a]) := by
  refine ent (plainFor_of_name pn_com_example_hailstream_hailstream_NodeBuckets) (L0 := #[.val (.ref a), .val (.int (3 : Int32)), .val (.int (2 : Int32))]) (fun m => by first | (simp [entryFrame, mkF, argsToLocals, Value.category]; done) | rfl) ?_
  intro p e s m below meth c T0 r0
  have r131 := r0.aloadN (pc' := 1) d1_0 rfl rfl rfl
  have r132 := r131.initO (pc' := 4) 0 d1_1 (hw _ (List.mem_of_getElem? (i := 6) rfl)) (hw _ (List.mem_of_getElem? (i := 7) rfl)) (hw _ (List.mem_of_getElem? (i := 8) rfl)) rfl (by decide) (Nat.le_of_ble_eq_true rfl) (by decide) rfl
  have r133 := r132.aloadN (pc' := 5) d1_4 rfl rfl rfl
  have r134 := r133.iloadN (pc' := 6) d1_5 rfl rfl
  obtain ⟨h135, b135, kc135, hb135, E135, V135, r135⟩ := r134.newP (pc' := 8) d1_6 (hw _ (List.mem_of_getElem? (i := 9) rfl)) (by decide) (cap := 2) (by decide) (by decide) (k' := 1) (n' := 2) rfl rfl (by decide) (by decide) rfl
  have g135 : n0 ≤ b135 := hb135 ▸ Z0
  have zp135 : n0 ≤ h135.size := Nat.le_trans Z0 E135.1
  have VN0 : ArI Z h135 b135 2 [0, 0] := ArI.new V135 2
  have na0 : a ≠ b135 := Nat.ne_of_lt (hb135 ▸ (E).lt)
  have EX0 := (E).ext E135
  have FX0_0 := (F0).ext E135
  have FX0_1 := (F1).ext E135
  have FX0_2 := (F2).ext E135
  have FX0_3 := (F3).ext E135
  have K0 := ((Keep.refl h0 [a])).ext E135
  obtain ⟨h136, W136, r136⟩ := r135.putF (host := "") (pc' := 11) d1_8 (Or.inl (hw _ (List.mem_of_getElem? (i := 10) rfl))) Via.refl FX0_0 EX0 (Or.inr ⟨(hw _ (List.mem_of_getElem? (i := 11) rfl)), rfl, rfl⟩) (hw _ (List.mem_of_getElem? (i := 1) rfl)) (ty := .array .int) (by decide) rfl rfl ga rfl
  replace EX0 := EX0.wr W136
  have FY0_0 := (FX0_0).same W136
  have FY0_1 := (FX0_1).other W136 (Or.inr (slot_ne (Or.inr (hw _ (List.mem_of_getElem? (i := 13) rfl))) (Or.inr (hw _ (List.mem_of_getElem? (i := 11) rfl))) (by decide) (t := .array .int) (t' := .array .int) (by decide) (by decide)))
  have FY0_2 := (FX0_2).other W136 (Or.inr (slot_ne (Or.inr (hw _ (List.mem_of_getElem? (i := 15) rfl))) (Or.inr (hw _ (List.mem_of_getElem? (i := 11) rfl))) (by decide) (t := .array .int) (t' := .array .int) (by decide) (by decide)))
  have FY0_3 := (FX0_3).other W136 (Or.inr (slot_ne (Or.inr (hw _ (List.mem_of_getElem? (i := 17) rfl))) (Or.inr (hw _ (List.mem_of_getElem? (i := 11) rfl))) (by decide) (t := .array .int) (t' := .array .int) (by decide) (by decide)))
  replace VN0 := VN0.other W136 na0.symm
  have KK0 := K0.wr W136 (Or.inl (by simp))
  have zp136 : n0 ≤ h136.size := Nat.le_trans zp135 (Nat.le_of_eq W136.size.symm)
  have r137 := r136.aloadN (pc' := 12) d1_11 rfl rfl rfl
  have r138 := r137.iloadN (pc' := 13) d1_12 rfl rfl
  have gg0 := g135
  have sz0 : h0.size ≤ b135 := Nat.le_trans (Keep.refl h0 [a]).1 (Nat.le_of_eq hb135.symm)
  obtain ⟨h139, b139, kc139, hb139, E139, V139, r139⟩ := r138.newP (pc' := 15) d1_13 (hw _ (List.mem_of_getElem? (i := 9) rfl)) (by decide) (cap := 3) (by decide) (by decide) (k' := 2) (n' := 5) rfl rfl (by decide) (by decide) rfl
  have g139 : n0 ≤ b139 := hb139 ▸ zp136
  have zp139 : n0 ≤ h139.size := Nat.le_trans zp136 E139.1
  have VN1 : ArI Z h139 b139 3 [0, 0, 0] := ArI.new V139 3
  have na1 : a ≠ b139 := Nat.ne_of_lt (hb139 ▸ (EX0).lt)
  have nb0_1 : b135 ≠ b139 := Nat.ne_of_lt (hb139 ▸ VN0.lt)
  replace VN0 := VN0.ext E139
  have EX1 := (EX0).ext E139
  have FX1_0 := (FY0_0).ext E139
  have FX1_1 := (FY0_1).ext E139
  have FX1_2 := (FY0_2).ext E139
  have FX1_3 := (FY0_3).ext E139
  have K1 := (KK0).ext E139
  obtain ⟨h140, W140, r140⟩ := r139.putF (host := "") (pc' := 18) d1_15 (Or.inl (hw _ (List.mem_of_getElem? (i := 12) rfl))) Via.refl FX1_1 EX1 (Or.inr ⟨(hw _ (List.mem_of_getElem? (i := 13) rfl)), rfl, rfl⟩) (hw _ (List.mem_of_getElem? (i := 1) rfl)) (ty := .array .int) (by decide) rfl rfl ga rfl
  replace EX1 := EX1.wr W140
  have FY1_0 := (FX1_0).other W140 (Or.inr (slot_ne (Or.inr (hw _ (List.mem_of_getElem? (i := 11) rfl))) (Or.inr (hw _ (List.mem_of_getElem? (i := 13) rfl))) (by decide) (t := .array .int) (t' := .array .int) (by decide) (by decide)))
  have FY1_1 := (FX1_1).same W140
  have FY1_2 := (FX1_2).other W140 (Or.inr (slot_ne (Or.inr (hw _ (List.mem_of_getElem? (i := 15) rfl))) (Or.inr (hw _ (List.mem_of_getElem? (i := 13) rfl))) (by decide) (t := .array .int) (t' := .array .int) (by decide) (by decide)))
  have FY1_3 := (FX1_3).other W140 (Or.inr (slot_ne (Or.inr (hw _ (List.mem_of_getElem? (i := 17) rfl))) (Or.inr (hw _ (List.mem_of_getElem? (i := 13) rfl))) (by decide) (t := .array .int) (t' := .array .int) (by decide) (by decide)))
  replace VN0 := VN0.other W140 na0.symm
  replace VN1 := VN1.other W140 na1.symm
  have KK1 := K1.wr W140 (Or.inl (by simp))
  have zp140 : n0 ≤ h140.size := Nat.le_trans zp139 (Nat.le_of_eq W140.size.symm)
  have r141 := r140.aloadN (pc' := 19) d1_18 rfl rfl rfl
  have r142 := r141.iloadN (pc' := 20) d1_19 rfl rfl
  have gg1 := g139
  have sz1 : h0.size ≤ b139 := Nat.le_trans (KK0).1 (Nat.le_of_eq hb139.symm)
  obtain ⟨h143, b143, kc143, hb143, E143, V143, r143⟩ := r142.newP (pc' := 22) d1_20 (hw _ (List.mem_of_getElem? (i := 9) rfl)) (by decide) (cap := 3) (by decide) (by decide) (k' := 3) (n' := 8) rfl rfl (by decide) (by decide) rfl
  have g143 : n0 ≤ b143 := hb143 ▸ zp140
  have zp143 : n0 ≤ h143.size := Nat.le_trans zp140 E143.1
  have VN2 : ArI Z h143 b143 3 [0, 0, 0] := ArI.new V143 3
  have na2 : a ≠ b143 := Nat.ne_of_lt (hb143 ▸ (EX1).lt)
  have nb0_2 : b135 ≠ b143 := Nat.ne_of_lt (hb143 ▸ VN0.lt)
  replace VN0 := VN0.ext E143
  have nb1_2 : b139 ≠ b143 := Nat.ne_of_lt (hb143 ▸ VN1.lt)
  replace VN1 := VN1.ext E143
  have EX2 := (EX1).ext E143
  have FX2_0 := (FY1_0).ext E143
  have FX2_1 := (FY1_1).ext E143
  have FX2_2 := (FY1_2).ext E143
  have FX2_3 := (FY1_3).ext E143
  have K2 := (KK1).ext E143
  obtain ⟨h144, W144, r144⟩ := r143.putF (host := "") (pc' := 25) d1_22 (Or.inl (hw _ (List.mem_of_getElem? (i := 14) rfl))) Via.refl FX2_2 EX2 (Or.inr ⟨(hw _ (List.mem_of_getElem? (i := 15) rfl)), rfl, rfl⟩) (hw _ (List.mem_of_getElem? (i := 1) rfl)) (ty := .array .int) (by decide) rfl rfl ga rfl
  replace EX2 := EX2.wr W144
  have FY2_0 := (FX2_0).other W144 (Or.inr (slot_ne (Or.inr (hw _ (List.mem_of_getElem? (i := 11) rfl))) (Or.inr (hw _ (List.mem_of_getElem? (i := 15) rfl))) (by decide) (t := .array .int) (t' := .array .int) (by decide) (by decide)))
  have FY2_1 := (FX2_1).other W144 (Or.inr (slot_ne (Or.inr (hw _ (List.mem_of_getElem? (i := 13) rfl))) (Or.inr (hw _ (List.mem_of_getElem? (i := 15) rfl))) (by decide) (t := .array .int) (t' := .array .int) (by decide) (by decide)))
  have FY2_2 := (FX2_2).same W144
  have FY2_3 := (FX2_3).other W144 (Or.inr (slot_ne (Or.inr (hw _ (List.mem_of_getElem? (i := 17) rfl))) (Or.inr (hw _ (List.mem_of_getElem? (i := 15) rfl))) (by decide) (t := .array .int) (t' := .array .int) (by decide) (by decide)))
  replace VN0 := VN0.other W144 na0.symm
  replace VN1 := VN1.other W144 na1.symm
  replace VN2 := VN2.other W144 na2.symm
  have KK2 := K2.wr W144 (Or.inl (by simp))
  have zp144 : n0 ≤ h144.size := Nat.le_trans zp143 (Nat.le_of_eq W144.size.symm)
  have r145 := r144.aloadN (pc' := 26) d1_25 rfl rfl rfl
  have r146 := r145.iloadN (pc' := 27) d1_26 rfl rfl
  have gg2 := g143
  have sz2 : h0.size ≤ b143 := Nat.le_trans (KK1).1 (Nat.le_of_eq hb143.symm)
  obtain ⟨h147, b147, kc147, hb147, E147, V147, r147⟩ := r146.newP (pc' := 29) d1_27 (hw _ (List.mem_of_getElem? (i := 9) rfl)) (by decide) (cap := 3) (by decide) (by decide) (k' := 4) (n' := 11) rfl rfl (by decide) (by decide) rfl
  have g147 : n0 ≤ b147 := hb147 ▸ zp144
  have zp147 : n0 ≤ h147.size := Nat.le_trans zp144 E147.1
  have VN3 : ArI Z h147 b147 3 [0, 0, 0] := ArI.new V147 3
  have na3 : a ≠ b147 := Nat.ne_of_lt (hb147 ▸ (EX2).lt)
  have nb0_3 : b135 ≠ b147 := Nat.ne_of_lt (hb147 ▸ VN0.lt)
  replace VN0 := VN0.ext E147
  have nb1_3 : b139 ≠ b147 := Nat.ne_of_lt (hb147 ▸ VN1.lt)
  replace VN1 := VN1.ext E147
  have nb2_3 : b143 ≠ b147 := Nat.ne_of_lt (hb147 ▸ VN2.lt)
  replace VN2 := VN2.ext E147
  have EX3 := (EX2).ext E147
  have FX3_0 := (FY2_0).ext E147
  have FX3_1 := (FY2_1).ext E147
  have FX3_2 := (FY2_2).ext E147
  have FX3_3 := (FY2_3).ext E147
  have K3 := (KK2).ext E147
  obtain ⟨h148, W148, r148⟩ := r147.putF (host := "") (pc' := 32) d1_29 (Or.inl (hw _ (List.mem_of_getElem? (i := 16) rfl))) Via.refl FX3_3 EX3 (Or.inr ⟨(hw _ (List.mem_of_getElem? (i := 17) rfl)), rfl, rfl⟩) (hw _ (List.mem_of_getElem? (i := 1) rfl)) (ty := .array .int) (by decide) rfl rfl ga rfl
  replace EX3 := EX3.wr W148
  have FY3_0 := (FX3_0).other W148 (Or.inr (slot_ne (Or.inr (hw _ (List.mem_of_getElem? (i := 11) rfl))) (Or.inr (hw _ (List.mem_of_getElem? (i := 17) rfl))) (by decide) (t := .array .int) (t' := .array .int) (by decide) (by decide)))
  have FY3_1 := (FX3_1).other W148 (Or.inr (slot_ne (Or.inr (hw _ (List.mem_of_getElem? (i := 13) rfl))) (Or.inr (hw _ (List.mem_of_getElem? (i := 17) rfl))) (by decide) (t := .array .int) (t' := .array .int) (by decide) (by decide)))
  have FY3_2 := (FX3_2).other W148 (Or.inr (slot_ne (Or.inr (hw _ (List.mem_of_getElem? (i := 15) rfl))) (Or.inr (hw _ (List.mem_of_getElem? (i := 17) rfl))) (by decide) (t := .array .int) (t' := .array .int) (by decide) (by decide)))
  have FY3_3 := (FX3_3).same W148
  replace VN0 := VN0.other W148 na0.symm
  replace VN1 := VN1.other W148 na1.symm
  replace VN2 := VN2.other W148 na2.symm
  replace VN3 := VN3.other W148 na3.symm
  have KK3 := K3.wr W148 (Or.inl (by simp))
  have zp148 : n0 ≤ h148.size := Nat.le_trans zp147 (Nat.le_of_eq W148.size.symm)
  have r149 := r148.aloadN (pc' := 33) d1_32 rfl rfl rfl
  have gg3 := g147
  have sz3 : h0.size ≤ b147 := Nat.le_trans (KK2).1 (Nat.le_of_eq hb147.symm)
  have r150 := r149.getF (host := "") (pc' := 36) d1_33 (Or.inl (hw _ (List.mem_of_getElem? (i := 10) rfl))) Via.refl FY3_0 rfl
  have r151 := r150.iconst (pc' := 37) (-1 : Int32) d1_36 rfl rfl
  obtain ⟨v154, h155, hq153, r152⟩ := r151.callS (pc' := 40) [(.ref b135), (.int (-1 : Int32))] (rest := []) 0 d1_37 (hw _ (List.mem_of_getElem? (i := 18) rfl)) (hw _ (List.mem_of_getElem? (i := 19) rfl)) (hw _ (List.mem_of_getElem? (i := 20) rfl)) (hw _ (List.mem_of_getElem? (i := 21) rfl)) (by decide) (c_fill l Z a0 hw b135 (2 : Int32) [0, 0] h148 n0 VN0 (by decide) rfl gg0) pd_7 rfl rfl rfl (Nat.le_of_ble_eq_true rfl) (by decide) (by decide) (k' := 4) (n' := 11) rfl rfl (by decide) (by decide) rfl
  obtain ⟨rfl, VF0, KF0⟩ := hq153
  dsimp only [Option.toList, List.cons_append, List.nil_append] at r152
  replace VN1 := VN1.keep KF0 (ninS nb0_1.symm nin0)
  replace VN2 := VN2.keep KF0 (ninS nb0_2.symm nin0)
  replace VN3 := VN3.keep KF0 (ninS nb0_3.symm nin0)
  replace VN0 : ArI Z h155 b135 2 [-1, -1] := VF0
  have EF0 := EX3.keep KF0
  have FZ0_0 := FY3_0.keep KF0 (ninS na0 nin0)
  have FZ0_1 := FY3_1.keep KF0 (ninS na0 nin0)
  have FZ0_2 := FY3_2.keep KF0 (ninS na0 nin0)
  have FZ0_3 := FY3_3.keep KF0 (ninS na0 nin0)
  have KG0 := KK3.trans KF0 (allS (Or.inr sz0) all0)
  have r156 := r152.aloadN (pc' := 41) d1_40 rfl rfl rfl
  have r157 := r156.getF (host := "") (pc' := 44) d1_41 (Or.inl (hw _ (List.mem_of_getElem? (i := 12) rfl))) Via.refl FZ0_1 rfl
  have r158 := r157.iconst (pc' := 45) (-1 : Int32) d1_44 rfl rfl
  obtain ⟨v161, h162, hq160, r159⟩ := r158.callS (pc' := 48) [(.ref b139), (.int (-1 : Int32))] (rest := []) 0 d1_45 (hw _ (List.mem_of_getElem? (i := 18) rfl)) (hw _ (List.mem_of_getElem? (i := 19) rfl)) (hw _ (List.mem_of_getElem? (i := 20) rfl)) (hw _ (List.mem_of_getElem? (i := 21) rfl)) (by decide) (c_fill l Z a0 hw b139 (3 : Int32) [0, 0, 0] h155 n0 VN1 (by decide) rfl gg1) pd_7 rfl rfl rfl (Nat.le_of_ble_eq_true rfl) (by decide) (by decide) (k' := 4) (n' := 11) rfl rfl (by decide) (by decide) rfl
  obtain ⟨rfl, VF1, KF1⟩ := hq160
  dsimp only [Option.toList, List.cons_append, List.nil_append] at r159
  replace VN0 := VN0.keep KF1 (ninS nb0_1 nin0)
  replace VN2 := VN2.keep KF1 (ninS nb1_2.symm nin0)
  replace VN3 := VN3.keep KF1 (ninS nb1_3.symm nin0)
  replace VN1 : ArI Z h162 b139 3 [-1, -1, -1] := VF1
  have EF1 := EF0.keep KF1
  have FZ1_0 := FZ0_0.keep KF1 (ninS na1 nin0)
  have FZ1_1 := FZ0_1.keep KF1 (ninS na1 nin0)
  have FZ1_2 := FZ0_2.keep KF1 (ninS na1 nin0)
  have FZ1_3 := FZ0_3.keep KF1 (ninS na1 nin0)
  have KG1 := KG0.trans KF1 (allS (Or.inr sz1) all0)
  exact ⟨_, _, r159.retV d1_48 rfl (by decide) (by decide), rfl, b135, b139, b143, b147, ⟨EF1, ⟨FZ1_0, FZ1_1, FZ1_2, FZ1_3⟩, ⟨VN0, VN1, VN2, VN3⟩, ⟨na0, na1, na2, na3⟩, ⟨nb0_1, nb0_2, nb0_3, nb1_2, nb1_3, nb2_3⟩, ga, gg0, gg1, gg2, gg3⟩, KG1⟩
theorem pn_com_example_hailstream_hailstream_NodeBucketsRemovePinLaw : plainName "com/example/hailstream/hailstream/NodeBucketsRemovePinLaw" = true := by first | (simp [plainName, overriddenIn]; done) | decide +kernel
theorem d6_0 : decode method_3_code 0 = .ok (.iconst 4, 1) := by decide +kernel
theorem d6_1 : decode method_3_code 1 = .ok (.newarray .int, 2) := by decide +kernel
theorem d6_3 : decode method_3_code 3 = .ok (.dup, 1) := by decide +kernel
theorem d6_4 : decode method_3_code 4 = .ok (.iconst 0, 1) := by decide +kernel
theorem d6_5 : decode method_3_code 5 = .ok (.iconst (-1), 1) := by decide +kernel
theorem d6_6 : decode method_3_code 6 = .ok (.iastore, 1) := by decide +kernel
theorem d6_7 : decode method_3_code 7 = .ok (.dup, 1) := by decide +kernel
theorem d6_8 : decode method_3_code 8 = .ok (.iconst 1, 1) := by decide +kernel
theorem d6_9 : decode method_3_code 9 = .ok (.iconst (-1), 1) := by decide +kernel
theorem d6_10 : decode method_3_code 10 = .ok (.iastore, 1) := by decide +kernel
theorem d6_11 : decode method_3_code 11 = .ok (.dup, 1) := by decide +kernel
theorem d6_12 : decode method_3_code 12 = .ok (.iconst 2, 1) := by decide +kernel
theorem d6_13 : decode method_3_code 13 = .ok (.iconst (-1), 1) := by decide +kernel
theorem d6_14 : decode method_3_code 14 = .ok (.iastore, 1) := by decide +kernel
theorem d6_15 : decode method_3_code 15 = .ok (.dup, 1) := by decide +kernel
theorem d6_16 : decode method_3_code 16 = .ok (.iconst 3, 1) := by decide +kernel
theorem d6_17 : decode method_3_code 17 = .ok (.iconst (-1), 1) := by decide +kernel
theorem d6_18 : decode method_3_code 18 = .ok (.iastore, 1) := by decide +kernel
theorem d6_19 : decode method_3_code 19 = .ok (.astore 8, 2) := by decide +kernel
theorem d6_21 : decode method_3_code 21 = .ok (.iconst 0, 1) := by decide +kernel
theorem d6_22 : decode method_3_code 22 = .ok (.istore 9, 2) := by decide +kernel
theorem d6_24 : decode method_3_code 24 = .ok (.iload 5, 2) := by decide +kernel
theorem d6_26 : decode method_3_code 26 = .ok (.ifCond .eq 19, 3) := by decide +kernel
theorem d6_29 : decode method_3_code 29 = .ok (.iload 7, 2) := by decide +kernel
theorem d6_31 : decode method_3_code 31 = .ok (.iload_n 0, 1) := by decide +kernel
theorem d6_32 : decode method_3_code 32 = .ok (.if_icmp .ne 13, 3) := by decide +kernel
theorem d6_35 : decode method_3_code 35 = .ok (.aload 8, 2) := by decide +kernel
theorem d6_37 : decode method_3_code 37 = .ok (.iload 9, 2) := by decide +kernel
theorem d6_39 : decode method_3_code 39 = .ok (.iload 6, 2) := by decide +kernel
theorem d6_41 : decode method_3_code 41 = .ok (.iastore, 1) := by decide +kernel
theorem d6_42 : decode method_3_code 42 = .ok (.iinc 9 1, 3) := by decide +kernel
theorem d6_45 : decode method_3_code 45 = .ok (.iload_n 3, 1) := by decide +kernel
theorem d6_46 : decode method_3_code 46 = .ok (.iload_n 0, 1) := by decide +kernel
theorem d6_47 : decode method_3_code 47 = .ok (.if_icmp .ne 29, 3) := by decide +kernel
theorem d6_50 : decode method_3_code 50 = .ok (.iload 4, 2) := by decide +kernel
theorem d6_52 : decode method_3_code 52 = .ok (.iconst 2, 1) := by decide +kernel
theorem d6_53 : decode method_3_code 53 = .ok (.if_icmp .eq 23, 3) := by decide +kernel
theorem d6_56 : decode method_3_code 56 = .ok (.iload 5, 2) := by decide +kernel
theorem d6_58 : decode method_3_code 58 = .ok (.ifCond .eq 9, 3) := by decide +kernel
theorem d6_67 : decode method_3_code 67 = .ok (.aload 8, 2) := by decide +kernel
theorem d6_69 : decode method_3_code 69 = .ok (.iload 9, 2) := by decide +kernel
theorem d6_71 : decode method_3_code 71 = .ok (.iconst 2, 1) := by decide +kernel
theorem d6_72 : decode method_3_code 72 = .ok (.iastore, 1) := by decide +kernel
theorem d6_73 : decode method_3_code 73 = .ok (.iinc 9 1, 3) := by decide +kernel
theorem d6_61 : decode method_3_code 61 = .ok (.iload 6, 2) := by decide +kernel
theorem d6_63 : decode method_3_code 63 = .ok (.iconst 2, 1) := by decide +kernel
theorem d6_64 : decode method_3_code 64 = .ok (.if_icmp .eq 12, 3) := by decide +kernel
theorem d6_76 : decode method_3_code 76 = .ok (.iload_n 2, 1) := by decide +kernel
theorem d6_77 : decode method_3_code 77 = .ok (.iload_n 0, 1) := by decide +kernel
theorem d6_78 : decode method_3_code 78 = .ok (.if_icmp .ne 29, 3) := by decide +kernel
theorem d6_81 : decode method_3_code 81 = .ok (.iload 4, 2) := by decide +kernel
theorem d6_83 : decode method_3_code 83 = .ok (.iconst 1, 1) := by decide +kernel
theorem d6_84 : decode method_3_code 84 = .ok (.if_icmp .eq 23, 3) := by decide +kernel
theorem d6_87 : decode method_3_code 87 = .ok (.iload 5, 2) := by decide +kernel
theorem d6_89 : decode method_3_code 89 = .ok (.ifCond .eq 9, 3) := by decide +kernel
theorem d6_98 : decode method_3_code 98 = .ok (.aload 8, 2) := by decide +kernel
theorem d6_100 : decode method_3_code 100 = .ok (.iload 9, 2) := by decide +kernel
theorem d6_102 : decode method_3_code 102 = .ok (.iconst 1, 1) := by decide +kernel
theorem d6_103 : decode method_3_code 103 = .ok (.iastore, 1) := by decide +kernel
theorem d6_104 : decode method_3_code 104 = .ok (.iinc 9 1, 3) := by decide +kernel
theorem d6_92 : decode method_3_code 92 = .ok (.iload 6, 2) := by decide +kernel
theorem d6_94 : decode method_3_code 94 = .ok (.iconst 1, 1) := by decide +kernel
theorem d6_95 : decode method_3_code 95 = .ok (.if_icmp .eq 12, 3) := by decide +kernel
theorem d6_107 : decode method_3_code 107 = .ok (.iload_n 1, 1) := by decide +kernel
theorem d6_108 : decode method_3_code 108 = .ok (.iload_n 0, 1) := by decide +kernel
theorem d6_109 : decode method_3_code 109 = .ok (.if_icmp .ne 27, 3) := by decide +kernel
theorem d6_112 : decode method_3_code 112 = .ok (.iload 4, 2) := by decide +kernel
theorem d6_114 : decode method_3_code 114 = .ok (.ifCond .eq 22, 3) := by decide +kernel
theorem d6_117 : decode method_3_code 117 = .ok (.iload 5, 2) := by decide +kernel
theorem d6_119 : decode method_3_code 119 = .ok (.ifCond .eq 8, 3) := by decide +kernel
theorem d6_127 : decode method_3_code 127 = .ok (.aload 8, 2) := by decide +kernel
theorem d6_129 : decode method_3_code 129 = .ok (.iload 9, 2) := by decide +kernel
theorem d6_131 : decode method_3_code 131 = .ok (.iconst 0, 1) := by decide +kernel
theorem d6_132 : decode method_3_code 132 = .ok (.iastore, 1) := by decide +kernel
theorem d6_133 : decode method_3_code 133 = .ok (.iinc 9 1, 3) := by decide +kernel
theorem d6_122 : decode method_3_code 122 = .ok (.iload 6, 2) := by decide +kernel
theorem d6_124 : decode method_3_code 124 = .ok (.ifCond .eq 12, 3) := by decide +kernel
theorem d6_136 : decode method_3_code 136 = .ok (.aload 8, 2) := by decide +kernel
theorem d6_138 : decode method_3_code 138 = .ok (.areturn, 1) := by decide +kernel
set_option maxRecDepth 65536 in
set_option maxHeartbeats 40000000 in
theorem c_exp (l : Launch) (Z : State) (a0 : Array Value) (hw : ∀ d ∈ tables_1, d.before a0 Z = true) (nd c0 c1 c2 rr mv sq ns : Int32) (h0 : Heap) (n0 : Nat) (Z0 : n0 ≤ h0.size) :
    Ctr l Z (⟨"com/example/hailstream/hailstream/NodeBucketsRemovePinLaw", "expected", "(IIIIIZII)[I"⟩ : MethodName) method_3_code 10 (some (.array .int)) ({ frames := 0, cells := 1, slots := 4, locals := 0 } : Room) #[(.int nd), (.int c0), (.int c1), (.int c2), (.int rr), (.int mv), (.int sq), (.int ns)] h0 n0 (fun v h => ∃ b : Addr, v = some (.ref b) ∧ h0.size ≤ b ∧ ArI Z h b 4 (expF nd c0 c1 c2 rr mv sq ns) ∧ Keep h0 h []) := by
  refine ent (plainFor_of_name pn_com_example_hailstream_hailstream_NodeBucketsRemovePinLaw) (L0 := #[.val (.int nd), .val (.int c0), .val (.int c1), .val (.int c2), .val (.int rr), .val (.int mv), .val (.int sq), .val (.int ns), .unset, .unset]) (fun m => by first | (simp [entryFrame, mkF, argsToLocals, Value.category]; done) | rfl) ?_
  intro p e s m below meth c T0 r0
  have r163 := r0.iconst (pc' := 1) (4 : Int32) d6_0 rfl rfl
  obtain ⟨h164, b164, kc164, hb164, E164, V164, r164⟩ := r163.newP (pc' := 3) d6_1 (hw _ (List.mem_of_getElem? (i := 9) rfl)) (by decide) (cap := 4) (by decide) (by decide) (k' := 1) (n' := 4) rfl rfl (by decide) (by decide) rfl
  have g164 : n0 ≤ b164 := hb164 ▸ Z0
  have zp164 : n0 ≤ h164.size := Nat.le_trans Z0 E164.1
  have VE : ArI Z h164 b164 4 [0, 0, 0, 0] := ArI.new V164 4
  have szb : h0.size ≤ b164 := Nat.le_of_eq hb164.symm
  have KE : Keep h0 h164 [] := (Keep.refl h0 []).ext E164
  have r165 := r164.dup (pc' := 4) d6_3 rfl rfl
  have r166 := r165.iconst (pc' := 5) (0 : Int32) d6_4 rfl rfl
  have r167 := r166.iconst (pc' := 6) (-1 : Int32) d6_5 rfl rfl
  obtain ⟨h168, W168, V168, r168⟩ := r167.sI (pc' := 7) d6_6 VE (by decide) (by decide) (Nat.le_of_ble_eq_true rfl) g164 rfl
  replace V168 : ArI Z h168 b164 4 [(-1 : Int32), 0, 0, 0] := V168
  have K168 := KE.wr W168 (Or.inr szb)
  have r169 := r168.dup (pc' := 8) d6_7 rfl rfl
  have r170 := r169.iconst (pc' := 9) (1 : Int32) d6_8 rfl rfl
  have r171 := r170.iconst (pc' := 10) (-1 : Int32) d6_9 rfl rfl
  obtain ⟨h172, W172, V172, r172⟩ := r171.sI (pc' := 11) d6_10 V168 (by decide) (by decide) (Nat.le_of_ble_eq_true rfl) g164 rfl
  replace V172 : ArI Z h172 b164 4 [(-1 : Int32), (-1 : Int32), 0, 0] := V172
  have K172 := K168.wr W172 (Or.inr szb)
  have r173 := r172.dup (pc' := 12) d6_11 rfl rfl
  have r174 := r173.iconst (pc' := 13) (2 : Int32) d6_12 rfl rfl
  have r175 := r174.iconst (pc' := 14) (-1 : Int32) d6_13 rfl rfl
  obtain ⟨h176, W176, V176, r176⟩ := r175.sI (pc' := 15) d6_14 V172 (by decide) (by decide) (Nat.le_of_ble_eq_true rfl) g164 rfl
  replace V176 : ArI Z h176 b164 4 [(-1 : Int32), (-1 : Int32), (-1 : Int32), 0] := V176
  have K176 := K172.wr W176 (Or.inr szb)
  have r177 := r176.dup (pc' := 16) d6_15 rfl rfl
  have r178 := r177.iconst (pc' := 17) (3 : Int32) d6_16 rfl rfl
  have r179 := r178.iconst (pc' := 18) (-1 : Int32) d6_17 rfl rfl
  obtain ⟨h180, W180, V180, r180⟩ := r179.sI (pc' := 19) d6_18 V176 (by decide) (by decide) (Nat.le_of_ble_eq_true rfl) g164 rfl
  replace V180 : ArI Z h180 b164 4 [(-1 : Int32), (-1 : Int32), (-1 : Int32), (-1 : Int32)] := V180
  have K180 := K176.wr W180 (Or.inr szb)
  have r181 := r180.astore (pc' := 21) (L' := #[.val (.int nd), .val (.int c0), .val (.int c1), .val (.int c2), .val (.int rr), .val (.int mv), .val (.int sq), .val (.int ns), .val (.ref b164), .unset]) d6_19 rfl rfl rfl
  have r182 := r181.iconst (pc' := 22) (0 : Int32) d6_21 rfl rfl
  have r183 := r182.istore (pc' := 24) (L' := #[.val (.int nd), .val (.int c0), .val (.int c1), .val (.int c2), .val (.int rr), .val (.int mv), .val (.int sq), .val (.int ns), .val (.ref b164), .val (.int (0 : Int32))]) d6_22 rfl rfl
  obtain ⟨kE0, ek0⟩ : ∃ z : Int32 × List Int32, z = (0, [-1, -1, -1, -1]) := ⟨_, rfl⟩
  have bk0 : 0 ≤ kE0.1.toInt ∧ kE0.1.toInt ≤ 0 ∧ kE0.2.length = 4 := by rw [ek0]; decide
  have r184 : Rch p l e ({ frames := 0, cells := 1, slots := 4, locals := 0 } : Room) s m #[(.int nd), (.int c0), (.int c1), (.int c2), (.int rr), (.int mv), (.int sq), (.int ns)] below meth c Z (⟨"com/example/hailstream/hailstream/NodeBucketsRemovePinLaw", "expected", "(IIIIIZII)[I"⟩ : MethodName) method_3_code 10 (some (.array .int)) n0 T0 (mkF m 0 #[.val (.int nd), .val (.int c0), .val (.int c1), .val (.int c2), .val (.int rr), .val (.int mv), .val (.int sq), .val (.int ns), .unset, .unset] []) 1 4 h180 (mkF m 24 #[.val (.int nd), .val (.int c0), .val (.int c1), .val (.int c2), .val (.int rr), .val (.int mv), .val (.int sq), .val (.int ns), .val (.ref b164), .val (.int kE0.1)] []) := by rw [ek0]; exact r183
  have VK0 : ArI Z h180 b164 4 kE0.2 := by rw [ek0]; exact V180
  obtain ⟨kE1, ek1, bk1, hx1, VK1, KX1, r185⟩ : ∃ z : Int32 × List Int32, z = psh (e1 nd mv ns) sq kE0 ∧ (0 ≤ z.1.toInt ∧ z.1.toInt ≤ 1 ∧ z.2.length = 4) ∧ ∃ hh, ArI Z hh b164 4 z.2 ∧ Keep h0 hh [] ∧ Rch p l e ({ frames := 0, cells := 1, slots := 4, locals := 0 } : Room) s m #[(.int nd), (.int c0), (.int c1), (.int c2), (.int rr), (.int mv), (.int sq), (.int ns)] below meth c Z (⟨"com/example/hailstream/hailstream/NodeBucketsRemovePinLaw", "expected", "(IIIIIZII)[I"⟩ : MethodName) method_3_code 10 (some (.array .int)) n0 T0 (mkF m 0 #[.val (.int nd), .val (.int c0), .val (.int c1), .val (.int c2), .val (.int rr), .val (.int mv), .val (.int sq), .val (.int ns), .unset, .unset] []) 1 4 hh (mkF m 45 #[.val (.int nd), .val (.int c0), .val (.int c1), .val (.int c2), .val (.int rr), .val (.int mv), .val (.int sq), .val (.int ns), .val (.ref b164), .val (.int z.1)] []) := by
    have r186 := r184.iload (pc' := 26) d6_24 rfl rfl
    by_cases hc187 : mv = (0 : Int32)
    · -- yes
      have r188 := r186.ifT (pc' := 45) d6_26 (teq hc187).1 (by decide) (by decide)
      have e : psh (e1 nd mv ns) sq kE0 = kE0 := by simp [psh, e1, e2, hc187]
      exact ⟨_, e.symm, ⟨bk0.1, by omega, bk0.2.2⟩, _, VK0, K180, r188⟩
    · -- not no
      have r189 := r186.ifF (pc' := 29) d6_26 (feq hc187).1 rfl
      have r190 := r189.iload (pc' := 31) d6_29 rfl rfl
      have r191 := r190.iloadN (pc' := 32) d6_31 rfl rfl
      by_cases hc192 : ns = nd
      · -- yes
        have r193 := r191.icF (pc' := 35) d6_32 (teq hc192).2 rfl
        have r194 := r193.aload (pc' := 37) d6_35 rfl rfl rfl
        have r195 := r194.iload (pc' := 39) d6_37 rfl rfl
        have r196 := r195.iload (pc' := 41) d6_39 rfl rfl
        obtain ⟨h197, W197, V197, r197⟩ := r196.sI (pc' := 42) d6_41 VK0 (nn bk0.1) (by rw [Int32.lt_iff_toInt_lt]; simp only [Int32.reduceToInt]; omega) (by simp only [Int32.toNatClampNeg]; omega) g164 rfl
        have r198 := r197.iinc (pc' := 45) (L' := #[.val (.int nd), .val (.int c0), .val (.int c1), .val (.int c2), .val (.int rr), .val (.int mv), .val (.int sq), .val (.int ns), .val (.ref b164), .val (.int (kE0.1 + (1 : Int32)))]) (1 : Int32) d6_42 rfl rfl rfl rfl rfl
        have e : psh (e1 nd mv ns) sq kE0 = (kE0.1 + 1, kE0.2.set kE0.1.toNatClampNeg sq) := by simp [psh, e1, e2, hc187, hc192]
        have q1 := c_iadd kE0.1 1
        have q2 := rng32 (kE0.1 + 1)
        simp only [Int32.reduceToInt] at q1
        exact ⟨_, e.symm, ⟨by simp only []; omega, by simp only []; omega, by simp; omega⟩, _, V197, K180.wr W197 (Or.inr szb), r198⟩
      · -- not no
        have r199 := r191.icT (pc' := 45) d6_32 (feq hc192).2 (by decide) (by decide)
        have e : psh (e1 nd mv ns) sq kE0 = kE0 := by simp [psh, e1, e2, hc187, hc192]
        exact ⟨_, e.symm, ⟨bk0.1, by omega, bk0.2.2⟩, _, VK0, K180, r199⟩
  obtain ⟨kE2, ek2, bk2, hx2, VK2, KX2, r200⟩ : ∃ z : Int32 × List Int32, z = psh (e2 nd c2 rr mv sq 2) (2 : Int32) kE1 ∧ (0 ≤ z.1.toInt ∧ z.1.toInt ≤ 2 ∧ z.2.length = 4) ∧ ∃ hh, ArI Z hh b164 4 z.2 ∧ Keep h0 hh [] ∧ Rch p l e ({ frames := 0, cells := 1, slots := 4, locals := 0 } : Room) s m #[(.int nd), (.int c0), (.int c1), (.int c2), (.int rr), (.int mv), (.int sq), (.int ns)] below meth c Z (⟨"com/example/hailstream/hailstream/NodeBucketsRemovePinLaw", "expected", "(IIIIIZII)[I"⟩ : MethodName) method_3_code 10 (some (.array .int)) n0 T0 (mkF m 0 #[.val (.int nd), .val (.int c0), .val (.int c1), .val (.int c2), .val (.int rr), .val (.int mv), .val (.int sq), .val (.int ns), .unset, .unset] []) 1 4 hh (mkF m 76 #[.val (.int nd), .val (.int c0), .val (.int c1), .val (.int c2), .val (.int rr), .val (.int mv), .val (.int sq), .val (.int ns), .val (.ref b164), .val (.int z.1)] []) := by
    have r201 := r185.iloadN (pc' := 46) d6_45 rfl rfl
    have r202 := r201.iloadN (pc' := 47) d6_46 rfl rfl
    by_cases hc203 : c2 = nd
    · -- yes
      have r204 := r202.icF (pc' := 50) d6_47 (teq hc203).2 rfl
      have r205 := r204.iload (pc' := 52) d6_50 rfl rfl
      have r206 := r205.iconst (pc' := 53) (2 : Int32) d6_52 rfl rfl
      by_cases hc207 : rr = (2 : Int32)
      · -- yes
        have r208 := r206.icT (pc' := 76) d6_53 (teq hc207).1 (by decide) (by decide)
        have e : psh (e2 nd c2 rr mv sq 2) (2 : Int32) kE1 = kE1 := by simp [psh, e1, e2, hc203, hc207]
        exact ⟨_, e.symm, ⟨bk1.1, by omega, bk1.2.2⟩, _, VK1, KX1, r208⟩
      · -- not no
        have r209 := r206.icF (pc' := 56) d6_53 (feq hc207).1 rfl
        have r210 := r209.iload (pc' := 58) d6_56 rfl rfl
        by_cases hc211 : mv = (0 : Int32)
        · -- yes
          have r212 := r210.ifT (pc' := 67) d6_58 (teq hc211).1 (by decide) (by decide)
          have r213 := r212.aload (pc' := 69) d6_67 rfl rfl rfl
          have r214 := r213.iload (pc' := 71) d6_69 rfl rfl
          have r215 := r214.iconst (pc' := 72) (2 : Int32) d6_71 rfl rfl
          obtain ⟨h216, W216, V216, r216⟩ := r215.sI (pc' := 73) d6_72 VK1 (nn bk1.1) (by rw [Int32.lt_iff_toInt_lt]; simp only [Int32.reduceToInt]; omega) (by simp only [Int32.toNatClampNeg]; omega) g164 rfl
          have r217 := r216.iinc (pc' := 76) (L' := #[.val (.int nd), .val (.int c0), .val (.int c1), .val (.int c2), .val (.int rr), .val (.int mv), .val (.int sq), .val (.int ns), .val (.ref b164), .val (.int (kE1.1 + (1 : Int32)))]) (1 : Int32) d6_73 rfl rfl rfl rfl rfl
          have e : psh (e2 nd c2 rr mv sq 2) (2 : Int32) kE1 = (kE1.1 + 1, kE1.2.set kE1.1.toNatClampNeg (2 : Int32)) := by simp [psh, e1, e2, hc203, hc207, hc211]
          have q1 := c_iadd kE1.1 1
          have q2 := rng32 (kE1.1 + 1)
          simp only [Int32.reduceToInt] at q1
          exact ⟨_, e.symm, ⟨by simp only []; omega, by simp only []; omega, by simp; omega⟩, _, V216, KX1.wr W216 (Or.inr szb), r217⟩
        · -- not no
          have r218 := r210.ifF (pc' := 61) d6_58 (feq hc211).1 rfl
          have r219 := r218.iload (pc' := 63) d6_61 rfl rfl
          have r220 := r219.iconst (pc' := 64) (2 : Int32) d6_63 rfl rfl
          by_cases hc221 : sq = (2 : Int32)
          · -- yes
            have r222 := r220.icT (pc' := 76) d6_64 (teq hc221).1 (by decide) (by decide)
            have e : psh (e2 nd c2 rr mv sq 2) (2 : Int32) kE1 = kE1 := by simp [psh, e1, e2, hc203, hc207, hc211, hc221]
            exact ⟨_, e.symm, ⟨bk1.1, by omega, bk1.2.2⟩, _, VK1, KX1, r222⟩
          · -- not no
            have r223 := r220.icF (pc' := 67) d6_64 (feq hc221).1 rfl
            have r224 := r223.aload (pc' := 69) d6_67 rfl rfl rfl
            have r225 := r224.iload (pc' := 71) d6_69 rfl rfl
            have r226 := r225.iconst (pc' := 72) (2 : Int32) d6_71 rfl rfl
            obtain ⟨h227, W227, V227, r227⟩ := r226.sI (pc' := 73) d6_72 VK1 (nn bk1.1) (by rw [Int32.lt_iff_toInt_lt]; simp only [Int32.reduceToInt]; omega) (by simp only [Int32.toNatClampNeg]; omega) g164 rfl
            have r228 := r227.iinc (pc' := 76) (L' := #[.val (.int nd), .val (.int c0), .val (.int c1), .val (.int c2), .val (.int rr), .val (.int mv), .val (.int sq), .val (.int ns), .val (.ref b164), .val (.int (kE1.1 + (1 : Int32)))]) (1 : Int32) d6_73 rfl rfl rfl rfl rfl
            have e : psh (e2 nd c2 rr mv sq 2) (2 : Int32) kE1 = (kE1.1 + 1, kE1.2.set kE1.1.toNatClampNeg (2 : Int32)) := by simp [psh, e1, e2, hc203, hc207, hc211, hc221]
            have q1 := c_iadd kE1.1 1
            have q2 := rng32 (kE1.1 + 1)
            simp only [Int32.reduceToInt] at q1
            exact ⟨_, e.symm, ⟨by simp only []; omega, by simp only []; omega, by simp; omega⟩, _, V227, KX1.wr W227 (Or.inr szb), r228⟩
    · -- not no
      have r229 := r202.icT (pc' := 76) d6_47 (feq hc203).2 (by decide) (by decide)
      have e : psh (e2 nd c2 rr mv sq 2) (2 : Int32) kE1 = kE1 := by simp [psh, e1, e2, hc203]
      exact ⟨_, e.symm, ⟨bk1.1, by omega, bk1.2.2⟩, _, VK1, KX1, r229⟩
  obtain ⟨kE3, ek3, bk3, hx3, VK3, KX3, r230⟩ : ∃ z : Int32 × List Int32, z = psh (e2 nd c1 rr mv sq 1) (1 : Int32) kE2 ∧ (0 ≤ z.1.toInt ∧ z.1.toInt ≤ 3 ∧ z.2.length = 4) ∧ ∃ hh, ArI Z hh b164 4 z.2 ∧ Keep h0 hh [] ∧ Rch p l e ({ frames := 0, cells := 1, slots := 4, locals := 0 } : Room) s m #[(.int nd), (.int c0), (.int c1), (.int c2), (.int rr), (.int mv), (.int sq), (.int ns)] below meth c Z (⟨"com/example/hailstream/hailstream/NodeBucketsRemovePinLaw", "expected", "(IIIIIZII)[I"⟩ : MethodName) method_3_code 10 (some (.array .int)) n0 T0 (mkF m 0 #[.val (.int nd), .val (.int c0), .val (.int c1), .val (.int c2), .val (.int rr), .val (.int mv), .val (.int sq), .val (.int ns), .unset, .unset] []) 1 4 hh (mkF m 107 #[.val (.int nd), .val (.int c0), .val (.int c1), .val (.int c2), .val (.int rr), .val (.int mv), .val (.int sq), .val (.int ns), .val (.ref b164), .val (.int z.1)] []) := by
    have r231 := r200.iloadN (pc' := 77) d6_76 rfl rfl
    have r232 := r231.iloadN (pc' := 78) d6_77 rfl rfl
    by_cases hc233 : c1 = nd
    · -- yes
      have r234 := r232.icF (pc' := 81) d6_78 (teq hc233).2 rfl
      have r235 := r234.iload (pc' := 83) d6_81 rfl rfl
      have r236 := r235.iconst (pc' := 84) (1 : Int32) d6_83 rfl rfl
      by_cases hc237 : rr = (1 : Int32)
      · -- yes
        have r238 := r236.icT (pc' := 107) d6_84 (teq hc237).1 (by decide) (by decide)
        have e : psh (e2 nd c1 rr mv sq 1) (1 : Int32) kE2 = kE2 := by simp [psh, e1, e2, hc233, hc237]
        exact ⟨_, e.symm, ⟨bk2.1, by omega, bk2.2.2⟩, _, VK2, KX2, r238⟩
      · -- not no
        have r239 := r236.icF (pc' := 87) d6_84 (feq hc237).1 rfl
        have r240 := r239.iload (pc' := 89) d6_87 rfl rfl
        by_cases hc241 : mv = (0 : Int32)
        · -- yes
          have r242 := r240.ifT (pc' := 98) d6_89 (teq hc241).1 (by decide) (by decide)
          have r243 := r242.aload (pc' := 100) d6_98 rfl rfl rfl
          have r244 := r243.iload (pc' := 102) d6_100 rfl rfl
          have r245 := r244.iconst (pc' := 103) (1 : Int32) d6_102 rfl rfl
          obtain ⟨h246, W246, V246, r246⟩ := r245.sI (pc' := 104) d6_103 VK2 (nn bk2.1) (by rw [Int32.lt_iff_toInt_lt]; simp only [Int32.reduceToInt]; omega) (by simp only [Int32.toNatClampNeg]; omega) g164 rfl
          have r247 := r246.iinc (pc' := 107) (L' := #[.val (.int nd), .val (.int c0), .val (.int c1), .val (.int c2), .val (.int rr), .val (.int mv), .val (.int sq), .val (.int ns), .val (.ref b164), .val (.int (kE2.1 + (1 : Int32)))]) (1 : Int32) d6_104 rfl rfl rfl rfl rfl
          have e : psh (e2 nd c1 rr mv sq 1) (1 : Int32) kE2 = (kE2.1 + 1, kE2.2.set kE2.1.toNatClampNeg (1 : Int32)) := by simp [psh, e1, e2, hc233, hc237, hc241]
          have q1 := c_iadd kE2.1 1
          have q2 := rng32 (kE2.1 + 1)
          simp only [Int32.reduceToInt] at q1
          exact ⟨_, e.symm, ⟨by simp only []; omega, by simp only []; omega, by simp; omega⟩, _, V246, KX2.wr W246 (Or.inr szb), r247⟩
        · -- not no
          have r248 := r240.ifF (pc' := 92) d6_89 (feq hc241).1 rfl
          have r249 := r248.iload (pc' := 94) d6_92 rfl rfl
          have r250 := r249.iconst (pc' := 95) (1 : Int32) d6_94 rfl rfl
          by_cases hc251 : sq = (1 : Int32)
          · -- yes
            have r252 := r250.icT (pc' := 107) d6_95 (teq hc251).1 (by decide) (by decide)
            have e : psh (e2 nd c1 rr mv sq 1) (1 : Int32) kE2 = kE2 := by simp [psh, e1, e2, hc233, hc237, hc241, hc251]
            exact ⟨_, e.symm, ⟨bk2.1, by omega, bk2.2.2⟩, _, VK2, KX2, r252⟩
          · -- not no
            have r253 := r250.icF (pc' := 98) d6_95 (feq hc251).1 rfl
            have r254 := r253.aload (pc' := 100) d6_98 rfl rfl rfl
            have r255 := r254.iload (pc' := 102) d6_100 rfl rfl
            have r256 := r255.iconst (pc' := 103) (1 : Int32) d6_102 rfl rfl
            obtain ⟨h257, W257, V257, r257⟩ := r256.sI (pc' := 104) d6_103 VK2 (nn bk2.1) (by rw [Int32.lt_iff_toInt_lt]; simp only [Int32.reduceToInt]; omega) (by simp only [Int32.toNatClampNeg]; omega) g164 rfl
            have r258 := r257.iinc (pc' := 107) (L' := #[.val (.int nd), .val (.int c0), .val (.int c1), .val (.int c2), .val (.int rr), .val (.int mv), .val (.int sq), .val (.int ns), .val (.ref b164), .val (.int (kE2.1 + (1 : Int32)))]) (1 : Int32) d6_104 rfl rfl rfl rfl rfl
            have e : psh (e2 nd c1 rr mv sq 1) (1 : Int32) kE2 = (kE2.1 + 1, kE2.2.set kE2.1.toNatClampNeg (1 : Int32)) := by simp [psh, e1, e2, hc233, hc237, hc241, hc251]
            have q1 := c_iadd kE2.1 1
            have q2 := rng32 (kE2.1 + 1)
            simp only [Int32.reduceToInt] at q1
            exact ⟨_, e.symm, ⟨by simp only []; omega, by simp only []; omega, by simp; omega⟩, _, V257, KX2.wr W257 (Or.inr szb), r258⟩
    · -- not no
      have r259 := r232.icT (pc' := 107) d6_78 (feq hc233).2 (by decide) (by decide)
      have e : psh (e2 nd c1 rr mv sq 1) (1 : Int32) kE2 = kE2 := by simp [psh, e1, e2, hc233]
      exact ⟨_, e.symm, ⟨bk2.1, by omega, bk2.2.2⟩, _, VK2, KX2, r259⟩
  obtain ⟨kE4, ek4, bk4, hx4, VK4, KX4, r260⟩ : ∃ z : Int32 × List Int32, z = psh (e2 nd c0 rr mv sq 0) (0 : Int32) kE3 ∧ (0 ≤ z.1.toInt ∧ z.1.toInt ≤ 4 ∧ z.2.length = 4) ∧ ∃ hh, ArI Z hh b164 4 z.2 ∧ Keep h0 hh [] ∧ Rch p l e ({ frames := 0, cells := 1, slots := 4, locals := 0 } : Room) s m #[(.int nd), (.int c0), (.int c1), (.int c2), (.int rr), (.int mv), (.int sq), (.int ns)] below meth c Z (⟨"com/example/hailstream/hailstream/NodeBucketsRemovePinLaw", "expected", "(IIIIIZII)[I"⟩ : MethodName) method_3_code 10 (some (.array .int)) n0 T0 (mkF m 0 #[.val (.int nd), .val (.int c0), .val (.int c1), .val (.int c2), .val (.int rr), .val (.int mv), .val (.int sq), .val (.int ns), .unset, .unset] []) 1 4 hh (mkF m 136 #[.val (.int nd), .val (.int c0), .val (.int c1), .val (.int c2), .val (.int rr), .val (.int mv), .val (.int sq), .val (.int ns), .val (.ref b164), .val (.int z.1)] []) := by
    have r261 := r230.iloadN (pc' := 108) d6_107 rfl rfl
    have r262 := r261.iloadN (pc' := 109) d6_108 rfl rfl
    by_cases hc263 : c0 = nd
    · -- yes
      have r264 := r262.icF (pc' := 112) d6_109 (teq hc263).2 rfl
      have r265 := r264.iload (pc' := 114) d6_112 rfl rfl
      by_cases hc266 : rr = (0 : Int32)
      · -- yes
        have r267 := r265.ifT (pc' := 136) d6_114 (teq hc266).1 (by decide) (by decide)
        have e : psh (e2 nd c0 rr mv sq 0) (0 : Int32) kE3 = kE3 := by simp [psh, e1, e2, hc263, hc266]
        exact ⟨_, e.symm, ⟨bk3.1, by omega, bk3.2.2⟩, _, VK3, KX3, r267⟩
      · -- not no
        have r268 := r265.ifF (pc' := 117) d6_114 (feq hc266).1 rfl
        have r269 := r268.iload (pc' := 119) d6_117 rfl rfl
        by_cases hc270 : mv = (0 : Int32)
        · -- yes
          have r271 := r269.ifT (pc' := 127) d6_119 (teq hc270).1 (by decide) (by decide)
          have r272 := r271.aload (pc' := 129) d6_127 rfl rfl rfl
          have r273 := r272.iload (pc' := 131) d6_129 rfl rfl
          have r274 := r273.iconst (pc' := 132) (0 : Int32) d6_131 rfl rfl
          obtain ⟨h275, W275, V275, r275⟩ := r274.sI (pc' := 133) d6_132 VK3 (nn bk3.1) (by rw [Int32.lt_iff_toInt_lt]; simp only [Int32.reduceToInt]; omega) (by simp only [Int32.toNatClampNeg]; omega) g164 rfl
          have r276 := r275.iinc (pc' := 136) (L' := #[.val (.int nd), .val (.int c0), .val (.int c1), .val (.int c2), .val (.int rr), .val (.int mv), .val (.int sq), .val (.int ns), .val (.ref b164), .val (.int (kE3.1 + (1 : Int32)))]) (1 : Int32) d6_133 rfl rfl rfl rfl rfl
          have e : psh (e2 nd c0 rr mv sq 0) (0 : Int32) kE3 = (kE3.1 + 1, kE3.2.set kE3.1.toNatClampNeg (0 : Int32)) := by simp [psh, e1, e2, hc263, hc266, hc270]
          have q1 := c_iadd kE3.1 1
          have q2 := rng32 (kE3.1 + 1)
          simp only [Int32.reduceToInt] at q1
          exact ⟨_, e.symm, ⟨by simp only []; omega, by simp only []; omega, by simp; omega⟩, _, V275, KX3.wr W275 (Or.inr szb), r276⟩
        · -- not no
          have r277 := r269.ifF (pc' := 122) d6_119 (feq hc270).1 rfl
          have r278 := r277.iload (pc' := 124) d6_122 rfl rfl
          by_cases hc279 : sq = (0 : Int32)
          · -- yes
            have r280 := r278.ifT (pc' := 136) d6_124 (teq hc279).1 (by decide) (by decide)
            have e : psh (e2 nd c0 rr mv sq 0) (0 : Int32) kE3 = kE3 := by simp [psh, e1, e2, hc263, hc266, hc270, hc279]
            exact ⟨_, e.symm, ⟨bk3.1, by omega, bk3.2.2⟩, _, VK3, KX3, r280⟩
          · -- not no
            have r281 := r278.ifF (pc' := 127) d6_124 (feq hc279).1 rfl
            have r282 := r281.aload (pc' := 129) d6_127 rfl rfl rfl
            have r283 := r282.iload (pc' := 131) d6_129 rfl rfl
            have r284 := r283.iconst (pc' := 132) (0 : Int32) d6_131 rfl rfl
            obtain ⟨h285, W285, V285, r285⟩ := r284.sI (pc' := 133) d6_132 VK3 (nn bk3.1) (by rw [Int32.lt_iff_toInt_lt]; simp only [Int32.reduceToInt]; omega) (by simp only [Int32.toNatClampNeg]; omega) g164 rfl
            have r286 := r285.iinc (pc' := 136) (L' := #[.val (.int nd), .val (.int c0), .val (.int c1), .val (.int c2), .val (.int rr), .val (.int mv), .val (.int sq), .val (.int ns), .val (.ref b164), .val (.int (kE3.1 + (1 : Int32)))]) (1 : Int32) d6_133 rfl rfl rfl rfl rfl
            have e : psh (e2 nd c0 rr mv sq 0) (0 : Int32) kE3 = (kE3.1 + 1, kE3.2.set kE3.1.toNatClampNeg (0 : Int32)) := by simp [psh, e1, e2, hc263, hc266, hc270, hc279]
            have q1 := c_iadd kE3.1 1
            have q2 := rng32 (kE3.1 + 1)
            simp only [Int32.reduceToInt] at q1
            exact ⟨_, e.symm, ⟨by simp only []; omega, by simp only []; omega, by simp; omega⟩, _, V285, KX3.wr W285 (Or.inr szb), r286⟩
    · -- not no
      have r287 := r262.icT (pc' := 136) d6_109 (feq hc263).2 (by decide) (by decide)
      have e : psh (e2 nd c0 rr mv sq 0) (0 : Int32) kE3 = kE3 := by simp [psh, e1, e2, hc263]
      exact ⟨_, e.symm, ⟨bk3.1, by omega, bk3.2.2⟩, _, VK3, KX3, r287⟩
  have r288 := r260.aload (pc' := 138) d6_136 rfl rfl rfl
  have eF : expF nd c0 c1 c2 rr mv sq ns = kE4.2 := by unfold expF; rw [← ek0, ← ek1, ← ek2, ← ek3, ← ek4]
  rw [eF]
  exact ⟨_, _, r288.retA d6_138 rfl rfl rfl (by decide) (by decide), ⟨b164, rfl, szb, VK4, KX4⟩⟩
theorem d7_0 : decode method_4_code 0 = .ok (.aload_n 0, 1) := by decide +kernel
theorem d7_1 : decode method_4_code 1 = .ok (.iload_n 1, 1) := by decide +kernel
theorem d7_2 : decode method_4_code 2 = .ok (.invokevirtual 29, 3) := by decide +kernel
theorem pd_1 : parseMethodDescriptor "(I)I" = some ⟨[.int], some .int⟩ := by decide +kernel
theorem d7_5 : decode method_4_code 5 = .ok (.istore_n 3, 1) := by decide +kernel
theorem d7_6 : decode method_4_code 6 = .ok (.iload_n 3, 1) := by decide +kernel
theorem d7_7 : decode method_4_code 7 = .ok (.aload_n 2, 1) := by decide +kernel
theorem d7_8 : decode method_4_code 8 = .ok (.iconst 0, 1) := by decide +kernel
theorem d7_9 : decode method_4_code 9 = .ok (.iaload, 1) := by decide +kernel
theorem d7_10 : decode method_4_code 10 = .ok (.if_icmp .eq 5, 3) := by decide +kernel
theorem d7_15 : decode method_4_code 15 = .ok (.iload_n 3, 1) := by decide +kernel
theorem d7_16 : decode method_4_code 16 = .ok (.ifCond .ge 5, 3) := by decide +kernel
theorem d7_19 : decode method_4_code 19 = .ok (.iconst 1, 1) := by decide +kernel
theorem d7_20 : decode method_4_code 20 = .ok (.ireturn, 1) := by decide +kernel
theorem d7_21 : decode method_4_code 21 = .ok (.aload_n 0, 1) := by decide +kernel
theorem d7_22 : decode method_4_code 22 = .ok (.iload_n 3, 1) := by decide +kernel
theorem d7_23 : decode method_4_code 23 = .ok (.invokevirtual 33, 3) := by decide +kernel
theorem d7_26 : decode method_4_code 26 = .ok (.istore_n 3, 1) := by decide +kernel
theorem d7_27 : decode method_4_code 27 = .ok (.iload_n 3, 1) := by decide +kernel
theorem d7_28 : decode method_4_code 28 = .ok (.aload_n 2, 1) := by decide +kernel
theorem d7_29 : decode method_4_code 29 = .ok (.iconst 1, 1) := by decide +kernel
theorem d7_30 : decode method_4_code 30 = .ok (.iaload, 1) := by decide +kernel
theorem d7_31 : decode method_4_code 31 = .ok (.if_icmp .eq 5, 3) := by decide +kernel
theorem d7_36 : decode method_4_code 36 = .ok (.iload_n 3, 1) := by decide +kernel
theorem d7_37 : decode method_4_code 37 = .ok (.ifCond .ge 5, 3) := by decide +kernel
theorem d7_40 : decode method_4_code 40 = .ok (.iconst 1, 1) := by decide +kernel
theorem d7_41 : decode method_4_code 41 = .ok (.ireturn, 1) := by decide +kernel
theorem d7_42 : decode method_4_code 42 = .ok (.aload_n 0, 1) := by decide +kernel
theorem d7_43 : decode method_4_code 43 = .ok (.iload_n 3, 1) := by decide +kernel
theorem d7_44 : decode method_4_code 44 = .ok (.invokevirtual 33, 3) := by decide +kernel
theorem d7_47 : decode method_4_code 47 = .ok (.istore_n 3, 1) := by decide +kernel
theorem d7_48 : decode method_4_code 48 = .ok (.iload_n 3, 1) := by decide +kernel
theorem d7_49 : decode method_4_code 49 = .ok (.aload_n 2, 1) := by decide +kernel
theorem d7_50 : decode method_4_code 50 = .ok (.iconst 2, 1) := by decide +kernel
theorem d7_51 : decode method_4_code 51 = .ok (.iaload, 1) := by decide +kernel
theorem d7_52 : decode method_4_code 52 = .ok (.if_icmp .eq 5, 3) := by decide +kernel
theorem d7_57 : decode method_4_code 57 = .ok (.iload_n 3, 1) := by decide +kernel
theorem d7_58 : decode method_4_code 58 = .ok (.ifCond .ge 5, 3) := by decide +kernel
theorem d7_61 : decode method_4_code 61 = .ok (.iconst 1, 1) := by decide +kernel
theorem d7_62 : decode method_4_code 62 = .ok (.ireturn, 1) := by decide +kernel
theorem d7_63 : decode method_4_code 63 = .ok (.aload_n 0, 1) := by decide +kernel
theorem d7_64 : decode method_4_code 64 = .ok (.iload_n 3, 1) := by decide +kernel
theorem d7_65 : decode method_4_code 65 = .ok (.invokevirtual 33, 3) := by decide +kernel
theorem d7_68 : decode method_4_code 68 = .ok (.istore_n 3, 1) := by decide +kernel
theorem d7_69 : decode method_4_code 69 = .ok (.iload_n 3, 1) := by decide +kernel
theorem d7_70 : decode method_4_code 70 = .ok (.aload_n 2, 1) := by decide +kernel
theorem d7_71 : decode method_4_code 71 = .ok (.iconst 3, 1) := by decide +kernel
theorem d7_72 : decode method_4_code 72 = .ok (.iaload, 1) := by decide +kernel
theorem d7_73 : decode method_4_code 73 = .ok (.if_icmp .ne 7, 3) := by decide +kernel
theorem d7_76 : decode method_4_code 76 = .ok (.iconst 1, 1) := by decide +kernel
theorem d7_77 : decode method_4_code 77 = .ok (.goto 4, 3) := by decide +kernel
theorem d7_81 : decode method_4_code 81 = .ok (.ireturn, 1) := by decide +kernel
theorem d7_80 : decode method_4_code 80 = .ok (.iconst 0, 1) := by decide +kernel
theorem d7_55 : decode method_4_code 55 = .ok (.iconst 0, 1) := by decide +kernel
theorem d7_56 : decode method_4_code 56 = .ok (.ireturn, 1) := by decide +kernel
theorem d7_34 : decode method_4_code 34 = .ok (.iconst 0, 1) := by decide +kernel
theorem d7_35 : decode method_4_code 35 = .ok (.ireturn, 1) := by decide +kernel
theorem d7_13 : decode method_4_code 13 = .ok (.iconst 0, 1) := by decide +kernel
theorem d7_14 : decode method_4_code 14 = .ok (.ireturn, 1) := by decide +kernel
set_option maxRecDepth 65536 in
set_option maxHeartbeats 40000000 in
theorem c_mt (l : Launch) (Z : State) (a0 : Array Value) (hw : ∀ d ∈ tables_1, d.before a0 Z = true) (a af an ax ap b : Addr) (nd : Int32) (st : St) (E : List Int32) (h0 : Heap) (n0 : Nat) (M : NB Z h0 n0 a af an ax ap st) (wf : WF st) (V : ArI Z h0 b 4 E) (hn : 0 ≤ nd.toInt ∧ nd.toInt < 2) :
    Ctr l Z (⟨"com/example/hailstream/hailstream/NodeBucketsRemovePinLaw", "matches", "(Lcom/example/hailstream/hailstream/NodeBuckets;I[I)Z"⟩ : MethodName) method_4_code 4 (some .boolean) ({ frames := 1, cells := 0, slots := 0, locals := 15 } : Room) #[(.ref a), (.int nd), (.ref b)] h0 n0 (fun v h => v = some (.int (mtF st nd E)) ∧ h0 = h) := by
  refine ent (plainFor_of_name pn_com_example_hailstream_hailstream_NodeBucketsRemovePinLaw) (L0 := #[.val (.ref a), .val (.int nd), .val (.ref b), .unset]) (fun m => by first | (simp [entryFrame, mkF, argsToLocals, Value.category]; done) | rfl) ?_
  intro p e s m below meth c T0 r0
  have i1 : nd.toNatClampNeg < st.1.length := ix hn.2 (by decide) wf.1.1
  have b0 := wf.2.1.get i1
  have r289 := r0.aloadN (pc' := 1) d7_0 rfl rfl rfl
  have r290 := r289.iloadN (pc' := 2) d7_1 rfl rfl
  obtain ⟨v293, h294, hq292, r291⟩ := r290.callV (pc' := 5) (a := a) [(.int nd)] (rest := []) 0 d7_2 (hw _ (List.mem_of_getElem? (i := 40) rfl)) (hw _ (List.mem_of_getElem? (i := 41) rfl)) (r290.nface (hw _ (List.mem_of_getElem? (i := 43) rfl)) rfl) (hw _ (List.mem_of_getElem? (i := 43) rfl)) (hw _ (List.mem_of_getElem? (i := 42) rfl)) (hw _ (List.mem_of_getElem? (i := 2) rfl)) (hw _ (List.mem_of_getElem? (i := 44) rfl)) (by decide) (c_first l Z a0 hw a af an ax ap nd st h0 n0 M hn) M.1 pd_1 rfl rfl rfl (Nat.le_of_ble_eq_true rfl) (by decide) (by decide) (k' := 0) (n' := 0) rfl rfl (by decide) (by decide) rfl
  obtain ⟨rfl, rfl⟩ := hq292
  dsimp only [Option.toList, List.cons_append, List.nil_append] at r291
  have r295 := r291.istoreN (pc' := 6) (L' := #[.val (.ref a), .val (.int nd), .val (.ref b), .val (.int (gI st.1 nd))]) d7_5 rfl rfl
  have r296 := r295.iloadN (pc' := 7) d7_6 rfl rfl
  have r297 := r296.aloadN (pc' := 8) d7_7 rfl rfl rfl
  have r298 := r297.iconst (pc' := 9) (0 : Int32) d7_8 rfl rfl
  have r299 := r298.gI (pc' := 10) d7_9 V (by decide) (by decide) rfl
  by_cases hc300 : (gI st.1 nd) = (gI E 0)
  · -- yes
    have r301 := r299.icT (pc' := 15) d7_10 (teq hc300).1 (by decide) (by decide)
    have r302 := r301.iloadN (pc' := 16) d7_15 rfl rfl
    by_cases hc303 : (gI st.1 nd) < (0 : Int32)
    · -- yes
      have r304 := r302.ifF (pc' := 19) d7_16 (tlt hc303).2.1 rfl
      have r305 := r304.iconst (pc' := 20) (1 : Int32) d7_19 rfl rfl
      have e : mtF st nd E = (1 : Int32) := by unfold mtF; rw [if_pos hc300, if_pos hc303]
      rw [e]
      exact ⟨_, _, r305.retZ d7_20 rfl (t := .boolean) (by simp) (1 : Int32) rfl (by decide) (by decide), rfl, rfl⟩
    · -- not no
      have r306 := r302.ifT (pc' := 21) d7_16 (flt hc303).2.1 (by decide) (by decide)
      have r307 := r306.aloadN (pc' := 22) d7_21 rfl rfl rfl
      have r308 := r307.iloadN (pc' := 23) d7_22 rfl rfl
      have n1 : 0 ≤ (gI st.1 nd).toInt := nn' hc303
      obtain ⟨v311, h312, hq310, r309⟩ := r308.callV (pc' := 26) (a := a) [(.int (gI st.1 nd))] (rest := []) 0 d7_23 (hw _ (List.mem_of_getElem? (i := 45) rfl)) (hw _ (List.mem_of_getElem? (i := 46) rfl)) (r308.nface (hw _ (List.mem_of_getElem? (i := 48) rfl)) rfl) (hw _ (List.mem_of_getElem? (i := 48) rfl)) (hw _ (List.mem_of_getElem? (i := 47) rfl)) (hw _ (List.mem_of_getElem? (i := 2) rfl)) (hw _ (List.mem_of_getElem? (i := 49) rfl)) (by decide) (c_next l Z a0 hw a af an ax ap (gI st.1 nd) st h0 n0 M ⟨n1, b0.2⟩) M.1 pd_1 rfl rfl rfl (Nat.le_of_ble_eq_true rfl) (by decide) (by decide) (k' := 0) (n' := 0) rfl rfl (by decide) (by decide) rfl
      obtain ⟨rfl, rfl⟩ := hq310
      dsimp only [Option.toList, List.cons_append, List.nil_append] at r309
      have b1 := wf.2.2.2.1.get (j := (gI st.1 nd)) (ix b0.2 (by decide) wf.1.2.2.1)
      have r313 := r309.istoreN (pc' := 27) (L' := #[.val (.ref a), .val (.int nd), .val (.ref b), .val (.int (gI st.2.2.1 (gI st.1 nd)))]) d7_26 rfl rfl
      have r314 := r313.iloadN (pc' := 28) d7_27 rfl rfl
      have r315 := r314.aloadN (pc' := 29) d7_28 rfl rfl rfl
      have r316 := r315.iconst (pc' := 30) (1 : Int32) d7_29 rfl rfl
      have r317 := r316.gI (pc' := 31) d7_30 V (by decide) (by decide) rfl
      by_cases hc318 : (gI st.2.2.1 (gI st.1 nd)) = (gI E 1)
      · -- yes
        have r319 := r317.icT (pc' := 36) d7_31 (teq hc318).1 (by decide) (by decide)
        have r320 := r319.iloadN (pc' := 37) d7_36 rfl rfl
        by_cases hc321 : (gI st.2.2.1 (gI st.1 nd)) < (0 : Int32)
        · -- yes
          have r322 := r320.ifF (pc' := 40) d7_37 (tlt hc321).2.1 rfl
          have r323 := r322.iconst (pc' := 41) (1 : Int32) d7_40 rfl rfl
          have e : mtF st nd E = (1 : Int32) := by unfold mtF; rw [if_pos hc300, if_neg hc303, if_pos hc318, if_pos hc321]
          rw [e]
          exact ⟨_, _, r323.retZ d7_41 rfl (t := .boolean) (by simp) (1 : Int32) rfl (by decide) (by decide), rfl, rfl⟩
        · -- not no
          have r324 := r320.ifT (pc' := 42) d7_37 (flt hc321).2.1 (by decide) (by decide)
          have r325 := r324.aloadN (pc' := 43) d7_42 rfl rfl rfl
          have r326 := r325.iloadN (pc' := 44) d7_43 rfl rfl
          have n2 : 0 ≤ (gI st.2.2.1 (gI st.1 nd)).toInt := nn' hc321
          obtain ⟨v329, h330, hq328, r327⟩ := r326.callV (pc' := 47) (a := a) [(.int (gI st.2.2.1 (gI st.1 nd)))] (rest := []) 0 d7_44 (hw _ (List.mem_of_getElem? (i := 45) rfl)) (hw _ (List.mem_of_getElem? (i := 46) rfl)) (r326.nface (hw _ (List.mem_of_getElem? (i := 48) rfl)) rfl) (hw _ (List.mem_of_getElem? (i := 48) rfl)) (hw _ (List.mem_of_getElem? (i := 47) rfl)) (hw _ (List.mem_of_getElem? (i := 2) rfl)) (hw _ (List.mem_of_getElem? (i := 49) rfl)) (by decide) (c_next l Z a0 hw a af an ax ap (gI st.2.2.1 (gI st.1 nd)) st h0 n0 M ⟨n2, b1.2⟩) M.1 pd_1 rfl rfl rfl (Nat.le_of_ble_eq_true rfl) (by decide) (by decide) (k' := 0) (n' := 0) rfl rfl (by decide) (by decide) rfl
          obtain ⟨rfl, rfl⟩ := hq328
          dsimp only [Option.toList, List.cons_append, List.nil_append] at r327
          have b2 := wf.2.2.2.1.get (j := (gI st.2.2.1 (gI st.1 nd))) (ix b1.2 (by decide) wf.1.2.2.1)
          have r331 := r327.istoreN (pc' := 48) (L' := #[.val (.ref a), .val (.int nd), .val (.ref b), .val (.int (gI st.2.2.1 (gI st.2.2.1 (gI st.1 nd))))]) d7_47 rfl rfl
          have r332 := r331.iloadN (pc' := 49) d7_48 rfl rfl
          have r333 := r332.aloadN (pc' := 50) d7_49 rfl rfl rfl
          have r334 := r333.iconst (pc' := 51) (2 : Int32) d7_50 rfl rfl
          have r335 := r334.gI (pc' := 52) d7_51 V (by decide) (by decide) rfl
          by_cases hc336 : (gI st.2.2.1 (gI st.2.2.1 (gI st.1 nd))) = (gI E 2)
          · -- yes
            have r337 := r335.icT (pc' := 57) d7_52 (teq hc336).1 (by decide) (by decide)
            have r338 := r337.iloadN (pc' := 58) d7_57 rfl rfl
            by_cases hc339 : (gI st.2.2.1 (gI st.2.2.1 (gI st.1 nd))) < (0 : Int32)
            · -- yes
              have r340 := r338.ifF (pc' := 61) d7_58 (tlt hc339).2.1 rfl
              have r341 := r340.iconst (pc' := 62) (1 : Int32) d7_61 rfl rfl
              have e : mtF st nd E = (1 : Int32) := by unfold mtF; rw [if_pos hc300, if_neg hc303, if_pos hc318, if_neg hc321, if_pos hc336, if_pos hc339]
              rw [e]
              exact ⟨_, _, r341.retZ d7_62 rfl (t := .boolean) (by simp) (1 : Int32) rfl (by decide) (by decide), rfl, rfl⟩
            · -- not no
              have r342 := r338.ifT (pc' := 63) d7_58 (flt hc339).2.1 (by decide) (by decide)
              have r343 := r342.aloadN (pc' := 64) d7_63 rfl rfl rfl
              have r344 := r343.iloadN (pc' := 65) d7_64 rfl rfl
              have n3 : 0 ≤ (gI st.2.2.1 (gI st.2.2.1 (gI st.1 nd))).toInt := nn' hc339
              obtain ⟨v347, h348, hq346, r345⟩ := r344.callV (pc' := 68) (a := a) [(.int (gI st.2.2.1 (gI st.2.2.1 (gI st.1 nd))))] (rest := []) 0 d7_65 (hw _ (List.mem_of_getElem? (i := 45) rfl)) (hw _ (List.mem_of_getElem? (i := 46) rfl)) (r344.nface (hw _ (List.mem_of_getElem? (i := 48) rfl)) rfl) (hw _ (List.mem_of_getElem? (i := 48) rfl)) (hw _ (List.mem_of_getElem? (i := 47) rfl)) (hw _ (List.mem_of_getElem? (i := 2) rfl)) (hw _ (List.mem_of_getElem? (i := 49) rfl)) (by decide) (c_next l Z a0 hw a af an ax ap (gI st.2.2.1 (gI st.2.2.1 (gI st.1 nd))) st h0 n0 M ⟨n3, b2.2⟩) M.1 pd_1 rfl rfl rfl (Nat.le_of_ble_eq_true rfl) (by decide) (by decide) (k' := 0) (n' := 0) rfl rfl (by decide) (by decide) rfl
              obtain ⟨rfl, rfl⟩ := hq346
              dsimp only [Option.toList, List.cons_append, List.nil_append] at r345
              have b3 := wf.2.2.2.1.get (j := (gI st.2.2.1 (gI st.2.2.1 (gI st.1 nd)))) (ix b2.2 (by decide) wf.1.2.2.1)
              have r349 := r345.istoreN (pc' := 69) (L' := #[.val (.ref a), .val (.int nd), .val (.ref b), .val (.int (gI st.2.2.1 (gI st.2.2.1 (gI st.2.2.1 (gI st.1 nd)))))]) d7_68 rfl rfl
              have r350 := r349.iloadN (pc' := 70) d7_69 rfl rfl
              have r351 := r350.aloadN (pc' := 71) d7_70 rfl rfl rfl
              have r352 := r351.iconst (pc' := 72) (3 : Int32) d7_71 rfl rfl
              have r353 := r352.gI (pc' := 73) d7_72 V (by decide) (by decide) rfl
              by_cases hc354 : (gI st.2.2.1 (gI st.2.2.1 (gI st.2.2.1 (gI st.1 nd)))) = (gI E 3)
              · -- yes
                have r355 := r353.icF (pc' := 76) d7_73 (teq hc354).2 rfl
                have r356 := r355.iconst (pc' := 77) (1 : Int32) d7_76 rfl rfl
                have r357 := r356.goto (pc' := 81) d7_77 (by decide) (by decide)
                have e : mtF st nd E = (1 : Int32) := by unfold mtF; rw [if_pos hc300, if_neg hc303, if_pos hc318, if_neg hc321, if_pos hc336, if_neg hc339, if_pos hc354]
                rw [e]
                exact ⟨_, _, r357.retZ d7_81 rfl (t := .boolean) (by simp) (1 : Int32) rfl (by decide) (by decide), rfl, rfl⟩
              · -- not no
                have r358 := r353.icT (pc' := 80) d7_73 (feq hc354).2 (by decide) (by decide)
                have r359 := r358.iconst (pc' := 81) (0 : Int32) d7_80 rfl rfl
                have e : mtF st nd E = (0 : Int32) := by unfold mtF; rw [if_pos hc300, if_neg hc303, if_pos hc318, if_neg hc321, if_pos hc336, if_neg hc339, if_neg hc354]
                rw [e]
                exact ⟨_, _, r359.retZ d7_81 rfl (t := .boolean) (by simp) (0 : Int32) rfl (by decide) (by decide), rfl, rfl⟩
          · -- not no
            have r360 := r335.icF (pc' := 55) d7_52 (feq hc336).1 rfl
            have r361 := r360.iconst (pc' := 56) (0 : Int32) d7_55 rfl rfl
            have e : mtF st nd E = (0 : Int32) := by unfold mtF; rw [if_pos hc300, if_neg hc303, if_pos hc318, if_neg hc321, if_neg hc336]
            rw [e]
            exact ⟨_, _, r361.retZ d7_56 rfl (t := .boolean) (by simp) (0 : Int32) rfl (by decide) (by decide), rfl, rfl⟩
      · -- not no
        have r362 := r317.icF (pc' := 34) d7_31 (feq hc318).1 rfl
        have r363 := r362.iconst (pc' := 35) (0 : Int32) d7_34 rfl rfl
        have e : mtF st nd E = (0 : Int32) := by unfold mtF; rw [if_pos hc300, if_neg hc303, if_neg hc318]
        rw [e]
        exact ⟨_, _, r363.retZ d7_35 rfl (t := .boolean) (by simp) (0 : Int32) rfl (by decide) (by decide), rfl, rfl⟩
  · -- not no
    have r364 := r299.icF (pc' := 13) d7_10 (feq hc300).1 rfl
    have r365 := r364.iconst (pc' := 14) (0 : Int32) d7_13 rfl rfl
    have e : mtF st nd E = (0 : Int32) := by unfold mtF; rw [if_neg hc300]
    rw [e]
    exact ⟨_, _, r365.retZ d7_14 rfl (t := .boolean) (by simp) (0 : Int32) rfl (by decide) (by decide), rfl, rfl⟩
theorem and3 (x : Int32) : 0 ≤ (x &&& (3 : Int32)).toInt ∧ (x &&& (3 : Int32)).toInt < 4 := by
  have h := c_and x 3 (by decide)
  simp only [Int32.reduceToInt] at h
  omega
theorem and1 (x : Int32) : 0 ≤ (x &&& (1 : Int32)).toInt ∧ (x &&& (1 : Int32)).toInt < 2 := by
  have h := c_and x 1 (by decide)
  simp only [Int32.reduceToInt] at h
  omega
theorem rem3 (x : Int32) (h : 0 ≤ x.toInt) : 0 ≤ (x % (3 : Int32)).toInt ∧ (x % (3 : Int32)).toInt < 3 := by
  have q := (c_irem x 3 3 (by decide)).1 h
  omega
theorem pd_3 : parseMethodDescriptor "(II)V" = some ⟨[.int, .int], none⟩ := by decide +kernel
theorem pd_5 : parseMethodDescriptor "(IIIIIZII)[I" = some ⟨[.int, .int, .int, .int, .int, .boolean, .int, .int], some (.array .int)⟩ := by decide +kernel
theorem pd_6 : parseMethodDescriptor "(Lcom/example/hailstream/hailstream/NodeBuckets;I[I)Z" = some ⟨[(.object "com/example/hailstream/hailstream/NodeBuckets"), .int, (.array .int)], some .boolean⟩ := by decide +kernel
set_option maxRecDepth 65536 in
set_option maxHeartbeats 40000000 in
theorem law (l : Launch) (Z : State) (a0 : Array Value) (hw : ∀ d ∈ tables_1, d.before a0 Z = true) (x0 x1 : Int32) (h0 : Heap) (n0 : Nat) (Z0 : n0 ≤ h0.size) :
    Ctr l Z x code maxLocals ret room_1 #[(.int x0), (.int x1)] h0 n0 (fun v h => v = some (.int 1)) := by
  refine ent (plainFor_of_name pn_com_example_hailstream_hailstream_NodeBucketsRemovePinLaw) (L0 := #[.val (.int x0), .val (.int x1), .unset, .unset, .unset, .unset, .unset, .unset, .unset, .unset, .unset, .unset]) (fun m => by first | (simp [entryFrame, mkF, argsToLocals, Value.category, maxLocals]; done) | rfl) ?_
  intro p e s m below meth c T0 r0
  have r366 := r0.iloadN (pc' := 1) at_0 rfl rfl
  have r367 := r366.iconst (pc' := 2) (3 : Int32) at_1 rfl rfl
  have r368 := r367.iand (pc' := 3) at_2 rfl rfl
  have r369 := r368.istoreN (pc' := 4) (L' := #[.val (.int x0), .val (.int x1), .val (.int (x0 &&& (3 : Int32))), .unset, .unset, .unset, .unset, .unset, .unset, .unset, .unset, .unset]) at_3 rfl rfl
  obtain ⟨c0, e_c0⟩ : ∃ z, z = (x0 &&& (3 : Int32)) := ⟨_, rfl⟩
  have h_c0 := and3 x0
  rw [← e_c0] at h_c0 r369
  have r370 := r369.iloadN (pc' := 5) at_4 rfl rfl
  have r371 := r370.iconst (pc' := 6) (2 : Int32) at_5 rfl rfl
  have r372 := r371.ishr (pc' := 7) at_6 rfl rfl
  have r373 := r372.iconst (pc' := 8) (3 : Int32) at_7 rfl rfl
  have r374 := r373.iand (pc' := 9) at_8 rfl rfl
  have r375 := r374.istoreN (pc' := 10) (L' := #[.val (.int x0), .val (.int x1), .val (.int c0), .val (.int ((x0 >>> ((2 : Int32) &&& 31)) &&& (3 : Int32))), .unset, .unset, .unset, .unset, .unset, .unset, .unset, .unset]) at_9 rfl rfl
  obtain ⟨c1, e_c1⟩ : ∃ z, z = ((x0 >>> ((2 : Int32) &&& 31)) &&& (3 : Int32)) := ⟨_, rfl⟩
  have h_c1 := and3 (x0 >>> ((2 : Int32) &&& 31))
  rw [← e_c1] at h_c1 r375
  have r376 := r375.iloadN (pc' := 11) at_10 rfl rfl
  have r377 := r376.iconst (pc' := 12) (4 : Int32) at_11 rfl rfl
  have r378 := r377.ishr (pc' := 13) at_12 rfl rfl
  have r379 := r378.iconst (pc' := 14) (3 : Int32) at_13 rfl rfl
  have r380 := r379.iand (pc' := 15) at_14 rfl rfl
  have r381 := r380.istore (pc' := 17) (L' := #[.val (.int x0), .val (.int x1), .val (.int c0), .val (.int c1), .val (.int ((x0 >>> ((4 : Int32) &&& 31)) &&& (3 : Int32))), .unset, .unset, .unset, .unset, .unset, .unset, .unset]) at_15 rfl rfl
  obtain ⟨c2, e_c2⟩ : ∃ z, z = ((x0 >>> ((4 : Int32) &&& 31)) &&& (3 : Int32)) := ⟨_, rfl⟩
  have h_c2 := and3 (x0 >>> ((4 : Int32) &&& 31))
  rw [← e_c2] at h_c2 r381
  have r382 := r381.iloadN (pc' := 18) at_17 rfl rfl
  have r383 := r382.iconst (pc' := 19) (3 : Int32) at_18 rfl rfl
  have r384 := r383.iand (pc' := 20) at_19 rfl rfl
  have r385 := r384.iconst (pc' := 21) (3 : Int32) at_20 rfl rfl
  have r386 := r385.irem (pc' := 22) at_21 (by decide) rfl rfl
  have r387 := r386.istore (pc' := 24) (L' := #[.val (.int x0), .val (.int x1), .val (.int c0), .val (.int c1), .val (.int c2), .val (.int ((x1 &&& (3 : Int32)) % (3 : Int32))), .unset, .unset, .unset, .unset, .unset, .unset]) at_22 rfl rfl
  obtain ⟨rr, e_rr⟩ : ∃ z, z = ((x1 &&& (3 : Int32)) % (3 : Int32)) := ⟨_, rfl⟩
  have h_rr := rem3 _ (and3 x1).1
  rw [← e_rr] at h_rr r387
  have r388 := r387.iloadN (pc' := 25) at_24 rfl rfl
  have r389 := r388.iconst (pc' := 26) (2 : Int32) at_25 rfl rfl
  have r390 := r389.ishr (pc' := 27) at_26 rfl rfl
  have r391 := r390.iconst (pc' := 28) (1 : Int32) at_27 rfl rfl
  have r392 := r391.iand (pc' := 29) at_28 rfl rfl
  obtain ⟨mv, h_mv, r393⟩ : ∃ mv : Int32, (0 ≤ mv.toInt ∧ mv.toInt < 2) ∧ Rch p l e room_1 s m #[(.int x0), (.int x1)] below meth c Z x code maxLocals ret n0 T0 (mkF m 0 #[.val (.int x0), .val (.int x1), .unset, .unset, .unset, .unset, .unset, .unset, .unset, .unset, .unset, .unset] []) 0 0 h0 (mkF m 37 #[.val (.int x0), .val (.int x1), .val (.int c0), .val (.int c1), .val (.int c2), .val (.int rr), .unset, .unset, .unset, .unset, .unset, .unset] [(.int mv)]) := by
    by_cases hc394 : ((x1 >>> ((2 : Int32) &&& 31)) &&& (1 : Int32)) = (0 : Int32)
    · -- yes
      have r395 := r392.ifT (pc' := 36) at_29 (teq hc394).1 (by decide) (by decide)
      have r396 := r395.iconst (pc' := 37) (0 : Int32) at_36 rfl rfl
      exact ⟨_, by decide, r396⟩
    · -- not no
      have r397 := r392.ifF (pc' := 32) at_29 (feq hc394).1 rfl
      have r398 := r397.iconst (pc' := 33) (1 : Int32) at_32 rfl rfl
      have r399 := r398.goto (pc' := 37) at_33 (by decide) (by decide)
      exact ⟨_, by decide, r399⟩
  have r400 := r393.istore (pc' := 39) (L' := #[.val (.int x0), .val (.int x1), .val (.int c0), .val (.int c1), .val (.int c2), .val (.int rr), .val (.int mv), .unset, .unset, .unset, .unset, .unset]) at_37 rfl rfl
  have r401 := r400.iloadN (pc' := 40) at_39 rfl rfl
  have r402 := r401.iconst (pc' := 41) (3 : Int32) at_40 rfl rfl
  have r403 := r402.ishr (pc' := 42) at_41 rfl rfl
  have r404 := r403.iconst (pc' := 43) (1 : Int32) at_42 rfl rfl
  have r405 := r404.iand (pc' := 44) at_43 rfl rfl
  have r406 := r405.istore (pc' := 46) (L' := #[.val (.int x0), .val (.int x1), .val (.int c0), .val (.int c1), .val (.int c2), .val (.int rr), .val (.int mv), .val (.int ((x1 >>> ((3 : Int32) &&& 31)) &&& (1 : Int32))), .unset, .unset, .unset, .unset]) at_44 rfl rfl
  obtain ⟨ns, e_ns⟩ : ∃ z, z = ((x1 >>> ((3 : Int32) &&& 31)) &&& (1 : Int32)) := ⟨_, rfl⟩
  have h_ns := and1 (x1 >>> ((3 : Int32) &&& 31))
  rw [← e_ns] at h_ns r406
  have r407 := r406.iload (pc' := 48) at_46 rfl rfl
  have r408 := r407.iconst (pc' := 49) (1 : Int32) at_48 rfl rfl
  have r409 := r408.iadd (pc' := 50) at_49 rfl rfl
  have r410 := r409.iconst (pc' := 51) (3 : Int32) at_50 rfl rfl
  have r411 := r410.irem (pc' := 52) at_51 (by decide) rfl rfl
  have r412 := r411.istore (pc' := 54) (L' := #[.val (.int x0), .val (.int x1), .val (.int c0), .val (.int c1), .val (.int c2), .val (.int rr), .val (.int mv), .val (.int ns), .val (.int ((rr + (1 : Int32)) % (3 : Int32))), .unset, .unset, .unset]) at_52 rfl rfl
  have h_s : 0 ≤ ((rr + (1 : Int32)) % (3 : Int32)).toInt ∧ ((rr + (1 : Int32)) % (3 : Int32)).toInt < 3 := rem3 _ (by have q1 := c_iadd rr 1; have q2 := rng32 (rr + 1); simp only [Int32.reduceToInt] at q1; omega)
  obtain ⟨h413, a, ha, E413, EX, D413, r413⟩ := r412.newO (pc' := 57) at_54 (hw _ (List.mem_of_getElem? (i := 0) rfl)) (hw _ (List.mem_of_getElem? (i := 1) rfl)) (hw _ (List.mem_of_getElem? (i := 2) rfl)) (k' := 1) (n' := 4) rfl rfl (by decide) (by decide) rfl
  have ga : n0 ≤ a := ha ▸ Z0
  have zp413 : n0 ≤ h413.size := Nat.le_trans Z0 E413.1
  have r414 := r413.dup (pc' := 58) at_57 rfl rfl
  have r415 := r414.iconst (pc' := 59) (3 : Int32) at_58 rfl rfl
  have r416 := r415.iconst (pc' := 60) (2 : Int32) at_59 rfl rfl
  obtain ⟨v419, h420, hq418, r417⟩ := r416.callC (pc' := 63) (a := a) [(.int (3 : Int32)), (.int (2 : Int32))] (rest := [(.ref a)]) 1 at_60 rfl (hw _ (List.mem_of_getElem? (i := 3) rfl)) (hw _ (List.mem_of_getElem? (i := 4) rfl)) (hw _ (List.mem_of_getElem? (i := 2) rfl)) (hw _ (List.mem_of_getElem? (i := 5) rfl)) (by decide) (c_new l Z a0 hw a h413 n0 zp413 EX (D413 (Or.inr (hw _ (List.mem_of_getElem? (i := 11) rfl))) (ty := .array .int) (by decide)) (D413 (Or.inr (hw _ (List.mem_of_getElem? (i := 13) rfl))) (ty := .array .int) (by decide)) (D413 (Or.inr (hw _ (List.mem_of_getElem? (i := 15) rfl))) (ty := .array .int) (by decide)) (D413 (Or.inr (hw _ (List.mem_of_getElem? (i := 17) rfl))) (ty := .array .int) (by decide)) ga) pd_3 rfl rfl rfl (Nat.le_of_ble_eq_true rfl) (by decide) (by decide) (k' := 5) (n' := 15) rfl rfl (by decide) (by decide) rfl
  obtain ⟨rfl, af, an, ax, ap, M0, KC⟩ := hq418
  dsimp only [Option.toList, List.cons_append, List.nil_append] at r417
  have zpc : n0 ≤ h420.size := Nat.le_trans zp413 KC.1
  have wf0 : WF ([-1, -1], [-1, -1, -1], [0, 0, 0], [0, 0, 0]) := by refine ⟨⟨rfl, rfl, rfl, rfl⟩, ?_, ?_, ?_, ?_⟩ <;> (intro y hy; simp at hy; subst hy; decide)
  obtain ⟨s0, es0⟩ : ∃ s0 : St, s0 = ([-1, -1], [-1, -1, -1], [0, 0, 0], [0, 0, 0]) := ⟨_, rfl⟩
  rw [← es0] at M0 wf0
  have r421 := r417.astore (pc' := 65) (L' := #[.val (.int x0), .val (.int x1), .val (.int c0), .val (.int c1), .val (.int c2), .val (.int rr), .val (.int mv), .val (.int ns), .val (.int ((rr + (1 : Int32)) % (3 : Int32))), .val (.ref a), .unset, .unset]) at_63 rfl rfl rfl
  have r422 := r421.iloadN (pc' := 66) at_65 rfl rfl
  have r423 := r422.iconst (pc' := 67) (2 : Int32) at_66 rfl rfl
  obtain ⟨hh1, M1, zs1, r424⟩ : ∃ hh, NB Z hh n0 a af an ax ap (if c0 < 2 then fileF s0 0 c0 else s0) ∧ n0 ≤ hh.size ∧ Rch p l e room_1 s m #[(.int x0), (.int x1)] below meth c Z x code maxLocals ret n0 T0 (mkF m 0 #[.val (.int x0), .val (.int x1), .unset, .unset, .unset, .unset, .unset, .unset, .unset, .unset, .unset, .unset] []) 5 15 hh (mkF m 77 #[.val (.int x0), .val (.int x1), .val (.int c0), .val (.int c1), .val (.int c2), .val (.int rr), .val (.int mv), .val (.int ns), .val (.int ((rr + (1 : Int32)) % (3 : Int32))), .val (.ref a), .unset, .unset] []) := by
    by_cases hc425 : c0 < (2 : Int32)
    · -- yes
      have r426 := r423.icF (pc' := 70) at_67 (tlt hc425).2.1 rfl
      have r427 := r426.aload (pc' := 72) at_70 rfl rfl rfl
      have r428 := r427.iconst (pc' := 73) (0 : Int32) at_72 rfl rfl
      have r429 := r428.iloadN (pc' := 74) at_73 rfl rfl
      have hb : 0 ≤ c0.toInt ∧ c0.toInt < 2 := ⟨h_c0.1, by have := Int32.lt_iff_toInt_lt.mp hc425; exact this⟩
      obtain ⟨v432, h433, hq431, r430⟩ := r429.callV (pc' := 77) (a := a) [(.int (0 : Int32)), (.int c0)] (rest := []) 0 at_74 (hw _ (List.mem_of_getElem? (i := 22) rfl)) (hw _ (List.mem_of_getElem? (i := 23) rfl)) (r429.nface (hw _ (List.mem_of_getElem? (i := 25) rfl)) rfl) (hw _ (List.mem_of_getElem? (i := 25) rfl)) (hw _ (List.mem_of_getElem? (i := 24) rfl)) (hw _ (List.mem_of_getElem? (i := 2) rfl)) (hw _ (List.mem_of_getElem? (i := 26) rfl)) (by decide) (c_file l Z a0 hw a af an ax ap (0 : Int32) c0 s0 h420 n0 M0 wf0 (by decide) hb) M0.1 pd_3 rfl rfl rfl (Nat.le_of_ble_eq_true rfl) (by decide) (by decide) (k' := 5) (n' := 15) rfl rfl (by decide) (by decide) rfl
      obtain ⟨rfl, MM, KK⟩ := hq431
      dsimp only [Option.toList, List.cons_append, List.nil_append] at r430
      rw [if_pos hc425]
      exact ⟨_, MM, Nat.le_trans zpc KK.1, r430⟩
    · -- not no
      have r434 := r423.icT (pc' := 77) at_67 (flt hc425).2.1 (by decide) (by decide)
      rw [if_neg hc425]
      exact ⟨_, M0, zpc, r434⟩
  have wf1 : WF (if c0 < 2 then fileF s0 0 c0 else s0) := by
    by_cases hq : c0 < 2
    · rw [if_pos hq]; exact wf0.file (by decide) ⟨h_c0.1, by have := Int32.lt_iff_toInt_lt.mp hq; exact this⟩
    · rw [if_neg hq]; exact wf0
  obtain ⟨s1, es1⟩ : ∃ z : St, z = (if c0 < 2 then fileF s0 0 c0 else s0) := ⟨_, rfl⟩
  rw [← es1] at M1 wf1
  have r435 := r424.iloadN (pc' := 78) at_77 rfl rfl
  have r436 := r435.iconst (pc' := 79) (2 : Int32) at_78 rfl rfl
  obtain ⟨hh2, M2, zs2, r437⟩ : ∃ hh, NB Z hh n0 a af an ax ap (if c1 < 2 then fileF s1 1 c1 else s1) ∧ n0 ≤ hh.size ∧ Rch p l e room_1 s m #[(.int x0), (.int x1)] below meth c Z x code maxLocals ret n0 T0 (mkF m 0 #[.val (.int x0), .val (.int x1), .unset, .unset, .unset, .unset, .unset, .unset, .unset, .unset, .unset, .unset] []) 5 15 hh (mkF m 89 #[.val (.int x0), .val (.int x1), .val (.int c0), .val (.int c1), .val (.int c2), .val (.int rr), .val (.int mv), .val (.int ns), .val (.int ((rr + (1 : Int32)) % (3 : Int32))), .val (.ref a), .unset, .unset] []) := by
    by_cases hc438 : c1 < (2 : Int32)
    · -- yes
      have r439 := r436.icF (pc' := 82) at_79 (tlt hc438).2.1 rfl
      have r440 := r439.aload (pc' := 84) at_82 rfl rfl rfl
      have r441 := r440.iconst (pc' := 85) (1 : Int32) at_84 rfl rfl
      have r442 := r441.iloadN (pc' := 86) at_85 rfl rfl
      have hb : 0 ≤ c1.toInt ∧ c1.toInt < 2 := ⟨h_c1.1, by have := Int32.lt_iff_toInt_lt.mp hc438; exact this⟩
      obtain ⟨v445, h446, hq444, r443⟩ := r442.callV (pc' := 89) (a := a) [(.int (1 : Int32)), (.int c1)] (rest := []) 0 at_86 (hw _ (List.mem_of_getElem? (i := 22) rfl)) (hw _ (List.mem_of_getElem? (i := 23) rfl)) (r442.nface (hw _ (List.mem_of_getElem? (i := 25) rfl)) rfl) (hw _ (List.mem_of_getElem? (i := 25) rfl)) (hw _ (List.mem_of_getElem? (i := 24) rfl)) (hw _ (List.mem_of_getElem? (i := 2) rfl)) (hw _ (List.mem_of_getElem? (i := 26) rfl)) (by decide) (c_file l Z a0 hw a af an ax ap (1 : Int32) c1 s1 hh1 n0 M1 wf1 (by decide) hb) M1.1 pd_3 rfl rfl rfl (Nat.le_of_ble_eq_true rfl) (by decide) (by decide) (k' := 5) (n' := 15) rfl rfl (by decide) (by decide) rfl
      obtain ⟨rfl, MM, KK⟩ := hq444
      dsimp only [Option.toList, List.cons_append, List.nil_append] at r443
      rw [if_pos hc438]
      exact ⟨_, MM, Nat.le_trans zs1 KK.1, r443⟩
    · -- not no
      have r447 := r436.icT (pc' := 89) at_79 (flt hc438).2.1 (by decide) (by decide)
      rw [if_neg hc438]
      exact ⟨_, M1, zs1, r447⟩
  have wf2 : WF (if c1 < 2 then fileF s1 1 c1 else s1) := by
    by_cases hq : c1 < 2
    · rw [if_pos hq]; exact wf1.file (by decide) ⟨h_c1.1, by have := Int32.lt_iff_toInt_lt.mp hq; exact this⟩
    · rw [if_neg hq]; exact wf1
  obtain ⟨s2, es2⟩ : ∃ z : St, z = (if c1 < 2 then fileF s1 1 c1 else s1) := ⟨_, rfl⟩
  rw [← es2] at M2 wf2
  have r448 := r437.iload (pc' := 91) at_89 rfl rfl
  have r449 := r448.iconst (pc' := 92) (2 : Int32) at_91 rfl rfl
  obtain ⟨hh3, M3, zs3, r450⟩ : ∃ hh, NB Z hh n0 a af an ax ap (if c2 < 2 then fileF s2 2 c2 else s2) ∧ n0 ≤ hh.size ∧ Rch p l e room_1 s m #[(.int x0), (.int x1)] below meth c Z x code maxLocals ret n0 T0 (mkF m 0 #[.val (.int x0), .val (.int x1), .unset, .unset, .unset, .unset, .unset, .unset, .unset, .unset, .unset, .unset] []) 5 15 hh (mkF m 103 #[.val (.int x0), .val (.int x1), .val (.int c0), .val (.int c1), .val (.int c2), .val (.int rr), .val (.int mv), .val (.int ns), .val (.int ((rr + (1 : Int32)) % (3 : Int32))), .val (.ref a), .unset, .unset] []) := by
    by_cases hc451 : c2 < (2 : Int32)
    · -- yes
      have r452 := r449.icF (pc' := 95) at_92 (tlt hc451).2.1 rfl
      have r453 := r452.aload (pc' := 97) at_95 rfl rfl rfl
      have r454 := r453.iconst (pc' := 98) (2 : Int32) at_97 rfl rfl
      have r455 := r454.iload (pc' := 100) at_98 rfl rfl
      have hb : 0 ≤ c2.toInt ∧ c2.toInt < 2 := ⟨h_c2.1, by have := Int32.lt_iff_toInt_lt.mp hc451; exact this⟩
      obtain ⟨v458, h459, hq457, r456⟩ := r455.callV (pc' := 103) (a := a) [(.int (2 : Int32)), (.int c2)] (rest := []) 0 at_100 (hw _ (List.mem_of_getElem? (i := 22) rfl)) (hw _ (List.mem_of_getElem? (i := 23) rfl)) (r455.nface (hw _ (List.mem_of_getElem? (i := 25) rfl)) rfl) (hw _ (List.mem_of_getElem? (i := 25) rfl)) (hw _ (List.mem_of_getElem? (i := 24) rfl)) (hw _ (List.mem_of_getElem? (i := 2) rfl)) (hw _ (List.mem_of_getElem? (i := 26) rfl)) (by decide) (c_file l Z a0 hw a af an ax ap (2 : Int32) c2 s2 hh2 n0 M2 wf2 (by decide) hb) M2.1 pd_3 rfl rfl rfl (Nat.le_of_ble_eq_true rfl) (by decide) (by decide) (k' := 5) (n' := 15) rfl rfl (by decide) (by decide) rfl
      obtain ⟨rfl, MM, KK⟩ := hq457
      dsimp only [Option.toList, List.cons_append, List.nil_append] at r456
      rw [if_pos hc451]
      exact ⟨_, MM, Nat.le_trans zs2 KK.1, r456⟩
    · -- not no
      have r460 := r449.icT (pc' := 103) at_92 (flt hc451).2.1 (by decide) (by decide)
      rw [if_neg hc451]
      exact ⟨_, M2, zs2, r460⟩
  have wf3 : WF (if c2 < 2 then fileF s2 2 c2 else s2) := by
    by_cases hq : c2 < 2
    · rw [if_pos hq]; exact wf2.file (by decide) ⟨h_c2.1, by have := Int32.lt_iff_toInt_lt.mp hq; exact this⟩
    · rw [if_neg hq]; exact wf2
  obtain ⟨s3, es3⟩ : ∃ z : St, z = (if c2 < 2 then fileF s2 2 c2 else s2) := ⟨_, rfl⟩
  rw [← es3] at M3 wf3
  have r461 := r450.aload (pc' := 105) at_103 rfl rfl rfl
  have r462 := r461.iload (pc' := 107) at_105 rfl rfl
  obtain ⟨v465, h466, hq464, r463⟩ := r462.callV (pc' := 110) (a := a) [(.int rr)] (rest := []) 0 at_107 (hw _ (List.mem_of_getElem? (i := 32) rfl)) (hw _ (List.mem_of_getElem? (i := 28) rfl)) (r462.nface (hw _ (List.mem_of_getElem? (i := 30) rfl)) rfl) (hw _ (List.mem_of_getElem? (i := 30) rfl)) (hw _ (List.mem_of_getElem? (i := 29) rfl)) (hw _ (List.mem_of_getElem? (i := 2) rfl)) (hw _ (List.mem_of_getElem? (i := 31) rfl)) (by decide) (c_rm l Z a0 hw a af an ax ap rr s3 hh3 n0 M3 wf3 h_rr) M3.1 pd_2 rfl rfl rfl (Nat.le_of_ble_eq_true rfl) (by decide) (by decide) (k' := 5) (n' := 15) rfl rfl (by decide) (by decide) rfl
  obtain ⟨rfl, M4, K4⟩ := hq464
  dsimp only [Option.toList, List.cons_append, List.nil_append] at r463
  have zs4 : n0 ≤ h466.size := Nat.le_trans zs3 K4.1
  have wf4 := wf3.rm (m := rr) h_rr
  have r467 := r463.iload (pc' := 112) at_110 rfl rfl
  obtain ⟨hh5, M5, zs5, r468⟩ : ∃ hh, NB Z hh n0 a af an ax ap (if mv = 0 then rmF s3 rr else rmF (fileF (rmF s3 rr) ((rr + (1 : Int32)) % (3 : Int32)) ns) rr) ∧ n0 ≤ hh.size ∧ Rch p l e room_1 s m #[(.int x0), (.int x1)] below meth c Z x code maxLocals ret n0 T0 (mkF m 0 #[.val (.int x0), .val (.int x1), .unset, .unset, .unset, .unset, .unset, .unset, .unset, .unset, .unset, .unset] []) 5 15 hh (mkF m 131 #[.val (.int x0), .val (.int x1), .val (.int c0), .val (.int c1), .val (.int c2), .val (.int rr), .val (.int mv), .val (.int ns), .val (.int ((rr + (1 : Int32)) % (3 : Int32))), .val (.ref a), .unset, .unset] []) := by
    by_cases hc469 : mv = (0 : Int32)
    · -- yes
      have r470 := r467.ifT (pc' := 131) at_112 (teq hc469).1 (by decide) (by decide)
      rw [if_pos hc469]
      exact ⟨_, M4, zs4, r470⟩
    · -- not no
      have r471 := r467.ifF (pc' := 115) at_112 (feq hc469).1 rfl
      have r472 := r471.aload (pc' := 117) at_115 rfl rfl rfl
      have r473 := r472.iload (pc' := 119) at_117 rfl rfl
      have r474 := r473.iload (pc' := 121) at_119 rfl rfl
      obtain ⟨v477, h478, hq476, r475⟩ := r474.callV (pc' := 124) (a := a) [(.int ((rr + (1 : Int32)) % (3 : Int32))), (.int ns)] (rest := []) 0 at_121 (hw _ (List.mem_of_getElem? (i := 22) rfl)) (hw _ (List.mem_of_getElem? (i := 23) rfl)) (r474.nface (hw _ (List.mem_of_getElem? (i := 25) rfl)) rfl) (hw _ (List.mem_of_getElem? (i := 25) rfl)) (hw _ (List.mem_of_getElem? (i := 24) rfl)) (hw _ (List.mem_of_getElem? (i := 2) rfl)) (hw _ (List.mem_of_getElem? (i := 26) rfl)) (by decide) (c_file l Z a0 hw a af an ax ap ((rr + (1 : Int32)) % (3 : Int32)) ns (rmF s3 rr) h466 n0 M4 wf4 h_s h_ns) M4.1 pd_3 rfl rfl rfl (Nat.le_of_ble_eq_true rfl) (by decide) (by decide) (k' := 5) (n' := 15) rfl rfl (by decide) (by decide) rfl
      obtain ⟨rfl, MM, KK⟩ := hq476
      dsimp only [Option.toList, List.cons_append, List.nil_append] at r475
      have r479 := r475.aload (pc' := 126) at_124 rfl rfl rfl
      have r480 := r479.iload (pc' := 128) at_126 rfl rfl
      obtain ⟨v483, h484, hq482, r481⟩ := r480.callV (pc' := 131) (a := a) [(.int rr)] (rest := []) 0 at_128 (hw _ (List.mem_of_getElem? (i := 32) rfl)) (hw _ (List.mem_of_getElem? (i := 28) rfl)) (r480.nface (hw _ (List.mem_of_getElem? (i := 30) rfl)) rfl) (hw _ (List.mem_of_getElem? (i := 30) rfl)) (hw _ (List.mem_of_getElem? (i := 29) rfl)) (hw _ (List.mem_of_getElem? (i := 2) rfl)) (hw _ (List.mem_of_getElem? (i := 31) rfl)) (by decide) (c_rm l Z a0 hw a af an ax ap rr (fileF (rmF s3 rr) ((rr + (1 : Int32)) % (3 : Int32)) ns) h478 n0 MM (wf4.file h_s h_ns) h_rr) MM.1 pd_2 rfl rfl rfl (Nat.le_of_ble_eq_true rfl) (by decide) (by decide) (k' := 5) (n' := 15) rfl rfl (by decide) (by decide) rfl
      obtain ⟨rfl, M6, K6⟩ := hq482
      dsimp only [Option.toList, List.cons_append, List.nil_append] at r481
      rw [if_neg hc469]
      exact ⟨_, M6, Nat.le_trans (Nat.le_trans zs4 KK.1) K6.1, r481⟩
  have wf5 : WF (if mv = 0 then rmF s3 rr else rmF (fileF (rmF s3 rr) ((rr + (1 : Int32)) % (3 : Int32)) ns) rr) := by
    by_cases hq : mv = 0
    · rw [if_pos hq]; exact wf4
    · rw [if_neg hq]; exact (wf4.file h_s h_ns).rm h_rr
  have eS : (if mv = 0 then rmF s3 rr else rmF (fileF (rmF s3 rr) ((rr + (1 : Int32)) % (3 : Int32)) ns) rr) = stF c0 c1 c2 rr mv ((rr + (1 : Int32)) % (3 : Int32)) ns := by unfold stF; rw [es3, es2, es1, es0]
  rw [eS] at M5 wf5
  have r485 := r468.iconst (pc' := 132) (0 : Int32) at_131 rfl rfl
  have r486 := r485.iloadN (pc' := 133) at_132 rfl rfl
  have r487 := r486.iloadN (pc' := 134) at_133 rfl rfl
  have r488 := r487.iload (pc' := 136) at_134 rfl rfl
  have r489 := r488.iload (pc' := 138) at_136 rfl rfl
  have r490 := r489.iload (pc' := 140) at_138 rfl rfl
  have r491 := r490.iload (pc' := 142) at_140 rfl rfl
  have r492 := r491.iload (pc' := 144) at_142 rfl rfl
  obtain ⟨v495, h496, hq494, r493⟩ := r492.callS (pc' := 147) [(.int (0 : Int32)), (.int c0), (.int c1), (.int c2), (.int rr), (.int mv), (.int ((rr + (1 : Int32)) % (3 : Int32))), (.int ns)] (rest := []) 0 at_144 (hw _ (List.mem_of_getElem? (i := 33) rfl)) (hw _ (List.mem_of_getElem? (i := 34) rfl)) (hw _ (List.mem_of_getElem? (i := 35) rfl)) (hw _ (List.mem_of_getElem? (i := 36) rfl)) (by decide) (c_exp l Z a0 hw (0 : Int32) c0 c1 c2 rr mv ((rr + (1 : Int32)) % (3 : Int32)) ns hh5 n0 zs5) pd_5 rfl rfl rfl (Nat.le_of_ble_eq_true rfl) (by decide) (by decide) (k' := 6) (n' := 19) rfl rfl (by decide) (by decide) rfl
  obtain ⟨be0, rfl, hbe0, VE0, KE0⟩ := hq494
  dsimp only [Option.toList, List.cons_append, List.nil_append] at r493
  have zpe0 : n0 ≤ h496.size := Nat.le_trans zs5 KE0.1
  have ME0 := M5.keep KE0
  have r497 := r493.astore (pc' := 149) (L' := #[.val (.int x0), .val (.int x1), .val (.int c0), .val (.int c1), .val (.int c2), .val (.int rr), .val (.int mv), .val (.int ns), .val (.int ((rr + (1 : Int32)) % (3 : Int32))), .val (.ref a), .val (.ref be0), .unset]) at_147 rfl rfl rfl
  have r498 := r497.iconst (pc' := 150) (1 : Int32) at_149 rfl rfl
  have r499 := r498.iloadN (pc' := 151) at_150 rfl rfl
  have r500 := r499.iloadN (pc' := 152) at_151 rfl rfl
  have r501 := r500.iload (pc' := 154) at_152 rfl rfl
  have r502 := r501.iload (pc' := 156) at_154 rfl rfl
  have r503 := r502.iload (pc' := 158) at_156 rfl rfl
  have r504 := r503.iload (pc' := 160) at_158 rfl rfl
  have r505 := r504.iload (pc' := 162) at_160 rfl rfl
  obtain ⟨v508, h509, hq507, r506⟩ := r505.callS (pc' := 165) [(.int (1 : Int32)), (.int c0), (.int c1), (.int c2), (.int rr), (.int mv), (.int ((rr + (1 : Int32)) % (3 : Int32))), (.int ns)] (rest := []) 0 at_162 (hw _ (List.mem_of_getElem? (i := 33) rfl)) (hw _ (List.mem_of_getElem? (i := 34) rfl)) (hw _ (List.mem_of_getElem? (i := 35) rfl)) (hw _ (List.mem_of_getElem? (i := 36) rfl)) (by decide) (c_exp l Z a0 hw (1 : Int32) c0 c1 c2 rr mv ((rr + (1 : Int32)) % (3 : Int32)) ns h496 n0 zpe0) pd_5 rfl rfl rfl (Nat.le_of_ble_eq_true rfl) (by decide) (by decide) (k' := 7) (n' := 23) rfl rfl (by decide) (by decide) rfl
  obtain ⟨be1, rfl, hbe1, VE1, KE1⟩ := hq507
  dsimp only [Option.toList, List.cons_append, List.nil_append] at r506
  have zpe1 : n0 ≤ h509.size := Nat.le_trans zpe0 KE1.1
  have ME1 := ME0.keep KE1
  replace VE0 := VE0.keep KE1 nin0
  have r510 := r506.astore (pc' := 167) (L' := #[.val (.int x0), .val (.int x1), .val (.int c0), .val (.int c1), .val (.int c2), .val (.int rr), .val (.int mv), .val (.int ns), .val (.int ((rr + (1 : Int32)) % (3 : Int32))), .val (.ref a), .val (.ref be0), .val (.ref be1)]) at_165 rfl rfl rfl
  have r511 := r510.aload (pc' := 169) at_167 rfl rfl rfl
  have r512 := r511.iconst (pc' := 170) (0 : Int32) at_169 rfl rfl
  have r513 := r512.aload (pc' := 172) at_170 rfl rfl rfl
  have hpl := plain h_c0 h_c1 h_c2 h_rr h_mv h_ns
  obtain ⟨v516, h517, hq515, r514⟩ := r513.callS (pc' := 175) [(.ref a), (.int (0 : Int32)), (.ref be0)] (rest := []) 0 at_172 (hw _ (List.mem_of_getElem? (i := 37) rfl)) (hw _ (List.mem_of_getElem? (i := 38) rfl)) (hw _ (List.mem_of_getElem? (i := 35) rfl)) (hw _ (List.mem_of_getElem? (i := 39) rfl)) (by decide) (c_mt l Z a0 hw a af an ax ap be0 (0 : Int32) (stF c0 c1 c2 rr mv ((rr + (1 : Int32)) % (3 : Int32)) ns) (expF (0 : Int32) c0 c1 c2 rr mv ((rr + (1 : Int32)) % (3 : Int32)) ns) h509 n0 ME1 wf5 VE0 (by decide)) pd_6 rfl rfl rfl (Nat.le_of_ble_eq_true rfl) (by decide) (by decide) (k' := 7) (n' := 23) rfl rfl (by decide) (by decide) rfl
  obtain ⟨rfl, rfl⟩ := hq515
  dsimp only [Option.toList, List.cons_append, List.nil_append] at r514
  have r518 := r514.ifF (pc' := 178) at_175 (feq (by rw [hpl.1]; decide)).1 rfl
  have r519 := r518.aload (pc' := 180) at_178 rfl rfl rfl
  have r520 := r519.iconst (pc' := 181) (1 : Int32) at_180 rfl rfl
  have r521 := r520.aload (pc' := 183) at_181 rfl rfl rfl
  obtain ⟨v524, h525, hq523, r522⟩ := r521.callS (pc' := 186) [(.ref a), (.int (1 : Int32)), (.ref be1)] (rest := []) 0 at_183 (hw _ (List.mem_of_getElem? (i := 37) rfl)) (hw _ (List.mem_of_getElem? (i := 38) rfl)) (hw _ (List.mem_of_getElem? (i := 35) rfl)) (hw _ (List.mem_of_getElem? (i := 39) rfl)) (by decide) (c_mt l Z a0 hw a af an ax ap be1 (1 : Int32) (stF c0 c1 c2 rr mv ((rr + (1 : Int32)) % (3 : Int32)) ns) (expF (1 : Int32) c0 c1 c2 rr mv ((rr + (1 : Int32)) % (3 : Int32)) ns) h509 n0 ME1 wf5 VE1 (by decide)) pd_6 rfl rfl rfl (Nat.le_of_ble_eq_true rfl) (by decide) (by decide) (k' := 7) (n' := 23) rfl rfl (by decide) (by decide) rfl
  obtain ⟨rfl, rfl⟩ := hq523
  dsimp only [Option.toList, List.cons_append, List.nil_append] at r522
  have r526 := r522.ifF (pc' := 189) at_186 (feq (by rw [hpl.2]; decide)).1 rfl
  have r527 := r526.iconst (pc' := 190) (1 : Int32) at_189 rfl rfl
  have r528 := r527.goto (pc' := 194) at_190 (by decide) (by decide)
  exact ⟨_, _, r528.retZ at_194 rfl (t := .boolean) (by simp) (1 : Int32) rfl (by decide) (by decide), rfl⟩
set_option maxRecDepth 65536 in
set_option maxHeartbeats 40000000 in
theorem comes_1 {Post : Tables → Env → Array Value → State → Outcome → State → Prop} (hpost : ∀ tb e args s v u, (limb_1_1.after args s (.returned v) u = true ∧ limb_1_2.after args s (.returned v) u = true ∧ True) → FrameEnd s (.returned v) u (Jvm.fieldLocs frame_1_writes args s ++ Jvm.arrayLocs frame_1_arrays args s ++ Jvm.staticLocs frame_1_statics s) 24 128 → Post tb e args s (.returned v) u) :
    ArmFor flags0 classFile x code maxLocals ret World_1 tables_1 room_1 Calls_1 rest_1 Pre_1 Post := by
  intro l hfl _ _ p e ha hc hk s m args below hf hA hF happ hP
  obtain ⟨hcalls, hrest, hpre⟩ := hP
  obtain ⟨-, -, -, hnamed, -, -, -, hat⟩ := (Spec.applies_iff hf).mp happ
  obtain ⟨hg, hn⟩ := and_e (Cond.before_iff.mp (show (Jvm.Cond.and given_1 narrow_1).before args s = true from hpre))
  obtain ⟨gg1, gg2⟩ := and_e hg
  obtain ⟨gg3, gg4⟩ := and_e gg2
  obtain ⟨w0, w1, rfl⟩ : ∃ w0 w1 : Value, args = #[w0, w1] := by
    have hs : args.size = 2 := by simpa [Cond.value, given_1] using gg1
    obtain ⟨L⟩ := args
    match L, hs with
    | [w0, w1], _ => exact ⟨w0, w1, rfl⟩
  have hw := fun d (hd : d ∈ tables_1) => atoms_spec (ws := Jvm.Cond.code x code maxLocals ret :: tables_1) hat d (List.mem_cons_of_mem _ hd)
  obtain ⟨i0, ei0⟩ := is_v gg3
  obtain rfl : w0 = (.int i0) := Option.some.inj ei0
  obtain ⟨i1, ei1⟩ := is_v gg4
  obtain rfl : w1 = (.int i1) := Option.some.inj ei1
  obtain ⟨n, o, h1, h2, h3, _, L, rfl, ⟨N, rfl⟩, hq⟩ := law l s _ hw i0 i1 s.heap s.heap.size (Nat.le_refl _) tables_1 p e ha hc hk s m _ below hf ((Spec.applies_iff_loose hf).mp happ).1 ⟨rfl, State.Warmed39.refl s, rfl⟩ trivial
  refine ⟨n, _, h1, h2, h3, hpost _ _ _ _ _ _ ⟨Cond.after_iff.mpr rfl, Cond.after_iff.mpr (eq_i res_at (Term.int_eval (1)) rfl), trivial⟩ ⟨hq.1, hq.2.1, (hq.2.2.sift fun y hy => Or.inr (N y hy)).mono (by decide) (by decide)⟩⟩
theorem main_1_1 : Claimed_1_1 := comes_1 fun _ _ _ _ _ _ h hF => ⟨h.1, hF⟩
theorem main_1_2 : Claimed_1_2 := comes_1 fun _ _ _ _ _ _ h hF => ⟨h.2.1, hF⟩

end Jvm.Pilot.@@N@@
namespace Jvm.Pilot.@@N@@
open Jvm Jvm.ClassFile Sem Op Lib Jvm.Free Jvm.Stand Jvm.Pilot.@@N@@.Jvm.D
/-! MADE BY PROGRAM (witnessworld.py) out of the Statement's table words and the real class files: 10 classes; the members and pool entries that the words name. The judged class is class 1, her method 1. -/
namespace start1
open Jvm.ClassFile
def u (s : String) : CpInfo := .utf8 (stringToUtf16 s)
/-- a pool by its gaps: so many unusable entries, then the entry; so many at the end -/
def gap : Nat → List CpInfo → List CpInfo
  | 0, r => r
  | n + 1, r => .unusable :: gap n r
def poolList (es : List (Nat × CpInfo)) (last : Nat) : List CpInfo := es.foldr (fun e r => gap e.1 (e.2 :: r)) (gap last [])
def pool (es : List (Nat × CpInfo)) (last : Nat) : Array CpInfo := ⟨poolList es last⟩
def fileOf (pool : Array CpInfo) (this : Nat) (attrs : Array Attribute := #[]) (ms : Array MethodInfo := #[]) (fl : Nat := 33) (sup : Nat := 0) (ifs : Array Nat := #[]) (fds : Array FieldInfo := #[]) : ClassFile where
  minorVersion := 0
  majorVersion := 65
  constantPool := pool
  accessFlags := fl
  thisClass := this
  superClass := sup
  interfaces := ifs
  fields := fds
  methods := ms
  attributes := attrs
def plain (name : String) (sup : Option ClassId) : Class where
  name := name
  kind := .ordinary
  loader := none
  accessFlags := 33
  super := sup
  interfaces := #[]
  cf := none
  fields := #[]
  methods := #[]
  instanceTypes := #[]
  staticTypes := #[]
  resolved := #[]
  callSites := []
  init := .initialized
  statics := none
  mirror := none

def pool0 : Array CpInfo := pool [(5, u "<init>"), (0, u "()V"), (1, .class_ 10), (1, u "java/lang/Object")] 113

def k0c0 : Code := { maxStack := 0, maxLocals := 1, code := object_method_1_code, exceptionTable := #[], attributes := #[] }
def k0m0 : Method := { name := "<init>", desc := "()V", sig := { parameters := [], returnType := none }, accessFlags := 1, code := some k0c0 }
/-- java/lang/Object -/
def k0 : Class := { plain "java/lang/Object" none with
  accessFlags := 33
  interfaces := #[]
  cf := some (fileOf pool0 8 #[] #[{ accessFlags := 1, nameIndex := 5, descriptorIndex := 6, attributes := #[] }] 33 0 #[] #[])
  fields := #[]
  methods := #[k0m0]
  instanceTypes := #[]
  staticTypes := #[]
  resolved := Array.replicate 124 none
  statics := none }

def pool1 : Array CpInfo := pool [(2, .class_ 4), (1, u "java/lang/Object"), (0, u "<init>"), (0, u "()V"), (0, .class_ 8), (0, u "com/example/hailstream/hailstream/NodeBuckets"), (0, .methodref 7 10), (0, .nameAndType 5 11), (0, u "(II)V"), (0, .methodref 7 13), (0, .nameAndType 14 11), (0, u "file"), (0, .methodref 7 16), (0, .nameAndType 17 18), (0, u "remove"), (0, u "(I)V"), (0, .methodref 20 21), (0, .class_ 22), (0, .nameAndType 23 24), (0, u "com/example/hailstream/hailstream/NodeBucketsRemovePinLaw"), (0, u "expected"), (0, u "(IIIIIZII)[I"), (0, .methodref 20 26), (0, .nameAndType 27 28), (0, u "matches"), (0, u "(Lcom/example/hailstream/hailstream/NodeBuckets;I[I)Z"), (0, .methodref 7 30), (0, .nameAndType 31 32), (0, u "first"), (0, u "(I)I"), (0, .methodref 7 34), (0, .nameAndType 35 32), (0, u "next"), (2, u "law"), (0, u "(II)Z")] 5

def k1m0 : Method := { name := "<init>", desc := "()V", sig := { parameters := [], returnType := none }, accessFlags := 1, code := none }
def k1c1 : Code := { maxStack := 8, maxLocals := 12, code := code, exceptionTable := #[], attributes := #[] }
def k1m1 : Method := { name := "law", desc := "(II)Z", sig := { parameters := [.int, .int], returnType := some .boolean }, accessFlags := 9, code := some k1c1 }
def k1c2 : Code := { maxStack := 4, maxLocals := 10, code := method_3_code, exceptionTable := #[], attributes := #[] }
def k1m2 : Method := { name := "expected", desc := "(IIIIIZII)[I", sig := { parameters := [.int, .int, .int, .int, .int, .boolean, .int, .int], returnType := some (.array .int) }, accessFlags := 10, code := some k1c2 }
def k1c3 : Code := { maxStack := 3, maxLocals := 4, code := method_4_code, exceptionTable := #[], attributes := #[] }
def k1m3 : Method := { name := "matches", desc := "(Lcom/example/hailstream/hailstream/NodeBuckets;I[I)Z", sig := { parameters := [(.object "com/example/hailstream/hailstream/NodeBuckets"), .int, (.array .int)], returnType := some .boolean }, accessFlags := 10, code := some k1c3 }
/-- com/example/hailstream/hailstream/NodeBucketsRemovePinLaw -/
def k1 : Class := { plain "com/example/hailstream/hailstream/NodeBucketsRemovePinLaw" (some 0) with
  accessFlags := 49
  interfaces := #[]
  cf := some (fileOf pool1 20 #[] #[{ accessFlags := 1, nameIndex := 5, descriptorIndex := 6, attributes := #[] }, { accessFlags := 9, nameIndex := 38, descriptorIndex := 39, attributes := #[] }, { accessFlags := 10, nameIndex := 23, descriptorIndex := 24, attributes := #[] }, { accessFlags := 10, nameIndex := 27, descriptorIndex := 28, attributes := #[] }] 49 2 #[] #[])
  fields := #[]
  methods := #[k1m0, k1m1, k1m2, k1m3]
  instanceTypes := #[]
  staticTypes := #[]
  resolved := Array.replicate 45 none
  statics := none }

def pool2 : Array CpInfo := pool [(1, .methodref 2 3), (0, .class_ 4), (0, .nameAndType 5 6), (0, u "java/lang/Object"), (0, u "<init>"), (0, u "()V"), (0, .fieldref 8 9), (0, .class_ 10), (0, .nameAndType 11 12), (0, u "com/example/hailstream/hailstream/NodeBuckets"), (0, u "first"), (0, u "[I"), (0, .fieldref 8 14), (0, .nameAndType 15 12), (0, u "nodeOf"), (0, .fieldref 8 17), (0, .nameAndType 18 12), (0, u "next"), (0, .fieldref 8 20), (0, .nameAndType 21 12), (0, u "previous"), (0, .methodref 23 24), (0, .class_ 25), (0, .nameAndType 26 27), (0, u "java/util/Arrays"), (0, u "fill"), (0, u "([II)V"), (0, .methodref 8 29), (0, .nameAndType 30 31), (0, u "remove"), (0, u "(I)V"), (0, u "(II)V"), (2, u "file"), (1, u "(I)I")] 2

def k2c0 : Code := { maxStack := 2, maxLocals := 3, code := prog_18_method_1_code, exceptionTable := #[], attributes := #[] }
def k2m0 : Method := { name := "<init>", desc := "(II)V", sig := { parameters := [.int, .int], returnType := none }, accessFlags := 0, code := some k2c0 }
def k2c1 : Code := { maxStack := 4, maxLocals := 3, code := prog_18_method_2_code, exceptionTable := #[], attributes := #[] }
def k2m1 : Method := { name := "file", desc := "(II)V", sig := { parameters := [.int, .int], returnType := none }, accessFlags := 0, code := some k2c1 }
def k2c2 : Code := { maxStack := 4, maxLocals := 3, code := prog_18_method_3_code, exceptionTable := #[], attributes := #[] }
def k2m2 : Method := { name := "remove", desc := "(I)V", sig := { parameters := [.int], returnType := none }, accessFlags := 0, code := some k2c2 }
def k2c3 : Code := { maxStack := 2, maxLocals := 2, code := prog_18_method_4_code, exceptionTable := #[], attributes := #[] }
def k2m3 : Method := { name := "first", desc := "(I)I", sig := { parameters := [.int], returnType := some .int }, accessFlags := 0, code := some k2c3 }
def k2c4 : Code := { maxStack := 2, maxLocals := 2, code := prog_18_method_5_code, exceptionTable := #[], attributes := #[] }
def k2m4 : Method := { name := "next", desc := "(I)I", sig := { parameters := [.int], returnType := some .int }, accessFlags := 0, code := some k2c4 }
/-- com/example/hailstream/hailstream/NodeBuckets -/
def k2 : Class := { plain "com/example/hailstream/hailstream/NodeBuckets" (some 0) with
  accessFlags := 48
  interfaces := #[]
  cf := some (fileOf pool2 8 #[] #[{ accessFlags := 0, nameIndex := 5, descriptorIndex := 32, attributes := #[] }, { accessFlags := 0, nameIndex := 35, descriptorIndex := 32, attributes := #[] }, { accessFlags := 0, nameIndex := 30, descriptorIndex := 31, attributes := #[] }, { accessFlags := 0, nameIndex := 11, descriptorIndex := 37, attributes := #[] }, { accessFlags := 0, nameIndex := 18, descriptorIndex := 37, attributes := #[] }] 48 2 #[] #[{ accessFlags := 18, nameIndex := 11, descriptorIndex := 12, attributes := #[] }, { accessFlags := 18, nameIndex := 15, descriptorIndex := 12, attributes := #[] }, { accessFlags := 18, nameIndex := 18, descriptorIndex := 12, attributes := #[] }, { accessFlags := 18, nameIndex := 21, descriptorIndex := 12, attributes := #[] }])
  fields := #[{ name := "first", type := (.array .int), accessFlags := 18, slot := 0, constantValue := 0 }, { name := "nodeOf", type := (.array .int), accessFlags := 18, slot := 1, constantValue := 0 }, { name := "next", type := (.array .int), accessFlags := 18, slot := 2, constantValue := 0 }, { name := "previous", type := (.array .int), accessFlags := 18, slot := 3, constantValue := 0 }]
  methods := #[k2m0, k2m1, k2m2, k2m3, k2m4]
  instanceTypes := #[(.array .int), (.array .int), (.array .int), (.array .int)]
  staticTypes := #[]
  resolved := Array.replicate 40 none
  statics := none }

def pool3 : Array CpInfo := pool [(2, .class_ 4), (1, u "java/lang/Object"), (0, u "<init>"), (0, u "()V"), (7, .class_ 16), (1, u "java/util/Arrays"), (57, .class_ 76), (1, u "java/util/Arrays$NaturalOrder"), (36, .class_ 115), (1, u "java/util/Arrays$LegacyMergeSort"), (1, u "Z"), (257, .class_ 376), (0, u "java/util/Arrays$ArrayList"), (68, u "$assertionsDisabled"), (269, u "MIN_ARRAY_SORT_GRAN"), (0, u "I"), (2, u "INSERTIONSORT_THRESHOLD"), (120, u "fill"), (4, u "([II)V"), (129, .class_ 976), (0, u "java/util/Arrays$ArrayItr")] 52

def k3m0 : Method := { name := "<init>", desc := "()V", sig := { parameters := [], returnType := none }, accessFlags := 2, code := none }
def k3c1 : Code := { maxStack := 3, maxLocals := 4, code := jdk_65_method_103_code, exceptionTable := #[], attributes := #[] }
def k3m1 : Method := { name := "fill", desc := "([II)V", sig := { parameters := [(.array .int), .int], returnType := none }, accessFlags := 9, code := some k3c1 }
/-- java/util/Arrays -/
def k3 : Class := { plain "java/util/Arrays" (some 0) with
  accessFlags := 49
  interfaces := #[]
  cf := some (fileOf pool3 14 #[.nestMembers #[975, 375, 113, 74]] #[{ accessFlags := 2, nameIndex := 5, descriptorIndex := 6, attributes := #[] }, { accessFlags := 9, nameIndex := 840, descriptorIndex := 845, attributes := #[] }] 49 2 #[] #[{ accessFlags := 26, nameIndex := 715, descriptorIndex := 716, attributes := #[] }, { accessFlags := 26, nameIndex := 719, descriptorIndex := 716, attributes := #[] }, { accessFlags := 4120, nameIndex := 445, descriptorIndex := 117, attributes := #[] }])
  fields := #[{ name := "MIN_ARRAY_SORT_GRAN", type := .int, accessFlags := 26, slot := 0, constantValue := 0 }, { name := "INSERTIONSORT_THRESHOLD", type := .int, accessFlags := 26, slot := 1, constantValue := 0 }, { name := "$assertionsDisabled", type := .boolean, accessFlags := 4120, slot := 2, constantValue := 0 }]
  methods := #[k3m0, k3m1]
  instanceTypes := #[]
  staticTypes := #[.int, .int, .boolean]
  resolved := Array.replicate 1029 none
  statics := none }

def pool4 : Array CpInfo := pool [(1, u "java/lang/Cloneable"), (0, .class_ 1), (0, u "java/lang/Object"), (0, .class_ 3)] 3

/-- java/lang/Cloneable -/
def k4 : Class := { plain "java/lang/Cloneable" (some 0) with
  accessFlags := 1537
  interfaces := #[]
  cf := some (fileOf pool4 2 #[] #[] 1537 4 #[] #[])
  fields := #[]
  methods := #[]
  instanceTypes := #[]
  staticTypes := #[]
  resolved := Array.replicate 8 none
  statics := none }

def pool5 : Array CpInfo := pool [(1, u "java/io/Serializable"), (0, .class_ 1), (0, u "java/lang/Object"), (0, .class_ 3)] 3

/-- java/io/Serializable -/
def k5 : Class := { plain "java/io/Serializable" (some 0) with
  accessFlags := 1537
  interfaces := #[]
  cf := some (fileOf pool5 2 #[] #[] 1537 4 #[] #[])
  fields := #[]
  methods := #[]
  instanceTypes := #[]
  staticTypes := #[]
  resolved := Array.replicate 8 none
  statics := none }

/-- the primitive byte -/
def k6 : Class := { plain "byte" none with kind := .primitive 'B', accessFlags := 0x411 }
/-- [B -/
def k7 : Class := { plain "[B" (some 0) with kind := .array 6 .byte, interfaces := #[4, 5], accessFlags := 1041 }

/-- the primitive int -/
def k8 : Class := { plain "int" none with kind := .primitive 'I', accessFlags := 0x411 }
/-- [I -/
def k9 : Class := { plain "[I" (some 0) with kind := .array 8 .int, interfaces := #[4, 5], accessFlags := 1041 }

def heap : Heap := #[]
def classes : Array Class := #[k0, k1, k2, k3, k4, k5, k6, k7, k8, k9]
def interned : List (Array UInt16 × Addr) := []
def slotsUsed : Nat := 0
def theMethod : MethodId := ⟨1, 1⟩
def args0 : Array Value := #[.int 5, .int 4]
def aboutOver (below : List Frame) : State where
  vm := { classes := classes, interned := interned.toArray }
  heap := heap
  slotsUsed := slotsUsed
  threads := #[{ frames := .invoking theMethod args0 :: below }]
def below0 : List Frame := [.native { method := ⟨0, 0⟩, args := #[] }]
def about1 : State := aboutOver below0
def p0 : Program := .bare "" "" ""
def e0 : Env := launch0.env 0 0 0
theorem w_frames : about1.frames = Frame.invoking theMethod args0 :: below0 := rfl
set_option maxRecDepth 65536 in
theorem w_args : argsFit about1.vm theMethod args0 = true := by decide +kernel
set_option maxRecDepth 65536 in
theorem w_heap : heapFits about1 = true := by decide +kernel
set_option maxRecDepth 65536 in
theorem w_runnable : about1.curStatus? = some .runnable := by decide +kernel
set_option maxRecDepth 65536 in
theorem w_alone : about1.alone = true := by decide +kernel
set_option maxRecDepth 65536 in
theorem w_named : about1.methodNamed? x = some theMethod := by decide +kernel
set_option maxRecDepth 65536 in
theorem w_hears : about1.hears theMethod below0 = true := by decide +kernel
set_option maxRecDepth 65536 in
theorem w_ripe : about1.ripe theMethod args0 below0 = true := by decide +kernel
theorem w_running : about1.status = .running := rfl
set_option maxRecDepth 65536 in
theorem w_room : about1.hasRoom e0.platform room_1 = true :=
  launch0.hasRoom_least _ room_1 (by decide +kernel) (by decide +kernel) (by decide +kernel) (by decide +kernel) (by decide +kernel) (by decide +kernel)
theorem allAtoms_all (ts : List Jvm.Cond) (a : Array Jvm.Value) (st : Jvm.State) : (allAtoms ts).before a st = ts.all (fun c => c.before a st) := by
  induction ts with
  | nil => rfl
  | cons c t ih =>
    show (Jvm.Cond.and c (allAtoms t)).before a st = _
    rw [Jvm.Cond.before_and, ih, List.all_cons]
def words1 : List Jvm.Cond := Jvm.Cond.code x code maxLocals ret :: tables_1
/-- a 'code' word, met by the world's own term for the bytes: nothing is compared byte by byte -/
theorem code_word {y : MethodName} {bytes : ByteArray} {mx : Nat} {rt : Option FieldType} {a : Array Value} {s : State} {m : MethodId} {meth : Method} {c : Code} (h1 : s.methodNamed? y = some m) (h2 : s.vm.method? m = some meth) (h3 : meth.code = some c) (h4 : c.code = bytes)
    (h5 : (c.maxLocals == mx && c.exceptionTable.isEmpty && decide (c.maxStack ≤ mostOperands) && decide (meth.sig.returnType = rt) && !meth.locks && decide (parseMethodDescriptor y.desc = some meth.sig)) = true) : (Jvm.Cond.code y bytes mx rt).before a s = true := by
  simp only [Bool.and_eq_true, beq_iff_eq, Bool.not_eq_true', decide_eq_true_eq] at h5
  obtain ⟨⟨⟨⟨⟨g1, g2⟩, g3⟩, g4⟩, g5⟩, g6⟩ := h5
  simp [Cond.before, Cond.holds, Cond.value, h1, h2, h3, h4, g1, g2, g3, g4, g5, g6]
def isCode : Jvm.Cond → Bool
  | .code _ _ _ _ => true
  | _ => false
theorem all_split {L : List Jvm.Cond} {P : Jvm.Cond → Bool} (h1 : L.all (fun c => isCode c || P c) = true) (h2 : ∀ c ∈ L.filter isCode, P c = true) : L.all P = true := by
  refine List.all_eq_true.mpr fun c hc => ?_
  have h := List.all_eq_true.mp h1 c hc
  rcases Bool.eq_false_or_eq_true (isCode c) with hi | hi
  · exact h2 c (List.mem_filter.mpr ⟨hc, hi⟩)
  · simpa [hi] using h
set_option maxRecDepth 65536 in
theorem w_c0 : (Jvm.Cond.code x code maxLocals ret).before args0 about1 = true := code_word (m := ⟨1, 1⟩) (meth := k1m1) (c := k1c1) (by decide +kernel) rfl rfl rfl (by decide +kernel)
set_option maxRecDepth 65536 in
theorem w_c1 : (Jvm.Cond.code ({ cls := "com/example/hailstream/hailstream/NodeBuckets", name := "<init>", desc := "(II)V" } : Jvm.MethodName) prog_18_method_1_code (3 : Nat) (Option.none : Option Jvm.ClassFile.FieldType)).before args0 about1 = true := code_word (m := ⟨2, 0⟩) (meth := k2m0) (c := k2c0) (by decide +kernel) rfl rfl rfl (by decide +kernel)
set_option maxRecDepth 65536 in
theorem w_c2 : (Jvm.Cond.code ({ cls := "java/lang/Object", name := "<init>", desc := "()V" } : Jvm.MethodName) object_method_1_code (1 : Nat) (Option.none : Option Jvm.ClassFile.FieldType)).before args0 about1 = true := code_word (m := ⟨0, 0⟩) (meth := k0m0) (c := k0c0) (by decide +kernel) rfl rfl rfl (by decide +kernel)
set_option maxRecDepth 65536 in
theorem w_c3 : (Jvm.Cond.code ({ cls := "java/util/Arrays", name := "fill", desc := "([II)V" } : Jvm.MethodName) jdk_65_method_103_code (4 : Nat) (Option.none : Option Jvm.ClassFile.FieldType)).before args0 about1 = true := code_word (m := ⟨3, 1⟩) (meth := k3m1) (c := k3c1) (by decide +kernel) rfl rfl rfl (by decide +kernel)
set_option maxRecDepth 65536 in
theorem w_c4 : (Jvm.Cond.code ({ cls := "com/example/hailstream/hailstream/NodeBuckets", name := "file", desc := "(II)V" } : Jvm.MethodName) prog_18_method_2_code (3 : Nat) (Option.none : Option Jvm.ClassFile.FieldType)).before args0 about1 = true := code_word (m := ⟨2, 1⟩) (meth := k2m1) (c := k2c1) (by decide +kernel) rfl rfl rfl (by decide +kernel)
set_option maxRecDepth 65536 in
theorem w_c5 : (Jvm.Cond.code ({ cls := "com/example/hailstream/hailstream/NodeBuckets", name := "remove", desc := "(I)V" } : Jvm.MethodName) prog_18_method_3_code (3 : Nat) (Option.none : Option Jvm.ClassFile.FieldType)).before args0 about1 = true := code_word (m := ⟨2, 2⟩) (meth := k2m2) (c := k2c2) (by decide +kernel) rfl rfl rfl (by decide +kernel)
set_option maxRecDepth 65536 in
theorem w_c6 : (Jvm.Cond.code ({ cls := "com/example/hailstream/hailstream/NodeBucketsRemovePinLaw", name := "expected", desc := "(IIIIIZII)[I" } : Jvm.MethodName) method_3_code (10 : Nat) (Option.some (Jvm.ClassFile.FieldType.array Jvm.ClassFile.FieldType.int))).before args0 about1 = true := code_word (m := ⟨1, 2⟩) (meth := k1m2) (c := k1c2) (by decide +kernel) rfl rfl rfl (by decide +kernel)
set_option maxRecDepth 65536 in
theorem w_c7 : (Jvm.Cond.code ({ cls := "com/example/hailstream/hailstream/NodeBucketsRemovePinLaw", name := "matches", desc := "(Lcom/example/hailstream/hailstream/NodeBuckets;I[I)Z" } : Jvm.MethodName) method_4_code (4 : Nat) (Option.some Jvm.ClassFile.FieldType.boolean)).before args0 about1 = true := code_word (m := ⟨1, 3⟩) (meth := k1m3) (c := k1c3) (by decide +kernel) rfl rfl rfl (by decide +kernel)
set_option maxRecDepth 65536 in
theorem w_c8 : (Jvm.Cond.code ({ cls := "com/example/hailstream/hailstream/NodeBuckets", name := "first", desc := "(I)I" } : Jvm.MethodName) prog_18_method_4_code (2 : Nat) (Option.some Jvm.ClassFile.FieldType.int)).before args0 about1 = true := code_word (m := ⟨2, 3⟩) (meth := k2m3) (c := k2c3) (by decide +kernel) rfl rfl rfl (by decide +kernel)
set_option maxRecDepth 65536 in
theorem w_c9 : (Jvm.Cond.code ({ cls := "com/example/hailstream/hailstream/NodeBuckets", name := "next", desc := "(I)I" } : Jvm.MethodName) prog_18_method_5_code (2 : Nat) (Option.some Jvm.ClassFile.FieldType.int)).before args0 about1 = true := code_word (m := ⟨2, 4⟩) (meth := k2m4) (c := k2c4) (by decide +kernel) rfl rfl rfl (by decide +kernel)
def codes1 : List Jvm.Cond := [Jvm.Cond.code x code maxLocals ret, Jvm.Cond.code ({ cls := "com/example/hailstream/hailstream/NodeBuckets", name := "<init>", desc := "(II)V" } : Jvm.MethodName) prog_18_method_1_code (3 : Nat) (Option.none : Option Jvm.ClassFile.FieldType), Jvm.Cond.code ({ cls := "java/lang/Object", name := "<init>", desc := "()V" } : Jvm.MethodName) object_method_1_code (1 : Nat) (Option.none : Option Jvm.ClassFile.FieldType), Jvm.Cond.code ({ cls := "java/util/Arrays", name := "fill", desc := "([II)V" } : Jvm.MethodName) jdk_65_method_103_code (4 : Nat) (Option.none : Option Jvm.ClassFile.FieldType), Jvm.Cond.code ({ cls := "com/example/hailstream/hailstream/NodeBuckets", name := "file", desc := "(II)V" } : Jvm.MethodName) prog_18_method_2_code (3 : Nat) (Option.none : Option Jvm.ClassFile.FieldType), Jvm.Cond.code ({ cls := "com/example/hailstream/hailstream/NodeBuckets", name := "remove", desc := "(I)V" } : Jvm.MethodName) prog_18_method_3_code (3 : Nat) (Option.none : Option Jvm.ClassFile.FieldType), Jvm.Cond.code ({ cls := "com/example/hailstream/hailstream/NodeBucketsRemovePinLaw", name := "expected", desc := "(IIIIIZII)[I" } : Jvm.MethodName) method_3_code (10 : Nat) (Option.some (Jvm.ClassFile.FieldType.array Jvm.ClassFile.FieldType.int)), Jvm.Cond.code ({ cls := "com/example/hailstream/hailstream/NodeBucketsRemovePinLaw", name := "matches", desc := "(Lcom/example/hailstream/hailstream/NodeBuckets;I[I)Z" } : Jvm.MethodName) method_4_code (4 : Nat) (Option.some Jvm.ClassFile.FieldType.boolean), Jvm.Cond.code ({ cls := "com/example/hailstream/hailstream/NodeBuckets", name := "first", desc := "(I)I" } : Jvm.MethodName) prog_18_method_4_code (2 : Nat) (Option.some Jvm.ClassFile.FieldType.int), Jvm.Cond.code ({ cls := "com/example/hailstream/hailstream/NodeBuckets", name := "next", desc := "(I)I" } : Jvm.MethodName) prog_18_method_5_code (2 : Nat) (Option.some Jvm.ClassFile.FieldType.int)]
set_option maxRecDepth 65536 in
theorem codes_eq : words1.filter isCode = codes1 := rfl
theorem w_codes : ∀ c ∈ words1.filter isCode, c.before args0 about1 = true := by
  rw [codes_eq]
  intro c hc
  simp only [codes1, List.mem_cons, List.not_mem_nil, or_false] at hc
  rcases hc with rfl | rfl | rfl | rfl | rfl | rfl | rfl | rfl | rfl | rfl
  · exact w_c0
  · exact w_c1
  · exact w_c2
  · exact w_c3
  · exact w_c4
  · exact w_c5
  · exact w_c6
  · exact w_c7
  · exact w_c8
  · exact w_c9
set_option maxRecDepth 65536 in
theorem w_t1 : (words1.take 24).all (fun c => isCode c || c.before args0 about1) = true := by decide +kernel
set_option maxRecDepth 65536 in
theorem w_t2 : ((words1.drop 24).take 24).all (fun c => isCode c || c.before args0 about1) = true := by decide +kernel
set_option maxRecDepth 65536 in
theorem w_t3 : ((words1.drop 24).drop 24).all (fun c => isCode c || c.before args0 about1) = true := by decide +kernel
theorem w_tables : (allAtoms (Jvm.Cond.code x code maxLocals ret :: tables_1)).before args0 about1 = true := by
  rw [allAtoms_all]
  show words1.all (fun c => c.before args0 about1) = true
  refine all_split ?_ w_codes
  rw [← List.take_append_drop 24 words1, List.all_append, w_t1, ← List.take_append_drop 24 (words1.drop 24), List.all_append, w_t2, w_t3]
  rfl
set_option maxRecDepth 65536 in
theorem w_case : (Jvm.Cond.and given_1 narrow_1).before args0 about1 = true := by decide +kernel
theorem w_applies : (headSpec (Jvm.Cond.code x code maxLocals ret :: tables_1) room_1).applies x e0.platform about1 = true :=
  (Spec.applies_iff w_frames).mpr ⟨w_running, w_runnable, w_alone, w_named, w_hears, w_ripe, w_room, w_tables⟩
theorem atStart : AtStart classFile x code maxLocals ret World_1 tables_1 room_1 Calls_1 rest_1 Pre_1 launch0 p0 e0 about1 theMethod args0 below0 :=
  ⟨lists_1, trivial, launch0.admits_env _ _ _, launch0.least_env, fairChoices_fair.cas, fairChoices_fair.clock, w_frames, w_args, w_heap, w_applies, trivial, trivial, w_case⟩
end start1
theorem witness_1 : WitnessClaimed_1 := ⟨start1.p0, start1.e0, start1.about1, start1.theMethod, start1.args0, start1.below0, start1.atStart⟩
end Jvm.Pilot.@@N@@
