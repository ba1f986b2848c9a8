import JvmDerived
import JvmDerived.Pilot.@@N@@Statement
import JvmDerived.Pilot.@@N@@Code
set_option linter.unusedVariables false
set_option linter.unusedSimpArgs false
namespace Jvm.Pilot.@@N@@
open Jvm Jvm.ClassFile Sem Op Lib Jvm.Free Jvm.Stand Jvm.LawKit Jvm.RoadKit Bundle Jvm.Pilot.@@N@@.Jvm.D
section OwnLayer
/-- where the walk of the body y stands: after k cells and n slots made, with the heap h and the top frame g -/
def Rch (p : Program) (l : Launch) (e : Env) (R : Room) (s : State) (m : MethodId) (args : Array Value) (below : List Frame) (meth : Method) (c : Code) (Z : State) (y : MethodName) (bc : ByteArray) (ml : Nat) (rt : Option FieldType) (n0 : Nat) (T0 : State) (g0 : JFrame) (k n : Nat) (h : Heap) (g : JFrame) : Prop :=
  (p.tables.exec = Jvm.exec ∧ c.code = bc ∧ c.maxLocals = ml ∧ s.vm.findClass y.cls = some m.cls ∧ Z.Warmed39 s.vm ∧ meth.sig.returnType = rt ∧ meth.locks = false ∧ meth.name = y.name) ∧
  ∃ T locs, Stand p l e R s m args below meth c T locs k n ∧ T.heap = h ∧ Fr n0 locs ∧ ∀ target, Steps p.tables e below (T.setTop g) target → Steps p.tables e below (T0.setTop g0) target
/-- the body has returned v, with the heap h -/
def Don (p : Program) (l : Launch) (e : Env) (R : Room) (s : State) (m : MethodId) (args : Array Value) (below : List Frame) (meth : Method) (c : Code) (rt : Option FieldType) (n0 : Nat) (T0 : State) (g0 : JFrame) (v : Option Value) (h : Heap) : Prop :=
  ∃ T locs k n, Stand p l e R s m args below meth c T locs k n ∧ k ≤ R.cells ∧ n ≤ R.slots ∧ T.heap = h ∧ Fr n0 locs ∧ meth.locks = false ∧ (meth.sig.returnType = none → v = none) ∧
    ∀ fs, (∀ (f : JFrame) (acts : List Action), f.method = m → f.locked = none → f.entered = [] → (doReturn e (T.setTop f) acts v).1 = T.setFrames fs) → Steps p.tables e below (T0.setTop g0) (T.setFrames fs)
/-- a body's contract -/
def Ctr (l : Launch) (Z : State) (y : MethodName) (bc : ByteArray) (ml : Nat) (rt : Option FieldType) (rm : Room) (as : Array Value) (h0 : Heap) (n0 : Nat) (Q : Option Value → Heap → Prop) : Prop :=
  ∀ ws : List Jvm.Cond, MetFree l y (head1 (Jvm.Cond.code y bc ml rt :: ws) rm) (fun a U => a = as ∧ Z.Warmed39 U.vm ∧ U.heap = h0) (fun _ _ _ _ _ => True) (fun _ U o U' => ∃ v L, o = .returned v ∧ (Fr n0 L ∧ Q v U'.heap) ∧ FrameEnd U o U' L rm.cells rm.slots)
variable {p : Program} {l : Launch} {e : Env} {R : Room} {s : State} {m : MethodId} {args : Array Value} {below : List Frame} {meth : Method} {c : Code} {Z : State} {y : MethodName} {bc : ByteArray} {ml : Nat} {rt : Option FieldType} {n0 : Nat} {T0 : State} {g0 : JFrame} {k n : Nat} {h : Heap} {a0 : Array Value} {pc pc' : Nat} {L : Array Slot} {S : List Value}
theorem Rch.step {k' n' : Nat} {h' : Heap} {g g' : JFrame} (r : Rch p l e R s m args below meth c Z y bc ml rt n0 T0 g0 k n h g)
    (f : ∀ T locs, Stand p l e R s m args below meth c T locs k n → T.heap = h → Fr n0 locs → ∃ T' locs', Stand p l e R s m args below meth c T' locs' k' n' ∧ T'.heap = h' ∧ Fr n0 locs' ∧ ∀ target, Steps p.tables e below (T'.setTop g') target → Steps p.tables e below (T.setTop g) target) :
    Rch p l e R s m args below meth c Z y bc ml rt n0 T0 g0 k' n' h' g' := by
  obtain ⟨q, T, locs, X, eT, N, st⟩ := r
  obtain ⟨T', locs', X', eT', N', st'⟩ := f T locs X eT N
  exact ⟨q, T', locs', X', eT', N', fun t z => st t (st' t z)⟩
theorem Rch.pure {g g' : JFrame} (r : Rch p l e R s m args below meth c Z y bc ml rt n0 T0 g0 k n h g)
    (f : ∀ T locs, Stand p l e R s m args below meth c T locs k n → T.heap = h → ∀ target, Steps p.tables e below (T.setTop g') target → Steps p.tables e below (T.setTop g) target) :
    Rch p l e R s m args below meth c Z y bc ml rt n0 T0 g0 k n h g' :=
  r.step fun T locs X eT N => ⟨T, locs, X, eT, N, f T locs X eT⟩
theorem Rch.keep {g g' : JFrame} (r : Rch p l e R s m args below meth c Z y bc ml rt n0 T0 g0 k n h g)
    (f : ∀ T locs, Stand p l e R s m args below meth c T locs k n → T.heap = h → ∃ T', Stand p l e R s m args below meth c T' locs k n ∧ T'.heap = h ∧ ∀ target, Steps p.tables e below (T'.setTop g') target → Steps p.tables e below (T.setTop g) target) :
    Rch p l e R s m args below meth c Z y bc ml rt n0 T0 g0 k n h g' :=
  r.step fun T locs X eT N => by
    obtain ⟨T', X', e', st⟩ := f T locs X eT
    exact ⟨T', locs, X', e', N, st⟩
theorem Rch.widen {g : JFrame} {k' n' : Nat} (r : Rch p l e R s m args below meth c Z y bc ml rt n0 T0 g0 k n h g) (hk : k ≤ k') (hn : n ≤ n') : Rch p l e R s m args below meth c Z y bc ml rt n0 T0 g0 k' n' h g := by
  obtain ⟨q, T, locs, X, eT, N, st⟩ := r
  exact ⟨q, T, locs, ⟨X.admits, X.cas, X.clock, X.frames, X.room, X.hears, X.method, X.code, X.here, X.tail, X.warmed, X.limits, X.bytes, X.same.mono hk hn⟩, eT, N, st⟩
theorem Rch.eqh {g : JFrame} {h' : Heap} (r : Rch p l e R s m args below meth c Z y bc ml rt n0 T0 g0 k n h g) (q : h = h') : Rch p l e R s m args below meth c Z y bc ml rt n0 T0 g0 k n h' g := q ▸ r
theorem Rch.eqg {g g' : JFrame} (r : Rch p l e R s m args below meth c Z y bc ml rt n0 T0 g0 k n h g) (q : g = g') : Rch p l e R s m args below meth c Z y bc ml rt n0 T0 g0 k n h g' := q ▸ r
-- loads and stores
theorem Rch.iloadN (r : Rch p l e R s m args below meth c Z y bc ml rt n0 T0 g0 k n h (mkF m pc L S)) {i : Fin 4} {v : Int32} (hd : decode bc pc = .ok (.iload_n i, 1)) (hl : L[i.val]? = some (.val (.int v))) (hp : pc + 1 = pc') : Rch p l e R s m args below meth c Z y bc ml rt n0 T0 g0 k n h (mkF m pc' L (.int v :: S)) := by
  subst hp; exact r.pure fun T locs X eT t z => XS.iloadN X.here r.1.1 rfl (hb r.1.2.1 hd) hl z
theorem Rch.iload (r : Rch p l e R s m args below meth c Z y bc ml rt n0 T0 g0 k n h (mkF m pc L S)) {i : Nat} {v : Int32} (hd : decode bc pc = .ok (.iload i, 2)) (hl : L[i]? = some (.val (.int v))) (hp : pc + 2 = pc') : Rch p l e R s m args below meth c Z y bc ml rt n0 T0 g0 k n h (mkF m pc' L (.int v :: S)) := by
  subst hp; exact r.pure fun T locs X eT t z => XS.iload X.here r.1.1 rfl (hb r.1.2.1 hd) hl z
theorem Rch.lloadN (r : Rch p l e R s m args below meth c Z y bc ml rt n0 T0 g0 k n h (mkF m pc L S)) {i : Fin 4} {v : Int64} (hd : decode bc pc = .ok (.lload_n i, 1)) (hl : L[i.val]? = some (.val (.long v))) (hp : pc + 1 = pc') : Rch p l e R s m args below meth c Z y bc ml rt n0 T0 g0 k n h (mkF m pc' L (.long v :: S)) := by
  subst hp; exact r.pure fun T locs X eT t z => XS.lloadN X.here r.1.1 rfl (hb r.1.2.1 hd) hl z
theorem Rch.lload (r : Rch p l e R s m args below meth c Z y bc ml rt n0 T0 g0 k n h (mkF m pc L S)) {i : Nat} {v : Int64} (hd : decode bc pc = .ok (.lload i, 2)) (hl : L[i]? = some (.val (.long v))) (hp : pc + 2 = pc') : Rch p l e R s m args below meth c Z y bc ml rt n0 T0 g0 k n h (mkF m pc' L (.long v :: S)) := by
  subst hp; exact r.pure fun T locs X eT t z => XS.lload X.here r.1.1 rfl (hb r.1.2.1 hd) hl z
theorem Rch.aloadN (r : Rch p l e R s m args below meth c Z y bc ml rt n0 T0 g0 k n h (mkF m pc L S)) {i : Fin 4} {v : Value} (hd : decode bc pc = .ok (.aload_n i, 1)) (hl : L[i.val]? = some (.val v)) (hv : v.isRef = true) (hp : pc + 1 = pc') : Rch p l e R s m args below meth c Z y bc ml rt n0 T0 g0 k n h (mkF m pc' L (v :: S)) := by
  subst hp; exact r.pure fun T locs X eT t z => XS.aloadN X.here r.1.1 rfl (hb r.1.2.1 hd) hl hv z
theorem Rch.aload (r : Rch p l e R s m args below meth c Z y bc ml rt n0 T0 g0 k n h (mkF m pc L S)) {i : Nat} {v : Value} (hd : decode bc pc = .ok (.aload i, 2)) (hl : L[i]? = some (.val v)) (hv : v.isRef = true) (hp : pc + 2 = pc') : Rch p l e R s m args below meth c Z y bc ml rt n0 T0 g0 k n h (mkF m pc' L (v :: S)) := by
  subst hp; exact r.pure fun T locs X eT t z => XS.aload X.here r.1.1 rfl (hb r.1.2.1 hd) hl hv z
theorem Rch.istoreN {i : Fin 4} {v : Int32} {L' : Array Slot} (r : Rch p l e R s m args below meth c Z y bc ml rt n0 T0 g0 k n h (mkF m pc L (.int v :: S))) (hd : decode bc pc = .ok (.istore_n i, 1)) (hl : storeLocals L i.val (.int v) = some L') (hp : pc + 1 = pc') : Rch p l e R s m args below meth c Z y bc ml rt n0 T0 g0 k n h (mkF m pc' L' S) := by
  subst hp; exact r.pure fun T locs X eT t z => XS.istoreN X.here r.1.1 rfl (hb r.1.2.1 hd) rfl hl z
theorem Rch.istore {i : Nat} {v : Int32} {L' : Array Slot} (r : Rch p l e R s m args below meth c Z y bc ml rt n0 T0 g0 k n h (mkF m pc L (.int v :: S))) (hd : decode bc pc = .ok (.istore i, 2)) (hl : storeLocals L i (.int v) = some L') (hp : pc + 2 = pc') : Rch p l e R s m args below meth c Z y bc ml rt n0 T0 g0 k n h (mkF m pc' L' S) := by
  subst hp; exact r.pure fun T locs X eT t z => XS.istore X.here r.1.1 rfl (hb r.1.2.1 hd) rfl hl z
theorem Rch.lstoreN {i : Fin 4} {v : Int64} {L' : Array Slot} (r : Rch p l e R s m args below meth c Z y bc ml rt n0 T0 g0 k n h (mkF m pc L (.long v :: S))) (hd : decode bc pc = .ok (.lstore_n i, 1)) (hl : storeLocals L i.val (.long v) = some L') (hp : pc + 1 = pc') : Rch p l e R s m args below meth c Z y bc ml rt n0 T0 g0 k n h (mkF m pc' L' S) := by
  subst hp; exact r.pure fun T locs X eT t z => XS.lstoreN X.here r.1.1 rfl (hb r.1.2.1 hd) rfl hl z
theorem Rch.lstore {i : Nat} {v : Int64} {L' : Array Slot} (r : Rch p l e R s m args below meth c Z y bc ml rt n0 T0 g0 k n h (mkF m pc L (.long v :: S))) (hd : decode bc pc = .ok (.lstore i, 2)) (hl : storeLocals L i (.long v) = some L') (hp : pc + 2 = pc') : Rch p l e R s m args below meth c Z y bc ml rt n0 T0 g0 k n h (mkF m pc' L' S) := by
  subst hp; exact r.pure fun T locs X eT t z => XS.lstore X.here r.1.1 rfl (hb r.1.2.1 hd) rfl hl z
theorem Rch.astoreN {i : Fin 4} {v : Value} {L' : Array Slot} (r : Rch p l e R s m args below meth c Z y bc ml rt n0 T0 g0 k n h (mkF m pc L (v :: S))) (hd : decode bc pc = .ok (.astore_n i, 1)) (hv : v.isRef = true) (hl : storeLocals L i.val v = some L') (hp : pc + 1 = pc') : Rch p l e R s m args below meth c Z y bc ml rt n0 T0 g0 k n h (mkF m pc' L' S) := by
  subst hp; exact r.pure fun T locs X eT t z => XS.astoreN X.here r.1.1 rfl (hb r.1.2.1 hd) rfl hv hl z
theorem Rch.astore {i : Nat} {v : Value} {L' : Array Slot} (r : Rch p l e R s m args below meth c Z y bc ml rt n0 T0 g0 k n h (mkF m pc L (v :: S))) (hd : decode bc pc = .ok (.astore i, 2)) (hv : v.isRef = true) (hl : storeLocals L i v = some L') (hp : pc + 2 = pc') : Rch p l e R s m args below meth c Z y bc ml rt n0 T0 g0 k n h (mkF m pc' L' S) := by
  subst hp; exact r.pure fun T locs X eT t z => XS.astore X.here r.1.1 rfl (hb r.1.2.1 hd) rfl hv hl z
theorem Rch.iinc {i : Nat} {cst : Int} {v u : Int32} {L' : Array Slot} (r : Rch p l e R s m args below meth c Z y bc ml rt n0 T0 g0 k n h (mkF m pc L S)) (w : Int32) (hd : decode bc pc = .ok (.iinc i cst, 3)) (hw : Int32.ofInt cst = w) (hl : L[i]? = some (.val (.int v))) (hu : v + w = u) (hl' : storeLocals L i (.int u) = some L') (hp : pc + 3 = pc') : Rch p l e R s m args below meth c Z y bc ml rt n0 T0 g0 k n h (mkF m pc' L' S) := by
  subst hp hu hw; exact r.pure fun T locs X eT t z => XS.iinc X.here r.1.1 rfl (hb r.1.2.1 hd) hl hl' z
-- constants
theorem Rch.iconst (r : Rch p l e R s m args below meth c Z y bc ml rt n0 T0 g0 k n h (mkF m pc L S)) {i : Int} (w : Int32) (hd : decode bc pc = .ok (.iconst i, 1)) (hw : Int32.ofInt i = w) (hp : pc + 1 = pc') : Rch p l e R s m args below meth c Z y bc ml rt n0 T0 g0 k n h (mkF m pc' L (.int w :: S)) := by
  subst hp hw; exact r.pure fun T locs X eT t z => XS.iconst X.here r.1.1 rfl (hb r.1.2.1 hd) z
theorem Rch.bipush (r : Rch p l e R s m args below meth c Z y bc ml rt n0 T0 g0 k n h (mkF m pc L S)) {i : Int} (w : Int32) (hd : decode bc pc = .ok (.bipush i, 2)) (hw : (Int8.ofInt i).toInt32 = w) (hp : pc + 2 = pc') : Rch p l e R s m args below meth c Z y bc ml rt n0 T0 g0 k n h (mkF m pc' L (.int w :: S)) := by
  subst hp hw; exact r.pure fun T locs X eT t z => XS.bipush X.here r.1.1 rfl (hb r.1.2.1 hd) z
theorem Rch.sipush (r : Rch p l e R s m args below meth c Z y bc ml rt n0 T0 g0 k n h (mkF m pc L S)) {i : Int} (w : Int32) (hd : decode bc pc = .ok (.sipush i, 3)) (hw : (Int16.ofInt i).toInt32 = w) (hp : pc + 3 = pc') : Rch p l e R s m args below meth c Z y bc ml rt n0 T0 g0 k n h (mkF m pc' L (.int w :: S)) := by
  subst hp hw; exact r.pure fun T locs X eT t z => XS.sipush X.here r.1.1 rfl (hb r.1.2.1 hd) z
theorem Rch.lconst (r : Rch p l e R s m args below meth c Z y bc ml rt n0 T0 g0 k n h (mkF m pc L S)) {i : Fin 2} (w : Int64) (hd : decode bc pc = .ok (.lconst i, 1)) (hw : Int64.ofNat i = w) (hp : pc + 1 = pc') : Rch p l e R s m args below meth c Z y bc ml rt n0 T0 g0 k n h (mkF m pc' L (.long w :: S)) := by
  subst hp hw; exact r.pure fun T locs X eT t z => XS.lconst X.here r.1.1 rfl (hb r.1.2.1 hd) z
theorem Rch.anull (r : Rch p l e R s m args below meth c Z y bc ml rt n0 T0 g0 k n h (mkF m pc L S)) (hd : decode bc pc = .ok (.aconst_null, 1)) (hp : pc + 1 = pc') : Rch p l e R s m args below meth c Z y bc ml rt n0 T0 g0 k n h (mkF m pc' L (.null :: S)) := by
  subst hp; exact r.pure fun T locs X eT t z => XS.aconstNull X.here r.1.1 rfl (hb r.1.2.1 hd) z
theorem Rch.ldc (r : Rch p l e R s m args below meth c Z y bc ml rt n0 T0 g0 k n h (mkF m pc L S)) {i : Nat} {w : Int32} (hd : decode bc pc = .ok (.ldc i, 2)) (hc : (Jvm.Cond.constant y.cls i w).before a0 Z = true) (hp : pc + 2 = pc') : Rch p l e R s m args below meth c Z y bc ml rt n0 T0 g0 k n h (mkF m pc' L (.int w :: S)) := by
  subst hp; exact r.pure fun T locs X eT t z => X.ldcInt r.1.1 r.1.2.2.2.1 (mvT r.1.2.2.2.2.1 hc) (g := mkF m pc L S) rfl (hb r.1.2.1 hd) t z
theorem Rch.ldcw (r : Rch p l e R s m args below meth c Z y bc ml rt n0 T0 g0 k n h (mkF m pc L S)) {i : Nat} {w : Int32} (hd : decode bc pc = .ok (.ldc_w i, 3)) (hc : (Jvm.Cond.constant y.cls i w).before a0 Z = true) (hp : pc + 3 = pc') : Rch p l e R s m args below meth c Z y bc ml rt n0 T0 g0 k n h (mkF m pc' L (.int w :: S)) := by
  subst hp; exact r.pure fun T locs X eT t z => X.ldcwInt r.1.1 r.1.2.2.2.1 (mvT r.1.2.2.2.2.1 hc) (g := mkF m pc L S) rfl (hb r.1.2.1 hd) t z
theorem Rch.ldc2 (r : Rch p l e R s m args below meth c Z y bc ml rt n0 T0 g0 k n h (mkF m pc L S)) {i : Nat} {w : Int64} (hd : decode bc pc = .ok (.ldc2_w i, 3)) (hc : (Jvm.Cond.constantLong y.cls i w).before a0 Z = true) (hp : pc + 3 = pc') : Rch p l e R s m args below meth c Z y bc ml rt n0 T0 g0 k n h (mkF m pc' L (.long w :: S)) := by
  subst hp; exact r.pure fun T locs X eT t z => X.ldc2Long r.1.1 r.1.2.2.2.1 (mvT r.1.2.2.2.2.1 hc) (g := mkF m pc L S) rfl (hb r.1.2.1 hd) t z
-- sums and the like
theorem Rch.iadd {a : Int32} {b : Int32} {u : Int32} (r : Rch p l e R s m args below meth c Z y bc ml rt n0 T0 g0 k n h (mkF m pc L (.int b :: .int a :: S))) (hd : decode bc pc = .ok (.iadd, 1)) (hu : a + b = u) (hp : pc + 1 = pc') : Rch p l e R s m args below meth c Z y bc ml rt n0 T0 g0 k n h (mkF m pc' L (.int u :: S)) := by
  subst hp hu; exact r.pure fun T locs X eT t z => XS.iadd X.here r.1.1 rfl (hb r.1.2.1 hd) rfl z
theorem Rch.isub {a : Int32} {b : Int32} {u : Int32} (r : Rch p l e R s m args below meth c Z y bc ml rt n0 T0 g0 k n h (mkF m pc L (.int b :: .int a :: S))) (hd : decode bc pc = .ok (.isub, 1)) (hu : a - b = u) (hp : pc + 1 = pc') : Rch p l e R s m args below meth c Z y bc ml rt n0 T0 g0 k n h (mkF m pc' L (.int u :: S)) := by
  subst hp hu; exact r.pure fun T locs X eT t z => XS.isub X.here r.1.1 rfl (hb r.1.2.1 hd) rfl z
theorem Rch.imul {a : Int32} {b : Int32} {u : Int32} (r : Rch p l e R s m args below meth c Z y bc ml rt n0 T0 g0 k n h (mkF m pc L (.int b :: .int a :: S))) (hd : decode bc pc = .ok (.imul, 1)) (hu : a * b = u) (hp : pc + 1 = pc') : Rch p l e R s m args below meth c Z y bc ml rt n0 T0 g0 k n h (mkF m pc' L (.int u :: S)) := by
  subst hp hu; exact r.pure fun T locs X eT t z => XS.imul X.here r.1.1 rfl (hb r.1.2.1 hd) rfl z
theorem Rch.iand {a : Int32} {b : Int32} {u : Int32} (r : Rch p l e R s m args below meth c Z y bc ml rt n0 T0 g0 k n h (mkF m pc L (.int b :: .int a :: S))) (hd : decode bc pc = .ok (.iand, 1)) (hu : a &&& b = u) (hp : pc + 1 = pc') : Rch p l e R s m args below meth c Z y bc ml rt n0 T0 g0 k n h (mkF m pc' L (.int u :: S)) := by
  subst hp hu; exact r.pure fun T locs X eT t z => XS.iand X.here r.1.1 rfl (hb r.1.2.1 hd) rfl z
theorem Rch.ior {a : Int32} {b : Int32} {u : Int32} (r : Rch p l e R s m args below meth c Z y bc ml rt n0 T0 g0 k n h (mkF m pc L (.int b :: .int a :: S))) (hd : decode bc pc = .ok (.ior, 1)) (hu : a ||| b = u) (hp : pc + 1 = pc') : Rch p l e R s m args below meth c Z y bc ml rt n0 T0 g0 k n h (mkF m pc' L (.int u :: S)) := by
  subst hp hu; exact r.pure fun T locs X eT t z => XS.ior X.here r.1.1 rfl (hb r.1.2.1 hd) rfl z
theorem Rch.ixor {a : Int32} {b : Int32} {u : Int32} (r : Rch p l e R s m args below meth c Z y bc ml rt n0 T0 g0 k n h (mkF m pc L (.int b :: .int a :: S))) (hd : decode bc pc = .ok (.ixor, 1)) (hu : a ^^^ b = u) (hp : pc + 1 = pc') : Rch p l e R s m args below meth c Z y bc ml rt n0 T0 g0 k n h (mkF m pc' L (.int u :: S)) := by
  subst hp hu; exact r.pure fun T locs X eT t z => XS.ixor X.here r.1.1 rfl (hb r.1.2.1 hd) rfl z
theorem Rch.ladd {a : Int64} {b : Int64} {u : Int64} (r : Rch p l e R s m args below meth c Z y bc ml rt n0 T0 g0 k n h (mkF m pc L (.long b :: .long a :: S))) (hd : decode bc pc = .ok (.ladd, 1)) (hu : a + b = u) (hp : pc + 1 = pc') : Rch p l e R s m args below meth c Z y bc ml rt n0 T0 g0 k n h (mkF m pc' L (.long u :: S)) := by
  subst hp hu; exact r.pure fun T locs X eT t z => XS.ladd X.here r.1.1 rfl (hb r.1.2.1 hd) rfl z
theorem Rch.lsub {a : Int64} {b : Int64} {u : Int64} (r : Rch p l e R s m args below meth c Z y bc ml rt n0 T0 g0 k n h (mkF m pc L (.long b :: .long a :: S))) (hd : decode bc pc = .ok (.lsub, 1)) (hu : a - b = u) (hp : pc + 1 = pc') : Rch p l e R s m args below meth c Z y bc ml rt n0 T0 g0 k n h (mkF m pc' L (.long u :: S)) := by
  subst hp hu; exact r.pure fun T locs X eT t z => XS.lsub X.here r.1.1 rfl (hb r.1.2.1 hd) rfl z
theorem Rch.lmul {a : Int64} {b : Int64} {u : Int64} (r : Rch p l e R s m args below meth c Z y bc ml rt n0 T0 g0 k n h (mkF m pc L (.long b :: .long a :: S))) (hd : decode bc pc = .ok (.lmul, 1)) (hu : a * b = u) (hp : pc + 1 = pc') : Rch p l e R s m args below meth c Z y bc ml rt n0 T0 g0 k n h (mkF m pc' L (.long u :: S)) := by
  subst hp hu; exact r.pure fun T locs X eT t z => XS.lmul X.here r.1.1 rfl (hb r.1.2.1 hd) rfl z
theorem Rch.land {a : Int64} {b : Int64} {u : Int64} (r : Rch p l e R s m args below meth c Z y bc ml rt n0 T0 g0 k n h (mkF m pc L (.long b :: .long a :: S))) (hd : decode bc pc = .ok (.land, 1)) (hu : a &&& b = u) (hp : pc + 1 = pc') : Rch p l e R s m args below meth c Z y bc ml rt n0 T0 g0 k n h (mkF m pc' L (.long u :: S)) := by
  subst hp hu; exact r.pure fun T locs X eT t z => XS.land X.here r.1.1 rfl (hb r.1.2.1 hd) rfl z
theorem Rch.lor {a : Int64} {b : Int64} {u : Int64} (r : Rch p l e R s m args below meth c Z y bc ml rt n0 T0 g0 k n h (mkF m pc L (.long b :: .long a :: S))) (hd : decode bc pc = .ok (.lor, 1)) (hu : a ||| b = u) (hp : pc + 1 = pc') : Rch p l e R s m args below meth c Z y bc ml rt n0 T0 g0 k n h (mkF m pc' L (.long u :: S)) := by
  subst hp hu; exact r.pure fun T locs X eT t z => XS.lor X.here r.1.1 rfl (hb r.1.2.1 hd) rfl z
theorem Rch.lxor {a : Int64} {b : Int64} {u : Int64} (r : Rch p l e R s m args below meth c Z y bc ml rt n0 T0 g0 k n h (mkF m pc L (.long b :: .long a :: S))) (hd : decode bc pc = .ok (.lxor, 1)) (hu : a ^^^ b = u) (hp : pc + 1 = pc') : Rch p l e R s m args below meth c Z y bc ml rt n0 T0 g0 k n h (mkF m pc' L (.long u :: S)) := by
  subst hp hu; exact r.pure fun T locs X eT t z => XS.lxor X.here r.1.1 rfl (hb r.1.2.1 hd) rfl z
theorem Rch.ishl {a : Int32} {b : Int32} {u : Int32} (r : Rch p l e R s m args below meth c Z y bc ml rt n0 T0 g0 k n h (mkF m pc L (.int b :: .int a :: S))) (hd : decode bc pc = .ok (.ishl, 1)) (hu : a <<< (b &&& 31) = u) (hp : pc + 1 = pc') : Rch p l e R s m args below meth c Z y bc ml rt n0 T0 g0 k n h (mkF m pc' L (.int u :: S)) := by
  subst hp hu; exact r.pure fun T locs X eT t z => XS.ishl X.here r.1.1 rfl (hb r.1.2.1 hd) rfl z
theorem Rch.ishr {a : Int32} {b : Int32} {u : Int32} (r : Rch p l e R s m args below meth c Z y bc ml rt n0 T0 g0 k n h (mkF m pc L (.int b :: .int a :: S))) (hd : decode bc pc = .ok (.ishr, 1)) (hu : a >>> (b &&& 31) = u) (hp : pc + 1 = pc') : Rch p l e R s m args below meth c Z y bc ml rt n0 T0 g0 k n h (mkF m pc' L (.int u :: S)) := by
  subst hp hu; exact r.pure fun T locs X eT t z => XS.ishr X.here r.1.1 rfl (hb r.1.2.1 hd) rfl z
theorem Rch.iushr {a : Int32} {b : Int32} {u : Int32} (r : Rch p l e R s m args below meth c Z y bc ml rt n0 T0 g0 k n h (mkF m pc L (.int b :: .int a :: S))) (hd : decode bc pc = .ok (.iushr, 1)) (hu : (a.toUInt32 >>> (b &&& 31).toUInt32).toInt32 = u) (hp : pc + 1 = pc') : Rch p l e R s m args below meth c Z y bc ml rt n0 T0 g0 k n h (mkF m pc' L (.int u :: S)) := by
  subst hp hu; exact r.pure fun T locs X eT t z => XS.iushr X.here r.1.1 rfl (hb r.1.2.1 hd) rfl z
theorem Rch.lcmp {a : Int64} {b : Int64} {u : Int32} (r : Rch p l e R s m args below meth c Z y bc ml rt n0 T0 g0 k n h (mkF m pc L (.long b :: .long a :: S))) (hd : decode bc pc = .ok (.lcmp, 1)) (hu : lcmpW a b = u) (hp : pc + 1 = pc') : Rch p l e R s m args below meth c Z y bc ml rt n0 T0 g0 k n h (mkF m pc' L (.int u :: S)) := by
  subst hp hu; exact r.pure fun T locs X eT t z => XS.lcmp X.here r.1.1 rfl (hb r.1.2.1 hd) rfl z
theorem Rch.idiv {a : Int32} {b : Int32} {u : Int32} (r : Rch p l e R s m args below meth c Z y bc ml rt n0 T0 g0 k n h (mkF m pc L (.int b :: .int a :: S))) (hd : decode bc pc = .ok (.idiv, 1)) (h0 : b ≠ 0) (hu : a / b = u) (hp : pc + 1 = pc') : Rch p l e R s m args below meth c Z y bc ml rt n0 T0 g0 k n h (mkF m pc' L (.int u :: S)) := by
  subst hp hu; exact r.pure fun T locs X eT t z => XS.idiv X.here r.1.1 rfl (hb r.1.2.1 hd) rfl h0 z
theorem Rch.irem {a : Int32} {b : Int32} {u : Int32} (r : Rch p l e R s m args below meth c Z y bc ml rt n0 T0 g0 k n h (mkF m pc L (.int b :: .int a :: S))) (hd : decode bc pc = .ok (.irem, 1)) (h0 : b ≠ 0) (hu : a % b = u) (hp : pc + 1 = pc') : Rch p l e R s m args below meth c Z y bc ml rt n0 T0 g0 k n h (mkF m pc' L (.int u :: S)) := by
  subst hp hu; exact r.pure fun T locs X eT t z => iremM X r.1.1 rfl (hb r.1.2.1 hd) rfl h0 z
theorem Rch.ineg {a : Int32} {u : Int32} (r : Rch p l e R s m args below meth c Z y bc ml rt n0 T0 g0 k n h (mkF m pc L (.int a :: S))) (hd : decode bc pc = .ok (.ineg, 1)) (hu : -a = u) (hp : pc + 1 = pc') : Rch p l e R s m args below meth c Z y bc ml rt n0 T0 g0 k n h (mkF m pc' L (.int u :: S)) := by
  subst hp hu; exact r.pure fun T locs X eT t z => XS.ineg X.here r.1.1 rfl (hb r.1.2.1 hd) rfl z
theorem Rch.lneg {a : Int64} {u : Int64} (r : Rch p l e R s m args below meth c Z y bc ml rt n0 T0 g0 k n h (mkF m pc L (.long a :: S))) (hd : decode bc pc = .ok (.lneg, 1)) (hu : -a = u) (hp : pc + 1 = pc') : Rch p l e R s m args below meth c Z y bc ml rt n0 T0 g0 k n h (mkF m pc' L (.long u :: S)) := by
  subst hp hu; exact r.pure fun T locs X eT t z => XS.lneg X.here r.1.1 rfl (hb r.1.2.1 hd) rfl z
theorem Rch.i2l {a : Int32} {u : Int64} (r : Rch p l e R s m args below meth c Z y bc ml rt n0 T0 g0 k n h (mkF m pc L (.int a :: S))) (hd : decode bc pc = .ok (.i2l, 1)) (hu : a.toInt64 = u) (hp : pc + 1 = pc') : Rch p l e R s m args below meth c Z y bc ml rt n0 T0 g0 k n h (mkF m pc' L (.long u :: S)) := by
  subst hp hu; exact r.pure fun T locs X eT t z => XS.i2l X.here r.1.1 rfl (hb r.1.2.1 hd) rfl z
theorem Rch.l2i {a : Int64} {u : Int32} (r : Rch p l e R s m args below meth c Z y bc ml rt n0 T0 g0 k n h (mkF m pc L (.long a :: S))) (hd : decode bc pc = .ok (.l2i, 1)) (hu : a.toInt32 = u) (hp : pc + 1 = pc') : Rch p l e R s m args below meth c Z y bc ml rt n0 T0 g0 k n h (mkF m pc' L (.int u :: S)) := by
  subst hp hu; exact r.pure fun T locs X eT t z => XS.l2i X.here r.1.1 rfl (hb r.1.2.1 hd) rfl z
theorem Rch.i2b {a : Int32} {u : Int32} (r : Rch p l e R s m args below meth c Z y bc ml rt n0 T0 g0 k n h (mkF m pc L (.int a :: S))) (hd : decode bc pc = .ok (.i2b, 1)) (hu : a.toInt8.toInt32 = u) (hp : pc + 1 = pc') : Rch p l e R s m args below meth c Z y bc ml rt n0 T0 g0 k n h (mkF m pc' L (.int u :: S)) := by
  subst hp hu; exact r.pure fun T locs X eT t z => XS.i2b X.here r.1.1 rfl (hb r.1.2.1 hd) rfl z
theorem Rch.i2s {a : Int32} {u : Int32} (r : Rch p l e R s m args below meth c Z y bc ml rt n0 T0 g0 k n h (mkF m pc L (.int a :: S))) (hd : decode bc pc = .ok (.i2s, 1)) (hu : a.toInt16.toInt32 = u) (hp : pc + 1 = pc') : Rch p l e R s m args below meth c Z y bc ml rt n0 T0 g0 k n h (mkF m pc' L (.int u :: S)) := by
  subst hp hu; exact r.pure fun T locs X eT t z => XS.i2s X.here r.1.1 rfl (hb r.1.2.1 hd) rfl z
theorem Rch.i2c {a : Int32} {u : Int32} (r : Rch p l e R s m args below meth c Z y bc ml rt n0 T0 g0 k n h (mkF m pc L (.int a :: S))) (hd : decode bc pc = .ok (.i2c, 1)) (hu : a.toUInt32.toUInt16.toUInt32.toInt32 = u) (hp : pc + 1 = pc') : Rch p l e R s m args below meth c Z y bc ml rt n0 T0 g0 k n h (mkF m pc' L (.int u :: S)) := by
  subst hp hu; exact r.pure fun T locs X eT t z => XS.i2c X.here r.1.1 rfl (hb r.1.2.1 hd) rfl z
theorem Rch.lshl {a : Int64} {b : Int32} {u : Int64} (r : Rch p l e R s m args below meth c Z y bc ml rt n0 T0 g0 k n h (mkF m pc L (.int b :: .long a :: S))) (hd : decode bc pc = .ok (.lshl, 1)) (hu : a <<< (b &&& 0x3f).toInt64 = u) (hp : pc + 1 = pc') : Rch p l e R s m args below meth c Z y bc ml rt n0 T0 g0 k n h (mkF m pc' L (.long u :: S)) := by
  subst hp hu; exact r.pure fun T locs X eT t z => XS.lshl X.here r.1.1 rfl (hb r.1.2.1 hd) rfl z
theorem Rch.lshr {a : Int64} {b : Int32} {u : Int64} (r : Rch p l e R s m args below meth c Z y bc ml rt n0 T0 g0 k n h (mkF m pc L (.int b :: .long a :: S))) (hd : decode bc pc = .ok (.lshr, 1)) (hu : a >>> (b &&& 0x3f).toInt64 = u) (hp : pc + 1 = pc') : Rch p l e R s m args below meth c Z y bc ml rt n0 T0 g0 k n h (mkF m pc' L (.long u :: S)) := by
  subst hp hu; exact r.pure fun T locs X eT t z => XS.lshr X.here r.1.1 rfl (hb r.1.2.1 hd) rfl z
theorem Rch.lushr {a : Int64} {b : Int32} {u : Int64} (r : Rch p l e R s m args below meth c Z y bc ml rt n0 T0 g0 k n h (mkF m pc L (.int b :: .long a :: S))) (hd : decode bc pc = .ok (.lushr, 1)) (hu : (a.toUInt64 >>> (b &&& 0x3f).toInt64.toUInt64).toInt64 = u) (hp : pc + 1 = pc') : Rch p l e R s m args below meth c Z y bc ml rt n0 T0 g0 k n h (mkF m pc' L (.long u :: S)) := by
  subst hp hu; exact r.pure fun T locs X eT t z => XS.lushr X.here r.1.1 rfl (hb r.1.2.1 hd) rfl z
theorem Rch.dup {v : Value} (r : Rch p l e R s m args below meth c Z y bc ml rt n0 T0 g0 k n h (mkF m pc L (v :: S))) (hd : decode bc pc = .ok (.dup, 1)) (hv : v.category = 1) (hp : pc + 1 = pc') : Rch p l e R s m args below meth c Z y bc ml rt n0 T0 g0 k n h (mkF m pc' L (v :: v :: S)) := by
  subst hp; exact r.pure fun T locs X eT t z => XS.dup X.here r.1.1 rfl (hb r.1.2.1 hd) rfl hv z
theorem Rch.dupx1 {v w : Value} (r : Rch p l e R s m args below meth c Z y bc ml rt n0 T0 g0 k n h (mkF m pc L (v :: w :: S))) (hd : decode bc pc = .ok (.dup_x1, 1)) (hv : v.category = 1) (hw : w.category = 1) (hp : pc + 1 = pc') : Rch p l e R s m args below meth c Z y bc ml rt n0 T0 g0 k n h (mkF m pc' L (v :: w :: v :: S)) := by
  subst hp; exact r.pure fun T locs X eT t z => XS.dupX1 X.here r.1.1 rfl (hb r.1.2.1 hd) rfl hv hw z
theorem Rch.dup2 {v w : Value} (r : Rch p l e R s m args below meth c Z y bc ml rt n0 T0 g0 k n h (mkF m pc L (v :: w :: S))) (hd : decode bc pc = .ok (.dup2, 1)) (hv : v.category = 1) (hw : w.category = 1) (hp : pc + 1 = pc') : Rch p l e R s m args below meth c Z y bc ml rt n0 T0 g0 k n h (mkF m pc' L (v :: w :: v :: w :: S)) := by
  subst hp
  refine r.pure fun T locs X eT t z => ?_
  have hx := r.1.1
  have hd' := hb r.1.2.1 hd
  jvm_step X.here [X.here.top, hx, hd', hv, hw]
  exact z
theorem Rch.dupx2 {v w u : Value} (r : Rch p l e R s m args below meth c Z y bc ml rt n0 T0 g0 k n h (mkF m pc L (v :: w :: u :: S))) (hd : decode bc pc = .ok (.dup_x2, 1)) (hv : v.category = 1) (hw : w.category = 1) (hu : u.category = 1) (hp : pc + 1 = pc') : Rch p l e R s m args below meth c Z y bc ml rt n0 T0 g0 k n h (mkF m pc' L (v :: w :: u :: v :: S)) := by
  subst hp
  refine r.pure fun T locs X eT t z => ?_
  have hx := r.1.1
  have hd' := hb r.1.2.1 hd
  jvm_step X.here [X.here.top, hx, hd', hv, hw, hu]
  exact z
theorem Rch.pop {v : Value} (r : Rch p l e R s m args below meth c Z y bc ml rt n0 T0 g0 k n h (mkF m pc L (v :: S))) (hd : decode bc pc = .ok (.pop, 1)) (hv : v.category = 1) (hp : pc + 1 = pc') : Rch p l e R s m args below meth c Z y bc ml rt n0 T0 g0 k n h (mkF m pc' L S) := by
  subst hp; exact r.pure fun T locs X eT t z => XS.pop X.here r.1.1 rfl (hb r.1.2.1 hd) rfl hv z
-- branches
theorem Rch.goto {o : Int} (r : Rch p l e R s m args below meth c Z y bc ml rt n0 T0 g0 k n h (mkF m pc L S)) (hd : decode bc pc = .ok (.goto o, 3)) (ho : 0 ≤ (pc : Int) + o) (hp : ((pc : Int) + o).toNat = pc') : Rch p l e R s m args below meth c Z y bc ml rt n0 T0 g0 k n h (mkF m pc' L S) :=
  r.pure fun T locs X eT t z => XS.goto X.here r.1.1 rfl (pc0 := pc) rfl (hb r.1.2.1 hd) ho hp z
theorem Rch.icT {cd : ClassFile.Cond} {x w : Int32} {o : Int} (r : Rch p l e R s m args below meth c Z y bc ml rt n0 T0 g0 k n h (mkF m pc L (.int w :: .int x :: S))) (hd : decode bc pc = .ok (.if_icmp cd o, 3)) (hc : if_icmp.holds cd x w = true) (ho : 0 ≤ (pc : Int) + o) (hp : ((pc : Int) + o).toNat = pc') : Rch p l e R s m args below meth c Z y bc ml rt n0 T0 g0 k n h (mkF m pc' L S) :=
  r.pure fun T locs X eT t z => XS.icmpYes X.here r.1.1 rfl (pc0 := pc) rfl (hb r.1.2.1 hd) rfl hc ho hp z
theorem Rch.icF {cd : ClassFile.Cond} {x w : Int32} {o : Int} (r : Rch p l e R s m args below meth c Z y bc ml rt n0 T0 g0 k n h (mkF m pc L (.int w :: .int x :: S))) (hd : decode bc pc = .ok (.if_icmp cd o, 3)) (hc : if_icmp.holds cd x w = false) (hp : pc + 3 = pc') : Rch p l e R s m args below meth c Z y bc ml rt n0 T0 g0 k n h (mkF m pc' L S) := by
  subst hp; exact r.pure fun T locs X eT t z => XS.icmpNo X.here r.1.1 rfl (hb r.1.2.1 hd) rfl hc z
theorem Rch.ifT {cd : ClassFile.Cond} {x : Int32} {o : Int} (r : Rch p l e R s m args below meth c Z y bc ml rt n0 T0 g0 k n h (mkF m pc L (.int x :: S))) (hd : decode bc pc = .ok (.ifCond cd o, 3)) (hc : if_icmp.holds cd x 0 = true) (ho : 0 ≤ (pc : Int) + o) (hp : ((pc : Int) + o).toNat = pc') : Rch p l e R s m args below meth c Z y bc ml rt n0 T0 g0 k n h (mkF m pc' L S) :=
  r.pure fun T locs X eT t z => XS.ifYes X.here r.1.1 rfl (pc0 := pc) rfl (hb r.1.2.1 hd) rfl ((if0 _ _).trans hc) ho hp z
theorem Rch.ifF {cd : ClassFile.Cond} {x : Int32} {o : Int} (r : Rch p l e R s m args below meth c Z y bc ml rt n0 T0 g0 k n h (mkF m pc L (.int x :: S))) (hd : decode bc pc = .ok (.ifCond cd o, 3)) (hc : if_icmp.holds cd x 0 = false) (hp : pc + 3 = pc') : Rch p l e R s m args below meth c Z y bc ml rt n0 T0 g0 k n h (mkF m pc' L S) := by
  subst hp; exact r.pure fun T locs X eT t z => XS.ifNo X.here r.1.1 rfl (hb r.1.2.1 hd) rfl ((if0 _ _).trans hc) z
theorem Rch.acmp {cd : ACond} {v w : Value} {o : Int} {same : Bool} (r : Rch p l e R s m args below meth c Z y bc ml rt n0 T0 g0 k n h (mkF m pc L (w :: v :: S))) (hd : decode bc pc = .ok (.if_acmp cd o, 3)) (hv : v.isRef = true) (hw : w.isRef = true) (hq : decide (v = w) = same) (ho : 0 ≤ (pc : Int) + o) (hp : pc' = if acV cd same = true then ((pc : Int) + o).toNat else pc + 3) : Rch p l e R s m args below meth c Z y bc ml rt n0 T0 g0 k n h (mkF m pc' L S) :=
  r.pure fun T locs X eT t z => Jvm.RoadKit.acmp X r.1.1 rfl hv hw (pc0 := pc) rfl (hb r.1.2.1 hd) rfl hq ho hp z
theorem Rch.nullT {o : Int} (r : Rch p l e R s m args below meth c Z y bc ml rt n0 T0 g0 k n h (mkF m pc L (.null :: S))) (hd : decode bc pc = .ok (.ifnull o, 3)) (ho : 0 ≤ (pc : Int) + o) (hp : ((pc : Int) + o).toNat = pc') : Rch p l e R s m args below meth c Z y bc ml rt n0 T0 g0 k n h (mkF m pc' L S) :=
  r.pure fun T locs X eT t z => XS.ifnullYes X.here r.1.1 rfl (pc0 := pc) rfl (hb r.1.2.1 hd) rfl ho hp z
theorem Rch.nullF {a : Addr} {o : Int} (r : Rch p l e R s m args below meth c Z y bc ml rt n0 T0 g0 k n h (mkF m pc L (.ref a :: S))) (hd : decode bc pc = .ok (.ifnull o, 3)) (hp : pc + 3 = pc') : Rch p l e R s m args below meth c Z y bc ml rt n0 T0 g0 k n h (mkF m pc' L S) := by
  subst hp; exact r.pure fun T locs X eT t z => XS.ifnullNo X.here r.1.1 rfl (hb r.1.2.1 hd) rfl z
theorem Rch.nnT {a : Addr} {o : Int} (r : Rch p l e R s m args below meth c Z y bc ml rt n0 T0 g0 k n h (mkF m pc L (.ref a :: S))) (hd : decode bc pc = .ok (.ifnonnull o, 3)) (ho : 0 ≤ (pc : Int) + o) (hp : ((pc : Int) + o).toNat = pc') : Rch p l e R s m args below meth c Z y bc ml rt n0 T0 g0 k n h (mkF m pc' L S) :=
  r.pure fun T locs X eT t z => XS.ifnonnullYes X.here r.1.1 rfl (pc0 := pc) rfl (hb r.1.2.1 hd) rfl ho hp z
theorem Rch.nnF {o : Int} (r : Rch p l e R s m args below meth c Z y bc ml rt n0 T0 g0 k n h (mkF m pc L (.null :: S))) (hd : decode bc pc = .ok (.ifnonnull o, 3)) (hp : pc + 3 = pc') : Rch p l e R s m args below meth c Z y bc ml rt n0 T0 g0 k n h (mkF m pc' L S) := by
  subst hp; exact r.pure fun T locs X eT t z => XS.ifnonnullNo X.here r.1.1 rfl (hb r.1.2.1 hd) rfl z
-- fields
theorem Rch.getF {R0 O nm d host : String} {idx : Nat} {a : Addr} {v : Value} (r : Rch p l e R s m args below meth c Z y bc ml rt n0 T0 g0 k n h (mkF m pc L (.ref a :: S))) (hd : decode bc pc = .ok (.getfield idx, 3)) (w : (Jvm.Cond.fieldLink y.cls idx R0 nm d).before a0 Z = true ∨ (Jvm.Cond.fieldLinkNest y.cls idx R0 nm d host).before a0 Z = true) (via : Via Z R0 O nm d) (F : Fld Z h a O nm d v) (hp : pc + 3 = pc') :
    Rch p l e R s m args below meth c Z y bc ml rt n0 T0 g0 k n h (mkF m pc' L (v :: S)) := by
  subst hp; exact r.keep fun T locs X eT => getF X r.1.1 r.1.2.2.2.2.1 r.1.2.2.2.1 w via eT F (g := mkF m pc L (.ref a :: S)) rfl rfl (hb r.1.2.1 hd)
theorem Rch.getS {R0 O nm d host : String} {idx : Nat} {v : Value} (r : Rch p l e R s m args below meth c Z y bc ml rt n0 T0 g0 k n h (mkF m pc L S)) (hd : decode bc pc = .ok (.getstatic idx, 3)) (w : (Jvm.Cond.fieldLink y.cls idx R0 nm d).before a0 Z = true ∨ (Jvm.Cond.fieldLinkNest y.cls idx R0 nm d host).before a0 Z = true) (via : Via Z R0 O nm d) (F : Sta Z h O nm d v) (hp : pc + 3 = pc') :
    Rch p l e R s m args below meth c Z y bc ml rt n0 T0 g0 k n h (mkF m pc' L (v :: S)) := by
  subst hp; exact r.keep fun T locs X eT => getS2 X r.1.1 r.1.2.2.2.2.1 r.1.2.2.2.1 w via eT F (g := mkF m pc L S) rfl (hb r.1.2.1 hd)
theorem Rch.putF {R0 O nm d host C : String} {idx kk : Nat} {ty : FieldType} {a : Addr} {v old : Value} (r : Rch p l e R s m args below meth c Z y bc ml rt n0 T0 g0 k n h (mkF m pc L (v :: .ref a :: S))) (hd : decode bc pc = .ok (.putfield idx, 3)) (w : (Jvm.Cond.fieldLink y.cls idx R0 nm d).before a0 Z = true ∨ (Jvm.Cond.fieldLinkNest y.cls idx R0 nm d host).before a0 Z = true) (via : Via Z R0 O nm d) (F : Fld Z h a O nm d old) (E : Exa Z h a C)
    (lw : (Jvm.Cond.lays C O nm d).before a0 Z = true ∨ ((Jvm.Cond.laysFinal C O nm d).before a0 Z = true ∧ y.cls = O ∧ y.name = "<init>")) (wi : (Jvm.Cond.instantiable C kk).before a0 Z = true) (hty : parseFieldDescriptor d = some ty) (hn : narrow ty v = v) (hf : fits ty v = true) (hN : n0 ≤ a) (hp : pc + 3 = pc') :
    ∃ h', Wr h h' a (Jvm.RoadKit.slotOf Z O nm d) v ∧ Rch p l e R s m args below meth c Z y bc ml rt n0 T0 g0 k n h' (mkF m pc' L S) := by
  subst hp
  obtain ⟨q, T, locs, X, eT, N, st⟩ := r
  obtain ⟨T', h', X', e', W, st'⟩ := putF X q.1 q.2.2.2.2.1 q.2.2.2.1 w via eT F E (lw.imp id fun z => ⟨z.1, z.2.1, q.2.2.2.2.2.2.2.trans z.2.2⟩) wi hty hn hf (g := mkF m pc L (v :: .ref a :: S)) rfl rfl (hb q.2.1 hd)
  exact ⟨h', W, q, T', _, X', e', Fr.snoc X' N hN, fun t z => st t (st' t z)⟩
theorem Rch.putFN {R0 O nm d C : String} {idx kk : Nat} {ty : FieldType} {a : Addr} {v v' old : Value} (r : Rch p l e R s m args below meth c Z y bc ml rt n0 T0 g0 k n h (mkF m pc L (v :: .ref a :: S))) (hd : decode bc pc = .ok (.putfield idx, 3)) (w : (Jvm.Cond.fieldLink y.cls idx R0 nm d).before a0 Z = true) (via : Via Z R0 O nm d) (F : Fld Z h a O nm d old) (E : Exa Z h a C)
    (lw : (Jvm.Cond.lays C O nm d).before a0 Z = true ∨ ((Jvm.Cond.laysFinal C O nm d).before a0 Z = true ∧ y.cls = O ∧ y.name = "<init>")) (wi : (Jvm.Cond.instantiable C kk).before a0 Z = true) (hty : parseFieldDescriptor d = some ty) (hn : narrow ty v = v') (hf : fits ty v' = true) (hN : n0 ≤ a) (hp : pc + 3 = pc') :
    ∃ h', Wr h h' a (Jvm.RoadKit.slotOf Z O nm d) v' ∧ Rch p l e R s m args below meth c Z y bc ml rt n0 T0 g0 k n h' (mkF m pc' L S) := by
  subst hp
  obtain ⟨q, T, locs, X, eT, N, st⟩ := r
  obtain ⟨T', h', X', e', W, st'⟩ := putFN X q.1 q.2.2.2.2.1 q.2.2.2.1 w via eT F E (lw.imp id fun z => ⟨z.1, z.2.1, q.2.2.2.2.2.2.2.trans z.2.2⟩) wi hty hn hf (g := mkF m pc L (v :: .ref a :: S)) rfl rfl (hb q.2.1 hd)
  exact ⟨h', W, q, T', _, X', e', Fr.snoc X' N hN, fun t z => st t (st' t z)⟩
-- objects and arrays
theorem Rch.newO {C : String} {idx i : Nat} (r : Rch p l e R s m args below meth c Z y bc ml rt n0 T0 g0 k n h (mkF m pc L S)) (hd : decode bc pc = .ok (.new idx, 3)) (w : (Jvm.Cond.classLink y.cls idx C).before a0 Z = true) (wi : (Jvm.Cond.instantiable C i).before a0 Z = true) (wz : (Jvm.Cond.initialized C).before a0 Z = true) {k' n' : Nat} (hk : k + 1 = k') (hn' : n + i = n') (hc : k' ≤ R.cells) (hl : n' ≤ R.slots) (hp : pc + 3 = pc') :
    ∃ h' a, a = h.size ∧ Ext h h' ∧ Exa Z h' a C ∧ (∀ {O nm d : String} {ty : FieldType}, Laid Z a0 C O nm d → parseFieldDescriptor d = some ty → Fld Z h' a O nm d (defaultValue ty)) ∧ Rch p l e R s m args below meth c Z y bc ml rt n0 T0 g0 k' n' h' (mkF m pc' L (.ref a :: S)) := by
  subst hp hk hn'
  obtain ⟨q, T, locs, X, eT, N, st⟩ := r
  obtain ⟨T', h', X', e', E, A, D, -, st'⟩ := newO X q.1 q.2.2.2.2.1 q.2.2.2.1 w wi wz eT (g := mkF m pc L S) rfl (hb q.2.1 hd) hc hl
  exact ⟨h', h.size, rfl, E, A, D, q, T', locs, X', e', N, fun t z => st t (st' t z)⟩
theorem Rch.newP {aty : ArrayType} {i : Int32} (r : Rch p l e R s m args below meth c Z y bc ml rt n0 T0 g0 k n h (mkF m pc L (.int i :: S))) (hd : decode bc pc = .ok (.newarray aty, 2)) (w : (Jvm.Cond.arrayClass (newarray.typeOf aty)).before a0 Z = true) (hn : ¬ i < 0) {cap : Nat} (hcap : i.toNatClampNeg ≤ cap) (hbg : cap * 8 ≤ 536870912) {k' n' : Nat} (hk : k + 1 = k') (hn' : n + cap = n') (hc : k' ≤ R.cells) (hl : n' ≤ R.slots) (hp : pc + 2 = pc') :
    ∃ h' a cA, a = h.size ∧ Ext h h' ∧ Arv Z h' a cA (newarray.typeOf aty) i [] (defaultValue (newarray.typeOf aty)) ∧ Rch p l e R s m args below meth c Z y bc ml rt n0 T0 g0 k' n' h' (mkF m pc' L (.ref a :: S)) := by
  subst hp hk hn'
  obtain ⟨q, T, locs, X, eT, N, st⟩ := r
  obtain ⟨T', h', cA, X', e', E, A, st'⟩ := newP X q.1 q.2.2.2.2.1 w eT (g := mkF m pc L (.int i :: S)) rfl (hb q.2.1 hd) rfl hn hcap hbg hc hl
  exact ⟨h', h.size, cA, rfl, E, Arv.new A hn, q, T', locs, X', e', N, fun t z => st t (st' t z)⟩
theorem Rch.newR {C : String} {idx : Nat} {i : Int32} (r : Rch p l e R s m args below meth c Z y bc ml rt n0 T0 g0 k n h (mkF m pc L (.int i :: S))) (hd : decode bc pc = .ok (.anewarray idx, 3)) (w1 : (Jvm.Cond.classLink y.cls idx C).before a0 Z = true) (w2 : (Jvm.Cond.arrayOver (.object C)).before a0 Z = true) (hn : ¬ i < 0) {cap : Nat} (hcap : i.toNatClampNeg ≤ cap) (hbg : cap * 8 ≤ 536870912) {k' n' : Nat} (hk : k + 1 = k') (hn' : n + cap = n') (hc : k' ≤ R.cells) (hl : n' ≤ R.slots) (hp : pc + 3 = pc') :
    ∃ h' a cA, a = h.size ∧ Ext h h' ∧ Ovr Z cA C ∧ Arv Z h' a cA (.object C) i [] .null ∧ Rch p l e R s m args below meth c Z y bc ml rt n0 T0 g0 k' n' h' (mkF m pc' L (.ref a :: S)) := by
  subst hp hk hn'
  obtain ⟨q, T, locs, X, eT, N, st⟩ := r
  obtain ⟨T', h', cA, X', e', E, A, O, st'⟩ := newR X q.1 q.2.2.2.2.1 q.2.2.2.1 w1 w2 eT (g := mkF m pc L (.int i :: S)) rfl (hb q.2.1 hd) rfl hn hcap hbg hc hl
  exact ⟨h', h.size, cA, rfl, E, O, Arv.new A hn, q, T', locs, X', e', N, fun t z => st t (st' t z)⟩
theorem inbI {c : Cell} {z j : Int32} (S : c.slots.size = z.toNatClampNeg) (h1 : ¬ j < 0) (h2 : j < z) : ¬ (j < 0 ∨ c.slots.size ≤ j.toNatClampNeg) := inb_of S ⟨h1, h2⟩
theorem Rch.stI {a : Addr} {kc : ClassId} {z j : Int32} {x : Int32} {vs : List Value} {dv : Value} (r : Rch p l e R s m args below meth c Z y bc ml rt n0 T0 g0 k n h (mkF m pc L (.int x :: .int j :: .ref a :: S))) (hd : decode bc pc = .ok (.iastore, 1)) (V : Arv Z h a kc .int z vs dv) (h1 : ¬ j < 0) (h2 : j < z) (h3 : j.toNatClampNeg < vs.length) (hN : n0 ≤ a) (hp : pc + 1 = pc') :
    ∃ h', Wr h h' a j.toNatClampNeg (.int x) ∧ Arv Z h' a kc .int z (vs.set j.toNatClampNeg (.int x)) dv ∧ Rch p l e R s m args below meth c Z y bc ml rt n0 T0 g0 k n h' (mkF m pc' L S) := by
  subst hp
  obtain ⟨q, T, locs, X, eT, N, st⟩ := r
  obtain ⟨cl, A, q1, S1, q3, H, G⟩ := V
  obtain ⟨T', h', X', e', W, st'⟩ := stI X q.1 q.2.2.2.2.1 eT A (j := j) (inbI S1 h1 h2) (g := mkF m pc L (.int x :: .int j :: .ref a :: S)) rfl rfl (hb q.2.1 hd)
  exact ⟨h', W, Arv.set A q1 S1 q3 H G rfl W _ rfl h3, q, T', _, X', e', Fr.snoc X' N hN, fun t z => st t (st' t z)⟩
theorem Rch.stB {a : Addr} {kc : ClassId} {z j : Int32} {x : Int32} {vs : List Value} {dv : Value} (r : Rch p l e R s m args below meth c Z y bc ml rt n0 T0 g0 k n h (mkF m pc L (.int x :: .int j :: .ref a :: S))) (hd : decode bc pc = .ok (.bastore, 1)) (V : Arv Z h a kc .byte z vs dv) (h1 : ¬ j < 0) (h2 : j < z) (h3 : j.toNatClampNeg < vs.length) (hN : n0 ≤ a) (hp : pc + 1 = pc') :
    ∃ h', Wr h h' a j.toNatClampNeg (.int (nar .byte x)) ∧ Arv Z h' a kc .byte z (vs.set j.toNatClampNeg (.int (nar .byte x))) dv ∧ Rch p l e R s m args below meth c Z y bc ml rt n0 T0 g0 k n h' (mkF m pc' L S) := by
  subst hp
  obtain ⟨q, T, locs, X, eT, N, st⟩ := r
  obtain ⟨cl, A, q1, S1, q3, H, G⟩ := V
  obtain ⟨T', h', X', e', W, st'⟩ := stB X q.1 q.2.2.2.2.1 eT A (j := j) (inbI S1 h1 h2) (g := mkF m pc L (.int x :: .int j :: .ref a :: S)) rfl rfl (hb q.2.1 hd)
  exact ⟨h', W, Arv.set A q1 S1 q3 H G (fits_nar_byte _) W _ rfl h3, q, T', _, X', e', Fr.snoc X' N hN, fun t z => st t (st' t z)⟩
theorem Rch.stC {a : Addr} {kc : ClassId} {z j : Int32} {x : Int32} {vs : List Value} {dv : Value} (r : Rch p l e R s m args below meth c Z y bc ml rt n0 T0 g0 k n h (mkF m pc L (.int x :: .int j :: .ref a :: S))) (hd : decode bc pc = .ok (.castore, 1)) (V : Arv Z h a kc .char z vs dv) (h1 : ¬ j < 0) (h2 : j < z) (h3 : j.toNatClampNeg < vs.length) (hN : n0 ≤ a) (hp : pc + 1 = pc') :
    ∃ h', Wr h h' a j.toNatClampNeg (.int (nar .char x)) ∧ Arv Z h' a kc .char z (vs.set j.toNatClampNeg (.int (nar .char x))) dv ∧ Rch p l e R s m args below meth c Z y bc ml rt n0 T0 g0 k n h' (mkF m pc' L S) := by
  subst hp
  obtain ⟨q, T, locs, X, eT, N, st⟩ := r
  obtain ⟨cl, A, q1, S1, q3, H, G⟩ := V
  obtain ⟨T', h', X', e', W, st'⟩ := stC X q.1 q.2.2.2.2.1 eT A (j := j) (inbI S1 h1 h2) (g := mkF m pc L (.int x :: .int j :: .ref a :: S)) rfl rfl (hb q.2.1 hd)
  exact ⟨h', W, Arv.set A q1 S1 q3 H G (fits_nar_char _) W _ rfl h3, q, T', _, X', e', Fr.snoc X' N hN, fun t z => st t (st' t z)⟩
theorem Rch.stZ {a : Addr} {kc : ClassId} {z j : Int32} {x : Int32} {vs : List Value} {dv : Value} (r : Rch p l e R s m args below meth c Z y bc ml rt n0 T0 g0 k n h (mkF m pc L (.int x :: .int j :: .ref a :: S))) (hd : decode bc pc = .ok (.bastore, 1)) (V : Arv Z h a kc .boolean z vs dv) (h1 : ¬ j < 0) (h2 : j < z) (h3 : j.toNatClampNeg < vs.length) (hN : n0 ≤ a) (hp : pc + 1 = pc') :
    ∃ h', Wr h h' a j.toNatClampNeg (.int (nar .boolean x)) ∧ Arv Z h' a kc .boolean z (vs.set j.toNatClampNeg (.int (nar .boolean x))) dv ∧ Rch p l e R s m args below meth c Z y bc ml rt n0 T0 g0 k n h' (mkF m pc' L S) := by
  subst hp
  obtain ⟨q, T, locs, X, eT, N, st⟩ := r
  obtain ⟨cl, A, q1, S1, q3, H, G⟩ := V
  obtain ⟨T', h', X', e', W, st'⟩ := stZ X q.1 q.2.2.2.2.1 eT A (j := j) (inbI S1 h1 h2) (g := mkF m pc L (.int x :: .int j :: .ref a :: S)) rfl rfl (hb q.2.1 hd)
  exact ⟨h', W, Arv.set A q1 S1 q3 H G (fits_nar_bool _) W _ rfl h3, q, T', _, X', e', Fr.snoc X' N hN, fun t z => st t (st' t z)⟩
theorem Rch.stJ {a : Addr} {kc : ClassId} {z j : Int32} {x : Int64} {vs : List Value} {dv : Value} (r : Rch p l e R s m args below meth c Z y bc ml rt n0 T0 g0 k n h (mkF m pc L (.long x :: .int j :: .ref a :: S))) (hd : decode bc pc = .ok (.lastore, 1)) (V : Arv Z h a kc .long z vs dv) (h1 : ¬ j < 0) (h2 : j < z) (h3 : j.toNatClampNeg < vs.length) (hN : n0 ≤ a) (hp : pc + 1 = pc') :
    ∃ h', Wr h h' a j.toNatClampNeg (.long x) ∧ Arv Z h' a kc .long z (vs.set j.toNatClampNeg (.long x)) dv ∧ Rch p l e R s m args below meth c Z y bc ml rt n0 T0 g0 k n h' (mkF m pc' L S) := by
  subst hp
  obtain ⟨q, T, locs, X, eT, N, st⟩ := r
  obtain ⟨cl, A, q1, S1, q3, H, G⟩ := V
  obtain ⟨T', h', X', e', W, st'⟩ := stJ X q.1 q.2.2.2.2.1 eT A (j := j) (inbI S1 h1 h2) (g := mkF m pc L (.long x :: .int j :: .ref a :: S)) rfl rfl (hb q.2.1 hd)
  exact ⟨h', W, Arv.set A q1 S1 q3 H G rfl W _ rfl h3, q, T', _, X', e', Fr.snoc X' N hN, fun t z => st t (st' t z)⟩
theorem Rch.stR {C : String} {a : Addr} {kc : ClassId} {z j : Int32} {v : Value} {vs : List Value} {dv : Value} (r : Rch p l e R s m args below meth c Z y bc ml rt n0 T0 g0 k n h (mkF m pc L (v :: .int j :: .ref a :: S))) (hd : decode bc pc = .ok (.aastore, 1)) (V : Arv Z h a kc (.object C) z vs dv) (h1 : ¬ j < 0) (h2 : j < z) (h3 : j.toNatClampNeg < vs.length) (hs : Sto Z h a v) (hv : v.isRef = true) (hN : n0 ≤ a) (hp : pc + 1 = pc') :
    ∃ h', Wr h h' a j.toNatClampNeg v ∧ Arv Z h' a kc (.object C) z (vs.set j.toNatClampNeg v) dv ∧ Rch p l e R s m args below meth c Z y bc ml rt n0 T0 g0 k n h' (mkF m pc' L S) := by
  subst hp
  obtain ⟨q, T, locs, X, eT, N, st⟩ := r
  obtain ⟨cl, A, q1, S1, q3, H, G⟩ := V
  obtain ⟨T', h', X', e', W, st'⟩ := stR X q.1 q.2.2.2.2.1 eT A (j := j) (inbI S1 h1 h2) rfl hs (g := mkF m pc L (v :: .int j :: .ref a :: S)) rfl rfl (hb q.2.1 hd)
  have hf : fits (.object C) v = true := by cases v <;> first | rfl | (cases hv; done)
  exact ⟨h', W, Arv.set A q1 S1 q3 H G hf W _ rfl h3, q, T', _, X', e', Fr.snoc X' N hN, fun t z => st t (st' t z)⟩
theorem Rch.ldI {a : Addr} {kc : ClassId} {z j : Int32} {vs : List Value} {dv : Value} (v : Value) (r : Rch p l e R s m args below meth c Z y bc ml rt n0 T0 g0 k n h (mkF m pc L (.int j :: .ref a :: S))) (hd : decode bc pc = .ok (.iaload, 1)) (V : Arv Z h a kc .int z vs dv) (h1 : ¬ j < 0) (h2 : j < z) (hv : vs.getD j.toNatClampNeg dv = v) (hp : pc + 1 = pc') :
    Rch p l e R s m args below meth c Z y bc ml rt n0 T0 g0 k n h (mkF m pc' L (v :: S)) := by
  subst hp
  obtain ⟨cl, A, q1, S1, q3, H, G⟩ := V
  exact r.pure fun T locs X eT t w => X.iaload r.1.1 (j := j) (v := v) (by rw [eT]; exact A.1) (State.isArrayOf_alike r.1.2.2.2.2.1.alike A.2.1) A.2.2 (inbI S1 h1 h2) (Has.at H (inbI S1 h1 h2) hv) (g := mkF m pc L (.int j :: .ref a :: S)) rfl rfl (hb r.1.2.1 hd) _ w
theorem Rch.ldJ {a : Addr} {kc : ClassId} {z j : Int32} {vs : List Value} {dv : Value} (v : Value) (r : Rch p l e R s m args below meth c Z y bc ml rt n0 T0 g0 k n h (mkF m pc L (.int j :: .ref a :: S))) (hd : decode bc pc = .ok (.laload, 1)) (V : Arv Z h a kc .long z vs dv) (h1 : ¬ j < 0) (h2 : j < z) (hv : vs.getD j.toNatClampNeg dv = v) (hp : pc + 1 = pc') :
    Rch p l e R s m args below meth c Z y bc ml rt n0 T0 g0 k n h (mkF m pc' L (v :: S)) := by
  subst hp
  obtain ⟨cl, A, q1, S1, q3, H, G⟩ := V
  exact r.pure fun T locs X eT t w => X.laload r.1.1 (j := j) (v := v) (by rw [eT]; exact A.1) (State.isArrayOf_alike r.1.2.2.2.2.1.alike A.2.1) A.2.2 (inbI S1 h1 h2) (Has.at H (inbI S1 h1 h2) hv) (g := mkF m pc L (.int j :: .ref a :: S)) rfl rfl (hb r.1.2.1 hd) _ w
theorem Rch.ldB {a : Addr} {kc : ClassId} {z j : Int32} {vs : List Value} {dv : Value} (v : Value) (r : Rch p l e R s m args below meth c Z y bc ml rt n0 T0 g0 k n h (mkF m pc L (.int j :: .ref a :: S))) (hd : decode bc pc = .ok (.baload, 1)) (V : Arv Z h a kc .byte z vs dv) (h1 : ¬ j < 0) (h2 : j < z) (hv : vs.getD j.toNatClampNeg dv = v) (hp : pc + 1 = pc') :
    Rch p l e R s m args below meth c Z y bc ml rt n0 T0 g0 k n h (mkF m pc' L (v :: S)) := by
  subst hp
  obtain ⟨cl, A, q1, S1, q3, H, G⟩ := V
  exact r.pure fun T locs X eT t w => X.baloadBytes r.1.1 (j := j) (v := v) (by rw [eT]; exact A.1) (State.isArrayOf_alike r.1.2.2.2.2.1.alike A.2.1) A.2.2 (inbI S1 h1 h2) (Has.at H (inbI S1 h1 h2) hv) (g := mkF m pc L (.int j :: .ref a :: S)) rfl rfl (hb r.1.2.1 hd) _ w
theorem Rch.ldC {a : Addr} {kc : ClassId} {z j : Int32} {vs : List Value} {dv : Value} (v : Value) (r : Rch p l e R s m args below meth c Z y bc ml rt n0 T0 g0 k n h (mkF m pc L (.int j :: .ref a :: S))) (hd : decode bc pc = .ok (.caload, 1)) (V : Arv Z h a kc .char z vs dv) (h1 : ¬ j < 0) (h2 : j < z) (hv : vs.getD j.toNatClampNeg dv = v) (hp : pc + 1 = pc') :
    Rch p l e R s m args below meth c Z y bc ml rt n0 T0 g0 k n h (mkF m pc' L (v :: S)) := by
  subst hp
  obtain ⟨cl, A, q1, S1, q3, H, G⟩ := V
  exact r.pure fun T locs X eT t w => X.caload r.1.1 (j := j) (v := v) (by rw [eT]; exact A.1) (State.isArrayOf_alike r.1.2.2.2.2.1.alike A.2.1) A.2.2 (inbI S1 h1 h2) (Has.at H (inbI S1 h1 h2) hv) (g := mkF m pc L (.int j :: .ref a :: S)) rfl rfl (hb r.1.2.1 hd) _ w
theorem Rch.ldR {ty : FieldType} {a : Addr} {kc : ClassId} {z j : Int32} {vs : List Value} {dv : Value} (v : Value) (r : Rch p l e R s m args below meth c Z y bc ml rt n0 T0 g0 k n h (mkF m pc L (.int j :: .ref a :: S))) (hd : decode bc pc = .ok (.aaload, 1)) (V : Arv Z h a kc ty z vs dv) (hty : ty.isReference = true) (h1 : ¬ j < 0) (h2 : j < z) (hv : vs.getD j.toNatClampNeg dv = v) (hp : pc + 1 = pc') :
    Rch p l e R s m args below meth c Z y bc ml rt n0 T0 g0 k n h (mkF m pc' L (v :: S)) := by
  subst hp
  obtain ⟨cl, A, q1, S1, q3, H, G⟩ := V
  exact r.pure fun T locs X eT t w => X.aaload r.1.1 (j := j) (v := v) (by rw [eT]; exact A.1) (State.isArrayOf_alike r.1.2.2.2.2.1.alike A.2.1) hty A.2.2 (inbI S1 h1 h2) (Has.at H (inbI S1 h1 h2) hv) (g := mkF m pc L (.int j :: .ref a :: S)) rfl rfl (hb r.1.2.1 hd) _ w
theorem Rch.ldI0 {a : Addr} {kc : ClassId} {z j : Int32} {vs : List Value} {dv : Value} (r : Rch p l e R s m args below meth c Z y bc ml rt n0 T0 g0 k n h (mkF m pc L (.int j :: .ref a :: S))) (hd : decode bc pc = .ok (.iaload, 1)) (V : Arv Z h a kc .int z vs dv) (h1 : ¬ j < 0) (h2 : j < z) (hp : pc + 1 = pc') :
    ∃ x : Int32, vs.getD j.toNatClampNeg dv = .int x ∧ Rch p l e R s m args below meth c Z y bc ml rt n0 T0 g0 k n h (mkF m pc' L (.int x :: S)) := by
  have V0 := V
  obtain ⟨cl, A, q1, S1, q3, H, G⟩ := V0
  have hlt := Nat.lt_of_not_le fun q => inbI S1 h1 h2 (Or.inr q)
  obtain ⟨x, hx⟩ := fit_I (G _ hlt) (Or.inl rfl)
  exact ⟨x, hx, Rch.ldI (.int x) r hd V h1 h2 hx hp⟩
theorem Rch.stI0 {a : Addr} {kc : ClassId} {z j x : Int32} {vs : List Value} {dv : Value} (r : Rch p l e R s m args below meth c Z y bc ml rt n0 T0 g0 k n h (mkF m pc L (.int x :: .int j :: .ref a :: S))) (hd : decode bc pc = .ok (.iastore, 1)) (V : Arv Z h a kc .int z vs dv) (h1 : ¬ j < 0) (h2 : j < z) (hN : n0 ≤ a) (hp : pc + 1 = pc') :
    ∃ h' vs', Wr h h' a j.toNatClampNeg (.int x) ∧ Arv Z h' a kc .int z vs' dv ∧ Rch p l e R s m args below meth c Z y bc ml rt n0 T0 g0 k n h' (mkF m pc' L S) := by
  obtain ⟨h', W, V', r'⟩ := Rch.stI r hd (V.pad (pad_rep vs dv (j.toNatClampNeg + 1))) h1 h2 (by simp; omega) hN hp
  exact ⟨h', _, W, V', r'⟩
theorem Rch.alen {ty : FieldType} {a : Addr} {kc : ClassId} {z : Int32} {vs : List Value} {dv : Value} (r : Rch p l e R s m args below meth c Z y bc ml rt n0 T0 g0 k n h (mkF m pc L (.ref a :: S))) (hd : decode bc pc = .ok (.arraylength, 1)) (V : Arv Z h a kc ty z vs dv) (hp : pc + 1 = pc') :
    Rch p l e R s m args below meth c Z y bc ml rt n0 T0 g0 k n h (mkF m pc' L (.int z :: S)) := by
  subst hp
  obtain ⟨cl, A, -, S1, S2, -, -⟩ := V
  refine r.pure fun T locs X eT t w => X.arraylength r.1.1 (by rw [eT]; exact A.1) (State.isArrayOf_alike r.1.2.2.2.2.1.alike A.2.1) (g := mkF m pc L (.ref a :: S)) rfl rfl (hb r.1.2.1 hd) _ ?_
  rw [len_of S1 S2]
  exact w
-- returns
theorem Rch.retZ {z : Int32} {t : FieldType} (r : Rch p l e R s m args below meth c Z y bc ml rt n0 T0 g0 k n h (mkF m pc L (.int z :: S))) (hd : decode bc pc = .ok (.ireturn, 1)) (hrt : rt = some t) (ht : t = .boolean ∨ t = .byte ∨ t = .char ∨ t = .short) (w : Int32) (hw : nar t z = w) (hk : k ≤ R.cells) (hn : n ≤ R.slots) : Don p l e R s m args below meth c rt n0 T0 g0 (some (.int w)) h := by
  subst hw
  obtain ⟨q, T, locs, X, eT, N, st⟩ := r
  refine ⟨T, locs, k, n, X, hk, hn, eT, N, q.2.2.2.2.2.2.1, (fun z => ?_), fun fs hl => st _ (retN X q.1 (t := t) (q.2.2.2.2.2.1.trans hrt) ht (hb q.2.1 hd) hl)⟩
  rw [q.2.2.2.2.2.1, hrt] at z; cases z
theorem Rch.retI {z : Int32} (r : Rch p l e R s m args below meth c Z y bc ml rt n0 T0 g0 k n h (mkF m pc L (.int z :: S))) (hd : decode bc pc = .ok (.ireturn, 1)) (hrt : rt = some .int) (hk : k ≤ R.cells) (hn : n ≤ R.slots) : Don p l e R s m args below meth c rt n0 T0 g0 (some (.int z)) h := by
  obtain ⟨q, T, locs, X, eT, N, st⟩ := r
  refine ⟨T, locs, k, n, X, hk, hn, eT, N, q.2.2.2.2.2.2.1, (fun z => ?_), fun fs hl => st _ (retOut X q.1 (t := .int) (q.2.2.2.2.2.1.trans hrt) rfl (Or.inl ⟨rfl, Or.inl rfl, _, rfl⟩) (hb q.2.1 hd) hl)⟩
  rw [q.2.2.2.2.2.1, hrt] at z; cases z
theorem Rch.retJ {z : Int64} (r : Rch p l e R s m args below meth c Z y bc ml rt n0 T0 g0 k n h (mkF m pc L (.long z :: S))) (hd : decode bc pc = .ok (.lreturn, 1)) (hrt : rt = some .long) (hk : k ≤ R.cells) (hn : n ≤ R.slots) : Don p l e R s m args below meth c rt n0 T0 g0 (some (.long z)) h := by
  obtain ⟨q, T, locs, X, eT, N, st⟩ := r
  refine ⟨T, locs, k, n, X, hk, hn, eT, N, q.2.2.2.2.2.2.1, (fun z => ?_), fun fs hl => st _ (retOut X q.1 (t := .long) (q.2.2.2.2.2.1.trans hrt) rfl (Or.inr (Or.inl ⟨rfl, rfl, _, rfl⟩)) (hb q.2.1 hd) hl)⟩
  rw [q.2.2.2.2.2.1, hrt] at z; cases z
theorem Rch.retA {v : Value} {t : FieldType} (r : Rch p l e R s m args below meth c Z y bc ml rt n0 T0 g0 k n h (mkF m pc L (v :: S))) (hd : decode bc pc = .ok (.areturn, 1)) (hrt : rt = some t) (ht : t.isReference = true) (hv : v.isRef = true) (hk : k ≤ R.cells) (hn : n ≤ R.slots) : Don p l e R s m args below meth c rt n0 T0 g0 (some v) h := by
  obtain ⟨q, T, locs, X, eT, N, st⟩ := r
  have hnar : narrow t v = v := by cases v <;> first | (cases hv; done) | (cases t <;> rfl)
  refine ⟨T, locs, k, n, X, hk, hn, eT, N, q.2.2.2.2.2.2.1, (fun z => ?_), fun fs hl => st _ (retOut X q.1 (t := t) (q.2.2.2.2.2.1.trans hrt) hnar (Or.inr (Or.inr (Or.inr (Or.inr ⟨rfl, ht, hv⟩)))) (hb q.2.1 hd) hl)⟩
  rw [q.2.2.2.2.2.1, hrt] at z; cases z
theorem Rch.retV (r : Rch p l e R s m args below meth c Z y bc ml rt n0 T0 g0 k n h (mkF m pc L [])) (hd : decode bc pc = .ok (.return_, 1)) (hrt : rt = none) (hk : k ≤ R.cells) (hn : n ≤ R.slots) : Don p l e R s m args below meth c rt n0 T0 g0 none h := by
  obtain ⟨q, T, locs, X, eT, N, st⟩ := r
  exact ⟨T, locs, k, n, X, hk, hn, eT, N, q.2.2.2.2.2.2.1, fun _ => rfl, fun fs hl => st _ (X.returnOut q.1 (q.2.2.2.2.2.1.trans hrt) (hb q.2.1 hd) hl)⟩
-- entering a body
theorem ent {rm : Room} {as : Array Value} {h0 : Heap} {Q : Option Value → Heap → Prop} {L0 : Array Slot} (hpl : plainFor y = true) (hL : ∀ m, entryFrame m as ml = mkF m 0 L0 [])
    (H : ∀ p e s m below meth c T0, Rch p l e rm s m as below meth c Z y bc ml rt n0 T0 (mkF m 0 L0 []) 0 0 h0 (mkF m 0 L0 []) → ∃ v h, Don p l e rm s m as below meth c rt n0 T0 (mkF m 0 L0 []) v h ∧ Q v h) : Ctr l Z y bc ml rt rm as h0 n0 Q := by
  intro ws
  refine MetFree.of_bodySF hpl hisR ?_
  intro p e s m args below meth c s₁ Bd hml0 hP hK
  obtain ⟨rfl, hZ, hh⟩ := hP
  have hown : s.vm.findClass y.cls = some m.cls := findClass_of_methodNamed Bd.named
  have hnm := (name_of_methodNamed Bd.named Bd.method).1
  have X0 : Stand p l e rm s m args below meth c s₁ [] 0 0 := Stand.of_body Bd
  have e0 : s₁.heap = h0 := by rw [← hh, Bd.state]; rfl
  obtain ⟨v, h, ⟨T, locs, k, n, X, hk, hn, eT, N, hlk, hv, st⟩, hq⟩ := H p e s m below meth c s₁ ⟨⟨Bd.exec, Bd.bytes, hml0, hown, hZ, Bd.returns, Bd.notSynchronized, hnm⟩, s₁, [], X0, e0, Fr.nil n0, fun _ z => z⟩
  obtain ⟨fs, hr, hrun, hended, hW, hsame⟩ := X.leave (v := v) hv hlk
  refine ⟨_, _, castTop (hL m) (st fs hr), hrun, hended, v, locs, rfl, ⟨N, ?_⟩, ⟨_, rfl⟩, hW, hsame.mono hk hn⟩
  show Q v T.heap
  rw [eT]; exact hq
-- calls
theorem Rch.callS {z : MethodName} {bc' : ByteArray} {ml' : Nat} {rt' : Option FieldType} {rm : Room} {idx : Nat} {ps : List FieldType} {ro : Option FieldType} {Q : Option Value → Heap → Prop} (argsL : List Value) {rest : List Value} (W : Nat)
    (r : Rch p l e R s m args below meth c Z y bc ml rt n0 T0 g0 k n h (mkF m pc L S)) (hd : decode bc pc = .ok (.invokestatic idx, 3)) (w1 : (Jvm.Cond.methodLink y.cls idx z).before a0 Z = true) (w2 : (Jvm.Cond.static z).before a0 Z = true) (w3 : (Jvm.Cond.initialized z.cls).before a0 Z = true) (w4 : (Jvm.Cond.code z bc' ml' rt').before a0 Z = true)
    (hy : z.cls ≠ "java/lang/invoke/MethodHandle" ∧ z.cls ≠ "java/lang/invoke/VarHandle") (C : Ctr l Z z bc' ml' rt' rm argsL.toArray h n0 Q) (pd : parseMethodDescriptor z.desc = some ⟨ps, ro⟩) (hlen : argsL.length = ps.length) (hS : S = argsL.reverse ++ rest) (hml : L.size = ml)
    (hW : (rest.map fun v => v.category).sum ≤ W) (hf : rm.frames + 1 ≤ R.frames) (hlo : W + (ml' + 11) + rm.locals ≤ R.locals) {k' n' : Nat} (hk : k + rm.cells = k') (hn' : n + rm.slots = n') (hc : k' ≤ R.cells) (hl : n' ≤ R.slots) (hp : pc + 3 = pc') :
    ∃ v h', Q v h' ∧ Rch p l e R s m args below meth c Z y bc ml rt n0 T0 g0 k' n' h' (mkF m pc' L (v.toList ++ rest)) := by
  subst hp hS hk hn'
  obtain ⟨q, T, locs, X, eT, N, st⟩ := r
  obtain ⟨v, _, ⟨T', L', kk', nn'⟩, -, X', ⟨Lc, hQ, l1, y1, z1⟩, st'⟩ := Jvm.LawKit.callS X q.1 (y := z) q.2.2.2.1 (mvT q.2.2.2.2.1 w1) (mvT q.2.2.2.2.1 w2) (mvT q.2.2.2.2.1 w3) (mvT q.2.2.2.2.1 w4) hy (backOf (W := W) (Q := fun v h L => Fr n0 L ∧ Q v h) (C []) q.2.2.2.2.1 w4 w3 hf hlo) (g := mkF m pc L (argsL.reverse ++ rest)) rfl (by rw [q.2.2.1]; exact hml) (argsL := argsL) (rest := rest) (lenOf pd hlen) rfl (by simpa using hW) (hb q.2.1 hd) (fun _ _ => ⟨rfl, eT, hc, hl⟩)
  dsimp only [Pt.U, Pt.locs, Pt.cells, Pt.slots] at X' l1 y1 z1 st' hQ
  subst l1 y1 z1
  exact ⟨v, T'.heap, hQ.2, q, T', _, X', rfl, N.app hQ.1, fun t u => st t (st' t u)⟩
theorem Rch.callC {z : MethodName} {bc' : ByteArray} {ml' : Nat} {rm : Room} {idx : Nat} {ps : List FieldType} {ro : Option FieldType} {Q : Option Value → Heap → Prop} {a : Addr} (argsL : List Value) {rest : List Value} (W : Nat)
    (r : Rch p l e R s m args below meth c Z y bc ml rt n0 T0 g0 k n h (mkF m pc L S)) (hd : decode bc pc = .ok (.invokespecial idx, 3)) (hi : z.name = "<init>") (w1 : (Jvm.Cond.methodLink y.cls idx z).before a0 Z = true) (w2 : (Jvm.Cond.instanceMethod z).before a0 Z = true) (w3 : (Jvm.Cond.initialized z.cls).before a0 Z = true) (w4 : (Jvm.Cond.code z bc' ml' none).before a0 Z = true)
    (hy : z.cls ≠ "java/lang/invoke/MethodHandle" ∧ z.cls ≠ "java/lang/invoke/VarHandle") (C : Ctr l Z z bc' ml' none rm (.ref a :: argsL).toArray h n0 Q) (pd : parseMethodDescriptor z.desc = some ⟨ps, ro⟩) (hlen : argsL.length = ps.length) (hS : S = argsL.reverse ++ .ref a :: rest) (hml : L.size = ml)
    (hW : (rest.map fun v => v.category).sum ≤ W) (hf : rm.frames + 1 ≤ R.frames) (hlo : W + (ml' + 11) + rm.locals ≤ R.locals) {k' n' : Nat} (hk : k + rm.cells = k') (hn' : n + rm.slots = n') (hc : k' ≤ R.cells) (hl : n' ≤ R.slots) (hp : pc + 3 = pc') :
    ∃ v h', Q v h' ∧ Rch p l e R s m args below meth c Z y bc ml rt n0 T0 g0 k' n' h' (mkF m pc' L (v.toList ++ rest)) := by
  subst hp hS hk hn'
  obtain ⟨q, T, locs, X, eT, N, st⟩ := r
  obtain ⟨v, _, ⟨T', L', kk', nn'⟩, -, X', ⟨Lc, hQ, l1, y1, z1⟩, st'⟩ := X.specialBack q.1 (y := z) hi q.2.2.2.1 (mvT q.2.2.2.2.1 w1) (mvT q.2.2.2.2.1 w2) (mvT q.2.2.2.2.1 w4) hy (backOf (W := W) (Q := fun v h L => Fr n0 L ∧ Q v h) (C []) q.2.2.2.2.1 w4 w3 hf hlo) (g := mkF m pc L (argsL.reverse ++ .ref a :: rest)) rfl (by rw [q.2.2.1]; exact hml) (Steps.refl _) (a := a) (argsL := argsL) (rest := rest) (lenOf pd hlen) rfl (by simpa using hW) (hb q.2.1 hd) (fun _ _ => ⟨rfl, eT, hc, hl⟩)
  dsimp only [Pt.U, Pt.locs, Pt.cells, Pt.slots] at X' l1 y1 z1 st' hQ
  subst l1 y1 z1
  exact ⟨v, T'.heap, hQ.2, q, T', _, X', rfl, N.app hQ.1, fun t u => st t (st'.trans u)⟩
theorem Rch.callV {z z' : MethodName} {K : String} {bc' : ByteArray} {ml' : Nat} {rt' : Option FieldType} {rm : Room} {idx : Nat} {ps : List FieldType} {ro : Option FieldType} {Q : Option Value → Heap → Prop} {a : Addr} (argsL : List Value) {rest : List Value} (W : Nat)
    (r : Rch p l e R s m args below meth c Z y bc ml rt n0 T0 g0 k n h (mkF m pc L S)) (hd : decode bc pc = .ok (.invokevirtual idx, 3)) (w1 : (Jvm.Cond.methodLink y.cls idx z).before a0 Z = true) (w2 : (Jvm.Cond.declares z).before a0 Z = true) (nf : NotFace s z) (w5 : (Jvm.Cond.selects K z z').before a0 Z = true) (w6 : (Jvm.Cond.instanceMethod z').before a0 Z = true) (w3 : (Jvm.Cond.initialized z'.cls).before a0 Z = true) (w4 : (Jvm.Cond.code z' bc' ml' rt').before a0 Z = true)
    (hy : z.cls ≠ "java/lang/invoke/MethodHandle" ∧ z.cls ≠ "java/lang/invoke/VarHandle") (C : Ctr l Z z' bc' ml' rt' rm (.ref a :: argsL).toArray h n0 Q) (E : Exa Z h a K) (pd : parseMethodDescriptor z.desc = some ⟨ps, ro⟩) (hlen : argsL.length = ps.length) (hS : S = argsL.reverse ++ .ref a :: rest) (hml : L.size = ml)
    (hW : (rest.map fun v => v.category).sum ≤ W) (hf : rm.frames + 1 ≤ R.frames) (hlo : W + (ml' + 11) + rm.locals ≤ R.locals) {k' n' : Nat} (hk : k + rm.cells = k') (hn' : n + rm.slots = n') (hc : k' ≤ R.cells) (hl : n' ≤ R.slots) (hp : pc + 3 = pc') :
    ∃ v h', Q v h' ∧ Rch p l e R s m args below meth c Z y bc ml rt n0 T0 g0 k' n' h' (mkF m pc' L (v.toList ++ rest)) := by
  subst hp hS hk hn'
  obtain ⟨q, T, locs, X, eT, N, st⟩ := r
  obtain ⟨cq, kq, qa, qb, qc⟩ := isOf q.2.2.2.2.1 eT E
  obtain ⟨v, _, ⟨T', L', kk', nn'⟩, -, X', ⟨Lc, hQ, l1, y1, z1⟩, st'⟩ := X.virtualBack q.1 (y := z) (z := z') q.2.2.2.1 (mvT q.2.2.2.2.1 w1) (mvT q.2.2.2.2.1 w2) nf (mvT q.2.2.2.2.1 w5) (mvT q.2.2.2.2.1 w6) hy (backOf (W := W) (Q := fun v h L => Fr n0 L ∧ Q v h) (C []) q.2.2.2.2.1 w4 w3 hf hlo) qa qc (g := mkF m pc L (argsL.reverse ++ .ref a :: rest)) rfl (by rw [q.2.2.1]; exact hml) (Steps.refl _) (argsL := argsL) (rest := rest) (lenOf pd hlen) rfl (by simpa using hW) (hb q.2.1 hd) (fun _ _ => ⟨rfl, eT, hc, hl⟩)
  dsimp only [Pt.U, Pt.locs, Pt.cells, Pt.slots] at X' l1 y1 z1 st' hQ
  subst l1 y1 z1
  exact ⟨v, T'.heap, hQ.2, q, T', _, X', rfl, N.app hQ.1, fun t u => st t (st'.trans u)⟩
theorem Rch.nface {z z' : MethodName} {K : String} {g : JFrame} (r : Rch p l e R s m args below meth c Z y bc ml rt n0 T0 g0 k n h g) (w : (Jvm.Cond.selects K z z').before a0 Z = true) (hq : z = z') : NotFace s z := by
  subst hq; exact notFace_of_selects (args := #[]) (mvT r.1.2.2.2.2.1 w)
theorem Rch.initO {idx : Nat} {a : Addr} (W : Nat) (r : Rch p l e R s m args below meth c Z y bc ml rt n0 T0 g0 k n h (mkF m pc L (.ref a :: S))) (hd : decode bc pc = .ok (.invokespecial idx, 3)) (w1 : (Jvm.Cond.methodLink y.cls idx Lib.objectInit).before a0 Z = true) (w2 : (Jvm.Cond.instanceMethod Lib.objectInit).before a0 Z = true) (w3 : (Jvm.Cond.code Lib.objectInit ⟨#[0xb1]⟩ 1 none).before a0 Z = true) (hml : L.size = ml)
    (hf : 1 ≤ R.frames) (hW : (S.map fun v => v.category).sum ≤ W) (hl : W + 12 ≤ R.locals) (hp : pc + 3 = pc') : Rch p l e R s m args below meth c Z y bc ml rt n0 T0 g0 k n h (mkF m pc' L S) := by
  subst hp
  exact r.keep fun T locs X eT => initO X r.1.1 r.1.2.2.2.2.1 r.1.2.2.2.1 w1 w2 w3 eT (g := mkF m pc L (.ref a :: S)) rfl (by rw [r.1.2.2.1]; exact hml) rfl (hb r.1.2.1 hd) hf (W := W) (by simpa using hW) hl
end OwnLayer
section OwnPriv
variable {p : Program} {l : Launch} {e : Env} {R : Room} {s : State} {m : MethodId} {args : Array Value} {below : List Frame} {meth : Method} {c : Code} {Z : State} {y : MethodName} {bc : ByteArray} {ml : Nat} {rt : Option FieldType} {n0 : Nat} {T0 : State} {g0 : JFrame} {k n : Nat} {h : Heap} {a0 : Array Value} {pc pc' : Nat} {L : Array Slot} {S : List Value}
/-- a private method of the class, by invokevirtual -/
theorem Rch.callP {z : MethodName} {bc' : ByteArray} {ml' : Nat} {rt' : Option FieldType} {rm : Room} {idx : Nat} {ps : List FieldType} {ro : Option FieldType} {Q : Option Value → Heap → Prop} {a : Addr} {K : String} (argsL : List Value) {rest : List Value} (W : Nat)
    (r : Rch p l e R s m args below meth c Z y bc ml rt n0 T0 g0 k n h (mkF m pc L S)) (hd : decode bc pc = .ok (.invokevirtual idx, 3)) (w1 : (Jvm.Cond.methodLink y.cls idx z).before a0 Z = true) (w2 : (Jvm.Cond.instanceMethod z).before a0 Z = true) (w5 : (Jvm.Cond.selects z.cls z z).before a0 Z = true) (w6 : (Jvm.Cond.privateMethod z).before a0 Z = true) (w3 : (Jvm.Cond.initialized z.cls).before a0 Z = true) (w4 : (Jvm.Cond.code z bc' ml' rt').before a0 Z = true)
    (hy : z.cls ≠ "java/lang/invoke/MethodHandle" ∧ z.cls ≠ "java/lang/invoke/VarHandle") (C : Ctr l Z z bc' ml' rt' rm (.ref a :: argsL).toArray h n0 Q) (E : Exa Z h a K) (pd : parseMethodDescriptor z.desc = some ⟨ps, ro⟩) (hlen : argsL.length = ps.length) (hS : S = argsL.reverse ++ .ref a :: rest) (hml : L.size = ml)
    (hW : (rest.map fun v => v.category).sum ≤ W) (hf : rm.frames + 1 ≤ R.frames) (hlo : W + (ml' + 11) + rm.locals ≤ R.locals) {k' n' : Nat} (hk : k + rm.cells = k') (hn' : n + rm.slots = n') (hc : k' ≤ R.cells) (hl : n' ≤ R.slots) (hp : pc + 3 = pc') :
    ∃ v h', Q v h' ∧ Rch p l e R s m args below meth c Z y bc ml rt n0 T0 g0 k' n' h' (mkF m pc' L (v.toList ++ rest)) := by
  subst hp hS hk hn'
  obtain ⟨q, T, locs, X, eT, N, st⟩ := r
  obtain ⟨cq, q1, q2⟩ := E.cell
  obtain ⟨v, _, ⟨T', L', kk', nn'⟩, -, X', ⟨Lc, hQ, l1, y1, z1⟩, st'⟩ := X.privateBack q.1 (y := z) q.2.2.2.1 (mvT q.2.2.2.2.1 w1) (mvT q.2.2.2.2.1 w2) (mvT q.2.2.2.2.1 w5) (Cond.privateMethod_at (mvP q.2.2.2.2.1 w6 (args := #[]))) (mvT q.2.2.2.2.1 w4) hy (backOf (W := W) (Q := fun v h L => Fr n0 L ∧ Q v h) (C []) q.2.2.2.2.1 w4 w3 hf hlo) (g := mkF m pc L (argsL.reverse ++ .ref a :: rest)) rfl (by rw [q.2.2.1]; exact hml) (Steps.refl _) (a := a) (by rw [eT]; exact q1) q2 (argsL := argsL) (rest := rest) (lenOf pd hlen) rfl (by simpa using hW) (hb q.2.1 hd) (fun _ _ => ⟨rfl, eT, hc, hl⟩)
  dsimp only [Pt.U, Pt.locs, Pt.cells, Pt.slots] at X' l1 y1 z1 st' hQ
  subst l1 y1 z1
  exact ⟨v, T'.heap, hQ.2, q, T', _, X', rfl, N.app hQ.1, fun t u => st t (st'.trans u)⟩
end OwnPriv
section OwnGrid
variable {p : Program} {l : Launch} {e : Env} {R : Room} {s : State} {m : MethodId} {args : Array Value} {below : List Frame} {meth : Method} {c : Code} {Z : State} {y : MethodName} {bc : ByteArray} {ml : Nat} {rt : Option FieldType} {n0 : Nat} {T0 : State} {g0 : JFrame} {k n : Nat} {h : Heap} {a0 : Array Value} {pc pc' : Nat} {L : Array Slot} {S : List Value}
theorem Rch.newPE {aty : ArrayType} {i : Int32} (ad : String) (r : Rch p l e R s m args below meth c Z y bc ml rt n0 T0 g0 k n h (mkF m pc L (.int i :: S))) (hd : decode bc pc = .ok (.newarray aty, 2)) (w : (Jvm.Cond.arrayClass (newarray.typeOf aty)).before a0 Z = true) (had : "[" ++ (newarray.typeOf aty).toString = ad) (hn : ¬ i < 0) {cap : Nat} (hcap : i.toNatClampNeg ≤ cap) (hbg : cap * 8 ≤ 536870912) {k' n' : Nat} (hk : k + 1 = k') (hn' : n + cap = n') (hc : k' ≤ R.cells) (hl : n' ≤ R.slots) (hp : pc + 2 = pc') :
    ∃ h' a cA, a = h.size ∧ Ext h h' ∧ Exa Z h' a ad ∧ Arv Z h' a cA (newarray.typeOf aty) i [] (defaultValue (newarray.typeOf aty)) ∧ Rch p l e R s m args below meth c Z y bc ml rt n0 T0 g0 k' n' h' (mkF m pc' L (.ref a :: S)) := by
  subst hp hk hn'
  obtain ⟨q, T, locs, X, eT, N, st⟩ := r
  obtain ⟨T', h', cA, X', e', E, A, EX, st'⟩ := newPE X q.1 q.2.2.2.2.1 w eT (g := mkF m pc L (.int i :: S)) rfl (hb q.2.1 hd) rfl hn hcap hbg hc hl had
  exact ⟨h', h.size, cA, rfl, E, EX, Arv.new A hn, q, T', locs, X', e', N, fun t z => st t (st' t z)⟩
theorem Rch.newRA {C : String} {ty : FieldType} {idx : Nat} {i : Int32} (ad : String) (r : Rch p l e R s m args below meth c Z y bc ml rt n0 T0 g0 k n h (mkF m pc L (.int i :: S))) (hd : decode bc pc = .ok (.anewarray idx, 3)) (hC : (FieldType.array ty).toString = C) (w1 : (Jvm.Cond.classLink y.cls idx C).before a0 Z = true) (w2 : (Jvm.Cond.arrayOver (.array ty)).before a0 Z = true) (had : "[" ++ C = ad) (hn : ¬ i < 0) {cap : Nat} (hcap : i.toNatClampNeg ≤ cap) (hbg : cap * 8 ≤ 536870912) {k' n' : Nat} (hk : k + 1 = k') (hn' : n + cap = n') (hc : k' ≤ R.cells) (hl : n' ≤ R.slots) (hp : pc + 3 = pc') :
    ∃ h' a cA, a = h.size ∧ Ext h h' ∧ OvrA Z cA ty C ∧ Arv Z h' a cA (.array ty) i [] .null ∧ Rch p l e R s m args below meth c Z y bc ml rt n0 T0 g0 k' n' h' (mkF m pc' L (.ref a :: S)) := by
  subst hp hk hn'
  obtain ⟨q, T, locs, X, eT, N, st⟩ := r
  obtain ⟨T', h', cA, X', e', E, A, EX, O, st'⟩ := newRA X q.1 q.2.2.2.2.1 q.2.2.2.1 hC w1 w2 eT (g := mkF m pc L (.int i :: S)) rfl (hb q.2.1 hd) rfl hn hcap hbg hc hl had
  exact ⟨h', h.size, cA, rfl, E, O, Arv.new A hn, q, T', locs, X', e', N, fun t z => st t (st' t z)⟩
theorem Rch.stRA {ty : FieldType} {C : String} {a b : Addr} {kc : ClassId} {z j : Int32} {vs : List Value} {dv : Value} (r : Rch p l e R s m args below meth c Z y bc ml rt n0 T0 g0 k n h (mkF m pc L (.ref b :: .int j :: .ref a :: S))) (hd : decode bc pc = .ok (.aastore, 1)) (V : Arv Z h a kc (.array ty) z vs dv) (O : OvrA Z kc ty C) (I : Exa Z h b C) (h1 : ¬ j < 0) (h2 : j < z) (h3 : j.toNatClampNeg < vs.length) (hN : n0 ≤ a) (hp : pc + 1 = pc') :
    ∃ h', Wr h h' a j.toNatClampNeg (.ref b) ∧ Arv Z h' a kc (.array ty) z (vs.set j.toNatClampNeg (.ref b)) dv ∧ Rch p l e R s m args below meth c Z y bc ml rt n0 T0 g0 k n h' (mkF m pc' L S) := by
  subst hp
  obtain ⟨q, T, locs, X, eT, N, st⟩ := r
  obtain ⟨cl, A, q1, S1, q3, H, G⟩ := V
  obtain ⟨T', h', X', e', W, st'⟩ := Jvm.RoadKit.stR X q.1 q.2.2.2.2.1 eT A (j := j) (inbI S1 h1 h2) rfl (Sto.ofVA A q1 O (Ins.self I)) (g := mkF m pc L (.ref b :: .int j :: .ref a :: S)) rfl rfl (hb q.2.1 hd)
  exact ⟨h', W, Arv.set A q1 S1 q3 H G rfl W _ rfl h3, q, T', _, X', e', Fr.snoc X' N hN, fun t z => st t (st' t z)⟩
end OwnGrid

section OwnArrB
/-- a byte[] of the length z whose values are F (what F says beyond the length is free) -/
def ArB (Z : State) (h : Heap) (a : Addr) (z : Int32) (F : List Int32) : Prop := ∃ kc, Arv Z h a kc .byte z (F.map Value.int) (.int 0)
theorem getD_mapB (F : List Int32) (i : Nat) : (F.map Value.int).getD i (.int 0) = .int (F.getD i 0) := by
  simp only [List.getD_eq_getElem?_getD, List.getElem?_map]
  cases F[i]? <;> rfl
variable {p : Program} {l : Launch} {e : Env} {R : Room} {s : State} {m : MethodId} {args : Array Value} {below : List Frame} {meth : Method} {c : Code} {Z : State} {y : MethodName} {bc : ByteArray} {ml : Nat} {rt : Option FieldType} {n0 : Nat} {T0 : State} {g0 : JFrame} {k n : Nat} {h h' : Heap} {a0 : Array Value} {pc pc' : Nat} {L : Array Slot} {S : List Value} {a b : Addr} {z j x : Int32} {F : List Int32}
theorem ArB.lt (V : ArB Z h a z F) : a < h.size := by obtain ⟨_, V⟩ := V; exact Jvm.RoadKit.Arv.lt V
theorem ArB.ext (V : ArB Z h a z F) (E : Ext h h') : ArB Z h' a z F := by obtain ⟨kc, V⟩ := V; exact ⟨kc, Jvm.RoadKit.Arv.ext V E⟩
theorem ArB.other {sl : Nat} {v : Value} (V : ArB Z h b z F) (W : Wr h h' a sl v) (q : b ≠ a) : ArB Z h' b z F := by obtain ⟨kc, V⟩ := V; exact ⟨kc, Jvm.RoadKit.Arv.other V W q⟩
theorem ArB.keep {ws : List Addr} (V : ArB Z h a z F) (K : Keep h h' ws) (q : a ∉ ws) : ArB Z h' a z F := by obtain ⟨kc, V⟩ := V; exact ⟨kc, Jvm.RoadKit.Arv.keep V K q⟩
theorem ArB.new {kc : ClassId} (V : Arv Z h a kc .byte z [] (.int 0)) (i : Nat) : ArB Z h a z (List.replicate i 0) := ⟨kc, by
  have q := Jvm.RoadKit.Arv.pad V (pad_rep [] (.int 0) i)
  simpa using q⟩
theorem ArB.beyond (V : ArB Z h a z F) (i : Nat) (hi : z.toNatClampNeg ≤ i) : ArB Z h a z (F.set i x) := by
  obtain ⟨kc, cl, A, q1, S, q3, H, G⟩ := V
  have hne : ∀ k, k < cl.slots.size → ((F.set i x).map Value.int).getD k (.int 0) = (F.map Value.int).getD k (.int 0) := by
    intro k hk
    rw [getD_mapB, getD_mapB]
    have hki : i ≠ k := by omega
    simp [List.getD_eq_getElem?_getD, List.getElem?_set_ne hki]
  exact ⟨kc, cl, A, q1, S, q3, fun k hk => by rw [hne k hk]; exact H k hk, fun k hk => by rw [hne k hk]; exact G k hk⟩
theorem Rch.gB (r : Rch p l e R s m args below meth c Z y bc ml rt n0 T0 g0 k n h (mkF m pc L (.int j :: .ref a :: S))) (hd : decode bc pc = .ok (.baload, 1)) (V : ArB Z h a z F) (h1 : ¬ j < 0) (h2 : j < z) (hp : pc + 1 = pc') :
    Rch p l e R s m args below meth c Z y bc ml rt n0 T0 g0 k n h (mkF m pc' L (.int (F.getD j.toNatClampNeg 0) :: S)) := by
  obtain ⟨kc, V⟩ := V
  exact Rch.ldB (.int (F.getD j.toNatClampNeg 0)) r hd V h1 h2 (getD_mapB F _) hp
theorem Rch.sB (r : Rch p l e R s m args below meth c Z y bc ml rt n0 T0 g0 k n h (mkF m pc L (.int x :: .int j :: .ref a :: S))) (hd : decode bc pc = .ok (.bastore, 1)) (V : ArB Z h a z F) (h1 : ¬ j < 0) (h2 : j < z) (h3 : j.toNatClampNeg < F.length) (hN : n0 ≤ a) (hp : pc + 1 = pc') :
    ∃ h', Wr h h' a j.toNatClampNeg (.int (nar .byte x)) ∧ ArB Z h' a z (F.set j.toNatClampNeg (nar .byte x)) ∧ Rch p l e R s m args below meth c Z y bc ml rt n0 T0 g0 k n h' (mkF m pc' L S) := by
  obtain ⟨kc, V⟩ := V
  obtain ⟨h', W, V', r'⟩ := Rch.stB r hd V h1 h2 (by simpa using h3) hN hp
  exact ⟨h', W, ⟨kc, by rw [List.map_set]; exact V'⟩, r'⟩
theorem Rch.lenB (r : Rch p l e R s m args below meth c Z y bc ml rt n0 T0 g0 k n h (mkF m pc L (.ref a :: S))) (hd : decode bc pc = .ok (.arraylength, 1)) (V : ArB Z h a z F) (hp : pc + 1 = pc') :
    Rch p l e R s m args below meth c Z y bc ml rt n0 T0 g0 k n h (mkF m pc' L (.int z :: S)) := by
  obtain ⟨kc, V⟩ := V
  exact Rch.alen r hd V hp
end OwnArrB

section OwnWide
open Jvm.Free.SB Jvm.Free.SBG
/-- a body's contract where literals may be loaded cold: EL, the entries whose texts are read -/
def CtrW (l : Launch) (Z : State) (EL : List (String × Nat)) (y : MethodName) (bc : ByteArray) (ml : Nat) (rt : Option FieldType) (rm : Room) (as : Array Value) (h0 : Heap) (n0 : Nat) (Q : Option Value → Heap → Prop) : Prop :=
  ∀ ws : List Jvm.Cond, MetFree l y (head1 (Jvm.Cond.code y bc ml rt :: ws) rm) (fun a U => a = as ∧ Z.Warmed39 U.vm ∧ U.heap = h0 ∧ CHv Z EL U.vm h0) (fun _ _ _ _ _ => True) (fun _ U o U' => ∃ v L, o = .returned v ∧ (Fr n0 L ∧ Q v U'.heap) ∧ CHr Z EL U.vm U.heap U'.vm U'.heap ∧ ReturnedEndW U o U' L rm.cells rm.slots)
variable {p : Program} {l : Launch} {e : Env} {R : Room} {s : State} {m : MethodId} {args : Array Value} {below : List Frame} {meth : Method} {c : Code} {Z : State} {y : MethodName} {bc : ByteArray} {ml : Nat} {rt : Option FieldType} {n0 : Nat} {T0 : State} {g0 : JFrame} {k n : Nat} {h : Heap} {a0 : Array Value} {pc pc' : Nat} {L : Array Slot} {S : List Value} {EL : List (String × Nat)} {vm0 : Vm} {k0 : Nat}
/-- the walk stands over the re-based start; what it keeps beside: Since, and the invariant from the start on -/
def Wd (Z : State) (EL : List (String × Nat)) (s : State) (hs : Heap) (vm0 : Vm) (h : Heap) : Prop := (∃ k0, s.Since vm0 k0 ∧ k0 ≤ h.size) ∧ CHr Z EL s.vm hs vm0 h
theorem Wd.start (hh : s.heap = h) (H : CHv Z EL s.vm h) : Wd Z EL s h s.vm h := ⟨⟨0, (State.WarmedH.refl s).since 0, Nat.zero_le _⟩, CHr.refl H⟩
theorem Wd.go {hs h h' : Heap} (w : Wd Z EL s hs vm0 h) (C : CHr Z EL vm0 h vm0 h') : Wd Z EL s hs vm0 h' := by
  obtain ⟨⟨k0, a, b⟩, D⟩ := w
  exact ⟨⟨k0, a, Nat.le_trans b C.2.1⟩, D.trans C⟩
theorem Wd.ext {hs h h' : Heap} (w : Wd Z EL s hs vm0 h) (E : Ext h h') : Wd Z EL s hs vm0 h' := w.go (CHr.ext E w.2.1)
theorem Wd.keep {hs h h' : Heap} {ws : List Addr} (w : Wd Z EL s hs vm0 h) (K : Keep h h' ws) (hsf : ∀ x ∈ ws, Safe Z EL vm0 h x) : Wd Z EL s hs vm0 h' := w.go (CHr.keep K hsf w.2.1)
theorem Wd.wr {hs h h' : Heap} {a : Addr} {sl : Nat} {v : Value} (w : Wd Z EL s hs vm0 h) (W : Wr h h' a sl v) (S : Safe Z EL vm0 h a) : Wd Z EL s hs vm0 h' := w.go (CHr.wr W S w.2.1)
theorem Wd.fresh {hs h h' : Heap} {x : Addr} (w : Wd Z EL s hs vm0 h) (E : Ext h h') (hx : h.size ≤ x) : Safe Z EL vm0 h' x := fun B => Safe.new hx ((CHv.step w.2.1 fun _ _ _ q => E.2 _ _ q).2 x B)
theorem Wd.safe {hs h h' : Heap} {x : Addr} {vm1 : Vm} (w : CHr Z EL vm0 h vm1 h') (hx : x < h.size) (S : Safe Z EL vm0 h x) : Safe Z EL vm1 h' x := w.safe hx S
def DonW (p : Program) (l : Launch) (e : Env) (R : Room) (s : State) (m : MethodId) (args : Array Value) (below : List Frame) (meth : Method) (c : Code) (rt : Option FieldType) (n0 : Nat) (T0 : State) (g0 : JFrame) (Z : State) (EL : List (String × Nat)) (hs : Heap) (v : Option Value) (h : Heap) : Prop :=
  ∃ vm0, Don p l e R (s.setVm vm0) m args below meth c rt n0 T0 g0 v h ∧ Wd Z EL s hs vm0 h ∧ Z.Warmed39 vm0
theorem entW {rm : Room} {as : Array Value} {h0 : Heap} {Q : Option Value → Heap → Prop} {L0 : Array Slot} (hpl : plainFor y = true) (hL : ∀ m, entryFrame m as ml = mkF m 0 L0 []) (hEL : EW Z a0 EL)
    (H : ∀ p e s m below meth c T0, Rch p l e rm (s.setVm s.vm) m as below meth c Z y bc ml rt n0 T0 (mkF m 0 L0 []) 0 0 h0 (mkF m 0 L0 []) → Wd Z EL s h0 s.vm h0 → ∃ v h, DonW p l e rm s m as below meth c rt n0 T0 (mkF m 0 L0 []) Z EL h0 v h ∧ Q v h) : CtrW l Z EL y bc ml rt rm as h0 n0 Q := by
  intro ws
  refine MetFree.of_bodySF hpl hisR ?_
  intro p e s m args below meth c s₁ Bd hml0 hP hK
  obtain ⟨rfl, hZ, hh, hC⟩ := hP
  have hown : s.vm.findClass y.cls = some m.cls := findClass_of_methodNamed Bd.named
  have hnm := (name_of_methodNamed Bd.named Bd.method).1
  have X0 : Stand p l e rm s m args below meth c s₁ [] 0 0 := Stand.of_body Bd
  have e0 : s₁.heap = h0 := by rw [← hh, Bd.state]; rfl
  obtain ⟨v, h, ⟨vm0, ⟨T, locs, k, n, X, hk, hn, eT, N, hlk, hv, st⟩, ⟨⟨k0, hS, hk0⟩, hC1⟩, hZ1⟩, hq⟩ := H p e s m below meth c s₁ ⟨⟨Bd.exec, Bd.bytes, hml0, hown, hZ, Bd.returns, Bd.notSynchronized, hnm⟩, s₁, [], X0, e0, Fr.nil n0, fun _ z => z⟩ (Wd.start hh hC)
  obtain ⟨fs, hr, hrun, hended, hRW⟩ := Stand.leaveW X hS (by rw [eT]; exact hk0) (v := v) hv hlk
  have hA := CHv.at X hZ1 hEL hC1.1
  refine ⟨_, _, castTop (hL m) (st fs hr), hrun, hended, v, locs, rfl, ⟨N, ?_⟩, ?_, hRW.1, hRW.2.1, hRW.2.2.1, hRW.2.2.2.mono hk hn⟩
  · show Q v T.heap
    rw [eT]; exact hq
  · show CHr Z EL s.vm s.heap T.vm T.heap
    rw [eT, hh]; exact hC1.trans hA
/-- 'ldc' of a String constant that is read -/
theorem Rch.ldcS {hs : Heap} {idx : Nat} {text : String} {vs : List Value} {z : Int32} (nn : Nat) (r : Rch p l e R (s.setVm vm0) m args below meth c Z y bc ml rt n0 T0 g0 k n h (mkF m pc L S)) (wd : Wd Z EL s hs vm0 h) (hd : decode bc pc = .ok (.ldc idx, 2)) (w : (Jvm.Cond.stringLink y.cls idx text).before a0 Z = true) (wS : ∀ a ∈ Bundle.stringAtoms, a.before a0 Z = true) (hEL : EW Z a0 EL) (hmem : (y.cls, idx) ∈ EL)
    (ht : (∀ c ∈ text.toList, c.toNat < 256) ∧ text.toList.map (fun c => Value.int (Jvm.Lit.byteI c.toNat.toUInt16)) = vs) (hz : ¬ z < 0) (hl : z.toNatClampNeg = vs.length) (hn : 4 * text.toList.length ≤ nn) (hbig : nn ≤ 536870912) {k' n' : Nat} (hk' : k + 2 = k') (hn' : n + (nn + 4) = n') (hc : k' ≤ R.cells) (hl' : n' ≤ R.slots) (hp : pc + 2 = pc') :
    ∃ a b kb vm1 h', Ext h h' ∧ Wd Z EL s hs vm1 h' ∧ CHr Z EL vm0 h vm1 h' ∧ Exa Z h' a "java/lang/String" ∧ Fld Z h' a "java/lang/String" "coder" "B" (.int 0) ∧ Fld Z h' a "java/lang/String" "value" "[B" (.ref b) ∧ Arv Z h' b kb .byte z vs (.int 0) ∧ (∀ x, Safe Z EL vm1 h' x → x ≠ a ∧ x ≠ b) ∧
      Rch p l e R (s.setVm vm1) m args below meth c Z y bc ml rt n0 T0 g0 k' n' h' (mkF m pc' L (.ref a :: S)) := by
  subst hp hk' hn'
  obtain ⟨q, T, locs, X, eT, N, st⟩ := r
  obtain ⟨⟨k0, hS, hk0⟩, hC⟩ := wd
  obtain ⟨a, T', h', k1, b, kb, X', e', E, hS', hk1, hZ', hown', EX, F1, F2, V, -, -, C', -, hne, st'⟩ := ldcCH X q.1 (show Z.Warmed39 vm0 from q.2.2.2.2.1) q.2.2.2.1 w wS eT hS hk0 hEL hmem hC.1 ht hz hl (g := mkF m pc L S) rfl (hb q.2.1 hd) (n := nn) hn hbig hc hl'
  exact ⟨a, b, kb, T'.vm, h', E, ⟨⟨k1, hS', hk1⟩, hC.trans C'⟩, C', EX, F1, F2, V, hne, ⟨q.1, q.2.1, q.2.2.1, hown', hZ', q.2.2.2.2.2⟩, T', locs, X', e', N, fun t u => st t (st' t u)⟩
/-- .. whose text isn't read -/
theorem Rch.ldcO {hs : Heap} {idx : Nat} {text : String} (nn : Nat) (r : Rch p l e R (s.setVm vm0) m args below meth c Z y bc ml rt n0 T0 g0 k n h (mkF m pc L S)) (wd : Wd Z EL s hs vm0 h) (hd : decode bc pc = .ok (.ldc idx, 2)) (w : (Jvm.Cond.stringLink y.cls idx text).before a0 Z = true) (wS : ∀ a ∈ Bundle.stringAtoms, a.before a0 Z = true) (hEL : EW Z a0 EL)
    (hn : 4 * text.toList.length ≤ nn) (hbig : nn ≤ 536870912) {k' n' : Nat} (hk' : k + 2 = k') (hn' : n + (nn + 4) = n') (hc : k' ≤ R.cells) (hl' : n' ≤ R.slots) (hp : pc + 2 = pc') :
    ∃ a vm1 h', Ext h h' ∧ Wd Z EL s hs vm1 h' ∧ CHr Z EL vm0 h vm1 h' ∧ Rch p l e R (s.setVm vm1) m args below meth c Z y bc ml rt n0 T0 g0 k' n' h' (mkF m pc' L (.ref a :: S)) := by
  subst hp hk' hn'
  obtain ⟨q, T, locs, X, eT, N, st⟩ := r
  obtain ⟨⟨k0, hS, hk0⟩, hC⟩ := wd
  obtain ⟨a, T', h', k1, X', e', E, hS', hk1, hZ', hown', C', -, st'⟩ := ldcOH X q.1 (show Z.Warmed39 vm0 from q.2.2.2.2.1) q.2.2.2.1 w wS eT hS hk0 hEL hC.1 (g := mkF m pc L S) rfl (hb q.2.1 hd) (n := nn) hn hbig hc hl'
  exact ⟨a, T'.vm, h', E, ⟨⟨k1, hS', hk1⟩, hC.trans C'⟩, C', ⟨q.1, q.2.1, q.2.2.1, hown', hZ', q.2.2.2.2.2⟩, T', locs, X', e', N, fun t u => st t (st' t u)⟩
theorem Rch.callVW {hs : Heap} {z z' : MethodName} {K : String} {bc' : ByteArray} {ml' : Nat} {rt' : Option FieldType} {rm : Room} {idx : Nat} {ps : List FieldType} {ro : Option FieldType} {Q : Option Value → Heap → Prop} {a : Addr} (argsL : List Value) {rest : List Value} (W : Nat)
    (r : Rch p l e R (s.setVm vm0) m args below meth c Z y bc ml rt n0 T0 g0 k n h (mkF m pc L S)) (wd : Wd Z EL s hs vm0 h) (hEL : EW Z a0 EL) (hd : decode bc pc = .ok (.invokevirtual idx, 3)) (w1 : (Jvm.Cond.methodLink y.cls idx z).before a0 Z = true) (w2 : (Jvm.Cond.declares z).before a0 Z = true) (nf : NotFace (s.setVm vm0) z) (w5 : (Jvm.Cond.selects K z z').before a0 Z = true) (w6 : (Jvm.Cond.instanceMethod z').before a0 Z = true) (w3 : (Jvm.Cond.initialized z'.cls).before a0 Z = true) (w4 : (Jvm.Cond.code z' bc' ml' rt').before a0 Z = true)
    (hy : z.cls ≠ "java/lang/invoke/MethodHandle" ∧ z.cls ≠ "java/lang/invoke/VarHandle") (C : CtrW l Z EL z' bc' ml' rt' rm (.ref a :: argsL).toArray h n0 Q) (E : Exa Z h a K) (pd : parseMethodDescriptor z.desc = some ⟨ps, ro⟩) (hlen : argsL.length = ps.length) (hS : S = argsL.reverse ++ .ref a :: rest) (hml : L.size = ml)
    (hW : (rest.map fun v => v.category).sum ≤ W) (hf : rm.frames + 1 ≤ R.frames) (hlo : W + (ml' + 11) + rm.locals ≤ R.locals) {k' n' : Nat} (hk : k + rm.cells = k') (hn' : n + rm.slots = n') (hc : k' ≤ R.cells) (hl : n' ≤ R.slots) (hp : pc + 3 = pc') :
    ∃ v vm1 h', Q v h' ∧ Wd Z EL s hs vm1 h' ∧ CHr Z EL vm0 h vm1 h' ∧ Rch p l e R (s.setVm vm1) m args below meth c Z y bc ml rt n0 T0 g0 k' n' h' (mkF m pc' L (v.toList ++ rest)) := by
  subst hp hS hk hn'
  obtain ⟨q, T, locs, X, eT, N, st⟩ := r
  obtain ⟨⟨k0, hS, hk0⟩, hC⟩ := wd
  obtain ⟨cq, kq, qa, qb, qc⟩ := isOf q.2.2.2.2.1 eT E
  obtain ⟨v, _, ⟨T', L', kk', nn'⟩, -, X', hS2, hg, ⟨Lc, hQ, l1, y1, z1, C'⟩, st'⟩ := X.virtualBackS q.1 (y := z) (z := z') q.2.2.2.1 (mvT q.2.2.2.2.1 w1) (mvT q.2.2.2.2.1 w2) nf (mvT q.2.2.2.2.1 w5) (mvT q.2.2.2.2.1 w6) hy (backOfSH (W := W) (Q := fun v h L => Fr n0 L ∧ Q v h) (C []) (show Z.Warmed39 vm0 from q.2.2.2.2.1) w4 w3 hf hlo hEL hC.1) qa qc (g := mkF m pc L (argsL.reverse ++ .ref a :: rest)) rfl (by rw [q.2.2.1]; exact hml) (Steps.refl _) (argsL := argsL) (rest := rest) (lenOf pd hlen) rfl (by simpa using hW) (hb q.2.1 hd) (fun _ _ => ⟨rfl, eT, hc, hl⟩)
  dsimp only [Pt.U, Pt.locs, Pt.cells, Pt.slots] at X' l1 y1 z1 st' hQ C' hS2 hg
  subst l1 y1 z1
  refine ⟨v, T'.vm, T'.heap, hQ.2, ⟨⟨_, hS.trans hS2 (Nat.le_trans hk0 (by rw [← eT]; exact hg)), Nat.le_refl _⟩, hC.trans C'⟩, C', ⟨q.1, q.2.1, q.2.2.1, (hS2.1.alike.findClass _ _).trans q.2.2.2.1, State.Warmed39.trans q.2.2.2.2.1 hS2.1, q.2.2.2.2.2⟩, T', _, X', rfl, N.app hQ.1, fun t u => st t (st'.trans u)⟩
theorem Rch.callSW {hs : Heap} {z : MethodName} {bc' : ByteArray} {ml' : Nat} {rt' : Option FieldType} {rm : Room} {idx : Nat} {ps : List FieldType} {ro : Option FieldType} {Q : Option Value → Heap → Prop} (argsL : List Value) {rest : List Value} (W : Nat)
    (r : Rch p l e R (s.setVm vm0) m args below meth c Z y bc ml rt n0 T0 g0 k n h (mkF m pc L S)) (wd : Wd Z EL s hs vm0 h) (hEL : EW Z a0 EL) (hd : decode bc pc = .ok (.invokestatic idx, 3)) (w1 : (Jvm.Cond.methodLink y.cls idx z).before a0 Z = true) (w2 : (Jvm.Cond.static z).before a0 Z = true) (w3 : (Jvm.Cond.initialized z.cls).before a0 Z = true) (w4 : (Jvm.Cond.code z bc' ml' rt').before a0 Z = true)
    (hy : z.cls ≠ "java/lang/invoke/MethodHandle" ∧ z.cls ≠ "java/lang/invoke/VarHandle") (C : CtrW l Z EL z bc' ml' rt' rm argsL.toArray h n0 Q) (pd : parseMethodDescriptor z.desc = some ⟨ps, ro⟩) (hlen : argsL.length = ps.length) (hS : S = argsL.reverse ++ rest) (hml : L.size = ml)
    (hW : (rest.map fun v => v.category).sum ≤ W) (hf : rm.frames + 1 ≤ R.frames) (hlo : W + (ml' + 11) + rm.locals ≤ R.locals) {k' n' : Nat} (hk : k + rm.cells = k') (hn' : n + rm.slots = n') (hc : k' ≤ R.cells) (hl : n' ≤ R.slots) (hp : pc + 3 = pc') :
    ∃ v vm1 h', Q v h' ∧ Wd Z EL s hs vm1 h' ∧ CHr Z EL vm0 h vm1 h' ∧ Rch p l e R (s.setVm vm1) m args below meth c Z y bc ml rt n0 T0 g0 k' n' h' (mkF m pc' L (v.toList ++ rest)) := by
  subst hp hS hk hn'
  obtain ⟨q, T, locs, X, eT, N, st⟩ := r
  obtain ⟨⟨k0, hS, hk0⟩, hC⟩ := wd
  obtain ⟨v, _, ⟨T', L', kk', nn'⟩, -, X', hS2, hg, ⟨Lc, hQ, l1, y1, z1, C'⟩, st'⟩ := callSS X q.1 (y := z) q.2.2.2.1 (mvT q.2.2.2.2.1 w1) (mvT q.2.2.2.2.1 w2) (mvT q.2.2.2.2.1 w3) (mvT q.2.2.2.2.1 w4) hy (backOfSH (W := W) (Q := fun v h L => Fr n0 L ∧ Q v h) (C []) (show Z.Warmed39 vm0 from q.2.2.2.2.1) w4 w3 hf hlo hEL hC.1) (g := mkF m pc L (argsL.reverse ++ rest)) rfl (by rw [q.2.2.1]; exact hml) (argsL := argsL) (rest := rest) (lenOf pd hlen) rfl (by simpa using hW) (hb q.2.1 hd) (fun _ _ => ⟨rfl, eT, hc, hl⟩)
  dsimp only [Pt.U, Pt.locs, Pt.cells, Pt.slots] at X' l1 y1 z1 st' hQ C' hS2 hg
  subst l1 y1 z1
  refine ⟨v, T'.vm, T'.heap, hQ.2, ⟨⟨_, hS.trans hS2 (Nat.le_trans hk0 (by rw [← eT]; exact hg)), Nat.le_refl _⟩, hC.trans C'⟩, C', ⟨q.1, q.2.1, q.2.2.1, (hS2.1.alike.findClass _ _).trans q.2.2.2.1, State.Warmed39.trans q.2.2.2.2.1 hS2.1, q.2.2.2.2.2⟩, T', _, X', rfl, N.app hQ.1, fun t u => st t (st'.trans u)⟩
theorem Don.wide {hs : Heap} {v : Option Value} (d : Don p l e R (s.setVm vm0) m args below meth c rt n0 T0 g0 v h) {g : JFrame} (r : Rch p l e R (s.setVm vm0) m args below meth c Z y bc ml rt n0 T0 g0 k n h g) (w : Wd Z EL s hs vm0 h) : DonW p l e R s m args below meth c rt n0 T0 g0 Z EL hs v h := ⟨vm0, d, w, r.1.2.2.2.2.1⟩
-- class tests
theorem Rch.instY {idx : Nat} {K : String} {a : Addr} (r : Rch p l e R s m args below meth c Z y bc ml rt n0 T0 g0 k n h (mkF m pc L (.ref a :: S))) (hd : decode bc pc = .ok (.instanceof idx, 3)) (w : (Jvm.Cond.classLink y.cls idx K).before a0 Z = true) (F : Ins Z h a K true) (hp : pc + 3 = pc') : Rch p l e R s m args below meth c Z y bc ml rt n0 T0 g0 k n h (mkF m pc' L (.int 1 :: S)) := by
  subst hp; exact r.keep fun T locs X eT => instY X r.1.1 r.1.2.2.2.2.1 r.1.2.2.2.1 w eT F (g := mkF m pc L (.ref a :: S)) rfl rfl (hb r.1.2.1 hd)
theorem Rch.castY {idx : Nat} {K : String} {a : Addr} (r : Rch p l e R s m args below meth c Z y bc ml rt n0 T0 g0 k n h (mkF m pc L (.ref a :: S))) (hd : decode bc pc = .ok (.checkcast idx, 3)) (w : (Jvm.Cond.classLink y.cls idx K).before a0 Z = true) (F : Ins Z h a K true) (hp : pc + 3 = pc') : Rch p l e R s m args below meth c Z y bc ml rt n0 T0 g0 k n h (mkF m pc' L (.ref a :: S)) := by
  subst hp; exact r.keep fun T locs X eT => castY X r.1.1 r.1.2.2.2.2.1 r.1.2.2.2.1 w eT F (g := mkF m pc L (.ref a :: S)) rfl rfl (hb r.1.2.1 hd)
end OwnWide

def Str (Z : State) (h : Heap) (a b : Addr) (z : Int32) (F : List Int32) : Prop := Exa Z h a "java/lang/String" ∧ Fld Z h a "java/lang/String" "coder" "B" (.int 0) ∧ Fld Z h a "java/lang/String" "value" "[B" (.ref b) ∧ ArB Z h b z F
theorem Str.ext {Z : State} {h h' : Heap} {a b : Addr} {z : Int32} {F : List Int32} (s : Str Z h a b z F) (E : Ext h h') : Str Z h' a b z F := ⟨s.1.ext E, s.2.1.ext E, s.2.2.1.ext E, s.2.2.2.ext E⟩
theorem ArB.szu {Z : State} {h : Heap} {b : Addr} {z z' : Int32} {F F' : List Int32} (v : ArB Z h b z F) (v' : ArB Z h b z' F') : z.toNatClampNeg = z'.toNatClampNeg := by
  obtain ⟨k, cl, A, -, S, -⟩ := v
  obtain ⟨k', cl', A', -, S', -⟩ := v'
  cases A.1.symm.trans A'.1
  rw [← S, ← S']
theorem Fld.valu {Z : State} {h : Heap} {a : Addr} {C n d : String} {v w : Value} (F : Fld Z h a C n d v) (G : Fld Z h a C n d w) : v = w := by
  apply Classical.byContradiction
  intro q
  exact Jvm.RoadKit.Fld.ne F G q rfl
theorem Str.ne {Z : State} {h : Heap} {a b a' b' : Addr} {z z' : Int32} {F F' : List Int32} (s : Str Z h a b z F) (s' : Str Z h a' b' z' F') (hz : z.toNatClampNeg ≠ z'.toNatClampNeg) : a ≠ a' := fun q => by
  subst q
  have e := Fld.valu s.2.2.1 s'.2.2.1
  cases e
  exact hz (s.2.2.2.szu s'.2.2.2)
theorem pn_java_lang_String : plainName "java/lang/String" = true := by first | (simp [plainName, overriddenIn]; done) | decide +kernel
theorem d7_0 : decode jdk_42_method_152_code 0 = .ok (.getstatic 38, 3) := by decide +kernel
theorem d7_3 : decode jdk_42_method_152_code 3 = .ok (.ifCond .eq 10, 3) := by decide +kernel
theorem d7_6 : decode jdk_42_method_152_code 6 = .ok (.aload_n 0, 1) := by decide +kernel
theorem d7_7 : decode jdk_42_method_152_code 7 = .ok (.getfield 15, 3) := by decide +kernel
theorem d7_10 : decode jdk_42_method_152_code 10 = .ok (.goto 4, 3) := by decide +kernel
theorem d7_14 : decode jdk_42_method_152_code 14 = .ok (.ireturn, 1) := by decide +kernel
set_option maxRecDepth 65536 in
set_option maxHeartbeats 40000000 in
theorem s_coder (l : Launch) (Z : State) (a0 : Array Value) (hw : ∀ d ∈ tables_1, d.before a0 Z = true) (a : Addr) (h0 : Heap) (n0 : Nat) (F : Fld Z h0 a "java/lang/String" "coder" "B" (.int 0)) (cs : Int32) (SCS : Sta Z h0 "java/lang/String" "COMPACT_STRINGS" "Z" (.int cs)) (hcs : ¬ cs = 0) :
    Ctr l Z (⟨"java/lang/String", "coder", "()B"⟩ : MethodName) jdk_42_method_152_code 1 (some .byte) ({ frames := 0, cells := 0, slots := 0, locals := 0 } : Room) #[(.ref a)] h0 n0 (fun v h => v = some (.int 0) ∧ h0 = h) := by
  refine ent (plainFor_of_name pn_java_lang_String) (L0 := #[.val (.ref a)]) (fun m => by first | (simp [entryFrame, mkF, argsToLocals, Value.category]; done) | rfl) ?_
  intro p e s m below meth c T0 r0
  have r1 := r0.getS (host := "") (pc' := 3) d7_0 (Or.inl (hw _ (List.mem_of_getElem? (i := 45) rfl))) Via.refl SCS rfl
  have r2 := r1.ifF (pc' := 6) d7_3 (feq hcs).1 rfl
  have r3 := r2.aloadN (pc' := 7) d7_6 rfl rfl rfl
  have r4 := r3.getF (host := "") (pc' := 10) d7_7 (Or.inl (hw _ (List.mem_of_getElem? (i := 46) rfl))) Via.refl F rfl
  have r5 := r4.goto (pc' := 14) d7_10 (by decide) (by decide)
  exact ⟨_, _, r5.retZ d7_14 rfl (t := .byte) (by simp) (0 : Int32) rfl (by decide) (by decide), rfl, rfl⟩
theorem d9_0 : decode jdk_42_method_154_code 0 = .ok (.getstatic 38, 3) := by decide +kernel
theorem d9_3 : decode jdk_42_method_154_code 3 = .ok (.ifCond .eq 14, 3) := by decide +kernel
theorem d9_6 : decode jdk_42_method_154_code 6 = .ok (.aload_n 0, 1) := by decide +kernel
theorem d9_7 : decode jdk_42_method_154_code 7 = .ok (.getfield 15, 3) := by decide +kernel
theorem d9_10 : decode jdk_42_method_154_code 10 = .ok (.ifCond .ne 7, 3) := by decide +kernel
theorem d9_13 : decode jdk_42_method_154_code 13 = .ok (.iconst 1, 1) := by decide +kernel
theorem d9_14 : decode jdk_42_method_154_code 14 = .ok (.goto 4, 3) := by decide +kernel
theorem d9_18 : decode jdk_42_method_154_code 18 = .ok (.ireturn, 1) := by decide +kernel
set_option maxRecDepth 65536 in
set_option maxHeartbeats 40000000 in
theorem s_isl (l : Launch) (Z : State) (a0 : Array Value) (hw : ∀ d ∈ tables_1, d.before a0 Z = true) (a : Addr) (h0 : Heap) (n0 : Nat) (F : Fld Z h0 a "java/lang/String" "coder" "B" (.int 0)) (cs : Int32) (SCS : Sta Z h0 "java/lang/String" "COMPACT_STRINGS" "Z" (.int cs)) (hcs : ¬ cs = 0) :
    Ctr l Z (⟨"java/lang/String", "isLatin1", "()Z"⟩ : MethodName) jdk_42_method_154_code 1 (some .boolean) ({ frames := 0, cells := 0, slots := 0, locals := 0 } : Room) #[(.ref a)] h0 n0 (fun v h => v = some (.int 1) ∧ h0 = h) := by
  refine ent (plainFor_of_name pn_java_lang_String) (L0 := #[.val (.ref a)]) (fun m => by first | (simp [entryFrame, mkF, argsToLocals, Value.category]; done) | rfl) ?_
  intro p e s m below meth c T0 r0
  have r6 := r0.getS (host := "") (pc' := 3) d9_0 (Or.inl (hw _ (List.mem_of_getElem? (i := 45) rfl))) Via.refl SCS rfl
  have r7 := r6.ifF (pc' := 6) d9_3 (feq hcs).1 rfl
  have r8 := r7.aloadN (pc' := 7) d9_6 rfl rfl rfl
  have r9 := r8.getF (host := "") (pc' := 10) d9_7 (Or.inl (hw _ (List.mem_of_getElem? (i := 46) rfl))) Via.refl F rfl
  have r10 := r9.ifF (pc' := 13) d9_10 (teq (by decide : (0 : Int32) = (0 : Int32))).2 rfl
  have r11 := r10.iconst (pc' := 14) (1 : Int32) d9_13 rfl rfl
  have r12 := r11.goto (pc' := 18) d9_14 (by decide) (by decide)
  exact ⟨_, _, r12.retZ d9_18 rfl (t := .boolean) (by simp) (1 : Int32) rfl (by decide) (by decide), rfl, rfl⟩
theorem d6_0 : decode jdk_42_method_54_code 0 = .ok (.aload_n 0, 1) := by decide +kernel
theorem d6_1 : decode jdk_42_method_54_code 1 = .ok (.getfield 9, 3) := by decide +kernel
theorem d6_4 : decode jdk_42_method_54_code 4 = .ok (.arraylength, 1) := by decide +kernel
theorem d6_5 : decode jdk_42_method_54_code 5 = .ok (.aload_n 0, 1) := by decide +kernel
theorem d6_6 : decode jdk_42_method_54_code 6 = .ok (.invokevirtual 335, 3) := by decide +kernel
theorem pd_0 : parseMethodDescriptor "()B" = some ⟨[], some .byte⟩ := by decide +kernel
theorem d6_9 : decode jdk_42_method_54_code 9 = .ok (.ishr, 1) := by decide +kernel
theorem d6_10 : decode jdk_42_method_54_code 10 = .ok (.ireturn, 1) := by decide +kernel
set_option maxRecDepth 65536 in
set_option maxHeartbeats 40000000 in
theorem s_len (l : Launch) (Z : State) (a0 : Array Value) (hw : ∀ d ∈ tables_1, d.before a0 Z = true) (a b : Addr) (z : Int32) (F : List Int32) (h0 : Heap) (n0 : Nat) (A : Str Z h0 a b z F) (hz : z >>> ((0 : Int32) &&& 31) = z) (cs : Int32) (SCS : Sta Z h0 "java/lang/String" "COMPACT_STRINGS" "Z" (.int cs)) (hcs : ¬ cs = 0) :
    Ctr l Z (⟨"java/lang/String", "length", "()I"⟩ : MethodName) jdk_42_method_54_code 1 (some .int) ({ frames := 1, cells := 0, slots := 0, locals := 13 } : Room) #[(.ref a)] h0 n0 (fun v h => v = some (.int z) ∧ h0 = h) := by
  refine ent (plainFor_of_name pn_java_lang_String) (L0 := #[.val (.ref a)]) (fun m => by first | (simp [entryFrame, mkF, argsToLocals, Value.category]; done) | rfl) ?_
  intro p e s m below meth c T0 r0
  have r13 := r0.aloadN (pc' := 1) d6_0 rfl rfl rfl
  have r14 := r13.getF (host := "") (pc' := 4) d6_1 (Or.inl (hw _ (List.mem_of_getElem? (i := 39) rfl))) Via.refl A.2.2.1 rfl
  have r15 := r14.lenB (pc' := 5) d6_4 A.2.2.2 rfl
  have r16 := r15.aloadN (pc' := 6) d6_5 rfl rfl rfl
  obtain ⟨v19, h20, hq18, r17⟩ := r16.callV (pc' := 9) (a := a) [] (rest := [(.int z)]) 1 d6_6 (hw _ (List.mem_of_getElem? (i := 40) rfl)) (hw _ (List.mem_of_getElem? (i := 41) rfl)) (r16.nface (hw _ (List.mem_of_getElem? (i := 43) rfl)) rfl) (hw _ (List.mem_of_getElem? (i := 43) rfl)) (hw _ (List.mem_of_getElem? (i := 42) rfl)) (hw _ (List.mem_of_getElem? (i := 22) rfl)) (hw _ (List.mem_of_getElem? (i := 44) rfl)) (by decide) (s_coder l Z a0 hw a h0 n0 A.2.1 cs SCS hcs) A.1 pd_0 rfl rfl rfl (Nat.le_of_ble_eq_true rfl) (by decide) (by decide) (k' := 0) (n' := 0) rfl rfl (by decide) (by decide) rfl
  obtain ⟨rfl, rfl⟩ := hq18
  dsimp only [Option.toList, List.cons_append, List.nil_append] at r17
  have r21 := r17.ishr (pc' := 10) (u := z) d6_9 hz rfl
  exact ⟨_, _, r21.retI d6_10 rfl (by decide) (by decide), rfl, rfl⟩
theorem pn_jdk_internal_util_Preconditions : plainName "jdk/internal/util/Preconditions" = true := by first | (simp [plainName, overriddenIn]; done) | decide +kernel
theorem d12_0 : decode jdk_41_method_11_code 0 = .ok (.iload_n 0, 1) := by decide +kernel
theorem d12_1 : decode jdk_41_method_11_code 1 = .ok (.ifCond .lt 8, 3) := by decide +kernel
theorem d12_4 : decode jdk_41_method_11_code 4 = .ok (.iload_n 0, 1) := by decide +kernel
theorem d12_5 : decode jdk_41_method_11_code 5 = .ok (.iload_n 1, 1) := by decide +kernel
theorem d12_6 : decode jdk_41_method_11_code 6 = .ok (.if_icmp .lt 10, 3) := by decide +kernel
theorem d12_16 : decode jdk_41_method_11_code 16 = .ok (.iload_n 0, 1) := by decide +kernel
theorem d12_17 : decode jdk_41_method_11_code 17 = .ok (.ireturn, 1) := by decide +kernel
set_option maxRecDepth 65536 in
set_option maxHeartbeats 40000000 in
theorem s_pre0 (l : Launch) (Z : State) (a0 : Array Value) (hw : ∀ d ∈ tables_1, d.before a0 Z = true) (i n' : Int32) (h0 : Heap) (n0 : Nat) (h1 : ¬ i < 0) (h2 : i < n') :
    Ctr l Z (⟨"jdk/internal/util/Preconditions", "checkIndex", "(IILjava/util/function/BiFunction;)I"⟩ : MethodName) jdk_41_method_11_code 3 (some .int) ({ frames := 0, cells := 0, slots := 0, locals := 0 } : Room) #[(.int i), (.int n'), .null] h0 n0 (fun v h => v = some (.int i) ∧ h0 = h) := by
  refine ent (plainFor_of_name pn_jdk_internal_util_Preconditions) (L0 := #[.val (.int i), .val (.int n'), .val .null]) (fun m => by first | (simp [entryFrame, mkF, argsToLocals, Value.category]; done) | rfl) ?_
  intro p e s m below meth c T0 r0
  have r22 := r0.iloadN (pc' := 1) d12_0 rfl rfl
  have r23 := r22.ifF (pc' := 4) d12_1 (flt h1).1 rfl
  have r24 := r23.iloadN (pc' := 5) d12_4 rfl rfl
  have r25 := r24.iloadN (pc' := 6) d12_5 rfl rfl
  have r26 := r25.icT (pc' := 16) d12_6 (tlt h2).1 (by decide) (by decide)
  have r27 := r26.iloadN (pc' := 17) d12_16 rfl rfl
  exact ⟨_, _, r27.retI d12_17 rfl (by decide) (by decide), rfl, rfl⟩
set_option maxRecDepth 65536 in
set_option maxHeartbeats 40000000 in
theorem s_pre1 (l : Launch) (Z : State) (a0 : Array Value) (hw : ∀ d ∈ tables_1, d.before a0 Z = true) (i n' : Int32) (fA : Addr) (h0 : Heap) (n0 : Nat) (h1 : ¬ i < 0) (h2 : i < n') :
    Ctr l Z (⟨"jdk/internal/util/Preconditions", "checkIndex", "(IILjava/util/function/BiFunction;)I"⟩ : MethodName) jdk_41_method_11_code 3 (some .int) ({ frames := 0, cells := 0, slots := 0, locals := 0 } : Room) #[(.int i), (.int n'), (.ref fA)] h0 n0 (fun v h => v = some (.int i) ∧ h0 = h) := by
  refine ent (plainFor_of_name pn_jdk_internal_util_Preconditions) (L0 := #[.val (.int i), .val (.int n'), .val (.ref fA)]) (fun m => by first | (simp [entryFrame, mkF, argsToLocals, Value.category]; done) | rfl) ?_
  intro p e s m below meth c T0 r0
  have r28 := r0.iloadN (pc' := 1) d12_0 rfl rfl
  have r29 := r28.ifF (pc' := 4) d12_1 (flt h1).1 rfl
  have r30 := r29.iloadN (pc' := 5) d12_4 rfl rfl
  have r31 := r30.iloadN (pc' := 6) d12_5 rfl rfl
  have r32 := r31.icT (pc' := 16) d12_6 (tlt h2).1 (by decide) (by decide)
  have r33 := r32.iloadN (pc' := 17) d12_16 rfl rfl
  exact ⟨_, _, r33.retI d12_17 rfl (by decide) (by decide), rfl, rfl⟩
theorem d11_0 : decode jdk_42_method_155_code 0 = .ok (.iload_n 0, 1) := by decide +kernel
theorem d11_1 : decode jdk_42_method_155_code 1 = .ok (.iload_n 1, 1) := by decide +kernel
theorem d11_2 : decode jdk_42_method_155_code 2 = .ok (.getstatic 1053, 3) := by decide +kernel
theorem d11_5 : decode jdk_42_method_155_code 5 = .ok (.invokestatic 1059, 3) := by decide +kernel
theorem pd_8 : parseMethodDescriptor "(IILjava/util/function/BiFunction;)I" = some ⟨[.int, .int, (.object "java/util/function/BiFunction")], some .int⟩ := by decide +kernel
theorem d11_8 : decode jdk_42_method_155_code 8 = .ok (.pop, 1) := by decide +kernel
theorem d11_9 : decode jdk_42_method_155_code 9 = .ok (.return_, 1) := by decide +kernel
set_option maxRecDepth 65536 in
set_option maxHeartbeats 40000000 in
theorem s_chk (l : Launch) (Z : State) (a0 : Array Value) (hw : ∀ d ∈ tables_1, d.before a0 Z = true) (i n' : Int32) (h0 : Heap) (n0 : Nat) (h1 : ¬ i < 0) (h2 : i < n') (vF : Value) (SFF : Sta Z h0 "jdk/internal/util/Preconditions" "SIOOBE_FORMATTER" "Ljava/util/function/BiFunction;" vF) (hvF : vF.isRef = true) :
    Ctr l Z (⟨"java/lang/String", "checkIndex", "(II)V"⟩ : MethodName) jdk_42_method_155_code 2 none ({ frames := 1, cells := 0, slots := 0, locals := 14 } : Room) #[(.int i), (.int n')] h0 n0 (fun v h => v = none ∧ h0 = h) := by
  refine ent (plainFor_of_name pn_java_lang_String) (L0 := #[.val (.int i), .val (.int n')]) (fun m => by first | (simp [entryFrame, mkF, argsToLocals, Value.category]; done) | rfl) ?_
  intro p e s m below meth c T0 r0
  rcases ref_cases hvF with rfl | ⟨fA, rfl⟩
  · -- 0
    have r34 := r0.iloadN (pc' := 1) d11_0 rfl rfl
    have r35 := r34.iloadN (pc' := 2) d11_1 rfl rfl
    have r36 := r35.getS (host := "") (pc' := 5) d11_2 (Or.inl (hw _ (List.mem_of_getElem? (i := 64) rfl))) Via.refl SFF rfl
    obtain ⟨v39, h40, hq38, r37⟩ := r36.callS (pc' := 8) [(.int i), (.int n'), .null] (rest := []) 0 d11_5 (hw _ (List.mem_of_getElem? (i := 66) rfl)) (hw _ (List.mem_of_getElem? (i := 67) rfl)) (hw _ (List.mem_of_getElem? (i := 65) rfl)) (hw _ (List.mem_of_getElem? (i := 68) rfl)) (by decide) (s_pre0 l Z a0 hw i n'  h0 n0 h1 h2) pd_8 rfl rfl rfl (Nat.le_of_ble_eq_true rfl) (by decide) (by decide) (k' := 0) (n' := 0) rfl rfl (by decide) (by decide) rfl
    obtain ⟨rfl, rfl⟩ := hq38
    dsimp only [Option.toList, List.cons_append, List.nil_append] at r37
    have r41 := r37.pop (pc' := 9) d11_8 rfl rfl
    exact ⟨_, _, r41.retV d11_9 rfl (by decide) (by decide), rfl, rfl⟩
  · -- 1
    have r42 := r0.iloadN (pc' := 1) d11_0 rfl rfl
    have r43 := r42.iloadN (pc' := 2) d11_1 rfl rfl
    have r44 := r43.getS (host := "") (pc' := 5) d11_2 (Or.inl (hw _ (List.mem_of_getElem? (i := 64) rfl))) Via.refl SFF rfl
    obtain ⟨v47, h48, hq46, r45⟩ := r44.callS (pc' := 8) [(.int i), (.int n'), (.ref fA)] (rest := []) 0 d11_5 (hw _ (List.mem_of_getElem? (i := 66) rfl)) (hw _ (List.mem_of_getElem? (i := 67) rfl)) (hw _ (List.mem_of_getElem? (i := 65) rfl)) (hw _ (List.mem_of_getElem? (i := 68) rfl)) (by decide) (s_pre1 l Z a0 hw i n' fA h0 n0 h1 h2) pd_8 rfl rfl rfl (Nat.le_of_ble_eq_true rfl) (by decide) (by decide) (k' := 0) (n' := 0) rfl rfl (by decide) (by decide) rfl
    obtain ⟨rfl, rfl⟩ := hq46
    dsimp only [Option.toList, List.cons_append, List.nil_append] at r45
    have r49 := r45.pop (pc' := 9) d11_8 rfl rfl
    exact ⟨_, _, r49.retV d11_9 rfl (by decide) (by decide), rfl, rfl⟩
theorem pn_java_lang_StringLatin1 : plainName "java/lang/StringLatin1" = true := by first | (simp [plainName, overriddenIn]; done) | decide +kernel
theorem d10_0 : decode jdk_43_method_2_code 0 = .ok (.iload_n 1, 1) := by decide +kernel
theorem d10_1 : decode jdk_43_method_2_code 1 = .ok (.aload_n 0, 1) := by decide +kernel
theorem d10_2 : decode jdk_43_method_2_code 2 = .ok (.arraylength, 1) := by decide +kernel
theorem d10_3 : decode jdk_43_method_2_code 3 = .ok (.invokestatic 9, 3) := by decide +kernel
theorem pd_7 : parseMethodDescriptor "(II)V" = some ⟨[.int, .int], none⟩ := by decide +kernel
theorem d10_6 : decode jdk_43_method_2_code 6 = .ok (.aload_n 0, 1) := by decide +kernel
theorem d10_7 : decode jdk_43_method_2_code 7 = .ok (.iload_n 1, 1) := by decide +kernel
theorem d10_8 : decode jdk_43_method_2_code 8 = .ok (.baload, 1) := by decide +kernel
theorem d10_9 : decode jdk_43_method_2_code 9 = .ok (.sipush 255, 3) := by decide +kernel
theorem d10_12 : decode jdk_43_method_2_code 12 = .ok (.iand, 1) := by decide +kernel
theorem d10_13 : decode jdk_43_method_2_code 13 = .ok (.i2c, 1) := by decide +kernel
theorem d10_14 : decode jdk_43_method_2_code 14 = .ok (.ireturn, 1) := by decide +kernel
set_option maxRecDepth 65536 in
set_option maxHeartbeats 40000000 in
theorem s_l1 (l : Launch) (Z : State) (a0 : Array Value) (hw : ∀ d ∈ tables_1, d.before a0 Z = true) (b : Addr) (i z u : Int32) (F : List Int32) (h0 : Heap) (n0 : Nat) (V : ArB Z h0 b z F) (h1 : ¬ i < 0) (h2 : i < z) (hu : nar .char (((F.getD i.toNatClampNeg 0) &&& (255 : Int32)).toUInt32.toUInt16.toUInt32.toInt32) = u) (vF : Value) (SFF : Sta Z h0 "jdk/internal/util/Preconditions" "SIOOBE_FORMATTER" "Ljava/util/function/BiFunction;" vF) (hvF : vF.isRef = true) :
    Ctr l Z (⟨"java/lang/StringLatin1", "charAt", "([BI)C"⟩ : MethodName) jdk_43_method_2_code 2 (some .char) ({ frames := 2, cells := 0, slots := 0, locals := 27 } : Room) #[(.ref b), (.int i)] h0 n0 (fun v h => v = some (.int u) ∧ h0 = h) := by
  refine ent (plainFor_of_name pn_java_lang_StringLatin1) (L0 := #[.val (.ref b), .val (.int i)]) (fun m => by first | (simp [entryFrame, mkF, argsToLocals, Value.category]; done) | rfl) ?_
  intro p e s m below meth c T0 r0
  have r50 := r0.iloadN (pc' := 1) d10_0 rfl rfl
  have r51 := r50.aloadN (pc' := 2) d10_1 rfl rfl rfl
  have r52 := r51.lenB (pc' := 3) d10_2 V rfl
  obtain ⟨v55, h56, hq54, r53⟩ := r52.callS (pc' := 6) [(.int i), (.int z)] (rest := []) 0 d10_3 (hw _ (List.mem_of_getElem? (i := 61) rfl)) (hw _ (List.mem_of_getElem? (i := 62) rfl)) (hw _ (List.mem_of_getElem? (i := 22) rfl)) (hw _ (List.mem_of_getElem? (i := 63) rfl)) (by decide) (s_chk l Z a0 hw i z h0 n0 h1 h2 vF SFF hvF) pd_7 rfl rfl rfl (Nat.le_of_ble_eq_true rfl) (by decide) (by decide) (k' := 0) (n' := 0) rfl rfl (by decide) (by decide) rfl
  obtain ⟨rfl, rfl⟩ := hq54
  dsimp only [Option.toList, List.cons_append, List.nil_append] at r53
  have r57 := r53.aloadN (pc' := 7) d10_6 rfl rfl rfl
  have r58 := r57.iloadN (pc' := 8) d10_7 rfl rfl
  have r59 := r58.gB (pc' := 9) d10_8 V h1 h2 rfl
  have r60 := r59.sipush (pc' := 12) (255 : Int32) d10_9 rfl rfl
  have r61 := r60.iand (pc' := 13) d10_12 rfl rfl
  have r62 := r61.i2c (pc' := 14) d10_13 rfl rfl
  exact ⟨_, _, r62.retZ d10_14 rfl (t := .char) (by simp) u hu (by decide) (by decide), rfl, rfl⟩
theorem d8_0 : decode jdk_42_method_56_code 0 = .ok (.aload_n 0, 1) := by decide +kernel
theorem d8_1 : decode jdk_42_method_56_code 1 = .ok (.invokevirtual 492, 3) := by decide +kernel
theorem pd_4 : parseMethodDescriptor "()Z" = some ⟨[], some .boolean⟩ := by decide +kernel
theorem d8_4 : decode jdk_42_method_56_code 4 = .ok (.ifCond .eq 12, 3) := by decide +kernel
theorem d8_7 : decode jdk_42_method_56_code 7 = .ok (.aload_n 0, 1) := by decide +kernel
theorem d8_8 : decode jdk_42_method_56_code 8 = .ok (.getfield 9, 3) := by decide +kernel
theorem d8_11 : decode jdk_42_method_56_code 11 = .ok (.iload_n 1, 1) := by decide +kernel
theorem d8_12 : decode jdk_42_method_56_code 12 = .ok (.invokestatic 495, 3) := by decide +kernel
theorem pd_12 : parseMethodDescriptor "([BI)C" = some ⟨[(.array .byte), .int], some .char⟩ := by decide +kernel
theorem d8_15 : decode jdk_42_method_56_code 15 = .ok (.ireturn, 1) := by decide +kernel
set_option maxRecDepth 65536 in
set_option maxHeartbeats 40000000 in
theorem s_at (l : Launch) (Z : State) (a0 : Array Value) (hw : ∀ d ∈ tables_1, d.before a0 Z = true) (a b : Addr) (i z u : Int32) (F : List Int32) (h0 : Heap) (n0 : Nat) (A : Str Z h0 a b z F) (h1 : ¬ i < 0) (h2 : i < z) (hu : nar .char (((F.getD i.toNatClampNeg 0) &&& (255 : Int32)).toUInt32.toUInt16.toUInt32.toInt32) = u) (hu2 : nar .char u = u) (cs : Int32) (SCS : Sta Z h0 "java/lang/String" "COMPACT_STRINGS" "Z" (.int cs)) (hcs : ¬ cs = 0) (vF : Value) (SFF : Sta Z h0 "jdk/internal/util/Preconditions" "SIOOBE_FORMATTER" "Ljava/util/function/BiFunction;" vF) (hvF : vF.isRef = true) :
    Ctr l Z (⟨"java/lang/String", "charAt", "(I)C"⟩ : MethodName) jdk_42_method_56_code 2 (some .char) ({ frames := 3, cells := 0, slots := 0, locals := 40 } : Room) #[(.ref a), (.int i)] h0 n0 (fun v h => v = some (.int u) ∧ h0 = h) := by
  refine ent (plainFor_of_name pn_java_lang_String) (L0 := #[.val (.ref a), .val (.int i)]) (fun m => by first | (simp [entryFrame, mkF, argsToLocals, Value.category]; done) | rfl) ?_
  intro p e s m below meth c T0 r0
  have r63 := r0.aloadN (pc' := 1) d8_0 rfl rfl rfl
  obtain ⟨v66, h67, hq65, r64⟩ := r63.callV (pc' := 4) (a := a) [] (rest := []) 0 d8_1 (hw _ (List.mem_of_getElem? (i := 52) rfl)) (hw _ (List.mem_of_getElem? (i := 53) rfl)) (r63.nface (hw _ (List.mem_of_getElem? (i := 55) rfl)) rfl) (hw _ (List.mem_of_getElem? (i := 55) rfl)) (hw _ (List.mem_of_getElem? (i := 54) rfl)) (hw _ (List.mem_of_getElem? (i := 22) rfl)) (hw _ (List.mem_of_getElem? (i := 56) rfl)) (by decide) (s_isl l Z a0 hw a h0 n0 A.2.1 cs SCS hcs) A.1 pd_4 rfl rfl rfl (Nat.le_of_ble_eq_true rfl) (by decide) (by decide) (k' := 0) (n' := 0) rfl rfl (by decide) (by decide) rfl
  obtain ⟨rfl, rfl⟩ := hq65
  dsimp only [Option.toList, List.cons_append, List.nil_append] at r64
  have r68 := r64.ifF (pc' := 7) d8_4 (feq (by decide : ¬ (1 : Int32) = (0 : Int32))).1 rfl
  have r69 := r68.aloadN (pc' := 8) d8_7 rfl rfl rfl
  have r70 := r69.getF (host := "") (pc' := 11) d8_8 (Or.inl (hw _ (List.mem_of_getElem? (i := 39) rfl))) Via.refl A.2.2.1 rfl
  have r71 := r70.iloadN (pc' := 12) d8_11 rfl rfl
  obtain ⟨v74, h75, hq73, r72⟩ := r71.callS (pc' := 15) [(.ref b), (.int i)] (rest := []) 0 d8_12 (hw _ (List.mem_of_getElem? (i := 57) rfl)) (hw _ (List.mem_of_getElem? (i := 58) rfl)) (hw _ (List.mem_of_getElem? (i := 59) rfl)) (hw _ (List.mem_of_getElem? (i := 60) rfl)) (by decide) (s_l1 l Z a0 hw b i z u F h0 n0 A.2.2.2 h1 h2 hu vF SFF hvF) pd_12 rfl rfl rfl (Nat.le_of_ble_eq_true rfl) (by decide) (by decide) (k' := 0) (n' := 0) rfl rfl (by decide) (by decide) rfl
  obtain ⟨rfl, rfl⟩ := hq73
  dsimp only [Option.toList, List.cons_append, List.nil_append] at r72
  exact ⟨_, _, r72.retZ d8_15 rfl (t := .char) (by simp) u hu2 (by decide) (by decide), rfl, rfl⟩
theorem pn_com_example_quorum_atlas_quorumatlas_value_BoolValueToStringPinLaw : plainName "com/example/quorum_atlas/quorumatlas/value/BoolValueToStringPinLaw" = true := by first | (simp [plainName, overriddenIn]; done) | decide +kernel
theorem d13_0 : decode method_2_code 0 = .ok (.aload_n 0, 1) := by decide +kernel
theorem d13_1 : decode method_2_code 1 = .ok (.ifnull 55, 3) := by decide +kernel
theorem d13_4 : decode method_2_code 4 = .ok (.aload_n 0, 1) := by decide +kernel
theorem d13_5 : decode method_2_code 5 = .ok (.invokevirtual 7, 3) := by decide +kernel
theorem pd_1 : parseMethodDescriptor "()I" = some ⟨[], some .int⟩ := by decide +kernel
theorem d13_8 : decode method_2_code 8 = .ok (.iconst 4, 1) := by decide +kernel
theorem d13_9 : decode method_2_code 9 = .ok (.if_icmp .ne 47, 3) := by decide +kernel
theorem d13_12 : decode method_2_code 12 = .ok (.aload_n 0, 1) := by decide +kernel
theorem d13_13 : decode method_2_code 13 = .ok (.iconst 0, 1) := by decide +kernel
theorem d13_14 : decode method_2_code 14 = .ok (.invokevirtual 13, 3) := by decide +kernel
theorem pd_5 : parseMethodDescriptor "(I)C" = some ⟨[.int], some .char⟩ := by decide +kernel
theorem d13_17 : decode method_2_code 17 = .ok (.bipush 84, 2) := by decide +kernel
theorem d13_19 : decode method_2_code 19 = .ok (.if_icmp .ne 37, 3) := by decide +kernel
theorem d13_22 : decode method_2_code 22 = .ok (.aload_n 0, 1) := by decide +kernel
theorem d13_23 : decode method_2_code 23 = .ok (.iconst 1, 1) := by decide +kernel
theorem d13_24 : decode method_2_code 24 = .ok (.invokevirtual 13, 3) := by decide +kernel
theorem d13_27 : decode method_2_code 27 = .ok (.bipush 82, 2) := by decide +kernel
theorem d13_29 : decode method_2_code 29 = .ok (.if_icmp .ne 27, 3) := by decide +kernel
theorem d13_32 : decode method_2_code 32 = .ok (.aload_n 0, 1) := by decide +kernel
theorem d13_33 : decode method_2_code 33 = .ok (.iconst 2, 1) := by decide +kernel
theorem d13_34 : decode method_2_code 34 = .ok (.invokevirtual 13, 3) := by decide +kernel
theorem d13_37 : decode method_2_code 37 = .ok (.bipush 85, 2) := by decide +kernel
theorem d13_39 : decode method_2_code 39 = .ok (.if_icmp .ne 17, 3) := by decide +kernel
theorem d13_42 : decode method_2_code 42 = .ok (.aload_n 0, 1) := by decide +kernel
theorem d13_43 : decode method_2_code 43 = .ok (.iconst 3, 1) := by decide +kernel
theorem d13_44 : decode method_2_code 44 = .ok (.invokevirtual 13, 3) := by decide +kernel
theorem d13_47 : decode method_2_code 47 = .ok (.bipush 69, 2) := by decide +kernel
theorem d13_49 : decode method_2_code 49 = .ok (.if_icmp .ne 7, 3) := by decide +kernel
theorem d13_52 : decode method_2_code 52 = .ok (.iconst 1, 1) := by decide +kernel
theorem d13_53 : decode method_2_code 53 = .ok (.goto 4, 3) := by decide +kernel
theorem d13_57 : decode method_2_code 57 = .ok (.ireturn, 1) := by decide +kernel
set_option maxRecDepth 65536 in
set_option maxHeartbeats 40000000 in
theorem l_TRUE (l : Launch) (Z : State) (a0 : Array Value) (hw : ∀ d ∈ tables_1, d.before a0 Z = true) (a b : Addr) (h0 : Heap) (n0 : Nat) (A : Str Z h0 a b (4 : Int32) [84, 82, 85, 69]) (cs : Int32) (SCS : Sta Z h0 "java/lang/String" "COMPACT_STRINGS" "Z" (.int cs)) (hcs : ¬ cs = 0) (vF : Value) (SFF : Sta Z h0 "jdk/internal/util/Preconditions" "SIOOBE_FORMATTER" "Ljava/util/function/BiFunction;" vF) (hvF : vF.isRef = true) :
    Ctr l Z (⟨"com/example/quorum_atlas/quorumatlas/value/BoolValueToStringPinLaw", "isTrueLiteral", "(Ljava/lang/String;)Z"⟩ : MethodName) method_2_code 1 (some .boolean) ({ frames := 4, cells := 0, slots := 0, locals := 54 } : Room) #[(.ref a)] h0 n0 (fun v h => v = some (.int 1) ∧ h0 = h) := by
  refine ent (plainFor_of_name pn_com_example_quorum_atlas_quorumatlas_value_BoolValueToStringPinLaw) (L0 := #[.val (.ref a)]) (fun m => by first | (simp [entryFrame, mkF, argsToLocals, Value.category]; done) | rfl) ?_
  intro p e s m below meth c T0 r0
  have r76 := r0.aloadN (pc' := 1) d13_0 rfl rfl rfl
  have r77 := r76.nullF (pc' := 4) d13_1 rfl
  have r78 := r77.aloadN (pc' := 5) d13_4 rfl rfl rfl
  obtain ⟨v81, h82, hq80, r79⟩ := r78.callV (pc' := 8) (a := a) [] (rest := []) 0 d13_5 (hw _ (List.mem_of_getElem? (i := 34) rfl)) (hw _ (List.mem_of_getElem? (i := 35) rfl)) (r78.nface (hw _ (List.mem_of_getElem? (i := 37) rfl)) rfl) (hw _ (List.mem_of_getElem? (i := 37) rfl)) (hw _ (List.mem_of_getElem? (i := 36) rfl)) (hw _ (List.mem_of_getElem? (i := 22) rfl)) (hw _ (List.mem_of_getElem? (i := 38) rfl)) (by decide) (s_len l Z a0 hw a b (4 : Int32) [84, 82, 85, 69] h0 n0 A (by decide) cs SCS hcs) A.1 pd_1 rfl rfl rfl (Nat.le_of_ble_eq_true rfl) (by decide) (by decide) (k' := 0) (n' := 0) rfl rfl (by decide) (by decide) rfl
  obtain ⟨rfl, rfl⟩ := hq80
  dsimp only [Option.toList, List.cons_append, List.nil_append] at r79
  have r83 := r79.iconst (pc' := 9) (4 : Int32) d13_8 rfl rfl
  have r84 := r83.icF (pc' := 12) d13_9 (teq (by decide : (4 : Int32) = (4 : Int32))).2 rfl
  have r85 := r84.aloadN (pc' := 13) d13_12 rfl rfl rfl
  have r86 := r85.iconst (pc' := 14) (0 : Int32) d13_13 rfl rfl
  obtain ⟨v89, h90, hq88, r87⟩ := r86.callV (pc' := 17) (a := a) [(.int (0 : Int32))] (rest := []) 0 d13_14 (hw _ (List.mem_of_getElem? (i := 47) rfl)) (hw _ (List.mem_of_getElem? (i := 48) rfl)) (r86.nface (hw _ (List.mem_of_getElem? (i := 50) rfl)) rfl) (hw _ (List.mem_of_getElem? (i := 50) rfl)) (hw _ (List.mem_of_getElem? (i := 49) rfl)) (hw _ (List.mem_of_getElem? (i := 22) rfl)) (hw _ (List.mem_of_getElem? (i := 51) rfl)) (by decide) (s_at l Z a0 hw a b (0 : Int32) (4 : Int32) (84 : Int32) [84, 82, 85, 69] h0 n0 A (by decide) (by decide) (by decide) (by decide) cs SCS hcs vF SFF hvF) A.1 pd_5 rfl rfl rfl (Nat.le_of_ble_eq_true rfl) (by decide) (by decide) (k' := 0) (n' := 0) rfl rfl (by decide) (by decide) rfl
  obtain ⟨rfl, rfl⟩ := hq88
  dsimp only [Option.toList, List.cons_append, List.nil_append] at r87
  have r91 := r87.bipush (pc' := 19) (84 : Int32) d13_17 rfl rfl
  have r92 := r91.icF (pc' := 22) d13_19 (teq (by decide : (84 : Int32) = (84 : Int32))).2 rfl
  have r93 := r92.aloadN (pc' := 23) d13_22 rfl rfl rfl
  have r94 := r93.iconst (pc' := 24) (1 : Int32) d13_23 rfl rfl
  obtain ⟨v97, h98, hq96, r95⟩ := r94.callV (pc' := 27) (a := a) [(.int (1 : Int32))] (rest := []) 0 d13_24 (hw _ (List.mem_of_getElem? (i := 47) rfl)) (hw _ (List.mem_of_getElem? (i := 48) rfl)) (r94.nface (hw _ (List.mem_of_getElem? (i := 50) rfl)) rfl) (hw _ (List.mem_of_getElem? (i := 50) rfl)) (hw _ (List.mem_of_getElem? (i := 49) rfl)) (hw _ (List.mem_of_getElem? (i := 22) rfl)) (hw _ (List.mem_of_getElem? (i := 51) rfl)) (by decide) (s_at l Z a0 hw a b (1 : Int32) (4 : Int32) (82 : Int32) [84, 82, 85, 69] h0 n0 A (by decide) (by decide) (by decide) (by decide) cs SCS hcs vF SFF hvF) A.1 pd_5 rfl rfl rfl (Nat.le_of_ble_eq_true rfl) (by decide) (by decide) (k' := 0) (n' := 0) rfl rfl (by decide) (by decide) rfl
  obtain ⟨rfl, rfl⟩ := hq96
  dsimp only [Option.toList, List.cons_append, List.nil_append] at r95
  have r99 := r95.bipush (pc' := 29) (82 : Int32) d13_27 rfl rfl
  have r100 := r99.icF (pc' := 32) d13_29 (teq (by decide : (82 : Int32) = (82 : Int32))).2 rfl
  have r101 := r100.aloadN (pc' := 33) d13_32 rfl rfl rfl
  have r102 := r101.iconst (pc' := 34) (2 : Int32) d13_33 rfl rfl
  obtain ⟨v105, h106, hq104, r103⟩ := r102.callV (pc' := 37) (a := a) [(.int (2 : Int32))] (rest := []) 0 d13_34 (hw _ (List.mem_of_getElem? (i := 47) rfl)) (hw _ (List.mem_of_getElem? (i := 48) rfl)) (r102.nface (hw _ (List.mem_of_getElem? (i := 50) rfl)) rfl) (hw _ (List.mem_of_getElem? (i := 50) rfl)) (hw _ (List.mem_of_getElem? (i := 49) rfl)) (hw _ (List.mem_of_getElem? (i := 22) rfl)) (hw _ (List.mem_of_getElem? (i := 51) rfl)) (by decide) (s_at l Z a0 hw a b (2 : Int32) (4 : Int32) (85 : Int32) [84, 82, 85, 69] h0 n0 A (by decide) (by decide) (by decide) (by decide) cs SCS hcs vF SFF hvF) A.1 pd_5 rfl rfl rfl (Nat.le_of_ble_eq_true rfl) (by decide) (by decide) (k' := 0) (n' := 0) rfl rfl (by decide) (by decide) rfl
  obtain ⟨rfl, rfl⟩ := hq104
  dsimp only [Option.toList, List.cons_append, List.nil_append] at r103
  have r107 := r103.bipush (pc' := 39) (85 : Int32) d13_37 rfl rfl
  have r108 := r107.icF (pc' := 42) d13_39 (teq (by decide : (85 : Int32) = (85 : Int32))).2 rfl
  have r109 := r108.aloadN (pc' := 43) d13_42 rfl rfl rfl
  have r110 := r109.iconst (pc' := 44) (3 : Int32) d13_43 rfl rfl
  obtain ⟨v113, h114, hq112, r111⟩ := r110.callV (pc' := 47) (a := a) [(.int (3 : Int32))] (rest := []) 0 d13_44 (hw _ (List.mem_of_getElem? (i := 47) rfl)) (hw _ (List.mem_of_getElem? (i := 48) rfl)) (r110.nface (hw _ (List.mem_of_getElem? (i := 50) rfl)) rfl) (hw _ (List.mem_of_getElem? (i := 50) rfl)) (hw _ (List.mem_of_getElem? (i := 49) rfl)) (hw _ (List.mem_of_getElem? (i := 22) rfl)) (hw _ (List.mem_of_getElem? (i := 51) rfl)) (by decide) (s_at l Z a0 hw a b (3 : Int32) (4 : Int32) (69 : Int32) [84, 82, 85, 69] h0 n0 A (by decide) (by decide) (by decide) (by decide) cs SCS hcs vF SFF hvF) A.1 pd_5 rfl rfl rfl (Nat.le_of_ble_eq_true rfl) (by decide) (by decide) (k' := 0) (n' := 0) rfl rfl (by decide) (by decide) rfl
  obtain ⟨rfl, rfl⟩ := hq112
  dsimp only [Option.toList, List.cons_append, List.nil_append] at r111
  have r115 := r111.bipush (pc' := 49) (69 : Int32) d13_47 rfl rfl
  have r116 := r115.icF (pc' := 52) d13_49 (teq (by decide : (69 : Int32) = (69 : Int32))).2 rfl
  have r117 := r116.iconst (pc' := 53) (1 : Int32) d13_52 rfl rfl
  have r118 := r117.goto (pc' := 57) d13_53 (by decide) (by decide)
  exact ⟨_, _, r118.retZ d13_57 rfl (t := .boolean) (by simp) (1 : Int32) rfl (by decide) (by decide), rfl, rfl⟩
theorem d5_0 : decode method_3_code 0 = .ok (.aload_n 0, 1) := by decide +kernel
theorem d5_1 : decode method_3_code 1 = .ok (.ifnull 65, 3) := by decide +kernel
theorem d5_4 : decode method_3_code 4 = .ok (.aload_n 0, 1) := by decide +kernel
theorem d5_5 : decode method_3_code 5 = .ok (.invokevirtual 7, 3) := by decide +kernel
theorem d5_8 : decode method_3_code 8 = .ok (.iconst 5, 1) := by decide +kernel
theorem d5_9 : decode method_3_code 9 = .ok (.if_icmp .ne 57, 3) := by decide +kernel
theorem d5_12 : decode method_3_code 12 = .ok (.aload_n 0, 1) := by decide +kernel
theorem d5_13 : decode method_3_code 13 = .ok (.iconst 0, 1) := by decide +kernel
theorem d5_14 : decode method_3_code 14 = .ok (.invokevirtual 13, 3) := by decide +kernel
theorem d5_17 : decode method_3_code 17 = .ok (.bipush 70, 2) := by decide +kernel
theorem d5_19 : decode method_3_code 19 = .ok (.if_icmp .ne 47, 3) := by decide +kernel
theorem d5_22 : decode method_3_code 22 = .ok (.aload_n 0, 1) := by decide +kernel
theorem d5_23 : decode method_3_code 23 = .ok (.iconst 1, 1) := by decide +kernel
theorem d5_24 : decode method_3_code 24 = .ok (.invokevirtual 13, 3) := by decide +kernel
theorem d5_27 : decode method_3_code 27 = .ok (.bipush 65, 2) := by decide +kernel
theorem d5_29 : decode method_3_code 29 = .ok (.if_icmp .ne 37, 3) := by decide +kernel
theorem d5_32 : decode method_3_code 32 = .ok (.aload_n 0, 1) := by decide +kernel
theorem d5_33 : decode method_3_code 33 = .ok (.iconst 2, 1) := by decide +kernel
theorem d5_34 : decode method_3_code 34 = .ok (.invokevirtual 13, 3) := by decide +kernel
theorem d5_37 : decode method_3_code 37 = .ok (.bipush 76, 2) := by decide +kernel
theorem d5_39 : decode method_3_code 39 = .ok (.if_icmp .ne 27, 3) := by decide +kernel
theorem d5_42 : decode method_3_code 42 = .ok (.aload_n 0, 1) := by decide +kernel
theorem d5_43 : decode method_3_code 43 = .ok (.iconst 3, 1) := by decide +kernel
theorem d5_44 : decode method_3_code 44 = .ok (.invokevirtual 13, 3) := by decide +kernel
theorem d5_47 : decode method_3_code 47 = .ok (.bipush 83, 2) := by decide +kernel
theorem d5_49 : decode method_3_code 49 = .ok (.if_icmp .ne 17, 3) := by decide +kernel
theorem d5_52 : decode method_3_code 52 = .ok (.aload_n 0, 1) := by decide +kernel
theorem d5_53 : decode method_3_code 53 = .ok (.iconst 4, 1) := by decide +kernel
theorem d5_54 : decode method_3_code 54 = .ok (.invokevirtual 13, 3) := by decide +kernel
theorem d5_57 : decode method_3_code 57 = .ok (.bipush 69, 2) := by decide +kernel
theorem d5_59 : decode method_3_code 59 = .ok (.if_icmp .ne 7, 3) := by decide +kernel
theorem d5_62 : decode method_3_code 62 = .ok (.iconst 1, 1) := by decide +kernel
theorem d5_63 : decode method_3_code 63 = .ok (.goto 4, 3) := by decide +kernel
theorem d5_67 : decode method_3_code 67 = .ok (.ireturn, 1) := by decide +kernel
set_option maxRecDepth 65536 in
set_option maxHeartbeats 40000000 in
theorem l_FALSE (l : Launch) (Z : State) (a0 : Array Value) (hw : ∀ d ∈ tables_1, d.before a0 Z = true) (a b : Addr) (h0 : Heap) (n0 : Nat) (A : Str Z h0 a b (5 : Int32) [70, 65, 76, 83, 69]) (cs : Int32) (SCS : Sta Z h0 "java/lang/String" "COMPACT_STRINGS" "Z" (.int cs)) (hcs : ¬ cs = 0) (vF : Value) (SFF : Sta Z h0 "jdk/internal/util/Preconditions" "SIOOBE_FORMATTER" "Ljava/util/function/BiFunction;" vF) (hvF : vF.isRef = true) :
    Ctr l Z (⟨"com/example/quorum_atlas/quorumatlas/value/BoolValueToStringPinLaw", "isFalseLiteral", "(Ljava/lang/String;)Z"⟩ : MethodName) method_3_code 1 (some .boolean) ({ frames := 4, cells := 0, slots := 0, locals := 54 } : Room) #[(.ref a)] h0 n0 (fun v h => v = some (.int 1) ∧ h0 = h) := by
  refine ent (plainFor_of_name pn_com_example_quorum_atlas_quorumatlas_value_BoolValueToStringPinLaw) (L0 := #[.val (.ref a)]) (fun m => by first | (simp [entryFrame, mkF, argsToLocals, Value.category]; done) | rfl) ?_
  intro p e s m below meth c T0 r0
  have r119 := r0.aloadN (pc' := 1) d5_0 rfl rfl rfl
  have r120 := r119.nullF (pc' := 4) d5_1 rfl
  have r121 := r120.aloadN (pc' := 5) d5_4 rfl rfl rfl
  obtain ⟨v124, h125, hq123, r122⟩ := r121.callV (pc' := 8) (a := a) [] (rest := []) 0 d5_5 (hw _ (List.mem_of_getElem? (i := 34) rfl)) (hw _ (List.mem_of_getElem? (i := 35) rfl)) (r121.nface (hw _ (List.mem_of_getElem? (i := 37) rfl)) rfl) (hw _ (List.mem_of_getElem? (i := 37) rfl)) (hw _ (List.mem_of_getElem? (i := 36) rfl)) (hw _ (List.mem_of_getElem? (i := 22) rfl)) (hw _ (List.mem_of_getElem? (i := 38) rfl)) (by decide) (s_len l Z a0 hw a b (5 : Int32) [70, 65, 76, 83, 69] h0 n0 A (by decide) cs SCS hcs) A.1 pd_1 rfl rfl rfl (Nat.le_of_ble_eq_true rfl) (by decide) (by decide) (k' := 0) (n' := 0) rfl rfl (by decide) (by decide) rfl
  obtain ⟨rfl, rfl⟩ := hq123
  dsimp only [Option.toList, List.cons_append, List.nil_append] at r122
  have r126 := r122.iconst (pc' := 9) (5 : Int32) d5_8 rfl rfl
  have r127 := r126.icF (pc' := 12) d5_9 (teq (by decide : (5 : Int32) = (5 : Int32))).2 rfl
  have r128 := r127.aloadN (pc' := 13) d5_12 rfl rfl rfl
  have r129 := r128.iconst (pc' := 14) (0 : Int32) d5_13 rfl rfl
  obtain ⟨v132, h133, hq131, r130⟩ := r129.callV (pc' := 17) (a := a) [(.int (0 : Int32))] (rest := []) 0 d5_14 (hw _ (List.mem_of_getElem? (i := 47) rfl)) (hw _ (List.mem_of_getElem? (i := 48) rfl)) (r129.nface (hw _ (List.mem_of_getElem? (i := 50) rfl)) rfl) (hw _ (List.mem_of_getElem? (i := 50) rfl)) (hw _ (List.mem_of_getElem? (i := 49) rfl)) (hw _ (List.mem_of_getElem? (i := 22) rfl)) (hw _ (List.mem_of_getElem? (i := 51) rfl)) (by decide) (s_at l Z a0 hw a b (0 : Int32) (5 : Int32) (70 : Int32) [70, 65, 76, 83, 69] h0 n0 A (by decide) (by decide) (by decide) (by decide) cs SCS hcs vF SFF hvF) A.1 pd_5 rfl rfl rfl (Nat.le_of_ble_eq_true rfl) (by decide) (by decide) (k' := 0) (n' := 0) rfl rfl (by decide) (by decide) rfl
  obtain ⟨rfl, rfl⟩ := hq131
  dsimp only [Option.toList, List.cons_append, List.nil_append] at r130
  have r134 := r130.bipush (pc' := 19) (70 : Int32) d5_17 rfl rfl
  have r135 := r134.icF (pc' := 22) d5_19 (teq (by decide : (70 : Int32) = (70 : Int32))).2 rfl
  have r136 := r135.aloadN (pc' := 23) d5_22 rfl rfl rfl
  have r137 := r136.iconst (pc' := 24) (1 : Int32) d5_23 rfl rfl
  obtain ⟨v140, h141, hq139, r138⟩ := r137.callV (pc' := 27) (a := a) [(.int (1 : Int32))] (rest := []) 0 d5_24 (hw _ (List.mem_of_getElem? (i := 47) rfl)) (hw _ (List.mem_of_getElem? (i := 48) rfl)) (r137.nface (hw _ (List.mem_of_getElem? (i := 50) rfl)) rfl) (hw _ (List.mem_of_getElem? (i := 50) rfl)) (hw _ (List.mem_of_getElem? (i := 49) rfl)) (hw _ (List.mem_of_getElem? (i := 22) rfl)) (hw _ (List.mem_of_getElem? (i := 51) rfl)) (by decide) (s_at l Z a0 hw a b (1 : Int32) (5 : Int32) (65 : Int32) [70, 65, 76, 83, 69] h0 n0 A (by decide) (by decide) (by decide) (by decide) cs SCS hcs vF SFF hvF) A.1 pd_5 rfl rfl rfl (Nat.le_of_ble_eq_true rfl) (by decide) (by decide) (k' := 0) (n' := 0) rfl rfl (by decide) (by decide) rfl
  obtain ⟨rfl, rfl⟩ := hq139
  dsimp only [Option.toList, List.cons_append, List.nil_append] at r138
  have r142 := r138.bipush (pc' := 29) (65 : Int32) d5_27 rfl rfl
  have r143 := r142.icF (pc' := 32) d5_29 (teq (by decide : (65 : Int32) = (65 : Int32))).2 rfl
  have r144 := r143.aloadN (pc' := 33) d5_32 rfl rfl rfl
  have r145 := r144.iconst (pc' := 34) (2 : Int32) d5_33 rfl rfl
  obtain ⟨v148, h149, hq147, r146⟩ := r145.callV (pc' := 37) (a := a) [(.int (2 : Int32))] (rest := []) 0 d5_34 (hw _ (List.mem_of_getElem? (i := 47) rfl)) (hw _ (List.mem_of_getElem? (i := 48) rfl)) (r145.nface (hw _ (List.mem_of_getElem? (i := 50) rfl)) rfl) (hw _ (List.mem_of_getElem? (i := 50) rfl)) (hw _ (List.mem_of_getElem? (i := 49) rfl)) (hw _ (List.mem_of_getElem? (i := 22) rfl)) (hw _ (List.mem_of_getElem? (i := 51) rfl)) (by decide) (s_at l Z a0 hw a b (2 : Int32) (5 : Int32) (76 : Int32) [70, 65, 76, 83, 69] h0 n0 A (by decide) (by decide) (by decide) (by decide) cs SCS hcs vF SFF hvF) A.1 pd_5 rfl rfl rfl (Nat.le_of_ble_eq_true rfl) (by decide) (by decide) (k' := 0) (n' := 0) rfl rfl (by decide) (by decide) rfl
  obtain ⟨rfl, rfl⟩ := hq147
  dsimp only [Option.toList, List.cons_append, List.nil_append] at r146
  have r150 := r146.bipush (pc' := 39) (76 : Int32) d5_37 rfl rfl
  have r151 := r150.icF (pc' := 42) d5_39 (teq (by decide : (76 : Int32) = (76 : Int32))).2 rfl
  have r152 := r151.aloadN (pc' := 43) d5_42 rfl rfl rfl
  have r153 := r152.iconst (pc' := 44) (3 : Int32) d5_43 rfl rfl
  obtain ⟨v156, h157, hq155, r154⟩ := r153.callV (pc' := 47) (a := a) [(.int (3 : Int32))] (rest := []) 0 d5_44 (hw _ (List.mem_of_getElem? (i := 47) rfl)) (hw _ (List.mem_of_getElem? (i := 48) rfl)) (r153.nface (hw _ (List.mem_of_getElem? (i := 50) rfl)) rfl) (hw _ (List.mem_of_getElem? (i := 50) rfl)) (hw _ (List.mem_of_getElem? (i := 49) rfl)) (hw _ (List.mem_of_getElem? (i := 22) rfl)) (hw _ (List.mem_of_getElem? (i := 51) rfl)) (by decide) (s_at l Z a0 hw a b (3 : Int32) (5 : Int32) (83 : Int32) [70, 65, 76, 83, 69] h0 n0 A (by decide) (by decide) (by decide) (by decide) cs SCS hcs vF SFF hvF) A.1 pd_5 rfl rfl rfl (Nat.le_of_ble_eq_true rfl) (by decide) (by decide) (k' := 0) (n' := 0) rfl rfl (by decide) (by decide) rfl
  obtain ⟨rfl, rfl⟩ := hq155
  dsimp only [Option.toList, List.cons_append, List.nil_append] at r154
  have r158 := r154.bipush (pc' := 49) (83 : Int32) d5_47 rfl rfl
  have r159 := r158.icF (pc' := 52) d5_49 (teq (by decide : (83 : Int32) = (83 : Int32))).2 rfl
  have r160 := r159.aloadN (pc' := 53) d5_52 rfl rfl rfl
  have r161 := r160.iconst (pc' := 54) (4 : Int32) d5_53 rfl rfl
  obtain ⟨v164, h165, hq163, r162⟩ := r161.callV (pc' := 57) (a := a) [(.int (4 : Int32))] (rest := []) 0 d5_54 (hw _ (List.mem_of_getElem? (i := 47) rfl)) (hw _ (List.mem_of_getElem? (i := 48) rfl)) (r161.nface (hw _ (List.mem_of_getElem? (i := 50) rfl)) rfl) (hw _ (List.mem_of_getElem? (i := 50) rfl)) (hw _ (List.mem_of_getElem? (i := 49) rfl)) (hw _ (List.mem_of_getElem? (i := 22) rfl)) (hw _ (List.mem_of_getElem? (i := 51) rfl)) (by decide) (s_at l Z a0 hw a b (4 : Int32) (5 : Int32) (69 : Int32) [70, 65, 76, 83, 69] h0 n0 A (by decide) (by decide) (by decide) (by decide) cs SCS hcs vF SFF hvF) A.1 pd_5 rfl rfl rfl (Nat.le_of_ble_eq_true rfl) (by decide) (by decide) (k' := 0) (n' := 0) rfl rfl (by decide) (by decide) rfl
  obtain ⟨rfl, rfl⟩ := hq163
  dsimp only [Option.toList, List.cons_append, List.nil_append] at r162
  have r166 := r162.bipush (pc' := 59) (69 : Int32) d5_57 rfl rfl
  have r167 := r166.icF (pc' := 62) d5_59 (teq (by decide : (69 : Int32) = (69 : Int32))).2 rfl
  have r168 := r167.iconst (pc' := 63) (1 : Int32) d5_62 rfl rfl
  have r169 := r168.goto (pc' := 67) d5_63 (by decide) (by decide)
  exact ⟨_, _, r169.retZ d5_67 rfl (t := .boolean) (by simp) (1 : Int32) rfl (by decide) (by decide), rfl, rfl⟩
theorem d15_0 : decode jdk_43_method_13_code 0 = .ok (.aload_n 0, 1) := by decide +kernel
theorem d15_1 : decode jdk_43_method_13_code 1 = .ok (.arraylength, 1) := by decide +kernel
theorem d15_2 : decode jdk_43_method_13_code 2 = .ok (.aload_n 1, 1) := by decide +kernel
theorem d15_3 : decode jdk_43_method_13_code 3 = .ok (.arraylength, 1) := by decide +kernel
theorem d15_4 : decode jdk_43_method_13_code 4 = .ok (.if_icmp .ne 30, 3) := by decide +kernel
theorem d15_34 : decode jdk_43_method_13_code 34 = .ok (.iconst 0, 1) := by decide +kernel
theorem d15_35 : decode jdk_43_method_13_code 35 = .ok (.ireturn, 1) := by decide +kernel
set_option maxRecDepth 65536 in
set_option maxHeartbeats 40000000 in
theorem s_leq (l : Launch) (Z : State) (a0 : Array Value) (hw : ∀ d ∈ tables_1, d.before a0 Z = true) (a b : Addr) (z z' : Int32) (F F' : List Int32) (h0 : Heap) (n0 : Nat) (V : ArB Z h0 a z F) (V' : ArB Z h0 b z' F') (hne : ¬ z = z') :
    Ctr l Z (⟨"java/lang/StringLatin1", "equals", "([B[B)Z"⟩ : MethodName) jdk_43_method_13_code 3 (some .boolean) ({ frames := 0, cells := 0, slots := 0, locals := 0 } : Room) #[(.ref a), (.ref b)] h0 n0 (fun v h => v = some (.int 0) ∧ h0 = h) := by
  refine ent (plainFor_of_name pn_java_lang_StringLatin1) (L0 := #[.val (.ref a), .val (.ref b), .unset]) (fun m => by first | (simp [entryFrame, mkF, argsToLocals, Value.category]; done) | rfl) ?_
  intro p e s m below meth c T0 r0
  have r170 := r0.aloadN (pc' := 1) d15_0 rfl rfl rfl
  have r171 := r170.lenB (pc' := 2) d15_1 V rfl
  have r172 := r171.aloadN (pc' := 3) d15_2 rfl rfl rfl
  have r173 := r172.lenB (pc' := 4) d15_3 V' rfl
  have r174 := r173.icT (pc' := 34) d15_4 (feq hne).2 (by decide) (by decide)
  have r175 := r174.iconst (pc' := 35) (0 : Int32) d15_34 rfl rfl
  exact ⟨_, _, r175.retZ d15_35 rfl (t := .boolean) (by simp) (0 : Int32) rfl (by decide) (by decide), rfl, rfl⟩
theorem d14_0 : decode jdk_42_method_66_code 0 = .ok (.aload_n 0, 1) := by decide +kernel
theorem d14_1 : decode jdk_42_method_66_code 1 = .ok (.aload_n 1, 1) := by decide +kernel
theorem d14_2 : decode jdk_42_method_66_code 2 = .ok (.if_acmp .ne 5, 3) := by decide +kernel
theorem d14_7 : decode jdk_42_method_66_code 7 = .ok (.aload_n 1, 1) := by decide +kernel
theorem d14_8 : decode jdk_42_method_66_code 8 = .ok (.instanceof 10, 3) := by decide +kernel
theorem d14_11 : decode jdk_42_method_66_code 11 = .ok (.ifCond .eq 43, 3) := by decide +kernel
theorem d14_14 : decode jdk_42_method_66_code 14 = .ok (.aload_n 1, 1) := by decide +kernel
theorem d14_15 : decode jdk_42_method_66_code 15 = .ok (.checkcast 10, 3) := by decide +kernel
theorem d14_18 : decode jdk_42_method_66_code 18 = .ok (.astore_n 2, 1) := by decide +kernel
theorem d14_19 : decode jdk_42_method_66_code 19 = .ok (.getstatic 38, 3) := by decide +kernel
theorem d14_22 : decode jdk_42_method_66_code 22 = .ok (.ifCond .eq 14, 3) := by decide +kernel
theorem d14_25 : decode jdk_42_method_66_code 25 = .ok (.aload_n 0, 1) := by decide +kernel
theorem d14_26 : decode jdk_42_method_66_code 26 = .ok (.getfield 15, 3) := by decide +kernel
theorem d14_29 : decode jdk_42_method_66_code 29 = .ok (.aload_n 2, 1) := by decide +kernel
theorem d14_30 : decode jdk_42_method_66_code 30 = .ok (.getfield 15, 3) := by decide +kernel
theorem d14_33 : decode jdk_42_method_66_code 33 = .ok (.if_icmp .ne 21, 3) := by decide +kernel
theorem d14_36 : decode jdk_42_method_66_code 36 = .ok (.aload_n 0, 1) := by decide +kernel
theorem d14_37 : decode jdk_42_method_66_code 37 = .ok (.getfield 9, 3) := by decide +kernel
theorem d14_40 : decode jdk_42_method_66_code 40 = .ok (.aload_n 2, 1) := by decide +kernel
theorem d14_41 : decode jdk_42_method_66_code 41 = .ok (.getfield 9, 3) := by decide +kernel
theorem d14_44 : decode jdk_42_method_66_code 44 = .ok (.invokestatic 541, 3) := by decide +kernel
theorem pd_13 : parseMethodDescriptor "([B[B)Z" = some ⟨[(.array .byte), (.array .byte)], some .boolean⟩ := by decide +kernel
theorem d14_47 : decode jdk_42_method_66_code 47 = .ok (.ifCond .eq 7, 3) := by decide +kernel
theorem d14_54 : decode jdk_42_method_66_code 54 = .ok (.iconst 0, 1) := by decide +kernel
theorem d14_55 : decode jdk_42_method_66_code 55 = .ok (.ireturn, 1) := by decide +kernel
set_option maxRecDepth 65536 in
set_option maxHeartbeats 40000000 in
theorem s_eq (l : Launch) (Z : State) (a0 : Array Value) (hw : ∀ d ∈ tables_1, d.before a0 Z = true) (a b a' b' : Addr) (z z' : Int32) (F F' : List Int32) (h0 : Heap) (n0 : Nat) (A : Str Z h0 a b z F) (A' : Str Z h0 a' b' z' F') (hne : ¬ z = z') (hna : a ≠ a') (cs : Int32) (SCS : Sta Z h0 "java/lang/String" "COMPACT_STRINGS" "Z" (.int cs)) (hcs : ¬ cs = 0) :
    Ctr l Z (⟨"java/lang/String", "equals", "(Ljava/lang/Object;)Z"⟩ : MethodName) jdk_42_method_66_code 3 (some .boolean) ({ frames := 1, cells := 0, slots := 0, locals := 16 } : Room) #[(.ref a), (.ref a')] h0 n0 (fun v h => v = some (.int 0) ∧ h0 = h) := by
  refine ent (plainFor_of_name pn_java_lang_String) (L0 := #[.val (.ref a), .val (.ref a'), .unset]) (fun m => by first | (simp [entryFrame, mkF, argsToLocals, Value.category]; done) | rfl) ?_
  intro p e s m below meth c T0 r0
  have r176 := r0.aloadN (pc' := 1) d14_0 rfl rfl rfl
  have r177 := r176.aloadN (pc' := 2) d14_1 rfl rfl rfl
  have r178 := r177.acmp (pc' := 7) (same := false) d14_2 rfl rfl (decide_eq_false (fun q => hna (Value.ref.inj q))) (by decide) (by decide)
  have r179 := r178.aloadN (pc' := 8) d14_7 rfl rfl rfl
  have r180 := r179.instY (pc' := 11) d14_8 (hw _ (List.mem_of_getElem? (i := 77) rfl)) (Ins.self A'.1) rfl
  have r181 := r180.ifF (pc' := 14) d14_11 (feq (by decide : ¬ (1 : Int32) = (0 : Int32))).1 rfl
  have r182 := r181.aloadN (pc' := 15) d14_14 rfl rfl rfl
  have r183 := r182.castY (pc' := 18) d14_15 (hw _ (List.mem_of_getElem? (i := 77) rfl)) (Ins.self A'.1) rfl
  have r184 := r183.astoreN (pc' := 19) (L' := #[.val (.ref a), .val (.ref a'), .val (.ref a')]) d14_18 rfl rfl rfl
  have r185 := r184.getS (host := "") (pc' := 22) d14_19 (Or.inl (hw _ (List.mem_of_getElem? (i := 45) rfl))) Via.refl SCS rfl
  have r186 := r185.ifF (pc' := 25) d14_22 (feq hcs).1 rfl
  have r187 := r186.aloadN (pc' := 26) d14_25 rfl rfl rfl
  have r188 := r187.getF (host := "") (pc' := 29) d14_26 (Or.inl (hw _ (List.mem_of_getElem? (i := 46) rfl))) Via.refl A.2.1 rfl
  have r189 := r188.aloadN (pc' := 30) d14_29 rfl rfl rfl
  have r190 := r189.getF (host := "") (pc' := 33) d14_30 (Or.inl (hw _ (List.mem_of_getElem? (i := 46) rfl))) Via.refl A'.2.1 rfl
  have r191 := r190.icF (pc' := 36) d14_33 (teq (by decide : (0 : Int32) = (0 : Int32))).2 rfl
  have r192 := r191.aloadN (pc' := 37) d14_36 rfl rfl rfl
  have r193 := r192.getF (host := "") (pc' := 40) d14_37 (Or.inl (hw _ (List.mem_of_getElem? (i := 39) rfl))) Via.refl A.2.2.1 rfl
  have r194 := r193.aloadN (pc' := 41) d14_40 rfl rfl rfl
  have r195 := r194.getF (host := "") (pc' := 44) d14_41 (Or.inl (hw _ (List.mem_of_getElem? (i := 39) rfl))) Via.refl A'.2.2.1 rfl
  obtain ⟨v198, h199, hq197, r196⟩ := r195.callS (pc' := 47) [(.ref b), (.ref b')] (rest := []) 0 d14_44 (hw _ (List.mem_of_getElem? (i := 79) rfl)) (hw _ (List.mem_of_getElem? (i := 80) rfl)) (hw _ (List.mem_of_getElem? (i := 59) rfl)) (hw _ (List.mem_of_getElem? (i := 81) rfl)) (by decide) (s_leq l Z a0 hw b b' z z' F F' h0 n0 A.2.2.2 A'.2.2.2 hne) pd_13 rfl rfl rfl (Nat.le_of_ble_eq_true rfl) (by decide) (by decide) (k' := 0) (n' := 0) rfl rfl (by decide) (by decide) rfl
  obtain ⟨rfl, rfl⟩ := hq197
  dsimp only [Option.toList, List.cons_append, List.nil_append] at r196
  have r200 := r196.ifT (pc' := 54) d14_47 (teq (by decide : (0 : Int32) = (0 : Int32))).1 (by decide) (by decide)
  have r201 := r200.iconst (pc' := 55) (0 : Int32) d14_54 rfl rfl
  exact ⟨_, _, r201.retZ d14_55 rfl (t := .boolean) (by simp) (0 : Int32) rfl (by decide) (by decide), rfl, rfl⟩
theorem pn_java_lang_Record : plainName "java/lang/Record" = true := by first | (simp [plainName, overriddenIn]; done) | decide +kernel
theorem d2_0 : decode jdk_30_method_1_code 0 = .ok (.aload_n 0, 1) := by decide +kernel
theorem d2_1 : decode jdk_30_method_1_code 1 = .ok (.invokespecial 1, 3) := by decide +kernel
theorem d2_4 : decode jdk_30_method_1_code 4 = .ok (.return_, 1) := by decide +kernel
set_option maxRecDepth 65536 in
set_option maxHeartbeats 40000000 in
theorem c_rec (l : Launch) (Z : State) (a0 : Array Value) (hw : ∀ d ∈ tables_1, d.before a0 Z = true) (a : Addr) (h0 : Heap) (n0 : Nat) :
    Ctr l Z (⟨"java/lang/Record", "<init>", "()V"⟩ : MethodName) jdk_30_method_1_code 1 none ({ frames := 1, cells := 0, slots := 0, locals := 12 } : Room) #[(.ref a)] h0 n0 (fun v h => v = none ∧ h0 = h) := by
  refine ent (plainFor_of_name pn_java_lang_Record) (L0 := #[.val (.ref a)]) (fun m => by first | (simp [entryFrame, mkF, argsToLocals, Value.category]; done) | rfl) ?_
  intro p e s m below meth c T0 r0
  have r202 := r0.aloadN (pc' := 1) d2_0 rfl rfl rfl
  have r203 := r202.initO (pc' := 4) 0 d2_1 (hw _ (List.mem_of_getElem? (i := 11) rfl)) (hw _ (List.mem_of_getElem? (i := 12) rfl)) (hw _ (List.mem_of_getElem? (i := 13) rfl)) rfl (by decide) (Nat.le_of_ble_eq_true rfl) (by decide) rfl
  exact ⟨_, _, r203.retV d2_4 rfl (by decide) (by decide), rfl, rfl⟩
theorem pn_com_example_quorum_atlas_quorumatlas_value_BoolValue : plainName "com/example/quorum_atlas/quorumatlas/value/BoolValue" = true := by first | (simp [plainName, overriddenIn]; done) | decide +kernel
theorem d1_0 : decode prog_125_method_1_code 0 = .ok (.aload_n 0, 1) := by decide +kernel
theorem d1_1 : decode prog_125_method_1_code 1 = .ok (.invokespecial 1, 3) := by decide +kernel
theorem pd_3 : parseMethodDescriptor "()V" = some ⟨[], none⟩ := by decide +kernel
theorem d1_4 : decode prog_125_method_1_code 4 = .ok (.aload_n 0, 1) := by decide +kernel
theorem d1_5 : decode prog_125_method_1_code 5 = .ok (.iload_n 1, 1) := by decide +kernel
theorem d1_6 : decode prog_125_method_1_code 6 = .ok (.putfield 7, 3) := by decide +kernel
theorem d1_9 : decode prog_125_method_1_code 9 = .ok (.return_, 1) := by decide +kernel
set_option maxRecDepth 65536 in
set_option maxHeartbeats 40000000 in
theorem c_bv0 (l : Launch) (Z : State) (a0 : Array Value) (hw : ∀ d ∈ tables_1, d.before a0 Z = true) (a : Addr) (h0 : Heap) (n0 : Nat) (E : Exa Z h0 a "com/example/quorum_atlas/quorumatlas/value/BoolValue") (F : Fld Z h0 a "com/example/quorum_atlas/quorumatlas/value/BoolValue" "value" "Z" (.int 0)) (ga : n0 ≤ a) (Z0 : n0 ≤ h0.size) :
    Ctr l Z (⟨"com/example/quorum_atlas/quorumatlas/value/BoolValue", "<init>", "(Z)V"⟩ : MethodName) prog_125_method_1_code 2 none ({ frames := 2, cells := 0, slots := 0, locals := 24 } : Room) #[(.ref a), (.int (0 : Int32))] h0 n0 (fun v h => v = none ∧ (Exa Z h a "com/example/quorum_atlas/quorumatlas/value/BoolValue" ∧ Fld Z h a "com/example/quorum_atlas/quorumatlas/value/BoolValue" "value" "Z" (.int 0)) ∧ Keep h0 h [a]) := by
  refine ent (plainFor_of_name pn_com_example_quorum_atlas_quorumatlas_value_BoolValue) (L0 := #[.val (.ref a), .val (.int (0 : Int32))]) (fun m => by first | (simp [entryFrame, mkF, argsToLocals, Value.category]; done) | rfl) ?_
  intro p e s m below meth c T0 r0
  have r204 := r0.aloadN (pc' := 1) d1_0 rfl rfl rfl
  obtain ⟨v207, h208, hq206, r205⟩ := r204.callC (pc' := 4) (a := a) [] (rest := []) 0 d1_1 rfl (hw _ (List.mem_of_getElem? (i := 6) rfl)) (hw _ (List.mem_of_getElem? (i := 7) rfl)) (hw _ (List.mem_of_getElem? (i := 9) rfl)) (hw _ (List.mem_of_getElem? (i := 10) rfl)) (by decide) (c_rec l Z a0 hw a h0 n0) pd_3 rfl rfl rfl (Nat.le_of_ble_eq_true rfl) (by decide) (by decide) (k' := 0) (n' := 0) rfl rfl (by decide) (by decide) rfl
  obtain ⟨rfl, rfl⟩ := hq206
  dsimp only [Option.toList, List.cons_append, List.nil_append] at r205
  have r209 := r205.aloadN (pc' := 5) d1_4 rfl rfl rfl
  have r210 := r209.iloadN (pc' := 6) d1_5 rfl rfl
  obtain ⟨h211, W211, r211⟩ := r210.putF (host := "") (pc' := 9) d1_6 (Or.inl (hw _ (List.mem_of_getElem? (i := 14) rfl))) Via.refl F E (Or.inr ⟨(hw _ (List.mem_of_getElem? (i := 15) rfl)), rfl, rfl⟩) (hw _ (List.mem_of_getElem? (i := 1) rfl)) (ty := .boolean) (by decide) rfl rfl ga rfl
  have f212 := E.wr W211
  have f213 := F.same W211
  have K214 := ((Keep.refl h0 [a])).wr W211 (Or.inl (by simp))
  have zp215 : n0 ≤ h211.size := Nat.le_trans Z0 (Nat.le_of_eq W211.size.symm)
  exact ⟨_, _, r211.retV d1_9 rfl (by decide) (by decide), rfl, ⟨f212, f213⟩, K214⟩
set_option maxRecDepth 65536 in
set_option maxHeartbeats 40000000 in
theorem c_bv1 (l : Launch) (Z : State) (a0 : Array Value) (hw : ∀ d ∈ tables_1, d.before a0 Z = true) (a : Addr) (h0 : Heap) (n0 : Nat) (E : Exa Z h0 a "com/example/quorum_atlas/quorumatlas/value/BoolValue") (F : Fld Z h0 a "com/example/quorum_atlas/quorumatlas/value/BoolValue" "value" "Z" (.int 0)) (ga : n0 ≤ a) (Z0 : n0 ≤ h0.size) :
    Ctr l Z (⟨"com/example/quorum_atlas/quorumatlas/value/BoolValue", "<init>", "(Z)V"⟩ : MethodName) prog_125_method_1_code 2 none ({ frames := 2, cells := 0, slots := 0, locals := 24 } : Room) #[(.ref a), (.int (1 : Int32))] h0 n0 (fun v h => v = none ∧ (Exa Z h a "com/example/quorum_atlas/quorumatlas/value/BoolValue" ∧ Fld Z h a "com/example/quorum_atlas/quorumatlas/value/BoolValue" "value" "Z" (.int 1)) ∧ Keep h0 h [a]) := by
  refine ent (plainFor_of_name pn_com_example_quorum_atlas_quorumatlas_value_BoolValue) (L0 := #[.val (.ref a), .val (.int (1 : Int32))]) (fun m => by first | (simp [entryFrame, mkF, argsToLocals, Value.category]; done) | rfl) ?_
  intro p e s m below meth c T0 r0
  have r216 := r0.aloadN (pc' := 1) d1_0 rfl rfl rfl
  obtain ⟨v219, h220, hq218, r217⟩ := r216.callC (pc' := 4) (a := a) [] (rest := []) 0 d1_1 rfl (hw _ (List.mem_of_getElem? (i := 6) rfl)) (hw _ (List.mem_of_getElem? (i := 7) rfl)) (hw _ (List.mem_of_getElem? (i := 9) rfl)) (hw _ (List.mem_of_getElem? (i := 10) rfl)) (by decide) (c_rec l Z a0 hw a h0 n0) pd_3 rfl rfl rfl (Nat.le_of_ble_eq_true rfl) (by decide) (by decide) (k' := 0) (n' := 0) rfl rfl (by decide) (by decide) rfl
  obtain ⟨rfl, rfl⟩ := hq218
  dsimp only [Option.toList, List.cons_append, List.nil_append] at r217
  have r221 := r217.aloadN (pc' := 5) d1_4 rfl rfl rfl
  have r222 := r221.iloadN (pc' := 6) d1_5 rfl rfl
  obtain ⟨h223, W223, r223⟩ := r222.putF (host := "") (pc' := 9) d1_6 (Or.inl (hw _ (List.mem_of_getElem? (i := 14) rfl))) Via.refl F E (Or.inr ⟨(hw _ (List.mem_of_getElem? (i := 15) rfl)), rfl, rfl⟩) (hw _ (List.mem_of_getElem? (i := 1) rfl)) (ty := .boolean) (by decide) rfl rfl ga rfl
  have f224 := E.wr W223
  have f225 := F.same W223
  have K226 := ((Keep.refl h0 [a])).wr W223 (Or.inl (by simp))
  have zp227 : n0 ≤ h223.size := Nat.le_trans Z0 (Nat.le_of_eq W223.size.symm)
  exact ⟨_, _, r223.retV d1_9 rfl (by decide) (by decide), rfl, ⟨f224, f225⟩, K226⟩
abbrev EL1 : List (String × Nat) := consts_1
theorem wS1 {Z : State} {a0 : Array Value} (hw : ∀ d ∈ tables_1, d.before a0 Z = true) : ∀ a ∈ Bundle.stringAtoms, a.before a0 Z = true := by
  intro a ha
  simp only [Bundle.stringAtoms, List.mem_cons, List.not_mem_nil, or_false] at ha
  rcases ha with rfl | rfl | rfl | rfl | rfl | rfl | rfl
  · exact (hw _ (List.mem_of_getElem? (i := 22) rfl))
  · exact (hw _ (List.mem_of_getElem? (i := 23) rfl))
  · exact (hw _ (List.mem_of_getElem? (i := 24) rfl))
  · exact (hw _ (List.mem_of_getElem? (i := 25) rfl))
  · exact (hw _ (List.mem_of_getElem? (i := 26) rfl))
  · exact (hw _ (List.mem_of_getElem? (i := 27) rfl))
  · exact (hw _ (List.mem_of_getElem? (i := 28) rfl))
theorem ew1 {Z : State} {a0 : Array Value} (hw : ∀ d ∈ tables_1, d.before a0 Z = true) : EW Z a0 EL1 := EW.cons (hw _ (List.mem_of_getElem? (i := 29) rfl)) (by decide) (EW.cons (hw _ (List.mem_of_getElem? (i := 21) rfl)) (by decide) EW.nil)
theorem d4_0 : decode prog_125_method_5_code 0 = .ok (.aload_n 0, 1) := by decide +kernel
theorem d4_1 : decode prog_125_method_5_code 1 = .ok (.getfield 7, 3) := by decide +kernel
theorem d4_4 : decode prog_125_method_5_code 4 = .ok (.ifCond .eq 8, 3) := by decide +kernel
theorem d4_7 : decode prog_125_method_5_code 7 = .ok (.ldc 43, 2) := by decide +kernel
theorem d4_9 : decode prog_125_method_5_code 9 = .ok (.goto 5, 3) := by decide +kernel
theorem d4_14 : decode prog_125_method_5_code 14 = .ok (.areturn, 1) := by decide +kernel
set_option maxRecDepth 65536 in
set_option maxHeartbeats 40000000 in
theorem c_ts1 (l : Launch) (Z : State) (a0 : Array Value) (hw : ∀ d ∈ tables_1, d.before a0 Z = true) (a : Addr) (h0 : Heap) (n0 : Nat) (F : Fld Z h0 a "com/example/quorum_atlas/quorumatlas/value/BoolValue" "value" "Z" (.int 1)) :
    CtrW l Z EL1 (⟨"com/example/quorum_atlas/quorumatlas/value/BoolValue", "toString", "()Ljava/lang/String;"⟩ : MethodName) prog_125_method_5_code 1 (some (.object "java/lang/String")) ({ frames := 0, cells := 2, slots := 32, locals := 0 } : Room) #[(.ref a)] h0 n0 (fun v h => ∃ sa sb, v = some (.ref sa) ∧ Str Z h sa sb (4 : Int32) [84, 82, 85, 69] ∧ Ext h0 h) := by
  refine entW (plainFor_of_name pn_com_example_quorum_atlas_quorumatlas_value_BoolValue) (L0 := #[.val (.ref a)]) (fun m => by first | (simp [entryFrame, mkF, argsToLocals, Value.category]; done) | rfl) (ew1 hw) ?_
  intro p e s m below meth c T0 r0 wd0
  have r228 := r0.aloadN (pc' := 1) d4_0 rfl rfl rfl
  have r229 := r228.getF (host := "") (pc' := 4) d4_1 (Or.inl (hw _ (List.mem_of_getElem? (i := 14) rfl))) Via.refl F rfl
  have r230 := r229.ifF (pc' := 7) d4_4 (feq (by decide : ¬ (1 : Int32) = (0 : Int32))).1 rfl
  obtain ⟨sa, sb, kb, vm1, h1, E1, wd1, C1, EX, F1, F2, V1, -, r1⟩ := r230.ldcS (pc' := 9) (vs := [.int 84, .int 82, .int 85, .int 69]) (z := (4 : Int32)) 28 wd0 d4_7 (hw _ (List.mem_of_getElem? (i := 29) rfl)) (wS1 hw) (ew1 hw) (by simp [EL1, consts_1]) ⟨by decide, by decide⟩ (by decide) (by decide) (by decide) (by decide) (k' := 2) (n' := 32) rfl rfl (by decide) (by decide) rfl
  have r231 := r1.goto (pc' := 14) d4_9 (by decide) (by decide)
  exact ⟨_, _, Don.wide (r231.retA d4_14 rfl rfl rfl (by decide) (by decide)) r231 wd1, ⟨sa, sb, rfl, ⟨EX, F1, F2, ⟨kb, V1⟩⟩, E1⟩⟩
theorem d4_12 : decode prog_125_method_5_code 12 = .ok (.ldc 44, 2) := by decide +kernel
set_option maxRecDepth 65536 in
set_option maxHeartbeats 40000000 in
theorem c_ts0 (l : Launch) (Z : State) (a0 : Array Value) (hw : ∀ d ∈ tables_1, d.before a0 Z = true) (a : Addr) (h0 : Heap) (n0 : Nat) (F : Fld Z h0 a "com/example/quorum_atlas/quorumatlas/value/BoolValue" "value" "Z" (.int 0)) :
    CtrW l Z EL1 (⟨"com/example/quorum_atlas/quorumatlas/value/BoolValue", "toString", "()Ljava/lang/String;"⟩ : MethodName) prog_125_method_5_code 1 (some (.object "java/lang/String")) ({ frames := 0, cells := 2, slots := 32, locals := 0 } : Room) #[(.ref a)] h0 n0 (fun v h => ∃ sa sb, v = some (.ref sa) ∧ Str Z h sa sb (5 : Int32) [70, 65, 76, 83, 69] ∧ Ext h0 h) := by
  refine entW (plainFor_of_name pn_com_example_quorum_atlas_quorumatlas_value_BoolValue) (L0 := #[.val (.ref a)]) (fun m => by first | (simp [entryFrame, mkF, argsToLocals, Value.category]; done) | rfl) (ew1 hw) ?_
  intro p e s m below meth c T0 r0 wd0
  have r232 := r0.aloadN (pc' := 1) d4_0 rfl rfl rfl
  have r233 := r232.getF (host := "") (pc' := 4) d4_1 (Or.inl (hw _ (List.mem_of_getElem? (i := 14) rfl))) Via.refl F rfl
  have r234 := r233.ifT (pc' := 12) d4_4 (teq (by decide : (0 : Int32) = (0 : Int32))).1 (by decide) (by decide)
  obtain ⟨sa, sb, kb, vm1, h1, E1, wd1, C1, EX, F1, F2, V1, -, r1⟩ := r234.ldcS (pc' := 14) (vs := [.int 70, .int 65, .int 76, .int 83, .int 69]) (z := (5 : Int32)) 28 wd0 d4_12 (hw _ (List.mem_of_getElem? (i := 21) rfl)) (wS1 hw) (ew1 hw) (by simp [EL1, consts_1]) ⟨by decide, by decide⟩ (by decide) (by decide) (by decide) (by decide) (k' := 2) (n' := 32) rfl rfl (by decide) (by decide) rfl
  exact ⟨_, _, Don.wide (r1.retA d4_14 rfl rfl rfl (by decide) (by decide)) r1 wd1, ⟨sa, sb, rfl, ⟨EX, F1, F2, ⟨kb, V1⟩⟩, E1⟩⟩
theorem pd_11 : parseMethodDescriptor "(Z)V" = some ⟨[.boolean], none⟩ := by decide +kernel
theorem pd_2 : parseMethodDescriptor "()Ljava/lang/String;" = some ⟨[], some (.object "java/lang/String")⟩ := by decide +kernel
theorem pd_10 : parseMethodDescriptor "(Ljava/lang/String;)Z" = some ⟨[(.object "java/lang/String")], some .boolean⟩ := by decide +kernel
theorem pd_9 : parseMethodDescriptor "(Ljava/lang/Object;)Z" = some ⟨[(.object "java/lang/Object")], some .boolean⟩ := by decide +kernel
set_option maxRecDepth 65536 in
set_option maxHeartbeats 40000000 in
theorem law (l : Launch) (Z : State) (a0 : Array Value) (hw : ∀ d ∈ tables_1, d.before a0 Z = true) (x0 : Int32) (h0 : Heap) (n0 : Nat) (Z0 : n0 ≤ h0.size) (O0 : Old Z n0 h0) (cs : Int32) (SCS : Sta Z Z.heap "java/lang/String" "COMPACT_STRINGS" "Z" (.int cs)) (hcs : ¬ cs = 0) (vF : Value) (SFF : Sta Z Z.heap "jdk/internal/util/Preconditions" "SIOOBE_FORMATTER" "Ljava/util/function/BiFunction;" vF) (hvF : vF.isRef = true) :
    CtrW l Z EL1 x code maxLocals ret room_1 #[(.int x0)] h0 n0 (fun v h => v = some (.int 1)) := by
  refine entW (plainFor_of_name pn_com_example_quorum_atlas_quorumatlas_value_BoolValueToStringPinLaw) (L0 := #[.val (.int x0), .unset, .unset, .unset, .unset, .unset, .unset, .unset]) (fun m => by first | (simp [entryFrame, mkF, argsToLocals, Value.category, maxLocals]; done) | rfl) (ew1 hw) ?_
  intro p e s m below meth c T0 r0 wd0
  have r235 := r0.iloadN (pc' := 1) at_0 rfl rfl
  have r236 := r235.iconst (pc' := 2) (1 : Int32) at_1 rfl rfl
  have r237 := r236.iand (pc' := 3) at_2 rfl rfl
  by_cases hc238 : (x0 &&& (1 : Int32)) = (0 : Int32)
  · -- yes
    have r239 := r237.ifT (pc' := 10) at_3 (teq hc238).1 (by decide) (by decide)
    have r240 := r239.iconst (pc' := 11) (0 : Int32) at_10 rfl rfl
    have r241 := r240.istoreN (pc' := 12) (L' := #[.val (.int x0), .val (.int (0 : Int32)), .unset, .unset, .unset, .unset, .unset, .unset]) at_11 rfl rfl
    obtain ⟨h242, b242, hb242, E242, EX242, D242, r242⟩ := r241.newO (pc' := 15) at_12 (hw _ (List.mem_of_getElem? (i := 0) rfl)) (hw _ (List.mem_of_getElem? (i := 1) rfl)) (hw _ (List.mem_of_getElem? (i := 2) rfl)) (k' := 1) (n' := 1) rfl rfl (by decide) (by decide) rfl
    have g243 : n0 ≤ b242 := hb242 ▸ Z0
    have sz244 : h0.size ≤ b242 := hb242 ▸ ((Keep.refl h0 [])).1
    have K245 := ((Keep.refl h0 [])).ext E242
    have zp246 : n0 ≤ h242.size := Nat.le_trans Z0 E242.1
    have old247 := (O0).ext E242
    have f248 : Fld Z h242 b242 "com/example/quorum_atlas/quorumatlas/value/BoolValue" "value" "Z" (.int (0 : Int32)) := D242 (Or.inr (hw _ (List.mem_of_getElem? (i := 15) rfl))) (ty := .boolean) (by decide)
    have sf242 := wd0.fresh E242 (Nat.le_of_eq hb242.symm)
    have wd242 := wd0.ext E242
    have r249 := r242.dup (pc' := 16) at_15 rfl rfl
    have r250 := r249.iloadN (pc' := 17) at_16 rfl rfl
    obtain ⟨v254, h255, hq253, r252⟩ := r250.callC (pc' := 20) (a := b242) [(.int (0 : Int32))] (rest := [(.ref b242)]) 1 at_17 rfl (hw _ (List.mem_of_getElem? (i := 3) rfl)) (hw _ (List.mem_of_getElem? (i := 4) rfl)) (hw _ (List.mem_of_getElem? (i := 2) rfl)) (hw _ (List.mem_of_getElem? (i := 5) rfl)) (by decide) (c_bv0 l Z a0 hw b242 h242 n0 EX242 f248 g243 zp246) pd_11 rfl rfl rfl (Nat.le_of_ble_eq_true rfl) (by decide) (by decide) (k' := 1) (n' := 1) rfl rfl (by decide) (by decide) rfl
    obtain ⟨rfl, B251, K251⟩ := hq253
    dsimp only [Option.toList, List.cons_append, List.nil_append] at r252
    have wd251 := wd242.keep K251 (allS sf242 all0)
    have f256 := EX242.keep K251
    have zp257 : n0 ≤ h255.size := Nat.le_trans zp246 K251.1
    have K258 := (K245).trans K251 (allS (Or.inr sz244) all0)
    have old259 := (old247).keep K251 (allS g243 all0)
    have r260 := r252.astoreN (pc' := 21) (L' := #[.val (.int x0), .val (.int (0 : Int32)), .val (.ref b242), .unset, .unset, .unset, .unset, .unset]) at_20 rfl rfl rfl
    obtain ⟨h261, b261, hb261, E261, EX261, D261, r261⟩ := r260.newO (pc' := 24) at_21 (hw _ (List.mem_of_getElem? (i := 0) rfl)) (hw _ (List.mem_of_getElem? (i := 1) rfl)) (hw _ (List.mem_of_getElem? (i := 2) rfl)) (k' := 2) (n' := 2) rfl rfl (by decide) (by decide) rfl
    have ne262 : b242 ≠ b261 := Nat.ne_of_lt (hb261 ▸ B251.1.lt)
    have g263 : n0 ≤ b261 := hb261 ▸ zp257
    have sz264 : h0.size ≤ b261 := hb261 ▸ (K258).1
    have f265 := B251.1.ext E261
    have f266 := B251.2.ext E261
    have K267 := (K258).ext E261
    have zp268 : n0 ≤ h261.size := Nat.le_trans zp257 E261.1
    have old269 := (old259).ext E261
    have f270 : Fld Z h261 b261 "com/example/quorum_atlas/quorumatlas/value/BoolValue" "value" "Z" (.int (0 : Int32)) := D261 (Or.inr (hw _ (List.mem_of_getElem? (i := 15) rfl))) (ty := .boolean) (by decide)
    have sf261 := wd251.fresh E261 (Nat.le_of_eq hb261.symm)
    have wd261 := wd251.ext E261
    have r271 := r261.dup (pc' := 25) at_24 rfl rfl
    have r272 := r271.iloadN (pc' := 26) at_25 rfl rfl
    have r273 := r272.ifF (pc' := 29) at_26 (teq (by decide : (0 : Int32) = (0 : Int32))).2 rfl
    have r274 := r273.iconst (pc' := 30) (1 : Int32) at_29 rfl rfl
    have r275 := r274.goto (pc' := 34) at_30 (by decide) (by decide)
    obtain ⟨v279, h280, hq278, r277⟩ := r275.callC (pc' := 37) (a := b261) [(.int (1 : Int32))] (rest := [(.ref b261)]) 1 at_34 rfl (hw _ (List.mem_of_getElem? (i := 3) rfl)) (hw _ (List.mem_of_getElem? (i := 4) rfl)) (hw _ (List.mem_of_getElem? (i := 2) rfl)) (hw _ (List.mem_of_getElem? (i := 5) rfl)) (by decide) (c_bv1 l Z a0 hw b261 h261 n0 EX261 f270 g263 zp268) pd_11 rfl rfl rfl (Nat.le_of_ble_eq_true rfl) (by decide) (by decide) (k' := 2) (n' := 2) rfl rfl (by decide) (by decide) rfl
    obtain ⟨rfl, B276, K276⟩ := hq278
    dsimp only [Option.toList, List.cons_append, List.nil_append] at r277
    have wd276 := wd261.keep K276 (allS sf261 all0)
    have f281 := f265.keep K276
    have f282 := f266.keep K276 (ninS (ne262) nin0)
    have f283 := EX261.keep K276
    have zp284 : n0 ≤ h280.size := Nat.le_trans zp268 K276.1
    have K285 := (K267).trans K276 (allS (Or.inr sz264) all0)
    have old286 := (old269).keep K276 (allS g263 all0)
    have r287 := r277.astoreN (pc' := 38) (L' := #[.val (.int x0), .val (.int (0 : Int32)), .val (.ref b242), .val (.ref b261), .unset, .unset, .unset, .unset]) at_37 rfl rfl rfl
    have r288 := r287.aloadN (pc' := 39) at_38 rfl rfl rfl
    obtain ⟨v289, vm289, h289, ⟨sa289, sb289, rfl, A289, E289⟩, wd289, C289, r289⟩ := r288.callVW (pc' := 42) (a := b242) [] (rest := []) 0 wd276 (ew1 hw) at_39 (hw _ (List.mem_of_getElem? (i := 16) rfl)) (hw _ (List.mem_of_getElem? (i := 17) rfl)) (r288.nface (hw _ (List.mem_of_getElem? (i := 19) rfl)) rfl) (hw _ (List.mem_of_getElem? (i := 19) rfl)) (hw _ (List.mem_of_getElem? (i := 18) rfl)) (hw _ (List.mem_of_getElem? (i := 2) rfl)) (hw _ (List.mem_of_getElem? (i := 20) rfl)) (by decide) (c_ts0 l Z a0 hw b242 h280 n0 f282) f281 pd_2 rfl rfl rfl (Nat.le_of_ble_eq_true rfl) (by decide) (by decide) (k' := 4) (n' := 34) rfl rfl (by decide) (by decide) rfl
    dsimp only [Option.toList, List.cons_append, List.nil_append] at r289
    have f290 := f281.ext E289
    have f291 := f282.ext E289
    have f292 := B276.1.ext E289
    have f293 := B276.2.ext E289
    have K294 := (K285).ext E289
    have zp295 : n0 ≤ h289.size := Nat.le_trans zp284 E289.1
    have old296 := (old286).ext E289
    have r297 := r289.astore (pc' := 44) (L' := #[.val (.int x0), .val (.int (0 : Int32)), .val (.ref b242), .val (.ref b261), .val (.ref sa289), .unset, .unset, .unset]) at_42 rfl rfl rfl
    have r298 := r297.aloadN (pc' := 45) at_44 rfl rfl rfl
    obtain ⟨v299, vm299, h299, ⟨sa299, sb299, rfl, A299, E299⟩, wd299, C299, r299⟩ := r298.callVW (pc' := 48) (a := b261) [] (rest := []) 0 wd289 (ew1 hw) at_45 (hw _ (List.mem_of_getElem? (i := 16) rfl)) (hw _ (List.mem_of_getElem? (i := 17) rfl)) (r298.nface (hw _ (List.mem_of_getElem? (i := 19) rfl)) rfl) (hw _ (List.mem_of_getElem? (i := 19) rfl)) (hw _ (List.mem_of_getElem? (i := 18) rfl)) (hw _ (List.mem_of_getElem? (i := 2) rfl)) (hw _ (List.mem_of_getElem? (i := 20) rfl)) (by decide) (c_ts1 l Z a0 hw b261 h289 n0 f293) f292 pd_2 rfl rfl rfl (Nat.le_of_ble_eq_true rfl) (by decide) (by decide) (k' := 6) (n' := 66) rfl rfl (by decide) (by decide) rfl
    dsimp only [Option.toList, List.cons_append, List.nil_append] at r299
    have f300 := f290.ext E299
    have f301 := f291.ext E299
    have f302 := f292.ext E299
    have f303 := f293.ext E299
    have K304 := (K294).ext E299
    have zp305 : n0 ≤ h299.size := Nat.le_trans zp295 E299.1
    have old306 := (old296).ext E299
    replace A289 := A289.ext E299
    have r307 := r299.astore (pc' := 50) (L' := #[.val (.int x0), .val (.int (0 : Int32)), .val (.ref b242), .val (.ref b261), .val (.ref sa289), .val (.ref sa299), .unset, .unset]) at_48 rfl rfl rfl
    have r308 := r307.iloadN (pc' := 51) at_50 rfl rfl
    have r309 := r308.ifT (pc' := 62) at_51 (teq (by decide : (0 : Int32) = (0 : Int32))).1 (by decide) (by decide)
    have r310 := r309.aload (pc' := 64) at_62 rfl rfl rfl
    obtain ⟨v313, h314, hq312, r311⟩ := r310.callS (pc' := 67) [(.ref sa289)] (rest := []) 0 at_64 (hw _ (List.mem_of_getElem? (i := 30) rfl)) (hw _ (List.mem_of_getElem? (i := 31) rfl)) (hw _ (List.mem_of_getElem? (i := 32) rfl)) (hw _ (List.mem_of_getElem? (i := 33) rfl)) (by decide) (l_FALSE l Z a0 hw sa289 sb289 h299 n0 A289 cs (SCS.ext (old306).2) hcs vF (SFF.ext (old306).2) hvF) pd_10 rfl rfl rfl (Nat.le_of_ble_eq_true rfl) (by decide) (by decide) (k' := 6) (n' := 66) rfl rfl (by decide) (by decide) rfl
    obtain ⟨rfl, rfl⟩ := hq312
    dsimp only [Option.toList, List.cons_append, List.nil_append] at r311
    have r315 := r311.istore (pc' := 69) (L' := #[.val (.int x0), .val (.int (0 : Int32)), .val (.ref b242), .val (.ref b261), .val (.ref sa289), .val (.ref sa299), .val (.int (1 : Int32)), .unset]) at_67 rfl rfl
    have r316 := r315.iloadN (pc' := 70) at_69 rfl rfl
    have r317 := r316.ifT (pc' := 81) at_70 (teq (by decide : (0 : Int32) = (0 : Int32))).1 (by decide) (by decide)
    have r318 := r317.aload (pc' := 83) at_81 rfl rfl rfl
    obtain ⟨v321, h322, hq320, r319⟩ := r318.callS (pc' := 86) [(.ref sa299)] (rest := []) 0 at_83 (hw _ (List.mem_of_getElem? (i := 69) rfl)) (hw _ (List.mem_of_getElem? (i := 70) rfl)) (hw _ (List.mem_of_getElem? (i := 32) rfl)) (hw _ (List.mem_of_getElem? (i := 71) rfl)) (by decide) (l_TRUE l Z a0 hw sa299 sb299 h299 n0 A299 cs (SCS.ext (old306).2) hcs vF (SFF.ext (old306).2) hvF) pd_10 rfl rfl rfl (Nat.le_of_ble_eq_true rfl) (by decide) (by decide) (k' := 6) (n' := 66) rfl rfl (by decide) (by decide) rfl
    obtain ⟨rfl, rfl⟩ := hq320
    dsimp only [Option.toList, List.cons_append, List.nil_append] at r319
    have r323 := r319.istore (pc' := 88) (L' := #[.val (.int x0), .val (.int (0 : Int32)), .val (.ref b242), .val (.ref b261), .val (.ref sa289), .val (.ref sa299), .val (.int (1 : Int32)), .val (.int (1 : Int32))]) at_86 rfl rfl
    have r324 := r323.iload (pc' := 90) at_88 rfl rfl
    have r325 := r324.ifF (pc' := 93) at_90 (feq (by decide : ¬ (1 : Int32) = (0 : Int32))).1 rfl
    have r326 := r325.iload (pc' := 95) at_93 rfl rfl
    have r327 := r326.ifF (pc' := 98) at_95 (feq (by decide : ¬ (1 : Int32) = (0 : Int32))).1 rfl
    have r328 := r327.aload (pc' := 100) at_98 rfl rfl rfl
    have r329 := r328.aload (pc' := 102) at_100 rfl rfl rfl
    obtain ⟨v332, h333, hq331, r330⟩ := r329.callV (pc' := 105) (a := sa289) [(.ref sa299)] (rest := []) 0 at_102 (hw _ (List.mem_of_getElem? (i := 72) rfl)) (hw _ (List.mem_of_getElem? (i := 73) rfl)) (r329.nface (hw _ (List.mem_of_getElem? (i := 75) rfl)) rfl) (hw _ (List.mem_of_getElem? (i := 75) rfl)) (hw _ (List.mem_of_getElem? (i := 74) rfl)) (hw _ (List.mem_of_getElem? (i := 22) rfl)) (hw _ (List.mem_of_getElem? (i := 76) rfl)) (by decide) (s_eq l Z a0 hw sa289 sb289 sa299 sb299 (5 : Int32) (4 : Int32) [70, 65, 76, 83, 69] [84, 82, 85, 69] h299 n0 A289 A299 (by decide) (A289.ne A299 (by decide)) cs (SCS.ext (old306).2) hcs) A289.1 pd_9 rfl rfl rfl (Nat.le_of_ble_eq_true rfl) (by decide) (by decide) (k' := 6) (n' := 66) rfl rfl (by decide) (by decide) rfl
    obtain ⟨rfl, rfl⟩ := hq331
    dsimp only [Option.toList, List.cons_append, List.nil_append] at r330
    have r334 := r330.ifF (pc' := 108) at_105 (teq (by decide : (0 : Int32) = (0 : Int32))).2 rfl
    have r335 := r334.iconst (pc' := 109) (1 : Int32) at_108 rfl rfl
    have r336 := r335.goto (pc' := 113) at_109 (by decide) (by decide)
    exact ⟨_, _, Don.wide (r336.retZ at_113 rfl (t := .boolean) (by simp) (1 : Int32) rfl (by decide) (by decide)) r336 wd299, rfl⟩
  · -- not no
    have r337 := r237.ifF (pc' := 6) at_3 (feq hc238).1 rfl
    have r338 := r337.iconst (pc' := 7) (1 : Int32) at_6 rfl rfl
    have r339 := r338.goto (pc' := 11) at_7 (by decide) (by decide)
    have r340 := r339.istoreN (pc' := 12) (L' := #[.val (.int x0), .val (.int (1 : Int32)), .unset, .unset, .unset, .unset, .unset, .unset]) at_11 rfl rfl
    obtain ⟨h341, b341, hb341, E341, EX341, D341, r341⟩ := r340.newO (pc' := 15) at_12 (hw _ (List.mem_of_getElem? (i := 0) rfl)) (hw _ (List.mem_of_getElem? (i := 1) rfl)) (hw _ (List.mem_of_getElem? (i := 2) rfl)) (k' := 1) (n' := 1) rfl rfl (by decide) (by decide) rfl
    have g342 : n0 ≤ b341 := hb341 ▸ Z0
    have sz343 : h0.size ≤ b341 := hb341 ▸ ((Keep.refl h0 [])).1
    have K344 := ((Keep.refl h0 [])).ext E341
    have zp345 : n0 ≤ h341.size := Nat.le_trans Z0 E341.1
    have old346 := (O0).ext E341
    have f347 : Fld Z h341 b341 "com/example/quorum_atlas/quorumatlas/value/BoolValue" "value" "Z" (.int (0 : Int32)) := D341 (Or.inr (hw _ (List.mem_of_getElem? (i := 15) rfl))) (ty := .boolean) (by decide)
    have sf341 := wd0.fresh E341 (Nat.le_of_eq hb341.symm)
    have wd341 := wd0.ext E341
    have r348 := r341.dup (pc' := 16) at_15 rfl rfl
    have r349 := r348.iloadN (pc' := 17) at_16 rfl rfl
    obtain ⟨v353, h354, hq352, r351⟩ := r349.callC (pc' := 20) (a := b341) [(.int (1 : Int32))] (rest := [(.ref b341)]) 1 at_17 rfl (hw _ (List.mem_of_getElem? (i := 3) rfl)) (hw _ (List.mem_of_getElem? (i := 4) rfl)) (hw _ (List.mem_of_getElem? (i := 2) rfl)) (hw _ (List.mem_of_getElem? (i := 5) rfl)) (by decide) (c_bv1 l Z a0 hw b341 h341 n0 EX341 f347 g342 zp345) pd_11 rfl rfl rfl (Nat.le_of_ble_eq_true rfl) (by decide) (by decide) (k' := 1) (n' := 1) rfl rfl (by decide) (by decide) rfl
    obtain ⟨rfl, B350, K350⟩ := hq352
    dsimp only [Option.toList, List.cons_append, List.nil_append] at r351
    have wd350 := wd341.keep K350 (allS sf341 all0)
    have f355 := EX341.keep K350
    have zp356 : n0 ≤ h354.size := Nat.le_trans zp345 K350.1
    have K357 := (K344).trans K350 (allS (Or.inr sz343) all0)
    have old358 := (old346).keep K350 (allS g342 all0)
    have r359 := r351.astoreN (pc' := 21) (L' := #[.val (.int x0), .val (.int (1 : Int32)), .val (.ref b341), .unset, .unset, .unset, .unset, .unset]) at_20 rfl rfl rfl
    obtain ⟨h360, b360, hb360, E360, EX360, D360, r360⟩ := r359.newO (pc' := 24) at_21 (hw _ (List.mem_of_getElem? (i := 0) rfl)) (hw _ (List.mem_of_getElem? (i := 1) rfl)) (hw _ (List.mem_of_getElem? (i := 2) rfl)) (k' := 2) (n' := 2) rfl rfl (by decide) (by decide) rfl
    have ne361 : b341 ≠ b360 := Nat.ne_of_lt (hb360 ▸ B350.1.lt)
    have g362 : n0 ≤ b360 := hb360 ▸ zp356
    have sz363 : h0.size ≤ b360 := hb360 ▸ (K357).1
    have f364 := B350.1.ext E360
    have f365 := B350.2.ext E360
    have K366 := (K357).ext E360
    have zp367 : n0 ≤ h360.size := Nat.le_trans zp356 E360.1
    have old368 := (old358).ext E360
    have f369 : Fld Z h360 b360 "com/example/quorum_atlas/quorumatlas/value/BoolValue" "value" "Z" (.int (0 : Int32)) := D360 (Or.inr (hw _ (List.mem_of_getElem? (i := 15) rfl))) (ty := .boolean) (by decide)
    have sf360 := wd350.fresh E360 (Nat.le_of_eq hb360.symm)
    have wd360 := wd350.ext E360
    have r370 := r360.dup (pc' := 25) at_24 rfl rfl
    have r371 := r370.iloadN (pc' := 26) at_25 rfl rfl
    have r372 := r371.ifT (pc' := 33) at_26 (feq (by decide : ¬ (1 : Int32) = (0 : Int32))).2 (by decide) (by decide)
    have r373 := r372.iconst (pc' := 34) (0 : Int32) at_33 rfl rfl
    obtain ⟨v377, h378, hq376, r375⟩ := r373.callC (pc' := 37) (a := b360) [(.int (0 : Int32))] (rest := [(.ref b360)]) 1 at_34 rfl (hw _ (List.mem_of_getElem? (i := 3) rfl)) (hw _ (List.mem_of_getElem? (i := 4) rfl)) (hw _ (List.mem_of_getElem? (i := 2) rfl)) (hw _ (List.mem_of_getElem? (i := 5) rfl)) (by decide) (c_bv0 l Z a0 hw b360 h360 n0 EX360 f369 g362 zp367) pd_11 rfl rfl rfl (Nat.le_of_ble_eq_true rfl) (by decide) (by decide) (k' := 2) (n' := 2) rfl rfl (by decide) (by decide) rfl
    obtain ⟨rfl, B374, K374⟩ := hq376
    dsimp only [Option.toList, List.cons_append, List.nil_append] at r375
    have wd374 := wd360.keep K374 (allS sf360 all0)
    have f379 := f364.keep K374
    have f380 := f365.keep K374 (ninS (ne361) nin0)
    have f381 := EX360.keep K374
    have zp382 : n0 ≤ h378.size := Nat.le_trans zp367 K374.1
    have K383 := (K366).trans K374 (allS (Or.inr sz363) all0)
    have old384 := (old368).keep K374 (allS g362 all0)
    have r385 := r375.astoreN (pc' := 38) (L' := #[.val (.int x0), .val (.int (1 : Int32)), .val (.ref b341), .val (.ref b360), .unset, .unset, .unset, .unset]) at_37 rfl rfl rfl
    have r386 := r385.aloadN (pc' := 39) at_38 rfl rfl rfl
    obtain ⟨v387, vm387, h387, ⟨sa387, sb387, rfl, A387, E387⟩, wd387, C387, r387⟩ := r386.callVW (pc' := 42) (a := b341) [] (rest := []) 0 wd374 (ew1 hw) at_39 (hw _ (List.mem_of_getElem? (i := 16) rfl)) (hw _ (List.mem_of_getElem? (i := 17) rfl)) (r386.nface (hw _ (List.mem_of_getElem? (i := 19) rfl)) rfl) (hw _ (List.mem_of_getElem? (i := 19) rfl)) (hw _ (List.mem_of_getElem? (i := 18) rfl)) (hw _ (List.mem_of_getElem? (i := 2) rfl)) (hw _ (List.mem_of_getElem? (i := 20) rfl)) (by decide) (c_ts1 l Z a0 hw b341 h378 n0 f380) f379 pd_2 rfl rfl rfl (Nat.le_of_ble_eq_true rfl) (by decide) (by decide) (k' := 4) (n' := 34) rfl rfl (by decide) (by decide) rfl
    dsimp only [Option.toList, List.cons_append, List.nil_append] at r387
    have f388 := f379.ext E387
    have f389 := f380.ext E387
    have f390 := B374.1.ext E387
    have f391 := B374.2.ext E387
    have K392 := (K383).ext E387
    have zp393 : n0 ≤ h387.size := Nat.le_trans zp382 E387.1
    have old394 := (old384).ext E387
    have r395 := r387.astore (pc' := 44) (L' := #[.val (.int x0), .val (.int (1 : Int32)), .val (.ref b341), .val (.ref b360), .val (.ref sa387), .unset, .unset, .unset]) at_42 rfl rfl rfl
    have r396 := r395.aloadN (pc' := 45) at_44 rfl rfl rfl
    obtain ⟨v397, vm397, h397, ⟨sa397, sb397, rfl, A397, E397⟩, wd397, C397, r397⟩ := r396.callVW (pc' := 48) (a := b360) [] (rest := []) 0 wd387 (ew1 hw) at_45 (hw _ (List.mem_of_getElem? (i := 16) rfl)) (hw _ (List.mem_of_getElem? (i := 17) rfl)) (r396.nface (hw _ (List.mem_of_getElem? (i := 19) rfl)) rfl) (hw _ (List.mem_of_getElem? (i := 19) rfl)) (hw _ (List.mem_of_getElem? (i := 18) rfl)) (hw _ (List.mem_of_getElem? (i := 2) rfl)) (hw _ (List.mem_of_getElem? (i := 20) rfl)) (by decide) (c_ts0 l Z a0 hw b360 h387 n0 f391) f390 pd_2 rfl rfl rfl (Nat.le_of_ble_eq_true rfl) (by decide) (by decide) (k' := 6) (n' := 66) rfl rfl (by decide) (by decide) rfl
    dsimp only [Option.toList, List.cons_append, List.nil_append] at r397
    have f398 := f388.ext E397
    have f399 := f389.ext E397
    have f400 := f390.ext E397
    have f401 := f391.ext E397
    have K402 := (K392).ext E397
    have zp403 : n0 ≤ h397.size := Nat.le_trans zp393 E397.1
    have old404 := (old394).ext E397
    replace A387 := A387.ext E397
    have r405 := r397.astore (pc' := 50) (L' := #[.val (.int x0), .val (.int (1 : Int32)), .val (.ref b341), .val (.ref b360), .val (.ref sa387), .val (.ref sa397), .unset, .unset]) at_48 rfl rfl rfl
    have r406 := r405.iloadN (pc' := 51) at_50 rfl rfl
    have r407 := r406.ifF (pc' := 54) at_51 (feq (by decide : ¬ (1 : Int32) = (0 : Int32))).1 rfl
    have r408 := r407.aload (pc' := 56) at_54 rfl rfl rfl
    obtain ⟨v411, h412, hq410, r409⟩ := r408.callS (pc' := 59) [(.ref sa387)] (rest := []) 0 at_56 (hw _ (List.mem_of_getElem? (i := 69) rfl)) (hw _ (List.mem_of_getElem? (i := 70) rfl)) (hw _ (List.mem_of_getElem? (i := 32) rfl)) (hw _ (List.mem_of_getElem? (i := 71) rfl)) (by decide) (l_TRUE l Z a0 hw sa387 sb387 h397 n0 A387 cs (SCS.ext (old404).2) hcs vF (SFF.ext (old404).2) hvF) pd_10 rfl rfl rfl (Nat.le_of_ble_eq_true rfl) (by decide) (by decide) (k' := 6) (n' := 66) rfl rfl (by decide) (by decide) rfl
    obtain ⟨rfl, rfl⟩ := hq410
    dsimp only [Option.toList, List.cons_append, List.nil_append] at r409
    have r413 := r409.goto (pc' := 67) at_59 (by decide) (by decide)
    have r414 := r413.istore (pc' := 69) (L' := #[.val (.int x0), .val (.int (1 : Int32)), .val (.ref b341), .val (.ref b360), .val (.ref sa387), .val (.ref sa397), .val (.int (1 : Int32)), .unset]) at_67 rfl rfl
    have r415 := r414.iloadN (pc' := 70) at_69 rfl rfl
    have r416 := r415.ifF (pc' := 73) at_70 (feq (by decide : ¬ (1 : Int32) = (0 : Int32))).1 rfl
    have r417 := r416.aload (pc' := 75) at_73 rfl rfl rfl
    obtain ⟨v420, h421, hq419, r418⟩ := r417.callS (pc' := 78) [(.ref sa397)] (rest := []) 0 at_75 (hw _ (List.mem_of_getElem? (i := 30) rfl)) (hw _ (List.mem_of_getElem? (i := 31) rfl)) (hw _ (List.mem_of_getElem? (i := 32) rfl)) (hw _ (List.mem_of_getElem? (i := 33) rfl)) (by decide) (l_FALSE l Z a0 hw sa397 sb397 h397 n0 A397 cs (SCS.ext (old404).2) hcs vF (SFF.ext (old404).2) hvF) pd_10 rfl rfl rfl (Nat.le_of_ble_eq_true rfl) (by decide) (by decide) (k' := 6) (n' := 66) rfl rfl (by decide) (by decide) rfl
    obtain ⟨rfl, rfl⟩ := hq419
    dsimp only [Option.toList, List.cons_append, List.nil_append] at r418
    have r422 := r418.goto (pc' := 86) at_78 (by decide) (by decide)
    have r423 := r422.istore (pc' := 88) (L' := #[.val (.int x0), .val (.int (1 : Int32)), .val (.ref b341), .val (.ref b360), .val (.ref sa387), .val (.ref sa397), .val (.int (1 : Int32)), .val (.int (1 : Int32))]) at_86 rfl rfl
    have r424 := r423.iload (pc' := 90) at_88 rfl rfl
    have r425 := r424.ifF (pc' := 93) at_90 (feq (by decide : ¬ (1 : Int32) = (0 : Int32))).1 rfl
    have r426 := r425.iload (pc' := 95) at_93 rfl rfl
    have r427 := r426.ifF (pc' := 98) at_95 (feq (by decide : ¬ (1 : Int32) = (0 : Int32))).1 rfl
    have r428 := r427.aload (pc' := 100) at_98 rfl rfl rfl
    have r429 := r428.aload (pc' := 102) at_100 rfl rfl rfl
    obtain ⟨v432, h433, hq431, r430⟩ := r429.callV (pc' := 105) (a := sa387) [(.ref sa397)] (rest := []) 0 at_102 (hw _ (List.mem_of_getElem? (i := 72) rfl)) (hw _ (List.mem_of_getElem? (i := 73) rfl)) (r429.nface (hw _ (List.mem_of_getElem? (i := 75) rfl)) rfl) (hw _ (List.mem_of_getElem? (i := 75) rfl)) (hw _ (List.mem_of_getElem? (i := 74) rfl)) (hw _ (List.mem_of_getElem? (i := 22) rfl)) (hw _ (List.mem_of_getElem? (i := 76) rfl)) (by decide) (s_eq l Z a0 hw sa387 sb387 sa397 sb397 (4 : Int32) (5 : Int32) [84, 82, 85, 69] [70, 65, 76, 83, 69] h397 n0 A387 A397 (by decide) (A387.ne A397 (by decide)) cs (SCS.ext (old404).2) hcs) A387.1 pd_9 rfl rfl rfl (Nat.le_of_ble_eq_true rfl) (by decide) (by decide) (k' := 6) (n' := 66) rfl rfl (by decide) (by decide) rfl
    obtain ⟨rfl, rfl⟩ := hq431
    dsimp only [Option.toList, List.cons_append, List.nil_append] at r430
    have r434 := r430.ifF (pc' := 108) at_105 (teq (by decide : (0 : Int32) = (0 : Int32))).2 rfl
    have r435 := r434.iconst (pc' := 109) (1 : Int32) at_108 rfl rfl
    have r436 := r435.goto (pc' := 113) at_109 (by decide) (by decide)
    exact ⟨_, _, Don.wide (r436.retZ at_113 rfl (t := .boolean) (by simp) (1 : Int32) rfl (by decide) (by decide)) r436 wd397, rfl⟩
set_option maxRecDepth 65536 in
set_option maxHeartbeats 40000000 in
theorem comes_1 {Post : Tables → Env → Array Value → State → Outcome → State → Prop} (hpost : ∀ tb e args s v u, (limb_1_1.after args s (.returned v) u = true ∧ limb_1_2.after args s (.returned v) u = true ∧ True) → ReturnedEndW s (.returned v) u (Jvm.fieldLocs frame_1_writes args s ++ Jvm.arrayLocs frame_1_arrays args s ++ Jvm.staticLocs frame_1_statics s) 16 2176 → Post tb e args s (.returned v) u) :
    ArmFor flags0 classFile x code maxLocals ret World_1 tables_1 room_1 Calls_1 rest_1 Pre_1 Post := by
  intro l hfl _ _ p e ha hc hk s m args below hf hA hF happ hP
  obtain ⟨hcalls, hrest, hpre⟩ := hP
  obtain ⟨-, -, -, hnamed, -, -, -, hat⟩ := (Spec.applies_iff hf).mp happ
  obtain ⟨hg, hn⟩ := and_e (Cond.before_iff.mp (show (Jvm.Cond.and given_1 narrow_1).before args s = true from hpre))
  obtain ⟨gg1, gg2⟩ := and_e hg
  obtain ⟨w0, rfl⟩ : ∃ w0 : Value, args = #[w0] := by
    have hs : args.size = 1 := by simpa [Cond.value, given_1] using gg1
    obtain ⟨L⟩ := args
    match L, hs with
    | [w0], _ => exact ⟨w0, rfl⟩
  have hw := fun d (hd : d ∈ tables_1) => atoms_spec (ws := Jvm.Cond.code x code maxLocals ret :: tables_1) hat d (List.mem_cons_of_mem _ hd)
  obtain ⟨i0, ei0⟩ := is_v gg2
  obtain rfl : w0 = (.int i0) := Option.some.inj ei0
  obtain ⟨hsets, hown0⟩ := atoms_of _ (rest_1_c_eq ▸ (show rest_1_c.before _ s = true from hrest))
  obtain ⟨cs, evc⟩ := is_v (Cond.before_iff.mp (hsets _ (List.mem_of_getElem? (i := 1) rfl)))
  have SCS := Sta.start evc (Or.inl (hsets _ (List.mem_of_getElem? (i := 0) rfl)))
  have hcs : ¬ cs = 0 := by have q := not_v (Cond.before_iff.mp (hsets _ (List.mem_of_getElem? (i := 2) rfl))); simpa [Cond.value, evc, Term.int_eval] using q
  obtain ⟨vF, evf, hvF⟩ := isR_v (Cond.before_iff.mp (hsets _ (List.mem_of_getElem? (i := 8) rfl)))
  have SFF := Sta.start evf (Or.inl (hsets _ (List.mem_of_getElem? (i := 7) rfl)))
  have hCH : CHv s EL1 s.vm s.heap := CHv.start (ew1 hw) hcalls.1 (hsets _ (List.mem_of_getElem? (i := 2) rfl)) (hw _ (List.mem_of_getElem? (i := 24) rfl)) (hw _ (List.mem_of_getElem? (i := 23) rfl))
  obtain ⟨n, o, h1, h2, h3, _, L, rfl, ⟨N, rfl⟩, -, hq⟩ := law l s _ hw i0 s.heap s.heap.size (Nat.le_refl _) (Old.start s) cs SCS hcs vF SFF hvF tables_1 p e ha hc hk s m _ below hf ((Spec.applies_iff_loose hf).mp happ).1 ⟨rfl, State.Warmed39.refl s, rfl, hCH⟩ trivial
  refine ⟨n, _, h1, h2, h3, hpost _ _ _ _ _ _ ⟨Cond.after_iff.mpr rfl, Cond.after_iff.mpr (eq_i res_at (Term.int_eval (1)) rfl), trivial⟩ ⟨hq.1, hq.2.1, hq.2.2.1, (hq.2.2.2.sift fun y hy => Or.inr (N y hy)).mono (by decide) (by decide)⟩⟩
theorem main_1_1 : Claimed_1_1 := comes_1 fun _ _ _ _ _ _ h hF => ⟨h.1, hF⟩
theorem main_1_2 : Claimed_1_2 := comes_1 fun _ _ _ _ _ _ h hF => ⟨h.2.1, hF⟩

end Jvm.Pilot.@@N@@
namespace Jvm.Pilot.@@N@@
open Jvm Jvm.ClassFile Sem Op Lib Jvm.Free Jvm.Stand Jvm.Pilot.@@N@@.Jvm.D
/-! MADE BY PROGRAM (witnessworld.py) out of the Statement's table words and the real class files: 19 classes; the members and pool entries that the words name. The judged class is class 1, her method 3. -/
namespace start1
open Jvm.ClassFile
def u (s : String) : CpInfo := .utf8 (stringToUtf16 s)
/-- a pool by its gaps: so many unusable entries, then the entry; so many at the end -/
def gap : Nat → List CpInfo → List CpInfo
  | 0, r => r
  | n + 1, r => .unusable :: gap n r
def poolList (es : List (Nat × CpInfo)) (last : Nat) : List CpInfo := es.foldr (fun e r => gap e.1 (e.2 :: r)) (gap last [])
def pool (es : List (Nat × CpInfo)) (last : Nat) : Array CpInfo := ⟨poolList es last⟩
def fileOf (pool : Array CpInfo) (this : Nat) (attrs : Array Attribute := #[]) (ms : Array MethodInfo := #[]) (fl : Nat := 33) (sup : Nat := 0) (ifs : Array Nat := #[]) (fds : Array FieldInfo := #[]) : ClassFile where
  minorVersion := 0
  majorVersion := 65
  constantPool := pool
  accessFlags := fl
  thisClass := this
  superClass := sup
  interfaces := ifs
  fields := fds
  methods := ms
  attributes := attrs
def plain (name : String) (sup : Option ClassId) : Class where
  name := name
  kind := .ordinary
  loader := none
  accessFlags := 33
  super := sup
  interfaces := #[]
  cf := none
  fields := #[]
  methods := #[]
  instanceTypes := #[]
  staticTypes := #[]
  resolved := #[]
  callSites := []
  init := .initialized
  statics := none
  mirror := none

def pool0 : Array CpInfo := pool [(5, u "<init>"), (0, u "()V"), (1, .class_ 10), (1, u "java/lang/Object")] 113

def k0c0 : Code := { maxStack := 0, maxLocals := 1, code := object_method_1_code, exceptionTable := #[], attributes := #[] }
def k0m0 : Method := { name := "<init>", desc := "()V", sig := { parameters := [], returnType := none }, accessFlags := 1, code := some k0c0 }
/-- java/lang/Object -/
def k0 : Class := { plain "java/lang/Object" none with
  accessFlags := 33
  interfaces := #[]
  cf := some (fileOf pool0 8 #[] #[{ accessFlags := 1, nameIndex := 5, descriptorIndex := 6, attributes := #[] }] 33 0 #[] #[])
  fields := #[]
  methods := #[k0m0]
  instanceTypes := #[]
  staticTypes := #[]
  resolved := Array.replicate 124 none
  statics := none }

def pool1 : Array CpInfo := pool [(2, .class_ 4), (1, u "java/lang/Object"), (0, u "<init>"), (0, u "()V"), (0, .methodref 8 9), (0, .class_ 10), (0, .nameAndType 11 12), (0, u "java/lang/String"), (0, u "length"), (0, u "()I"), (0, .methodref 8 14), (0, .nameAndType 15 16), (0, u "charAt"), (0, u "(I)C"), (0, .class_ 18), (0, u "com/example/quorum_atlas/quorumatlas/value/BoolValue"), (0, .methodref 17 20), (0, .nameAndType 5 21), (0, u "(Z)V"), (0, .methodref 17 23), (0, .nameAndType 24 25), (0, u "toString"), (0, u "()Ljava/lang/String;"), (0, .methodref 27 28), (0, .class_ 29), (0, .nameAndType 30 31), (0, u "com/example/quorum_atlas/quorumatlas/value/BoolValueToStringPinLaw"), (0, u "isTrueLiteral"), (0, u "(Ljava/lang/String;)Z"), (0, .methodref 27 33), (0, .nameAndType 34 31), (0, u "isFalseLiteral"), (0, .methodref 8 36), (0, .nameAndType 37 38), (0, u "equals"), (0, u "(Ljava/lang/Object;)Z"), (3, u "law"), (0, u "(I)Z")] 2

def k1m0 : Method := { name := "<init>", desc := "()V", sig := { parameters := [], returnType := none }, accessFlags := 2, code := none }
def k1c1 : Code := { maxStack := 2, maxLocals := 1, code := method_2_code, exceptionTable := #[], attributes := #[] }
def k1m1 : Method := { name := "isTrueLiteral", desc := "(Ljava/lang/String;)Z", sig := { parameters := [(.object "java/lang/String")], returnType := some .boolean }, accessFlags := 10, code := some k1c1 }
def k1c2 : Code := { maxStack := 2, maxLocals := 1, code := method_3_code, exceptionTable := #[], attributes := #[] }
def k1m2 : Method := { name := "isFalseLiteral", desc := "(Ljava/lang/String;)Z", sig := { parameters := [(.object "java/lang/String")], returnType := some .boolean }, accessFlags := 10, code := some k1c2 }
def k1c3 : Code := { maxStack := 3, maxLocals := 8, code := code, exceptionTable := #[], attributes := #[] }
def k1m3 : Method := { name := "law", desc := "(I)Z", sig := { parameters := [.int], returnType := some .boolean }, accessFlags := 9, code := some k1c3 }
/-- com/example/quorum_atlas/quorumatlas/value/BoolValueToStringPinLaw -/
def k1 : Class := { plain "com/example/quorum_atlas/quorumatlas/value/BoolValueToStringPinLaw" (some 0) with
  accessFlags := 49
  interfaces := #[]
  cf := some (fileOf pool1 27 #[] #[{ accessFlags := 2, nameIndex := 5, descriptorIndex := 6, attributes := #[] }, { accessFlags := 10, nameIndex := 30, descriptorIndex := 31, attributes := #[] }, { accessFlags := 10, nameIndex := 34, descriptorIndex := 31, attributes := #[] }, { accessFlags := 9, nameIndex := 42, descriptorIndex := 43, attributes := #[] }] 49 2 #[] #[])
  fields := #[]
  methods := #[k1m0, k1m1, k1m2, k1m3]
  instanceTypes := #[]
  staticTypes := #[]
  resolved := Array.replicate 46 none
  statics := none }

def pool2 : Array CpInfo := pool [(1, .methodref 2 3), (0, .class_ 4), (0, .nameAndType 5 6), (0, u "java/lang/Object"), (0, u "<init>"), (0, u "()V"), (0, .class_ 8), (0, u "java/lang/Record")] 13

def k2c0 : Code := { maxStack := 1, maxLocals := 1, code := jdk_30_method_1_code, exceptionTable := #[], attributes := #[] }
def k2m0 : Method := { name := "<init>", desc := "()V", sig := { parameters := [], returnType := none }, accessFlags := 4, code := some k2c0 }
/-- java/lang/Record -/
def k2 : Class := { plain "java/lang/Record" (some 0) with
  accessFlags := 1057
  interfaces := #[]
  cf := some (fileOf pool2 7 #[] #[{ accessFlags := 4, nameIndex := 5, descriptorIndex := 6, attributes := #[] }] 1057 2 #[] #[])
  fields := #[]
  methods := #[k2m0]
  instanceTypes := #[]
  staticTypes := #[]
  resolved := Array.replicate 22 none
  statics := none }

def pool3 : Array CpInfo := pool [(1, .class_ 2), (0, u "java/lang/Comparable"), (0, .class_ 4), (0, u "java/lang/Object")] 7

/-- java/lang/Comparable -/
def k3 : Class := { plain "java/lang/Comparable" (some 0) with
  accessFlags := 1537
  interfaces := #[]
  cf := some (fileOf pool3 1 #[] #[] 1537 3 #[] #[])
  fields := #[]
  methods := #[]
  instanceTypes := #[]
  staticTypes := #[]
  resolved := Array.replicate 12 none
  statics := none }

def pool4 : Array CpInfo := pool [(1, .class_ 2), (0, u "com/example/quorum_atlas/quorumatlas/value/Value"), (0, .class_ 4), (0, u "java/lang/Object"), (0, .class_ 6), (0, u "java/lang/Comparable"), (7, .class_ 15), (0, u "com/example/quorum_atlas/quorumatlas/value/Value$Kind")] 15

/-- com/example/quorum_atlas/quorumatlas/value/Value -/
def k4 : Class := { plain "com/example/quorum_atlas/quorumatlas/value/Value" (some 0) with
  accessFlags := 1537
  interfaces := #[3]
  cf := some (fileOf pool4 1 #[.nestMembers #[14]] #[] 1537 3 #[5] #[])
  fields := #[]
  methods := #[]
  instanceTypes := #[]
  staticTypes := #[]
  resolved := Array.replicate 31 none
  statics := none }

def pool5 : Array CpInfo := pool [(1, .methodref 2 3), (0, .class_ 4), (0, .nameAndType 5 6), (0, u "java/lang/Record"), (0, u "<init>"), (0, u "()V"), (0, .fieldref 8 9), (0, .class_ 10), (0, .nameAndType 11 12), (0, u "com/example/quorum_atlas/quorumatlas/value/BoolValue"), (0, u "value"), (0, u "Z"), (2, u "TRUE"), (0, u "Lcom/example/quorum_atlas/quorumatlas/value/BoolValue;"), (2, u "FALSE"), (17, .class_ 38), (0, u "com/example/quorum_atlas/quorumatlas/value/Value"), (4, .string 15), (0, .string 19), (13, u "(Z)V"), (6, u "toString"), (0, u "()Ljava/lang/String;")] 27

def k5c0 : Code := { maxStack := 2, maxLocals := 2, code := prog_125_method_1_code, exceptionTable := #[], attributes := #[] }
def k5m0 : Method := { name := "<init>", desc := "(Z)V", sig := { parameters := [.boolean], returnType := none }, accessFlags := 1, code := some k5c0 }
def k5c1 : Code := { maxStack := 1, maxLocals := 1, code := prog_125_method_5_code, exceptionTable := #[], attributes := #[] }
def k5m1 : Method := { name := "toString", desc := "()Ljava/lang/String;", sig := { parameters := [], returnType := some (.object "java/lang/String") }, accessFlags := 1, code := some k5c1 }
/-- com/example/quorum_atlas/quorumatlas/value/BoolValue -/
def k5 : Class := { plain "com/example/quorum_atlas/quorumatlas/value/BoolValue" (some 2) with
  accessFlags := 49
  interfaces := #[4]
  cf := some (fileOf pool5 8 #[] #[{ accessFlags := 1, nameIndex := 5, descriptorIndex := 58, attributes := #[] }, { accessFlags := 1, nameIndex := 65, descriptorIndex := 66, attributes := #[] }] 49 2 #[37] #[{ accessFlags := 18, nameIndex := 11, descriptorIndex := 12, attributes := #[] }, { accessFlags := 25, nameIndex := 15, descriptorIndex := 16, attributes := #[] }, { accessFlags := 25, nameIndex := 19, descriptorIndex := 16, attributes := #[] }])
  fields := #[{ name := "value", type := .boolean, accessFlags := 18, slot := 0, constantValue := 0 }, { name := "TRUE", type := (.object "com/example/quorum_atlas/quorumatlas/value/BoolValue"), accessFlags := 25, slot := 0, constantValue := 0 }, { name := "FALSE", type := (.object "com/example/quorum_atlas/quorumatlas/value/BoolValue"), accessFlags := 25, slot := 1, constantValue := 0 }]
  methods := #[k5m0, k5m1]
  instanceTypes := #[.boolean]
  staticTypes := #[(.object "com/example/quorum_atlas/quorumatlas/value/BoolValue"), (.object "com/example/quorum_atlas/quorumatlas/value/BoolValue")]
  resolved := Array.replicate 94 none
  statics := none }

def pool6 : Array CpInfo := pool [(1, .class_ 2), (0, u "java/io/Serializable"), (0, .class_ 4), (0, u "java/lang/Object")] 2

/-- java/io/Serializable -/
def k6 : Class := { plain "java/io/Serializable" (some 0) with
  accessFlags := 1537
  interfaces := #[]
  cf := some (fileOf pool6 1 #[] #[] 1537 3 #[] #[])
  fields := #[]
  methods := #[]
  instanceTypes := #[]
  staticTypes := #[]
  resolved := Array.replicate 7 none
  statics := none }

def pool7 : Array CpInfo := pool [(2, .class_ 4), (1, u "java/lang/CharSequence"), (42, .class_ 48), (0, u "java/lang/CharSequence$1CodePointIterator"), (10, .class_ 60), (0, u "java/lang/CharSequence$1CharIterator"), (5, .class_ 67), (0, u "java/lang/Object")] 63

/-- java/lang/CharSequence -/
def k7 : Class := { plain "java/lang/CharSequence" (some 0) with
  accessFlags := 1537
  interfaces := #[]
  cf := some (fileOf pool7 2 #[.nestMembers #[47, 59]] #[] 1537 66 #[] #[])
  fields := #[]
  methods := #[]
  instanceTypes := #[]
  staticTypes := #[]
  resolved := Array.replicate 131 none
  statics := none }

def pool8 : Array CpInfo := pool [(1, .class_ 2), (0, u "java/lang/constant/Constable"), (0, .class_ 4), (0, u "java/lang/Object")] 6

/-- java/lang/constant/Constable -/
def k8 : Class := { plain "java/lang/constant/Constable" (some 0) with
  accessFlags := 1537
  interfaces := #[]
  cf := some (fileOf pool8 1 #[] #[] 1537 3 #[] #[])
  fields := #[]
  methods := #[]
  instanceTypes := #[]
  staticTypes := #[]
  resolved := Array.replicate 11 none
  statics := none }

def pool9 : Array CpInfo := pool [(1, .class_ 2), (0, u "java/lang/constant/ConstantDesc"), (0, .class_ 4), (0, u "java/lang/Object")] 32

/-- java/lang/constant/ConstantDesc -/
def k9 : Class := { plain "java/lang/constant/ConstantDesc" (some 0) with
  accessFlags := 1537
  interfaces := #[]
  cf := some (fileOf pool9 1 #[] #[] 1537 3 #[] #[])
  fields := #[]
  methods := #[]
  instanceTypes := #[]
  staticTypes := #[]
  resolved := Array.replicate 37 none
  statics := none }

def pool10 : Array CpInfo := pool [(2, .class_ 4), (1, u "java/lang/Object"), (0, u "<init>"), (0, u "()V"), (2, .fieldref 10 11), (0, .class_ 12), (0, .nameAndType 13 14), (0, u "java/lang/String"), (0, u "value"), (0, u "[B"), (0, .fieldref 10 16), (0, .nameAndType 17 18), (0, u "coder"), (0, u "B"), (2, u "hash"), (0, u "I"), (2, u "hashIsZero"), (0, u "Z"), (11, .fieldref 10 39), (0, .nameAndType 40 26), (0, u "COMPACT_STRINGS"), (66, .class_ 109), (1, u "java/lang/StringLatin1"), (32, u "()Z"), (191, u "()I"), (0, .methodref 10 336), (0, .nameAndType 17 337), (0, u "()B"), (25, u "([BI)C"), (27, u "(II)V"), (35, u "(I)C"), (64, .methodref 10 493), (0, .nameAndType 494 142), (0, u "isLatin1"), (0, .methodref 107 496), (0, .nameAndType 497 363), (0, u "charAt"), (3, u "checkIndex"), (5, u "length"), (33, .methodref 107 542), (0, .nameAndType 543 544), (0, u "equals"), (0, u "([B[B)Z"), (28, u "(Ljava/lang/Object;)Z"), (1, .class_ 576), (0, u "java/lang/CharSequence"), (22, u "CASE_INSENSITIVE_ORDER"), (0, u "Ljava/util/Comparator;"), (452, .fieldref 1054 1055), (0, .class_ 1056), (0, .nameAndType 1057 1058), (0, u "jdk/internal/util/Preconditions"), (0, u "SIOOBE_FORMATTER"), (0, u "Ljava/util/function/BiFunction;"), (0, .methodref 1054 1060), (0, .nameAndType 501 1061), (0, u "(IILjava/util/function/BiFunction;)I"), (39, u "serialPersistentFields"), (0, u "[Ljava/io/ObjectStreamField;"), (0, .class_ 1104), (0, u "java/lang/String$CaseInsensitiveComparator"), (1, .class_ 1107), (0, u "java/io/Serializable"), (0, .class_ 1109), (0, u "java/lang/Comparable"), (0, .class_ 1111), (0, u "java/lang/constant/Constable"), (0, .class_ 1113), (0, u "java/lang/constant/ConstantDesc"), (2, u "serialVersionUID"), (0, u "J"), (3, u "REPL"), (0, u "C"), (2, u "LATIN1"), (1, u "UTF16")] 323

def k10m0 : Method := { name := "<init>", desc := "()V", sig := { parameters := [], returnType := none }, accessFlags := 1, code := none }
def k10c1 : Code := { maxStack := 2, maxLocals := 1, code := jdk_42_method_54_code, exceptionTable := #[], attributes := #[] }
def k10m1 : Method := { name := "length", desc := "()I", sig := { parameters := [], returnType := some .int }, accessFlags := 1, code := some k10c1 }
def k10c2 : Code := { maxStack := 2, maxLocals := 2, code := jdk_42_method_56_code, exceptionTable := #[], attributes := #[] }
def k10m2 : Method := { name := "charAt", desc := "(I)C", sig := { parameters := [.int], returnType := some .char }, accessFlags := 1, code := some k10c2 }
def k10c3 : Code := { maxStack := 2, maxLocals := 3, code := jdk_42_method_66_code, exceptionTable := #[], attributes := #[] }
def k10m3 : Method := { name := "equals", desc := "(Ljava/lang/Object;)Z", sig := { parameters := [(.object "java/lang/Object")], returnType := some .boolean }, accessFlags := 1, code := some k10c3 }
def k10c4 : Code := { maxStack := 1, maxLocals := 1, code := jdk_42_method_152_code, exceptionTable := #[], attributes := #[] }
def k10m4 : Method := { name := "coder", desc := "()B", sig := { parameters := [], returnType := some .byte }, accessFlags := 0, code := some k10c4 }
def k10c5 : Code := { maxStack := 1, maxLocals := 1, code := jdk_42_method_154_code, exceptionTable := #[], attributes := #[] }
def k10m5 : Method := { name := "isLatin1", desc := "()Z", sig := { parameters := [], returnType := some .boolean }, accessFlags := 0, code := some k10c5 }
def k10c6 : Code := { maxStack := 3, maxLocals := 2, code := jdk_42_method_155_code, exceptionTable := #[], attributes := #[] }
def k10m6 : Method := { name := "checkIndex", desc := "(II)V", sig := { parameters := [.int, .int], returnType := none }, accessFlags := 8, code := some k10c6 }
/-- java/lang/String -/
def k10 : Class := { plain "java/lang/String" (some 0) with
  accessFlags := 49
  interfaces := #[6, 3, 7, 8, 9]
  cf := some (fileOf pool10 10 #[.nestMembers #[1103]] #[{ accessFlags := 1, nameIndex := 5, descriptorIndex := 6, attributes := #[] }, { accessFlags := 1, nameIndex := 507, descriptorIndex := 334, attributes := #[] }, { accessFlags := 1, nameIndex := 497, descriptorIndex := 427, attributes := #[] }, { accessFlags := 1, nameIndex := 543, descriptorIndex := 573, attributes := #[] }, { accessFlags := 0, nameIndex := 17, descriptorIndex := 337, attributes := #[] }, { accessFlags := 0, nameIndex := 494, descriptorIndex := 142, attributes := #[] }, { accessFlags := 8, nameIndex := 501, descriptorIndex := 391, attributes := #[] }] 49 2 #[1106, 1108, 575, 1110, 1112] #[{ accessFlags := 18, nameIndex := 13, descriptorIndex := 14, attributes := #[] }, { accessFlags := 18, nameIndex := 17, descriptorIndex := 18, attributes := #[] }, { accessFlags := 2, nameIndex := 21, descriptorIndex := 22, attributes := #[] }, { accessFlags := 2, nameIndex := 25, descriptorIndex := 26, attributes := #[] }, { accessFlags := 26, nameIndex := 1116, descriptorIndex := 1117, attributes := #[] }, { accessFlags := 24, nameIndex := 40, descriptorIndex := 26, attributes := #[] }, { accessFlags := 26, nameIndex := 1101, descriptorIndex := 1102, attributes := #[] }, { accessFlags := 26, nameIndex := 1121, descriptorIndex := 1122, attributes := #[] }, { accessFlags := 25, nameIndex := 599, descriptorIndex := 600, attributes := #[] }, { accessFlags := 24, nameIndex := 1125, descriptorIndex := 18, attributes := #[] }, { accessFlags := 24, nameIndex := 1127, descriptorIndex := 18, attributes := #[] }])
  fields := #[{ name := "value", type := (.array .byte), accessFlags := 18, slot := 0, constantValue := 0 }, { name := "coder", type := .byte, accessFlags := 18, slot := 1, constantValue := 0 }, { name := "hash", type := .int, accessFlags := 2, slot := 2, constantValue := 0 }, { name := "hashIsZero", type := .boolean, accessFlags := 2, slot := 3, constantValue := 0 }, { name := "serialVersionUID", type := .long, accessFlags := 26, slot := 0, constantValue := 0 }, { name := "COMPACT_STRINGS", type := .boolean, accessFlags := 24, slot := 1, constantValue := 0 }, { name := "serialPersistentFields", type := (.array (.object "java/io/ObjectStreamField")), accessFlags := 26, slot := 2, constantValue := 0 }, { name := "REPL", type := .char, accessFlags := 26, slot := 3, constantValue := 0 }, { name := "CASE_INSENSITIVE_ORDER", type := (.object "java/util/Comparator"), accessFlags := 25, slot := 4, constantValue := 0 }, { name := "LATIN1", type := .byte, accessFlags := 24, slot := 5, constantValue := 0 }, { name := "UTF16", type := .byte, accessFlags := 24, slot := 6, constantValue := 0 }]
  methods := #[k10m0, k10m1, k10m2, k10m3, k10m4, k10m5, k10m6]
  instanceTypes := #[(.array .byte), .byte, .int, .boolean]
  staticTypes := #[.long, .boolean, (.array (.object "java/io/ObjectStreamField")), .char, (.object "java/util/Comparator"), .byte, .byte]
  resolved := Array.replicate 1451 none
  statics := some 0 }

def pool11 : Array CpInfo := pool [(1, .class_ 2), (0, u "java/lang/String"), (1, .class_ 6), (1, u "java/lang/Object"), (0, u "<init>"), (0, u "()V"), (0, .methodref 1 10), (0, .nameAndType 11 12), (0, u "checkIndex"), (0, u "(II)V"), (1, .class_ 16), (1, u "java/lang/StringLatin1"), (36, u "([BI)C"), (67, u "$assertionsDisabled"), (0, u "Z"), (98, .class_ 223), (1, u "java/lang/StringLatin1$LinesSpliterator"), (28, u "charAt"), (28, u "equals"), (0, u "([B[B)Z"), (107, .class_ 391), (0, u "java/lang/StringLatin1$CharsSpliterator")] 3

def k11m0 : Method := { name := "<init>", desc := "()V", sig := { parameters := [], returnType := none }, accessFlags := 0, code := none }
def k11c1 : Code := { maxStack := 2, maxLocals := 2, code := jdk_43_method_2_code, exceptionTable := #[], attributes := #[] }
def k11m1 : Method := { name := "charAt", desc := "([BI)C", sig := { parameters := [(.array .byte), .int], returnType := some .char }, accessFlags := 9, code := some k11c1 }
def k11c2 : Code := { maxStack := 3, maxLocals := 3, code := jdk_43_method_13_code, exceptionTable := #[], attributes := #[] }
def k11m2 : Method := { name := "equals", desc := "([B[B)Z", sig := { parameters := [(.array .byte), (.array .byte)], returnType := some .boolean }, accessFlags := 9, code := some k11c2 }
/-- java/lang/StringLatin1 -/
def k11 : Class := { plain "java/lang/StringLatin1" (some 0) with
  accessFlags := 48
  interfaces := #[]
  cf := some (fileOf pool11 14 #[.nestMembers #[390, 221]] #[{ accessFlags := 0, nameIndex := 7, descriptorIndex := 8, attributes := #[] }, { accessFlags := 9, nameIndex := 252, descriptorIndex := 53, attributes := #[] }, { accessFlags := 9, nameIndex := 281, descriptorIndex := 282, attributes := #[] }] 48 4 #[] #[{ accessFlags := 4120, nameIndex := 121, descriptorIndex := 122, attributes := #[] }])
  fields := #[{ name := "$assertionsDisabled", type := .boolean, accessFlags := 4120, slot := 0, constantValue := 0 }]
  methods := #[k11m0, k11m1, k11m2]
  instanceTypes := #[]
  staticTypes := #[.boolean]
  resolved := Array.replicate 395 none
  statics := none }

def pool12 : Array CpInfo := pool [(2, .class_ 4), (1, u "java/lang/Object"), (0, u "<init>"), (0, u "()V"), (17, .class_ 26), (1, u "jdk/internal/util/Preconditions"), (6, u "checkIndex"), (21, .class_ 56), (0, u "jdk/internal/util/Preconditions$4"), (57, .class_ 115), (0, u "jdk/internal/util/Preconditions$1"), (7, u "SIOOBE_FORMATTER"), (0, u "Ljava/util/function/BiFunction;"), (0, .class_ 126), (0, u "jdk/internal/util/Preconditions$2"), (3, u "AIOOBE_FORMATTER"), (0, .class_ 132), (0, u "jdk/internal/util/Preconditions$3"), (3, u "IOOBE_FORMATTER"), (41, u "(IILjava/util/function/BiFunction;)I")] 15

def k12m0 : Method := { name := "<init>", desc := "()V", sig := { parameters := [], returnType := none }, accessFlags := 1, code := none }
def k12c1 : Code := { maxStack := 3, maxLocals := 3, code := jdk_41_method_11_code, exceptionTable := #[], attributes := #[] }
def k12m1 : Method := { name := "checkIndex", desc := "(IILjava/util/function/BiFunction;)I", sig := { parameters := [.int, .int, (.object "java/util/function/BiFunction")], returnType := some .int }, accessFlags := 9, code := some k12c1 }
/-- jdk/internal/util/Preconditions -/
def k12 : Class := { plain "jdk/internal/util/Preconditions" (some 0) with
  accessFlags := 33
  interfaces := #[]
  cf := some (fileOf pool12 24 #[.nestMembers #[55, 131, 125, 114]] #[{ accessFlags := 1, nameIndex := 5, descriptorIndex := 6, attributes := #[] }, { accessFlags := 9, nameIndex := 33, descriptorIndex := 178, attributes := #[] }] 33 2 #[] #[{ accessFlags := 25, nameIndex := 123, descriptorIndex := 124, attributes := #[] }, { accessFlags := 25, nameIndex := 130, descriptorIndex := 124, attributes := #[] }, { accessFlags := 25, nameIndex := 136, descriptorIndex := 124, attributes := #[] }])
  fields := #[{ name := "SIOOBE_FORMATTER", type := (.object "java/util/function/BiFunction"), accessFlags := 25, slot := 0, constantValue := 0 }, { name := "AIOOBE_FORMATTER", type := (.object "java/util/function/BiFunction"), accessFlags := 25, slot := 1, constantValue := 0 }, { name := "IOOBE_FORMATTER", type := (.object "java/util/function/BiFunction"), accessFlags := 25, slot := 2, constantValue := 0 }]
  methods := #[k12m0, k12m1]
  instanceTypes := #[]
  staticTypes := #[(.object "java/util/function/BiFunction"), (.object "java/util/function/BiFunction"), (.object "java/util/function/BiFunction")]
  resolved := Array.replicate 194 none
  statics := some 1 }

def pool13 : Array CpInfo := pool [(9, u "<init>"), (6, .class_ 18), (1, u "java/lang/Object"), (0, u "()V"), (1, .class_ 23), (1, u "jdk/internal/util/ArraysSupport"), (0, u "LOG2_ARRAY_LONG_INDEX_SCALE"), (0, u "I"), (2, u "U"), (0, u "Ljdk/internal/misc/Unsafe;"), (8, u "BIG_ENDIAN"), (0, u "Z"), (8, u "LOG2_BYTE_BIT_SIZE"), (4, u "LOG2_ARRAY_INT_INDEX_SCALE"), (54, u "JLA"), (0, u "Ljdk/internal/access/JavaLangAccess;"), (11, u "LOG2_ARRAY_BOOLEAN_INDEX_SCALE"), (9, u "LOG2_ARRAY_BYTE_INDEX_SCALE"), (5, u "LOG2_ARRAY_CHAR_INDEX_SCALE"), (5, u "LOG2_ARRAY_SHORT_INDEX_SCALE"), (18, u "LOG2_ARRAY_FLOAT_INDEX_SCALE"), (24, u "LOG2_ARRAY_DOUBLE_INDEX_SCALE"), (89, u "T_BOOLEAN"), (2, u "T_CHAR"), (1, u "T_FLOAT"), (1, u "T_DOUBLE"), (1, u "T_BYTE"), (1, u "T_SHORT"), (1, u "T_INT"), (1, u "T_LONG"), (1, u "SOFT_MAX_ARRAY_LENGTH")] 83

def k13m0 : Method := { name := "<init>", desc := "()V", sig := { parameters := [], returnType := none }, accessFlags := 2, code := none }
/-- jdk/internal/util/ArraysSupport -/
def k13 : Class := { plain "jdk/internal/util/ArraysSupport" (some 0) with
  accessFlags := 33
  interfaces := #[]
  cf := some (fileOf pool13 21 #[] #[{ accessFlags := 2, nameIndex := 9, descriptorIndex := 19, attributes := #[] }] 33 16 #[] #[{ accessFlags := 24, nameIndex := 28, descriptorIndex := 29, attributes := #[] }, { accessFlags := 26, nameIndex := 38, descriptorIndex := 39, attributes := #[] }, { accessFlags := 25, nameIndex := 121, descriptorIndex := 25, attributes := #[] }, { accessFlags := 25, nameIndex := 131, descriptorIndex := 25, attributes := #[] }, { accessFlags := 25, nameIndex := 137, descriptorIndex := 25, attributes := #[] }, { accessFlags := 25, nameIndex := 143, descriptorIndex := 25, attributes := #[] }, { accessFlags := 25, nameIndex := 53, descriptorIndex := 25, attributes := #[] }, { accessFlags := 25, nameIndex := 24, descriptorIndex := 25, attributes := #[] }, { accessFlags := 25, nameIndex := 162, descriptorIndex := 25, attributes := #[] }, { accessFlags := 25, nameIndex := 187, descriptorIndex := 25, attributes := #[] }, { accessFlags := 26, nameIndex := 48, descriptorIndex := 25, attributes := #[] }, { accessFlags := 25, nameIndex := 277, descriptorIndex := 25, attributes := #[] }, { accessFlags := 25, nameIndex := 280, descriptorIndex := 25, attributes := #[] }, { accessFlags := 25, nameIndex := 282, descriptorIndex := 25, attributes := #[] }, { accessFlags := 25, nameIndex := 284, descriptorIndex := 25, attributes := #[] }, { accessFlags := 25, nameIndex := 286, descriptorIndex := 25, attributes := #[] }, { accessFlags := 25, nameIndex := 288, descriptorIndex := 25, attributes := #[] }, { accessFlags := 25, nameIndex := 290, descriptorIndex := 25, attributes := #[] }, { accessFlags := 25, nameIndex := 292, descriptorIndex := 25, attributes := #[] }, { accessFlags := 26, nameIndex := 108, descriptorIndex := 109, attributes := #[] }, { accessFlags := 25, nameIndex := 294, descriptorIndex := 25, attributes := #[] }])
  fields := #[{ name := "U", type := (.object "jdk/internal/misc/Unsafe"), accessFlags := 24, slot := 0, constantValue := 0 }, { name := "BIG_ENDIAN", type := .boolean, accessFlags := 26, slot := 1, constantValue := 0 }, { name := "LOG2_ARRAY_BOOLEAN_INDEX_SCALE", type := .int, accessFlags := 25, slot := 2, constantValue := 0 }, { name := "LOG2_ARRAY_BYTE_INDEX_SCALE", type := .int, accessFlags := 25, slot := 3, constantValue := 0 }, { name := "LOG2_ARRAY_CHAR_INDEX_SCALE", type := .int, accessFlags := 25, slot := 4, constantValue := 0 }, { name := "LOG2_ARRAY_SHORT_INDEX_SCALE", type := .int, accessFlags := 25, slot := 5, constantValue := 0 }, { name := "LOG2_ARRAY_INT_INDEX_SCALE", type := .int, accessFlags := 25, slot := 6, constantValue := 0 }, { name := "LOG2_ARRAY_LONG_INDEX_SCALE", type := .int, accessFlags := 25, slot := 7, constantValue := 0 }, { name := "LOG2_ARRAY_FLOAT_INDEX_SCALE", type := .int, accessFlags := 25, slot := 8, constantValue := 0 }, { name := "LOG2_ARRAY_DOUBLE_INDEX_SCALE", type := .int, accessFlags := 25, slot := 9, constantValue := 0 }, { name := "LOG2_BYTE_BIT_SIZE", type := .int, accessFlags := 26, slot := 10, constantValue := 0 }, { name := "T_BOOLEAN", type := .int, accessFlags := 25, slot := 11, constantValue := 0 }, { name := "T_CHAR", type := .int, accessFlags := 25, slot := 12, constantValue := 0 }, { name := "T_FLOAT", type := .int, accessFlags := 25, slot := 13, constantValue := 0 }, { name := "T_DOUBLE", type := .int, accessFlags := 25, slot := 14, constantValue := 0 }, { name := "T_BYTE", type := .int, accessFlags := 25, slot := 15, constantValue := 0 }, { name := "T_SHORT", type := .int, accessFlags := 25, slot := 16, constantValue := 0 }, { name := "T_INT", type := .int, accessFlags := 25, slot := 17, constantValue := 0 }, { name := "T_LONG", type := .int, accessFlags := 25, slot := 18, constantValue := 0 }, { name := "JLA", type := (.object "jdk/internal/access/JavaLangAccess"), accessFlags := 26, slot := 19, constantValue := 0 }, { name := "SOFT_MAX_ARRAY_LENGTH", type := .int, accessFlags := 25, slot := 20, constantValue := 0 }]
  methods := #[k13m0]
  instanceTypes := #[]
  staticTypes := #[(.object "jdk/internal/misc/Unsafe"), .boolean, .int, .int, .int, .int, .int, .int, .int, .int, .int, .int, .int, .int, .int, .int, .int, .int, .int, (.object "jdk/internal/access/JavaLangAccess"), .int]
  resolved := Array.replicate 378 none
  statics := none }

def pool14 : Array CpInfo := pool [(1, u "java/lang/Cloneable"), (0, .class_ 1), (0, u "java/lang/Object"), (0, .class_ 3)] 3

/-- java/lang/Cloneable -/
def k14 : Class := { plain "java/lang/Cloneable" (some 0) with
  accessFlags := 1537
  interfaces := #[]
  cf := some (fileOf pool14 2 #[] #[] 1537 4 #[] #[])
  fields := #[]
  methods := #[]
  instanceTypes := #[]
  staticTypes := #[]
  resolved := Array.replicate 8 none
  statics := none }

/-- the primitive byte -/
def k15 : Class := { plain "byte" none with kind := .primitive 'B', accessFlags := 0x411 }
/-- [B -/
def k16 : Class := { plain "[B" (some 0) with kind := .array 15 .byte, interfaces := #[14, 6], accessFlags := 1041 }

/-- the primitive int -/
def k17 : Class := { plain "int" none with kind := .primitive 'I', accessFlags := 0x411 }
/-- [I -/
def k18 : Class := { plain "[I" (some 0) with kind := .array 17 .int, interfaces := #[14, 6], accessFlags := 1041 }

def heap : Heap := #[{ cls := 10, slots := #[.long 0, .int 1, .null, .int 0, .null, .int 0, .int 0], vm := .statics 10 },
  { cls := 12, slots := #[.null, .null, .null], vm := .statics 12 }]
def classes : Array Class := #[k0, k1, k2, k3, k4, k5, k6, k7, k8, k9, k10, k11, k12, k13, k14, k15, k16, k17, k18]
def interned : List (Array UInt16 × Addr) := []
def slotsUsed : Nat := 10
def theMethod : MethodId := ⟨1, 3⟩
def args0 : Array Value := #[.int 5]
def aboutOver (below : List Frame) : State where
  vm := { classes := classes, interned := interned.toArray }
  heap := heap
  slotsUsed := slotsUsed
  threads := #[{ frames := .invoking theMethod args0 :: below }]
def below0 : List Frame := [.native { method := ⟨0, 0⟩, args := #[] }]
def about1 : State := aboutOver below0
def p0 : Program := .bare "" "" ""
def e0 : Env := launch0.env 0 0 0
theorem w_frames : about1.frames = Frame.invoking theMethod args0 :: below0 := rfl
set_option maxRecDepth 65536 in
theorem w_args : argsFit about1.vm theMethod args0 = true := by decide +kernel
set_option maxRecDepth 65536 in
theorem w_heap : heapFits about1 = true := by decide +kernel
set_option maxRecDepth 65536 in
theorem w_runnable : about1.curStatus? = some .runnable := by decide +kernel
set_option maxRecDepth 65536 in
theorem w_alone : about1.alone = true := by decide +kernel
set_option maxRecDepth 65536 in
theorem w_named : about1.methodNamed? x = some theMethod := by decide +kernel
set_option maxRecDepth 65536 in
theorem w_hears : about1.hears theMethod below0 = true := by decide +kernel
set_option maxRecDepth 65536 in
theorem w_ripe : about1.ripe theMethod args0 below0 = true := by decide +kernel
theorem w_running : about1.status = .running := rfl
set_option maxRecDepth 65536 in
theorem w_room : about1.hasRoom e0.platform room_1 = true :=
  launch0.hasRoom_least _ room_1 (by decide +kernel) (by decide +kernel) (by decide +kernel) (by decide +kernel) (by decide +kernel) (by decide +kernel)
theorem allAtoms_all (ts : List Jvm.Cond) (a : Array Jvm.Value) (st : Jvm.State) : (allAtoms ts).before a st = ts.all (fun c => c.before a st) := by
  induction ts with
  | nil => rfl
  | cons c t ih =>
    show (Jvm.Cond.and c (allAtoms t)).before a st = _
    rw [Jvm.Cond.before_and, ih, List.all_cons]
def words1 : List Jvm.Cond := Jvm.Cond.code x code maxLocals ret :: tables_1
/-- a 'code' word, met by the world's own term for the bytes: nothing is compared byte by byte -/
theorem code_word {y : MethodName} {bytes : ByteArray} {mx : Nat} {rt : Option FieldType} {a : Array Value} {s : State} {m : MethodId} {meth : Method} {c : Code} (h1 : s.methodNamed? y = some m) (h2 : s.vm.method? m = some meth) (h3 : meth.code = some c) (h4 : c.code = bytes)
    (h5 : (c.maxLocals == mx && c.exceptionTable.isEmpty && decide (c.maxStack ≤ mostOperands) && decide (meth.sig.returnType = rt) && !meth.locks && decide (parseMethodDescriptor y.desc = some meth.sig)) = true) : (Jvm.Cond.code y bytes mx rt).before a s = true := by
  simp only [Bool.and_eq_true, beq_iff_eq, Bool.not_eq_true', decide_eq_true_eq] at h5
  obtain ⟨⟨⟨⟨⟨g1, g2⟩, g3⟩, g4⟩, g5⟩, g6⟩ := h5
  simp [Cond.before, Cond.holds, Cond.value, h1, h2, h3, h4, g1, g2, g3, g4, g5, g6]
def isCode : Jvm.Cond → Bool
  | .code _ _ _ _ => true
  | _ => false
theorem all_split {L : List Jvm.Cond} {P : Jvm.Cond → Bool} (h1 : L.all (fun c => isCode c || P c) = true) (h2 : ∀ c ∈ L.filter isCode, P c = true) : L.all P = true := by
  refine List.all_eq_true.mpr fun c hc => ?_
  have h := List.all_eq_true.mp h1 c hc
  rcases Bool.eq_false_or_eq_true (isCode c) with hi | hi
  · exact h2 c (List.mem_filter.mpr ⟨hc, hi⟩)
  · simpa [hi] using h
set_option maxRecDepth 65536 in
theorem w_c0 : (Jvm.Cond.code x code maxLocals ret).before args0 about1 = true := code_word (m := ⟨1, 3⟩) (meth := k1m3) (c := k1c3) (by decide +kernel) rfl rfl rfl (by decide +kernel)
set_option maxRecDepth 65536 in
theorem w_c1 : (Jvm.Cond.code ({ cls := "com/example/quorum_atlas/quorumatlas/value/BoolValue", name := "<init>", desc := "(Z)V" } : Jvm.MethodName) prog_125_method_1_code (2 : Nat) (Option.none : Option Jvm.ClassFile.FieldType)).before args0 about1 = true := code_word (m := ⟨5, 0⟩) (meth := k5m0) (c := k5c0) (by decide +kernel) rfl rfl rfl (by decide +kernel)
set_option maxRecDepth 65536 in
theorem w_c2 : (Jvm.Cond.code ({ cls := "java/lang/Record", name := "<init>", desc := "()V" } : Jvm.MethodName) jdk_30_method_1_code (1 : Nat) (Option.none : Option Jvm.ClassFile.FieldType)).before args0 about1 = true := code_word (m := ⟨2, 0⟩) (meth := k2m0) (c := k2c0) (by decide +kernel) rfl rfl rfl (by decide +kernel)
set_option maxRecDepth 65536 in
theorem w_c3 : (Jvm.Cond.code ({ cls := "java/lang/Object", name := "<init>", desc := "()V" } : Jvm.MethodName) object_method_1_code (1 : Nat) (Option.none : Option Jvm.ClassFile.FieldType)).before args0 about1 = true := code_word (m := ⟨0, 0⟩) (meth := k0m0) (c := k0c0) (by decide +kernel) rfl rfl rfl (by decide +kernel)
set_option maxRecDepth 65536 in
theorem w_c4 : (Jvm.Cond.code ({ cls := "com/example/quorum_atlas/quorumatlas/value/BoolValue", name := "toString", desc := "()Ljava/lang/String;" } : Jvm.MethodName) prog_125_method_5_code (1 : Nat) (Option.some (Jvm.ClassFile.FieldType.object "java/lang/String"))).before args0 about1 = true := code_word (m := ⟨5, 1⟩) (meth := k5m1) (c := k5c1) (by decide +kernel) rfl rfl rfl (by decide +kernel)
set_option maxRecDepth 65536 in
theorem w_c5 : (Jvm.Cond.code ({ cls := "com/example/quorum_atlas/quorumatlas/value/BoolValueToStringPinLaw", name := "isFalseLiteral", desc := "(Ljava/lang/String;)Z" } : Jvm.MethodName) method_3_code (1 : Nat) (Option.some Jvm.ClassFile.FieldType.boolean)).before args0 about1 = true := code_word (m := ⟨1, 2⟩) (meth := k1m2) (c := k1c2) (by decide +kernel) rfl rfl rfl (by decide +kernel)
set_option maxRecDepth 65536 in
theorem w_c6 : (Jvm.Cond.code ({ cls := "java/lang/String", name := "length", desc := "()I" } : Jvm.MethodName) jdk_42_method_54_code (1 : Nat) (Option.some Jvm.ClassFile.FieldType.int)).before args0 about1 = true := code_word (m := ⟨10, 1⟩) (meth := k10m1) (c := k10c1) (by decide +kernel) rfl rfl rfl (by decide +kernel)
set_option maxRecDepth 65536 in
theorem w_c7 : (Jvm.Cond.code ({ cls := "java/lang/String", name := "coder", desc := "()B" } : Jvm.MethodName) jdk_42_method_152_code (1 : Nat) (Option.some Jvm.ClassFile.FieldType.byte)).before args0 about1 = true := code_word (m := ⟨10, 4⟩) (meth := k10m4) (c := k10c4) (by decide +kernel) rfl rfl rfl (by decide +kernel)
set_option maxRecDepth 65536 in
theorem w_c8 : (Jvm.Cond.code ({ cls := "java/lang/String", name := "charAt", desc := "(I)C" } : Jvm.MethodName) jdk_42_method_56_code (2 : Nat) (Option.some Jvm.ClassFile.FieldType.char)).before args0 about1 = true := code_word (m := ⟨10, 2⟩) (meth := k10m2) (c := k10c2) (by decide +kernel) rfl rfl rfl (by decide +kernel)
set_option maxRecDepth 65536 in
theorem w_c9 : (Jvm.Cond.code ({ cls := "java/lang/String", name := "isLatin1", desc := "()Z" } : Jvm.MethodName) jdk_42_method_154_code (1 : Nat) (Option.some Jvm.ClassFile.FieldType.boolean)).before args0 about1 = true := code_word (m := ⟨10, 5⟩) (meth := k10m5) (c := k10c5) (by decide +kernel) rfl rfl rfl (by decide +kernel)
set_option maxRecDepth 65536 in
theorem w_c10 : (Jvm.Cond.code ({ cls := "java/lang/StringLatin1", name := "charAt", desc := "([BI)C" } : Jvm.MethodName) jdk_43_method_2_code (2 : Nat) (Option.some Jvm.ClassFile.FieldType.char)).before args0 about1 = true := code_word (m := ⟨11, 1⟩) (meth := k11m1) (c := k11c1) (by decide +kernel) rfl rfl rfl (by decide +kernel)
set_option maxRecDepth 65536 in
theorem w_c11 : (Jvm.Cond.code ({ cls := "java/lang/String", name := "checkIndex", desc := "(II)V" } : Jvm.MethodName) jdk_42_method_155_code (2 : Nat) (Option.none : Option Jvm.ClassFile.FieldType)).before args0 about1 = true := code_word (m := ⟨10, 6⟩) (meth := k10m6) (c := k10c6) (by decide +kernel) rfl rfl rfl (by decide +kernel)
set_option maxRecDepth 65536 in
theorem w_c12 : (Jvm.Cond.code ({ cls := "jdk/internal/util/Preconditions", name := "checkIndex", desc := "(IILjava/util/function/BiFunction;)I" } : Jvm.MethodName) jdk_41_method_11_code (3 : Nat) (Option.some Jvm.ClassFile.FieldType.int)).before args0 about1 = true := code_word (m := ⟨12, 1⟩) (meth := k12m1) (c := k12c1) (by decide +kernel) rfl rfl rfl (by decide +kernel)
set_option maxRecDepth 65536 in
theorem w_c13 : (Jvm.Cond.code ({ cls := "com/example/quorum_atlas/quorumatlas/value/BoolValueToStringPinLaw", name := "isTrueLiteral", desc := "(Ljava/lang/String;)Z" } : Jvm.MethodName) method_2_code (1 : Nat) (Option.some Jvm.ClassFile.FieldType.boolean)).before args0 about1 = true := code_word (m := ⟨1, 1⟩) (meth := k1m1) (c := k1c1) (by decide +kernel) rfl rfl rfl (by decide +kernel)
set_option maxRecDepth 65536 in
theorem w_c14 : (Jvm.Cond.code ({ cls := "java/lang/String", name := "equals", desc := "(Ljava/lang/Object;)Z" } : Jvm.MethodName) jdk_42_method_66_code (3 : Nat) (Option.some Jvm.ClassFile.FieldType.boolean)).before args0 about1 = true := code_word (m := ⟨10, 3⟩) (meth := k10m3) (c := k10c3) (by decide +kernel) rfl rfl rfl (by decide +kernel)
set_option maxRecDepth 65536 in
theorem w_c15 : (Jvm.Cond.code ({ cls := "java/lang/StringLatin1", name := "equals", desc := "([B[B)Z" } : Jvm.MethodName) jdk_43_method_13_code (3 : Nat) (Option.some Jvm.ClassFile.FieldType.boolean)).before args0 about1 = true := code_word (m := ⟨11, 2⟩) (meth := k11m2) (c := k11c2) (by decide +kernel) rfl rfl rfl (by decide +kernel)
def codes1 : List Jvm.Cond := [Jvm.Cond.code x code maxLocals ret, Jvm.Cond.code ({ cls := "com/example/quorum_atlas/quorumatlas/value/BoolValue", name := "<init>", desc := "(Z)V" } : Jvm.MethodName) prog_125_method_1_code (2 : Nat) (Option.none : Option Jvm.ClassFile.FieldType), Jvm.Cond.code ({ cls := "java/lang/Record", name := "<init>", desc := "()V" } : Jvm.MethodName) jdk_30_method_1_code (1 : Nat) (Option.none : Option Jvm.ClassFile.FieldType), Jvm.Cond.code ({ cls := "java/lang/Object", name := "<init>", desc := "()V" } : Jvm.MethodName) object_method_1_code (1 : Nat) (Option.none : Option Jvm.ClassFile.FieldType), Jvm.Cond.code ({ cls := "com/example/quorum_atlas/quorumatlas/value/BoolValue", name := "toString", desc := "()Ljava/lang/String;" } : Jvm.MethodName) prog_125_method_5_code (1 : Nat) (Option.some (Jvm.ClassFile.FieldType.object "java/lang/String")), Jvm.Cond.code ({ cls := "com/example/quorum_atlas/quorumatlas/value/BoolValueToStringPinLaw", name := "isFalseLiteral", desc := "(Ljava/lang/String;)Z" } : Jvm.MethodName) method_3_code (1 : Nat) (Option.some Jvm.ClassFile.FieldType.boolean), Jvm.Cond.code ({ cls := "java/lang/String", name := "length", desc := "()I" } : Jvm.MethodName) jdk_42_method_54_code (1 : Nat) (Option.some Jvm.ClassFile.FieldType.int), Jvm.Cond.code ({ cls := "java/lang/String", name := "coder", desc := "()B" } : Jvm.MethodName) jdk_42_method_152_code (1 : Nat) (Option.some Jvm.ClassFile.FieldType.byte), Jvm.Cond.code ({ cls := "java/lang/String", name := "charAt", desc := "(I)C" } : Jvm.MethodName) jdk_42_method_56_code (2 : Nat) (Option.some Jvm.ClassFile.FieldType.char), Jvm.Cond.code ({ cls := "java/lang/String", name := "isLatin1", desc := "()Z" } : Jvm.MethodName) jdk_42_method_154_code (1 : Nat) (Option.some Jvm.ClassFile.FieldType.boolean), Jvm.Cond.code ({ cls := "java/lang/StringLatin1", name := "charAt", desc := "([BI)C" } : Jvm.MethodName) jdk_43_method_2_code (2 : Nat) (Option.some Jvm.ClassFile.FieldType.char), Jvm.Cond.code ({ cls := "java/lang/String", name := "checkIndex", desc := "(II)V" } : Jvm.MethodName) jdk_42_method_155_code (2 : Nat) (Option.none : Option Jvm.ClassFile.FieldType), Jvm.Cond.code ({ cls := "jdk/internal/util/Preconditions", name := "checkIndex", desc := "(IILjava/util/function/BiFunction;)I" } : Jvm.MethodName) jdk_41_method_11_code (3 : Nat) (Option.some Jvm.ClassFile.FieldType.int), Jvm.Cond.code ({ cls := "com/example/quorum_atlas/quorumatlas/value/BoolValueToStringPinLaw", name := "isTrueLiteral", desc := "(Ljava/lang/String;)Z" } : Jvm.MethodName) method_2_code (1 : Nat) (Option.some Jvm.ClassFile.FieldType.boolean), Jvm.Cond.code ({ cls := "java/lang/String", name := "equals", desc := "(Ljava/lang/Object;)Z" } : Jvm.MethodName) jdk_42_method_66_code (3 : Nat) (Option.some Jvm.ClassFile.FieldType.boolean), Jvm.Cond.code ({ cls := "java/lang/StringLatin1", name := "equals", desc := "([B[B)Z" } : Jvm.MethodName) jdk_43_method_13_code (3 : Nat) (Option.some Jvm.ClassFile.FieldType.boolean)]
set_option maxRecDepth 65536 in
theorem codes_eq : words1.filter isCode = codes1 := rfl
theorem w_codes : ∀ c ∈ words1.filter isCode, c.before args0 about1 = true := by
  rw [codes_eq]
  intro c hc
  simp only [codes1, List.mem_cons, List.not_mem_nil, or_false] at hc
  rcases hc with rfl | rfl | rfl | rfl | rfl | rfl | rfl | rfl | rfl | rfl | rfl | rfl | rfl | rfl | rfl | rfl
  · exact w_c0
  · exact w_c1
  · exact w_c2
  · exact w_c3
  · exact w_c4
  · exact w_c5
  · exact w_c6
  · exact w_c7
  · exact w_c8
  · exact w_c9
  · exact w_c10
  · exact w_c11
  · exact w_c12
  · exact w_c13
  · exact w_c14
  · exact w_c15
set_option maxRecDepth 65536 in
theorem w_t1 : (words1.take 24).all (fun c => isCode c || c.before args0 about1) = true := by decide +kernel
set_option maxRecDepth 65536 in
theorem w_t2 : ((words1.drop 24).take 24).all (fun c => isCode c || c.before args0 about1) = true := by decide +kernel
set_option maxRecDepth 65536 in
theorem w_t3 : (((words1.drop 24).drop 24).take 24).all (fun c => isCode c || c.before args0 about1) = true := by decide +kernel
set_option maxRecDepth 65536 in
theorem w_t4 : (((words1.drop 24).drop 24).drop 24).all (fun c => isCode c || c.before args0 about1) = true := by decide +kernel
theorem w_tables : (allAtoms (Jvm.Cond.code x code maxLocals ret :: tables_1)).before args0 about1 = true := by
  rw [allAtoms_all]
  show words1.all (fun c => c.before args0 about1) = true
  refine all_split ?_ w_codes
  rw [← List.take_append_drop 24 words1, List.all_append, w_t1, ← List.take_append_drop 24 (words1.drop 24), List.all_append, w_t2, ← List.take_append_drop 24 ((words1.drop 24).drop 24), List.all_append, w_t3, w_t4]
  rfl
set_option maxRecDepth 65536 in
theorem w_rest : rest_1_c.before args0 about1 = true := by decide +kernel
set_option maxRecDepth 65536 in
theorem w_case : (Jvm.Cond.and given_1 narrow_1).before args0 about1 = true := by decide +kernel
set_option maxRecDepth 65536 in
theorem w_consts : constsHeld consts_1 about1 := Jvm.Lit.constsHeldB_iff.mp (by decide +kernel)
theorem w_applies : (headSpec (Jvm.Cond.code x code maxLocals ret :: tables_1) room_1).applies x e0.platform about1 = true :=
  (Spec.applies_iff w_frames).mpr ⟨w_running, w_runnable, w_alone, w_named, w_hears, w_ripe, w_room, w_tables⟩
theorem atStart : AtStart classFile x code maxLocals ret World_1 tables_1 room_1 Calls_1 rest_1 Pre_1 launch0 p0 e0 about1 theMethod args0 below0 :=
  ⟨lists_1, trivial, launch0.admits_env _ _ _, launch0.least_env, fairChoices_fair.cas, fairChoices_fair.clock, w_frames, w_args, w_heap, w_applies, ⟨w_consts, trivial⟩, w_rest, w_case⟩
end start1
theorem witness_1 : WitnessClaimed_1 := ⟨start1.p0, start1.e0, start1.about1, start1.theMethod, start1.args0, start1.below0, start1.atStart⟩
end Jvm.Pilot.@@N@@
