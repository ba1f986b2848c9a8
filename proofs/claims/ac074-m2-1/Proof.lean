import JvmDerived
import JvmDerived.Pilot.@@N@@Statement
import JvmDerived.Pilot.@@N@@Code
set_option linter.unusedVariables false
set_option linter.unusedSimpArgs false
namespace Jvm.Pilot.@@N@@
open Jvm Jvm.ClassFile Sem Op Lib Jvm.Free Jvm.Stand Jvm.LawKit Jvm.RoadKit Bundle Jvm.Pilot.@@N@@.Jvm.D
section OwnLayer
/-- where the walk of the body y stands: after k cells and n slots made, with the heap h and the top frame g -/
def Rch (p : Program) (l : Launch) (e : Env) (R : Room) (s : State) (m : MethodId) (args : Array Value) (below : List Frame) (meth : Method) (c : Code) (Z : State) (y : MethodName) (bc : ByteArray) (ml : Nat) (rt : Option FieldType) (n0 : Nat) (T0 : State) (g0 : JFrame) (k n : Nat) (h : Heap) (g : JFrame) : Prop :=
  (p.tables.exec = Jvm.exec ∧ c.code = bc ∧ c.maxLocals = ml ∧ s.vm.findClass y.cls = some m.cls ∧ Z.Warmed39 s.vm ∧ meth.sig.returnType = rt ∧ meth.locks = false ∧ meth.name = y.name) ∧
  ∃ T locs, Stand p l e R s m args below meth c T locs k n ∧ T.heap = h ∧ Fr n0 locs ∧ ∀ target, Steps p.tables e below (T.setTop g) target → Steps p.tables e below (T0.setTop g0) target
/-- the body has returned v, with the heap h -/
def Don (p : Program) (l : Launch) (e : Env) (R : Room) (s : State) (m : MethodId) (args : Array Value) (below : List Frame) (meth : Method) (c : Code) (rt : Option FieldType) (n0 : Nat) (T0 : State) (g0 : JFrame) (v : Option Value) (h : Heap) : Prop :=
  ∃ T locs k n, Stand p l e R s m args below meth c T locs k n ∧ k ≤ R.cells ∧ n ≤ R.slots ∧ T.heap = h ∧ Fr n0 locs ∧ meth.locks = false ∧ (meth.sig.returnType = none → v = none) ∧
    ∀ fs, (∀ (f : JFrame) (acts : List Action), f.method = m → f.locked = none → f.entered = [] → (doReturn e (T.setTop f) acts v).1 = T.setFrames fs) → Steps p.tables e below (T0.setTop g0) (T.setFrames fs)
/-- a body's contract -/
def Ctr (l : Launch) (Z : State) (y : MethodName) (bc : ByteArray) (ml : Nat) (rt : Option FieldType) (rm : Room) (as : Array Value) (h0 : Heap) (n0 : Nat) (Q : Option Value → Heap → Prop) : Prop :=
  ∀ ws : List Jvm.Cond, MetFree l y (head1 (Jvm.Cond.code y bc ml rt :: ws) rm) (fun a U => a = as ∧ Z.Warmed39 U.vm ∧ U.heap = h0) (fun _ _ _ _ _ => True) (fun _ U o U' => ∃ v L, o = .returned v ∧ (Fr n0 L ∧ Q v U'.heap) ∧ FrameEnd U o U' L rm.cells rm.slots)
variable {p : Program} {l : Launch} {e : Env} {R : Room} {s : State} {m : MethodId} {args : Array Value} {below : List Frame} {meth : Method} {c : Code} {Z : State} {y : MethodName} {bc : ByteArray} {ml : Nat} {rt : Option FieldType} {n0 : Nat} {T0 : State} {g0 : JFrame} {k n : Nat} {h : Heap} {a0 : Array Value} {pc pc' : Nat} {L : Array Slot} {S : List Value}
theorem Rch.step {k' n' : Nat} {h' : Heap} {g g' : JFrame} (r : Rch p l e R s m args below meth c Z y bc ml rt n0 T0 g0 k n h g)
    (f : ∀ T locs, Stand p l e R s m args below meth c T locs k n → T.heap = h → Fr n0 locs → ∃ T' locs', Stand p l e R s m args below meth c T' locs' k' n' ∧ T'.heap = h' ∧ Fr n0 locs' ∧ ∀ target, Steps p.tables e below (T'.setTop g') target → Steps p.tables e below (T.setTop g) target) :
    Rch p l e R s m args below meth c Z y bc ml rt n0 T0 g0 k' n' h' g' := by
  obtain ⟨q, T, locs, X, eT, N, st⟩ := r
  obtain ⟨T', locs', X', eT', N', st'⟩ := f T locs X eT N
  exact ⟨q, T', locs', X', eT', N', fun t z => st t (st' t z)⟩
theorem Rch.pure {g g' : JFrame} (r : Rch p l e R s m args below meth c Z y bc ml rt n0 T0 g0 k n h g)
    (f : ∀ T locs, Stand p l e R s m args below meth c T locs k n → T.heap = h → ∀ target, Steps p.tables e below (T.setTop g') target → Steps p.tables e below (T.setTop g) target) :
    Rch p l e R s m args below meth c Z y bc ml rt n0 T0 g0 k n h g' :=
  r.step fun T locs X eT N => ⟨T, locs, X, eT, N, f T locs X eT⟩
theorem Rch.keep {g g' : JFrame} (r : Rch p l e R s m args below meth c Z y bc ml rt n0 T0 g0 k n h g)
    (f : ∀ T locs, Stand p l e R s m args below meth c T locs k n → T.heap = h → ∃ T', Stand p l e R s m args below meth c T' locs k n ∧ T'.heap = h ∧ ∀ target, Steps p.tables e below (T'.setTop g') target → Steps p.tables e below (T.setTop g) target) :
    Rch p l e R s m args below meth c Z y bc ml rt n0 T0 g0 k n h g' :=
  r.step fun T locs X eT N => by
    obtain ⟨T', X', e', st⟩ := f T locs X eT
    exact ⟨T', locs, X', e', N, st⟩
theorem Rch.widen {g : JFrame} {k' n' : Nat} (r : Rch p l e R s m args below meth c Z y bc ml rt n0 T0 g0 k n h g) (hk : k ≤ k') (hn : n ≤ n') : Rch p l e R s m args below meth c Z y bc ml rt n0 T0 g0 k' n' h g := by
  obtain ⟨q, T, locs, X, eT, N, st⟩ := r
  exact ⟨q, T, locs, ⟨X.admits, X.cas, X.clock, X.frames, X.room, X.hears, X.method, X.code, X.here, X.tail, X.warmed, X.limits, X.bytes, X.same.mono hk hn⟩, eT, N, st⟩
theorem Rch.eqh {g : JFrame} {h' : Heap} (r : Rch p l e R s m args below meth c Z y bc ml rt n0 T0 g0 k n h g) (q : h = h') : Rch p l e R s m args below meth c Z y bc ml rt n0 T0 g0 k n h' g := q ▸ r
theorem Rch.eqg {g g' : JFrame} (r : Rch p l e R s m args below meth c Z y bc ml rt n0 T0 g0 k n h g) (q : g = g') : Rch p l e R s m args below meth c Z y bc ml rt n0 T0 g0 k n h g' := q ▸ r
-- loads and stores
theorem Rch.iloadN (r : Rch p l e R s m args below meth c Z y bc ml rt n0 T0 g0 k n h (mkF m pc L S)) {i : Fin 4} {v : Int32} (hd : decode bc pc = .ok (.iload_n i, 1)) (hl : L[i.val]? = some (.val (.int v))) (hp : pc + 1 = pc') : Rch p l e R s m args below meth c Z y bc ml rt n0 T0 g0 k n h (mkF m pc' L (.int v :: S)) := by
  subst hp; exact r.pure fun T locs X eT t z => XS.iloadN X.here r.1.1 rfl (hb r.1.2.1 hd) hl z
theorem Rch.iload (r : Rch p l e R s m args below meth c Z y bc ml rt n0 T0 g0 k n h (mkF m pc L S)) {i : Nat} {v : Int32} (hd : decode bc pc = .ok (.iload i, 2)) (hl : L[i]? = some (.val (.int v))) (hp : pc + 2 = pc') : Rch p l e R s m args below meth c Z y bc ml rt n0 T0 g0 k n h (mkF m pc' L (.int v :: S)) := by
  subst hp; exact r.pure fun T locs X eT t z => XS.iload X.here r.1.1 rfl (hb r.1.2.1 hd) hl z
theorem Rch.lloadN (r : Rch p l e R s m args below meth c Z y bc ml rt n0 T0 g0 k n h (mkF m pc L S)) {i : Fin 4} {v : Int64} (hd : decode bc pc = .ok (.lload_n i, 1)) (hl : L[i.val]? = some (.val (.long v))) (hp : pc + 1 = pc') : Rch p l e R s m args below meth c Z y bc ml rt n0 T0 g0 k n h (mkF m pc' L (.long v :: S)) := by
  subst hp; exact r.pure fun T locs X eT t z => XS.lloadN X.here r.1.1 rfl (hb r.1.2.1 hd) hl z
theorem Rch.lload (r : Rch p l e R s m args below meth c Z y bc ml rt n0 T0 g0 k n h (mkF m pc L S)) {i : Nat} {v : Int64} (hd : decode bc pc = .ok (.lload i, 2)) (hl : L[i]? = some (.val (.long v))) (hp : pc + 2 = pc') : Rch p l e R s m args below meth c Z y bc ml rt n0 T0 g0 k n h (mkF m pc' L (.long v :: S)) := by
  subst hp; exact r.pure fun T locs X eT t z => XS.lload X.here r.1.1 rfl (hb r.1.2.1 hd) hl z
theorem Rch.aloadN (r : Rch p l e R s m args below meth c Z y bc ml rt n0 T0 g0 k n h (mkF m pc L S)) {i : Fin 4} {v : Value} (hd : decode bc pc = .ok (.aload_n i, 1)) (hl : L[i.val]? = some (.val v)) (hv : v.isRef = true) (hp : pc + 1 = pc') : Rch p l e R s m args below meth c Z y bc ml rt n0 T0 g0 k n h (mkF m pc' L (v :: S)) := by
  subst hp; exact r.pure fun T locs X eT t z => XS.aloadN X.here r.1.1 rfl (hb r.1.2.1 hd) hl hv z
theorem Rch.aload (r : Rch p l e R s m args below meth c Z y bc ml rt n0 T0 g0 k n h (mkF m pc L S)) {i : Nat} {v : Value} (hd : decode bc pc = .ok (.aload i, 2)) (hl : L[i]? = some (.val v)) (hv : v.isRef = true) (hp : pc + 2 = pc') : Rch p l e R s m args below meth c Z y bc ml rt n0 T0 g0 k n h (mkF m pc' L (v :: S)) := by
  subst hp; exact r.pure fun T locs X eT t z => XS.aload X.here r.1.1 rfl (hb r.1.2.1 hd) hl hv z
theorem Rch.istoreN {i : Fin 4} {v : Int32} {L' : Array Slot} (r : Rch p l e R s m args below meth c Z y bc ml rt n0 T0 g0 k n h (mkF m pc L (.int v :: S))) (hd : decode bc pc = .ok (.istore_n i, 1)) (hl : storeLocals L i.val (.int v) = some L') (hp : pc + 1 = pc') : Rch p l e R s m args below meth c Z y bc ml rt n0 T0 g0 k n h (mkF m pc' L' S) := by
  subst hp; exact r.pure fun T locs X eT t z => XS.istoreN X.here r.1.1 rfl (hb r.1.2.1 hd) rfl hl z
theorem Rch.istore {i : Nat} {v : Int32} {L' : Array Slot} (r : Rch p l e R s m args below meth c Z y bc ml rt n0 T0 g0 k n h (mkF m pc L (.int v :: S))) (hd : decode bc pc = .ok (.istore i, 2)) (hl : storeLocals L i (.int v) = some L') (hp : pc + 2 = pc') : Rch p l e R s m args below meth c Z y bc ml rt n0 T0 g0 k n h (mkF m pc' L' S) := by
  subst hp; exact r.pure fun T locs X eT t z => XS.istore X.here r.1.1 rfl (hb r.1.2.1 hd) rfl hl z
theorem Rch.lstoreN {i : Fin 4} {v : Int64} {L' : Array Slot} (r : Rch p l e R s m args below meth c Z y bc ml rt n0 T0 g0 k n h (mkF m pc L (.long v :: S))) (hd : decode bc pc = .ok (.lstore_n i, 1)) (hl : storeLocals L i.val (.long v) = some L') (hp : pc + 1 = pc') : Rch p l e R s m args below meth c Z y bc ml rt n0 T0 g0 k n h (mkF m pc' L' S) := by
  subst hp; exact r.pure fun T locs X eT t z => XS.lstoreN X.here r.1.1 rfl (hb r.1.2.1 hd) rfl hl z
theorem Rch.lstore {i : Nat} {v : Int64} {L' : Array Slot} (r : Rch p l e R s m args below meth c Z y bc ml rt n0 T0 g0 k n h (mkF m pc L (.long v :: S))) (hd : decode bc pc = .ok (.lstore i, 2)) (hl : storeLocals L i (.long v) = some L') (hp : pc + 2 = pc') : Rch p l e R s m args below meth c Z y bc ml rt n0 T0 g0 k n h (mkF m pc' L' S) := by
  subst hp; exact r.pure fun T locs X eT t z => XS.lstore X.here r.1.1 rfl (hb r.1.2.1 hd) rfl hl z
theorem Rch.astoreN {i : Fin 4} {v : Value} {L' : Array Slot} (r : Rch p l e R s m args below meth c Z y bc ml rt n0 T0 g0 k n h (mkF m pc L (v :: S))) (hd : decode bc pc = .ok (.astore_n i, 1)) (hv : v.isRef = true) (hl : storeLocals L i.val v = some L') (hp : pc + 1 = pc') : Rch p l e R s m args below meth c Z y bc ml rt n0 T0 g0 k n h (mkF m pc' L' S) := by
  subst hp; exact r.pure fun T locs X eT t z => XS.astoreN X.here r.1.1 rfl (hb r.1.2.1 hd) rfl hv hl z
theorem Rch.astore {i : Nat} {v : Value} {L' : Array Slot} (r : Rch p l e R s m args below meth c Z y bc ml rt n0 T0 g0 k n h (mkF m pc L (v :: S))) (hd : decode bc pc = .ok (.astore i, 2)) (hv : v.isRef = true) (hl : storeLocals L i v = some L') (hp : pc + 2 = pc') : Rch p l e R s m args below meth c Z y bc ml rt n0 T0 g0 k n h (mkF m pc' L' S) := by
  subst hp; exact r.pure fun T locs X eT t z => XS.astore X.here r.1.1 rfl (hb r.1.2.1 hd) rfl hv hl z
theorem Rch.iinc {i : Nat} {cst : Int} {v u : Int32} {L' : Array Slot} (r : Rch p l e R s m args below meth c Z y bc ml rt n0 T0 g0 k n h (mkF m pc L S)) (w : Int32) (hd : decode bc pc = .ok (.iinc i cst, 3)) (hw : Int32.ofInt cst = w) (hl : L[i]? = some (.val (.int v))) (hu : v + w = u) (hl' : storeLocals L i (.int u) = some L') (hp : pc + 3 = pc') : Rch p l e R s m args below meth c Z y bc ml rt n0 T0 g0 k n h (mkF m pc' L' S) := by
  subst hp hu hw; exact r.pure fun T locs X eT t z => XS.iinc X.here r.1.1 rfl (hb r.1.2.1 hd) hl hl' z
-- constants
theorem Rch.iconst (r : Rch p l e R s m args below meth c Z y bc ml rt n0 T0 g0 k n h (mkF m pc L S)) {i : Int} (w : Int32) (hd : decode bc pc = .ok (.iconst i, 1)) (hw : Int32.ofInt i = w) (hp : pc + 1 = pc') : Rch p l e R s m args below meth c Z y bc ml rt n0 T0 g0 k n h (mkF m pc' L (.int w :: S)) := by
  subst hp hw; exact r.pure fun T locs X eT t z => XS.iconst X.here r.1.1 rfl (hb r.1.2.1 hd) z
theorem Rch.bipush (r : Rch p l e R s m args below meth c Z y bc ml rt n0 T0 g0 k n h (mkF m pc L S)) {i : Int} (w : Int32) (hd : decode bc pc = .ok (.bipush i, 2)) (hw : (Int8.ofInt i).toInt32 = w) (hp : pc + 2 = pc') : Rch p l e R s m args below meth c Z y bc ml rt n0 T0 g0 k n h (mkF m pc' L (.int w :: S)) := by
  subst hp hw; exact r.pure fun T locs X eT t z => XS.bipush X.here r.1.1 rfl (hb r.1.2.1 hd) z
theorem Rch.sipush (r : Rch p l e R s m args below meth c Z y bc ml rt n0 T0 g0 k n h (mkF m pc L S)) {i : Int} (w : Int32) (hd : decode bc pc = .ok (.sipush i, 3)) (hw : (Int16.ofInt i).toInt32 = w) (hp : pc + 3 = pc') : Rch p l e R s m args below meth c Z y bc ml rt n0 T0 g0 k n h (mkF m pc' L (.int w :: S)) := by
  subst hp hw; exact r.pure fun T locs X eT t z => XS.sipush X.here r.1.1 rfl (hb r.1.2.1 hd) z
theorem Rch.lconst (r : Rch p l e R s m args below meth c Z y bc ml rt n0 T0 g0 k n h (mkF m pc L S)) {i : Fin 2} (w : Int64) (hd : decode bc pc = .ok (.lconst i, 1)) (hw : Int64.ofNat i = w) (hp : pc + 1 = pc') : Rch p l e R s m args below meth c Z y bc ml rt n0 T0 g0 k n h (mkF m pc' L (.long w :: S)) := by
  subst hp hw; exact r.pure fun T locs X eT t z => XS.lconst X.here r.1.1 rfl (hb r.1.2.1 hd) z
theorem Rch.anull (r : Rch p l e R s m args below meth c Z y bc ml rt n0 T0 g0 k n h (mkF m pc L S)) (hd : decode bc pc = .ok (.aconst_null, 1)) (hp : pc + 1 = pc') : Rch p l e R s m args below meth c Z y bc ml rt n0 T0 g0 k n h (mkF m pc' L (.null :: S)) := by
  subst hp; exact r.pure fun T locs X eT t z => XS.aconstNull X.here r.1.1 rfl (hb r.1.2.1 hd) z
theorem Rch.ldc (r : Rch p l e R s m args below meth c Z y bc ml rt n0 T0 g0 k n h (mkF m pc L S)) {i : Nat} {w : Int32} (hd : decode bc pc = .ok (.ldc i, 2)) (hc : (Jvm.Cond.constant y.cls i w).before a0 Z = true) (hp : pc + 2 = pc') : Rch p l e R s m args below meth c Z y bc ml rt n0 T0 g0 k n h (mkF m pc' L (.int w :: S)) := by
  subst hp; exact r.pure fun T locs X eT t z => X.ldcInt r.1.1 r.1.2.2.2.1 (mvT r.1.2.2.2.2.1 hc) (g := mkF m pc L S) rfl (hb r.1.2.1 hd) t z
theorem Rch.ldcw (r : Rch p l e R s m args below meth c Z y bc ml rt n0 T0 g0 k n h (mkF m pc L S)) {i : Nat} {w : Int32} (hd : decode bc pc = .ok (.ldc_w i, 3)) (hc : (Jvm.Cond.constant y.cls i w).before a0 Z = true) (hp : pc + 3 = pc') : Rch p l e R s m args below meth c Z y bc ml rt n0 T0 g0 k n h (mkF m pc' L (.int w :: S)) := by
  subst hp; exact r.pure fun T locs X eT t z => X.ldcwInt r.1.1 r.1.2.2.2.1 (mvT r.1.2.2.2.2.1 hc) (g := mkF m pc L S) rfl (hb r.1.2.1 hd) t z
theorem Rch.ldc2 (r : Rch p l e R s m args below meth c Z y bc ml rt n0 T0 g0 k n h (mkF m pc L S)) {i : Nat} {w : Int64} (hd : decode bc pc = .ok (.ldc2_w i, 3)) (hc : (Jvm.Cond.constantLong y.cls i w).before a0 Z = true) (hp : pc + 3 = pc') : Rch p l e R s m args below meth c Z y bc ml rt n0 T0 g0 k n h (mkF m pc' L (.long w :: S)) := by
  subst hp; exact r.pure fun T locs X eT t z => X.ldc2Long r.1.1 r.1.2.2.2.1 (mvT r.1.2.2.2.2.1 hc) (g := mkF m pc L S) rfl (hb r.1.2.1 hd) t z
-- sums and the like
theorem Rch.iadd {a : Int32} {b : Int32} {u : Int32} (r : Rch p l e R s m args below meth c Z y bc ml rt n0 T0 g0 k n h (mkF m pc L (.int b :: .int a :: S))) (hd : decode bc pc = .ok (.iadd, 1)) (hu : a + b = u) (hp : pc + 1 = pc') : Rch p l e R s m args below meth c Z y bc ml rt n0 T0 g0 k n h (mkF m pc' L (.int u :: S)) := by
  subst hp hu; exact r.pure fun T locs X eT t z => XS.iadd X.here r.1.1 rfl (hb r.1.2.1 hd) rfl z
theorem Rch.isub {a : Int32} {b : Int32} {u : Int32} (r : Rch p l e R s m args below meth c Z y bc ml rt n0 T0 g0 k n h (mkF m pc L (.int b :: .int a :: S))) (hd : decode bc pc = .ok (.isub, 1)) (hu : a - b = u) (hp : pc + 1 = pc') : Rch p l e R s m args below meth c Z y bc ml rt n0 T0 g0 k n h (mkF m pc' L (.int u :: S)) := by
  subst hp hu; exact r.pure fun T locs X eT t z => XS.isub X.here r.1.1 rfl (hb r.1.2.1 hd) rfl z
theorem Rch.imul {a : Int32} {b : Int32} {u : Int32} (r : Rch p l e R s m args below meth c Z y bc ml rt n0 T0 g0 k n h (mkF m pc L (.int b :: .int a :: S))) (hd : decode bc pc = .ok (.imul, 1)) (hu : a * b = u) (hp : pc + 1 = pc') : Rch p l e R s m args below meth c Z y bc ml rt n0 T0 g0 k n h (mkF m pc' L (.int u :: S)) := by
  subst hp hu; exact r.pure fun T locs X eT t z => XS.imul X.here r.1.1 rfl (hb r.1.2.1 hd) rfl z
theorem Rch.iand {a : Int32} {b : Int32} {u : Int32} (r : Rch p l e R s m args below meth c Z y bc ml rt n0 T0 g0 k n h (mkF m pc L (.int b :: .int a :: S))) (hd : decode bc pc = .ok (.iand, 1)) (hu : a &&& b = u) (hp : pc + 1 = pc') : Rch p l e R s m args below meth c Z y bc ml rt n0 T0 g0 k n h (mkF m pc' L (.int u :: S)) := by
  subst hp hu; exact r.pure fun T locs X eT t z => XS.iand X.here r.1.1 rfl (hb r.1.2.1 hd) rfl z
theorem Rch.ior {a : Int32} {b : Int32} {u : Int32} (r : Rch p l e R s m args below meth c Z y bc ml rt n0 T0 g0 k n h (mkF m pc L (.int b :: .int a :: S))) (hd : decode bc pc = .ok (.ior, 1)) (hu : a ||| b = u) (hp : pc + 1 = pc') : Rch p l e R s m args below meth c Z y bc ml rt n0 T0 g0 k n h (mkF m pc' L (.int u :: S)) := by
  subst hp hu; exact r.pure fun T locs X eT t z => XS.ior X.here r.1.1 rfl (hb r.1.2.1 hd) rfl z
theorem Rch.ixor {a : Int32} {b : Int32} {u : Int32} (r : Rch p l e R s m args below meth c Z y bc ml rt n0 T0 g0 k n h (mkF m pc L (.int b :: .int a :: S))) (hd : decode bc pc = .ok (.ixor, 1)) (hu : a ^^^ b = u) (hp : pc + 1 = pc') : Rch p l e R s m args below meth c Z y bc ml rt n0 T0 g0 k n h (mkF m pc' L (.int u :: S)) := by
  subst hp hu; exact r.pure fun T locs X eT t z => XS.ixor X.here r.1.1 rfl (hb r.1.2.1 hd) rfl z
theorem Rch.ladd {a : Int64} {b : Int64} {u : Int64} (r : Rch p l e R s m args below meth c Z y bc ml rt n0 T0 g0 k n h (mkF m pc L (.long b :: .long a :: S))) (hd : decode bc pc = .ok (.ladd, 1)) (hu : a + b = u) (hp : pc + 1 = pc') : Rch p l e R s m args below meth c Z y bc ml rt n0 T0 g0 k n h (mkF m pc' L (.long u :: S)) := by
  subst hp hu; exact r.pure fun T locs X eT t z => XS.ladd X.here r.1.1 rfl (hb r.1.2.1 hd) rfl z
theorem Rch.lsub {a : Int64} {b : Int64} {u : Int64} (r : Rch p l e R s m args below meth c Z y bc ml rt n0 T0 g0 k n h (mkF m pc L (.long b :: .long a :: S))) (hd : decode bc pc = .ok (.lsub, 1)) (hu : a - b = u) (hp : pc + 1 = pc') : Rch p l e R s m args below meth c Z y bc ml rt n0 T0 g0 k n h (mkF m pc' L (.long u :: S)) := by
  subst hp hu; exact r.pure fun T locs X eT t z => XS.lsub X.here r.1.1 rfl (hb r.1.2.1 hd) rfl z
theorem Rch.lmul {a : Int64} {b : Int64} {u : Int64} (r : Rch p l e R s m args below meth c Z y bc ml rt n0 T0 g0 k n h (mkF m pc L (.long b :: .long a :: S))) (hd : decode bc pc = .ok (.lmul, 1)) (hu : a * b = u) (hp : pc + 1 = pc') : Rch p l e R s m args below meth c Z y bc ml rt n0 T0 g0 k n h (mkF m pc' L (.long u :: S)) := by
  subst hp hu; exact r.pure fun T locs X eT t z => XS.lmul X.here r.1.1 rfl (hb r.1.2.1 hd) rfl z
theorem Rch.land {a : Int64} {b : Int64} {u : Int64} (r : Rch p l e R s m args below meth c Z y bc ml rt n0 T0 g0 k n h (mkF m pc L (.long b :: .long a :: S))) (hd : decode bc pc = .ok (.land, 1)) (hu : a &&& b = u) (hp : pc + 1 = pc') : Rch p l e R s m args below meth c Z y bc ml rt n0 T0 g0 k n h (mkF m pc' L (.long u :: S)) := by
  subst hp hu; exact r.pure fun T locs X eT t z => XS.land X.here r.1.1 rfl (hb r.1.2.1 hd) rfl z
theorem Rch.lor {a : Int64} {b : Int64} {u : Int64} (r : Rch p l e R s m args below meth c Z y bc ml rt n0 T0 g0 k n h (mkF m pc L (.long b :: .long a :: S))) (hd : decode bc pc = .ok (.lor, 1)) (hu : a ||| b = u) (hp : pc + 1 = pc') : Rch p l e R s m args below meth c Z y bc ml rt n0 T0 g0 k n h (mkF m pc' L (.long u :: S)) := by
  subst hp hu; exact r.pure fun T locs X eT t z => XS.lor X.here r.1.1 rfl (hb r.1.2.1 hd) rfl z
theorem Rch.lxor {a : Int64} {b : Int64} {u : Int64} (r : Rch p l e R s m args below meth c Z y bc ml rt n0 T0 g0 k n h (mkF m pc L (.long b :: .long a :: S))) (hd : decode bc pc = .ok (.lxor, 1)) (hu : a ^^^ b = u) (hp : pc + 1 = pc') : Rch p l e R s m args below meth c Z y bc ml rt n0 T0 g0 k n h (mkF m pc' L (.long u :: S)) := by
  subst hp hu; exact r.pure fun T locs X eT t z => XS.lxor X.here r.1.1 rfl (hb r.1.2.1 hd) rfl z
theorem Rch.ishl {a : Int32} {b : Int32} {u : Int32} (r : Rch p l e R s m args below meth c Z y bc ml rt n0 T0 g0 k n h (mkF m pc L (.int b :: .int a :: S))) (hd : decode bc pc = .ok (.ishl, 1)) (hu : a <<< (b &&& 31) = u) (hp : pc + 1 = pc') : Rch p l e R s m args below meth c Z y bc ml rt n0 T0 g0 k n h (mkF m pc' L (.int u :: S)) := by
  subst hp hu; exact r.pure fun T locs X eT t z => XS.ishl X.here r.1.1 rfl (hb r.1.2.1 hd) rfl z
theorem Rch.ishr {a : Int32} {b : Int32} {u : Int32} (r : Rch p l e R s m args below meth c Z y bc ml rt n0 T0 g0 k n h (mkF m pc L (.int b :: .int a :: S))) (hd : decode bc pc = .ok (.ishr, 1)) (hu : a >>> (b &&& 31) = u) (hp : pc + 1 = pc') : Rch p l e R s m args below meth c Z y bc ml rt n0 T0 g0 k n h (mkF m pc' L (.int u :: S)) := by
  subst hp hu; exact r.pure fun T locs X eT t z => XS.ishr X.here r.1.1 rfl (hb r.1.2.1 hd) rfl z
theorem Rch.iushr {a : Int32} {b : Int32} {u : Int32} (r : Rch p l e R s m args below meth c Z y bc ml rt n0 T0 g0 k n h (mkF m pc L (.int b :: .int a :: S))) (hd : decode bc pc = .ok (.iushr, 1)) (hu : (a.toUInt32 >>> (b &&& 31).toUInt32).toInt32 = u) (hp : pc + 1 = pc') : Rch p l e R s m args below meth c Z y bc ml rt n0 T0 g0 k n h (mkF m pc' L (.int u :: S)) := by
  subst hp hu; exact r.pure fun T locs X eT t z => XS.iushr X.here r.1.1 rfl (hb r.1.2.1 hd) rfl z
theorem Rch.lcmp {a : Int64} {b : Int64} {u : Int32} (r : Rch p l e R s m args below meth c Z y bc ml rt n0 T0 g0 k n h (mkF m pc L (.long b :: .long a :: S))) (hd : decode bc pc = .ok (.lcmp, 1)) (hu : lcmpW a b = u) (hp : pc + 1 = pc') : Rch p l e R s m args below meth c Z y bc ml rt n0 T0 g0 k n h (mkF m pc' L (.int u :: S)) := by
  subst hp hu; exact r.pure fun T locs X eT t z => XS.lcmp X.here r.1.1 rfl (hb r.1.2.1 hd) rfl z
theorem Rch.idiv {a : Int32} {b : Int32} {u : Int32} (r : Rch p l e R s m args below meth c Z y bc ml rt n0 T0 g0 k n h (mkF m pc L (.int b :: .int a :: S))) (hd : decode bc pc = .ok (.idiv, 1)) (h0 : b ≠ 0) (hu : a / b = u) (hp : pc + 1 = pc') : Rch p l e R s m args below meth c Z y bc ml rt n0 T0 g0 k n h (mkF m pc' L (.int u :: S)) := by
  subst hp hu; exact r.pure fun T locs X eT t z => XS.idiv X.here r.1.1 rfl (hb r.1.2.1 hd) rfl h0 z
theorem Rch.irem {a : Int32} {b : Int32} {u : Int32} (r : Rch p l e R s m args below meth c Z y bc ml rt n0 T0 g0 k n h (mkF m pc L (.int b :: .int a :: S))) (hd : decode bc pc = .ok (.irem, 1)) (h0 : b ≠ 0) (hu : a % b = u) (hp : pc + 1 = pc') : Rch p l e R s m args below meth c Z y bc ml rt n0 T0 g0 k n h (mkF m pc' L (.int u :: S)) := by
  subst hp hu; exact r.pure fun T locs X eT t z => iremM X r.1.1 rfl (hb r.1.2.1 hd) rfl h0 z
theorem Rch.ineg {a : Int32} {u : Int32} (r : Rch p l e R s m args below meth c Z y bc ml rt n0 T0 g0 k n h (mkF m pc L (.int a :: S))) (hd : decode bc pc = .ok (.ineg, 1)) (hu : -a = u) (hp : pc + 1 = pc') : Rch p l e R s m args below meth c Z y bc ml rt n0 T0 g0 k n h (mkF m pc' L (.int u :: S)) := by
  subst hp hu; exact r.pure fun T locs X eT t z => XS.ineg X.here r.1.1 rfl (hb r.1.2.1 hd) rfl z
theorem Rch.lneg {a : Int64} {u : Int64} (r : Rch p l e R s m args below meth c Z y bc ml rt n0 T0 g0 k n h (mkF m pc L (.long a :: S))) (hd : decode bc pc = .ok (.lneg, 1)) (hu : -a = u) (hp : pc + 1 = pc') : Rch p l e R s m args below meth c Z y bc ml rt n0 T0 g0 k n h (mkF m pc' L (.long u :: S)) := by
  subst hp hu; exact r.pure fun T locs X eT t z => XS.lneg X.here r.1.1 rfl (hb r.1.2.1 hd) rfl z
theorem Rch.i2l {a : Int32} {u : Int64} (r : Rch p l e R s m args below meth c Z y bc ml rt n0 T0 g0 k n h (mkF m pc L (.int a :: S))) (hd : decode bc pc = .ok (.i2l, 1)) (hu : a.toInt64 = u) (hp : pc + 1 = pc') : Rch p l e R s m args below meth c Z y bc ml rt n0 T0 g0 k n h (mkF m pc' L (.long u :: S)) := by
  subst hp hu; exact r.pure fun T locs X eT t z => XS.i2l X.here r.1.1 rfl (hb r.1.2.1 hd) rfl z
theorem Rch.l2i {a : Int64} {u : Int32} (r : Rch p l e R s m args below meth c Z y bc ml rt n0 T0 g0 k n h (mkF m pc L (.long a :: S))) (hd : decode bc pc = .ok (.l2i, 1)) (hu : a.toInt32 = u) (hp : pc + 1 = pc') : Rch p l e R s m args below meth c Z y bc ml rt n0 T0 g0 k n h (mkF m pc' L (.int u :: S)) := by
  subst hp hu; exact r.pure fun T locs X eT t z => XS.l2i X.here r.1.1 rfl (hb r.1.2.1 hd) rfl z
theorem Rch.i2b {a : Int32} {u : Int32} (r : Rch p l e R s m args below meth c Z y bc ml rt n0 T0 g0 k n h (mkF m pc L (.int a :: S))) (hd : decode bc pc = .ok (.i2b, 1)) (hu : a.toInt8.toInt32 = u) (hp : pc + 1 = pc') : Rch p l e R s m args below meth c Z y bc ml rt n0 T0 g0 k n h (mkF m pc' L (.int u :: S)) := by
  subst hp hu; exact r.pure fun T locs X eT t z => XS.i2b X.here r.1.1 rfl (hb r.1.2.1 hd) rfl z
theorem Rch.i2s {a : Int32} {u : Int32} (r : Rch p l e R s m args below meth c Z y bc ml rt n0 T0 g0 k n h (mkF m pc L (.int a :: S))) (hd : decode bc pc = .ok (.i2s, 1)) (hu : a.toInt16.toInt32 = u) (hp : pc + 1 = pc') : Rch p l e R s m args below meth c Z y bc ml rt n0 T0 g0 k n h (mkF m pc' L (.int u :: S)) := by
  subst hp hu; exact r.pure fun T locs X eT t z => XS.i2s X.here r.1.1 rfl (hb r.1.2.1 hd) rfl z
theorem Rch.i2c {a : Int32} {u : Int32} (r : Rch p l e R s m args below meth c Z y bc ml rt n0 T0 g0 k n h (mkF m pc L (.int a :: S))) (hd : decode bc pc = .ok (.i2c, 1)) (hu : a.toUInt32.toUInt16.toUInt32.toInt32 = u) (hp : pc + 1 = pc') : Rch p l e R s m args below meth c Z y bc ml rt n0 T0 g0 k n h (mkF m pc' L (.int u :: S)) := by
  subst hp hu; exact r.pure fun T locs X eT t z => XS.i2c X.here r.1.1 rfl (hb r.1.2.1 hd) rfl z
theorem Rch.lshl {a : Int64} {b : Int32} {u : Int64} (r : Rch p l e R s m args below meth c Z y bc ml rt n0 T0 g0 k n h (mkF m pc L (.int b :: .long a :: S))) (hd : decode bc pc = .ok (.lshl, 1)) (hu : a <<< (b &&& 0x3f).toInt64 = u) (hp : pc + 1 = pc') : Rch p l e R s m args below meth c Z y bc ml rt n0 T0 g0 k n h (mkF m pc' L (.long u :: S)) := by
  subst hp hu; exact r.pure fun T locs X eT t z => XS.lshl X.here r.1.1 rfl (hb r.1.2.1 hd) rfl z
theorem Rch.lshr {a : Int64} {b : Int32} {u : Int64} (r : Rch p l e R s m args below meth c Z y bc ml rt n0 T0 g0 k n h (mkF m pc L (.int b :: .long a :: S))) (hd : decode bc pc = .ok (.lshr, 1)) (hu : a >>> (b &&& 0x3f).toInt64 = u) (hp : pc + 1 = pc') : Rch p l e R s m args below meth c Z y bc ml rt n0 T0 g0 k n h (mkF m pc' L (.long u :: S)) := by
  subst hp hu; exact r.pure fun T locs X eT t z => XS.lshr X.here r.1.1 rfl (hb r.1.2.1 hd) rfl z
theorem Rch.lushr {a : Int64} {b : Int32} {u : Int64} (r : Rch p l e R s m args below meth c Z y bc ml rt n0 T0 g0 k n h (mkF m pc L (.int b :: .long a :: S))) (hd : decode bc pc = .ok (.lushr, 1)) (hu : (a.toUInt64 >>> (b &&& 0x3f).toInt64.toUInt64).toInt64 = u) (hp : pc + 1 = pc') : Rch p l e R s m args below meth c Z y bc ml rt n0 T0 g0 k n h (mkF m pc' L (.long u :: S)) := by
  subst hp hu; exact r.pure fun T locs X eT t z => XS.lushr X.here r.1.1 rfl (hb r.1.2.1 hd) rfl z
theorem Rch.dup {v : Value} (r : Rch p l e R s m args below meth c Z y bc ml rt n0 T0 g0 k n h (mkF m pc L (v :: S))) (hd : decode bc pc = .ok (.dup, 1)) (hv : v.category = 1) (hp : pc + 1 = pc') : Rch p l e R s m args below meth c Z y bc ml rt n0 T0 g0 k n h (mkF m pc' L (v :: v :: S)) := by
  subst hp; exact r.pure fun T locs X eT t z => XS.dup X.here r.1.1 rfl (hb r.1.2.1 hd) rfl hv z
theorem Rch.dupx1 {v w : Value} (r : Rch p l e R s m args below meth c Z y bc ml rt n0 T0 g0 k n h (mkF m pc L (v :: w :: S))) (hd : decode bc pc = .ok (.dup_x1, 1)) (hv : v.category = 1) (hw : w.category = 1) (hp : pc + 1 = pc') : Rch p l e R s m args below meth c Z y bc ml rt n0 T0 g0 k n h (mkF m pc' L (v :: w :: v :: S)) := by
  subst hp; exact r.pure fun T locs X eT t z => XS.dupX1 X.here r.1.1 rfl (hb r.1.2.1 hd) rfl hv hw z
theorem Rch.dup2 {v w : Value} (r : Rch p l e R s m args below meth c Z y bc ml rt n0 T0 g0 k n h (mkF m pc L (v :: w :: S))) (hd : decode bc pc = .ok (.dup2, 1)) (hv : v.category = 1) (hw : w.category = 1) (hp : pc + 1 = pc') : Rch p l e R s m args below meth c Z y bc ml rt n0 T0 g0 k n h (mkF m pc' L (v :: w :: v :: w :: S)) := by
  subst hp
  refine r.pure fun T locs X eT t z => ?_
  have hx := r.1.1
  have hd' := hb r.1.2.1 hd
  jvm_step X.here [X.here.top, hx, hd', hv, hw]
  exact z
theorem Rch.dupx2 {v w u : Value} (r : Rch p l e R s m args below meth c Z y bc ml rt n0 T0 g0 k n h (mkF m pc L (v :: w :: u :: S))) (hd : decode bc pc = .ok (.dup_x2, 1)) (hv : v.category = 1) (hw : w.category = 1) (hu : u.category = 1) (hp : pc + 1 = pc') : Rch p l e R s m args below meth c Z y bc ml rt n0 T0 g0 k n h (mkF m pc' L (v :: w :: u :: v :: S)) := by
  subst hp
  refine r.pure fun T locs X eT t z => ?_
  have hx := r.1.1
  have hd' := hb r.1.2.1 hd
  jvm_step X.here [X.here.top, hx, hd', hv, hw, hu]
  exact z
theorem Rch.pop {v : Value} (r : Rch p l e R s m args below meth c Z y bc ml rt n0 T0 g0 k n h (mkF m pc L (v :: S))) (hd : decode bc pc = .ok (.pop, 1)) (hv : v.category = 1) (hp : pc + 1 = pc') : Rch p l e R s m args below meth c Z y bc ml rt n0 T0 g0 k n h (mkF m pc' L S) := by
  subst hp; exact r.pure fun T locs X eT t z => XS.pop X.here r.1.1 rfl (hb r.1.2.1 hd) rfl hv z
-- branches
theorem Rch.goto {o : Int} (r : Rch p l e R s m args below meth c Z y bc ml rt n0 T0 g0 k n h (mkF m pc L S)) (hd : decode bc pc = .ok (.goto o, 3)) (ho : 0 ≤ (pc : Int) + o) (hp : ((pc : Int) + o).toNat = pc') : Rch p l e R s m args below meth c Z y bc ml rt n0 T0 g0 k n h (mkF m pc' L S) :=
  r.pure fun T locs X eT t z => XS.goto X.here r.1.1 rfl (pc0 := pc) rfl (hb r.1.2.1 hd) ho hp z
theorem Rch.icT {cd : ClassFile.Cond} {x w : Int32} {o : Int} (r : Rch p l e R s m args below meth c Z y bc ml rt n0 T0 g0 k n h (mkF m pc L (.int w :: .int x :: S))) (hd : decode bc pc = .ok (.if_icmp cd o, 3)) (hc : if_icmp.holds cd x w = true) (ho : 0 ≤ (pc : Int) + o) (hp : ((pc : Int) + o).toNat = pc') : Rch p l e R s m args below meth c Z y bc ml rt n0 T0 g0 k n h (mkF m pc' L S) :=
  r.pure fun T locs X eT t z => XS.icmpYes X.here r.1.1 rfl (pc0 := pc) rfl (hb r.1.2.1 hd) rfl hc ho hp z
theorem Rch.icF {cd : ClassFile.Cond} {x w : Int32} {o : Int} (r : Rch p l e R s m args below meth c Z y bc ml rt n0 T0 g0 k n h (mkF m pc L (.int w :: .int x :: S))) (hd : decode bc pc = .ok (.if_icmp cd o, 3)) (hc : if_icmp.holds cd x w = false) (hp : pc + 3 = pc') : Rch p l e R s m args below meth c Z y bc ml rt n0 T0 g0 k n h (mkF m pc' L S) := by
  subst hp; exact r.pure fun T locs X eT t z => XS.icmpNo X.here r.1.1 rfl (hb r.1.2.1 hd) rfl hc z
theorem Rch.ifT {cd : ClassFile.Cond} {x : Int32} {o : Int} (r : Rch p l e R s m args below meth c Z y bc ml rt n0 T0 g0 k n h (mkF m pc L (.int x :: S))) (hd : decode bc pc = .ok (.ifCond cd o, 3)) (hc : if_icmp.holds cd x 0 = true) (ho : 0 ≤ (pc : Int) + o) (hp : ((pc : Int) + o).toNat = pc') : Rch p l e R s m args below meth c Z y bc ml rt n0 T0 g0 k n h (mkF m pc' L S) :=
  r.pure fun T locs X eT t z => XS.ifYes X.here r.1.1 rfl (pc0 := pc) rfl (hb r.1.2.1 hd) rfl ((if0 _ _).trans hc) ho hp z
theorem Rch.ifF {cd : ClassFile.Cond} {x : Int32} {o : Int} (r : Rch p l e R s m args below meth c Z y bc ml rt n0 T0 g0 k n h (mkF m pc L (.int x :: S))) (hd : decode bc pc = .ok (.ifCond cd o, 3)) (hc : if_icmp.holds cd x 0 = false) (hp : pc + 3 = pc') : Rch p l e R s m args below meth c Z y bc ml rt n0 T0 g0 k n h (mkF m pc' L S) := by
  subst hp; exact r.pure fun T locs X eT t z => XS.ifNo X.here r.1.1 rfl (hb r.1.2.1 hd) rfl ((if0 _ _).trans hc) z
theorem Rch.acmp {cd : ACond} {v w : Value} {o : Int} {same : Bool} (r : Rch p l e R s m args below meth c Z y bc ml rt n0 T0 g0 k n h (mkF m pc L (w :: v :: S))) (hd : decode bc pc = .ok (.if_acmp cd o, 3)) (hv : v.isRef = true) (hw : w.isRef = true) (hq : decide (v = w) = same) (ho : 0 ≤ (pc : Int) + o) (hp : pc' = if acV cd same = true then ((pc : Int) + o).toNat else pc + 3) : Rch p l e R s m args below meth c Z y bc ml rt n0 T0 g0 k n h (mkF m pc' L S) :=
  r.pure fun T locs X eT t z => Jvm.RoadKit.acmp X r.1.1 rfl hv hw (pc0 := pc) rfl (hb r.1.2.1 hd) rfl hq ho hp z
theorem Rch.nullT {o : Int} (r : Rch p l e R s m args below meth c Z y bc ml rt n0 T0 g0 k n h (mkF m pc L (.null :: S))) (hd : decode bc pc = .ok (.ifnull o, 3)) (ho : 0 ≤ (pc : Int) + o) (hp : ((pc : Int) + o).toNat = pc') : Rch p l e R s m args below meth c Z y bc ml rt n0 T0 g0 k n h (mkF m pc' L S) :=
  r.pure fun T locs X eT t z => XS.ifnullYes X.here r.1.1 rfl (pc0 := pc) rfl (hb r.1.2.1 hd) rfl ho hp z
theorem Rch.nullF {a : Addr} {o : Int} (r : Rch p l e R s m args below meth c Z y bc ml rt n0 T0 g0 k n h (mkF m pc L (.ref a :: S))) (hd : decode bc pc = .ok (.ifnull o, 3)) (hp : pc + 3 = pc') : Rch p l e R s m args below meth c Z y bc ml rt n0 T0 g0 k n h (mkF m pc' L S) := by
  subst hp; exact r.pure fun T locs X eT t z => XS.ifnullNo X.here r.1.1 rfl (hb r.1.2.1 hd) rfl z
theorem Rch.nnT {a : Addr} {o : Int} (r : Rch p l e R s m args below meth c Z y bc ml rt n0 T0 g0 k n h (mkF m pc L (.ref a :: S))) (hd : decode bc pc = .ok (.ifnonnull o, 3)) (ho : 0 ≤ (pc : Int) + o) (hp : ((pc : Int) + o).toNat = pc') : Rch p l e R s m args below meth c Z y bc ml rt n0 T0 g0 k n h (mkF m pc' L S) :=
  r.pure fun T locs X eT t z => XS.ifnonnullYes X.here r.1.1 rfl (pc0 := pc) rfl (hb r.1.2.1 hd) rfl ho hp z
theorem Rch.nnF {o : Int} (r : Rch p l e R s m args below meth c Z y bc ml rt n0 T0 g0 k n h (mkF m pc L (.null :: S))) (hd : decode bc pc = .ok (.ifnonnull o, 3)) (hp : pc + 3 = pc') : Rch p l e R s m args below meth c Z y bc ml rt n0 T0 g0 k n h (mkF m pc' L S) := by
  subst hp; exact r.pure fun T locs X eT t z => XS.ifnonnullNo X.here r.1.1 rfl (hb r.1.2.1 hd) rfl z
-- fields
theorem Rch.getF {R0 O nm d host : String} {idx : Nat} {a : Addr} {v : Value} (r : Rch p l e R s m args below meth c Z y bc ml rt n0 T0 g0 k n h (mkF m pc L (.ref a :: S))) (hd : decode bc pc = .ok (.getfield idx, 3)) (w : (Jvm.Cond.fieldLink y.cls idx R0 nm d).before a0 Z = true ∨ (Jvm.Cond.fieldLinkNest y.cls idx R0 nm d host).before a0 Z = true) (via : Via Z R0 O nm d) (F : Fld Z h a O nm d v) (hp : pc + 3 = pc') :
    Rch p l e R s m args below meth c Z y bc ml rt n0 T0 g0 k n h (mkF m pc' L (v :: S)) := by
  subst hp; exact r.keep fun T locs X eT => getF X r.1.1 r.1.2.2.2.2.1 r.1.2.2.2.1 w via eT F (g := mkF m pc L (.ref a :: S)) rfl rfl (hb r.1.2.1 hd)
theorem Rch.getS {R0 O nm d host : String} {idx : Nat} {v : Value} (r : Rch p l e R s m args below meth c Z y bc ml rt n0 T0 g0 k n h (mkF m pc L S)) (hd : decode bc pc = .ok (.getstatic idx, 3)) (w : (Jvm.Cond.fieldLink y.cls idx R0 nm d).before a0 Z = true ∨ (Jvm.Cond.fieldLinkNest y.cls idx R0 nm d host).before a0 Z = true) (via : Via Z R0 O nm d) (F : Sta Z h O nm d v) (hp : pc + 3 = pc') :
    Rch p l e R s m args below meth c Z y bc ml rt n0 T0 g0 k n h (mkF m pc' L (v :: S)) := by
  subst hp; exact r.keep fun T locs X eT => getS2 X r.1.1 r.1.2.2.2.2.1 r.1.2.2.2.1 w via eT F (g := mkF m pc L S) rfl (hb r.1.2.1 hd)
theorem Rch.putF {R0 O nm d host C : String} {idx kk : Nat} {ty : FieldType} {a : Addr} {v old : Value} (r : Rch p l e R s m args below meth c Z y bc ml rt n0 T0 g0 k n h (mkF m pc L (v :: .ref a :: S))) (hd : decode bc pc = .ok (.putfield idx, 3)) (w : (Jvm.Cond.fieldLink y.cls idx R0 nm d).before a0 Z = true ∨ (Jvm.Cond.fieldLinkNest y.cls idx R0 nm d host).before a0 Z = true) (via : Via Z R0 O nm d) (F : Fld Z h a O nm d old) (E : Exa Z h a C)
    (lw : (Jvm.Cond.lays C O nm d).before a0 Z = true ∨ ((Jvm.Cond.laysFinal C O nm d).before a0 Z = true ∧ y.cls = O ∧ y.name = "<init>")) (wi : (Jvm.Cond.instantiable C kk).before a0 Z = true) (hty : parseFieldDescriptor d = some ty) (hn : narrow ty v = v) (hf : fits ty v = true) (hN : n0 ≤ a) (hp : pc + 3 = pc') :
    ∃ h', Wr h h' a (Jvm.RoadKit.slotOf Z O nm d) v ∧ Rch p l e R s m args below meth c Z y bc ml rt n0 T0 g0 k n h' (mkF m pc' L S) := by
  subst hp
  obtain ⟨q, T, locs, X, eT, N, st⟩ := r
  obtain ⟨T', h', X', e', W, st'⟩ := putF X q.1 q.2.2.2.2.1 q.2.2.2.1 w via eT F E (lw.imp id fun z => ⟨z.1, z.2.1, q.2.2.2.2.2.2.2.trans z.2.2⟩) wi hty hn hf (g := mkF m pc L (v :: .ref a :: S)) rfl rfl (hb q.2.1 hd)
  exact ⟨h', W, q, T', _, X', e', Fr.snoc X' N hN, fun t z => st t (st' t z)⟩
theorem Rch.putFN {R0 O nm d C : String} {idx kk : Nat} {ty : FieldType} {a : Addr} {v v' old : Value} (r : Rch p l e R s m args below meth c Z y bc ml rt n0 T0 g0 k n h (mkF m pc L (v :: .ref a :: S))) (hd : decode bc pc = .ok (.putfield idx, 3)) (w : (Jvm.Cond.fieldLink y.cls idx R0 nm d).before a0 Z = true) (via : Via Z R0 O nm d) (F : Fld Z h a O nm d old) (E : Exa Z h a C)
    (lw : (Jvm.Cond.lays C O nm d).before a0 Z = true ∨ ((Jvm.Cond.laysFinal C O nm d).before a0 Z = true ∧ y.cls = O ∧ y.name = "<init>")) (wi : (Jvm.Cond.instantiable C kk).before a0 Z = true) (hty : parseFieldDescriptor d = some ty) (hn : narrow ty v = v') (hf : fits ty v' = true) (hN : n0 ≤ a) (hp : pc + 3 = pc') :
    ∃ h', Wr h h' a (Jvm.RoadKit.slotOf Z O nm d) v' ∧ Rch p l e R s m args below meth c Z y bc ml rt n0 T0 g0 k n h' (mkF m pc' L S) := by
  subst hp
  obtain ⟨q, T, locs, X, eT, N, st⟩ := r
  obtain ⟨T', h', X', e', W, st'⟩ := putFN X q.1 q.2.2.2.2.1 q.2.2.2.1 w via eT F E (lw.imp id fun z => ⟨z.1, z.2.1, q.2.2.2.2.2.2.2.trans z.2.2⟩) wi hty hn hf (g := mkF m pc L (v :: .ref a :: S)) rfl rfl (hb q.2.1 hd)
  exact ⟨h', W, q, T', _, X', e', Fr.snoc X' N hN, fun t z => st t (st' t z)⟩
-- objects and arrays
theorem Rch.newO {C : String} {idx i : Nat} (r : Rch p l e R s m args below meth c Z y bc ml rt n0 T0 g0 k n h (mkF m pc L S)) (hd : decode bc pc = .ok (.new idx, 3)) (w : (Jvm.Cond.classLink y.cls idx C).before a0 Z = true) (wi : (Jvm.Cond.instantiable C i).before a0 Z = true) (wz : (Jvm.Cond.initialized C).before a0 Z = true) {k' n' : Nat} (hk : k + 1 = k') (hn' : n + i = n') (hc : k' ≤ R.cells) (hl : n' ≤ R.slots) (hp : pc + 3 = pc') :
    ∃ h' a, a = h.size ∧ Ext h h' ∧ Exa Z h' a C ∧ (∀ {O nm d : String} {ty : FieldType}, Laid Z a0 C O nm d → parseFieldDescriptor d = some ty → Fld Z h' a O nm d (defaultValue ty)) ∧ Rch p l e R s m args below meth c Z y bc ml rt n0 T0 g0 k' n' h' (mkF m pc' L (.ref a :: S)) := by
  subst hp hk hn'
  obtain ⟨q, T, locs, X, eT, N, st⟩ := r
  obtain ⟨T', h', X', e', E, A, D, -, st'⟩ := newO X q.1 q.2.2.2.2.1 q.2.2.2.1 w wi wz eT (g := mkF m pc L S) rfl (hb q.2.1 hd) hc hl
  exact ⟨h', h.size, rfl, E, A, D, q, T', locs, X', e', N, fun t z => st t (st' t z)⟩
theorem Rch.newP {aty : ArrayType} {i : Int32} (r : Rch p l e R s m args below meth c Z y bc ml rt n0 T0 g0 k n h (mkF m pc L (.int i :: S))) (hd : decode bc pc = .ok (.newarray aty, 2)) (w : (Jvm.Cond.arrayClass (newarray.typeOf aty)).before a0 Z = true) (hn : ¬ i < 0) {cap : Nat} (hcap : i.toNatClampNeg ≤ cap) (hbg : cap * 8 ≤ 536870912) {k' n' : Nat} (hk : k + 1 = k') (hn' : n + cap = n') (hc : k' ≤ R.cells) (hl : n' ≤ R.slots) (hp : pc + 2 = pc') :
    ∃ h' a cA, a = h.size ∧ Ext h h' ∧ Arv Z h' a cA (newarray.typeOf aty) i [] (defaultValue (newarray.typeOf aty)) ∧ Rch p l e R s m args below meth c Z y bc ml rt n0 T0 g0 k' n' h' (mkF m pc' L (.ref a :: S)) := by
  subst hp hk hn'
  obtain ⟨q, T, locs, X, eT, N, st⟩ := r
  obtain ⟨T', h', cA, X', e', E, A, st'⟩ := newP X q.1 q.2.2.2.2.1 w eT (g := mkF m pc L (.int i :: S)) rfl (hb q.2.1 hd) rfl hn hcap hbg hc hl
  exact ⟨h', h.size, cA, rfl, E, Arv.new A hn, q, T', locs, X', e', N, fun t z => st t (st' t z)⟩
theorem Rch.newR {C : String} {idx : Nat} {i : Int32} (r : Rch p l e R s m args below meth c Z y bc ml rt n0 T0 g0 k n h (mkF m pc L (.int i :: S))) (hd : decode bc pc = .ok (.anewarray idx, 3)) (w1 : (Jvm.Cond.classLink y.cls idx C).before a0 Z = true) (w2 : (Jvm.Cond.arrayOver (.object C)).before a0 Z = true) (hn : ¬ i < 0) {cap : Nat} (hcap : i.toNatClampNeg ≤ cap) (hbg : cap * 8 ≤ 536870912) {k' n' : Nat} (hk : k + 1 = k') (hn' : n + cap = n') (hc : k' ≤ R.cells) (hl : n' ≤ R.slots) (hp : pc + 3 = pc') :
    ∃ h' a cA, a = h.size ∧ Ext h h' ∧ Ovr Z cA C ∧ Arv Z h' a cA (.object C) i [] .null ∧ Rch p l e R s m args below meth c Z y bc ml rt n0 T0 g0 k' n' h' (mkF m pc' L (.ref a :: S)) := by
  subst hp hk hn'
  obtain ⟨q, T, locs, X, eT, N, st⟩ := r
  obtain ⟨T', h', cA, X', e', E, A, O, st'⟩ := newR X q.1 q.2.2.2.2.1 q.2.2.2.1 w1 w2 eT (g := mkF m pc L (.int i :: S)) rfl (hb q.2.1 hd) rfl hn hcap hbg hc hl
  exact ⟨h', h.size, cA, rfl, E, O, Arv.new A hn, q, T', locs, X', e', N, fun t z => st t (st' t z)⟩
theorem inbI {c : Cell} {z j : Int32} (S : c.slots.size = z.toNatClampNeg) (h1 : ¬ j < 0) (h2 : j < z) : ¬ (j < 0 ∨ c.slots.size ≤ j.toNatClampNeg) := inb_of S ⟨h1, h2⟩
theorem Rch.stI {a : Addr} {kc : ClassId} {z j : Int32} {x : Int32} {vs : List Value} {dv : Value} (r : Rch p l e R s m args below meth c Z y bc ml rt n0 T0 g0 k n h (mkF m pc L (.int x :: .int j :: .ref a :: S))) (hd : decode bc pc = .ok (.iastore, 1)) (V : Arv Z h a kc .int z vs dv) (h1 : ¬ j < 0) (h2 : j < z) (h3 : j.toNatClampNeg < vs.length) (hN : n0 ≤ a) (hp : pc + 1 = pc') :
    ∃ h', Wr h h' a j.toNatClampNeg (.int x) ∧ Arv Z h' a kc .int z (vs.set j.toNatClampNeg (.int x)) dv ∧ Rch p l e R s m args below meth c Z y bc ml rt n0 T0 g0 k n h' (mkF m pc' L S) := by
  subst hp
  obtain ⟨q, T, locs, X, eT, N, st⟩ := r
  obtain ⟨cl, A, q1, S1, q3, H, G⟩ := V
  obtain ⟨T', h', X', e', W, st'⟩ := stI X q.1 q.2.2.2.2.1 eT A (j := j) (inbI S1 h1 h2) (g := mkF m pc L (.int x :: .int j :: .ref a :: S)) rfl rfl (hb q.2.1 hd)
  exact ⟨h', W, Arv.set A q1 S1 q3 H G rfl W _ rfl h3, q, T', _, X', e', Fr.snoc X' N hN, fun t z => st t (st' t z)⟩
theorem Rch.stB {a : Addr} {kc : ClassId} {z j : Int32} {x : Int32} {vs : List Value} {dv : Value} (r : Rch p l e R s m args below meth c Z y bc ml rt n0 T0 g0 k n h (mkF m pc L (.int x :: .int j :: .ref a :: S))) (hd : decode bc pc = .ok (.bastore, 1)) (V : Arv Z h a kc .byte z vs dv) (h1 : ¬ j < 0) (h2 : j < z) (h3 : j.toNatClampNeg < vs.length) (hN : n0 ≤ a) (hp : pc + 1 = pc') :
    ∃ h', Wr h h' a j.toNatClampNeg (.int (nar .byte x)) ∧ Arv Z h' a kc .byte z (vs.set j.toNatClampNeg (.int (nar .byte x))) dv ∧ Rch p l e R s m args below meth c Z y bc ml rt n0 T0 g0 k n h' (mkF m pc' L S) := by
  subst hp
  obtain ⟨q, T, locs, X, eT, N, st⟩ := r
  obtain ⟨cl, A, q1, S1, q3, H, G⟩ := V
  obtain ⟨T', h', X', e', W, st'⟩ := stB X q.1 q.2.2.2.2.1 eT A (j := j) (inbI S1 h1 h2) (g := mkF m pc L (.int x :: .int j :: .ref a :: S)) rfl rfl (hb q.2.1 hd)
  exact ⟨h', W, Arv.set A q1 S1 q3 H G (fits_nar_byte _) W _ rfl h3, q, T', _, X', e', Fr.snoc X' N hN, fun t z => st t (st' t z)⟩
theorem Rch.stC {a : Addr} {kc : ClassId} {z j : Int32} {x : Int32} {vs : List Value} {dv : Value} (r : Rch p l e R s m args below meth c Z y bc ml rt n0 T0 g0 k n h (mkF m pc L (.int x :: .int j :: .ref a :: S))) (hd : decode bc pc = .ok (.castore, 1)) (V : Arv Z h a kc .char z vs dv) (h1 : ¬ j < 0) (h2 : j < z) (h3 : j.toNatClampNeg < vs.length) (hN : n0 ≤ a) (hp : pc + 1 = pc') :
    ∃ h', Wr h h' a j.toNatClampNeg (.int (nar .char x)) ∧ Arv Z h' a kc .char z (vs.set j.toNatClampNeg (.int (nar .char x))) dv ∧ Rch p l e R s m args below meth c Z y bc ml rt n0 T0 g0 k n h' (mkF m pc' L S) := by
  subst hp
  obtain ⟨q, T, locs, X, eT, N, st⟩ := r
  obtain ⟨cl, A, q1, S1, q3, H, G⟩ := V
  obtain ⟨T', h', X', e', W, st'⟩ := stC X q.1 q.2.2.2.2.1 eT A (j := j) (inbI S1 h1 h2) (g := mkF m pc L (.int x :: .int j :: .ref a :: S)) rfl rfl (hb q.2.1 hd)
  exact ⟨h', W, Arv.set A q1 S1 q3 H G (fits_nar_char _) W _ rfl h3, q, T', _, X', e', Fr.snoc X' N hN, fun t z => st t (st' t z)⟩
theorem Rch.stZ {a : Addr} {kc : ClassId} {z j : Int32} {x : Int32} {vs : List Value} {dv : Value} (r : Rch p l e R s m args below meth c Z y bc ml rt n0 T0 g0 k n h (mkF m pc L (.int x :: .int j :: .ref a :: S))) (hd : decode bc pc = .ok (.bastore, 1)) (V : Arv Z h a kc .boolean z vs dv) (h1 : ¬ j < 0) (h2 : j < z) (h3 : j.toNatClampNeg < vs.length) (hN : n0 ≤ a) (hp : pc + 1 = pc') :
    ∃ h', Wr h h' a j.toNatClampNeg (.int (nar .boolean x)) ∧ Arv Z h' a kc .boolean z (vs.set j.toNatClampNeg (.int (nar .boolean x))) dv ∧ Rch p l e R s m args below meth c Z y bc ml rt n0 T0 g0 k n h' (mkF m pc' L S) := by
  subst hp
  obtain ⟨q, T, locs, X, eT, N, st⟩ := r
  obtain ⟨cl, A, q1, S1, q3, H, G⟩ := V
  obtain ⟨T', h', X', e', W, st'⟩ := stZ X q.1 q.2.2.2.2.1 eT A (j := j) (inbI S1 h1 h2) (g := mkF m pc L (.int x :: .int j :: .ref a :: S)) rfl rfl (hb q.2.1 hd)
  exact ⟨h', W, Arv.set A q1 S1 q3 H G (fits_nar_bool _) W _ rfl h3, q, T', _, X', e', Fr.snoc X' N hN, fun t z => st t (st' t z)⟩
theorem Rch.stJ {a : Addr} {kc : ClassId} {z j : Int32} {x : Int64} {vs : List Value} {dv : Value} (r : Rch p l e R s m args below meth c Z y bc ml rt n0 T0 g0 k n h (mkF m pc L (.long x :: .int j :: .ref a :: S))) (hd : decode bc pc = .ok (.lastore, 1)) (V : Arv Z h a kc .long z vs dv) (h1 : ¬ j < 0) (h2 : j < z) (h3 : j.toNatClampNeg < vs.length) (hN : n0 ≤ a) (hp : pc + 1 = pc') :
    ∃ h', Wr h h' a j.toNatClampNeg (.long x) ∧ Arv Z h' a kc .long z (vs.set j.toNatClampNeg (.long x)) dv ∧ Rch p l e R s m args below meth c Z y bc ml rt n0 T0 g0 k n h' (mkF m pc' L S) := by
  subst hp
  obtain ⟨q, T, locs, X, eT, N, st⟩ := r
  obtain ⟨cl, A, q1, S1, q3, H, G⟩ := V
  obtain ⟨T', h', X', e', W, st'⟩ := stJ X q.1 q.2.2.2.2.1 eT A (j := j) (inbI S1 h1 h2) (g := mkF m pc L (.long x :: .int j :: .ref a :: S)) rfl rfl (hb q.2.1 hd)
  exact ⟨h', W, Arv.set A q1 S1 q3 H G rfl W _ rfl h3, q, T', _, X', e', Fr.snoc X' N hN, fun t z => st t (st' t z)⟩
theorem Rch.stR {C : String} {a : Addr} {kc : ClassId} {z j : Int32} {v : Value} {vs : List Value} {dv : Value} (r : Rch p l e R s m args below meth c Z y bc ml rt n0 T0 g0 k n h (mkF m pc L (v :: .int j :: .ref a :: S))) (hd : decode bc pc = .ok (.aastore, 1)) (V : Arv Z h a kc (.object C) z vs dv) (h1 : ¬ j < 0) (h2 : j < z) (h3 : j.toNatClampNeg < vs.length) (hs : Sto Z h a v) (hv : v.isRef = true) (hN : n0 ≤ a) (hp : pc + 1 = pc') :
    ∃ h', Wr h h' a j.toNatClampNeg v ∧ Arv Z h' a kc (.object C) z (vs.set j.toNatClampNeg v) dv ∧ Rch p l e R s m args below meth c Z y bc ml rt n0 T0 g0 k n h' (mkF m pc' L S) := by
  subst hp
  obtain ⟨q, T, locs, X, eT, N, st⟩ := r
  obtain ⟨cl, A, q1, S1, q3, H, G⟩ := V
  obtain ⟨T', h', X', e', W, st'⟩ := stR X q.1 q.2.2.2.2.1 eT A (j := j) (inbI S1 h1 h2) rfl hs (g := mkF m pc L (v :: .int j :: .ref a :: S)) rfl rfl (hb q.2.1 hd)
  have hf : fits (.object C) v = true := by cases v <;> first | rfl | (cases hv; done)
  exact ⟨h', W, Arv.set A q1 S1 q3 H G hf W _ rfl h3, q, T', _, X', e', Fr.snoc X' N hN, fun t z => st t (st' t z)⟩
theorem Rch.ldI {a : Addr} {kc : ClassId} {z j : Int32} {vs : List Value} {dv : Value} (v : Value) (r : Rch p l e R s m args below meth c Z y bc ml rt n0 T0 g0 k n h (mkF m pc L (.int j :: .ref a :: S))) (hd : decode bc pc = .ok (.iaload, 1)) (V : Arv Z h a kc .int z vs dv) (h1 : ¬ j < 0) (h2 : j < z) (hv : vs.getD j.toNatClampNeg dv = v) (hp : pc + 1 = pc') :
    Rch p l e R s m args below meth c Z y bc ml rt n0 T0 g0 k n h (mkF m pc' L (v :: S)) := by
  subst hp
  obtain ⟨cl, A, q1, S1, q3, H, G⟩ := V
  exact r.pure fun T locs X eT t w => X.iaload r.1.1 (j := j) (v := v) (by rw [eT]; exact A.1) (State.isArrayOf_alike r.1.2.2.2.2.1.alike A.2.1) A.2.2 (inbI S1 h1 h2) (Has.at H (inbI S1 h1 h2) hv) (g := mkF m pc L (.int j :: .ref a :: S)) rfl rfl (hb r.1.2.1 hd) _ w
theorem Rch.ldJ {a : Addr} {kc : ClassId} {z j : Int32} {vs : List Value} {dv : Value} (v : Value) (r : Rch p l e R s m args below meth c Z y bc ml rt n0 T0 g0 k n h (mkF m pc L (.int j :: .ref a :: S))) (hd : decode bc pc = .ok (.laload, 1)) (V : Arv Z h a kc .long z vs dv) (h1 : ¬ j < 0) (h2 : j < z) (hv : vs.getD j.toNatClampNeg dv = v) (hp : pc + 1 = pc') :
    Rch p l e R s m args below meth c Z y bc ml rt n0 T0 g0 k n h (mkF m pc' L (v :: S)) := by
  subst hp
  obtain ⟨cl, A, q1, S1, q3, H, G⟩ := V
  exact r.pure fun T locs X eT t w => X.laload r.1.1 (j := j) (v := v) (by rw [eT]; exact A.1) (State.isArrayOf_alike r.1.2.2.2.2.1.alike A.2.1) A.2.2 (inbI S1 h1 h2) (Has.at H (inbI S1 h1 h2) hv) (g := mkF m pc L (.int j :: .ref a :: S)) rfl rfl (hb r.1.2.1 hd) _ w
theorem Rch.ldB {a : Addr} {kc : ClassId} {z j : Int32} {vs : List Value} {dv : Value} (v : Value) (r : Rch p l e R s m args below meth c Z y bc ml rt n0 T0 g0 k n h (mkF m pc L (.int j :: .ref a :: S))) (hd : decode bc pc = .ok (.baload, 1)) (V : Arv Z h a kc .byte z vs dv) (h1 : ¬ j < 0) (h2 : j < z) (hv : vs.getD j.toNatClampNeg dv = v) (hp : pc + 1 = pc') :
    Rch p l e R s m args below meth c Z y bc ml rt n0 T0 g0 k n h (mkF m pc' L (v :: S)) := by
  subst hp
  obtain ⟨cl, A, q1, S1, q3, H, G⟩ := V
  exact r.pure fun T locs X eT t w => X.baloadBytes r.1.1 (j := j) (v := v) (by rw [eT]; exact A.1) (State.isArrayOf_alike r.1.2.2.2.2.1.alike A.2.1) A.2.2 (inbI S1 h1 h2) (Has.at H (inbI S1 h1 h2) hv) (g := mkF m pc L (.int j :: .ref a :: S)) rfl rfl (hb r.1.2.1 hd) _ w
theorem Rch.ldC {a : Addr} {kc : ClassId} {z j : Int32} {vs : List Value} {dv : Value} (v : Value) (r : Rch p l e R s m args below meth c Z y bc ml rt n0 T0 g0 k n h (mkF m pc L (.int j :: .ref a :: S))) (hd : decode bc pc = .ok (.caload, 1)) (V : Arv Z h a kc .char z vs dv) (h1 : ¬ j < 0) (h2 : j < z) (hv : vs.getD j.toNatClampNeg dv = v) (hp : pc + 1 = pc') :
    Rch p l e R s m args below meth c Z y bc ml rt n0 T0 g0 k n h (mkF m pc' L (v :: S)) := by
  subst hp
  obtain ⟨cl, A, q1, S1, q3, H, G⟩ := V
  exact r.pure fun T locs X eT t w => X.caload r.1.1 (j := j) (v := v) (by rw [eT]; exact A.1) (State.isArrayOf_alike r.1.2.2.2.2.1.alike A.2.1) A.2.2 (inbI S1 h1 h2) (Has.at H (inbI S1 h1 h2) hv) (g := mkF m pc L (.int j :: .ref a :: S)) rfl rfl (hb r.1.2.1 hd) _ w
theorem Rch.ldR {ty : FieldType} {a : Addr} {kc : ClassId} {z j : Int32} {vs : List Value} {dv : Value} (v : Value) (r : Rch p l e R s m args below meth c Z y bc ml rt n0 T0 g0 k n h (mkF m pc L (.int j :: .ref a :: S))) (hd : decode bc pc = .ok (.aaload, 1)) (V : Arv Z h a kc ty z vs dv) (hty : ty.isReference = true) (h1 : ¬ j < 0) (h2 : j < z) (hv : vs.getD j.toNatClampNeg dv = v) (hp : pc + 1 = pc') :
    Rch p l e R s m args below meth c Z y bc ml rt n0 T0 g0 k n h (mkF m pc' L (v :: S)) := by
  subst hp
  obtain ⟨cl, A, q1, S1, q3, H, G⟩ := V
  exact r.pure fun T locs X eT t w => X.aaload r.1.1 (j := j) (v := v) (by rw [eT]; exact A.1) (State.isArrayOf_alike r.1.2.2.2.2.1.alike A.2.1) hty A.2.2 (inbI S1 h1 h2) (Has.at H (inbI S1 h1 h2) hv) (g := mkF m pc L (.int j :: .ref a :: S)) rfl rfl (hb r.1.2.1 hd) _ w
theorem Rch.ldI0 {a : Addr} {kc : ClassId} {z j : Int32} {vs : List Value} {dv : Value} (r : Rch p l e R s m args below meth c Z y bc ml rt n0 T0 g0 k n h (mkF m pc L (.int j :: .ref a :: S))) (hd : decode bc pc = .ok (.iaload, 1)) (V : Arv Z h a kc .int z vs dv) (h1 : ¬ j < 0) (h2 : j < z) (hp : pc + 1 = pc') :
    ∃ x : Int32, vs.getD j.toNatClampNeg dv = .int x ∧ Rch p l e R s m args below meth c Z y bc ml rt n0 T0 g0 k n h (mkF m pc' L (.int x :: S)) := by
  have V0 := V
  obtain ⟨cl, A, q1, S1, q3, H, G⟩ := V0
  have hlt := Nat.lt_of_not_le fun q => inbI S1 h1 h2 (Or.inr q)
  obtain ⟨x, hx⟩ := fit_I (G _ hlt) (Or.inl rfl)
  exact ⟨x, hx, Rch.ldI (.int x) r hd V h1 h2 hx hp⟩
theorem Rch.stI0 {a : Addr} {kc : ClassId} {z j x : Int32} {vs : List Value} {dv : Value} (r : Rch p l e R s m args below meth c Z y bc ml rt n0 T0 g0 k n h (mkF m pc L (.int x :: .int j :: .ref a :: S))) (hd : decode bc pc = .ok (.iastore, 1)) (V : Arv Z h a kc .int z vs dv) (h1 : ¬ j < 0) (h2 : j < z) (hN : n0 ≤ a) (hp : pc + 1 = pc') :
    ∃ h' vs', Wr h h' a j.toNatClampNeg (.int x) ∧ Arv Z h' a kc .int z vs' dv ∧ Rch p l e R s m args below meth c Z y bc ml rt n0 T0 g0 k n h' (mkF m pc' L S) := by
  obtain ⟨h', W, V', r'⟩ := Rch.stI r hd (V.pad (pad_rep vs dv (j.toNatClampNeg + 1))) h1 h2 (by simp; omega) hN hp
  exact ⟨h', _, W, V', r'⟩
theorem Rch.alen {ty : FieldType} {a : Addr} {kc : ClassId} {z : Int32} {vs : List Value} {dv : Value} (r : Rch p l e R s m args below meth c Z y bc ml rt n0 T0 g0 k n h (mkF m pc L (.ref a :: S))) (hd : decode bc pc = .ok (.arraylength, 1)) (V : Arv Z h a kc ty z vs dv) (hp : pc + 1 = pc') :
    Rch p l e R s m args below meth c Z y bc ml rt n0 T0 g0 k n h (mkF m pc' L (.int z :: S)) := by
  subst hp
  obtain ⟨cl, A, -, S1, S2, -, -⟩ := V
  refine r.pure fun T locs X eT t w => X.arraylength r.1.1 (by rw [eT]; exact A.1) (State.isArrayOf_alike r.1.2.2.2.2.1.alike A.2.1) (g := mkF m pc L (.ref a :: S)) rfl rfl (hb r.1.2.1 hd) _ ?_
  rw [len_of S1 S2]
  exact w
-- returns
theorem Rch.retZ {z : Int32} {t : FieldType} (r : Rch p l e R s m args below meth c Z y bc ml rt n0 T0 g0 k n h (mkF m pc L (.int z :: S))) (hd : decode bc pc = .ok (.ireturn, 1)) (hrt : rt = some t) (ht : t = .boolean ∨ t = .byte ∨ t = .char ∨ t = .short) (w : Int32) (hw : nar t z = w) (hk : k ≤ R.cells) (hn : n ≤ R.slots) : Don p l e R s m args below meth c rt n0 T0 g0 (some (.int w)) h := by
  subst hw
  obtain ⟨q, T, locs, X, eT, N, st⟩ := r
  refine ⟨T, locs, k, n, X, hk, hn, eT, N, q.2.2.2.2.2.2.1, (fun z => ?_), fun fs hl => st _ (retN X q.1 (t := t) (q.2.2.2.2.2.1.trans hrt) ht (hb q.2.1 hd) hl)⟩
  rw [q.2.2.2.2.2.1, hrt] at z; cases z
theorem Rch.retI {z : Int32} (r : Rch p l e R s m args below meth c Z y bc ml rt n0 T0 g0 k n h (mkF m pc L (.int z :: S))) (hd : decode bc pc = .ok (.ireturn, 1)) (hrt : rt = some .int) (hk : k ≤ R.cells) (hn : n ≤ R.slots) : Don p l e R s m args below meth c rt n0 T0 g0 (some (.int z)) h := by
  obtain ⟨q, T, locs, X, eT, N, st⟩ := r
  refine ⟨T, locs, k, n, X, hk, hn, eT, N, q.2.2.2.2.2.2.1, (fun z => ?_), fun fs hl => st _ (retOut X q.1 (t := .int) (q.2.2.2.2.2.1.trans hrt) rfl (Or.inl ⟨rfl, Or.inl rfl, _, rfl⟩) (hb q.2.1 hd) hl)⟩
  rw [q.2.2.2.2.2.1, hrt] at z; cases z
theorem Rch.retJ {z : Int64} (r : Rch p l e R s m args below meth c Z y bc ml rt n0 T0 g0 k n h (mkF m pc L (.long z :: S))) (hd : decode bc pc = .ok (.lreturn, 1)) (hrt : rt = some .long) (hk : k ≤ R.cells) (hn : n ≤ R.slots) : Don p l e R s m args below meth c rt n0 T0 g0 (some (.long z)) h := by
  obtain ⟨q, T, locs, X, eT, N, st⟩ := r
  refine ⟨T, locs, k, n, X, hk, hn, eT, N, q.2.2.2.2.2.2.1, (fun z => ?_), fun fs hl => st _ (retOut X q.1 (t := .long) (q.2.2.2.2.2.1.trans hrt) rfl (Or.inr (Or.inl ⟨rfl, rfl, _, rfl⟩)) (hb q.2.1 hd) hl)⟩
  rw [q.2.2.2.2.2.1, hrt] at z; cases z
theorem Rch.retA {v : Value} {t : FieldType} (r : Rch p l e R s m args below meth c Z y bc ml rt n0 T0 g0 k n h (mkF m pc L (v :: S))) (hd : decode bc pc = .ok (.areturn, 1)) (hrt : rt = some t) (ht : t.isReference = true) (hv : v.isRef = true) (hk : k ≤ R.cells) (hn : n ≤ R.slots) : Don p l e R s m args below meth c rt n0 T0 g0 (some v) h := by
  obtain ⟨q, T, locs, X, eT, N, st⟩ := r
  have hnar : narrow t v = v := by cases v <;> first | (cases hv; done) | (cases t <;> rfl)
  refine ⟨T, locs, k, n, X, hk, hn, eT, N, q.2.2.2.2.2.2.1, (fun z => ?_), fun fs hl => st _ (retOut X q.1 (t := t) (q.2.2.2.2.2.1.trans hrt) hnar (Or.inr (Or.inr (Or.inr (Or.inr ⟨rfl, ht, hv⟩)))) (hb q.2.1 hd) hl)⟩
  rw [q.2.2.2.2.2.1, hrt] at z; cases z
theorem Rch.retV (r : Rch p l e R s m args below meth c Z y bc ml rt n0 T0 g0 k n h (mkF m pc L [])) (hd : decode bc pc = .ok (.return_, 1)) (hrt : rt = none) (hk : k ≤ R.cells) (hn : n ≤ R.slots) : Don p l e R s m args below meth c rt n0 T0 g0 none h := by
  obtain ⟨q, T, locs, X, eT, N, st⟩ := r
  exact ⟨T, locs, k, n, X, hk, hn, eT, N, q.2.2.2.2.2.2.1, fun _ => rfl, fun fs hl => st _ (X.returnOut q.1 (q.2.2.2.2.2.1.trans hrt) (hb q.2.1 hd) hl)⟩
-- entering a body
theorem ent {rm : Room} {as : Array Value} {h0 : Heap} {Q : Option Value → Heap → Prop} {L0 : Array Slot} (hpl : plainFor y = true) (hL : ∀ m, entryFrame m as ml = mkF m 0 L0 [])
    (H : ∀ p e s m below meth c T0, Rch p l e rm s m as below meth c Z y bc ml rt n0 T0 (mkF m 0 L0 []) 0 0 h0 (mkF m 0 L0 []) → ∃ v h, Don p l e rm s m as below meth c rt n0 T0 (mkF m 0 L0 []) v h ∧ Q v h) : Ctr l Z y bc ml rt rm as h0 n0 Q := by
  intro ws
  refine MetFree.of_bodySF hpl hisR ?_
  intro p e s m args below meth c s₁ Bd hml0 hP hK
  obtain ⟨rfl, hZ, hh⟩ := hP
  have hown : s.vm.findClass y.cls = some m.cls := findClass_of_methodNamed Bd.named
  have hnm := (name_of_methodNamed Bd.named Bd.method).1
  have X0 : Stand p l e rm s m args below meth c s₁ [] 0 0 := Stand.of_body Bd
  have e0 : s₁.heap = h0 := by rw [← hh, Bd.state]; rfl
  obtain ⟨v, h, ⟨T, locs, k, n, X, hk, hn, eT, N, hlk, hv, st⟩, hq⟩ := H p e s m below meth c s₁ ⟨⟨Bd.exec, Bd.bytes, hml0, hown, hZ, Bd.returns, Bd.notSynchronized, hnm⟩, s₁, [], X0, e0, Fr.nil n0, fun _ z => z⟩
  obtain ⟨fs, hr, hrun, hended, hW, hsame⟩ := X.leave (v := v) hv hlk
  refine ⟨_, _, castTop (hL m) (st fs hr), hrun, hended, v, locs, rfl, ⟨N, ?_⟩, ⟨_, rfl⟩, hW, hsame.mono hk hn⟩
  show Q v T.heap
  rw [eT]; exact hq
-- calls
theorem Rch.callS {z : MethodName} {bc' : ByteArray} {ml' : Nat} {rt' : Option FieldType} {rm : Room} {idx : Nat} {ps : List FieldType} {ro : Option FieldType} {Q : Option Value → Heap → Prop} (argsL : List Value) {rest : List Value} (W : Nat)
    (r : Rch p l e R s m args below meth c Z y bc ml rt n0 T0 g0 k n h (mkF m pc L S)) (hd : decode bc pc = .ok (.invokestatic idx, 3)) (w1 : (Jvm.Cond.methodLink y.cls idx z).before a0 Z = true) (w2 : (Jvm.Cond.static z).before a0 Z = true) (w3 : (Jvm.Cond.initialized z.cls).before a0 Z = true) (w4 : (Jvm.Cond.code z bc' ml' rt').before a0 Z = true)
    (hy : z.cls ≠ "java/lang/invoke/MethodHandle" ∧ z.cls ≠ "java/lang/invoke/VarHandle") (C : Ctr l Z z bc' ml' rt' rm argsL.toArray h n0 Q) (pd : parseMethodDescriptor z.desc = some ⟨ps, ro⟩) (hlen : argsL.length = ps.length) (hS : S = argsL.reverse ++ rest) (hml : L.size = ml)
    (hW : (rest.map fun v => v.category).sum ≤ W) (hf : rm.frames + 1 ≤ R.frames) (hlo : W + (ml' + 11) + rm.locals ≤ R.locals) {k' n' : Nat} (hk : k + rm.cells = k') (hn' : n + rm.slots = n') (hc : k' ≤ R.cells) (hl : n' ≤ R.slots) (hp : pc + 3 = pc') :
    ∃ v h', Q v h' ∧ Rch p l e R s m args below meth c Z y bc ml rt n0 T0 g0 k' n' h' (mkF m pc' L (v.toList ++ rest)) := by
  subst hp hS hk hn'
  obtain ⟨q, T, locs, X, eT, N, st⟩ := r
  obtain ⟨v, _, ⟨T', L', kk', nn'⟩, -, X', ⟨Lc, hQ, l1, y1, z1⟩, st'⟩ := Jvm.LawKit.callS X q.1 (y := z) q.2.2.2.1 (mvT q.2.2.2.2.1 w1) (mvT q.2.2.2.2.1 w2) (mvT q.2.2.2.2.1 w3) (mvT q.2.2.2.2.1 w4) hy (backOf (W := W) (Q := fun v h L => Fr n0 L ∧ Q v h) (C []) q.2.2.2.2.1 w4 w3 hf hlo) (g := mkF m pc L (argsL.reverse ++ rest)) rfl (by rw [q.2.2.1]; exact hml) (argsL := argsL) (rest := rest) (lenOf pd hlen) rfl (by simpa using hW) (hb q.2.1 hd) (fun _ _ => ⟨rfl, eT, hc, hl⟩)
  dsimp only [Pt.U, Pt.locs, Pt.cells, Pt.slots] at X' l1 y1 z1 st' hQ
  subst l1 y1 z1
  exact ⟨v, T'.heap, hQ.2, q, T', _, X', rfl, N.app hQ.1, fun t u => st t (st' t u)⟩
theorem Rch.callC {z : MethodName} {bc' : ByteArray} {ml' : Nat} {rm : Room} {idx : Nat} {ps : List FieldType} {ro : Option FieldType} {Q : Option Value → Heap → Prop} {a : Addr} (argsL : List Value) {rest : List Value} (W : Nat)
    (r : Rch p l e R s m args below meth c Z y bc ml rt n0 T0 g0 k n h (mkF m pc L S)) (hd : decode bc pc = .ok (.invokespecial idx, 3)) (hi : z.name = "<init>") (w1 : (Jvm.Cond.methodLink y.cls idx z).before a0 Z = true) (w2 : (Jvm.Cond.instanceMethod z).before a0 Z = true) (w3 : (Jvm.Cond.initialized z.cls).before a0 Z = true) (w4 : (Jvm.Cond.code z bc' ml' none).before a0 Z = true)
    (hy : z.cls ≠ "java/lang/invoke/MethodHandle" ∧ z.cls ≠ "java/lang/invoke/VarHandle") (C : Ctr l Z z bc' ml' none rm (.ref a :: argsL).toArray h n0 Q) (pd : parseMethodDescriptor z.desc = some ⟨ps, ro⟩) (hlen : argsL.length = ps.length) (hS : S = argsL.reverse ++ .ref a :: rest) (hml : L.size = ml)
    (hW : (rest.map fun v => v.category).sum ≤ W) (hf : rm.frames + 1 ≤ R.frames) (hlo : W + (ml' + 11) + rm.locals ≤ R.locals) {k' n' : Nat} (hk : k + rm.cells = k') (hn' : n + rm.slots = n') (hc : k' ≤ R.cells) (hl : n' ≤ R.slots) (hp : pc + 3 = pc') :
    ∃ v h', Q v h' ∧ Rch p l e R s m args below meth c Z y bc ml rt n0 T0 g0 k' n' h' (mkF m pc' L (v.toList ++ rest)) := by
  subst hp hS hk hn'
  obtain ⟨q, T, locs, X, eT, N, st⟩ := r
  obtain ⟨v, _, ⟨T', L', kk', nn'⟩, -, X', ⟨Lc, hQ, l1, y1, z1⟩, st'⟩ := X.specialBack q.1 (y := z) hi q.2.2.2.1 (mvT q.2.2.2.2.1 w1) (mvT q.2.2.2.2.1 w2) (mvT q.2.2.2.2.1 w4) hy (backOf (W := W) (Q := fun v h L => Fr n0 L ∧ Q v h) (C []) q.2.2.2.2.1 w4 w3 hf hlo) (g := mkF m pc L (argsL.reverse ++ .ref a :: rest)) rfl (by rw [q.2.2.1]; exact hml) (Steps.refl _) (a := a) (argsL := argsL) (rest := rest) (lenOf pd hlen) rfl (by simpa using hW) (hb q.2.1 hd) (fun _ _ => ⟨rfl, eT, hc, hl⟩)
  dsimp only [Pt.U, Pt.locs, Pt.cells, Pt.slots] at X' l1 y1 z1 st' hQ
  subst l1 y1 z1
  exact ⟨v, T'.heap, hQ.2, q, T', _, X', rfl, N.app hQ.1, fun t u => st t (st'.trans u)⟩
theorem Rch.callV {z z' : MethodName} {K : String} {bc' : ByteArray} {ml' : Nat} {rt' : Option FieldType} {rm : Room} {idx : Nat} {ps : List FieldType} {ro : Option FieldType} {Q : Option Value → Heap → Prop} {a : Addr} (argsL : List Value) {rest : List Value} (W : Nat)
    (r : Rch p l e R s m args below meth c Z y bc ml rt n0 T0 g0 k n h (mkF m pc L S)) (hd : decode bc pc = .ok (.invokevirtual idx, 3)) (w1 : (Jvm.Cond.methodLink y.cls idx z).before a0 Z = true) (w2 : (Jvm.Cond.declares z).before a0 Z = true) (nf : NotFace s z) (w5 : (Jvm.Cond.selects K z z').before a0 Z = true) (w6 : (Jvm.Cond.instanceMethod z').before a0 Z = true) (w3 : (Jvm.Cond.initialized z'.cls).before a0 Z = true) (w4 : (Jvm.Cond.code z' bc' ml' rt').before a0 Z = true)
    (hy : z.cls ≠ "java/lang/invoke/MethodHandle" ∧ z.cls ≠ "java/lang/invoke/VarHandle") (C : Ctr l Z z' bc' ml' rt' rm (.ref a :: argsL).toArray h n0 Q) (E : Exa Z h a K) (pd : parseMethodDescriptor z.desc = some ⟨ps, ro⟩) (hlen : argsL.length = ps.length) (hS : S = argsL.reverse ++ .ref a :: rest) (hml : L.size = ml)
    (hW : (rest.map fun v => v.category).sum ≤ W) (hf : rm.frames + 1 ≤ R.frames) (hlo : W + (ml' + 11) + rm.locals ≤ R.locals) {k' n' : Nat} (hk : k + rm.cells = k') (hn' : n + rm.slots = n') (hc : k' ≤ R.cells) (hl : n' ≤ R.slots) (hp : pc + 3 = pc') :
    ∃ v h', Q v h' ∧ Rch p l e R s m args below meth c Z y bc ml rt n0 T0 g0 k' n' h' (mkF m pc' L (v.toList ++ rest)) := by
  subst hp hS hk hn'
  obtain ⟨q, T, locs, X, eT, N, st⟩ := r
  obtain ⟨cq, kq, qa, qb, qc⟩ := isOf q.2.2.2.2.1 eT E
  obtain ⟨v, _, ⟨T', L', kk', nn'⟩, -, X', ⟨Lc, hQ, l1, y1, z1⟩, st'⟩ := X.virtualBack q.1 (y := z) (z := z') q.2.2.2.1 (mvT q.2.2.2.2.1 w1) (mvT q.2.2.2.2.1 w2) nf (mvT q.2.2.2.2.1 w5) (mvT q.2.2.2.2.1 w6) hy (backOf (W := W) (Q := fun v h L => Fr n0 L ∧ Q v h) (C []) q.2.2.2.2.1 w4 w3 hf hlo) qa qc (g := mkF m pc L (argsL.reverse ++ .ref a :: rest)) rfl (by rw [q.2.2.1]; exact hml) (Steps.refl _) (argsL := argsL) (rest := rest) (lenOf pd hlen) rfl (by simpa using hW) (hb q.2.1 hd) (fun _ _ => ⟨rfl, eT, hc, hl⟩)
  dsimp only [Pt.U, Pt.locs, Pt.cells, Pt.slots] at X' l1 y1 z1 st' hQ
  subst l1 y1 z1
  exact ⟨v, T'.heap, hQ.2, q, T', _, X', rfl, N.app hQ.1, fun t u => st t (st'.trans u)⟩
theorem Rch.nface {z z' : MethodName} {K : String} {g : JFrame} (r : Rch p l e R s m args below meth c Z y bc ml rt n0 T0 g0 k n h g) (w : (Jvm.Cond.selects K z z').before a0 Z = true) (hq : z = z') : NotFace s z := by
  subst hq; exact notFace_of_selects (args := #[]) (mvT r.1.2.2.2.2.1 w)
theorem Rch.initO {idx : Nat} {a : Addr} (W : Nat) (r : Rch p l e R s m args below meth c Z y bc ml rt n0 T0 g0 k n h (mkF m pc L (.ref a :: S))) (hd : decode bc pc = .ok (.invokespecial idx, 3)) (w1 : (Jvm.Cond.methodLink y.cls idx Lib.objectInit).before a0 Z = true) (w2 : (Jvm.Cond.instanceMethod Lib.objectInit).before a0 Z = true) (w3 : (Jvm.Cond.code Lib.objectInit ⟨#[0xb1]⟩ 1 none).before a0 Z = true) (hml : L.size = ml)
    (hf : 1 ≤ R.frames) (hW : (S.map fun v => v.category).sum ≤ W) (hl : W + 12 ≤ R.locals) (hp : pc + 3 = pc') : Rch p l e R s m args below meth c Z y bc ml rt n0 T0 g0 k n h (mkF m pc' L S) := by
  subst hp
  exact r.keep fun T locs X eT => initO X r.1.1 r.1.2.2.2.2.1 r.1.2.2.2.1 w1 w2 w3 eT (g := mkF m pc L (.ref a :: S)) rfl (by rw [r.1.2.2.1]; exact hml) rfl (hb r.1.2.1 hd) hf (W := W) (by simpa using hW) hl
end OwnLayer

theorem own_fldI {args : Array Value} {Z : State} {t : Term} {C n d : String} {a : Addr} {k : Int32} (ev : t.eval args Z none [] Z = some (.ref a)) (h : (Jvm.Cond.eq (Term.field t C n d) (Term.int k)).value args Z none Z [] = some true) : Fld Z Z.heap a C n d (.int k) := by
  obtain ⟨x, y, e1, e2, k1, k2⟩ := cmp_v (Or.inl h)
  have e3 : y = .int k := Option.some.inj (e2.symm.trans (Term.int_eval k))
  subst e3
  obtain ⟨z, rfl⟩ := k2
  have hz : z = k := by simpa [Cond.value, e1, e2] using h
  subst hz
  exact Fld.start (by rw [← fld_at ev]; exact e1)
theorem own_neS {args : Array Value} {Z : State} {t u : Term} {a b : Addr} (e1 : t.eval args Z none [] Z = some (.ref a)) (e2 : u.eval args Z none [] Z = some (.ref b)) (h : (Jvm.Cond.not (Jvm.Cond.eq t u)).value args Z none Z [] = some true) : a ≠ b := fun q => by
  have := gotF (eq_R e1 e2 rfl rfl) (not_v h)
  exact this (by rw [q])
theorem pn_com_example_quorum_atlas_quorumatlas_value_BoolValue : plainName "com/example/quorum_atlas/quorumatlas/value/BoolValue" = true := by first | (simp [plainName, overriddenIn]; done) | decide +kernel
theorem d1_0 : decode prog_125_method_2_code 0 = .ok (.iload_n 0, 1) := by decide +kernel
theorem d1_1 : decode prog_125_method_2_code 1 = .ok (.ifCond .eq 9, 3) := by decide +kernel
theorem d1_10 : decode prog_125_method_2_code 10 = .ok (.getstatic 17, 3) := by decide +kernel
theorem d1_13 : decode prog_125_method_2_code 13 = .ok (.areturn, 1) := by decide +kernel
theorem d1_4 : decode prog_125_method_2_code 4 = .ok (.getstatic 13, 3) := by decide +kernel
theorem d1_7 : decode prog_125_method_2_code 7 = .ok (.goto 6, 3) := by decide +kernel
set_option maxRecDepth 65536 in
set_option maxHeartbeats 40000000 in
theorem c1 (l : Launch) (Z : State) (a0 : Array Value) (hw : ∀ d ∈ tables_1, d.before a0 Z = true) (x0 : Int32) (h0 : Heap) (n0 : Nat) (aT aF : Addr) (ST : Sta Z h0 "com/example/quorum_atlas/quorumatlas/value/BoolValue" "TRUE" "Lcom/example/quorum_atlas/quorumatlas/value/BoolValue;" (.ref aT)) (SF : Sta Z h0 "com/example/quorum_atlas/quorumatlas/value/BoolValue" "FALSE" "Lcom/example/quorum_atlas/quorumatlas/value/BoolValue;" (.ref aF)) :
    Ctr l Z (⟨"com/example/quorum_atlas/quorumatlas/value/BoolValue", "of", "(Z)Lcom/example/quorum_atlas/quorumatlas/value/BoolValue;"⟩ : MethodName) prog_125_method_2_code 1 (some (.object "com/example/quorum_atlas/quorumatlas/value/BoolValue")) ({ frames := 0, cells := 0, slots := 0, locals := 0 } : Room) #[(.int x0)] h0 n0 (fun v h => v = some (.ref (if x0 = 0 then aF else aT)) ∧ h0 = h) := by
  refine ent (plainFor_of_name pn_com_example_quorum_atlas_quorumatlas_value_BoolValue) (L0 := #[.val (.int x0)]) (fun m => by first | (simp [entryFrame, mkF, argsToLocals, Value.category]; done) | rfl) ?_
  intro p e s m below meth c T0 r0
  have r1 := r0.iloadN (pc' := 1) d1_0 rfl rfl
  by_cases hc2 : x0 = (0 : Int32)
  · -- yes
    have r3 := r1.ifT (pc' := 10) d1_1 (teq hc2).1 (by decide) (by decide)
    have r4 := r3.getS (host := "") (pc' := 13) d1_10 (Or.inl (hw _ (List.mem_of_getElem? (i := 4) rfl))) Via.refl SF rfl
    rw [if_pos hc2]
    exact ⟨_, _, r4.retA d1_13 rfl rfl rfl (by decide) (by decide), ⟨rfl, rfl⟩⟩
  · -- not no
    have r5 := r1.ifF (pc' := 4) d1_1 (feq hc2).1 rfl
    have r6 := r5.getS (host := "") (pc' := 7) d1_4 (Or.inl (hw _ (List.mem_of_getElem? (i := 16) rfl))) Via.refl ST rfl
    have r7 := r6.goto (pc' := 13) d1_7 (by decide) (by decide)
    rw [if_neg hc2]
    exact ⟨_, _, r7.retA d1_13 rfl rfl rfl (by decide) (by decide), ⟨rfl, rfl⟩⟩
theorem d2_0 : decode prog_125_method_8_code 0 = .ok (.aload_n 0, 1) := by decide +kernel
theorem d2_1 : decode prog_125_method_8_code 1 = .ok (.getfield 7, 3) := by decide +kernel
theorem d2_4 : decode prog_125_method_8_code 4 = .ok (.ireturn, 1) := by decide +kernel
set_option maxRecDepth 65536 in
set_option maxHeartbeats 40000000 in
theorem c2 (l : Launch) (Z : State) (a0 : Array Value) (hw : ∀ d ∈ tables_1, d.before a0 Z = true) (a : Addr) (k : Int32) (h0 : Heap) (n0 : Nat) (F : Fld Z h0 a "com/example/quorum_atlas/quorumatlas/value/BoolValue" "value" "Z" (.int k)) (hk : nar .boolean k = k) :
    Ctr l Z (⟨"com/example/quorum_atlas/quorumatlas/value/BoolValue", "value", "()Z"⟩ : MethodName) prog_125_method_8_code 1 (some .boolean) ({ frames := 0, cells := 0, slots := 0, locals := 0 } : Room) #[(.ref a)] h0 n0 (fun v h => v = some (.int k) ∧ h0 = h) := by
  refine ent (plainFor_of_name pn_com_example_quorum_atlas_quorumatlas_value_BoolValue) (L0 := #[.val (.ref a)]) (fun m => by first | (simp [entryFrame, mkF, argsToLocals, Value.category]; done) | rfl) ?_
  intro p e s m below meth c T0 r0
  have r8 := r0.aloadN (pc' := 1) d2_0 rfl rfl rfl
  have r9 := r8.getF (host := "") (pc' := 4) d2_1 (Or.inl (hw _ (List.mem_of_getElem? (i := 14) rfl))) Via.refl F rfl
  exact ⟨_, _, r9.retZ d2_4 rfl (t := .boolean) (by simp) k hk (by decide) (by decide), ⟨rfl, rfl⟩⟩
theorem pn_com_example_quorum_atlas_quorumatlas_value_BoolValueOfPinLaw : plainName "com/example/quorum_atlas/quorumatlas/value/BoolValueOfPinLaw" = true := by first | (simp [plainName, overriddenIn]; done) | decide +kernel
theorem pd_2 : parseMethodDescriptor "(Z)Lcom/example/quorum_atlas/quorumatlas/value/BoolValue;" = some ⟨[.boolean], some (.object "com/example/quorum_atlas/quorumatlas/value/BoolValue")⟩ := by decide +kernel
theorem pd_0 : parseMethodDescriptor "()Z" = some ⟨[], some .boolean⟩ := by decide +kernel
set_option maxRecDepth 65536 in
set_option maxHeartbeats 40000000 in
theorem law (l : Launch) (Z : State) (a0 : Array Value) (hw : ∀ d ∈ tables_1, d.before a0 Z = true) (x0 : Int32) (h0 : Heap) (n0 : Nat) (aT aF : Addr) (ST : Sta Z h0 "com/example/quorum_atlas/quorumatlas/value/BoolValue" "TRUE" "Lcom/example/quorum_atlas/quorumatlas/value/BoolValue;" (.ref aT)) (SF : Sta Z h0 "com/example/quorum_atlas/quorumatlas/value/BoolValue" "FALSE" "Lcom/example/quorum_atlas/quorumatlas/value/BoolValue;" (.ref aF)) (ET : Exa Z h0 aT "com/example/quorum_atlas/quorumatlas/value/BoolValue") (EF : Exa Z h0 aF "com/example/quorum_atlas/quorumatlas/value/BoolValue") (FT : Fld Z h0 aT "com/example/quorum_atlas/quorumatlas/value/BoolValue" "value" "Z" (.int 1)) (FF : Fld Z h0 aF "com/example/quorum_atlas/quorumatlas/value/BoolValue" "value" "Z" (.int 0)) (ne : aF ≠ aT) :
    Ctr l Z x code maxLocals ret room_1 #[(.int x0)] h0 n0 (fun v h => v = some (.int 1)) := by
  refine ent (plainFor_of_name pn_com_example_quorum_atlas_quorumatlas_value_BoolValueOfPinLaw) (L0 := #[.val (.int x0), .unset, .unset, .unset]) (fun m => by first | (simp [entryFrame, mkF, argsToLocals, Value.category, maxLocals]; done) | rfl) ?_
  intro p e s m below meth c T0 r0
  have r10 := r0.iloadN (pc' := 1) at_0 rfl rfl
  have r11 := r10.iconst (pc' := 2) (1 : Int32) at_1 rfl rfl
  have r12 := r11.iand (pc' := 3) at_2 rfl rfl
  by_cases hc13 : (x0 &&& (1 : Int32)) = (0 : Int32)
  · -- yes
    have r14 := r12.ifT (pc' := 10) at_3 (teq hc13).1 (by decide) (by decide)
    have r15 := r14.iconst (pc' := 11) (0 : Int32) at_10 rfl rfl
    have r16 := r15.istoreN (pc' := 12) (L' := #[.val (.int x0), .val (.int (0 : Int32)), .unset, .unset]) at_11 rfl rfl
    have r17 := r16.iloadN (pc' := 13) at_12 rfl rfl
    obtain ⟨v20, h21, hq19, r18⟩ := r17.callS (pc' := 16) [(.int (0 : Int32))] (rest := []) 0 at_13 (hw _ (List.mem_of_getElem? (i := 0) rfl)) (hw _ (List.mem_of_getElem? (i := 1) rfl)) (hw _ (List.mem_of_getElem? (i := 2) rfl)) (hw _ (List.mem_of_getElem? (i := 3) rfl)) (by decide) (c1 l Z a0 hw (0 : Int32) h0 n0 aT aF ST SF) pd_2 rfl rfl rfl (Nat.le_of_ble_eq_true rfl) (by decide) (by decide) (k' := 0) (n' := 0) rfl rfl (by decide) (by decide) rfl
    obtain ⟨rfl, rfl⟩ := hq19
    dsimp only [Option.toList, List.cons_append, List.nil_append] at r18
    rw [if_pos (by decide)] at r18
    have r22 := r18.astoreN (pc' := 17) (L' := #[.val (.int x0), .val (.int (0 : Int32)), .val (.ref aF), .unset]) at_16 rfl rfl rfl
    have r23 := r22.aloadN (pc' := 18) at_17 rfl rfl rfl
    have r24 := r23.nnT (pc' := 23) at_18 (by decide) (by decide)
    have r25 := r24.aloadN (pc' := 24) at_23 rfl rfl rfl
    have r26 := r25.getS (host := "") (pc' := 27) at_24 (Or.inl (hw _ (List.mem_of_getElem? (i := 6) rfl))) Via.refl ST rfl
    have r27 := r26.acmp (pc' := 30) (same := false) at_27 rfl rfl (decide_eq_false (fun q => ne (Value.ref.inj q))) (by decide) (by decide)
    have r28 := r27.aloadN (pc' := 31) at_30 rfl rfl rfl
    have r29 := r28.getS (host := "") (pc' := 34) at_31 (Or.inl (hw _ (List.mem_of_getElem? (i := 8) rfl))) Via.refl SF rfl
    have r30 := r29.acmp (pc' := 37) (same := true) at_34 rfl rfl (decide_eq_true rfl) (by decide) (by decide)
    have r31 := r30.iconst (pc' := 38) (1 : Int32) at_37 rfl rfl
    have r32 := r31.goto (pc' := 42) at_38 (by decide) (by decide)
    have r33 := r32.istoreN (pc' := 43) (L' := #[.val (.int x0), .val (.int (0 : Int32)), .val (.ref aF), .val (.int (1 : Int32))]) at_42 rfl rfl
    have r34 := r33.iloadN (pc' := 44) at_43 rfl rfl
    have r35 := r34.ifF (pc' := 47) at_44 (feq (by decide : ¬ (1 : Int32) = (0 : Int32))).1 rfl
    have r36 := r35.aloadN (pc' := 48) at_47 rfl rfl rfl
    obtain ⟨v39, h40, hq38, r37⟩ := r36.callV (pc' := 51) (a := aF) [] (rest := []) 0 at_48 (hw _ (List.mem_of_getElem? (i := 9) rfl)) (hw _ (List.mem_of_getElem? (i := 10) rfl)) (r36.nface (hw _ (List.mem_of_getElem? (i := 12) rfl)) rfl) (hw _ (List.mem_of_getElem? (i := 12) rfl)) (hw _ (List.mem_of_getElem? (i := 11) rfl)) (hw _ (List.mem_of_getElem? (i := 2) rfl)) (hw _ (List.mem_of_getElem? (i := 13) rfl)) (by decide) (c2 l Z a0 hw aF (0 : Int32) h0 n0 FF rfl) EF pd_0 rfl rfl rfl (Nat.le_of_ble_eq_true rfl) (by decide) (by decide) (k' := 0) (n' := 0) rfl rfl (by decide) (by decide) rfl
    obtain ⟨rfl, rfl⟩ := hq38
    dsimp only [Option.toList, List.cons_append, List.nil_append] at r37
    have r41 := r37.iloadN (pc' := 52) at_51 rfl rfl
    have r42 := r41.icF (pc' := 55) at_52 (teq (by decide : (0 : Int32) = (0 : Int32))).2 rfl
    have r43 := r42.iconst (pc' := 56) (1 : Int32) at_55 rfl rfl
    have r44 := r43.goto (pc' := 60) at_56 (by decide) (by decide)
    exact ⟨_, _, r44.retZ at_60 rfl (t := .boolean) (by simp) (1 : Int32) rfl (by decide) (by decide), rfl⟩
  · -- not no
    have r45 := r12.ifF (pc' := 6) at_3 (feq hc13).1 rfl
    have r46 := r45.iconst (pc' := 7) (1 : Int32) at_6 rfl rfl
    have r47 := r46.goto (pc' := 11) at_7 (by decide) (by decide)
    have r48 := r47.istoreN (pc' := 12) (L' := #[.val (.int x0), .val (.int (1 : Int32)), .unset, .unset]) at_11 rfl rfl
    have r49 := r48.iloadN (pc' := 13) at_12 rfl rfl
    obtain ⟨v52, h53, hq51, r50⟩ := r49.callS (pc' := 16) [(.int (1 : Int32))] (rest := []) 0 at_13 (hw _ (List.mem_of_getElem? (i := 0) rfl)) (hw _ (List.mem_of_getElem? (i := 1) rfl)) (hw _ (List.mem_of_getElem? (i := 2) rfl)) (hw _ (List.mem_of_getElem? (i := 3) rfl)) (by decide) (c1 l Z a0 hw (1 : Int32) h0 n0 aT aF ST SF) pd_2 rfl rfl rfl (Nat.le_of_ble_eq_true rfl) (by decide) (by decide) (k' := 0) (n' := 0) rfl rfl (by decide) (by decide) rfl
    obtain ⟨rfl, rfl⟩ := hq51
    dsimp only [Option.toList, List.cons_append, List.nil_append] at r50
    rw [if_neg (by decide)] at r50
    have r54 := r50.astoreN (pc' := 17) (L' := #[.val (.int x0), .val (.int (1 : Int32)), .val (.ref aT), .unset]) at_16 rfl rfl rfl
    have r55 := r54.aloadN (pc' := 18) at_17 rfl rfl rfl
    have r56 := r55.nnT (pc' := 23) at_18 (by decide) (by decide)
    have r57 := r56.aloadN (pc' := 24) at_23 rfl rfl rfl
    have r58 := r57.getS (host := "") (pc' := 27) at_24 (Or.inl (hw _ (List.mem_of_getElem? (i := 6) rfl))) Via.refl ST rfl
    have r59 := r58.acmp (pc' := 37) (same := true) at_27 rfl rfl (decide_eq_true rfl) (by decide) (by decide)
    have r60 := r59.iconst (pc' := 38) (1 : Int32) at_37 rfl rfl
    have r61 := r60.goto (pc' := 42) at_38 (by decide) (by decide)
    have r62 := r61.istoreN (pc' := 43) (L' := #[.val (.int x0), .val (.int (1 : Int32)), .val (.ref aT), .val (.int (1 : Int32))]) at_42 rfl rfl
    have r63 := r62.iloadN (pc' := 44) at_43 rfl rfl
    have r64 := r63.ifF (pc' := 47) at_44 (feq (by decide : ¬ (1 : Int32) = (0 : Int32))).1 rfl
    have r65 := r64.aloadN (pc' := 48) at_47 rfl rfl rfl
    obtain ⟨v68, h69, hq67, r66⟩ := r65.callV (pc' := 51) (a := aT) [] (rest := []) 0 at_48 (hw _ (List.mem_of_getElem? (i := 9) rfl)) (hw _ (List.mem_of_getElem? (i := 10) rfl)) (r65.nface (hw _ (List.mem_of_getElem? (i := 12) rfl)) rfl) (hw _ (List.mem_of_getElem? (i := 12) rfl)) (hw _ (List.mem_of_getElem? (i := 11) rfl)) (hw _ (List.mem_of_getElem? (i := 2) rfl)) (hw _ (List.mem_of_getElem? (i := 13) rfl)) (by decide) (c2 l Z a0 hw aT (1 : Int32) h0 n0 FT rfl) ET pd_0 rfl rfl rfl (Nat.le_of_ble_eq_true rfl) (by decide) (by decide) (k' := 0) (n' := 0) rfl rfl (by decide) (by decide) rfl
    obtain ⟨rfl, rfl⟩ := hq67
    dsimp only [Option.toList, List.cons_append, List.nil_append] at r66
    have r70 := r66.iloadN (pc' := 52) at_51 rfl rfl
    have r71 := r70.icF (pc' := 55) at_52 (teq (by decide : (1 : Int32) = (1 : Int32))).2 rfl
    have r72 := r71.iconst (pc' := 56) (1 : Int32) at_55 rfl rfl
    have r73 := r72.goto (pc' := 60) at_56 (by decide) (by decide)
    exact ⟨_, _, r73.retZ at_60 rfl (t := .boolean) (by simp) (1 : Int32) rfl (by decide) (by decide), rfl⟩
set_option maxRecDepth 65536 in
set_option maxHeartbeats 40000000 in
theorem comes_1 {Post : Tables → Env → Array Value → State → Outcome → State → Prop} (hpost : ∀ tb e args s v u, (limb_1_1.after args s (.returned v) u = true ∧ limb_1_2.after args s (.returned v) u = true ∧ True) → FrameEnd s (.returned v) u (Jvm.fieldLocs frame_1_writes args s ++ Jvm.arrayLocs frame_1_arrays args s ++ Jvm.staticLocs frame_1_statics s) 0 0 → Post tb e args s (.returned v) u) :
    ArmFor flags0 classFile x code maxLocals ret World_1 tables_1 room_1 Calls_1 rest_1 Pre_1 Post := by
  intro l hfl _ _ p e ha hc hk s m args below hf hA hF happ hP
  obtain ⟨hcalls, hrest, hpre⟩ := hP
  obtain ⟨-, -, -, hnamed, -, -, -, hat⟩ := (Spec.applies_iff hf).mp happ
  obtain ⟨hg, hn⟩ := and_e (Cond.before_iff.mp (show (Jvm.Cond.and given_1 narrow_1).before args s = true from hpre))
  obtain ⟨gg1, gg2⟩ := and_e hg
  obtain ⟨w0, rfl⟩ : ∃ w0 : Value, args = #[w0] := by
    have hs : args.size = 1 := by simpa [Cond.value, given_1] using gg1
    obtain ⟨L⟩ := args
    match L, hs with
    | [w0], _ => exact ⟨w0, rfl⟩
  have hw := fun d (hd : d ∈ tables_1) => atoms_spec (ws := Jvm.Cond.code x code maxLocals ret :: tables_1) hat d (List.mem_cons_of_mem _ hd)
  obtain ⟨i0, ei0⟩ := is_v gg2
  obtain rfl : w0 = (.int i0) := Option.some.inj ei0
  obtain ⟨nn1, nn2⟩ := and_e hn
  obtain ⟨a_FALSE, ev_FALSE⟩ := exa_v nn1
  have E_FALSE := Exa.start ev_FALSE nn1
  have S_FALSE := Sta.start ev_FALSE (Or.inr ⟨(hw _ (List.mem_of_getElem? (i := 2) rfl)), (hw _ (List.mem_of_getElem? (i := 5) rfl))⟩)
  obtain ⟨nn3, nn4⟩ := and_e nn2
  obtain ⟨a_TRUE, ev_TRUE⟩ := exa_v nn3
  have E_TRUE := Exa.start ev_TRUE nn3
  have S_TRUE := Sta.start ev_TRUE (Or.inr ⟨(hw _ (List.mem_of_getElem? (i := 2) rfl)), (hw _ (List.mem_of_getElem? (i := 7) rfl))⟩)
  obtain ⟨nn5, nn6⟩ := and_e nn4
  obtain ⟨nn7, nn8⟩ := and_e nn6
  have ne_FALSE_TRUE := own_neS ev_FALSE ev_TRUE nn5
  have F_FALSE_value := own_fldI ev_FALSE nn7
  have F_TRUE_value := own_fldI ev_TRUE nn8
  obtain ⟨n, o, h1, h2, h3, _, L, rfl, ⟨N, rfl⟩, hq⟩ := law l s _ hw i0 s.heap s.heap.size a_TRUE a_FALSE S_TRUE S_FALSE E_TRUE E_FALSE F_TRUE_value F_FALSE_value ne_FALSE_TRUE tables_1 p e ha hc hk s m _ below hf ((Spec.applies_iff_loose hf).mp happ).1 ⟨rfl, State.Warmed39.refl s, rfl⟩ trivial
  refine ⟨n, _, h1, h2, h3, hpost _ _ _ _ _ _ ⟨Cond.after_iff.mpr rfl, Cond.after_iff.mpr (eq_i res_at (Term.int_eval (1)) rfl), trivial⟩ ⟨hq.1, hq.2.1, (hq.2.2.sift fun y hy => Or.inr (N y hy)).mono (by decide) (by decide)⟩⟩
theorem main_1_1 : Claimed_1_1 := comes_1 fun _ _ _ _ _ _ h hF => ⟨h.1, hF⟩
theorem main_1_2 : Claimed_1_2 := comes_1 fun _ _ _ _ _ _ h hF => ⟨h.2.1, hF⟩

end Jvm.Pilot.@@N@@
namespace Jvm.Pilot.@@N@@
open Jvm Jvm.ClassFile Sem Op Lib Jvm.Free Jvm.Stand Jvm.Pilot.@@N@@.Jvm.D
/-! MADE BY PROGRAM (witnessworld.py) out of the Statement's table words and the real class files: 12 classes; the members and pool entries that the words name. The judged class is class 1, her method 1. -/
namespace start1
open Jvm.ClassFile
def u (s : String) : CpInfo := .utf8 (stringToUtf16 s)
/-- a pool by its gaps: so many unusable entries, then the entry; so many at the end -/
def gap : Nat → List CpInfo → List CpInfo
  | 0, r => r
  | n + 1, r => .unusable :: gap n r
def poolList (es : List (Nat × CpInfo)) (last : Nat) : List CpInfo := es.foldr (fun e r => gap e.1 (e.2 :: r)) (gap last [])
def pool (es : List (Nat × CpInfo)) (last : Nat) : Array CpInfo := ⟨poolList es last⟩
def fileOf (pool : Array CpInfo) (this : Nat) (attrs : Array Attribute := #[]) (ms : Array MethodInfo := #[]) (fl : Nat := 33) (sup : Nat := 0) (ifs : Array Nat := #[]) (fds : Array FieldInfo := #[]) : ClassFile where
  minorVersion := 0
  majorVersion := 65
  constantPool := pool
  accessFlags := fl
  thisClass := this
  superClass := sup
  interfaces := ifs
  fields := fds
  methods := ms
  attributes := attrs
def plain (name : String) (sup : Option ClassId) : Class where
  name := name
  kind := .ordinary
  loader := none
  accessFlags := 33
  super := sup
  interfaces := #[]
  cf := none
  fields := #[]
  methods := #[]
  instanceTypes := #[]
  staticTypes := #[]
  resolved := #[]
  callSites := []
  init := .initialized
  statics := none
  mirror := none

def pool0 : Array CpInfo := pool [(5, u "<init>"), (0, u "()V"), (1, .class_ 10), (1, u "java/lang/Object")] 113

def k0m0 : Method := { name := "<init>", desc := "()V", sig := { parameters := [], returnType := none }, accessFlags := 1, code := none }
/-- java/lang/Object -/
def k0 : Class := { plain "java/lang/Object" none with
  accessFlags := 33
  interfaces := #[]
  cf := some (fileOf pool0 8 #[] #[{ accessFlags := 1, nameIndex := 5, descriptorIndex := 6, attributes := #[] }] 33 0 #[] #[])
  fields := #[]
  methods := #[k0m0]
  instanceTypes := #[]
  staticTypes := #[]
  resolved := Array.replicate 124 none
  statics := none }

def pool1 : Array CpInfo := pool [(2, .class_ 4), (1, u "java/lang/Object"), (0, u "<init>"), (0, u "()V"), (0, .methodref 8 9), (0, .class_ 10), (0, .nameAndType 11 12), (0, u "com/example/quorum_atlas/quorumatlas/value/BoolValue"), (0, u "of"), (0, u "(Z)Lcom/example/quorum_atlas/quorumatlas/value/BoolValue;"), (0, .fieldref 8 14), (0, .nameAndType 15 16), (0, u "TRUE"), (0, u "Lcom/example/quorum_atlas/quorumatlas/value/BoolValue;"), (0, .fieldref 8 18), (0, .nameAndType 19 16), (0, u "FALSE"), (0, .methodref 8 21), (0, .nameAndType 22 23), (0, u "value"), (0, u "()Z"), (0, .class_ 25), (0, u "com/example/quorum_atlas/quorumatlas/value/BoolValueOfPinLaw"), (2, u "law"), (0, u "(I)Z")] 3

def k1m0 : Method := { name := "<init>", desc := "()V", sig := { parameters := [], returnType := none }, accessFlags := 1, code := none }
def k1c1 : Code := { maxStack := 2, maxLocals := 4, code := code, exceptionTable := #[], attributes := #[] }
def k1m1 : Method := { name := "law", desc := "(I)Z", sig := { parameters := [.int], returnType := some .boolean }, accessFlags := 9, code := some k1c1 }
/-- com/example/quorum_atlas/quorumatlas/value/BoolValueOfPinLaw -/
def k1 : Class := { plain "com/example/quorum_atlas/quorumatlas/value/BoolValueOfPinLaw" (some 0) with
  accessFlags := 49
  interfaces := #[]
  cf := some (fileOf pool1 24 #[] #[{ accessFlags := 1, nameIndex := 5, descriptorIndex := 6, attributes := #[] }, { accessFlags := 9, nameIndex := 28, descriptorIndex := 29, attributes := #[] }] 49 2 #[] #[])
  fields := #[]
  methods := #[k1m0, k1m1]
  instanceTypes := #[]
  staticTypes := #[]
  resolved := Array.replicate 33 none
  statics := none }

def pool2 : Array CpInfo := pool [(2, .class_ 4), (1, u "java/lang/Object"), (0, u "<init>"), (0, u "()V"), (0, .class_ 8), (0, u "java/lang/Record")] 13

def k2m0 : Method := { name := "<init>", desc := "()V", sig := { parameters := [], returnType := none }, accessFlags := 4, code := none }
/-- java/lang/Record -/
def k2 : Class := { plain "java/lang/Record" (some 0) with
  accessFlags := 1057
  interfaces := #[]
  cf := some (fileOf pool2 7 #[] #[{ accessFlags := 4, nameIndex := 5, descriptorIndex := 6, attributes := #[] }] 1057 2 #[] #[])
  fields := #[]
  methods := #[k2m0]
  instanceTypes := #[]
  staticTypes := #[]
  resolved := Array.replicate 22 none
  statics := none }

def pool3 : Array CpInfo := pool [(1, .class_ 2), (0, u "java/lang/Comparable"), (0, .class_ 4), (0, u "java/lang/Object")] 7

/-- java/lang/Comparable -/
def k3 : Class := { plain "java/lang/Comparable" (some 0) with
  accessFlags := 1537
  interfaces := #[]
  cf := some (fileOf pool3 1 #[] #[] 1537 3 #[] #[])
  fields := #[]
  methods := #[]
  instanceTypes := #[]
  staticTypes := #[]
  resolved := Array.replicate 12 none
  statics := none }

def pool4 : Array CpInfo := pool [(1, .class_ 2), (0, u "com/example/quorum_atlas/quorumatlas/value/Value"), (0, .class_ 4), (0, u "java/lang/Object"), (0, .class_ 6), (0, u "java/lang/Comparable"), (7, .class_ 15), (0, u "com/example/quorum_atlas/quorumatlas/value/Value$Kind")] 15

/-- com/example/quorum_atlas/quorumatlas/value/Value -/
def k4 : Class := { plain "com/example/quorum_atlas/quorumatlas/value/Value" (some 0) with
  accessFlags := 1537
  interfaces := #[3]
  cf := some (fileOf pool4 1 #[.nestMembers #[14]] #[] 1537 3 #[5] #[])
  fields := #[]
  methods := #[]
  instanceTypes := #[]
  staticTypes := #[]
  resolved := Array.replicate 31 none
  statics := none }

def pool5 : Array CpInfo := pool [(2, .class_ 4), (1, u "java/lang/Record"), (2, .fieldref 8 9), (0, .class_ 10), (0, .nameAndType 11 12), (0, u "com/example/quorum_atlas/quorumatlas/value/BoolValue"), (0, u "value"), (0, u "Z"), (0, .fieldref 8 14), (0, .nameAndType 15 16), (0, u "TRUE"), (0, u "Lcom/example/quorum_atlas/quorumatlas/value/BoolValue;"), (0, .fieldref 8 18), (0, .nameAndType 19 16), (0, u "FALSE"), (17, .class_ 38), (0, u "com/example/quorum_atlas/quorumatlas/value/Value"), (23, u "of"), (0, u "(Z)Lcom/example/quorum_atlas/quorumatlas/value/BoolValue;"), (7, u "()Z")] 22

def k5c0 : Code := { maxStack := 1, maxLocals := 1, code := prog_125_method_2_code, exceptionTable := #[], attributes := #[] }
def k5m0 : Method := { name := "of", desc := "(Z)Lcom/example/quorum_atlas/quorumatlas/value/BoolValue;", sig := { parameters := [.boolean], returnType := some (.object "com/example/quorum_atlas/quorumatlas/value/BoolValue") }, accessFlags := 9, code := some k5c0 }
def k5c1 : Code := { maxStack := 1, maxLocals := 1, code := prog_125_method_8_code, exceptionTable := #[], attributes := #[] }
def k5m1 : Method := { name := "value", desc := "()Z", sig := { parameters := [], returnType := some .boolean }, accessFlags := 1, code := some k5c1 }
/-- com/example/quorum_atlas/quorumatlas/value/BoolValue -/
def k5 : Class := { plain "com/example/quorum_atlas/quorumatlas/value/BoolValue" (some 2) with
  accessFlags := 49
  interfaces := #[4]
  cf := some (fileOf pool5 8 #[] #[{ accessFlags := 9, nameIndex := 62, descriptorIndex := 63, attributes := #[] }, { accessFlags := 1, nameIndex := 11, descriptorIndex := 71, attributes := #[] }] 49 2 #[37] #[{ accessFlags := 18, nameIndex := 11, descriptorIndex := 12, attributes := #[] }, { accessFlags := 25, nameIndex := 15, descriptorIndex := 16, attributes := #[] }, { accessFlags := 25, nameIndex := 19, descriptorIndex := 16, attributes := #[] }])
  fields := #[{ name := "value", type := .boolean, accessFlags := 18, slot := 0, constantValue := 0 }, { name := "TRUE", type := (.object "com/example/quorum_atlas/quorumatlas/value/BoolValue"), accessFlags := 25, slot := 0, constantValue := 0 }, { name := "FALSE", type := (.object "com/example/quorum_atlas/quorumatlas/value/BoolValue"), accessFlags := 25, slot := 1, constantValue := 0 }]
  methods := #[k5m0, k5m1]
  instanceTypes := #[.boolean]
  staticTypes := #[(.object "com/example/quorum_atlas/quorumatlas/value/BoolValue"), (.object "com/example/quorum_atlas/quorumatlas/value/BoolValue")]
  resolved := Array.replicate 94 none
  statics := some 0 }

def pool6 : Array CpInfo := pool [(1, u "java/lang/Cloneable"), (0, .class_ 1), (0, u "java/lang/Object"), (0, .class_ 3)] 3

/-- java/lang/Cloneable -/
def k6 : Class := { plain "java/lang/Cloneable" (some 0) with
  accessFlags := 1537
  interfaces := #[]
  cf := some (fileOf pool6 2 #[] #[] 1537 4 #[] #[])
  fields := #[]
  methods := #[]
  instanceTypes := #[]
  staticTypes := #[]
  resolved := Array.replicate 8 none
  statics := none }

def pool7 : Array CpInfo := pool [(1, u "java/io/Serializable"), (0, .class_ 1), (0, u "java/lang/Object"), (0, .class_ 3)] 3

/-- java/io/Serializable -/
def k7 : Class := { plain "java/io/Serializable" (some 0) with
  accessFlags := 1537
  interfaces := #[]
  cf := some (fileOf pool7 2 #[] #[] 1537 4 #[] #[])
  fields := #[]
  methods := #[]
  instanceTypes := #[]
  staticTypes := #[]
  resolved := Array.replicate 8 none
  statics := none }

/-- the primitive byte -/
def k8 : Class := { plain "byte" none with kind := .primitive 'B', accessFlags := 0x411 }
/-- [B -/
def k9 : Class := { plain "[B" (some 0) with kind := .array 8 .byte, interfaces := #[6, 7], accessFlags := 1041 }

/-- the primitive int -/
def k10 : Class := { plain "int" none with kind := .primitive 'I', accessFlags := 0x411 }
/-- [I -/
def k11 : Class := { plain "[I" (some 0) with kind := .array 10 .int, interfaces := #[6, 7], accessFlags := 1041 }

def heap : Heap := #[{ cls := 5, slots := #[.ref 2, .ref 1], vm := .statics 5 },
  { cls := 5, slots := #[.int 0], vm := .none },
  { cls := 5, slots := #[.int 1], vm := .none }]
def classes : Array Class := #[k0, k1, k2, k3, k4, k5, k6, k7, k8, k9, k10, k11]
def interned : List (Array UInt16 × Addr) := []
def slotsUsed : Nat := 4
def theMethod : MethodId := ⟨1, 1⟩
def args0 : Array Value := #[.int 5]
def aboutOver (below : List Frame) : State where
  vm := { classes := classes, interned := interned.toArray }
  heap := heap
  slotsUsed := slotsUsed
  threads := #[{ frames := .invoking theMethod args0 :: below }]
def below0 : List Frame := [.native { method := ⟨0, 0⟩, args := #[] }]
def about1 : State := aboutOver below0
def p0 : Program := .bare "" "" ""
def e0 : Env := launch0.env 0 0 0
theorem w_frames : about1.frames = Frame.invoking theMethod args0 :: below0 := rfl
set_option maxRecDepth 65536 in
theorem w_args : argsFit about1.vm theMethod args0 = true := by decide +kernel
set_option maxRecDepth 65536 in
theorem w_heap : heapFits about1 = true := by decide +kernel
set_option maxRecDepth 65536 in
theorem w_runnable : about1.curStatus? = some .runnable := by decide +kernel
set_option maxRecDepth 65536 in
theorem w_alone : about1.alone = true := by decide +kernel
set_option maxRecDepth 65536 in
theorem w_named : about1.methodNamed? x = some theMethod := by decide +kernel
set_option maxRecDepth 65536 in
theorem w_hears : about1.hears theMethod below0 = true := by decide +kernel
set_option maxRecDepth 65536 in
theorem w_ripe : about1.ripe theMethod args0 below0 = true := by decide +kernel
theorem w_running : about1.status = .running := rfl
set_option maxRecDepth 65536 in
theorem w_room : about1.hasRoom e0.platform room_1 = true :=
  launch0.hasRoom_least _ room_1 (by decide +kernel) (by decide +kernel) (by decide +kernel) (by decide +kernel) (by decide +kernel) (by decide +kernel)
theorem allAtoms_all (ts : List Jvm.Cond) (a : Array Jvm.Value) (st : Jvm.State) : (allAtoms ts).before a st = ts.all (fun c => c.before a st) := by
  induction ts with
  | nil => rfl
  | cons c t ih =>
    show (Jvm.Cond.and c (allAtoms t)).before a st = _
    rw [Jvm.Cond.before_and, ih, List.all_cons]
def words1 : List Jvm.Cond := Jvm.Cond.code x code maxLocals ret :: tables_1
/-- a 'code' word, met by the world's own term for the bytes: nothing is compared byte by byte -/
theorem code_word {y : MethodName} {bytes : ByteArray} {mx : Nat} {rt : Option FieldType} {a : Array Value} {s : State} {m : MethodId} {meth : Method} {c : Code} (h1 : s.methodNamed? y = some m) (h2 : s.vm.method? m = some meth) (h3 : meth.code = some c) (h4 : c.code = bytes)
    (h5 : (c.maxLocals == mx && c.exceptionTable.isEmpty && decide (c.maxStack ≤ mostOperands) && decide (meth.sig.returnType = rt) && !meth.locks && decide (parseMethodDescriptor y.desc = some meth.sig)) = true) : (Jvm.Cond.code y bytes mx rt).before a s = true := by
  simp only [Bool.and_eq_true, beq_iff_eq, Bool.not_eq_true', decide_eq_true_eq] at h5
  obtain ⟨⟨⟨⟨⟨g1, g2⟩, g3⟩, g4⟩, g5⟩, g6⟩ := h5
  simp [Cond.before, Cond.holds, Cond.value, h1, h2, h3, h4, g1, g2, g3, g4, g5, g6]
def isCode : Jvm.Cond → Bool
  | .code _ _ _ _ => true
  | _ => false
theorem all_split {L : List Jvm.Cond} {P : Jvm.Cond → Bool} (h1 : L.all (fun c => isCode c || P c) = true) (h2 : ∀ c ∈ L.filter isCode, P c = true) : L.all P = true := by
  refine List.all_eq_true.mpr fun c hc => ?_
  have h := List.all_eq_true.mp h1 c hc
  rcases Bool.eq_false_or_eq_true (isCode c) with hi | hi
  · exact h2 c (List.mem_filter.mpr ⟨hc, hi⟩)
  · simpa [hi] using h
set_option maxRecDepth 65536 in
theorem w_c0 : (Jvm.Cond.code x code maxLocals ret).before args0 about1 = true := code_word (m := ⟨1, 1⟩) (meth := k1m1) (c := k1c1) (by decide +kernel) rfl rfl rfl (by decide +kernel)
set_option maxRecDepth 65536 in
theorem w_c1 : (Jvm.Cond.code ({ cls := "com/example/quorum_atlas/quorumatlas/value/BoolValue", name := "of", desc := "(Z)Lcom/example/quorum_atlas/quorumatlas/value/BoolValue;" } : Jvm.MethodName) prog_125_method_2_code (1 : Nat) (Option.some (Jvm.ClassFile.FieldType.object "com/example/quorum_atlas/quorumatlas/value/BoolValue"))).before args0 about1 = true := code_word (m := ⟨5, 0⟩) (meth := k5m0) (c := k5c0) (by decide +kernel) rfl rfl rfl (by decide +kernel)
set_option maxRecDepth 65536 in
theorem w_c2 : (Jvm.Cond.code ({ cls := "com/example/quorum_atlas/quorumatlas/value/BoolValue", name := "value", desc := "()Z" } : Jvm.MethodName) prog_125_method_8_code (1 : Nat) (Option.some Jvm.ClassFile.FieldType.boolean)).before args0 about1 = true := code_word (m := ⟨5, 1⟩) (meth := k5m1) (c := k5c1) (by decide +kernel) rfl rfl rfl (by decide +kernel)
def codes1 : List Jvm.Cond := [Jvm.Cond.code x code maxLocals ret, Jvm.Cond.code ({ cls := "com/example/quorum_atlas/quorumatlas/value/BoolValue", name := "of", desc := "(Z)Lcom/example/quorum_atlas/quorumatlas/value/BoolValue;" } : Jvm.MethodName) prog_125_method_2_code (1 : Nat) (Option.some (Jvm.ClassFile.FieldType.object "com/example/quorum_atlas/quorumatlas/value/BoolValue")), Jvm.Cond.code ({ cls := "com/example/quorum_atlas/quorumatlas/value/BoolValue", name := "value", desc := "()Z" } : Jvm.MethodName) prog_125_method_8_code (1 : Nat) (Option.some Jvm.ClassFile.FieldType.boolean)]
set_option maxRecDepth 65536 in
theorem codes_eq : words1.filter isCode = codes1 := rfl
theorem w_codes : ∀ c ∈ words1.filter isCode, c.before args0 about1 = true := by
  rw [codes_eq]
  intro c hc
  simp only [codes1, List.mem_cons, List.not_mem_nil, or_false] at hc
  rcases hc with rfl | rfl | rfl
  · exact w_c0
  · exact w_c1
  · exact w_c2
set_option maxRecDepth 65536 in
theorem w_t1 : words1.all (fun c => isCode c || c.before args0 about1) = true := by decide +kernel
theorem w_tables : (allAtoms (Jvm.Cond.code x code maxLocals ret :: tables_1)).before args0 about1 = true := by
  rw [allAtoms_all]
  show words1.all (fun c => c.before args0 about1) = true
  refine all_split ?_ w_codes
  rw [w_t1]
set_option maxRecDepth 65536 in
theorem w_case : (Jvm.Cond.and given_1 narrow_1).before args0 about1 = true := by decide +kernel
theorem w_applies : (headSpec (Jvm.Cond.code x code maxLocals ret :: tables_1) room_1).applies x e0.platform about1 = true :=
  (Spec.applies_iff w_frames).mpr ⟨w_running, w_runnable, w_alone, w_named, w_hears, w_ripe, w_room, w_tables⟩
theorem atStart : AtStart classFile x code maxLocals ret World_1 tables_1 room_1 Calls_1 rest_1 Pre_1 launch0 p0 e0 about1 theMethod args0 below0 :=
  ⟨lists_1, trivial, launch0.admits_env _ _ _, launch0.least_env, fairChoices_fair.cas, fairChoices_fair.clock, w_frames, w_args, w_heap, w_applies, trivial, trivial, w_case⟩
end start1
theorem witness_1 : WitnessClaimed_1 := ⟨start1.p0, start1.e0, start1.about1, start1.theMethod, start1.args0, start1.below0, start1.atStart⟩
end Jvm.Pilot.@@N@@
