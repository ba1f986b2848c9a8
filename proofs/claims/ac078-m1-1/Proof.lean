import JvmDerived
import JvmDerived.Pilot.@@N@@Statement
import JvmDerived.Pilot.@@N@@Code
set_option linter.unusedVariables false
set_option linter.unusedSimpArgs false
namespace Jvm.Pilot.@@N@@
open Jvm Jvm.ClassFile Sem Op Lib Jvm.Free Jvm.Stand Jvm.LawKit Jvm.RoadKit Bundle Jvm.Pilot.@@N@@.Jvm.D
section OwnLayer
/-- where the walk of the body y stands: after k cells and n slots made, with the heap h and the top frame g -/
def Rch (p : Program) (l : Launch) (e : Env) (R : Room) (s : State) (m : MethodId) (args : Array Value) (below : List Frame) (meth : Method) (c : Code) (Z : State) (y : MethodName) (bc : ByteArray) (ml : Nat) (rt : Option FieldType) (n0 : Nat) (T0 : State) (g0 : JFrame) (k n : Nat) (h : Heap) (g : JFrame) : Prop :=
  (p.tables.exec = Jvm.exec ∧ c.code = bc ∧ c.maxLocals = ml ∧ s.vm.findClass y.cls = some m.cls ∧ Z.Warmed39 s.vm ∧ meth.sig.returnType = rt ∧ meth.locks = false ∧ meth.name = y.name) ∧
  ∃ T locs, Stand p l e R s m args below meth c T locs k n ∧ T.heap = h ∧ Fr n0 locs ∧ ∀ target, Steps p.tables e below (T.setTop g) target → Steps p.tables e below (T0.setTop g0) target
/-- the body has returned v, with the heap h -/
def Don (p : Program) (l : Launch) (e : Env) (R : Room) (s : State) (m : MethodId) (args : Array Value) (below : List Frame) (meth : Method) (c : Code) (rt : Option FieldType) (n0 : Nat) (T0 : State) (g0 : JFrame) (v : Option Value) (h : Heap) : Prop :=
  ∃ T locs k n, Stand p l e R s m args below meth c T locs k n ∧ k ≤ R.cells ∧ n ≤ R.slots ∧ T.heap = h ∧ Fr n0 locs ∧ meth.locks = false ∧ (meth.sig.returnType = none → v = none) ∧
    ∀ fs, (∀ (f : JFrame) (acts : List Action), f.method = m → f.locked = none → f.entered = [] → (doReturn e (T.setTop f) acts v).1 = T.setFrames fs) → Steps p.tables e below (T0.setTop g0) (T.setFrames fs)
/-- a body's contract -/
def Ctr (l : Launch) (Z : State) (y : MethodName) (bc : ByteArray) (ml : Nat) (rt : Option FieldType) (rm : Room) (as : Array Value) (h0 : Heap) (n0 : Nat) (Q : Option Value → Heap → Prop) : Prop :=
  ∀ ws : List Jvm.Cond, MetFree l y (head1 (Jvm.Cond.code y bc ml rt :: ws) rm) (fun a U => a = as ∧ Z.Warmed39 U.vm ∧ U.heap = h0) (fun _ _ _ _ _ => True) (fun _ U o U' => ∃ v L, o = .returned v ∧ (Fr n0 L ∧ Q v U'.heap) ∧ FrameEnd U o U' L rm.cells rm.slots)
variable {p : Program} {l : Launch} {e : Env} {R : Room} {s : State} {m : MethodId} {args : Array Value} {below : List Frame} {meth : Method} {c : Code} {Z : State} {y : MethodName} {bc : ByteArray} {ml : Nat} {rt : Option FieldType} {n0 : Nat} {T0 : State} {g0 : JFrame} {k n : Nat} {h : Heap} {a0 : Array Value} {pc pc' : Nat} {L : Array Slot} {S : List Value}
theorem Rch.step {k' n' : Nat} {h' : Heap} {g g' : JFrame} (r : Rch p l e R s m args below meth c Z y bc ml rt n0 T0 g0 k n h g)
    (f : ∀ T locs, Stand p l e R s m args below meth c T locs k n → T.heap = h → Fr n0 locs → ∃ T' locs', Stand p l e R s m args below meth c T' locs' k' n' ∧ T'.heap = h' ∧ Fr n0 locs' ∧ ∀ target, Steps p.tables e below (T'.setTop g') target → Steps p.tables e below (T.setTop g) target) :
    Rch p l e R s m args below meth c Z y bc ml rt n0 T0 g0 k' n' h' g' := by
  obtain ⟨q, T, locs, X, eT, N, st⟩ := r
  obtain ⟨T', locs', X', eT', N', st'⟩ := f T locs X eT N
  exact ⟨q, T', locs', X', eT', N', fun t z => st t (st' t z)⟩
theorem Rch.pure {g g' : JFrame} (r : Rch p l e R s m args below meth c Z y bc ml rt n0 T0 g0 k n h g)
    (f : ∀ T locs, Stand p l e R s m args below meth c T locs k n → T.heap = h → ∀ target, Steps p.tables e below (T.setTop g') target → Steps p.tables e below (T.setTop g) target) :
    Rch p l e R s m args below meth c Z y bc ml rt n0 T0 g0 k n h g' :=
  r.step fun T locs X eT N => ⟨T, locs, X, eT, N, f T locs X eT⟩
theorem Rch.keep {g g' : JFrame} (r : Rch p l e R s m args below meth c Z y bc ml rt n0 T0 g0 k n h g)
    (f : ∀ T locs, Stand p l e R s m args below meth c T locs k n → T.heap = h → ∃ T', Stand p l e R s m args below meth c T' locs k n ∧ T'.heap = h ∧ ∀ target, Steps p.tables e below (T'.setTop g') target → Steps p.tables e below (T.setTop g) target) :
    Rch p l e R s m args below meth c Z y bc ml rt n0 T0 g0 k n h g' :=
  r.step fun T locs X eT N => by
    obtain ⟨T', X', e', st⟩ := f T locs X eT
    exact ⟨T', locs, X', e', N, st⟩
theorem Rch.widen {g : JFrame} {k' n' : Nat} (r : Rch p l e R s m args below meth c Z y bc ml rt n0 T0 g0 k n h g) (hk : k ≤ k') (hn : n ≤ n') : Rch p l e R s m args below meth c Z y bc ml rt n0 T0 g0 k' n' h g := by
  obtain ⟨q, T, locs, X, eT, N, st⟩ := r
  exact ⟨q, T, locs, ⟨X.admits, X.cas, X.clock, X.frames, X.room, X.hears, X.method, X.code, X.here, X.tail, X.warmed, X.limits, X.bytes, X.same.mono hk hn⟩, eT, N, st⟩
theorem Rch.eqh {g : JFrame} {h' : Heap} (r : Rch p l e R s m args below meth c Z y bc ml rt n0 T0 g0 k n h g) (q : h = h') : Rch p l e R s m args below meth c Z y bc ml rt n0 T0 g0 k n h' g := q ▸ r
theorem Rch.eqg {g g' : JFrame} (r : Rch p l e R s m args below meth c Z y bc ml rt n0 T0 g0 k n h g) (q : g = g') : Rch p l e R s m args below meth c Z y bc ml rt n0 T0 g0 k n h g' := q ▸ r
-- loads and stores
theorem Rch.iloadN (r : Rch p l e R s m args below meth c Z y bc ml rt n0 T0 g0 k n h (mkF m pc L S)) {i : Fin 4} {v : Int32} (hd : decode bc pc = .ok (.iload_n i, 1)) (hl : L[i.val]? = some (.val (.int v))) (hp : pc + 1 = pc') : Rch p l e R s m args below meth c Z y bc ml rt n0 T0 g0 k n h (mkF m pc' L (.int v :: S)) := by
  subst hp; exact r.pure fun T locs X eT t z => XS.iloadN X.here r.1.1 rfl (hb r.1.2.1 hd) hl z
theorem Rch.iload (r : Rch p l e R s m args below meth c Z y bc ml rt n0 T0 g0 k n h (mkF m pc L S)) {i : Nat} {v : Int32} (hd : decode bc pc = .ok (.iload i, 2)) (hl : L[i]? = some (.val (.int v))) (hp : pc + 2 = pc') : Rch p l e R s m args below meth c Z y bc ml rt n0 T0 g0 k n h (mkF m pc' L (.int v :: S)) := by
  subst hp; exact r.pure fun T locs X eT t z => XS.iload X.here r.1.1 rfl (hb r.1.2.1 hd) hl z
theorem Rch.lloadN (r : Rch p l e R s m args below meth c Z y bc ml rt n0 T0 g0 k n h (mkF m pc L S)) {i : Fin 4} {v : Int64} (hd : decode bc pc = .ok (.lload_n i, 1)) (hl : L[i.val]? = some (.val (.long v))) (hp : pc + 1 = pc') : Rch p l e R s m args below meth c Z y bc ml rt n0 T0 g0 k n h (mkF m pc' L (.long v :: S)) := by
  subst hp; exact r.pure fun T locs X eT t z => XS.lloadN X.here r.1.1 rfl (hb r.1.2.1 hd) hl z
theorem Rch.lload (r : Rch p l e R s m args below meth c Z y bc ml rt n0 T0 g0 k n h (mkF m pc L S)) {i : Nat} {v : Int64} (hd : decode bc pc = .ok (.lload i, 2)) (hl : L[i]? = some (.val (.long v))) (hp : pc + 2 = pc') : Rch p l e R s m args below meth c Z y bc ml rt n0 T0 g0 k n h (mkF m pc' L (.long v :: S)) := by
  subst hp; exact r.pure fun T locs X eT t z => XS.lload X.here r.1.1 rfl (hb r.1.2.1 hd) hl z
theorem Rch.aloadN (r : Rch p l e R s m args below meth c Z y bc ml rt n0 T0 g0 k n h (mkF m pc L S)) {i : Fin 4} {v : Value} (hd : decode bc pc = .ok (.aload_n i, 1)) (hl : L[i.val]? = some (.val v)) (hv : v.isRef = true) (hp : pc + 1 = pc') : Rch p l e R s m args below meth c Z y bc ml rt n0 T0 g0 k n h (mkF m pc' L (v :: S)) := by
  subst hp; exact r.pure fun T locs X eT t z => XS.aloadN X.here r.1.1 rfl (hb r.1.2.1 hd) hl hv z
theorem Rch.aload (r : Rch p l e R s m args below meth c Z y bc ml rt n0 T0 g0 k n h (mkF m pc L S)) {i : Nat} {v : Value} (hd : decode bc pc = .ok (.aload i, 2)) (hl : L[i]? = some (.val v)) (hv : v.isRef = true) (hp : pc + 2 = pc') : Rch p l e R s m args below meth c Z y bc ml rt n0 T0 g0 k n h (mkF m pc' L (v :: S)) := by
  subst hp; exact r.pure fun T locs X eT t z => XS.aload X.here r.1.1 rfl (hb r.1.2.1 hd) hl hv z
theorem Rch.istoreN {i : Fin 4} {v : Int32} {L' : Array Slot} (r : Rch p l e R s m args below meth c Z y bc ml rt n0 T0 g0 k n h (mkF m pc L (.int v :: S))) (hd : decode bc pc = .ok (.istore_n i, 1)) (hl : storeLocals L i.val (.int v) = some L') (hp : pc + 1 = pc') : Rch p l e R s m args below meth c Z y bc ml rt n0 T0 g0 k n h (mkF m pc' L' S) := by
  subst hp; exact r.pure fun T locs X eT t z => XS.istoreN X.here r.1.1 rfl (hb r.1.2.1 hd) rfl hl z
theorem Rch.istore {i : Nat} {v : Int32} {L' : Array Slot} (r : Rch p l e R s m args below meth c Z y bc ml rt n0 T0 g0 k n h (mkF m pc L (.int v :: S))) (hd : decode bc pc = .ok (.istore i, 2)) (hl : storeLocals L i (.int v) = some L') (hp : pc + 2 = pc') : Rch p l e R s m args below meth c Z y bc ml rt n0 T0 g0 k n h (mkF m pc' L' S) := by
  subst hp; exact r.pure fun T locs X eT t z => XS.istore X.here r.1.1 rfl (hb r.1.2.1 hd) rfl hl z
theorem Rch.lstoreN {i : Fin 4} {v : Int64} {L' : Array Slot} (r : Rch p l e R s m args below meth c Z y bc ml rt n0 T0 g0 k n h (mkF m pc L (.long v :: S))) (hd : decode bc pc = .ok (.lstore_n i, 1)) (hl : storeLocals L i.val (.long v) = some L') (hp : pc + 1 = pc') : Rch p l e R s m args below meth c Z y bc ml rt n0 T0 g0 k n h (mkF m pc' L' S) := by
  subst hp; exact r.pure fun T locs X eT t z => XS.lstoreN X.here r.1.1 rfl (hb r.1.2.1 hd) rfl hl z
theorem Rch.lstore {i : Nat} {v : Int64} {L' : Array Slot} (r : Rch p l e R s m args below meth c Z y bc ml rt n0 T0 g0 k n h (mkF m pc L (.long v :: S))) (hd : decode bc pc = .ok (.lstore i, 2)) (hl : storeLocals L i (.long v) = some L') (hp : pc + 2 = pc') : Rch p l e R s m args below meth c Z y bc ml rt n0 T0 g0 k n h (mkF m pc' L' S) := by
  subst hp; exact r.pure fun T locs X eT t z => XS.lstore X.here r.1.1 rfl (hb r.1.2.1 hd) rfl hl z
theorem Rch.astoreN {i : Fin 4} {v : Value} {L' : Array Slot} (r : Rch p l e R s m args below meth c Z y bc ml rt n0 T0 g0 k n h (mkF m pc L (v :: S))) (hd : decode bc pc = .ok (.astore_n i, 1)) (hv : v.isRef = true) (hl : storeLocals L i.val v = some L') (hp : pc + 1 = pc') : Rch p l e R s m args below meth c Z y bc ml rt n0 T0 g0 k n h (mkF m pc' L' S) := by
  subst hp; exact r.pure fun T locs X eT t z => XS.astoreN X.here r.1.1 rfl (hb r.1.2.1 hd) rfl hv hl z
theorem Rch.astore {i : Nat} {v : Value} {L' : Array Slot} (r : Rch p l e R s m args below meth c Z y bc ml rt n0 T0 g0 k n h (mkF m pc L (v :: S))) (hd : decode bc pc = .ok (.astore i, 2)) (hv : v.isRef = true) (hl : storeLocals L i v = some L') (hp : pc + 2 = pc') : Rch p l e R s m args below meth c Z y bc ml rt n0 T0 g0 k n h (mkF m pc' L' S) := by
  subst hp; exact r.pure fun T locs X eT t z => XS.astore X.here r.1.1 rfl (hb r.1.2.1 hd) rfl hv hl z
theorem Rch.iinc {i : Nat} {cst : Int} {v u : Int32} {L' : Array Slot} (r : Rch p l e R s m args below meth c Z y bc ml rt n0 T0 g0 k n h (mkF m pc L S)) (w : Int32) (hd : decode bc pc = .ok (.iinc i cst, 3)) (hw : Int32.ofInt cst = w) (hl : L[i]? = some (.val (.int v))) (hu : v + w = u) (hl' : storeLocals L i (.int u) = some L') (hp : pc + 3 = pc') : Rch p l e R s m args below meth c Z y bc ml rt n0 T0 g0 k n h (mkF m pc' L' S) := by
  subst hp hu hw; exact r.pure fun T locs X eT t z => XS.iinc X.here r.1.1 rfl (hb r.1.2.1 hd) hl hl' z
-- constants
theorem Rch.iconst (r : Rch p l e R s m args below meth c Z y bc ml rt n0 T0 g0 k n h (mkF m pc L S)) {i : Int} (w : Int32) (hd : decode bc pc = .ok (.iconst i, 1)) (hw : Int32.ofInt i = w) (hp : pc + 1 = pc') : Rch p l e R s m args below meth c Z y bc ml rt n0 T0 g0 k n h (mkF m pc' L (.int w :: S)) := by
  subst hp hw; exact r.pure fun T locs X eT t z => XS.iconst X.here r.1.1 rfl (hb r.1.2.1 hd) z
theorem Rch.bipush (r : Rch p l e R s m args below meth c Z y bc ml rt n0 T0 g0 k n h (mkF m pc L S)) {i : Int} (w : Int32) (hd : decode bc pc = .ok (.bipush i, 2)) (hw : (Int8.ofInt i).toInt32 = w) (hp : pc + 2 = pc') : Rch p l e R s m args below meth c Z y bc ml rt n0 T0 g0 k n h (mkF m pc' L (.int w :: S)) := by
  subst hp hw; exact r.pure fun T locs X eT t z => XS.bipush X.here r.1.1 rfl (hb r.1.2.1 hd) z
theorem Rch.sipush (r : Rch p l e R s m args below meth c Z y bc ml rt n0 T0 g0 k n h (mkF m pc L S)) {i : Int} (w : Int32) (hd : decode bc pc = .ok (.sipush i, 3)) (hw : (Int16.ofInt i).toInt32 = w) (hp : pc + 3 = pc') : Rch p l e R s m args below meth c Z y bc ml rt n0 T0 g0 k n h (mkF m pc' L (.int w :: S)) := by
  subst hp hw; exact r.pure fun T locs X eT t z => XS.sipush X.here r.1.1 rfl (hb r.1.2.1 hd) z
theorem Rch.lconst (r : Rch p l e R s m args below meth c Z y bc ml rt n0 T0 g0 k n h (mkF m pc L S)) {i : Fin 2} (w : Int64) (hd : decode bc pc = .ok (.lconst i, 1)) (hw : Int64.ofNat i = w) (hp : pc + 1 = pc') : Rch p l e R s m args below meth c Z y bc ml rt n0 T0 g0 k n h (mkF m pc' L (.long w :: S)) := by
  subst hp hw; exact r.pure fun T locs X eT t z => XS.lconst X.here r.1.1 rfl (hb r.1.2.1 hd) z
theorem Rch.anull (r : Rch p l e R s m args below meth c Z y bc ml rt n0 T0 g0 k n h (mkF m pc L S)) (hd : decode bc pc = .ok (.aconst_null, 1)) (hp : pc + 1 = pc') : Rch p l e R s m args below meth c Z y bc ml rt n0 T0 g0 k n h (mkF m pc' L (.null :: S)) := by
  subst hp; exact r.pure fun T locs X eT t z => XS.aconstNull X.here r.1.1 rfl (hb r.1.2.1 hd) z
theorem Rch.ldc (r : Rch p l e R s m args below meth c Z y bc ml rt n0 T0 g0 k n h (mkF m pc L S)) {i : Nat} {w : Int32} (hd : decode bc pc = .ok (.ldc i, 2)) (hc : (Jvm.Cond.constant y.cls i w).before a0 Z = true) (hp : pc + 2 = pc') : Rch p l e R s m args below meth c Z y bc ml rt n0 T0 g0 k n h (mkF m pc' L (.int w :: S)) := by
  subst hp; exact r.pure fun T locs X eT t z => X.ldcInt r.1.1 r.1.2.2.2.1 (mvT r.1.2.2.2.2.1 hc) (g := mkF m pc L S) rfl (hb r.1.2.1 hd) t z
theorem Rch.ldcw (r : Rch p l e R s m args below meth c Z y bc ml rt n0 T0 g0 k n h (mkF m pc L S)) {i : Nat} {w : Int32} (hd : decode bc pc = .ok (.ldc_w i, 3)) (hc : (Jvm.Cond.constant y.cls i w).before a0 Z = true) (hp : pc + 3 = pc') : Rch p l e R s m args below meth c Z y bc ml rt n0 T0 g0 k n h (mkF m pc' L (.int w :: S)) := by
  subst hp; exact r.pure fun T locs X eT t z => X.ldcwInt r.1.1 r.1.2.2.2.1 (mvT r.1.2.2.2.2.1 hc) (g := mkF m pc L S) rfl (hb r.1.2.1 hd) t z
theorem Rch.ldc2 (r : Rch p l e R s m args below meth c Z y bc ml rt n0 T0 g0 k n h (mkF m pc L S)) {i : Nat} {w : Int64} (hd : decode bc pc = .ok (.ldc2_w i, 3)) (hc : (Jvm.Cond.constantLong y.cls i w).before a0 Z = true) (hp : pc + 3 = pc') : Rch p l e R s m args below meth c Z y bc ml rt n0 T0 g0 k n h (mkF m pc' L (.long w :: S)) := by
  subst hp; exact r.pure fun T locs X eT t z => X.ldc2Long r.1.1 r.1.2.2.2.1 (mvT r.1.2.2.2.2.1 hc) (g := mkF m pc L S) rfl (hb r.1.2.1 hd) t z
-- sums and the like
theorem Rch.iadd {a : Int32} {b : Int32} {u : Int32} (r : Rch p l e R s m args below meth c Z y bc ml rt n0 T0 g0 k n h (mkF m pc L (.int b :: .int a :: S))) (hd : decode bc pc = .ok (.iadd, 1)) (hu : a + b = u) (hp : pc + 1 = pc') : Rch p l e R s m args below meth c Z y bc ml rt n0 T0 g0 k n h (mkF m pc' L (.int u :: S)) := by
  subst hp hu; exact r.pure fun T locs X eT t z => XS.iadd X.here r.1.1 rfl (hb r.1.2.1 hd) rfl z
theorem Rch.isub {a : Int32} {b : Int32} {u : Int32} (r : Rch p l e R s m args below meth c Z y bc ml rt n0 T0 g0 k n h (mkF m pc L (.int b :: .int a :: S))) (hd : decode bc pc = .ok (.isub, 1)) (hu : a - b = u) (hp : pc + 1 = pc') : Rch p l e R s m args below meth c Z y bc ml rt n0 T0 g0 k n h (mkF m pc' L (.int u :: S)) := by
  subst hp hu; exact r.pure fun T locs X eT t z => XS.isub X.here r.1.1 rfl (hb r.1.2.1 hd) rfl z
theorem Rch.imul {a : Int32} {b : Int32} {u : Int32} (r : Rch p l e R s m args below meth c Z y bc ml rt n0 T0 g0 k n h (mkF m pc L (.int b :: .int a :: S))) (hd : decode bc pc = .ok (.imul, 1)) (hu : a * b = u) (hp : pc + 1 = pc') : Rch p l e R s m args below meth c Z y bc ml rt n0 T0 g0 k n h (mkF m pc' L (.int u :: S)) := by
  subst hp hu; exact r.pure fun T locs X eT t z => XS.imul X.here r.1.1 rfl (hb r.1.2.1 hd) rfl z
theorem Rch.iand {a : Int32} {b : Int32} {u : Int32} (r : Rch p l e R s m args below meth c Z y bc ml rt n0 T0 g0 k n h (mkF m pc L (.int b :: .int a :: S))) (hd : decode bc pc = .ok (.iand, 1)) (hu : a &&& b = u) (hp : pc + 1 = pc') : Rch p l e R s m args below meth c Z y bc ml rt n0 T0 g0 k n h (mkF m pc' L (.int u :: S)) := by
  subst hp hu; exact r.pure fun T locs X eT t z => XS.iand X.here r.1.1 rfl (hb r.1.2.1 hd) rfl z
theorem Rch.ior {a : Int32} {b : Int32} {u : Int32} (r : Rch p l e R s m args below meth c Z y bc ml rt n0 T0 g0 k n h (mkF m pc L (.int b :: .int a :: S))) (hd : decode bc pc = .ok (.ior, 1)) (hu : a ||| b = u) (hp : pc + 1 = pc') : Rch p l e R s m args below meth c Z y bc ml rt n0 T0 g0 k n h (mkF m pc' L (.int u :: S)) := by
  subst hp hu; exact r.pure fun T locs X eT t z => XS.ior X.here r.1.1 rfl (hb r.1.2.1 hd) rfl z
theorem Rch.ixor {a : Int32} {b : Int32} {u : Int32} (r : Rch p l e R s m args below meth c Z y bc ml rt n0 T0 g0 k n h (mkF m pc L (.int b :: .int a :: S))) (hd : decode bc pc = .ok (.ixor, 1)) (hu : a ^^^ b = u) (hp : pc + 1 = pc') : Rch p l e R s m args below meth c Z y bc ml rt n0 T0 g0 k n h (mkF m pc' L (.int u :: S)) := by
  subst hp hu; exact r.pure fun T locs X eT t z => XS.ixor X.here r.1.1 rfl (hb r.1.2.1 hd) rfl z
theorem Rch.ladd {a : Int64} {b : Int64} {u : Int64} (r : Rch p l e R s m args below meth c Z y bc ml rt n0 T0 g0 k n h (mkF m pc L (.long b :: .long a :: S))) (hd : decode bc pc = .ok (.ladd, 1)) (hu : a + b = u) (hp : pc + 1 = pc') : Rch p l e R s m args below meth c Z y bc ml rt n0 T0 g0 k n h (mkF m pc' L (.long u :: S)) := by
  subst hp hu; exact r.pure fun T locs X eT t z => XS.ladd X.here r.1.1 rfl (hb r.1.2.1 hd) rfl z
theorem Rch.lsub {a : Int64} {b : Int64} {u : Int64} (r : Rch p l e R s m args below meth c Z y bc ml rt n0 T0 g0 k n h (mkF m pc L (.long b :: .long a :: S))) (hd : decode bc pc = .ok (.lsub, 1)) (hu : a - b = u) (hp : pc + 1 = pc') : Rch p l e R s m args below meth c Z y bc ml rt n0 T0 g0 k n h (mkF m pc' L (.long u :: S)) := by
  subst hp hu; exact r.pure fun T locs X eT t z => XS.lsub X.here r.1.1 rfl (hb r.1.2.1 hd) rfl z
theorem Rch.lmul {a : Int64} {b : Int64} {u : Int64} (r : Rch p l e R s m args below meth c Z y bc ml rt n0 T0 g0 k n h (mkF m pc L (.long b :: .long a :: S))) (hd : decode bc pc = .ok (.lmul, 1)) (hu : a * b = u) (hp : pc + 1 = pc') : Rch p l e R s m args below meth c Z y bc ml rt n0 T0 g0 k n h (mkF m pc' L (.long u :: S)) := by
  subst hp hu; exact r.pure fun T locs X eT t z => XS.lmul X.here r.1.1 rfl (hb r.1.2.1 hd) rfl z
theorem Rch.land {a : Int64} {b : Int64} {u : Int64} (r : Rch p l e R s m args below meth c Z y bc ml rt n0 T0 g0 k n h (mkF m pc L (.long b :: .long a :: S))) (hd : decode bc pc = .ok (.land, 1)) (hu : a &&& b = u) (hp : pc + 1 = pc') : Rch p l e R s m args below meth c Z y bc ml rt n0 T0 g0 k n h (mkF m pc' L (.long u :: S)) := by
  subst hp hu; exact r.pure fun T locs X eT t z => XS.land X.here r.1.1 rfl (hb r.1.2.1 hd) rfl z
theorem Rch.lor {a : Int64} {b : Int64} {u : Int64} (r : Rch p l e R s m args below meth c Z y bc ml rt n0 T0 g0 k n h (mkF m pc L (.long b :: .long a :: S))) (hd : decode bc pc = .ok (.lor, 1)) (hu : a ||| b = u) (hp : pc + 1 = pc') : Rch p l e R s m args below meth c Z y bc ml rt n0 T0 g0 k n h (mkF m pc' L (.long u :: S)) := by
  subst hp hu; exact r.pure fun T locs X eT t z => XS.lor X.here r.1.1 rfl (hb r.1.2.1 hd) rfl z
theorem Rch.lxor {a : Int64} {b : Int64} {u : Int64} (r : Rch p l e R s m args below meth c Z y bc ml rt n0 T0 g0 k n h (mkF m pc L (.long b :: .long a :: S))) (hd : decode bc pc = .ok (.lxor, 1)) (hu : a ^^^ b = u) (hp : pc + 1 = pc') : Rch p l e R s m args below meth c Z y bc ml rt n0 T0 g0 k n h (mkF m pc' L (.long u :: S)) := by
  subst hp hu; exact r.pure fun T locs X eT t z => XS.lxor X.here r.1.1 rfl (hb r.1.2.1 hd) rfl z
theorem Rch.ishl {a : Int32} {b : Int32} {u : Int32} (r : Rch p l e R s m args below meth c Z y bc ml rt n0 T0 g0 k n h (mkF m pc L (.int b :: .int a :: S))) (hd : decode bc pc = .ok (.ishl, 1)) (hu : a <<< (b &&& 31) = u) (hp : pc + 1 = pc') : Rch p l e R s m args below meth c Z y bc ml rt n0 T0 g0 k n h (mkF m pc' L (.int u :: S)) := by
  subst hp hu; exact r.pure fun T locs X eT t z => XS.ishl X.here r.1.1 rfl (hb r.1.2.1 hd) rfl z
theorem Rch.ishr {a : Int32} {b : Int32} {u : Int32} (r : Rch p l e R s m args below meth c Z y bc ml rt n0 T0 g0 k n h (mkF m pc L (.int b :: .int a :: S))) (hd : decode bc pc = .ok (.ishr, 1)) (hu : a >>> (b &&& 31) = u) (hp : pc + 1 = pc') : Rch p l e R s m args below meth c Z y bc ml rt n0 T0 g0 k n h (mkF m pc' L (.int u :: S)) := by
  subst hp hu; exact r.pure fun T locs X eT t z => XS.ishr X.here r.1.1 rfl (hb r.1.2.1 hd) rfl z
theorem Rch.iushr {a : Int32} {b : Int32} {u : Int32} (r : Rch p l e R s m args below meth c Z y bc ml rt n0 T0 g0 k n h (mkF m pc L (.int b :: .int a :: S))) (hd : decode bc pc = .ok (.iushr, 1)) (hu : (a.toUInt32 >>> (b &&& 31).toUInt32).toInt32 = u) (hp : pc + 1 = pc') : Rch p l e R s m args below meth c Z y bc ml rt n0 T0 g0 k n h (mkF m pc' L (.int u :: S)) := by
  subst hp hu; exact r.pure fun T locs X eT t z => XS.iushr X.here r.1.1 rfl (hb r.1.2.1 hd) rfl z
theorem Rch.lcmp {a : Int64} {b : Int64} {u : Int32} (r : Rch p l e R s m args below meth c Z y bc ml rt n0 T0 g0 k n h (mkF m pc L (.long b :: .long a :: S))) (hd : decode bc pc = .ok (.lcmp, 1)) (hu : lcmpW a b = u) (hp : pc + 1 = pc') : Rch p l e R s m args below meth c Z y bc ml rt n0 T0 g0 k n h (mkF m pc' L (.int u :: S)) := by
  subst hp hu; exact r.pure fun T locs X eT t z => XS.lcmp X.here r.1.1 rfl (hb r.1.2.1 hd) rfl z
theorem Rch.idiv {a : Int32} {b : Int32} {u : Int32} (r : Rch p l e R s m args below meth c Z y bc ml rt n0 T0 g0 k n h (mkF m pc L (.int b :: .int a :: S))) (hd : decode bc pc = .ok (.idiv, 1)) (h0 : b ≠ 0) (hu : a / b = u) (hp : pc + 1 = pc') : Rch p l e R s m args below meth c Z y bc ml rt n0 T0 g0 k n h (mkF m pc' L (.int u :: S)) := by
  subst hp hu; exact r.pure fun T locs X eT t z => XS.idiv X.here r.1.1 rfl (hb r.1.2.1 hd) rfl h0 z
theorem Rch.irem {a : Int32} {b : Int32} {u : Int32} (r : Rch p l e R s m args below meth c Z y bc ml rt n0 T0 g0 k n h (mkF m pc L (.int b :: .int a :: S))) (hd : decode bc pc = .ok (.irem, 1)) (h0 : b ≠ 0) (hu : a % b = u) (hp : pc + 1 = pc') : Rch p l e R s m args below meth c Z y bc ml rt n0 T0 g0 k n h (mkF m pc' L (.int u :: S)) := by
  subst hp hu; exact r.pure fun T locs X eT t z => iremM X r.1.1 rfl (hb r.1.2.1 hd) rfl h0 z
theorem Rch.ineg {a : Int32} {u : Int32} (r : Rch p l e R s m args below meth c Z y bc ml rt n0 T0 g0 k n h (mkF m pc L (.int a :: S))) (hd : decode bc pc = .ok (.ineg, 1)) (hu : -a = u) (hp : pc + 1 = pc') : Rch p l e R s m args below meth c Z y bc ml rt n0 T0 g0 k n h (mkF m pc' L (.int u :: S)) := by
  subst hp hu; exact r.pure fun T locs X eT t z => XS.ineg X.here r.1.1 rfl (hb r.1.2.1 hd) rfl z
theorem Rch.lneg {a : Int64} {u : Int64} (r : Rch p l e R s m args below meth c Z y bc ml rt n0 T0 g0 k n h (mkF m pc L (.long a :: S))) (hd : decode bc pc = .ok (.lneg, 1)) (hu : -a = u) (hp : pc + 1 = pc') : Rch p l e R s m args below meth c Z y bc ml rt n0 T0 g0 k n h (mkF m pc' L (.long u :: S)) := by
  subst hp hu; exact r.pure fun T locs X eT t z => XS.lneg X.here r.1.1 rfl (hb r.1.2.1 hd) rfl z
theorem Rch.i2l {a : Int32} {u : Int64} (r : Rch p l e R s m args below meth c Z y bc ml rt n0 T0 g0 k n h (mkF m pc L (.int a :: S))) (hd : decode bc pc = .ok (.i2l, 1)) (hu : a.toInt64 = u) (hp : pc + 1 = pc') : Rch p l e R s m args below meth c Z y bc ml rt n0 T0 g0 k n h (mkF m pc' L (.long u :: S)) := by
  subst hp hu; exact r.pure fun T locs X eT t z => XS.i2l X.here r.1.1 rfl (hb r.1.2.1 hd) rfl z
theorem Rch.l2i {a : Int64} {u : Int32} (r : Rch p l e R s m args below meth c Z y bc ml rt n0 T0 g0 k n h (mkF m pc L (.long a :: S))) (hd : decode bc pc = .ok (.l2i, 1)) (hu : a.toInt32 = u) (hp : pc + 1 = pc') : Rch p l e R s m args below meth c Z y bc ml rt n0 T0 g0 k n h (mkF m pc' L (.int u :: S)) := by
  subst hp hu; exact r.pure fun T locs X eT t z => XS.l2i X.here r.1.1 rfl (hb r.1.2.1 hd) rfl z
theorem Rch.i2b {a : Int32} {u : Int32} (r : Rch p l e R s m args below meth c Z y bc ml rt n0 T0 g0 k n h (mkF m pc L (.int a :: S))) (hd : decode bc pc = .ok (.i2b, 1)) (hu : a.toInt8.toInt32 = u) (hp : pc + 1 = pc') : Rch p l e R s m args below meth c Z y bc ml rt n0 T0 g0 k n h (mkF m pc' L (.int u :: S)) := by
  subst hp hu; exact r.pure fun T locs X eT t z => XS.i2b X.here r.1.1 rfl (hb r.1.2.1 hd) rfl z
theorem Rch.i2s {a : Int32} {u : Int32} (r : Rch p l e R s m args below meth c Z y bc ml rt n0 T0 g0 k n h (mkF m pc L (.int a :: S))) (hd : decode bc pc = .ok (.i2s, 1)) (hu : a.toInt16.toInt32 = u) (hp : pc + 1 = pc') : Rch p l e R s m args below meth c Z y bc ml rt n0 T0 g0 k n h (mkF m pc' L (.int u :: S)) := by
  subst hp hu; exact r.pure fun T locs X eT t z => XS.i2s X.here r.1.1 rfl (hb r.1.2.1 hd) rfl z
theorem Rch.i2c {a : Int32} {u : Int32} (r : Rch p l e R s m args below meth c Z y bc ml rt n0 T0 g0 k n h (mkF m pc L (.int a :: S))) (hd : decode bc pc = .ok (.i2c, 1)) (hu : a.toUInt32.toUInt16.toUInt32.toInt32 = u) (hp : pc + 1 = pc') : Rch p l e R s m args below meth c Z y bc ml rt n0 T0 g0 k n h (mkF m pc' L (.int u :: S)) := by
  subst hp hu; exact r.pure fun T locs X eT t z => XS.i2c X.here r.1.1 rfl (hb r.1.2.1 hd) rfl z
theorem Rch.lshl {a : Int64} {b : Int32} {u : Int64} (r : Rch p l e R s m args below meth c Z y bc ml rt n0 T0 g0 k n h (mkF m pc L (.int b :: .long a :: S))) (hd : decode bc pc = .ok (.lshl, 1)) (hu : a <<< (b &&& 0x3f).toInt64 = u) (hp : pc + 1 = pc') : Rch p l e R s m args below meth c Z y bc ml rt n0 T0 g0 k n h (mkF m pc' L (.long u :: S)) := by
  subst hp hu; exact r.pure fun T locs X eT t z => XS.lshl X.here r.1.1 rfl (hb r.1.2.1 hd) rfl z
theorem Rch.lshr {a : Int64} {b : Int32} {u : Int64} (r : Rch p l e R s m args below meth c Z y bc ml rt n0 T0 g0 k n h (mkF m pc L (.int b :: .long a :: S))) (hd : decode bc pc = .ok (.lshr, 1)) (hu : a >>> (b &&& 0x3f).toInt64 = u) (hp : pc + 1 = pc') : Rch p l e R s m args below meth c Z y bc ml rt n0 T0 g0 k n h (mkF m pc' L (.long u :: S)) := by
  subst hp hu; exact r.pure fun T locs X eT t z => XS.lshr X.here r.1.1 rfl (hb r.1.2.1 hd) rfl z
theorem Rch.lushr {a : Int64} {b : Int32} {u : Int64} (r : Rch p l e R s m args below meth c Z y bc ml rt n0 T0 g0 k n h (mkF m pc L (.int b :: .long a :: S))) (hd : decode bc pc = .ok (.lushr, 1)) (hu : (a.toUInt64 >>> (b &&& 0x3f).toInt64.toUInt64).toInt64 = u) (hp : pc + 1 = pc') : Rch p l e R s m args below meth c Z y bc ml rt n0 T0 g0 k n h (mkF m pc' L (.long u :: S)) := by
  subst hp hu; exact r.pure fun T locs X eT t z => XS.lushr X.here r.1.1 rfl (hb r.1.2.1 hd) rfl z
theorem Rch.dup {v : Value} (r : Rch p l e R s m args below meth c Z y bc ml rt n0 T0 g0 k n h (mkF m pc L (v :: S))) (hd : decode bc pc = .ok (.dup, 1)) (hv : v.category = 1) (hp : pc + 1 = pc') : Rch p l e R s m args below meth c Z y bc ml rt n0 T0 g0 k n h (mkF m pc' L (v :: v :: S)) := by
  subst hp; exact r.pure fun T locs X eT t z => XS.dup X.here r.1.1 rfl (hb r.1.2.1 hd) rfl hv z
theorem Rch.dupx1 {v w : Value} (r : Rch p l e R s m args below meth c Z y bc ml rt n0 T0 g0 k n h (mkF m pc L (v :: w :: S))) (hd : decode bc pc = .ok (.dup_x1, 1)) (hv : v.category = 1) (hw : w.category = 1) (hp : pc + 1 = pc') : Rch p l e R s m args below meth c Z y bc ml rt n0 T0 g0 k n h (mkF m pc' L (v :: w :: v :: S)) := by
  subst hp; exact r.pure fun T locs X eT t z => XS.dupX1 X.here r.1.1 rfl (hb r.1.2.1 hd) rfl hv hw z
theorem Rch.dup2 {v w : Value} (r : Rch p l e R s m args below meth c Z y bc ml rt n0 T0 g0 k n h (mkF m pc L (v :: w :: S))) (hd : decode bc pc = .ok (.dup2, 1)) (hv : v.category = 1) (hw : w.category = 1) (hp : pc + 1 = pc') : Rch p l e R s m args below meth c Z y bc ml rt n0 T0 g0 k n h (mkF m pc' L (v :: w :: v :: w :: S)) := by
  subst hp
  refine r.pure fun T locs X eT t z => ?_
  have hx := r.1.1
  have hd' := hb r.1.2.1 hd
  jvm_step X.here [X.here.top, hx, hd', hv, hw]
  exact z
theorem Rch.dupx2 {v w u : Value} (r : Rch p l e R s m args below meth c Z y bc ml rt n0 T0 g0 k n h (mkF m pc L (v :: w :: u :: S))) (hd : decode bc pc = .ok (.dup_x2, 1)) (hv : v.category = 1) (hw : w.category = 1) (hu : u.category = 1) (hp : pc + 1 = pc') : Rch p l e R s m args below meth c Z y bc ml rt n0 T0 g0 k n h (mkF m pc' L (v :: w :: u :: v :: S)) := by
  subst hp
  refine r.pure fun T locs X eT t z => ?_
  have hx := r.1.1
  have hd' := hb r.1.2.1 hd
  jvm_step X.here [X.here.top, hx, hd', hv, hw, hu]
  exact z
theorem Rch.pop {v : Value} (r : Rch p l e R s m args below meth c Z y bc ml rt n0 T0 g0 k n h (mkF m pc L (v :: S))) (hd : decode bc pc = .ok (.pop, 1)) (hv : v.category = 1) (hp : pc + 1 = pc') : Rch p l e R s m args below meth c Z y bc ml rt n0 T0 g0 k n h (mkF m pc' L S) := by
  subst hp; exact r.pure fun T locs X eT t z => XS.pop X.here r.1.1 rfl (hb r.1.2.1 hd) rfl hv z
-- branches
theorem Rch.goto {o : Int} (r : Rch p l e R s m args below meth c Z y bc ml rt n0 T0 g0 k n h (mkF m pc L S)) (hd : decode bc pc = .ok (.goto o, 3)) (ho : 0 ≤ (pc : Int) + o) (hp : ((pc : Int) + o).toNat = pc') : Rch p l e R s m args below meth c Z y bc ml rt n0 T0 g0 k n h (mkF m pc' L S) :=
  r.pure fun T locs X eT t z => XS.goto X.here r.1.1 rfl (pc0 := pc) rfl (hb r.1.2.1 hd) ho hp z
theorem Rch.icT {cd : ClassFile.Cond} {x w : Int32} {o : Int} (r : Rch p l e R s m args below meth c Z y bc ml rt n0 T0 g0 k n h (mkF m pc L (.int w :: .int x :: S))) (hd : decode bc pc = .ok (.if_icmp cd o, 3)) (hc : if_icmp.holds cd x w = true) (ho : 0 ≤ (pc : Int) + o) (hp : ((pc : Int) + o).toNat = pc') : Rch p l e R s m args below meth c Z y bc ml rt n0 T0 g0 k n h (mkF m pc' L S) :=
  r.pure fun T locs X eT t z => XS.icmpYes X.here r.1.1 rfl (pc0 := pc) rfl (hb r.1.2.1 hd) rfl hc ho hp z
theorem Rch.icF {cd : ClassFile.Cond} {x w : Int32} {o : Int} (r : Rch p l e R s m args below meth c Z y bc ml rt n0 T0 g0 k n h (mkF m pc L (.int w :: .int x :: S))) (hd : decode bc pc = .ok (.if_icmp cd o, 3)) (hc : if_icmp.holds cd x w = false) (hp : pc + 3 = pc') : Rch p l e R s m args below meth c Z y bc ml rt n0 T0 g0 k n h (mkF m pc' L S) := by
  subst hp; exact r.pure fun T locs X eT t z => XS.icmpNo X.here r.1.1 rfl (hb r.1.2.1 hd) rfl hc z
theorem Rch.ifT {cd : ClassFile.Cond} {x : Int32} {o : Int} (r : Rch p l e R s m args below meth c Z y bc ml rt n0 T0 g0 k n h (mkF m pc L (.int x :: S))) (hd : decode bc pc = .ok (.ifCond cd o, 3)) (hc : if_icmp.holds cd x 0 = true) (ho : 0 ≤ (pc : Int) + o) (hp : ((pc : Int) + o).toNat = pc') : Rch p l e R s m args below meth c Z y bc ml rt n0 T0 g0 k n h (mkF m pc' L S) :=
  r.pure fun T locs X eT t z => XS.ifYes X.here r.1.1 rfl (pc0 := pc) rfl (hb r.1.2.1 hd) rfl ((if0 _ _).trans hc) ho hp z
theorem Rch.ifF {cd : ClassFile.Cond} {x : Int32} {o : Int} (r : Rch p l e R s m args below meth c Z y bc ml rt n0 T0 g0 k n h (mkF m pc L (.int x :: S))) (hd : decode bc pc = .ok (.ifCond cd o, 3)) (hc : if_icmp.holds cd x 0 = false) (hp : pc + 3 = pc') : Rch p l e R s m args below meth c Z y bc ml rt n0 T0 g0 k n h (mkF m pc' L S) := by
  subst hp; exact r.pure fun T locs X eT t z => XS.ifNo X.here r.1.1 rfl (hb r.1.2.1 hd) rfl ((if0 _ _).trans hc) z
theorem Rch.acmp {cd : ACond} {v w : Value} {o : Int} {same : Bool} (r : Rch p l e R s m args below meth c Z y bc ml rt n0 T0 g0 k n h (mkF m pc L (w :: v :: S))) (hd : decode bc pc = .ok (.if_acmp cd o, 3)) (hv : v.isRef = true) (hw : w.isRef = true) (hq : decide (v = w) = same) (ho : 0 ≤ (pc : Int) + o) (hp : pc' = if acV cd same = true then ((pc : Int) + o).toNat else pc + 3) : Rch p l e R s m args below meth c Z y bc ml rt n0 T0 g0 k n h (mkF m pc' L S) :=
  r.pure fun T locs X eT t z => Jvm.RoadKit.acmp X r.1.1 rfl hv hw (pc0 := pc) rfl (hb r.1.2.1 hd) rfl hq ho hp z
theorem Rch.nullT {o : Int} (r : Rch p l e R s m args below meth c Z y bc ml rt n0 T0 g0 k n h (mkF m pc L (.null :: S))) (hd : decode bc pc = .ok (.ifnull o, 3)) (ho : 0 ≤ (pc : Int) + o) (hp : ((pc : Int) + o).toNat = pc') : Rch p l e R s m args below meth c Z y bc ml rt n0 T0 g0 k n h (mkF m pc' L S) :=
  r.pure fun T locs X eT t z => XS.ifnullYes X.here r.1.1 rfl (pc0 := pc) rfl (hb r.1.2.1 hd) rfl ho hp z
theorem Rch.nullF {a : Addr} {o : Int} (r : Rch p l e R s m args below meth c Z y bc ml rt n0 T0 g0 k n h (mkF m pc L (.ref a :: S))) (hd : decode bc pc = .ok (.ifnull o, 3)) (hp : pc + 3 = pc') : Rch p l e R s m args below meth c Z y bc ml rt n0 T0 g0 k n h (mkF m pc' L S) := by
  subst hp; exact r.pure fun T locs X eT t z => XS.ifnullNo X.here r.1.1 rfl (hb r.1.2.1 hd) rfl z
theorem Rch.nnT {a : Addr} {o : Int} (r : Rch p l e R s m args below meth c Z y bc ml rt n0 T0 g0 k n h (mkF m pc L (.ref a :: S))) (hd : decode bc pc = .ok (.ifnonnull o, 3)) (ho : 0 ≤ (pc : Int) + o) (hp : ((pc : Int) + o).toNat = pc') : Rch p l e R s m args below meth c Z y bc ml rt n0 T0 g0 k n h (mkF m pc' L S) :=
  r.pure fun T locs X eT t z => XS.ifnonnullYes X.here r.1.1 rfl (pc0 := pc) rfl (hb r.1.2.1 hd) rfl ho hp z
theorem Rch.nnF {o : Int} (r : Rch p l e R s m args below meth c Z y bc ml rt n0 T0 g0 k n h (mkF m pc L (.null :: S))) (hd : decode bc pc = .ok (.ifnonnull o, 3)) (hp : pc + 3 = pc') : Rch p l e R s m args below meth c Z y bc ml rt n0 T0 g0 k n h (mkF m pc' L S) := by
  subst hp; exact r.pure fun T locs X eT t z => XS.ifnonnullNo X.here r.1.1 rfl (hb r.1.2.1 hd) rfl z
-- fields
theorem Rch.getF {R0 O nm d host : String} {idx : Nat} {a : Addr} {v : Value} (r : Rch p l e R s m args below meth c Z y bc ml rt n0 T0 g0 k n h (mkF m pc L (.ref a :: S))) (hd : decode bc pc = .ok (.getfield idx, 3)) (w : (Jvm.Cond.fieldLink y.cls idx R0 nm d).before a0 Z = true ∨ (Jvm.Cond.fieldLinkNest y.cls idx R0 nm d host).before a0 Z = true) (via : Via Z R0 O nm d) (F : Fld Z h a O nm d v) (hp : pc + 3 = pc') :
    Rch p l e R s m args below meth c Z y bc ml rt n0 T0 g0 k n h (mkF m pc' L (v :: S)) := by
  subst hp; exact r.keep fun T locs X eT => getF X r.1.1 r.1.2.2.2.2.1 r.1.2.2.2.1 w via eT F (g := mkF m pc L (.ref a :: S)) rfl rfl (hb r.1.2.1 hd)
theorem Rch.getS {R0 O nm d host : String} {idx : Nat} {v : Value} (r : Rch p l e R s m args below meth c Z y bc ml rt n0 T0 g0 k n h (mkF m pc L S)) (hd : decode bc pc = .ok (.getstatic idx, 3)) (w : (Jvm.Cond.fieldLink y.cls idx R0 nm d).before a0 Z = true ∨ (Jvm.Cond.fieldLinkNest y.cls idx R0 nm d host).before a0 Z = true) (via : Via Z R0 O nm d) (F : Sta Z h O nm d v) (hp : pc + 3 = pc') :
    Rch p l e R s m args below meth c Z y bc ml rt n0 T0 g0 k n h (mkF m pc' L (v :: S)) := by
  subst hp; exact r.keep fun T locs X eT => getS2 X r.1.1 r.1.2.2.2.2.1 r.1.2.2.2.1 w via eT F (g := mkF m pc L S) rfl (hb r.1.2.1 hd)
theorem Rch.putF {R0 O nm d host C : String} {idx kk : Nat} {ty : FieldType} {a : Addr} {v old : Value} (r : Rch p l e R s m args below meth c Z y bc ml rt n0 T0 g0 k n h (mkF m pc L (v :: .ref a :: S))) (hd : decode bc pc = .ok (.putfield idx, 3)) (w : (Jvm.Cond.fieldLink y.cls idx R0 nm d).before a0 Z = true ∨ (Jvm.Cond.fieldLinkNest y.cls idx R0 nm d host).before a0 Z = true) (via : Via Z R0 O nm d) (F : Fld Z h a O nm d old) (E : Exa Z h a C)
    (lw : (Jvm.Cond.lays C O nm d).before a0 Z = true ∨ ((Jvm.Cond.laysFinal C O nm d).before a0 Z = true ∧ y.cls = O ∧ y.name = "<init>")) (wi : (Jvm.Cond.instantiable C kk).before a0 Z = true) (hty : parseFieldDescriptor d = some ty) (hn : narrow ty v = v) (hf : fits ty v = true) (hN : n0 ≤ a) (hp : pc + 3 = pc') :
    ∃ h', Wr h h' a (Jvm.RoadKit.slotOf Z O nm d) v ∧ Rch p l e R s m args below meth c Z y bc ml rt n0 T0 g0 k n h' (mkF m pc' L S) := by
  subst hp
  obtain ⟨q, T, locs, X, eT, N, st⟩ := r
  obtain ⟨T', h', X', e', W, st'⟩ := putF X q.1 q.2.2.2.2.1 q.2.2.2.1 w via eT F E (lw.imp id fun z => ⟨z.1, z.2.1, q.2.2.2.2.2.2.2.trans z.2.2⟩) wi hty hn hf (g := mkF m pc L (v :: .ref a :: S)) rfl rfl (hb q.2.1 hd)
  exact ⟨h', W, q, T', _, X', e', Fr.snoc X' N hN, fun t z => st t (st' t z)⟩
theorem Rch.putFN {R0 O nm d C : String} {idx kk : Nat} {ty : FieldType} {a : Addr} {v v' old : Value} (r : Rch p l e R s m args below meth c Z y bc ml rt n0 T0 g0 k n h (mkF m pc L (v :: .ref a :: S))) (hd : decode bc pc = .ok (.putfield idx, 3)) (w : (Jvm.Cond.fieldLink y.cls idx R0 nm d).before a0 Z = true) (via : Via Z R0 O nm d) (F : Fld Z h a O nm d old) (E : Exa Z h a C)
    (lw : (Jvm.Cond.lays C O nm d).before a0 Z = true ∨ ((Jvm.Cond.laysFinal C O nm d).before a0 Z = true ∧ y.cls = O ∧ y.name = "<init>")) (wi : (Jvm.Cond.instantiable C kk).before a0 Z = true) (hty : parseFieldDescriptor d = some ty) (hn : narrow ty v = v') (hf : fits ty v' = true) (hN : n0 ≤ a) (hp : pc + 3 = pc') :
    ∃ h', Wr h h' a (Jvm.RoadKit.slotOf Z O nm d) v' ∧ Rch p l e R s m args below meth c Z y bc ml rt n0 T0 g0 k n h' (mkF m pc' L S) := by
  subst hp
  obtain ⟨q, T, locs, X, eT, N, st⟩ := r
  obtain ⟨T', h', X', e', W, st'⟩ := putFN X q.1 q.2.2.2.2.1 q.2.2.2.1 w via eT F E (lw.imp id fun z => ⟨z.1, z.2.1, q.2.2.2.2.2.2.2.trans z.2.2⟩) wi hty hn hf (g := mkF m pc L (v :: .ref a :: S)) rfl rfl (hb q.2.1 hd)
  exact ⟨h', W, q, T', _, X', e', Fr.snoc X' N hN, fun t z => st t (st' t z)⟩
-- objects and arrays
theorem Rch.newO {C : String} {idx i : Nat} (r : Rch p l e R s m args below meth c Z y bc ml rt n0 T0 g0 k n h (mkF m pc L S)) (hd : decode bc pc = .ok (.new idx, 3)) (w : (Jvm.Cond.classLink y.cls idx C).before a0 Z = true) (wi : (Jvm.Cond.instantiable C i).before a0 Z = true) (wz : (Jvm.Cond.initialized C).before a0 Z = true) {k' n' : Nat} (hk : k + 1 = k') (hn' : n + i = n') (hc : k' ≤ R.cells) (hl : n' ≤ R.slots) (hp : pc + 3 = pc') :
    ∃ h' a, a = h.size ∧ Ext h h' ∧ Exa Z h' a C ∧ (∀ {O nm d : String} {ty : FieldType}, Laid Z a0 C O nm d → parseFieldDescriptor d = some ty → Fld Z h' a O nm d (defaultValue ty)) ∧ Rch p l e R s m args below meth c Z y bc ml rt n0 T0 g0 k' n' h' (mkF m pc' L (.ref a :: S)) := by
  subst hp hk hn'
  obtain ⟨q, T, locs, X, eT, N, st⟩ := r
  obtain ⟨T', h', X', e', E, A, D, -, st'⟩ := newO X q.1 q.2.2.2.2.1 q.2.2.2.1 w wi wz eT (g := mkF m pc L S) rfl (hb q.2.1 hd) hc hl
  exact ⟨h', h.size, rfl, E, A, D, q, T', locs, X', e', N, fun t z => st t (st' t z)⟩
theorem Rch.newP {aty : ArrayType} {i : Int32} (r : Rch p l e R s m args below meth c Z y bc ml rt n0 T0 g0 k n h (mkF m pc L (.int i :: S))) (hd : decode bc pc = .ok (.newarray aty, 2)) (w : (Jvm.Cond.arrayClass (newarray.typeOf aty)).before a0 Z = true) (hn : ¬ i < 0) {cap : Nat} (hcap : i.toNatClampNeg ≤ cap) (hbg : cap * 8 ≤ 536870912) {k' n' : Nat} (hk : k + 1 = k') (hn' : n + cap = n') (hc : k' ≤ R.cells) (hl : n' ≤ R.slots) (hp : pc + 2 = pc') :
    ∃ h' a cA, a = h.size ∧ Ext h h' ∧ Arv Z h' a cA (newarray.typeOf aty) i [] (defaultValue (newarray.typeOf aty)) ∧ Rch p l e R s m args below meth c Z y bc ml rt n0 T0 g0 k' n' h' (mkF m pc' L (.ref a :: S)) := by
  subst hp hk hn'
  obtain ⟨q, T, locs, X, eT, N, st⟩ := r
  obtain ⟨T', h', cA, X', e', E, A, st'⟩ := newP X q.1 q.2.2.2.2.1 w eT (g := mkF m pc L (.int i :: S)) rfl (hb q.2.1 hd) rfl hn hcap hbg hc hl
  exact ⟨h', h.size, cA, rfl, E, Arv.new A hn, q, T', locs, X', e', N, fun t z => st t (st' t z)⟩
theorem Rch.newR {C : String} {idx : Nat} {i : Int32} (r : Rch p l e R s m args below meth c Z y bc ml rt n0 T0 g0 k n h (mkF m pc L (.int i :: S))) (hd : decode bc pc = .ok (.anewarray idx, 3)) (w1 : (Jvm.Cond.classLink y.cls idx C).before a0 Z = true) (w2 : (Jvm.Cond.arrayOver (.object C)).before a0 Z = true) (hn : ¬ i < 0) {cap : Nat} (hcap : i.toNatClampNeg ≤ cap) (hbg : cap * 8 ≤ 536870912) {k' n' : Nat} (hk : k + 1 = k') (hn' : n + cap = n') (hc : k' ≤ R.cells) (hl : n' ≤ R.slots) (hp : pc + 3 = pc') :
    ∃ h' a cA, a = h.size ∧ Ext h h' ∧ Ovr Z cA C ∧ Arv Z h' a cA (.object C) i [] .null ∧ Rch p l e R s m args below meth c Z y bc ml rt n0 T0 g0 k' n' h' (mkF m pc' L (.ref a :: S)) := by
  subst hp hk hn'
  obtain ⟨q, T, locs, X, eT, N, st⟩ := r
  obtain ⟨T', h', cA, X', e', E, A, O, st'⟩ := newR X q.1 q.2.2.2.2.1 q.2.2.2.1 w1 w2 eT (g := mkF m pc L (.int i :: S)) rfl (hb q.2.1 hd) rfl hn hcap hbg hc hl
  exact ⟨h', h.size, cA, rfl, E, O, Arv.new A hn, q, T', locs, X', e', N, fun t z => st t (st' t z)⟩
theorem inbI {c : Cell} {z j : Int32} (S : c.slots.size = z.toNatClampNeg) (h1 : ¬ j < 0) (h2 : j < z) : ¬ (j < 0 ∨ c.slots.size ≤ j.toNatClampNeg) := inb_of S ⟨h1, h2⟩
theorem Rch.stI {a : Addr} {kc : ClassId} {z j : Int32} {x : Int32} {vs : List Value} {dv : Value} (r : Rch p l e R s m args below meth c Z y bc ml rt n0 T0 g0 k n h (mkF m pc L (.int x :: .int j :: .ref a :: S))) (hd : decode bc pc = .ok (.iastore, 1)) (V : Arv Z h a kc .int z vs dv) (h1 : ¬ j < 0) (h2 : j < z) (h3 : j.toNatClampNeg < vs.length) (hN : n0 ≤ a) (hp : pc + 1 = pc') :
    ∃ h', Wr h h' a j.toNatClampNeg (.int x) ∧ Arv Z h' a kc .int z (vs.set j.toNatClampNeg (.int x)) dv ∧ Rch p l e R s m args below meth c Z y bc ml rt n0 T0 g0 k n h' (mkF m pc' L S) := by
  subst hp
  obtain ⟨q, T, locs, X, eT, N, st⟩ := r
  obtain ⟨cl, A, q1, S1, q3, H, G⟩ := V
  obtain ⟨T', h', X', e', W, st'⟩ := stI X q.1 q.2.2.2.2.1 eT A (j := j) (inbI S1 h1 h2) (g := mkF m pc L (.int x :: .int j :: .ref a :: S)) rfl rfl (hb q.2.1 hd)
  exact ⟨h', W, Arv.set A q1 S1 q3 H G rfl W _ rfl h3, q, T', _, X', e', Fr.snoc X' N hN, fun t z => st t (st' t z)⟩
theorem Rch.stB {a : Addr} {kc : ClassId} {z j : Int32} {x : Int32} {vs : List Value} {dv : Value} (r : Rch p l e R s m args below meth c Z y bc ml rt n0 T0 g0 k n h (mkF m pc L (.int x :: .int j :: .ref a :: S))) (hd : decode bc pc = .ok (.bastore, 1)) (V : Arv Z h a kc .byte z vs dv) (h1 : ¬ j < 0) (h2 : j < z) (h3 : j.toNatClampNeg < vs.length) (hN : n0 ≤ a) (hp : pc + 1 = pc') :
    ∃ h', Wr h h' a j.toNatClampNeg (.int (nar .byte x)) ∧ Arv Z h' a kc .byte z (vs.set j.toNatClampNeg (.int (nar .byte x))) dv ∧ Rch p l e R s m args below meth c Z y bc ml rt n0 T0 g0 k n h' (mkF m pc' L S) := by
  subst hp
  obtain ⟨q, T, locs, X, eT, N, st⟩ := r
  obtain ⟨cl, A, q1, S1, q3, H, G⟩ := V
  obtain ⟨T', h', X', e', W, st'⟩ := stB X q.1 q.2.2.2.2.1 eT A (j := j) (inbI S1 h1 h2) (g := mkF m pc L (.int x :: .int j :: .ref a :: S)) rfl rfl (hb q.2.1 hd)
  exact ⟨h', W, Arv.set A q1 S1 q3 H G (fits_nar_byte _) W _ rfl h3, q, T', _, X', e', Fr.snoc X' N hN, fun t z => st t (st' t z)⟩
theorem Rch.stC {a : Addr} {kc : ClassId} {z j : Int32} {x : Int32} {vs : List Value} {dv : Value} (r : Rch p l e R s m args below meth c Z y bc ml rt n0 T0 g0 k n h (mkF m pc L (.int x :: .int j :: .ref a :: S))) (hd : decode bc pc = .ok (.castore, 1)) (V : Arv Z h a kc .char z vs dv) (h1 : ¬ j < 0) (h2 : j < z) (h3 : j.toNatClampNeg < vs.length) (hN : n0 ≤ a) (hp : pc + 1 = pc') :
    ∃ h', Wr h h' a j.toNatClampNeg (.int (nar .char x)) ∧ Arv Z h' a kc .char z (vs.set j.toNatClampNeg (.int (nar .char x))) dv ∧ Rch p l e R s m args below meth c Z y bc ml rt n0 T0 g0 k n h' (mkF m pc' L S) := by
  subst hp
  obtain ⟨q, T, locs, X, eT, N, st⟩ := r
  obtain ⟨cl, A, q1, S1, q3, H, G⟩ := V
  obtain ⟨T', h', X', e', W, st'⟩ := stC X q.1 q.2.2.2.2.1 eT A (j := j) (inbI S1 h1 h2) (g := mkF m pc L (.int x :: .int j :: .ref a :: S)) rfl rfl (hb q.2.1 hd)
  exact ⟨h', W, Arv.set A q1 S1 q3 H G (fits_nar_char _) W _ rfl h3, q, T', _, X', e', Fr.snoc X' N hN, fun t z => st t (st' t z)⟩
theorem Rch.stZ {a : Addr} {kc : ClassId} {z j : Int32} {x : Int32} {vs : List Value} {dv : Value} (r : Rch p l e R s m args below meth c Z y bc ml rt n0 T0 g0 k n h (mkF m pc L (.int x :: .int j :: .ref a :: S))) (hd : decode bc pc = .ok (.bastore, 1)) (V : Arv Z h a kc .boolean z vs dv) (h1 : ¬ j < 0) (h2 : j < z) (h3 : j.toNatClampNeg < vs.length) (hN : n0 ≤ a) (hp : pc + 1 = pc') :
    ∃ h', Wr h h' a j.toNatClampNeg (.int (nar .boolean x)) ∧ Arv Z h' a kc .boolean z (vs.set j.toNatClampNeg (.int (nar .boolean x))) dv ∧ Rch p l e R s m args below meth c Z y bc ml rt n0 T0 g0 k n h' (mkF m pc' L S) := by
  subst hp
  obtain ⟨q, T, locs, X, eT, N, st⟩ := r
  obtain ⟨cl, A, q1, S1, q3, H, G⟩ := V
  obtain ⟨T', h', X', e', W, st'⟩ := stZ X q.1 q.2.2.2.2.1 eT A (j := j) (inbI S1 h1 h2) (g := mkF m pc L (.int x :: .int j :: .ref a :: S)) rfl rfl (hb q.2.1 hd)
  exact ⟨h', W, Arv.set A q1 S1 q3 H G (fits_nar_bool _) W _ rfl h3, q, T', _, X', e', Fr.snoc X' N hN, fun t z => st t (st' t z)⟩
theorem Rch.stJ {a : Addr} {kc : ClassId} {z j : Int32} {x : Int64} {vs : List Value} {dv : Value} (r : Rch p l e R s m args below meth c Z y bc ml rt n0 T0 g0 k n h (mkF m pc L (.long x :: .int j :: .ref a :: S))) (hd : decode bc pc = .ok (.lastore, 1)) (V : Arv Z h a kc .long z vs dv) (h1 : ¬ j < 0) (h2 : j < z) (h3 : j.toNatClampNeg < vs.length) (hN : n0 ≤ a) (hp : pc + 1 = pc') :
    ∃ h', Wr h h' a j.toNatClampNeg (.long x) ∧ Arv Z h' a kc .long z (vs.set j.toNatClampNeg (.long x)) dv ∧ Rch p l e R s m args below meth c Z y bc ml rt n0 T0 g0 k n h' (mkF m pc' L S) := by
  subst hp
  obtain ⟨q, T, locs, X, eT, N, st⟩ := r
  obtain ⟨cl, A, q1, S1, q3, H, G⟩ := V
  obtain ⟨T', h', X', e', W, st'⟩ := stJ X q.1 q.2.2.2.2.1 eT A (j := j) (inbI S1 h1 h2) (g := mkF m pc L (.long x :: .int j :: .ref a :: S)) rfl rfl (hb q.2.1 hd)
  exact ⟨h', W, Arv.set A q1 S1 q3 H G rfl W _ rfl h3, q, T', _, X', e', Fr.snoc X' N hN, fun t z => st t (st' t z)⟩
theorem Rch.stR {C : String} {a : Addr} {kc : ClassId} {z j : Int32} {v : Value} {vs : List Value} {dv : Value} (r : Rch p l e R s m args below meth c Z y bc ml rt n0 T0 g0 k n h (mkF m pc L (v :: .int j :: .ref a :: S))) (hd : decode bc pc = .ok (.aastore, 1)) (V : Arv Z h a kc (.object C) z vs dv) (h1 : ¬ j < 0) (h2 : j < z) (h3 : j.toNatClampNeg < vs.length) (hs : Sto Z h a v) (hv : v.isRef = true) (hN : n0 ≤ a) (hp : pc + 1 = pc') :
    ∃ h', Wr h h' a j.toNatClampNeg v ∧ Arv Z h' a kc (.object C) z (vs.set j.toNatClampNeg v) dv ∧ Rch p l e R s m args below meth c Z y bc ml rt n0 T0 g0 k n h' (mkF m pc' L S) := by
  subst hp
  obtain ⟨q, T, locs, X, eT, N, st⟩ := r
  obtain ⟨cl, A, q1, S1, q3, H, G⟩ := V
  obtain ⟨T', h', X', e', W, st'⟩ := stR X q.1 q.2.2.2.2.1 eT A (j := j) (inbI S1 h1 h2) rfl hs (g := mkF m pc L (v :: .int j :: .ref a :: S)) rfl rfl (hb q.2.1 hd)
  have hf : fits (.object C) v = true := by cases v <;> first | rfl | (cases hv; done)
  exact ⟨h', W, Arv.set A q1 S1 q3 H G hf W _ rfl h3, q, T', _, X', e', Fr.snoc X' N hN, fun t z => st t (st' t z)⟩
theorem Rch.ldI {a : Addr} {kc : ClassId} {z j : Int32} {vs : List Value} {dv : Value} (v : Value) (r : Rch p l e R s m args below meth c Z y bc ml rt n0 T0 g0 k n h (mkF m pc L (.int j :: .ref a :: S))) (hd : decode bc pc = .ok (.iaload, 1)) (V : Arv Z h a kc .int z vs dv) (h1 : ¬ j < 0) (h2 : j < z) (hv : vs.getD j.toNatClampNeg dv = v) (hp : pc + 1 = pc') :
    Rch p l e R s m args below meth c Z y bc ml rt n0 T0 g0 k n h (mkF m pc' L (v :: S)) := by
  subst hp
  obtain ⟨cl, A, q1, S1, q3, H, G⟩ := V
  exact r.pure fun T locs X eT t w => X.iaload r.1.1 (j := j) (v := v) (by rw [eT]; exact A.1) (State.isArrayOf_alike r.1.2.2.2.2.1.alike A.2.1) A.2.2 (inbI S1 h1 h2) (Has.at H (inbI S1 h1 h2) hv) (g := mkF m pc L (.int j :: .ref a :: S)) rfl rfl (hb r.1.2.1 hd) _ w
theorem Rch.ldJ {a : Addr} {kc : ClassId} {z j : Int32} {vs : List Value} {dv : Value} (v : Value) (r : Rch p l e R s m args below meth c Z y bc ml rt n0 T0 g0 k n h (mkF m pc L (.int j :: .ref a :: S))) (hd : decode bc pc = .ok (.laload, 1)) (V : Arv Z h a kc .long z vs dv) (h1 : ¬ j < 0) (h2 : j < z) (hv : vs.getD j.toNatClampNeg dv = v) (hp : pc + 1 = pc') :
    Rch p l e R s m args below meth c Z y bc ml rt n0 T0 g0 k n h (mkF m pc' L (v :: S)) := by
  subst hp
  obtain ⟨cl, A, q1, S1, q3, H, G⟩ := V
  exact r.pure fun T locs X eT t w => X.laload r.1.1 (j := j) (v := v) (by rw [eT]; exact A.1) (State.isArrayOf_alike r.1.2.2.2.2.1.alike A.2.1) A.2.2 (inbI S1 h1 h2) (Has.at H (inbI S1 h1 h2) hv) (g := mkF m pc L (.int j :: .ref a :: S)) rfl rfl (hb r.1.2.1 hd) _ w
theorem Rch.ldB {a : Addr} {kc : ClassId} {z j : Int32} {vs : List Value} {dv : Value} (v : Value) (r : Rch p l e R s m args below meth c Z y bc ml rt n0 T0 g0 k n h (mkF m pc L (.int j :: .ref a :: S))) (hd : decode bc pc = .ok (.baload, 1)) (V : Arv Z h a kc .byte z vs dv) (h1 : ¬ j < 0) (h2 : j < z) (hv : vs.getD j.toNatClampNeg dv = v) (hp : pc + 1 = pc') :
    Rch p l e R s m args below meth c Z y bc ml rt n0 T0 g0 k n h (mkF m pc' L (v :: S)) := by
  subst hp
  obtain ⟨cl, A, q1, S1, q3, H, G⟩ := V
  exact r.pure fun T locs X eT t w => X.baloadBytes r.1.1 (j := j) (v := v) (by rw [eT]; exact A.1) (State.isArrayOf_alike r.1.2.2.2.2.1.alike A.2.1) A.2.2 (inbI S1 h1 h2) (Has.at H (inbI S1 h1 h2) hv) (g := mkF m pc L (.int j :: .ref a :: S)) rfl rfl (hb r.1.2.1 hd) _ w
theorem Rch.ldC {a : Addr} {kc : ClassId} {z j : Int32} {vs : List Value} {dv : Value} (v : Value) (r : Rch p l e R s m args below meth c Z y bc ml rt n0 T0 g0 k n h (mkF m pc L (.int j :: .ref a :: S))) (hd : decode bc pc = .ok (.caload, 1)) (V : Arv Z h a kc .char z vs dv) (h1 : ¬ j < 0) (h2 : j < z) (hv : vs.getD j.toNatClampNeg dv = v) (hp : pc + 1 = pc') :
    Rch p l e R s m args below meth c Z y bc ml rt n0 T0 g0 k n h (mkF m pc' L (v :: S)) := by
  subst hp
  obtain ⟨cl, A, q1, S1, q3, H, G⟩ := V
  exact r.pure fun T locs X eT t w => X.caload r.1.1 (j := j) (v := v) (by rw [eT]; exact A.1) (State.isArrayOf_alike r.1.2.2.2.2.1.alike A.2.1) A.2.2 (inbI S1 h1 h2) (Has.at H (inbI S1 h1 h2) hv) (g := mkF m pc L (.int j :: .ref a :: S)) rfl rfl (hb r.1.2.1 hd) _ w
theorem Rch.ldR {ty : FieldType} {a : Addr} {kc : ClassId} {z j : Int32} {vs : List Value} {dv : Value} (v : Value) (r : Rch p l e R s m args below meth c Z y bc ml rt n0 T0 g0 k n h (mkF m pc L (.int j :: .ref a :: S))) (hd : decode bc pc = .ok (.aaload, 1)) (V : Arv Z h a kc ty z vs dv) (hty : ty.isReference = true) (h1 : ¬ j < 0) (h2 : j < z) (hv : vs.getD j.toNatClampNeg dv = v) (hp : pc + 1 = pc') :
    Rch p l e R s m args below meth c Z y bc ml rt n0 T0 g0 k n h (mkF m pc' L (v :: S)) := by
  subst hp
  obtain ⟨cl, A, q1, S1, q3, H, G⟩ := V
  exact r.pure fun T locs X eT t w => X.aaload r.1.1 (j := j) (v := v) (by rw [eT]; exact A.1) (State.isArrayOf_alike r.1.2.2.2.2.1.alike A.2.1) hty A.2.2 (inbI S1 h1 h2) (Has.at H (inbI S1 h1 h2) hv) (g := mkF m pc L (.int j :: .ref a :: S)) rfl rfl (hb r.1.2.1 hd) _ w
theorem Rch.ldI0 {a : Addr} {kc : ClassId} {z j : Int32} {vs : List Value} {dv : Value} (r : Rch p l e R s m args below meth c Z y bc ml rt n0 T0 g0 k n h (mkF m pc L (.int j :: .ref a :: S))) (hd : decode bc pc = .ok (.iaload, 1)) (V : Arv Z h a kc .int z vs dv) (h1 : ¬ j < 0) (h2 : j < z) (hp : pc + 1 = pc') :
    ∃ x : Int32, vs.getD j.toNatClampNeg dv = .int x ∧ Rch p l e R s m args below meth c Z y bc ml rt n0 T0 g0 k n h (mkF m pc' L (.int x :: S)) := by
  have V0 := V
  obtain ⟨cl, A, q1, S1, q3, H, G⟩ := V0
  have hlt := Nat.lt_of_not_le fun q => inbI S1 h1 h2 (Or.inr q)
  obtain ⟨x, hx⟩ := fit_I (G _ hlt) (Or.inl rfl)
  exact ⟨x, hx, Rch.ldI (.int x) r hd V h1 h2 hx hp⟩
theorem Rch.stI0 {a : Addr} {kc : ClassId} {z j x : Int32} {vs : List Value} {dv : Value} (r : Rch p l e R s m args below meth c Z y bc ml rt n0 T0 g0 k n h (mkF m pc L (.int x :: .int j :: .ref a :: S))) (hd : decode bc pc = .ok (.iastore, 1)) (V : Arv Z h a kc .int z vs dv) (h1 : ¬ j < 0) (h2 : j < z) (hN : n0 ≤ a) (hp : pc + 1 = pc') :
    ∃ h' vs', Wr h h' a j.toNatClampNeg (.int x) ∧ Arv Z h' a kc .int z vs' dv ∧ Rch p l e R s m args below meth c Z y bc ml rt n0 T0 g0 k n h' (mkF m pc' L S) := by
  obtain ⟨h', W, V', r'⟩ := Rch.stI r hd (V.pad (pad_rep vs dv (j.toNatClampNeg + 1))) h1 h2 (by simp; omega) hN hp
  exact ⟨h', _, W, V', r'⟩
theorem Rch.alen {ty : FieldType} {a : Addr} {kc : ClassId} {z : Int32} {vs : List Value} {dv : Value} (r : Rch p l e R s m args below meth c Z y bc ml rt n0 T0 g0 k n h (mkF m pc L (.ref a :: S))) (hd : decode bc pc = .ok (.arraylength, 1)) (V : Arv Z h a kc ty z vs dv) (hp : pc + 1 = pc') :
    Rch p l e R s m args below meth c Z y bc ml rt n0 T0 g0 k n h (mkF m pc' L (.int z :: S)) := by
  subst hp
  obtain ⟨cl, A, -, S1, S2, -, -⟩ := V
  refine r.pure fun T locs X eT t w => X.arraylength r.1.1 (by rw [eT]; exact A.1) (State.isArrayOf_alike r.1.2.2.2.2.1.alike A.2.1) (g := mkF m pc L (.ref a :: S)) rfl rfl (hb r.1.2.1 hd) _ ?_
  rw [len_of S1 S2]
  exact w
-- returns
theorem Rch.retZ {z : Int32} {t : FieldType} (r : Rch p l e R s m args below meth c Z y bc ml rt n0 T0 g0 k n h (mkF m pc L (.int z :: S))) (hd : decode bc pc = .ok (.ireturn, 1)) (hrt : rt = some t) (ht : t = .boolean ∨ t = .byte ∨ t = .char ∨ t = .short) (w : Int32) (hw : nar t z = w) (hk : k ≤ R.cells) (hn : n ≤ R.slots) : Don p l e R s m args below meth c rt n0 T0 g0 (some (.int w)) h := by
  subst hw
  obtain ⟨q, T, locs, X, eT, N, st⟩ := r
  refine ⟨T, locs, k, n, X, hk, hn, eT, N, q.2.2.2.2.2.2.1, (fun z => ?_), fun fs hl => st _ (retN X q.1 (t := t) (q.2.2.2.2.2.1.trans hrt) ht (hb q.2.1 hd) hl)⟩
  rw [q.2.2.2.2.2.1, hrt] at z; cases z
theorem Rch.retI {z : Int32} (r : Rch p l e R s m args below meth c Z y bc ml rt n0 T0 g0 k n h (mkF m pc L (.int z :: S))) (hd : decode bc pc = .ok (.ireturn, 1)) (hrt : rt = some .int) (hk : k ≤ R.cells) (hn : n ≤ R.slots) : Don p l e R s m args below meth c rt n0 T0 g0 (some (.int z)) h := by
  obtain ⟨q, T, locs, X, eT, N, st⟩ := r
  refine ⟨T, locs, k, n, X, hk, hn, eT, N, q.2.2.2.2.2.2.1, (fun z => ?_), fun fs hl => st _ (retOut X q.1 (t := .int) (q.2.2.2.2.2.1.trans hrt) rfl (Or.inl ⟨rfl, Or.inl rfl, _, rfl⟩) (hb q.2.1 hd) hl)⟩
  rw [q.2.2.2.2.2.1, hrt] at z; cases z
theorem Rch.retJ {z : Int64} (r : Rch p l e R s m args below meth c Z y bc ml rt n0 T0 g0 k n h (mkF m pc L (.long z :: S))) (hd : decode bc pc = .ok (.lreturn, 1)) (hrt : rt = some .long) (hk : k ≤ R.cells) (hn : n ≤ R.slots) : Don p l e R s m args below meth c rt n0 T0 g0 (some (.long z)) h := by
  obtain ⟨q, T, locs, X, eT, N, st⟩ := r
  refine ⟨T, locs, k, n, X, hk, hn, eT, N, q.2.2.2.2.2.2.1, (fun z => ?_), fun fs hl => st _ (retOut X q.1 (t := .long) (q.2.2.2.2.2.1.trans hrt) rfl (Or.inr (Or.inl ⟨rfl, rfl, _, rfl⟩)) (hb q.2.1 hd) hl)⟩
  rw [q.2.2.2.2.2.1, hrt] at z; cases z
theorem Rch.retA {v : Value} {t : FieldType} (r : Rch p l e R s m args below meth c Z y bc ml rt n0 T0 g0 k n h (mkF m pc L (v :: S))) (hd : decode bc pc = .ok (.areturn, 1)) (hrt : rt = some t) (ht : t.isReference = true) (hv : v.isRef = true) (hk : k ≤ R.cells) (hn : n ≤ R.slots) : Don p l e R s m args below meth c rt n0 T0 g0 (some v) h := by
  obtain ⟨q, T, locs, X, eT, N, st⟩ := r
  have hnar : narrow t v = v := by cases v <;> first | (cases hv; done) | (cases t <;> rfl)
  refine ⟨T, locs, k, n, X, hk, hn, eT, N, q.2.2.2.2.2.2.1, (fun z => ?_), fun fs hl => st _ (retOut X q.1 (t := t) (q.2.2.2.2.2.1.trans hrt) hnar (Or.inr (Or.inr (Or.inr (Or.inr ⟨rfl, ht, hv⟩)))) (hb q.2.1 hd) hl)⟩
  rw [q.2.2.2.2.2.1, hrt] at z; cases z
theorem Rch.retV (r : Rch p l e R s m args below meth c Z y bc ml rt n0 T0 g0 k n h (mkF m pc L [])) (hd : decode bc pc = .ok (.return_, 1)) (hrt : rt = none) (hk : k ≤ R.cells) (hn : n ≤ R.slots) : Don p l e R s m args below meth c rt n0 T0 g0 none h := by
  obtain ⟨q, T, locs, X, eT, N, st⟩ := r
  exact ⟨T, locs, k, n, X, hk, hn, eT, N, q.2.2.2.2.2.2.1, fun _ => rfl, fun fs hl => st _ (X.returnOut q.1 (q.2.2.2.2.2.1.trans hrt) (hb q.2.1 hd) hl)⟩
-- entering a body
theorem ent {rm : Room} {as : Array Value} {h0 : Heap} {Q : Option Value → Heap → Prop} {L0 : Array Slot} (hpl : plainFor y = true) (hL : ∀ m, entryFrame m as ml = mkF m 0 L0 [])
    (H : ∀ p e s m below meth c T0, Rch p l e rm s m as below meth c Z y bc ml rt n0 T0 (mkF m 0 L0 []) 0 0 h0 (mkF m 0 L0 []) → ∃ v h, Don p l e rm s m as below meth c rt n0 T0 (mkF m 0 L0 []) v h ∧ Q v h) : Ctr l Z y bc ml rt rm as h0 n0 Q := by
  intro ws
  refine MetFree.of_bodySF hpl hisR ?_
  intro p e s m args below meth c s₁ Bd hml0 hP hK
  obtain ⟨rfl, hZ, hh⟩ := hP
  have hown : s.vm.findClass y.cls = some m.cls := findClass_of_methodNamed Bd.named
  have hnm := (name_of_methodNamed Bd.named Bd.method).1
  have X0 : Stand p l e rm s m args below meth c s₁ [] 0 0 := Stand.of_body Bd
  have e0 : s₁.heap = h0 := by rw [← hh, Bd.state]; rfl
  obtain ⟨v, h, ⟨T, locs, k, n, X, hk, hn, eT, N, hlk, hv, st⟩, hq⟩ := H p e s m below meth c s₁ ⟨⟨Bd.exec, Bd.bytes, hml0, hown, hZ, Bd.returns, Bd.notSynchronized, hnm⟩, s₁, [], X0, e0, Fr.nil n0, fun _ z => z⟩
  obtain ⟨fs, hr, hrun, hended, hW, hsame⟩ := X.leave (v := v) hv hlk
  refine ⟨_, _, castTop (hL m) (st fs hr), hrun, hended, v, locs, rfl, ⟨N, ?_⟩, ⟨_, rfl⟩, hW, hsame.mono hk hn⟩
  show Q v T.heap
  rw [eT]; exact hq
-- calls
theorem Rch.callS {z : MethodName} {bc' : ByteArray} {ml' : Nat} {rt' : Option FieldType} {rm : Room} {idx : Nat} {ps : List FieldType} {ro : Option FieldType} {Q : Option Value → Heap → Prop} (argsL : List Value) {rest : List Value} (W : Nat)
    (r : Rch p l e R s m args below meth c Z y bc ml rt n0 T0 g0 k n h (mkF m pc L S)) (hd : decode bc pc = .ok (.invokestatic idx, 3)) (w1 : (Jvm.Cond.methodLink y.cls idx z).before a0 Z = true) (w2 : (Jvm.Cond.static z).before a0 Z = true) (w3 : (Jvm.Cond.initialized z.cls).before a0 Z = true) (w4 : (Jvm.Cond.code z bc' ml' rt').before a0 Z = true)
    (hy : z.cls ≠ "java/lang/invoke/MethodHandle" ∧ z.cls ≠ "java/lang/invoke/VarHandle") (C : Ctr l Z z bc' ml' rt' rm argsL.toArray h n0 Q) (pd : parseMethodDescriptor z.desc = some ⟨ps, ro⟩) (hlen : argsL.length = ps.length) (hS : S = argsL.reverse ++ rest) (hml : L.size = ml)
    (hW : (rest.map fun v => v.category).sum ≤ W) (hf : rm.frames + 1 ≤ R.frames) (hlo : W + (ml' + 11) + rm.locals ≤ R.locals) {k' n' : Nat} (hk : k + rm.cells = k') (hn' : n + rm.slots = n') (hc : k' ≤ R.cells) (hl : n' ≤ R.slots) (hp : pc + 3 = pc') :
    ∃ v h', Q v h' ∧ Rch p l e R s m args below meth c Z y bc ml rt n0 T0 g0 k' n' h' (mkF m pc' L (v.toList ++ rest)) := by
  subst hp hS hk hn'
  obtain ⟨q, T, locs, X, eT, N, st⟩ := r
  obtain ⟨v, _, ⟨T', L', kk', nn'⟩, -, X', ⟨Lc, hQ, l1, y1, z1⟩, st'⟩ := Jvm.LawKit.callS X q.1 (y := z) q.2.2.2.1 (mvT q.2.2.2.2.1 w1) (mvT q.2.2.2.2.1 w2) (mvT q.2.2.2.2.1 w3) (mvT q.2.2.2.2.1 w4) hy (backOf (W := W) (Q := fun v h L => Fr n0 L ∧ Q v h) (C []) q.2.2.2.2.1 w4 w3 hf hlo) (g := mkF m pc L (argsL.reverse ++ rest)) rfl (by rw [q.2.2.1]; exact hml) (argsL := argsL) (rest := rest) (lenOf pd hlen) rfl (by simpa using hW) (hb q.2.1 hd) (fun _ _ => ⟨rfl, eT, hc, hl⟩)
  dsimp only [Pt.U, Pt.locs, Pt.cells, Pt.slots] at X' l1 y1 z1 st' hQ
  subst l1 y1 z1
  exact ⟨v, T'.heap, hQ.2, q, T', _, X', rfl, N.app hQ.1, fun t u => st t (st' t u)⟩
theorem Rch.callC {z : MethodName} {bc' : ByteArray} {ml' : Nat} {rm : Room} {idx : Nat} {ps : List FieldType} {ro : Option FieldType} {Q : Option Value → Heap → Prop} {a : Addr} (argsL : List Value) {rest : List Value} (W : Nat)
    (r : Rch p l e R s m args below meth c Z y bc ml rt n0 T0 g0 k n h (mkF m pc L S)) (hd : decode bc pc = .ok (.invokespecial idx, 3)) (hi : z.name = "<init>") (w1 : (Jvm.Cond.methodLink y.cls idx z).before a0 Z = true) (w2 : (Jvm.Cond.instanceMethod z).before a0 Z = true) (w3 : (Jvm.Cond.initialized z.cls).before a0 Z = true) (w4 : (Jvm.Cond.code z bc' ml' none).before a0 Z = true)
    (hy : z.cls ≠ "java/lang/invoke/MethodHandle" ∧ z.cls ≠ "java/lang/invoke/VarHandle") (C : Ctr l Z z bc' ml' none rm (.ref a :: argsL).toArray h n0 Q) (pd : parseMethodDescriptor z.desc = some ⟨ps, ro⟩) (hlen : argsL.length = ps.length) (hS : S = argsL.reverse ++ .ref a :: rest) (hml : L.size = ml)
    (hW : (rest.map fun v => v.category).sum ≤ W) (hf : rm.frames + 1 ≤ R.frames) (hlo : W + (ml' + 11) + rm.locals ≤ R.locals) {k' n' : Nat} (hk : k + rm.cells = k') (hn' : n + rm.slots = n') (hc : k' ≤ R.cells) (hl : n' ≤ R.slots) (hp : pc + 3 = pc') :
    ∃ v h', Q v h' ∧ Rch p l e R s m args below meth c Z y bc ml rt n0 T0 g0 k' n' h' (mkF m pc' L (v.toList ++ rest)) := by
  subst hp hS hk hn'
  obtain ⟨q, T, locs, X, eT, N, st⟩ := r
  obtain ⟨v, _, ⟨T', L', kk', nn'⟩, -, X', ⟨Lc, hQ, l1, y1, z1⟩, st'⟩ := X.specialBack q.1 (y := z) hi q.2.2.2.1 (mvT q.2.2.2.2.1 w1) (mvT q.2.2.2.2.1 w2) (mvT q.2.2.2.2.1 w4) hy (backOf (W := W) (Q := fun v h L => Fr n0 L ∧ Q v h) (C []) q.2.2.2.2.1 w4 w3 hf hlo) (g := mkF m pc L (argsL.reverse ++ .ref a :: rest)) rfl (by rw [q.2.2.1]; exact hml) (Steps.refl _) (a := a) (argsL := argsL) (rest := rest) (lenOf pd hlen) rfl (by simpa using hW) (hb q.2.1 hd) (fun _ _ => ⟨rfl, eT, hc, hl⟩)
  dsimp only [Pt.U, Pt.locs, Pt.cells, Pt.slots] at X' l1 y1 z1 st' hQ
  subst l1 y1 z1
  exact ⟨v, T'.heap, hQ.2, q, T', _, X', rfl, N.app hQ.1, fun t u => st t (st'.trans u)⟩
theorem Rch.callV {z z' : MethodName} {K : String} {bc' : ByteArray} {ml' : Nat} {rt' : Option FieldType} {rm : Room} {idx : Nat} {ps : List FieldType} {ro : Option FieldType} {Q : Option Value → Heap → Prop} {a : Addr} (argsL : List Value) {rest : List Value} (W : Nat)
    (r : Rch p l e R s m args below meth c Z y bc ml rt n0 T0 g0 k n h (mkF m pc L S)) (hd : decode bc pc = .ok (.invokevirtual idx, 3)) (w1 : (Jvm.Cond.methodLink y.cls idx z).before a0 Z = true) (w2 : (Jvm.Cond.declares z).before a0 Z = true) (nf : NotFace s z) (w5 : (Jvm.Cond.selects K z z').before a0 Z = true) (w6 : (Jvm.Cond.instanceMethod z').before a0 Z = true) (w3 : (Jvm.Cond.initialized z'.cls).before a0 Z = true) (w4 : (Jvm.Cond.code z' bc' ml' rt').before a0 Z = true)
    (hy : z.cls ≠ "java/lang/invoke/MethodHandle" ∧ z.cls ≠ "java/lang/invoke/VarHandle") (C : Ctr l Z z' bc' ml' rt' rm (.ref a :: argsL).toArray h n0 Q) (E : Exa Z h a K) (pd : parseMethodDescriptor z.desc = some ⟨ps, ro⟩) (hlen : argsL.length = ps.length) (hS : S = argsL.reverse ++ .ref a :: rest) (hml : L.size = ml)
    (hW : (rest.map fun v => v.category).sum ≤ W) (hf : rm.frames + 1 ≤ R.frames) (hlo : W + (ml' + 11) + rm.locals ≤ R.locals) {k' n' : Nat} (hk : k + rm.cells = k') (hn' : n + rm.slots = n') (hc : k' ≤ R.cells) (hl : n' ≤ R.slots) (hp : pc + 3 = pc') :
    ∃ v h', Q v h' ∧ Rch p l e R s m args below meth c Z y bc ml rt n0 T0 g0 k' n' h' (mkF m pc' L (v.toList ++ rest)) := by
  subst hp hS hk hn'
  obtain ⟨q, T, locs, X, eT, N, st⟩ := r
  obtain ⟨cq, kq, qa, qb, qc⟩ := isOf q.2.2.2.2.1 eT E
  obtain ⟨v, _, ⟨T', L', kk', nn'⟩, -, X', ⟨Lc, hQ, l1, y1, z1⟩, st'⟩ := X.virtualBack q.1 (y := z) (z := z') q.2.2.2.1 (mvT q.2.2.2.2.1 w1) (mvT q.2.2.2.2.1 w2) nf (mvT q.2.2.2.2.1 w5) (mvT q.2.2.2.2.1 w6) hy (backOf (W := W) (Q := fun v h L => Fr n0 L ∧ Q v h) (C []) q.2.2.2.2.1 w4 w3 hf hlo) qa qc (g := mkF m pc L (argsL.reverse ++ .ref a :: rest)) rfl (by rw [q.2.2.1]; exact hml) (Steps.refl _) (argsL := argsL) (rest := rest) (lenOf pd hlen) rfl (by simpa using hW) (hb q.2.1 hd) (fun _ _ => ⟨rfl, eT, hc, hl⟩)
  dsimp only [Pt.U, Pt.locs, Pt.cells, Pt.slots] at X' l1 y1 z1 st' hQ
  subst l1 y1 z1
  exact ⟨v, T'.heap, hQ.2, q, T', _, X', rfl, N.app hQ.1, fun t u => st t (st'.trans u)⟩
theorem Rch.nface {z z' : MethodName} {K : String} {g : JFrame} (r : Rch p l e R s m args below meth c Z y bc ml rt n0 T0 g0 k n h g) (w : (Jvm.Cond.selects K z z').before a0 Z = true) (hq : z = z') : NotFace s z := by
  subst hq; exact notFace_of_selects (args := #[]) (mvT r.1.2.2.2.2.1 w)
theorem Rch.initO {idx : Nat} {a : Addr} (W : Nat) (r : Rch p l e R s m args below meth c Z y bc ml rt n0 T0 g0 k n h (mkF m pc L (.ref a :: S))) (hd : decode bc pc = .ok (.invokespecial idx, 3)) (w1 : (Jvm.Cond.methodLink y.cls idx Lib.objectInit).before a0 Z = true) (w2 : (Jvm.Cond.instanceMethod Lib.objectInit).before a0 Z = true) (w3 : (Jvm.Cond.code Lib.objectInit ⟨#[0xb1]⟩ 1 none).before a0 Z = true) (hml : L.size = ml)
    (hf : 1 ≤ R.frames) (hW : (S.map fun v => v.category).sum ≤ W) (hl : W + 12 ≤ R.locals) (hp : pc + 3 = pc') : Rch p l e R s m args below meth c Z y bc ml rt n0 T0 g0 k n h (mkF m pc' L S) := by
  subst hp
  exact r.keep fun T locs X eT => initO X r.1.1 r.1.2.2.2.2.1 r.1.2.2.2.1 w1 w2 w3 eT (g := mkF m pc L (.ref a :: S)) rfl (by rw [r.1.2.2.1]; exact hml) rfl (hb r.1.2.1 hd) hf (W := W) (by simpa using hW) hl
end OwnLayer

/-- an XML character -/
abbrev okc (c : Int) : Prop := c = 9 ∨ c = 10 ∨ c = 13 ∨ (32 ≤ c ∧ c ≤ 55295) ∨ (57344 ≤ c ∧ c ≤ 65533) ∨ (65536 ≤ c ∧ c ≤ 1114111)
theorem pn_com_example_mingdang_mingdang_XmlScanner : plainName "com/example/mingdang/mingdang/XmlScanner" = true := by first | (simp [plainName, overriddenIn]; done) | decide +kernel
theorem d1_0 : decode prog_179_method_62_code 0 = .ok (.iload_n 0, 1) := by decide +kernel
theorem d1_1 : decode prog_179_method_62_code 1 = .ok (.bipush 32, 2) := by decide +kernel
theorem d1_3 : decode prog_179_method_62_code 3 = .ok (.if_icmp .lt 10, 3) := by decide +kernel
theorem d1_13 : decode prog_179_method_62_code 13 = .ok (.iload_n 0, 1) := by decide +kernel
theorem d1_14 : decode prog_179_method_62_code 14 = .ok (.bipush 9, 2) := by decide +kernel
theorem d1_16 : decode prog_179_method_62_code 16 = .ok (.if_icmp .eq 43, 3) := by decide +kernel
theorem d1_59 : decode prog_179_method_62_code 59 = .ok (.iconst 1, 1) := by decide +kernel
theorem d1_60 : decode prog_179_method_62_code 60 = .ok (.goto 4, 3) := by decide +kernel
theorem d1_64 : decode prog_179_method_62_code 64 = .ok (.ireturn, 1) := by decide +kernel
theorem d1_19 : decode prog_179_method_62_code 19 = .ok (.iload_n 0, 1) := by decide +kernel
theorem d1_20 : decode prog_179_method_62_code 20 = .ok (.bipush 10, 2) := by decide +kernel
theorem d1_22 : decode prog_179_method_62_code 22 = .ok (.if_icmp .eq 37, 3) := by decide +kernel
theorem d1_25 : decode prog_179_method_62_code 25 = .ok (.iload_n 0, 1) := by decide +kernel
theorem d1_26 : decode prog_179_method_62_code 26 = .ok (.bipush 13, 2) := by decide +kernel
theorem d1_28 : decode prog_179_method_62_code 28 = .ok (.if_icmp .eq 31, 3) := by decide +kernel
theorem d1_31 : decode prog_179_method_62_code 31 = .ok (.iload_n 0, 1) := by decide +kernel
theorem d1_32 : decode prog_179_method_62_code 32 = .ok (.ldc_w 680, 3) := by decide +kernel
theorem d1_35 : decode prog_179_method_62_code 35 = .ok (.if_icmp .lt 10, 3) := by decide +kernel
theorem d1_45 : decode prog_179_method_62_code 45 = .ok (.iload_n 0, 1) := by decide +kernel
theorem d1_46 : decode prog_179_method_62_code 46 = .ok (.ldc_w 594, 3) := by decide +kernel
theorem d1_49 : decode prog_179_method_62_code 49 = .ok (.if_icmp .lt 14, 3) := by decide +kernel
theorem d1_63 : decode prog_179_method_62_code 63 = .ok (.iconst 0, 1) := by decide +kernel
theorem d1_52 : decode prog_179_method_62_code 52 = .ok (.iload_n 0, 1) := by decide +kernel
theorem d1_53 : decode prog_179_method_62_code 53 = .ok (.ldc_w 678, 3) := by decide +kernel
theorem d1_56 : decode prog_179_method_62_code 56 = .ok (.if_icmp .gt 7, 3) := by decide +kernel
theorem d1_38 : decode prog_179_method_62_code 38 = .ok (.iload_n 0, 1) := by decide +kernel
theorem d1_39 : decode prog_179_method_62_code 39 = .ok (.ldc_w 681, 3) := by decide +kernel
theorem d1_42 : decode prog_179_method_62_code 42 = .ok (.if_icmp .le 17, 3) := by decide +kernel
theorem d1_6 : decode prog_179_method_62_code 6 = .ok (.iload_n 0, 1) := by decide +kernel
theorem d1_7 : decode prog_179_method_62_code 7 = .ok (.ldc_w 679, 3) := by decide +kernel
theorem d1_10 : decode prog_179_method_62_code 10 = .ok (.if_icmp .le 49, 3) := by decide +kernel
set_option maxRecDepth 65536 in
set_option maxHeartbeats 40000000 in
theorem c1 (l : Launch) (Z : State) (a0 : Array Value) (hw : ∀ d ∈ tables_1, d.before a0 Z = true) (x0 : Int32) (h0 : Heap) (n0 : Nat) :
    Ctr l Z (⟨"com/example/mingdang/mingdang/XmlScanner", "isChar", "(I)Z"⟩ : MethodName) prog_179_method_62_code 1 (some .boolean) ({ frames := 0, cells := 0, slots := 0, locals := 0 } : Room) #[(.int x0)] h0 n0 (fun v h => v = some (.int (if okc x0.toInt then (1 : Int32) else (0 : Int32))) ∧ h0 = h) := by
  refine ent (plainFor_of_name pn_com_example_mingdang_mingdang_XmlScanner) (L0 := #[.val (.int x0)]) (fun m => by first | (simp [entryFrame, mkF, argsToLocals, Value.category]; done) | rfl) ?_
  intro p e s m below meth c T0 r0
  have r1 := r0.iloadN (pc' := 1) d1_0 rfl rfl
  have r2 := r1.bipush (pc' := 3) (32 : Int32) d1_1 rfl rfl
  by_cases hc3 : x0 < (32 : Int32)
  · -- yes
    have r4 := r2.icT (pc' := 13) d1_3 (tlt hc3).1 (by decide) (by decide)
    have r5 := r4.iloadN (pc' := 14) d1_13 rfl rfl
    have r6 := r5.bipush (pc' := 16) (9 : Int32) d1_14 rfl rfl
    by_cases hc7 : x0 = (9 : Int32)
    · -- yes
      have r8 := r6.icT (pc' := 59) d1_16 (teq hc7).1 (by decide) (by decide)
      have r9 := r8.iconst (pc' := 60) (1 : Int32) d1_59 rfl rfl
      have r10 := r9.goto (pc' := 64) d1_60 (by decide) (by decide)
      have hP : okc x0.toInt := by
        simp only [Int32.lt_iff_toInt_lt, ← Int32.toInt_inj, Int32.reduceToInt] at hc3 hc7
        simp only [okc]; omega
      rw [if_pos hP]
      exact ⟨_, _, r10.retZ d1_64 rfl (t := .boolean) (by simp) (1 : Int32) rfl (by decide) (by decide), ⟨rfl, rfl⟩⟩
    · -- not no
      have r11 := r6.icF (pc' := 19) d1_16 (feq hc7).1 rfl
      have r12 := r11.iloadN (pc' := 20) d1_19 rfl rfl
      have r13 := r12.bipush (pc' := 22) (10 : Int32) d1_20 rfl rfl
      by_cases hc14 : x0 = (10 : Int32)
      · -- yes
        have r15 := r13.icT (pc' := 59) d1_22 (teq hc14).1 (by decide) (by decide)
        have r16 := r15.iconst (pc' := 60) (1 : Int32) d1_59 rfl rfl
        have r17 := r16.goto (pc' := 64) d1_60 (by decide) (by decide)
        have hP : okc x0.toInt := by
          simp only [Int32.lt_iff_toInt_lt, ← Int32.toInt_inj, Int32.reduceToInt] at hc3 hc7 hc14
          simp only [okc]; omega
        rw [if_pos hP]
        exact ⟨_, _, r17.retZ d1_64 rfl (t := .boolean) (by simp) (1 : Int32) rfl (by decide) (by decide), ⟨rfl, rfl⟩⟩
      · -- not no
        have r18 := r13.icF (pc' := 25) d1_22 (feq hc14).1 rfl
        have r19 := r18.iloadN (pc' := 26) d1_25 rfl rfl
        have r20 := r19.bipush (pc' := 28) (13 : Int32) d1_26 rfl rfl
        by_cases hc21 : x0 = (13 : Int32)
        · -- yes
          have r22 := r20.icT (pc' := 59) d1_28 (teq hc21).1 (by decide) (by decide)
          have r23 := r22.iconst (pc' := 60) (1 : Int32) d1_59 rfl rfl
          have r24 := r23.goto (pc' := 64) d1_60 (by decide) (by decide)
          have hP : okc x0.toInt := by
            simp only [Int32.lt_iff_toInt_lt, ← Int32.toInt_inj, Int32.reduceToInt] at hc3 hc7 hc14 hc21
            simp only [okc]; omega
          rw [if_pos hP]
          exact ⟨_, _, r24.retZ d1_64 rfl (t := .boolean) (by simp) (1 : Int32) rfl (by decide) (by decide), ⟨rfl, rfl⟩⟩
        · -- not no
          have r25 := r20.icF (pc' := 31) d1_28 (feq hc21).1 rfl
          have r26 := r25.iloadN (pc' := 32) d1_31 rfl rfl
          have r27 := r26.ldcw (pc' := 35) d1_32 (hw _ (List.mem_of_getElem? (i := 17) rfl)) rfl
          by_cases hc28 : x0 < (57344 : Int32)
          · -- yes
            have r29 := r27.icT (pc' := 45) d1_35 (tlt hc28).1 (by decide) (by decide)
            have r30 := r29.iloadN (pc' := 46) d1_45 rfl rfl
            have r31 := r30.ldcw (pc' := 49) d1_46 (hw _ (List.mem_of_getElem? (i := 18) rfl)) rfl
            by_cases hc32 : x0 < (65536 : Int32)
            · -- yes
              have r33 := r31.icT (pc' := 63) d1_49 (tlt hc32).1 (by decide) (by decide)
              have r34 := r33.iconst (pc' := 64) (0 : Int32) d1_63 rfl rfl
              have hP : ¬ (okc x0.toInt) := by
                simp only [Int32.lt_iff_toInt_lt, ← Int32.toInt_inj, Int32.reduceToInt] at hc3 hc7 hc14 hc21 hc28 hc32
                simp only [okc]; omega
              rw [if_neg hP]
              exact ⟨_, _, r34.retZ d1_64 rfl (t := .boolean) (by simp) (0 : Int32) rfl (by decide) (by decide), ⟨rfl, rfl⟩⟩
            · -- not no
              have r35 := r31.icF (pc' := 52) d1_49 (flt hc32).1 rfl
              have r36 := r35.iloadN (pc' := 53) d1_52 rfl rfl
              have r37 := r36.ldcw (pc' := 56) d1_53 (hw _ (List.mem_of_getElem? (i := 28) rfl)) rfl
              by_cases hc38 : (1114111 : Int32) < x0
              · -- yes
                have r39 := r37.icT (pc' := 63) d1_56 (tlt hc38).2.2.1 (by decide) (by decide)
                have r40 := r39.iconst (pc' := 64) (0 : Int32) d1_63 rfl rfl
                have hP : ¬ (okc x0.toInt) := by
                  simp only [Int32.lt_iff_toInt_lt, ← Int32.toInt_inj, Int32.reduceToInt] at hc3 hc7 hc14 hc21 hc28 hc32 hc38
                  simp only [okc]; omega
                rw [if_neg hP]
                exact ⟨_, _, r40.retZ d1_64 rfl (t := .boolean) (by simp) (0 : Int32) rfl (by decide) (by decide), ⟨rfl, rfl⟩⟩
              · -- not no
                have r41 := r37.icF (pc' := 59) d1_56 (flt hc38).2.2.1 rfl
                have r42 := r41.iconst (pc' := 60) (1 : Int32) d1_59 rfl rfl
                have r43 := r42.goto (pc' := 64) d1_60 (by decide) (by decide)
                have hP : okc x0.toInt := by
                  simp only [Int32.lt_iff_toInt_lt, ← Int32.toInt_inj, Int32.reduceToInt] at hc3 hc7 hc14 hc21 hc28 hc32 hc38
                  simp only [okc]; omega
                rw [if_pos hP]
                exact ⟨_, _, r43.retZ d1_64 rfl (t := .boolean) (by simp) (1 : Int32) rfl (by decide) (by decide), ⟨rfl, rfl⟩⟩
          · -- not no
            have r44 := r27.icF (pc' := 38) d1_35 (flt hc28).1 rfl
            have r45 := r44.iloadN (pc' := 39) d1_38 rfl rfl
            have r46 := r45.ldcw (pc' := 42) d1_39 (hw _ (List.mem_of_getElem? (i := 27) rfl)) rfl
            by_cases hc47 : (65533 : Int32) < x0
            · -- yes
              have r48 := r46.icF (pc' := 45) d1_42 (tlt hc47).2.2.2 rfl
              have r49 := r48.iloadN (pc' := 46) d1_45 rfl rfl
              have r50 := r49.ldcw (pc' := 49) d1_46 (hw _ (List.mem_of_getElem? (i := 18) rfl)) rfl
              by_cases hc51 : x0 < (65536 : Int32)
              · -- yes
                have r52 := r50.icT (pc' := 63) d1_49 (tlt hc51).1 (by decide) (by decide)
                have r53 := r52.iconst (pc' := 64) (0 : Int32) d1_63 rfl rfl
                have hP : ¬ (okc x0.toInt) := by
                  simp only [Int32.lt_iff_toInt_lt, ← Int32.toInt_inj, Int32.reduceToInt] at hc3 hc7 hc14 hc21 hc28 hc47 hc51
                  simp only [okc]; omega
                rw [if_neg hP]
                exact ⟨_, _, r53.retZ d1_64 rfl (t := .boolean) (by simp) (0 : Int32) rfl (by decide) (by decide), ⟨rfl, rfl⟩⟩
              · -- not no
                have r54 := r50.icF (pc' := 52) d1_49 (flt hc51).1 rfl
                have r55 := r54.iloadN (pc' := 53) d1_52 rfl rfl
                have r56 := r55.ldcw (pc' := 56) d1_53 (hw _ (List.mem_of_getElem? (i := 28) rfl)) rfl
                by_cases hc57 : (1114111 : Int32) < x0
                · -- yes
                  have r58 := r56.icT (pc' := 63) d1_56 (tlt hc57).2.2.1 (by decide) (by decide)
                  have r59 := r58.iconst (pc' := 64) (0 : Int32) d1_63 rfl rfl
                  have hP : ¬ (okc x0.toInt) := by
                    simp only [Int32.lt_iff_toInt_lt, ← Int32.toInt_inj, Int32.reduceToInt] at hc3 hc7 hc14 hc21 hc28 hc47 hc51 hc57
                    simp only [okc]; omega
                  rw [if_neg hP]
                  exact ⟨_, _, r59.retZ d1_64 rfl (t := .boolean) (by simp) (0 : Int32) rfl (by decide) (by decide), ⟨rfl, rfl⟩⟩
                · -- not no
                  have r60 := r56.icF (pc' := 59) d1_56 (flt hc57).2.2.1 rfl
                  have r61 := r60.iconst (pc' := 60) (1 : Int32) d1_59 rfl rfl
                  have r62 := r61.goto (pc' := 64) d1_60 (by decide) (by decide)
                  have hP : okc x0.toInt := by
                    simp only [Int32.lt_iff_toInt_lt, ← Int32.toInt_inj, Int32.reduceToInt] at hc3 hc7 hc14 hc21 hc28 hc47 hc51 hc57
                    simp only [okc]; omega
                  rw [if_pos hP]
                  exact ⟨_, _, r62.retZ d1_64 rfl (t := .boolean) (by simp) (1 : Int32) rfl (by decide) (by decide), ⟨rfl, rfl⟩⟩
            · -- not no
              have r63 := r46.icT (pc' := 59) d1_42 (flt hc47).2.2.2 (by decide) (by decide)
              have r64 := r63.iconst (pc' := 60) (1 : Int32) d1_59 rfl rfl
              have r65 := r64.goto (pc' := 64) d1_60 (by decide) (by decide)
              have hP : okc x0.toInt := by
                simp only [Int32.lt_iff_toInt_lt, ← Int32.toInt_inj, Int32.reduceToInt] at hc3 hc7 hc14 hc21 hc28 hc47
                simp only [okc]; omega
              rw [if_pos hP]
              exact ⟨_, _, r65.retZ d1_64 rfl (t := .boolean) (by simp) (1 : Int32) rfl (by decide) (by decide), ⟨rfl, rfl⟩⟩
  · -- not no
    have r66 := r2.icF (pc' := 6) d1_3 (flt hc3).1 rfl
    have r67 := r66.iloadN (pc' := 7) d1_6 rfl rfl
    have r68 := r67.ldcw (pc' := 10) d1_7 (hw _ (List.mem_of_getElem? (i := 26) rfl)) rfl
    by_cases hc69 : (55295 : Int32) < x0
    · -- yes
      have r70 := r68.icF (pc' := 13) d1_10 (tlt hc69).2.2.2 rfl
      have r71 := r70.iloadN (pc' := 14) d1_13 rfl rfl
      have r72 := r71.bipush (pc' := 16) (9 : Int32) d1_14 rfl rfl
      by_cases hc73 : x0 = (9 : Int32)
      · -- yes
        have r74 := r72.icT (pc' := 59) d1_16 (teq hc73).1 (by decide) (by decide)
        have r75 := r74.iconst (pc' := 60) (1 : Int32) d1_59 rfl rfl
        have r76 := r75.goto (pc' := 64) d1_60 (by decide) (by decide)
        have hP : okc x0.toInt := by
          simp only [Int32.lt_iff_toInt_lt, ← Int32.toInt_inj, Int32.reduceToInt] at hc3 hc69 hc73
          simp only [okc]; omega
        rw [if_pos hP]
        exact ⟨_, _, r76.retZ d1_64 rfl (t := .boolean) (by simp) (1 : Int32) rfl (by decide) (by decide), ⟨rfl, rfl⟩⟩
      · -- not no
        have r77 := r72.icF (pc' := 19) d1_16 (feq hc73).1 rfl
        have r78 := r77.iloadN (pc' := 20) d1_19 rfl rfl
        have r79 := r78.bipush (pc' := 22) (10 : Int32) d1_20 rfl rfl
        by_cases hc80 : x0 = (10 : Int32)
        · -- yes
          have r81 := r79.icT (pc' := 59) d1_22 (teq hc80).1 (by decide) (by decide)
          have r82 := r81.iconst (pc' := 60) (1 : Int32) d1_59 rfl rfl
          have r83 := r82.goto (pc' := 64) d1_60 (by decide) (by decide)
          have hP : okc x0.toInt := by
            simp only [Int32.lt_iff_toInt_lt, ← Int32.toInt_inj, Int32.reduceToInt] at hc3 hc69 hc73 hc80
            simp only [okc]; omega
          rw [if_pos hP]
          exact ⟨_, _, r83.retZ d1_64 rfl (t := .boolean) (by simp) (1 : Int32) rfl (by decide) (by decide), ⟨rfl, rfl⟩⟩
        · -- not no
          have r84 := r79.icF (pc' := 25) d1_22 (feq hc80).1 rfl
          have r85 := r84.iloadN (pc' := 26) d1_25 rfl rfl
          have r86 := r85.bipush (pc' := 28) (13 : Int32) d1_26 rfl rfl
          by_cases hc87 : x0 = (13 : Int32)
          · -- yes
            have r88 := r86.icT (pc' := 59) d1_28 (teq hc87).1 (by decide) (by decide)
            have r89 := r88.iconst (pc' := 60) (1 : Int32) d1_59 rfl rfl
            have r90 := r89.goto (pc' := 64) d1_60 (by decide) (by decide)
            have hP : okc x0.toInt := by
              simp only [Int32.lt_iff_toInt_lt, ← Int32.toInt_inj, Int32.reduceToInt] at hc3 hc69 hc73 hc80 hc87
              simp only [okc]; omega
            rw [if_pos hP]
            exact ⟨_, _, r90.retZ d1_64 rfl (t := .boolean) (by simp) (1 : Int32) rfl (by decide) (by decide), ⟨rfl, rfl⟩⟩
          · -- not no
            have r91 := r86.icF (pc' := 31) d1_28 (feq hc87).1 rfl
            have r92 := r91.iloadN (pc' := 32) d1_31 rfl rfl
            have r93 := r92.ldcw (pc' := 35) d1_32 (hw _ (List.mem_of_getElem? (i := 17) rfl)) rfl
            by_cases hc94 : x0 < (57344 : Int32)
            · -- yes
              have r95 := r93.icT (pc' := 45) d1_35 (tlt hc94).1 (by decide) (by decide)
              have r96 := r95.iloadN (pc' := 46) d1_45 rfl rfl
              have r97 := r96.ldcw (pc' := 49) d1_46 (hw _ (List.mem_of_getElem? (i := 18) rfl)) rfl
              by_cases hc98 : x0 < (65536 : Int32)
              · -- yes
                have r99 := r97.icT (pc' := 63) d1_49 (tlt hc98).1 (by decide) (by decide)
                have r100 := r99.iconst (pc' := 64) (0 : Int32) d1_63 rfl rfl
                have hP : ¬ (okc x0.toInt) := by
                  simp only [Int32.lt_iff_toInt_lt, ← Int32.toInt_inj, Int32.reduceToInt] at hc3 hc69 hc73 hc80 hc87 hc94 hc98
                  simp only [okc]; omega
                rw [if_neg hP]
                exact ⟨_, _, r100.retZ d1_64 rfl (t := .boolean) (by simp) (0 : Int32) rfl (by decide) (by decide), ⟨rfl, rfl⟩⟩
              · -- not no
                have r101 := r97.icF (pc' := 52) d1_49 (flt hc98).1 rfl
                have r102 := r101.iloadN (pc' := 53) d1_52 rfl rfl
                have r103 := r102.ldcw (pc' := 56) d1_53 (hw _ (List.mem_of_getElem? (i := 28) rfl)) rfl
                by_cases hc104 : (1114111 : Int32) < x0
                · -- yes
                  have r105 := r103.icT (pc' := 63) d1_56 (tlt hc104).2.2.1 (by decide) (by decide)
                  have r106 := r105.iconst (pc' := 64) (0 : Int32) d1_63 rfl rfl
                  have hP : ¬ (okc x0.toInt) := by
                    simp only [Int32.lt_iff_toInt_lt, ← Int32.toInt_inj, Int32.reduceToInt] at hc3 hc69 hc73 hc80 hc87 hc94 hc98 hc104
                    simp only [okc]; omega
                  rw [if_neg hP]
                  exact ⟨_, _, r106.retZ d1_64 rfl (t := .boolean) (by simp) (0 : Int32) rfl (by decide) (by decide), ⟨rfl, rfl⟩⟩
                · -- not no
                  have r107 := r103.icF (pc' := 59) d1_56 (flt hc104).2.2.1 rfl
                  have r108 := r107.iconst (pc' := 60) (1 : Int32) d1_59 rfl rfl
                  have r109 := r108.goto (pc' := 64) d1_60 (by decide) (by decide)
                  have hP : okc x0.toInt := by
                    simp only [Int32.lt_iff_toInt_lt, ← Int32.toInt_inj, Int32.reduceToInt] at hc3 hc69 hc73 hc80 hc87 hc94 hc98 hc104
                    simp only [okc]; omega
                  rw [if_pos hP]
                  exact ⟨_, _, r109.retZ d1_64 rfl (t := .boolean) (by simp) (1 : Int32) rfl (by decide) (by decide), ⟨rfl, rfl⟩⟩
            · -- not no
              have r110 := r93.icF (pc' := 38) d1_35 (flt hc94).1 rfl
              have r111 := r110.iloadN (pc' := 39) d1_38 rfl rfl
              have r112 := r111.ldcw (pc' := 42) d1_39 (hw _ (List.mem_of_getElem? (i := 27) rfl)) rfl
              by_cases hc113 : (65533 : Int32) < x0
              · -- yes
                have r114 := r112.icF (pc' := 45) d1_42 (tlt hc113).2.2.2 rfl
                have r115 := r114.iloadN (pc' := 46) d1_45 rfl rfl
                have r116 := r115.ldcw (pc' := 49) d1_46 (hw _ (List.mem_of_getElem? (i := 18) rfl)) rfl
                by_cases hc117 : x0 < (65536 : Int32)
                · -- yes
                  have r118 := r116.icT (pc' := 63) d1_49 (tlt hc117).1 (by decide) (by decide)
                  have r119 := r118.iconst (pc' := 64) (0 : Int32) d1_63 rfl rfl
                  have hP : ¬ (okc x0.toInt) := by
                    simp only [Int32.lt_iff_toInt_lt, ← Int32.toInt_inj, Int32.reduceToInt] at hc3 hc69 hc73 hc80 hc87 hc94 hc113 hc117
                    simp only [okc]; omega
                  rw [if_neg hP]
                  exact ⟨_, _, r119.retZ d1_64 rfl (t := .boolean) (by simp) (0 : Int32) rfl (by decide) (by decide), ⟨rfl, rfl⟩⟩
                · -- not no
                  have r120 := r116.icF (pc' := 52) d1_49 (flt hc117).1 rfl
                  have r121 := r120.iloadN (pc' := 53) d1_52 rfl rfl
                  have r122 := r121.ldcw (pc' := 56) d1_53 (hw _ (List.mem_of_getElem? (i := 28) rfl)) rfl
                  by_cases hc123 : (1114111 : Int32) < x0
                  · -- yes
                    have r124 := r122.icT (pc' := 63) d1_56 (tlt hc123).2.2.1 (by decide) (by decide)
                    have r125 := r124.iconst (pc' := 64) (0 : Int32) d1_63 rfl rfl
                    have hP : ¬ (okc x0.toInt) := by
                      simp only [Int32.lt_iff_toInt_lt, ← Int32.toInt_inj, Int32.reduceToInt] at hc3 hc69 hc73 hc80 hc87 hc94 hc113 hc117 hc123
                      simp only [okc]; omega
                    rw [if_neg hP]
                    exact ⟨_, _, r125.retZ d1_64 rfl (t := .boolean) (by simp) (0 : Int32) rfl (by decide) (by decide), ⟨rfl, rfl⟩⟩
                  · -- not no
                    have r126 := r122.icF (pc' := 59) d1_56 (flt hc123).2.2.1 rfl
                    have r127 := r126.iconst (pc' := 60) (1 : Int32) d1_59 rfl rfl
                    have r128 := r127.goto (pc' := 64) d1_60 (by decide) (by decide)
                    have hP : okc x0.toInt := by
                      simp only [Int32.lt_iff_toInt_lt, ← Int32.toInt_inj, Int32.reduceToInt] at hc3 hc69 hc73 hc80 hc87 hc94 hc113 hc117 hc123
                      simp only [okc]; omega
                    rw [if_pos hP]
                    exact ⟨_, _, r128.retZ d1_64 rfl (t := .boolean) (by simp) (1 : Int32) rfl (by decide) (by decide), ⟨rfl, rfl⟩⟩
              · -- not no
                have r129 := r112.icT (pc' := 59) d1_42 (flt hc113).2.2.2 (by decide) (by decide)
                have r130 := r129.iconst (pc' := 60) (1 : Int32) d1_59 rfl rfl
                have r131 := r130.goto (pc' := 64) d1_60 (by decide) (by decide)
                have hP : okc x0.toInt := by
                  simp only [Int32.lt_iff_toInt_lt, ← Int32.toInt_inj, Int32.reduceToInt] at hc3 hc69 hc73 hc80 hc87 hc94 hc113
                  simp only [okc]; omega
                rw [if_pos hP]
                exact ⟨_, _, r131.retZ d1_64 rfl (t := .boolean) (by simp) (1 : Int32) rfl (by decide) (by decide), ⟨rfl, rfl⟩⟩
    · -- not no
      have r132 := r68.icT (pc' := 59) d1_10 (flt hc69).2.2.2 (by decide) (by decide)
      have r133 := r132.iconst (pc' := 60) (1 : Int32) d1_59 rfl rfl
      have r134 := r133.goto (pc' := 64) d1_60 (by decide) (by decide)
      have hP : okc x0.toInt := by
        simp only [Int32.lt_iff_toInt_lt, ← Int32.toInt_inj, Int32.reduceToInt] at hc3 hc69
        simp only [okc]; omega
      rw [if_pos hP]
      exact ⟨_, _, r134.retZ d1_64 rfl (t := .boolean) (by simp) (1 : Int32) rfl (by decide) (by decide), ⟨rfl, rfl⟩⟩
theorem pn_com_example_mingdang_mingdang_XmlScannerIsCharPinLaw : plainName "com/example/mingdang/mingdang/XmlScannerIsCharPinLaw" = true := by first | (simp [plainName, overriddenIn]; done) | decide +kernel
theorem d3_0 : decode method_4_code 0 = .ok (.iload_n 0, 1) := by decide +kernel
theorem d3_1 : decode method_4_code 1 = .ok (.ifCond .ge 5, 3) := by decide +kernel
theorem d3_4 : decode method_4_code 4 = .ok (.iconst 1, 1) := by decide +kernel
theorem d3_5 : decode method_4_code 5 = .ok (.ireturn, 1) := by decide +kernel
theorem d3_6 : decode method_4_code 6 = .ok (.iload_n 0, 1) := by decide +kernel
theorem d3_7 : decode method_4_code 7 = .ok (.bipush 32, 2) := by decide +kernel
theorem d3_9 : decode method_4_code 9 = .ok (.if_icmp .ge 27, 3) := by decide +kernel
theorem d3_12 : decode method_4_code 12 = .ok (.iload_n 0, 1) := by decide +kernel
theorem d3_13 : decode method_4_code 13 = .ok (.bipush 9, 2) := by decide +kernel
theorem d3_15 : decode method_4_code 15 = .ok (.if_icmp .eq 19, 3) := by decide +kernel
theorem d3_34 : decode method_4_code 34 = .ok (.iconst 0, 1) := by decide +kernel
theorem d3_35 : decode method_4_code 35 = .ok (.ireturn, 1) := by decide +kernel
theorem d3_18 : decode method_4_code 18 = .ok (.iload_n 0, 1) := by decide +kernel
theorem d3_19 : decode method_4_code 19 = .ok (.bipush 10, 2) := by decide +kernel
theorem d3_21 : decode method_4_code 21 = .ok (.if_icmp .eq 13, 3) := by decide +kernel
theorem d3_24 : decode method_4_code 24 = .ok (.iload_n 0, 1) := by decide +kernel
theorem d3_25 : decode method_4_code 25 = .ok (.bipush 13, 2) := by decide +kernel
theorem d3_27 : decode method_4_code 27 = .ok (.if_icmp .eq 7, 3) := by decide +kernel
theorem d3_30 : decode method_4_code 30 = .ok (.iconst 1, 1) := by decide +kernel
theorem d3_31 : decode method_4_code 31 = .ok (.goto 4, 3) := by decide +kernel
theorem d3_36 : decode method_4_code 36 = .ok (.iload_n 0, 1) := by decide +kernel
theorem d3_37 : decode method_4_code 37 = .ok (.ldc 8, 2) := by decide +kernel
theorem d3_39 : decode method_4_code 39 = .ok (.if_icmp .lt 11, 3) := by decide +kernel
theorem d3_50 : decode method_4_code 50 = .ok (.iload_n 0, 1) := by decide +kernel
theorem d3_51 : decode method_4_code 51 = .ok (.ldc 12, 2) := by decide +kernel
theorem d3_53 : decode method_4_code 53 = .ok (.if_icmp .eq 9, 3) := by decide +kernel
theorem d3_62 : decode method_4_code 62 = .ok (.iconst 1, 1) := by decide +kernel
theorem d3_63 : decode method_4_code 63 = .ok (.ireturn, 1) := by decide +kernel
theorem d3_56 : decode method_4_code 56 = .ok (.iload_n 0, 1) := by decide +kernel
theorem d3_57 : decode method_4_code 57 = .ok (.ldc 13, 2) := by decide +kernel
theorem d3_59 : decode method_4_code 59 = .ok (.if_icmp .ne 5, 3) := by decide +kernel
theorem d3_64 : decode method_4_code 64 = .ok (.iload_n 0, 1) := by decide +kernel
theorem d3_65 : decode method_4_code 65 = .ok (.ldc 15, 2) := by decide +kernel
theorem d3_67 : decode method_4_code 67 = .ok (.if_icmp .le 7, 3) := by decide +kernel
theorem d3_70 : decode method_4_code 70 = .ok (.iconst 1, 1) := by decide +kernel
theorem d3_71 : decode method_4_code 71 = .ok (.goto 4, 3) := by decide +kernel
theorem d3_75 : decode method_4_code 75 = .ok (.ireturn, 1) := by decide +kernel
theorem d3_74 : decode method_4_code 74 = .ok (.iconst 0, 1) := by decide +kernel
theorem d3_42 : decode method_4_code 42 = .ok (.iload_n 0, 1) := by decide +kernel
theorem d3_43 : decode method_4_code 43 = .ok (.ldc 9, 2) := by decide +kernel
theorem d3_45 : decode method_4_code 45 = .ok (.if_icmp .gt 5, 3) := by decide +kernel
theorem d3_48 : decode method_4_code 48 = .ok (.iconst 1, 1) := by decide +kernel
theorem d3_49 : decode method_4_code 49 = .ok (.ireturn, 1) := by decide +kernel
set_option maxRecDepth 65536 in
set_option maxHeartbeats 40000000 in
theorem c3 (l : Launch) (Z : State) (a0 : Array Value) (hw : ∀ d ∈ tables_1, d.before a0 Z = true) (x0 : Int32) (h0 : Heap) (n0 : Nat) :
    Ctr l Z (⟨"com/example/mingdang/mingdang/XmlScannerIsCharPinLaw", "forbidden", "(I)Z"⟩ : MethodName) method_4_code 1 (some .boolean) ({ frames := 0, cells := 0, slots := 0, locals := 0 } : Room) #[(.int x0)] h0 n0 (fun v h => v = some (.int (if ¬ okc x0.toInt then (1 : Int32) else (0 : Int32))) ∧ h0 = h) := by
  refine ent (plainFor_of_name pn_com_example_mingdang_mingdang_XmlScannerIsCharPinLaw) (L0 := #[.val (.int x0)]) (fun m => by first | (simp [entryFrame, mkF, argsToLocals, Value.category]; done) | rfl) ?_
  intro p e s m below meth c T0 r0
  have r135 := r0.iloadN (pc' := 1) d3_0 rfl rfl
  by_cases hc136 : x0 < (0 : Int32)
  · -- yes
    have r137 := r135.ifF (pc' := 4) d3_1 (tlt hc136).2.1 rfl
    have r138 := r137.iconst (pc' := 5) (1 : Int32) d3_4 rfl rfl
    have hP : ¬ okc x0.toInt := by
      simp only [Int32.lt_iff_toInt_lt, ← Int32.toInt_inj, Int32.reduceToInt] at hc136
      simp only [okc]; omega
    rw [if_pos hP]
    exact ⟨_, _, r138.retZ d3_5 rfl (t := .boolean) (by simp) (1 : Int32) rfl (by decide) (by decide), ⟨rfl, rfl⟩⟩
  · -- not no
    have r139 := r135.ifT (pc' := 6) d3_1 (flt hc136).2.1 (by decide) (by decide)
    have r140 := r139.iloadN (pc' := 7) d3_6 rfl rfl
    have r141 := r140.bipush (pc' := 9) (32 : Int32) d3_7 rfl rfl
    by_cases hc142 : x0 < (32 : Int32)
    · -- yes
      have r143 := r141.icF (pc' := 12) d3_9 (tlt hc142).2.1 rfl
      have r144 := r143.iloadN (pc' := 13) d3_12 rfl rfl
      have r145 := r144.bipush (pc' := 15) (9 : Int32) d3_13 rfl rfl
      by_cases hc146 : x0 = (9 : Int32)
      · -- yes
        have r147 := r145.icT (pc' := 34) d3_15 (teq hc146).1 (by decide) (by decide)
        have r148 := r147.iconst (pc' := 35) (0 : Int32) d3_34 rfl rfl
        have hP : ¬ (¬ okc x0.toInt) := by
          simp only [Int32.lt_iff_toInt_lt, ← Int32.toInt_inj, Int32.reduceToInt] at hc136 hc142 hc146
          simp only [okc]; omega
        rw [if_neg hP]
        exact ⟨_, _, r148.retZ d3_35 rfl (t := .boolean) (by simp) (0 : Int32) rfl (by decide) (by decide), ⟨rfl, rfl⟩⟩
      · -- not no
        have r149 := r145.icF (pc' := 18) d3_15 (feq hc146).1 rfl
        have r150 := r149.iloadN (pc' := 19) d3_18 rfl rfl
        have r151 := r150.bipush (pc' := 21) (10 : Int32) d3_19 rfl rfl
        by_cases hc152 : x0 = (10 : Int32)
        · -- yes
          have r153 := r151.icT (pc' := 34) d3_21 (teq hc152).1 (by decide) (by decide)
          have r154 := r153.iconst (pc' := 35) (0 : Int32) d3_34 rfl rfl
          have hP : ¬ (¬ okc x0.toInt) := by
            simp only [Int32.lt_iff_toInt_lt, ← Int32.toInt_inj, Int32.reduceToInt] at hc136 hc142 hc146 hc152
            simp only [okc]; omega
          rw [if_neg hP]
          exact ⟨_, _, r154.retZ d3_35 rfl (t := .boolean) (by simp) (0 : Int32) rfl (by decide) (by decide), ⟨rfl, rfl⟩⟩
        · -- not no
          have r155 := r151.icF (pc' := 24) d3_21 (feq hc152).1 rfl
          have r156 := r155.iloadN (pc' := 25) d3_24 rfl rfl
          have r157 := r156.bipush (pc' := 27) (13 : Int32) d3_25 rfl rfl
          by_cases hc158 : x0 = (13 : Int32)
          · -- yes
            have r159 := r157.icT (pc' := 34) d3_27 (teq hc158).1 (by decide) (by decide)
            have r160 := r159.iconst (pc' := 35) (0 : Int32) d3_34 rfl rfl
            have hP : ¬ (¬ okc x0.toInt) := by
              simp only [Int32.lt_iff_toInt_lt, ← Int32.toInt_inj, Int32.reduceToInt] at hc136 hc142 hc146 hc152 hc158
              simp only [okc]; omega
            rw [if_neg hP]
            exact ⟨_, _, r160.retZ d3_35 rfl (t := .boolean) (by simp) (0 : Int32) rfl (by decide) (by decide), ⟨rfl, rfl⟩⟩
          · -- not no
            have r161 := r157.icF (pc' := 30) d3_27 (feq hc158).1 rfl
            have r162 := r161.iconst (pc' := 31) (1 : Int32) d3_30 rfl rfl
            have r163 := r162.goto (pc' := 35) d3_31 (by decide) (by decide)
            have hP : ¬ okc x0.toInt := by
              simp only [Int32.lt_iff_toInt_lt, ← Int32.toInt_inj, Int32.reduceToInt] at hc136 hc142 hc146 hc152 hc158
              simp only [okc]; omega
            rw [if_pos hP]
            exact ⟨_, _, r163.retZ d3_35 rfl (t := .boolean) (by simp) (1 : Int32) rfl (by decide) (by decide), ⟨rfl, rfl⟩⟩
    · -- not no
      have r164 := r141.icT (pc' := 36) d3_9 (flt hc142).2.1 (by decide) (by decide)
      have r165 := r164.iloadN (pc' := 37) d3_36 rfl rfl
      have r166 := r165.ldc (pc' := 39) d3_37 (hw _ (List.mem_of_getElem? (i := 2) rfl)) rfl
      by_cases hc167 : x0 < (55296 : Int32)
      · -- yes
        have r168 := r166.icT (pc' := 50) d3_39 (tlt hc167).1 (by decide) (by decide)
        have r169 := r168.iloadN (pc' := 51) d3_50 rfl rfl
        have r170 := r169.ldc (pc' := 53) d3_51 (hw _ (List.mem_of_getElem? (i := 6) rfl)) rfl
        by_cases hc171 : x0 = (65534 : Int32)
        · -- yes
          have r172 := r170.icT (pc' := 62) d3_53 (teq hc171).1 (by decide) (by decide)
          have r173 := r172.iconst (pc' := 63) (1 : Int32) d3_62 rfl rfl
          have hP : ¬ okc x0.toInt := by
            simp only [Int32.lt_iff_toInt_lt, ← Int32.toInt_inj, Int32.reduceToInt] at hc136 hc142 hc167 hc171
            simp only [okc]; omega
          rw [if_pos hP]
          exact ⟨_, _, r173.retZ d3_63 rfl (t := .boolean) (by simp) (1 : Int32) rfl (by decide) (by decide), ⟨rfl, rfl⟩⟩
        · -- not no
          have r174 := r170.icF (pc' := 56) d3_53 (feq hc171).1 rfl
          have r175 := r174.iloadN (pc' := 57) d3_56 rfl rfl
          have r176 := r175.ldc (pc' := 59) d3_57 (hw _ (List.mem_of_getElem? (i := 7) rfl)) rfl
          by_cases hc177 : x0 = (65535 : Int32)
          · -- yes
            have r178 := r176.icF (pc' := 62) d3_59 (teq hc177).2 rfl
            have r179 := r178.iconst (pc' := 63) (1 : Int32) d3_62 rfl rfl
            have hP : ¬ okc x0.toInt := by
              simp only [Int32.lt_iff_toInt_lt, ← Int32.toInt_inj, Int32.reduceToInt] at hc136 hc142 hc167 hc171 hc177
              simp only [okc]; omega
            rw [if_pos hP]
            exact ⟨_, _, r179.retZ d3_63 rfl (t := .boolean) (by simp) (1 : Int32) rfl (by decide) (by decide), ⟨rfl, rfl⟩⟩
          · -- not no
            have r180 := r176.icT (pc' := 64) d3_59 (feq hc177).2 (by decide) (by decide)
            have r181 := r180.iloadN (pc' := 65) d3_64 rfl rfl
            have r182 := r181.ldc (pc' := 67) d3_65 (hw _ (List.mem_of_getElem? (i := 9) rfl)) rfl
            by_cases hc183 : (1114111 : Int32) < x0
            · -- yes
              have r184 := r182.icF (pc' := 70) d3_67 (tlt hc183).2.2.2 rfl
              have r185 := r184.iconst (pc' := 71) (1 : Int32) d3_70 rfl rfl
              have r186 := r185.goto (pc' := 75) d3_71 (by decide) (by decide)
              have hP : ¬ okc x0.toInt := by
                simp only [Int32.lt_iff_toInt_lt, ← Int32.toInt_inj, Int32.reduceToInt] at hc136 hc142 hc167 hc171 hc177 hc183
                simp only [okc]; omega
              rw [if_pos hP]
              exact ⟨_, _, r186.retZ d3_75 rfl (t := .boolean) (by simp) (1 : Int32) rfl (by decide) (by decide), ⟨rfl, rfl⟩⟩
            · -- not no
              have r187 := r182.icT (pc' := 74) d3_67 (flt hc183).2.2.2 (by decide) (by decide)
              have r188 := r187.iconst (pc' := 75) (0 : Int32) d3_74 rfl rfl
              have hP : ¬ (¬ okc x0.toInt) := by
                simp only [Int32.lt_iff_toInt_lt, ← Int32.toInt_inj, Int32.reduceToInt] at hc136 hc142 hc167 hc171 hc177 hc183
                simp only [okc]; omega
              rw [if_neg hP]
              exact ⟨_, _, r188.retZ d3_75 rfl (t := .boolean) (by simp) (0 : Int32) rfl (by decide) (by decide), ⟨rfl, rfl⟩⟩
      · -- not no
        have r189 := r166.icF (pc' := 42) d3_39 (flt hc167).1 rfl
        have r190 := r189.iloadN (pc' := 43) d3_42 rfl rfl
        have r191 := r190.ldc (pc' := 45) d3_43 (hw _ (List.mem_of_getElem? (i := 3) rfl)) rfl
        by_cases hc192 : (57343 : Int32) < x0
        · -- yes
          have r193 := r191.icT (pc' := 50) d3_45 (tlt hc192).2.2.1 (by decide) (by decide)
          have r194 := r193.iloadN (pc' := 51) d3_50 rfl rfl
          have r195 := r194.ldc (pc' := 53) d3_51 (hw _ (List.mem_of_getElem? (i := 6) rfl)) rfl
          by_cases hc196 : x0 = (65534 : Int32)
          · -- yes
            have r197 := r195.icT (pc' := 62) d3_53 (teq hc196).1 (by decide) (by decide)
            have r198 := r197.iconst (pc' := 63) (1 : Int32) d3_62 rfl rfl
            have hP : ¬ okc x0.toInt := by
              simp only [Int32.lt_iff_toInt_lt, ← Int32.toInt_inj, Int32.reduceToInt] at hc136 hc142 hc167 hc192 hc196
              simp only [okc]; omega
            rw [if_pos hP]
            exact ⟨_, _, r198.retZ d3_63 rfl (t := .boolean) (by simp) (1 : Int32) rfl (by decide) (by decide), ⟨rfl, rfl⟩⟩
          · -- not no
            have r199 := r195.icF (pc' := 56) d3_53 (feq hc196).1 rfl
            have r200 := r199.iloadN (pc' := 57) d3_56 rfl rfl
            have r201 := r200.ldc (pc' := 59) d3_57 (hw _ (List.mem_of_getElem? (i := 7) rfl)) rfl
            by_cases hc202 : x0 = (65535 : Int32)
            · -- yes
              have r203 := r201.icF (pc' := 62) d3_59 (teq hc202).2 rfl
              have r204 := r203.iconst (pc' := 63) (1 : Int32) d3_62 rfl rfl
              have hP : ¬ okc x0.toInt := by
                simp only [Int32.lt_iff_toInt_lt, ← Int32.toInt_inj, Int32.reduceToInt] at hc136 hc142 hc167 hc192 hc196 hc202
                simp only [okc]; omega
              rw [if_pos hP]
              exact ⟨_, _, r204.retZ d3_63 rfl (t := .boolean) (by simp) (1 : Int32) rfl (by decide) (by decide), ⟨rfl, rfl⟩⟩
            · -- not no
              have r205 := r201.icT (pc' := 64) d3_59 (feq hc202).2 (by decide) (by decide)
              have r206 := r205.iloadN (pc' := 65) d3_64 rfl rfl
              have r207 := r206.ldc (pc' := 67) d3_65 (hw _ (List.mem_of_getElem? (i := 9) rfl)) rfl
              by_cases hc208 : (1114111 : Int32) < x0
              · -- yes
                have r209 := r207.icF (pc' := 70) d3_67 (tlt hc208).2.2.2 rfl
                have r210 := r209.iconst (pc' := 71) (1 : Int32) d3_70 rfl rfl
                have r211 := r210.goto (pc' := 75) d3_71 (by decide) (by decide)
                have hP : ¬ okc x0.toInt := by
                  simp only [Int32.lt_iff_toInt_lt, ← Int32.toInt_inj, Int32.reduceToInt] at hc136 hc142 hc167 hc192 hc196 hc202 hc208
                  simp only [okc]; omega
                rw [if_pos hP]
                exact ⟨_, _, r211.retZ d3_75 rfl (t := .boolean) (by simp) (1 : Int32) rfl (by decide) (by decide), ⟨rfl, rfl⟩⟩
              · -- not no
                have r212 := r207.icT (pc' := 74) d3_67 (flt hc208).2.2.2 (by decide) (by decide)
                have r213 := r212.iconst (pc' := 75) (0 : Int32) d3_74 rfl rfl
                have hP : ¬ (¬ okc x0.toInt) := by
                  simp only [Int32.lt_iff_toInt_lt, ← Int32.toInt_inj, Int32.reduceToInt] at hc136 hc142 hc167 hc192 hc196 hc202 hc208
                  simp only [okc]; omega
                rw [if_neg hP]
                exact ⟨_, _, r213.retZ d3_75 rfl (t := .boolean) (by simp) (0 : Int32) rfl (by decide) (by decide), ⟨rfl, rfl⟩⟩
        · -- not no
          have r214 := r191.icF (pc' := 48) d3_45 (flt hc192).2.2.1 rfl
          have r215 := r214.iconst (pc' := 49) (1 : Int32) d3_48 rfl rfl
          have hP : ¬ okc x0.toInt := by
            simp only [Int32.lt_iff_toInt_lt, ← Int32.toInt_inj, Int32.reduceToInt] at hc136 hc142 hc167 hc192
            simp only [okc]; omega
          rw [if_pos hP]
          exact ⟨_, _, r215.retZ d3_49 rfl (t := .boolean) (by simp) (1 : Int32) rfl (by decide) (by decide), ⟨rfl, rfl⟩⟩
theorem d2_0 : decode method_3_code 0 = .ok (.iload_n 0, 1) := by decide +kernel
theorem d2_1 : decode method_3_code 1 = .ok (.invokestatic 30, 3) := by decide +kernel
theorem pd_0 : parseMethodDescriptor "(I)Z" = some ⟨[.int], some .boolean⟩ := by decide +kernel
theorem d2_4 : decode method_3_code 4 = .ok (.ifCond .ne 7, 3) := by decide +kernel
theorem d2_7 : decode method_3_code 7 = .ok (.iconst 1, 1) := by decide +kernel
theorem d2_8 : decode method_3_code 8 = .ok (.goto 4, 3) := by decide +kernel
theorem d2_12 : decode method_3_code 12 = .ok (.ireturn, 1) := by decide +kernel
theorem d2_11 : decode method_3_code 11 = .ok (.iconst 0, 1) := by decide +kernel
set_option maxRecDepth 65536 in
set_option maxHeartbeats 40000000 in
theorem c2 (l : Launch) (Z : State) (a0 : Array Value) (hw : ∀ d ∈ tables_1, d.before a0 Z = true) (x0 : Int32) (h0 : Heap) (n0 : Nat) :
    Ctr l Z (⟨"com/example/mingdang/mingdang/XmlScannerIsCharPinLaw", "allowed", "(I)Z"⟩ : MethodName) method_3_code 1 (some .boolean) ({ frames := 1, cells := 0, slots := 0, locals := 12 } : Room) #[(.int x0)] h0 n0 (fun v h => v = some (.int (if okc x0.toInt then (1 : Int32) else (0 : Int32))) ∧ h0 = h) := by
  refine ent (plainFor_of_name pn_com_example_mingdang_mingdang_XmlScannerIsCharPinLaw) (L0 := #[.val (.int x0)]) (fun m => by first | (simp [entryFrame, mkF, argsToLocals, Value.category]; done) | rfl) ?_
  intro p e s m below meth c T0 r0
  have r216 := r0.iloadN (pc' := 1) d2_0 rfl rfl
  obtain ⟨v219, h220, hq218, r217⟩ := r216.callS (pc' := 4) [(.int x0)] (rest := []) 0 d2_1 (hw _ (List.mem_of_getElem? (i := 23) rfl)) (hw _ (List.mem_of_getElem? (i := 24) rfl)) (hw _ (List.mem_of_getElem? (i := 21) rfl)) (hw _ (List.mem_of_getElem? (i := 25) rfl)) (by decide) (c3 l Z a0 hw x0 h0 n0) pd_0 rfl rfl rfl (Nat.le_of_ble_eq_true rfl) (by decide) (by decide) (k' := 0) (n' := 0) rfl rfl (by decide) (by decide) rfl
  obtain ⟨rfl, rfl⟩ := hq218
  dsimp only [Option.toList, List.cons_append, List.nil_append] at r217
  by_cases hc221 : (if ¬ okc x0.toInt then (1 : Int32) else (0 : Int32)) = (0 : Int32)
  · -- yes
    have r222 := r217.ifF (pc' := 7) d2_4 (teq hc221).2 rfl
    have r223 := r222.iconst (pc' := 8) (1 : Int32) d2_7 rfl rfl
    have r224 := r223.goto (pc' := 12) d2_8 (by decide) (by decide)
    have hP : okc x0.toInt := by
      apply Classical.byContradiction; intro hk; simp_all
    rw [if_pos hP]
    exact ⟨_, _, r224.retZ d2_12 rfl (t := .boolean) (by simp) (1 : Int32) rfl (by decide) (by decide), ⟨rfl, rfl⟩⟩
  · -- not no
    have r225 := r217.ifT (pc' := 11) d2_4 (feq hc221).2 (by decide) (by decide)
    have r226 := r225.iconst (pc' := 12) (0 : Int32) d2_11 rfl rfl
    have hP : ¬ okc x0.toInt := by
      apply Classical.byContradiction; intro hk; simp_all
    rw [if_neg hP]
    exact ⟨_, _, r226.retZ d2_12 rfl (t := .boolean) (by simp) (0 : Int32) rfl (by decide) (by decide), ⟨rfl, rfl⟩⟩
theorem idx16 (x : Int32) : ¬ (x &&& (15 : Int32)) < 0 ∧ (x &&& (15 : Int32)) < 16 := by
  have h1 := c_and x 15 (by decide)
  simp only [Int32.lt_iff_toInt_lt, Int32.reduceToInt] at h1 ⊢
  omega
set_option maxRecDepth 65536 in
set_option maxHeartbeats 40000000 in
theorem law (l : Launch) (Z : State) (a0 : Array Value) (hw : ∀ d ∈ tables_1, d.before a0 Z = true) (x0 x1 x2 : Int32) (h0 : Heap) (n0 : Nat) (Z0 : n0 ≤ h0.size) :
    Ctr l Z x code maxLocals ret room_1 #[(.int x0), (.int x1), (.int x2)] h0 n0 (fun v h => v = some (.int 1)) := by
  refine ent (plainFor_of_name pn_com_example_mingdang_mingdang_XmlScannerIsCharPinLaw) (L0 := #[.val (.int x0), .val (.int x1), .val (.int x2), .unset, .unset]) (fun m => by first | (simp [entryFrame, mkF, argsToLocals, Value.category, maxLocals]; done) | rfl) ?_
  intro p e s m below meth c T0 r0
  have r227 := r0.bipush (pc' := 2) (16 : Int32) at_0 rfl rfl
  obtain ⟨h228, b228, kc228, hb228, E228, V228, r228⟩ := r227.newP (pc' := 4) at_2 (hw _ (List.mem_of_getElem? (i := 0) rfl)) (by decide) (cap := 16) (by decide) (by decide) (k' := 1) (n' := 16) rfl rfl (by decide) (by decide) rfl
  have g228 : n0 ≤ b228 := hb228 ▸ Z0
  have zp228 : n0 ≤ h228.size := Nat.le_trans Z0 E228.1
  have r229 := r228.dup (pc' := 5) at_4 rfl rfl
  have r230 := r229.iconst (pc' := 6) (0 : Int32) at_5 rfl rfl
  have r231 := r230.iconst (pc' := 7) (0 : Int32) at_6 rfl rfl
  obtain ⟨h232, vs232, W232, V232, r232⟩ := r231.stI0 (pc' := 8) at_7 V228 (by decide) (by decide) g228 rfl
  have zp232 : n0 ≤ h232.size := Nat.le_trans zp228 (Nat.le_of_eq W232.size.symm)
  have r233 := r232.dup (pc' := 9) at_8 rfl rfl
  have r234 := r233.iconst (pc' := 10) (1 : Int32) at_9 rfl rfl
  have r235 := r234.bipush (pc' := 12) (9 : Int32) at_10 rfl rfl
  obtain ⟨h236, vs236, W236, V236, r236⟩ := r235.stI0 (pc' := 13) at_12 V232 (by decide) (by decide) g228 rfl
  have zp236 : n0 ≤ h236.size := Nat.le_trans zp232 (Nat.le_of_eq W236.size.symm)
  have r237 := r236.dup (pc' := 14) at_13 rfl rfl
  have r238 := r237.iconst (pc' := 15) (2 : Int32) at_14 rfl rfl
  have r239 := r238.bipush (pc' := 17) (10 : Int32) at_15 rfl rfl
  obtain ⟨h240, vs240, W240, V240, r240⟩ := r239.stI0 (pc' := 18) at_17 V236 (by decide) (by decide) g228 rfl
  have zp240 : n0 ≤ h240.size := Nat.le_trans zp236 (Nat.le_of_eq W240.size.symm)
  have r241 := r240.dup (pc' := 19) at_18 rfl rfl
  have r242 := r241.iconst (pc' := 20) (3 : Int32) at_19 rfl rfl
  have r243 := r242.bipush (pc' := 22) (13 : Int32) at_20 rfl rfl
  obtain ⟨h244, vs244, W244, V244, r244⟩ := r243.stI0 (pc' := 23) at_22 V240 (by decide) (by decide) g228 rfl
  have zp244 : n0 ≤ h244.size := Nat.le_trans zp240 (Nat.le_of_eq W244.size.symm)
  have r245 := r244.dup (pc' := 24) at_23 rfl rfl
  have r246 := r245.iconst (pc' := 25) (4 : Int32) at_24 rfl rfl
  have r247 := r246.bipush (pc' := 27) (32 : Int32) at_25 rfl rfl
  obtain ⟨h248, vs248, W248, V248, r248⟩ := r247.stI0 (pc' := 28) at_27 V244 (by decide) (by decide) g228 rfl
  have zp248 : n0 ≤ h248.size := Nat.le_trans zp244 (Nat.le_of_eq W248.size.symm)
  have r249 := r248.dup (pc' := 29) at_28 rfl rfl
  have r250 := r249.iconst (pc' := 30) (5 : Int32) at_29 rfl rfl
  have r251 := r250.ldc (pc' := 32) at_30 (hw _ (List.mem_of_getElem? (i := 1) rfl)) rfl
  obtain ⟨h252, vs252, W252, V252, r252⟩ := r251.stI0 (pc' := 33) at_32 V248 (by decide) (by decide) g228 rfl
  have zp252 : n0 ≤ h252.size := Nat.le_trans zp248 (Nat.le_of_eq W252.size.symm)
  have r253 := r252.dup (pc' := 34) at_33 rfl rfl
  have r254 := r253.bipush (pc' := 36) (6 : Int32) at_34 rfl rfl
  have r255 := r254.ldc (pc' := 38) at_36 (hw _ (List.mem_of_getElem? (i := 2) rfl)) rfl
  obtain ⟨h256, vs256, W256, V256, r256⟩ := r255.stI0 (pc' := 39) at_38 V252 (by decide) (by decide) g228 rfl
  have zp256 : n0 ≤ h256.size := Nat.le_trans zp252 (Nat.le_of_eq W256.size.symm)
  have r257 := r256.dup (pc' := 40) at_39 rfl rfl
  have r258 := r257.bipush (pc' := 42) (7 : Int32) at_40 rfl rfl
  have r259 := r258.ldc (pc' := 44) at_42 (hw _ (List.mem_of_getElem? (i := 3) rfl)) rfl
  obtain ⟨h260, vs260, W260, V260, r260⟩ := r259.stI0 (pc' := 45) at_44 V256 (by decide) (by decide) g228 rfl
  have zp260 : n0 ≤ h260.size := Nat.le_trans zp256 (Nat.le_of_eq W260.size.symm)
  have r261 := r260.dup (pc' := 46) at_45 rfl rfl
  have r262 := r261.bipush (pc' := 48) (8 : Int32) at_46 rfl rfl
  have r263 := r262.ldc (pc' := 50) at_48 (hw _ (List.mem_of_getElem? (i := 4) rfl)) rfl
  obtain ⟨h264, vs264, W264, V264, r264⟩ := r263.stI0 (pc' := 51) at_50 V260 (by decide) (by decide) g228 rfl
  have zp264 : n0 ≤ h264.size := Nat.le_trans zp260 (Nat.le_of_eq W264.size.symm)
  have r265 := r264.dup (pc' := 52) at_51 rfl rfl
  have r266 := r265.bipush (pc' := 54) (9 : Int32) at_52 rfl rfl
  have r267 := r266.ldc (pc' := 56) at_54 (hw _ (List.mem_of_getElem? (i := 5) rfl)) rfl
  obtain ⟨h268, vs268, W268, V268, r268⟩ := r267.stI0 (pc' := 57) at_56 V264 (by decide) (by decide) g228 rfl
  have zp268 : n0 ≤ h268.size := Nat.le_trans zp264 (Nat.le_of_eq W268.size.symm)
  have r269 := r268.dup (pc' := 58) at_57 rfl rfl
  have r270 := r269.bipush (pc' := 60) (10 : Int32) at_58 rfl rfl
  have r271 := r270.ldc (pc' := 62) at_60 (hw _ (List.mem_of_getElem? (i := 6) rfl)) rfl
  obtain ⟨h272, vs272, W272, V272, r272⟩ := r271.stI0 (pc' := 63) at_62 V268 (by decide) (by decide) g228 rfl
  have zp272 : n0 ≤ h272.size := Nat.le_trans zp268 (Nat.le_of_eq W272.size.symm)
  have r273 := r272.dup (pc' := 64) at_63 rfl rfl
  have r274 := r273.bipush (pc' := 66) (11 : Int32) at_64 rfl rfl
  have r275 := r274.ldc (pc' := 68) at_66 (hw _ (List.mem_of_getElem? (i := 7) rfl)) rfl
  obtain ⟨h276, vs276, W276, V276, r276⟩ := r275.stI0 (pc' := 69) at_68 V272 (by decide) (by decide) g228 rfl
  have zp276 : n0 ≤ h276.size := Nat.le_trans zp272 (Nat.le_of_eq W276.size.symm)
  have r277 := r276.dup (pc' := 70) at_69 rfl rfl
  have r278 := r277.bipush (pc' := 72) (12 : Int32) at_70 rfl rfl
  have r279 := r278.ldc (pc' := 74) at_72 (hw _ (List.mem_of_getElem? (i := 8) rfl)) rfl
  obtain ⟨h280, vs280, W280, V280, r280⟩ := r279.stI0 (pc' := 75) at_74 V276 (by decide) (by decide) g228 rfl
  have zp280 : n0 ≤ h280.size := Nat.le_trans zp276 (Nat.le_of_eq W280.size.symm)
  have r281 := r280.dup (pc' := 76) at_75 rfl rfl
  have r282 := r281.bipush (pc' := 78) (13 : Int32) at_76 rfl rfl
  have r283 := r282.ldc (pc' := 80) at_78 (hw _ (List.mem_of_getElem? (i := 9) rfl)) rfl
  obtain ⟨h284, vs284, W284, V284, r284⟩ := r283.stI0 (pc' := 81) at_80 V280 (by decide) (by decide) g228 rfl
  have zp284 : n0 ≤ h284.size := Nat.le_trans zp280 (Nat.le_of_eq W284.size.symm)
  have r285 := r284.dup (pc' := 82) at_81 rfl rfl
  have r286 := r285.bipush (pc' := 84) (14 : Int32) at_82 rfl rfl
  have r287 := r286.ldc (pc' := 86) at_84 (hw _ (List.mem_of_getElem? (i := 10) rfl)) rfl
  obtain ⟨h288, vs288, W288, V288, r288⟩ := r287.stI0 (pc' := 87) at_86 V284 (by decide) (by decide) g228 rfl
  have zp288 : n0 ≤ h288.size := Nat.le_trans zp284 (Nat.le_of_eq W288.size.symm)
  have r289 := r288.dup (pc' := 88) at_87 rfl rfl
  have r290 := r289.bipush (pc' := 90) (15 : Int32) at_88 rfl rfl
  have r291 := r290.ldc (pc' := 92) at_90 (hw _ (List.mem_of_getElem? (i := 11) rfl)) rfl
  obtain ⟨h292, vs292, W292, V292, r292⟩ := r291.stI0 (pc' := 93) at_92 V288 (by decide) (by decide) g228 rfl
  have zp292 : n0 ≤ h292.size := Nat.le_trans zp288 (Nat.le_of_eq W292.size.symm)
  have r293 := r292.astoreN (pc' := 94) (L' := #[.val (.int x0), .val (.int x1), .val (.int x2), .val (.ref b228), .unset]) at_93 rfl rfl rfl
  have r294 := r293.aloadN (pc' := 95) at_94 rfl rfl rfl
  have r295 := r294.iloadN (pc' := 96) at_95 rfl rfl
  have r296 := r295.bipush (pc' := 98) (15 : Int32) at_96 rfl rfl
  have r297 := r296.iand (pc' := 99) at_98 rfl rfl
  obtain ⟨x298, -, r298⟩ := r297.ldI0 (pc' := 100) at_99 V292 (idx16 x1).1 (idx16 x1).2 rfl
  have r299 := r298.iloadN (pc' := 101) at_100 rfl rfl
  have r300 := r299.ldc (pc' := 103) at_101 (hw _ (List.mem_of_getElem? (i := 12) rfl)) rfl
  have r301 := r300.iand (pc' := 104) at_103 rfl rfl
  have r302 := r301.iconst (pc' := 105) (5 : Int32) at_104 rfl rfl
  have r303 := r302.irem (pc' := 106) at_105 (by decide) rfl rfl
  have r304 := r303.iadd (pc' := 107) at_106 rfl rfl
  have r305 := r304.iconst (pc' := 108) (2 : Int32) at_107 rfl rfl
  have r306 := r305.isub (pc' := 109) at_108 rfl rfl
  have r307 := r306.istore (pc' := 111) (L' := #[.val (.int x0), .val (.int x1), .val (.int x2), .val (.ref b228), .val (.int ((x298 + ((x2 &&& (2147483647 : Int32)) % (5 : Int32))) - (2 : Int32)))]) at_109 rfl rfl
  obtain ⟨cc, hcc⟩ : ∃ z, z = ((x298 + ((x2 &&& (2147483647 : Int32)) % (5 : Int32))) - (2 : Int32)) := ⟨_, rfl⟩
  rw [← hcc] at r307
  have r308 := r307.iloadN (pc' := 112) at_111 rfl rfl
  obtain ⟨v311, h312, hq310, r309⟩ := r308.callS (pc' := 115) [(.int x0)] (rest := []) 0 at_112 (hw _ (List.mem_of_getElem? (i := 13) rfl)) (hw _ (List.mem_of_getElem? (i := 14) rfl)) (hw _ (List.mem_of_getElem? (i := 15) rfl)) (hw _ (List.mem_of_getElem? (i := 16) rfl)) (by decide) (c1 l Z a0 hw x0 h292 n0) pd_0 rfl rfl rfl (Nat.le_of_ble_eq_true rfl) (by decide) (by decide) (k' := 1) (n' := 16) rfl rfl (by decide) (by decide) rfl
  obtain ⟨rfl, rfl⟩ := hq310
  dsimp only [Option.toList, List.cons_append, List.nil_append] at r309
  have r313 := r309.iloadN (pc' := 116) at_115 rfl rfl
  obtain ⟨v316, h317, hq315, r314⟩ := r313.callS (pc' := 119) [(.int x0)] (rest := [(.int (if okc x0.toInt then (1 : Int32) else (0 : Int32)))]) 1 at_116 (hw _ (List.mem_of_getElem? (i := 19) rfl)) (hw _ (List.mem_of_getElem? (i := 20) rfl)) (hw _ (List.mem_of_getElem? (i := 21) rfl)) (hw _ (List.mem_of_getElem? (i := 22) rfl)) (by decide) (c2 l Z a0 hw x0 h292 n0) pd_0 rfl rfl rfl (Nat.le_of_ble_eq_true rfl) (by decide) (by decide) (k' := 1) (n' := 16) rfl rfl (by decide) (by decide) rfl
  obtain ⟨rfl, rfl⟩ := hq315
  dsimp only [Option.toList, List.cons_append, List.nil_append] at r314
  have r318 := r314.icF (pc' := 122) at_119 (teq (rfl : (if okc x0.toInt then (1 : Int32) else (0 : Int32)) = (if okc x0.toInt then (1 : Int32) else (0 : Int32)))).2 rfl
  have r319 := r318.iload (pc' := 124) at_122 rfl rfl
  obtain ⟨v322, h323, hq321, r320⟩ := r319.callS (pc' := 127) [(.int cc)] (rest := []) 0 at_124 (hw _ (List.mem_of_getElem? (i := 13) rfl)) (hw _ (List.mem_of_getElem? (i := 14) rfl)) (hw _ (List.mem_of_getElem? (i := 15) rfl)) (hw _ (List.mem_of_getElem? (i := 16) rfl)) (by decide) (c1 l Z a0 hw cc h292 n0) pd_0 rfl rfl rfl (Nat.le_of_ble_eq_true rfl) (by decide) (by decide) (k' := 1) (n' := 16) rfl rfl (by decide) (by decide) rfl
  obtain ⟨rfl, rfl⟩ := hq321
  dsimp only [Option.toList, List.cons_append, List.nil_append] at r320
  have r324 := r320.iload (pc' := 129) at_127 rfl rfl
  obtain ⟨v327, h328, hq326, r325⟩ := r324.callS (pc' := 132) [(.int cc)] (rest := [(.int (if okc cc.toInt then (1 : Int32) else (0 : Int32)))]) 1 at_129 (hw _ (List.mem_of_getElem? (i := 19) rfl)) (hw _ (List.mem_of_getElem? (i := 20) rfl)) (hw _ (List.mem_of_getElem? (i := 21) rfl)) (hw _ (List.mem_of_getElem? (i := 22) rfl)) (by decide) (c2 l Z a0 hw cc h292 n0) pd_0 rfl rfl rfl (Nat.le_of_ble_eq_true rfl) (by decide) (by decide) (k' := 1) (n' := 16) rfl rfl (by decide) (by decide) rfl
  obtain ⟨rfl, rfl⟩ := hq326
  dsimp only [Option.toList, List.cons_append, List.nil_append] at r325
  have r329 := r325.icF (pc' := 135) at_132 (teq (rfl : (if okc cc.toInt then (1 : Int32) else (0 : Int32)) = (if okc cc.toInt then (1 : Int32) else (0 : Int32)))).2 rfl
  have r330 := r329.iconst (pc' := 136) (1 : Int32) at_135 rfl rfl
  have r331 := r330.goto (pc' := 140) at_136 (by decide) (by decide)
  exact ⟨_, _, r331.retZ at_140 rfl (t := .boolean) (by simp) (1 : Int32) rfl (by decide) (by decide), rfl⟩
set_option maxRecDepth 65536 in
set_option maxHeartbeats 40000000 in
theorem comes_1 {Post : Tables → Env → Array Value → State → Outcome → State → Prop} (hpost : ∀ tb e args s v u, (limb_1_1.after args s (.returned v) u = true ∧ limb_1_2.after args s (.returned v) u = true ∧ True) → FrameEnd s (.returned v) u (Jvm.fieldLocs frame_1_writes args s ++ Jvm.arrayLocs frame_1_arrays args s ++ Jvm.staticLocs frame_1_statics s) 16 128 → Post tb e args s (.returned v) u) :
    ArmFor flags0 classFile x code maxLocals ret World_1 tables_1 room_1 Calls_1 rest_1 Pre_1 Post := by
  intro l hfl _ _ p e ha hc hk s m args below hf hA hF happ hP
  obtain ⟨hcalls, hrest, hpre⟩ := hP
  obtain ⟨-, -, -, hnamed, -, -, -, hat⟩ := (Spec.applies_iff hf).mp happ
  obtain ⟨hg, hn⟩ := and_e (Cond.before_iff.mp (show (Jvm.Cond.and given_1 narrow_1).before args s = true from hpre))
  obtain ⟨gg1, gg2⟩ := and_e hg
  obtain ⟨gg3, gg4⟩ := and_e gg2
  obtain ⟨gg5, gg6⟩ := and_e gg4
  obtain ⟨w0, w1, w2, rfl⟩ : ∃ w0 w1 w2 : Value, args = #[w0, w1, w2] := by
    have hs : args.size = 3 := by simpa [Cond.value, given_1] using gg1
    obtain ⟨L⟩ := args
    match L, hs with
    | [w0, w1, w2], _ => exact ⟨w0, w1, w2, rfl⟩
  have hw := fun d (hd : d ∈ tables_1) => atoms_spec (ws := Jvm.Cond.code x code maxLocals ret :: tables_1) hat d (List.mem_cons_of_mem _ hd)
  obtain ⟨i0, ei0⟩ := is_v gg3
  obtain rfl : w0 = (.int i0) := Option.some.inj ei0
  obtain ⟨i1, ei1⟩ := is_v gg5
  obtain rfl : w1 = (.int i1) := Option.some.inj ei1
  obtain ⟨i2, ei2⟩ := is_v gg6
  obtain rfl : w2 = (.int i2) := Option.some.inj ei2
  obtain ⟨n, o, h1, h2, h3, _, L, rfl, ⟨N, rfl⟩, hq⟩ := law l s _ hw i0 i1 i2 s.heap s.heap.size (Nat.le_refl _) tables_1 p e ha hc hk s m _ below hf ((Spec.applies_iff_loose hf).mp happ).1 ⟨rfl, State.Warmed39.refl s, rfl⟩ trivial
  refine ⟨n, _, h1, h2, h3, hpost _ _ _ _ _ _ ⟨Cond.after_iff.mpr rfl, Cond.after_iff.mpr (eq_i res_at (Term.int_eval (1)) rfl), trivial⟩ ⟨hq.1, hq.2.1, (hq.2.2.sift fun y hy => Or.inr (N y hy)).mono (by decide) (by decide)⟩⟩
theorem main_1_1 : Claimed_1_1 := comes_1 fun _ _ _ _ _ _ h hF => ⟨h.1, hF⟩
theorem main_1_2 : Claimed_1_2 := comes_1 fun _ _ _ _ _ _ h hF => ⟨h.2.1, hF⟩

end Jvm.Pilot.@@N@@
namespace Jvm.Pilot.@@N@@
open Jvm Jvm.ClassFile Sem Op Lib Jvm.Free Jvm.Stand Jvm.Pilot.@@N@@.Jvm.D
/-! MADE BY PROGRAM (witnessworld.py) out of the Statement's table words and the real class files: 10 classes; the members and pool entries that the words name. The judged class is class 1, her method 1. -/
namespace start1
open Jvm.ClassFile
def u (s : String) : CpInfo := .utf8 (stringToUtf16 s)
/-- a pool by its gaps: so many unusable entries, then the entry; so many at the end -/
def gap : Nat → List CpInfo → List CpInfo
  | 0, r => r
  | n + 1, r => .unusable :: gap n r
def poolList (es : List (Nat × CpInfo)) (last : Nat) : List CpInfo := es.foldr (fun e r => gap e.1 (e.2 :: r)) (gap last [])
def pool (es : List (Nat × CpInfo)) (last : Nat) : Array CpInfo := ⟨poolList es last⟩
def fileOf (pool : Array CpInfo) (this : Nat) (attrs : Array Attribute := #[]) (ms : Array MethodInfo := #[]) (fl : Nat := 33) (sup : Nat := 0) (ifs : Array Nat := #[]) (fds : Array FieldInfo := #[]) : ClassFile where
  minorVersion := 0
  majorVersion := 65
  constantPool := pool
  accessFlags := fl
  thisClass := this
  superClass := sup
  interfaces := ifs
  fields := fds
  methods := ms
  attributes := attrs
def plain (name : String) (sup : Option ClassId) : Class where
  name := name
  kind := .ordinary
  loader := none
  accessFlags := 33
  super := sup
  interfaces := #[]
  cf := none
  fields := #[]
  methods := #[]
  instanceTypes := #[]
  staticTypes := #[]
  resolved := #[]
  callSites := []
  init := .initialized
  statics := none
  mirror := none

def pool0 : Array CpInfo := pool [(5, u "<init>"), (0, u "()V"), (1, .class_ 10), (1, u "java/lang/Object")] 113

def k0m0 : Method := { name := "<init>", desc := "()V", sig := { parameters := [], returnType := none }, accessFlags := 1, code := none }
/-- java/lang/Object -/
def k0 : Class := { plain "java/lang/Object" none with
  accessFlags := 33
  interfaces := #[]
  cf := some (fileOf pool0 8 #[] #[{ accessFlags := 1, nameIndex := 5, descriptorIndex := 6, attributes := #[] }] 33 0 #[] #[])
  fields := #[]
  methods := #[k0m0]
  instanceTypes := #[]
  staticTypes := #[]
  resolved := Array.replicate 124 none
  statics := none }

def pool1 : Array CpInfo := pool [(2, .class_ 4), (1, u "java/lang/Object"), (0, u "<init>"), (0, u "()V"), (0, .integer 55295), (0, .integer 55296), (0, .integer 57343), (0, .integer 57344), (0, .integer 65533), (0, .integer 65534), (0, .integer 65535), (0, .integer 65536), (0, .integer 1114111), (0, .integer 1114112), (0, .integer 2147483648), (0, .integer 2147483647), (0, .methodref 20 21), (0, .class_ 22), (0, .nameAndType 23 24), (0, u "com/example/mingdang/mingdang/XmlScanner"), (0, u "isChar"), (0, u "(I)Z"), (0, .methodref 26 27), (0, .class_ 28), (0, .nameAndType 29 24), (0, u "com/example/mingdang/mingdang/XmlScannerIsCharPinLaw"), (0, u "allowed"), (0, .methodref 26 31), (0, .nameAndType 32 24), (0, u "forbidden"), (2, u "law"), (0, u "(III)Z")] 5

def k1m0 : Method := { name := "<init>", desc := "()V", sig := { parameters := [], returnType := none }, accessFlags := 2, code := none }
def k1c1 : Code := { maxStack := 4, maxLocals := 5, code := code, exceptionTable := #[], attributes := #[] }
def k1m1 : Method := { name := "law", desc := "(III)Z", sig := { parameters := [.int, .int, .int], returnType := some .boolean }, accessFlags := 9, code := some k1c1 }
def k1c2 : Code := { maxStack := 1, maxLocals := 1, code := method_3_code, exceptionTable := #[], attributes := #[] }
def k1m2 : Method := { name := "allowed", desc := "(I)Z", sig := { parameters := [.int], returnType := some .boolean }, accessFlags := 10, code := some k1c2 }
def k1c3 : Code := { maxStack := 2, maxLocals := 1, code := method_4_code, exceptionTable := #[], attributes := #[] }
def k1m3 : Method := { name := "forbidden", desc := "(I)Z", sig := { parameters := [.int], returnType := some .boolean }, accessFlags := 10, code := some k1c3 }
/-- com/example/mingdang/mingdang/XmlScannerIsCharPinLaw -/
def k1 : Class := { plain "com/example/mingdang/mingdang/XmlScannerIsCharPinLaw" (some 0) with
  accessFlags := 49
  interfaces := #[]
  cf := some (fileOf pool1 26 #[] #[{ accessFlags := 2, nameIndex := 5, descriptorIndex := 6, attributes := #[] }, { accessFlags := 9, nameIndex := 35, descriptorIndex := 36, attributes := #[] }, { accessFlags := 10, nameIndex := 29, descriptorIndex := 24, attributes := #[] }, { accessFlags := 10, nameIndex := 32, descriptorIndex := 24, attributes := #[] }] 49 2 #[] #[])
  fields := #[]
  methods := #[k1m0, k1m1, k1m2, k1m3]
  instanceTypes := #[]
  staticTypes := #[]
  resolved := Array.replicate 42 none
  statics := none }

def pool2 : Array CpInfo := pool [(1, .class_ 2), (0, u "com/example/mingdang/mingdang/StartTag$Scope"), (0, .class_ 4), (0, u "java/lang/Object"), (5, .class_ 11), (0, u "com/example/mingdang/mingdang/StartTag")] 2

/-- com/example/mingdang/mingdang/StartTag$Scope -/
def k2 : Class := { plain "com/example/mingdang/mingdang/StartTag$Scope" (some 0) with
  accessFlags := 1536
  interfaces := #[]
  cf := some (fileOf pool2 1 #[.nestHost 10] #[] 1536 3 #[] #[])
  fields := #[]
  methods := #[]
  instanceTypes := #[]
  staticTypes := #[]
  resolved := Array.replicate 14 none
  statics := none }

def pool3 : Array CpInfo := pool [(2, .class_ 4), (1, u "java/lang/Object"), (2, .class_ 8), (0, u "com/example/mingdang/mingdang/XmlScanner"), (3, u "buffer"), (0, u "[B"), (0, .class_ 15), (0, u "com/example/mingdang/mingdang/XmlScanner$Name"), (2, u "open"), (0, u "[Lcom/example/mingdang/mingdang/XmlScanner$Name;"), (2, u "scopes"), (0, u "[I"), (5, u "declarations"), (0, u "Lcom/example/mingdang/mingdang/Namespaces;"), (6, u "namespaces"), (0, u "[Ljava/lang/String;"), (2, u "namesAt"), (2, u "names"), (2, u "localNames"), (2, u "qualifiedNames"), (2, u "from"), (2, u "to"), (2, u "kinds"), (2, u "values"), (2, u "text"), (0, u "[C"), (2, u "symbols"), (5, u "written"), (0, u "Lcom/example/mingdang/mingdang/WrittenValues;"), (5, u "tag"), (0, u "Lcom/example/mingdang/mingdang/StartTag;"), (2, u "maxMarkup"), (0, u "I"), (2, u "maxAttributes"), (16, u "in"), (0, u "Ljava/io/InputStream;"), (2, u "limit"), (2, u "ended"), (0, u "Z"), (2, u "dropped"), (5, u "pos"), (2, u "mark"), (2, u "line"), (2, u "rooted"), (2, u "depth"), (2, u "empty"), (2, u "inCdata"), (5, u "attributes"), (2, u "textLength"), (29, u "tagLine"), (20, u "(I)Z"), (31, u "Ljava/lang/String;"), (46, u "isChar"), (25, u "many"), (286, .integer 65536), (83, .integer 1114111), (0, .integer 55295), (0, .integer 57344), (0, .integer 65533), (25, u "NAMES"), (12, u "symbolCount"), (43, .class_ 765), (0, u "com/example/mingdang/mingdang/StartTag$Scope"), (0, u "DONE"), (2, u "START"), (1, u "TEXT"), (1, u "END"), (1, u "NONE"), (1, u "TEXT_PIECE"), (1, u "UTF8_DECLARATION"), (0, u "ONLY_UTF8"), (2, u "DOCTYPE"), (0, u "VALUE"), (2, u "BUFFER"), (0, u "SYMBOLS"), (1, u "PROBES"), (1, u "NOT_KEPT"), (0, u "LONGEST_KEPT_NAME"), (1, u "NOT_UTF8"), (0, u "STARTS"), (0, u "B"), (0, u "WITHIN")] 69

def k3c0 : Code := { maxStack := 2, maxLocals := 1, code := prog_179_method_62_code, exceptionTable := #[], attributes := #[] }
def k3m0 : Method := { name := "isChar", desc := "(I)Z", sig := { parameters := [.int], returnType := some .boolean }, accessFlags := 8, code := some k3c0 }
/-- com/example/mingdang/mingdang/XmlScanner -/
def k3 : Class := { plain "com/example/mingdang/mingdang/XmlScanner" (some 0) with
  accessFlags := 48
  interfaces := #[2]
  cf := some (fileOf pool3 7 #[.nestMembers #[14]] #[{ accessFlags := 8, nameIndex := 281, descriptorIndex := 202, attributes := #[] }] 48 2 #[764] #[{ accessFlags := 24, nameIndex := 766, descriptorIndex := 87, attributes := #[] }, { accessFlags := 24, nameIndex := 769, descriptorIndex := 87, attributes := #[] }, { accessFlags := 24, nameIndex := 771, descriptorIndex := 87, attributes := #[] }, { accessFlags := 24, nameIndex := 773, descriptorIndex := 87, attributes := #[] }, { accessFlags := 26, nameIndex := 775, descriptorIndex := 87, attributes := #[] }, { accessFlags := 24, nameIndex := 777, descriptorIndex := 87, attributes := #[] }, { accessFlags := 26, nameIndex := 779, descriptorIndex := 234, attributes := #[] }, { accessFlags := 26, nameIndex := 780, descriptorIndex := 234, attributes := #[] }, { accessFlags := 24, nameIndex := 783, descriptorIndex := 234, attributes := #[] }, { accessFlags := 26, nameIndex := 784, descriptorIndex := 234, attributes := #[] }, { accessFlags := 26, nameIndex := 787, descriptorIndex := 87, attributes := #[] }, { accessFlags := 26, nameIndex := 788, descriptorIndex := 87, attributes := #[] }, { accessFlags := 26, nameIndex := 790, descriptorIndex := 87, attributes := #[] }, { accessFlags := 26, nameIndex := 792, descriptorIndex := 87, attributes := #[] }, { accessFlags := 26, nameIndex := 793, descriptorIndex := 87, attributes := #[] }, { accessFlags := 26, nameIndex := 795, descriptorIndex := 87, attributes := #[] }, { accessFlags := 26, nameIndex := 707, descriptorIndex := 13, attributes := #[] }, { accessFlags := 26, nameIndex := 796, descriptorIndex := 797, attributes := #[] }, { accessFlags := 26, nameIndex := 798, descriptorIndex := 797, attributes := #[] }, { accessFlags := 18, nameIndex := 86, descriptorIndex := 87, attributes := #[] }, { accessFlags := 18, nameIndex := 90, descriptorIndex := 87, attributes := #[] }, { accessFlags := 2, nameIndex := 107, descriptorIndex := 108, attributes := #[] }, { accessFlags := 2, nameIndex := 12, descriptorIndex := 13, attributes := #[] }, { accessFlags := 2, nameIndex := 124, descriptorIndex := 87, attributes := #[] }, { accessFlags := 2, nameIndex := 111, descriptorIndex := 87, attributes := #[] }, { accessFlags := 2, nameIndex := 127, descriptorIndex := 87, attributes := #[] }, { accessFlags := 2, nameIndex := 114, descriptorIndex := 115, attributes := #[] }, { accessFlags := 2, nameIndex := 118, descriptorIndex := 115, attributes := #[] }, { accessFlags := 2, nameIndex := 130, descriptorIndex := 87, attributes := #[] }, { accessFlags := 2, nameIndex := 133, descriptorIndex := 115, attributes := #[] }, { accessFlags := 2, nameIndex := 18, descriptorIndex := 19, attributes := #[] }, { accessFlags := 2, nameIndex := 22, descriptorIndex := 23, attributes := #[] }, { accessFlags := 2, nameIndex := 136, descriptorIndex := 87, attributes := #[] }, { accessFlags := 2, nameIndex := 139, descriptorIndex := 115, attributes := #[] }, { accessFlags := 2, nameIndex := 142, descriptorIndex := 115, attributes := #[] }, { accessFlags := 18, nameIndex := 29, descriptorIndex := 30, attributes := #[] }, { accessFlags := 2, nameIndex := 181, descriptorIndex := 87, attributes := #[] }, { accessFlags := 2, nameIndex := 37, descriptorIndex := 38, attributes := #[] }, { accessFlags := 2, nameIndex := 41, descriptorIndex := 23, attributes := #[] }, { accessFlags := 18, nameIndex := 44, descriptorIndex := 19, attributes := #[] }, { accessFlags := 18, nameIndex := 47, descriptorIndex := 38, attributes := #[] }, { accessFlags := 18, nameIndex := 50, descriptorIndex := 38, attributes := #[] }, { accessFlags := 18, nameIndex := 53, descriptorIndex := 23, attributes := #[] }, { accessFlags := 18, nameIndex := 56, descriptorIndex := 23, attributes := #[] }, { accessFlags := 18, nameIndex := 59, descriptorIndex := 13, attributes := #[] }, { accessFlags := 18, nameIndex := 62, descriptorIndex := 38, attributes := #[] }, { accessFlags := 2, nameIndex := 148, descriptorIndex := 87, attributes := #[] }, { accessFlags := 2, nameIndex := 307, descriptorIndex := 115, attributes := #[] }, { accessFlags := 18, nameIndex := 65, descriptorIndex := 66, attributes := #[] }, { accessFlags := 2, nameIndex := 151, descriptorIndex := 87, attributes := #[] }, { accessFlags := 18, nameIndex := 69, descriptorIndex := 19, attributes := #[] }, { accessFlags := 2, nameIndex := 720, descriptorIndex := 87, attributes := #[] }, { accessFlags := 18, nameIndex := 75, descriptorIndex := 76, attributes := #[] }, { accessFlags := 18, nameIndex := 82, descriptorIndex := 83, attributes := #[] }])
  fields := #[{ name := "DONE", type := .int, accessFlags := 24, slot := 0, constantValue := 0 }, { name := "START", type := .int, accessFlags := 24, slot := 1, constantValue := 0 }, { name := "TEXT", type := .int, accessFlags := 24, slot := 2, constantValue := 0 }, { name := "END", type := .int, accessFlags := 24, slot := 3, constantValue := 0 }, { name := "NONE", type := .int, accessFlags := 26, slot := 4, constantValue := 0 }, { name := "TEXT_PIECE", type := .int, accessFlags := 24, slot := 5, constantValue := 0 }, { name := "UTF8_DECLARATION", type := (.object "java/lang/String"), accessFlags := 26, slot := 6, constantValue := 0 }, { name := "ONLY_UTF8", type := (.object "java/lang/String"), accessFlags := 26, slot := 7, constantValue := 0 }, { name := "DOCTYPE", type := (.object "java/lang/String"), accessFlags := 24, slot := 8, constantValue := 0 }, { name := "VALUE", type := (.object "java/lang/String"), accessFlags := 26, slot := 9, constantValue := 0 }, { name := "BUFFER", type := .int, accessFlags := 26, slot := 10, constantValue := 0 }, { name := "SYMBOLS", type := .int, accessFlags := 26, slot := 11, constantValue := 0 }, { name := "PROBES", type := .int, accessFlags := 26, slot := 12, constantValue := 0 }, { name := "NOT_KEPT", type := .int, accessFlags := 26, slot := 13, constantValue := 0 }, { name := "LONGEST_KEPT_NAME", type := .int, accessFlags := 26, slot := 14, constantValue := 0 }, { name := "NOT_UTF8", type := .int, accessFlags := 26, slot := 15, constantValue := 0 }, { name := "NAMES", type := (.array .byte), accessFlags := 26, slot := 16, constantValue := 0 }, { name := "STARTS", type := .byte, accessFlags := 26, slot := 17, constantValue := 0 }, { name := "WITHIN", type := .byte, accessFlags := 26, slot := 18, constantValue := 0 }, { name := "maxMarkup", type := .int, accessFlags := 18, slot := 0, constantValue := 0 }, { name := "maxAttributes", type := .int, accessFlags := 18, slot := 1, constantValue := 0 }, { name := "in", type := (.object "java/io/InputStream"), accessFlags := 2, slot := 2, constantValue := 0 }, { name := "buffer", type := (.array .byte), accessFlags := 2, slot := 3, constantValue := 0 }, { name := "pos", type := .int, accessFlags := 2, slot := 4, constantValue := 0 }, { name := "limit", type := .int, accessFlags := 2, slot := 5, constantValue := 0 }, { name := "mark", type := .int, accessFlags := 2, slot := 6, constantValue := 0 }, { name := "ended", type := .boolean, accessFlags := 2, slot := 7, constantValue := 0 }, { name := "dropped", type := .boolean, accessFlags := 2, slot := 8, constantValue := 0 }, { name := "line", type := .int, accessFlags := 2, slot := 9, constantValue := 0 }, { name := "rooted", type := .boolean, accessFlags := 2, slot := 10, constantValue := 0 }, { name := "open", type := (.array (.object "com/example/mingdang/mingdang/XmlScanner$Name")), accessFlags := 2, slot := 11, constantValue := 0 }, { name := "scopes", type := (.array .int), accessFlags := 2, slot := 12, constantValue := 0 }, { name := "depth", type := .int, accessFlags := 2, slot := 13, constantValue := 0 }, { name := "empty", type := .boolean, accessFlags := 2, slot := 14, constantValue := 0 }, { name := "inCdata", type := .boolean, accessFlags := 2, slot := 15, constantValue := 0 }, { name := "declarations", type := (.object "com/example/mingdang/mingdang/Namespaces"), accessFlags := 18, slot := 16, constantValue := 0 }, { name := "tagLine", type := .int, accessFlags := 2, slot := 17, constantValue := 0 }, { name := "namespaces", type := (.array (.object "java/lang/String")), accessFlags := 2, slot := 18, constantValue := 0 }, { name := "namesAt", type := (.array .int), accessFlags := 2, slot := 19, constantValue := 0 }, { name := "names", type := (.array (.object "com/example/mingdang/mingdang/XmlScanner$Name")), accessFlags := 18, slot := 20, constantValue := 0 }, { name := "localNames", type := (.array (.object "java/lang/String")), accessFlags := 18, slot := 21, constantValue := 0 }, { name := "qualifiedNames", type := (.array (.object "java/lang/String")), accessFlags := 18, slot := 22, constantValue := 0 }, { name := "from", type := (.array .int), accessFlags := 18, slot := 23, constantValue := 0 }, { name := "to", type := (.array .int), accessFlags := 18, slot := 24, constantValue := 0 }, { name := "kinds", type := (.array .byte), accessFlags := 18, slot := 25, constantValue := 0 }, { name := "values", type := (.array (.object "java/lang/String")), accessFlags := 18, slot := 26, constantValue := 0 }, { name := "attributes", type := .int, accessFlags := 2, slot := 27, constantValue := 0 }, { name := "many", type := .boolean, accessFlags := 2, slot := 28, constantValue := 0 }, { name := "text", type := (.array .char), accessFlags := 18, slot := 29, constantValue := 0 }, { name := "textLength", type := .int, accessFlags := 2, slot := 30, constantValue := 0 }, { name := "symbols", type := (.array (.object "com/example/mingdang/mingdang/XmlScanner$Name")), accessFlags := 18, slot := 31, constantValue := 0 }, { name := "symbolCount", type := .int, accessFlags := 2, slot := 32, constantValue := 0 }, { name := "written", type := (.object "com/example/mingdang/mingdang/WrittenValues"), accessFlags := 18, slot := 33, constantValue := 0 }, { name := "tag", type := (.object "com/example/mingdang/mingdang/StartTag"), accessFlags := 18, slot := 34, constantValue := 0 }]
  methods := #[k3m0]
  instanceTypes := #[.int, .int, (.object "java/io/InputStream"), (.array .byte), .int, .int, .int, .boolean, .boolean, .int, .boolean, (.array (.object "com/example/mingdang/mingdang/XmlScanner$Name")), (.array .int), .int, .boolean, .boolean, (.object "com/example/mingdang/mingdang/Namespaces"), .int, (.array (.object "java/lang/String")), (.array .int), (.array (.object "com/example/mingdang/mingdang/XmlScanner$Name")), (.array (.object "java/lang/String")), (.array (.object "java/lang/String")), (.array .int), (.array .int), (.array .byte), (.array (.object "java/lang/String")), .int, .boolean, (.array .char), .int, (.array (.object "com/example/mingdang/mingdang/XmlScanner$Name")), .int, (.object "com/example/mingdang/mingdang/WrittenValues"), (.object "com/example/mingdang/mingdang/StartTag")]
  staticTypes := #[.int, .int, .int, .int, .int, .int, (.object "java/lang/String"), (.object "java/lang/String"), (.object "java/lang/String"), (.object "java/lang/String"), .int, .int, .int, .int, .int, .int, (.array .byte), .byte, .byte]
  resolved := Array.replicate 868 none
  statics := none }

def pool4 : Array CpInfo := pool [(1, u "java/lang/Cloneable"), (0, .class_ 1), (0, u "java/lang/Object"), (0, .class_ 3)] 3

/-- java/lang/Cloneable -/
def k4 : Class := { plain "java/lang/Cloneable" (some 0) with
  accessFlags := 1537
  interfaces := #[]
  cf := some (fileOf pool4 2 #[] #[] 1537 4 #[] #[])
  fields := #[]
  methods := #[]
  instanceTypes := #[]
  staticTypes := #[]
  resolved := Array.replicate 8 none
  statics := none }

def pool5 : Array CpInfo := pool [(1, u "java/io/Serializable"), (0, .class_ 1), (0, u "java/lang/Object"), (0, .class_ 3)] 3

/-- java/io/Serializable -/
def k5 : Class := { plain "java/io/Serializable" (some 0) with
  accessFlags := 1537
  interfaces := #[]
  cf := some (fileOf pool5 2 #[] #[] 1537 4 #[] #[])
  fields := #[]
  methods := #[]
  instanceTypes := #[]
  staticTypes := #[]
  resolved := Array.replicate 8 none
  statics := none }

/-- the primitive byte -/
def k6 : Class := { plain "byte" none with kind := .primitive 'B', accessFlags := 0x411 }
/-- [B -/
def k7 : Class := { plain "[B" (some 0) with kind := .array 6 .byte, interfaces := #[4, 5], accessFlags := 1041 }

/-- the primitive int -/
def k8 : Class := { plain "int" none with kind := .primitive 'I', accessFlags := 0x411 }
/-- [I -/
def k9 : Class := { plain "[I" (some 0) with kind := .array 8 .int, interfaces := #[4, 5], accessFlags := 1041 }

def heap : Heap := #[]
def classes : Array Class := #[k0, k1, k2, k3, k4, k5, k6, k7, k8, k9]
def interned : List (Array UInt16 × Addr) := []
def slotsUsed : Nat := 0
def theMethod : MethodId := ⟨1, 1⟩
def args0 : Array Value := #[.int 5, .int 4, .int 7]
def aboutOver (below : List Frame) : State where
  vm := { classes := classes, interned := interned.toArray }
  heap := heap
  slotsUsed := slotsUsed
  threads := #[{ frames := .invoking theMethod args0 :: below }]
def below0 : List Frame := [.native { method := ⟨0, 0⟩, args := #[] }]
def about1 : State := aboutOver below0
def p0 : Program := .bare "" "" ""
def e0 : Env := launch0.env 0 0 0
theorem w_frames : about1.frames = Frame.invoking theMethod args0 :: below0 := rfl
set_option maxRecDepth 65536 in
theorem w_args : argsFit about1.vm theMethod args0 = true := by decide +kernel
set_option maxRecDepth 65536 in
theorem w_heap : heapFits about1 = true := by decide +kernel
set_option maxRecDepth 65536 in
theorem w_runnable : about1.curStatus? = some .runnable := by decide +kernel
set_option maxRecDepth 65536 in
theorem w_alone : about1.alone = true := by decide +kernel
set_option maxRecDepth 65536 in
theorem w_named : about1.methodNamed? x = some theMethod := by decide +kernel
set_option maxRecDepth 65536 in
theorem w_hears : about1.hears theMethod below0 = true := by decide +kernel
set_option maxRecDepth 65536 in
theorem w_ripe : about1.ripe theMethod args0 below0 = true := by decide +kernel
theorem w_running : about1.status = .running := rfl
set_option maxRecDepth 65536 in
theorem w_room : about1.hasRoom e0.platform room_1 = true :=
  launch0.hasRoom_least _ room_1 (by decide +kernel) (by decide +kernel) (by decide +kernel) (by decide +kernel) (by decide +kernel) (by decide +kernel)
theorem allAtoms_all (ts : List Jvm.Cond) (a : Array Jvm.Value) (st : Jvm.State) : (allAtoms ts).before a st = ts.all (fun c => c.before a st) := by
  induction ts with
  | nil => rfl
  | cons c t ih =>
    show (Jvm.Cond.and c (allAtoms t)).before a st = _
    rw [Jvm.Cond.before_and, ih, List.all_cons]
def words1 : List Jvm.Cond := Jvm.Cond.code x code maxLocals ret :: tables_1
/-- a 'code' word, met by the world's own term for the bytes: nothing is compared byte by byte -/
theorem code_word {y : MethodName} {bytes : ByteArray} {mx : Nat} {rt : Option FieldType} {a : Array Value} {s : State} {m : MethodId} {meth : Method} {c : Code} (h1 : s.methodNamed? y = some m) (h2 : s.vm.method? m = some meth) (h3 : meth.code = some c) (h4 : c.code = bytes)
    (h5 : (c.maxLocals == mx && c.exceptionTable.isEmpty && decide (c.maxStack ≤ mostOperands) && decide (meth.sig.returnType = rt) && !meth.locks && decide (parseMethodDescriptor y.desc = some meth.sig)) = true) : (Jvm.Cond.code y bytes mx rt).before a s = true := by
  simp only [Bool.and_eq_true, beq_iff_eq, Bool.not_eq_true', decide_eq_true_eq] at h5
  obtain ⟨⟨⟨⟨⟨g1, g2⟩, g3⟩, g4⟩, g5⟩, g6⟩ := h5
  simp [Cond.before, Cond.holds, Cond.value, h1, h2, h3, h4, g1, g2, g3, g4, g5, g6]
def isCode : Jvm.Cond → Bool
  | .code _ _ _ _ => true
  | _ => false
theorem all_split {L : List Jvm.Cond} {P : Jvm.Cond → Bool} (h1 : L.all (fun c => isCode c || P c) = true) (h2 : ∀ c ∈ L.filter isCode, P c = true) : L.all P = true := by
  refine List.all_eq_true.mpr fun c hc => ?_
  have h := List.all_eq_true.mp h1 c hc
  rcases Bool.eq_false_or_eq_true (isCode c) with hi | hi
  · exact h2 c (List.mem_filter.mpr ⟨hc, hi⟩)
  · simpa [hi] using h
set_option maxRecDepth 65536 in
theorem w_c0 : (Jvm.Cond.code x code maxLocals ret).before args0 about1 = true := code_word (m := ⟨1, 1⟩) (meth := k1m1) (c := k1c1) (by decide +kernel) rfl rfl rfl (by decide +kernel)
set_option maxRecDepth 65536 in
theorem w_c1 : (Jvm.Cond.code ({ cls := "com/example/mingdang/mingdang/XmlScanner", name := "isChar", desc := "(I)Z" } : Jvm.MethodName) prog_179_method_62_code (1 : Nat) (Option.some Jvm.ClassFile.FieldType.boolean)).before args0 about1 = true := code_word (m := ⟨3, 0⟩) (meth := k3m0) (c := k3c0) (by decide +kernel) rfl rfl rfl (by decide +kernel)
set_option maxRecDepth 65536 in
theorem w_c2 : (Jvm.Cond.code ({ cls := "com/example/mingdang/mingdang/XmlScannerIsCharPinLaw", name := "allowed", desc := "(I)Z" } : Jvm.MethodName) method_3_code (1 : Nat) (Option.some Jvm.ClassFile.FieldType.boolean)).before args0 about1 = true := code_word (m := ⟨1, 2⟩) (meth := k1m2) (c := k1c2) (by decide +kernel) rfl rfl rfl (by decide +kernel)
set_option maxRecDepth 65536 in
theorem w_c3 : (Jvm.Cond.code ({ cls := "com/example/mingdang/mingdang/XmlScannerIsCharPinLaw", name := "forbidden", desc := "(I)Z" } : Jvm.MethodName) method_4_code (1 : Nat) (Option.some Jvm.ClassFile.FieldType.boolean)).before args0 about1 = true := code_word (m := ⟨1, 3⟩) (meth := k1m3) (c := k1c3) (by decide +kernel) rfl rfl rfl (by decide +kernel)
def codes1 : List Jvm.Cond := [Jvm.Cond.code x code maxLocals ret, Jvm.Cond.code ({ cls := "com/example/mingdang/mingdang/XmlScanner", name := "isChar", desc := "(I)Z" } : Jvm.MethodName) prog_179_method_62_code (1 : Nat) (Option.some Jvm.ClassFile.FieldType.boolean), Jvm.Cond.code ({ cls := "com/example/mingdang/mingdang/XmlScannerIsCharPinLaw", name := "allowed", desc := "(I)Z" } : Jvm.MethodName) method_3_code (1 : Nat) (Option.some Jvm.ClassFile.FieldType.boolean), Jvm.Cond.code ({ cls := "com/example/mingdang/mingdang/XmlScannerIsCharPinLaw", name := "forbidden", desc := "(I)Z" } : Jvm.MethodName) method_4_code (1 : Nat) (Option.some Jvm.ClassFile.FieldType.boolean)]
set_option maxRecDepth 65536 in
theorem codes_eq : words1.filter isCode = codes1 := rfl
theorem w_codes : ∀ c ∈ words1.filter isCode, c.before args0 about1 = true := by
  rw [codes_eq]
  intro c hc
  simp only [codes1, List.mem_cons, List.not_mem_nil, or_false] at hc
  rcases hc with rfl | rfl | rfl | rfl
  · exact w_c0
  · exact w_c1
  · exact w_c2
  · exact w_c3
set_option maxRecDepth 65536 in
theorem w_t1 : (words1.take 24).all (fun c => isCode c || c.before args0 about1) = true := by decide +kernel
set_option maxRecDepth 65536 in
theorem w_t2 : (words1.drop 24).all (fun c => isCode c || c.before args0 about1) = true := by decide +kernel
theorem w_tables : (allAtoms (Jvm.Cond.code x code maxLocals ret :: tables_1)).before args0 about1 = true := by
  rw [allAtoms_all]
  show words1.all (fun c => c.before args0 about1) = true
  refine all_split ?_ w_codes
  rw [← List.take_append_drop 24 words1, List.all_append, w_t1, w_t2]
  rfl
set_option maxRecDepth 65536 in
theorem w_case : (Jvm.Cond.and given_1 narrow_1).before args0 about1 = true := by decide +kernel
theorem w_applies : (headSpec (Jvm.Cond.code x code maxLocals ret :: tables_1) room_1).applies x e0.platform about1 = true :=
  (Spec.applies_iff w_frames).mpr ⟨w_running, w_runnable, w_alone, w_named, w_hears, w_ripe, w_room, w_tables⟩
theorem atStart : AtStart classFile x code maxLocals ret World_1 tables_1 room_1 Calls_1 rest_1 Pre_1 launch0 p0 e0 about1 theMethod args0 below0 :=
  ⟨lists_1, trivial, launch0.admits_env _ _ _, launch0.least_env, fairChoices_fair.cas, fairChoices_fair.clock, w_frames, w_args, w_heap, w_applies, trivial, trivial, w_case⟩
end start1
theorem witness_1 : WitnessClaimed_1 := ⟨start1.p0, start1.e0, start1.about1, start1.theMethod, start1.args0, start1.below0, start1.atStart⟩
end Jvm.Pilot.@@N@@
