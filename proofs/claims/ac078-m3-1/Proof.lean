import JvmDerived
import JvmDerived.Pilot.@@N@@Statement
import JvmDerived.Pilot.@@N@@Code
set_option linter.unusedVariables false
set_option linter.unusedSimpArgs false
namespace Jvm.Pilot.@@N@@
open Jvm Jvm.ClassFile Sem Op Lib Jvm.Free Jvm.Stand Jvm.LawKit Jvm.RoadKit Bundle Jvm.Pilot.@@N@@.Jvm.D
section OwnLayer
/-- where the walk of the body y stands: after k cells and n slots made, with the heap h and the top frame g -/
def Rch (p : Program) (l : Launch) (e : Env) (R : Room) (s : State) (m : MethodId) (args : Array Value) (below : List Frame) (meth : Method) (c : Code) (Z : State) (y : MethodName) (bc : ByteArray) (ml : Nat) (rt : Option FieldType) (n0 : Nat) (T0 : State) (g0 : JFrame) (k n : Nat) (h : Heap) (g : JFrame) : Prop :=
  (p.tables.exec = Jvm.exec ∧ c.code = bc ∧ c.maxLocals = ml ∧ s.vm.findClass y.cls = some m.cls ∧ Z.Warmed39 s.vm ∧ meth.sig.returnType = rt ∧ meth.locks = false ∧ meth.name = y.name) ∧
  ∃ T locs, Stand p l e R s m args below meth c T locs k n ∧ T.heap = h ∧ Fr n0 locs ∧ ∀ target, Steps p.tables e below (T.setTop g) target → Steps p.tables e below (T0.setTop g0) target
/-- the body has returned v, with the heap h -/
def Don (p : Program) (l : Launch) (e : Env) (R : Room) (s : State) (m : MethodId) (args : Array Value) (below : List Frame) (meth : Method) (c : Code) (rt : Option FieldType) (n0 : Nat) (T0 : State) (g0 : JFrame) (v : Option Value) (h : Heap) : Prop :=
  ∃ T locs k n, Stand p l e R s m args below meth c T locs k n ∧ k ≤ R.cells ∧ n ≤ R.slots ∧ T.heap = h ∧ Fr n0 locs ∧ meth.locks = false ∧ (meth.sig.returnType = none → v = none) ∧
    ∀ fs, (∀ (f : JFrame) (acts : List Action), f.method = m → f.locked = none → f.entered = [] → (doReturn e (T.setTop f) acts v).1 = T.setFrames fs) → Steps p.tables e below (T0.setTop g0) (T.setFrames fs)
/-- a body's contract -/
def Ctr (l : Launch) (Z : State) (y : MethodName) (bc : ByteArray) (ml : Nat) (rt : Option FieldType) (rm : Room) (as : Array Value) (h0 : Heap) (n0 : Nat) (Q : Option Value → Heap → Prop) : Prop :=
  ∀ ws : List Jvm.Cond, MetFree l y (head1 (Jvm.Cond.code y bc ml rt :: ws) rm) (fun a U => a = as ∧ Z.Warmed39 U.vm ∧ U.heap = h0) (fun _ _ _ _ _ => True) (fun _ U o U' => ∃ v L, o = .returned v ∧ (Fr n0 L ∧ Q v U'.heap) ∧ FrameEnd U o U' L rm.cells rm.slots)
variable {p : Program} {l : Launch} {e : Env} {R : Room} {s : State} {m : MethodId} {args : Array Value} {below : List Frame} {meth : Method} {c : Code} {Z : State} {y : MethodName} {bc : ByteArray} {ml : Nat} {rt : Option FieldType} {n0 : Nat} {T0 : State} {g0 : JFrame} {k n : Nat} {h : Heap} {a0 : Array Value} {pc pc' : Nat} {L : Array Slot} {S : List Value}
theorem Rch.step {k' n' : Nat} {h' : Heap} {g g' : JFrame} (r : Rch p l e R s m args below meth c Z y bc ml rt n0 T0 g0 k n h g)
    (f : ∀ T locs, Stand p l e R s m args below meth c T locs k n → T.heap = h → Fr n0 locs → ∃ T' locs', Stand p l e R s m args below meth c T' locs' k' n' ∧ T'.heap = h' ∧ Fr n0 locs' ∧ ∀ target, Steps p.tables e below (T'.setTop g') target → Steps p.tables e below (T.setTop g) target) :
    Rch p l e R s m args below meth c Z y bc ml rt n0 T0 g0 k' n' h' g' := by
  obtain ⟨q, T, locs, X, eT, N, st⟩ := r
  obtain ⟨T', locs', X', eT', N', st'⟩ := f T locs X eT N
  exact ⟨q, T', locs', X', eT', N', fun t z => st t (st' t z)⟩
theorem Rch.pure {g g' : JFrame} (r : Rch p l e R s m args below meth c Z y bc ml rt n0 T0 g0 k n h g)
    (f : ∀ T locs, Stand p l e R s m args below meth c T locs k n → T.heap = h → ∀ target, Steps p.tables e below (T.setTop g') target → Steps p.tables e below (T.setTop g) target) :
    Rch p l e R s m args below meth c Z y bc ml rt n0 T0 g0 k n h g' :=
  r.step fun T locs X eT N => ⟨T, locs, X, eT, N, f T locs X eT⟩
theorem Rch.keep {g g' : JFrame} (r : Rch p l e R s m args below meth c Z y bc ml rt n0 T0 g0 k n h g)
    (f : ∀ T locs, Stand p l e R s m args below meth c T locs k n → T.heap = h → ∃ T', Stand p l e R s m args below meth c T' locs k n ∧ T'.heap = h ∧ ∀ target, Steps p.tables e below (T'.setTop g') target → Steps p.tables e below (T.setTop g) target) :
    Rch p l e R s m args below meth c Z y bc ml rt n0 T0 g0 k n h g' :=
  r.step fun T locs X eT N => by
    obtain ⟨T', X', e', st⟩ := f T locs X eT
    exact ⟨T', locs, X', e', N, st⟩
theorem Rch.widen {g : JFrame} {k' n' : Nat} (r : Rch p l e R s m args below meth c Z y bc ml rt n0 T0 g0 k n h g) (hk : k ≤ k') (hn : n ≤ n') : Rch p l e R s m args below meth c Z y bc ml rt n0 T0 g0 k' n' h g := by
  obtain ⟨q, T, locs, X, eT, N, st⟩ := r
  exact ⟨q, T, locs, ⟨X.admits, X.cas, X.clock, X.frames, X.room, X.hears, X.method, X.code, X.here, X.tail, X.warmed, X.limits, X.bytes, X.same.mono hk hn⟩, eT, N, st⟩
theorem Rch.eqh {g : JFrame} {h' : Heap} (r : Rch p l e R s m args below meth c Z y bc ml rt n0 T0 g0 k n h g) (q : h = h') : Rch p l e R s m args below meth c Z y bc ml rt n0 T0 g0 k n h' g := q ▸ r
theorem Rch.eqg {g g' : JFrame} (r : Rch p l e R s m args below meth c Z y bc ml rt n0 T0 g0 k n h g) (q : g = g') : Rch p l e R s m args below meth c Z y bc ml rt n0 T0 g0 k n h g' := q ▸ r
-- loads and stores
theorem Rch.iloadN (r : Rch p l e R s m args below meth c Z y bc ml rt n0 T0 g0 k n h (mkF m pc L S)) {i : Fin 4} {v : Int32} (hd : decode bc pc = .ok (.iload_n i, 1)) (hl : L[i.val]? = some (.val (.int v))) (hp : pc + 1 = pc') : Rch p l e R s m args below meth c Z y bc ml rt n0 T0 g0 k n h (mkF m pc' L (.int v :: S)) := by
  subst hp; exact r.pure fun T locs X eT t z => XS.iloadN X.here r.1.1 rfl (hb r.1.2.1 hd) hl z
theorem Rch.iload (r : Rch p l e R s m args below meth c Z y bc ml rt n0 T0 g0 k n h (mkF m pc L S)) {i : Nat} {v : Int32} (hd : decode bc pc = .ok (.iload i, 2)) (hl : L[i]? = some (.val (.int v))) (hp : pc + 2 = pc') : Rch p l e R s m args below meth c Z y bc ml rt n0 T0 g0 k n h (mkF m pc' L (.int v :: S)) := by
  subst hp; exact r.pure fun T locs X eT t z => XS.iload X.here r.1.1 rfl (hb r.1.2.1 hd) hl z
theorem Rch.lloadN (r : Rch p l e R s m args below meth c Z y bc ml rt n0 T0 g0 k n h (mkF m pc L S)) {i : Fin 4} {v : Int64} (hd : decode bc pc = .ok (.lload_n i, 1)) (hl : L[i.val]? = some (.val (.long v))) (hp : pc + 1 = pc') : Rch p l e R s m args below meth c Z y bc ml rt n0 T0 g0 k n h (mkF m pc' L (.long v :: S)) := by
  subst hp; exact r.pure fun T locs X eT t z => XS.lloadN X.here r.1.1 rfl (hb r.1.2.1 hd) hl z
theorem Rch.lload (r : Rch p l e R s m args below meth c Z y bc ml rt n0 T0 g0 k n h (mkF m pc L S)) {i : Nat} {v : Int64} (hd : decode bc pc = .ok (.lload i, 2)) (hl : L[i]? = some (.val (.long v))) (hp : pc + 2 = pc') : Rch p l e R s m args below meth c Z y bc ml rt n0 T0 g0 k n h (mkF m pc' L (.long v :: S)) := by
  subst hp; exact r.pure fun T locs X eT t z => XS.lload X.here r.1.1 rfl (hb r.1.2.1 hd) hl z
theorem Rch.aloadN (r : Rch p l e R s m args below meth c Z y bc ml rt n0 T0 g0 k n h (mkF m pc L S)) {i : Fin 4} {v : Value} (hd : decode bc pc = .ok (.aload_n i, 1)) (hl : L[i.val]? = some (.val v)) (hv : v.isRef = true) (hp : pc + 1 = pc') : Rch p l e R s m args below meth c Z y bc ml rt n0 T0 g0 k n h (mkF m pc' L (v :: S)) := by
  subst hp; exact r.pure fun T locs X eT t z => XS.aloadN X.here r.1.1 rfl (hb r.1.2.1 hd) hl hv z
theorem Rch.aload (r : Rch p l e R s m args below meth c Z y bc ml rt n0 T0 g0 k n h (mkF m pc L S)) {i : Nat} {v : Value} (hd : decode bc pc = .ok (.aload i, 2)) (hl : L[i]? = some (.val v)) (hv : v.isRef = true) (hp : pc + 2 = pc') : Rch p l e R s m args below meth c Z y bc ml rt n0 T0 g0 k n h (mkF m pc' L (v :: S)) := by
  subst hp; exact r.pure fun T locs X eT t z => XS.aload X.here r.1.1 rfl (hb r.1.2.1 hd) hl hv z
theorem Rch.istoreN {i : Fin 4} {v : Int32} {L' : Array Slot} (r : Rch p l e R s m args below meth c Z y bc ml rt n0 T0 g0 k n h (mkF m pc L (.int v :: S))) (hd : decode bc pc = .ok (.istore_n i, 1)) (hl : storeLocals L i.val (.int v) = some L') (hp : pc + 1 = pc') : Rch p l e R s m args below meth c Z y bc ml rt n0 T0 g0 k n h (mkF m pc' L' S) := by
  subst hp; exact r.pure fun T locs X eT t z => XS.istoreN X.here r.1.1 rfl (hb r.1.2.1 hd) rfl hl z
theorem Rch.istore {i : Nat} {v : Int32} {L' : Array Slot} (r : Rch p l e R s m args below meth c Z y bc ml rt n0 T0 g0 k n h (mkF m pc L (.int v :: S))) (hd : decode bc pc = .ok (.istore i, 2)) (hl : storeLocals L i (.int v) = some L') (hp : pc + 2 = pc') : Rch p l e R s m args below meth c Z y bc ml rt n0 T0 g0 k n h (mkF m pc' L' S) := by
  subst hp; exact r.pure fun T locs X eT t z => XS.istore X.here r.1.1 rfl (hb r.1.2.1 hd) rfl hl z
theorem Rch.lstoreN {i : Fin 4} {v : Int64} {L' : Array Slot} (r : Rch p l e R s m args below meth c Z y bc ml rt n0 T0 g0 k n h (mkF m pc L (.long v :: S))) (hd : decode bc pc = .ok (.lstore_n i, 1)) (hl : storeLocals L i.val (.long v) = some L') (hp : pc + 1 = pc') : Rch p l e R s m args below meth c Z y bc ml rt n0 T0 g0 k n h (mkF m pc' L' S) := by
  subst hp; exact r.pure fun T locs X eT t z => XS.lstoreN X.here r.1.1 rfl (hb r.1.2.1 hd) rfl hl z
theorem Rch.lstore {i : Nat} {v : Int64} {L' : Array Slot} (r : Rch p l e R s m args below meth c Z y bc ml rt n0 T0 g0 k n h (mkF m pc L (.long v :: S))) (hd : decode bc pc = .ok (.lstore i, 2)) (hl : storeLocals L i (.long v) = some L') (hp : pc + 2 = pc') : Rch p l e R s m args below meth c Z y bc ml rt n0 T0 g0 k n h (mkF m pc' L' S) := by
  subst hp; exact r.pure fun T locs X eT t z => XS.lstore X.here r.1.1 rfl (hb r.1.2.1 hd) rfl hl z
theorem Rch.astoreN {i : Fin 4} {v : Value} {L' : Array Slot} (r : Rch p l e R s m args below meth c Z y bc ml rt n0 T0 g0 k n h (mkF m pc L (v :: S))) (hd : decode bc pc = .ok (.astore_n i, 1)) (hv : v.isRef = true) (hl : storeLocals L i.val v = some L') (hp : pc + 1 = pc') : Rch p l e R s m args below meth c Z y bc ml rt n0 T0 g0 k n h (mkF m pc' L' S) := by
  subst hp; exact r.pure fun T locs X eT t z => XS.astoreN X.here r.1.1 rfl (hb r.1.2.1 hd) rfl hv hl z
theorem Rch.astore {i : Nat} {v : Value} {L' : Array Slot} (r : Rch p l e R s m args below meth c Z y bc ml rt n0 T0 g0 k n h (mkF m pc L (v :: S))) (hd : decode bc pc = .ok (.astore i, 2)) (hv : v.isRef = true) (hl : storeLocals L i v = some L') (hp : pc + 2 = pc') : Rch p l e R s m args below meth c Z y bc ml rt n0 T0 g0 k n h (mkF m pc' L' S) := by
  subst hp; exact r.pure fun T locs X eT t z => XS.astore X.here r.1.1 rfl (hb r.1.2.1 hd) rfl hv hl z
theorem Rch.iinc {i : Nat} {cst : Int} {v u : Int32} {L' : Array Slot} (r : Rch p l e R s m args below meth c Z y bc ml rt n0 T0 g0 k n h (mkF m pc L S)) (w : Int32) (hd : decode bc pc = .ok (.iinc i cst, 3)) (hw : Int32.ofInt cst = w) (hl : L[i]? = some (.val (.int v))) (hu : v + w = u) (hl' : storeLocals L i (.int u) = some L') (hp : pc + 3 = pc') : Rch p l e R s m args below meth c Z y bc ml rt n0 T0 g0 k n h (mkF m pc' L' S) := by
  subst hp hu hw; exact r.pure fun T locs X eT t z => XS.iinc X.here r.1.1 rfl (hb r.1.2.1 hd) hl hl' z
-- constants
theorem Rch.iconst (r : Rch p l e R s m args below meth c Z y bc ml rt n0 T0 g0 k n h (mkF m pc L S)) {i : Int} (w : Int32) (hd : decode bc pc = .ok (.iconst i, 1)) (hw : Int32.ofInt i = w) (hp : pc + 1 = pc') : Rch p l e R s m args below meth c Z y bc ml rt n0 T0 g0 k n h (mkF m pc' L (.int w :: S)) := by
  subst hp hw; exact r.pure fun T locs X eT t z => XS.iconst X.here r.1.1 rfl (hb r.1.2.1 hd) z
theorem Rch.bipush (r : Rch p l e R s m args below meth c Z y bc ml rt n0 T0 g0 k n h (mkF m pc L S)) {i : Int} (w : Int32) (hd : decode bc pc = .ok (.bipush i, 2)) (hw : (Int8.ofInt i).toInt32 = w) (hp : pc + 2 = pc') : Rch p l e R s m args below meth c Z y bc ml rt n0 T0 g0 k n h (mkF m pc' L (.int w :: S)) := by
  subst hp hw; exact r.pure fun T locs X eT t z => XS.bipush X.here r.1.1 rfl (hb r.1.2.1 hd) z
theorem Rch.sipush (r : Rch p l e R s m args below meth c Z y bc ml rt n0 T0 g0 k n h (mkF m pc L S)) {i : Int} (w : Int32) (hd : decode bc pc = .ok (.sipush i, 3)) (hw : (Int16.ofInt i).toInt32 = w) (hp : pc + 3 = pc') : Rch p l e R s m args below meth c Z y bc ml rt n0 T0 g0 k n h (mkF m pc' L (.int w :: S)) := by
  subst hp hw; exact r.pure fun T locs X eT t z => XS.sipush X.here r.1.1 rfl (hb r.1.2.1 hd) z
theorem Rch.lconst (r : Rch p l e R s m args below meth c Z y bc ml rt n0 T0 g0 k n h (mkF m pc L S)) {i : Fin 2} (w : Int64) (hd : decode bc pc = .ok (.lconst i, 1)) (hw : Int64.ofNat i = w) (hp : pc + 1 = pc') : Rch p l e R s m args below meth c Z y bc ml rt n0 T0 g0 k n h (mkF m pc' L (.long w :: S)) := by
  subst hp hw; exact r.pure fun T locs X eT t z => XS.lconst X.here r.1.1 rfl (hb r.1.2.1 hd) z
theorem Rch.anull (r : Rch p l e R s m args below meth c Z y bc ml rt n0 T0 g0 k n h (mkF m pc L S)) (hd : decode bc pc = .ok (.aconst_null, 1)) (hp : pc + 1 = pc') : Rch p l e R s m args below meth c Z y bc ml rt n0 T0 g0 k n h (mkF m pc' L (.null :: S)) := by
  subst hp; exact r.pure fun T locs X eT t z => XS.aconstNull X.here r.1.1 rfl (hb r.1.2.1 hd) z
theorem Rch.ldc (r : Rch p l e R s m args below meth c Z y bc ml rt n0 T0 g0 k n h (mkF m pc L S)) {i : Nat} {w : Int32} (hd : decode bc pc = .ok (.ldc i, 2)) (hc : (Jvm.Cond.constant y.cls i w).before a0 Z = true) (hp : pc + 2 = pc') : Rch p l e R s m args below meth c Z y bc ml rt n0 T0 g0 k n h (mkF m pc' L (.int w :: S)) := by
  subst hp; exact r.pure fun T locs X eT t z => X.ldcInt r.1.1 r.1.2.2.2.1 (mvT r.1.2.2.2.2.1 hc) (g := mkF m pc L S) rfl (hb r.1.2.1 hd) t z
theorem Rch.ldcw (r : Rch p l e R s m args below meth c Z y bc ml rt n0 T0 g0 k n h (mkF m pc L S)) {i : Nat} {w : Int32} (hd : decode bc pc = .ok (.ldc_w i, 3)) (hc : (Jvm.Cond.constant y.cls i w).before a0 Z = true) (hp : pc + 3 = pc') : Rch p l e R s m args below meth c Z y bc ml rt n0 T0 g0 k n h (mkF m pc' L (.int w :: S)) := by
  subst hp; exact r.pure fun T locs X eT t z => X.ldcwInt r.1.1 r.1.2.2.2.1 (mvT r.1.2.2.2.2.1 hc) (g := mkF m pc L S) rfl (hb r.1.2.1 hd) t z
theorem Rch.ldc2 (r : Rch p l e R s m args below meth c Z y bc ml rt n0 T0 g0 k n h (mkF m pc L S)) {i : Nat} {w : Int64} (hd : decode bc pc = .ok (.ldc2_w i, 3)) (hc : (Jvm.Cond.constantLong y.cls i w).before a0 Z = true) (hp : pc + 3 = pc') : Rch p l e R s m args below meth c Z y bc ml rt n0 T0 g0 k n h (mkF m pc' L (.long w :: S)) := by
  subst hp; exact r.pure fun T locs X eT t z => X.ldc2Long r.1.1 r.1.2.2.2.1 (mvT r.1.2.2.2.2.1 hc) (g := mkF m pc L S) rfl (hb r.1.2.1 hd) t z
-- sums and the like
theorem Rch.iadd {a : Int32} {b : Int32} {u : Int32} (r : Rch p l e R s m args below meth c Z y bc ml rt n0 T0 g0 k n h (mkF m pc L (.int b :: .int a :: S))) (hd : decode bc pc = .ok (.iadd, 1)) (hu : a + b = u) (hp : pc + 1 = pc') : Rch p l e R s m args below meth c Z y bc ml rt n0 T0 g0 k n h (mkF m pc' L (.int u :: S)) := by
  subst hp hu; exact r.pure fun T locs X eT t z => XS.iadd X.here r.1.1 rfl (hb r.1.2.1 hd) rfl z
theorem Rch.isub {a : Int32} {b : Int32} {u : Int32} (r : Rch p l e R s m args below meth c Z y bc ml rt n0 T0 g0 k n h (mkF m pc L (.int b :: .int a :: S))) (hd : decode bc pc = .ok (.isub, 1)) (hu : a - b = u) (hp : pc + 1 = pc') : Rch p l e R s m args below meth c Z y bc ml rt n0 T0 g0 k n h (mkF m pc' L (.int u :: S)) := by
  subst hp hu; exact r.pure fun T locs X eT t z => XS.isub X.here r.1.1 rfl (hb r.1.2.1 hd) rfl z
theorem Rch.imul {a : Int32} {b : Int32} {u : Int32} (r : Rch p l e R s m args below meth c Z y bc ml rt n0 T0 g0 k n h (mkF m pc L (.int b :: .int a :: S))) (hd : decode bc pc = .ok (.imul, 1)) (hu : a * b = u) (hp : pc + 1 = pc') : Rch p l e R s m args below meth c Z y bc ml rt n0 T0 g0 k n h (mkF m pc' L (.int u :: S)) := by
  subst hp hu; exact r.pure fun T locs X eT t z => XS.imul X.here r.1.1 rfl (hb r.1.2.1 hd) rfl z
theorem Rch.iand {a : Int32} {b : Int32} {u : Int32} (r : Rch p l e R s m args below meth c Z y bc ml rt n0 T0 g0 k n h (mkF m pc L (.int b :: .int a :: S))) (hd : decode bc pc = .ok (.iand, 1)) (hu : a &&& b = u) (hp : pc + 1 = pc') : Rch p l e R s m args below meth c Z y bc ml rt n0 T0 g0 k n h (mkF m pc' L (.int u :: S)) := by
  subst hp hu; exact r.pure fun T locs X eT t z => XS.iand X.here r.1.1 rfl (hb r.1.2.1 hd) rfl z
theorem Rch.ior {a : Int32} {b : Int32} {u : Int32} (r : Rch p l e R s m args below meth c Z y bc ml rt n0 T0 g0 k n h (mkF m pc L (.int b :: .int a :: S))) (hd : decode bc pc = .ok (.ior, 1)) (hu : a ||| b = u) (hp : pc + 1 = pc') : Rch p l e R s m args below meth c Z y bc ml rt n0 T0 g0 k n h (mkF m pc' L (.int u :: S)) := by
  subst hp hu; exact r.pure fun T locs X eT t z => XS.ior X.here r.1.1 rfl (hb r.1.2.1 hd) rfl z
theorem Rch.ixor {a : Int32} {b : Int32} {u : Int32} (r : Rch p l e R s m args below meth c Z y bc ml rt n0 T0 g0 k n h (mkF m pc L (.int b :: .int a :: S))) (hd : decode bc pc = .ok (.ixor, 1)) (hu : a ^^^ b = u) (hp : pc + 1 = pc') : Rch p l e R s m args below meth c Z y bc ml rt n0 T0 g0 k n h (mkF m pc' L (.int u :: S)) := by
  subst hp hu; exact r.pure fun T locs X eT t z => XS.ixor X.here r.1.1 rfl (hb r.1.2.1 hd) rfl z
theorem Rch.ladd {a : Int64} {b : Int64} {u : Int64} (r : Rch p l e R s m args below meth c Z y bc ml rt n0 T0 g0 k n h (mkF m pc L (.long b :: .long a :: S))) (hd : decode bc pc = .ok (.ladd, 1)) (hu : a + b = u) (hp : pc + 1 = pc') : Rch p l e R s m args below meth c Z y bc ml rt n0 T0 g0 k n h (mkF m pc' L (.long u :: S)) := by
  subst hp hu; exact r.pure fun T locs X eT t z => XS.ladd X.here r.1.1 rfl (hb r.1.2.1 hd) rfl z
theorem Rch.lsub {a : Int64} {b : Int64} {u : Int64} (r : Rch p l e R s m args below meth c Z y bc ml rt n0 T0 g0 k n h (mkF m pc L (.long b :: .long a :: S))) (hd : decode bc pc = .ok (.lsub, 1)) (hu : a - b = u) (hp : pc + 1 = pc') : Rch p l e R s m args below meth c Z y bc ml rt n0 T0 g0 k n h (mkF m pc' L (.long u :: S)) := by
  subst hp hu; exact r.pure fun T locs X eT t z => XS.lsub X.here r.1.1 rfl (hb r.1.2.1 hd) rfl z
theorem Rch.lmul {a : Int64} {b : Int64} {u : Int64} (r : Rch p l e R s m args below meth c Z y bc ml rt n0 T0 g0 k n h (mkF m pc L (.long b :: .long a :: S))) (hd : decode bc pc = .ok (.lmul, 1)) (hu : a * b = u) (hp : pc + 1 = pc') : Rch p l e R s m args below meth c Z y bc ml rt n0 T0 g0 k n h (mkF m pc' L (.long u :: S)) := by
  subst hp hu; exact r.pure fun T locs X eT t z => XS.lmul X.here r.1.1 rfl (hb r.1.2.1 hd) rfl z
theorem Rch.land {a : Int64} {b : Int64} {u : Int64} (r : Rch p l e R s m args below meth c Z y bc ml rt n0 T0 g0 k n h (mkF m pc L (.long b :: .long a :: S))) (hd : decode bc pc = .ok (.land, 1)) (hu : a &&& b = u) (hp : pc + 1 = pc') : Rch p l e R s m args below meth c Z y bc ml rt n0 T0 g0 k n h (mkF m pc' L (.long u :: S)) := by
  subst hp hu; exact r.pure fun T locs X eT t z => XS.land X.here r.1.1 rfl (hb r.1.2.1 hd) rfl z
theorem Rch.lor {a : Int64} {b : Int64} {u : Int64} (r : Rch p l e R s m args below meth c Z y bc ml rt n0 T0 g0 k n h (mkF m pc L (.long b :: .long a :: S))) (hd : decode bc pc = .ok (.lor, 1)) (hu : a ||| b = u) (hp : pc + 1 = pc') : Rch p l e R s m args below meth c Z y bc ml rt n0 T0 g0 k n h (mkF m pc' L (.long u :: S)) := by
  subst hp hu; exact r.pure fun T locs X eT t z => XS.lor X.here r.1.1 rfl (hb r.1.2.1 hd) rfl z
theorem Rch.lxor {a : Int64} {b : Int64} {u : Int64} (r : Rch p l e R s m args below meth c Z y bc ml rt n0 T0 g0 k n h (mkF m pc L (.long b :: .long a :: S))) (hd : decode bc pc = .ok (.lxor, 1)) (hu : a ^^^ b = u) (hp : pc + 1 = pc') : Rch p l e R s m args below meth c Z y bc ml rt n0 T0 g0 k n h (mkF m pc' L (.long u :: S)) := by
  subst hp hu; exact r.pure fun T locs X eT t z => XS.lxor X.here r.1.1 rfl (hb r.1.2.1 hd) rfl z
theorem Rch.ishl {a : Int32} {b : Int32} {u : Int32} (r : Rch p l e R s m args below meth c Z y bc ml rt n0 T0 g0 k n h (mkF m pc L (.int b :: .int a :: S))) (hd : decode bc pc = .ok (.ishl, 1)) (hu : a <<< (b &&& 31) = u) (hp : pc + 1 = pc') : Rch p l e R s m args below meth c Z y bc ml rt n0 T0 g0 k n h (mkF m pc' L (.int u :: S)) := by
  subst hp hu; exact r.pure fun T locs X eT t z => XS.ishl X.here r.1.1 rfl (hb r.1.2.1 hd) rfl z
theorem Rch.ishr {a : Int32} {b : Int32} {u : Int32} (r : Rch p l e R s m args below meth c Z y bc ml rt n0 T0 g0 k n h (mkF m pc L (.int b :: .int a :: S))) (hd : decode bc pc = .ok (.ishr, 1)) (hu : a >>> (b &&& 31) = u) (hp : pc + 1 = pc') : Rch p l e R s m args below meth c Z y bc ml rt n0 T0 g0 k n h (mkF m pc' L (.int u :: S)) := by
  subst hp hu; exact r.pure fun T locs X eT t z => XS.ishr X.here r.1.1 rfl (hb r.1.2.1 hd) rfl z
theorem Rch.iushr {a : Int32} {b : Int32} {u : Int32} (r : Rch p l e R s m args below meth c Z y bc ml rt n0 T0 g0 k n h (mkF m pc L (.int b :: .int a :: S))) (hd : decode bc pc = .ok (.iushr, 1)) (hu : (a.toUInt32 >>> (b &&& 31).toUInt32).toInt32 = u) (hp : pc + 1 = pc') : Rch p l e R s m args below meth c Z y bc ml rt n0 T0 g0 k n h (mkF m pc' L (.int u :: S)) := by
  subst hp hu; exact r.pure fun T locs X eT t z => XS.iushr X.here r.1.1 rfl (hb r.1.2.1 hd) rfl z
theorem Rch.lcmp {a : Int64} {b : Int64} {u : Int32} (r : Rch p l e R s m args below meth c Z y bc ml rt n0 T0 g0 k n h (mkF m pc L (.long b :: .long a :: S))) (hd : decode bc pc = .ok (.lcmp, 1)) (hu : lcmpW a b = u) (hp : pc + 1 = pc') : Rch p l e R s m args below meth c Z y bc ml rt n0 T0 g0 k n h (mkF m pc' L (.int u :: S)) := by
  subst hp hu; exact r.pure fun T locs X eT t z => XS.lcmp X.here r.1.1 rfl (hb r.1.2.1 hd) rfl z
theorem Rch.idiv {a : Int32} {b : Int32} {u : Int32} (r : Rch p l e R s m args below meth c Z y bc ml rt n0 T0 g0 k n h (mkF m pc L (.int b :: .int a :: S))) (hd : decode bc pc = .ok (.idiv, 1)) (h0 : b ≠ 0) (hu : a / b = u) (hp : pc + 1 = pc') : Rch p l e R s m args below meth c Z y bc ml rt n0 T0 g0 k n h (mkF m pc' L (.int u :: S)) := by
  subst hp hu; exact r.pure fun T locs X eT t z => XS.idiv X.here r.1.1 rfl (hb r.1.2.1 hd) rfl h0 z
theorem Rch.irem {a : Int32} {b : Int32} {u : Int32} (r : Rch p l e R s m args below meth c Z y bc ml rt n0 T0 g0 k n h (mkF m pc L (.int b :: .int a :: S))) (hd : decode bc pc = .ok (.irem, 1)) (h0 : b ≠ 0) (hu : a % b = u) (hp : pc + 1 = pc') : Rch p l e R s m args below meth c Z y bc ml rt n0 T0 g0 k n h (mkF m pc' L (.int u :: S)) := by
  subst hp hu; exact r.pure fun T locs X eT t z => iremM X r.1.1 rfl (hb r.1.2.1 hd) rfl h0 z
theorem Rch.ineg {a : Int32} {u : Int32} (r : Rch p l e R s m args below meth c Z y bc ml rt n0 T0 g0 k n h (mkF m pc L (.int a :: S))) (hd : decode bc pc = .ok (.ineg, 1)) (hu : -a = u) (hp : pc + 1 = pc') : Rch p l e R s m args below meth c Z y bc ml rt n0 T0 g0 k n h (mkF m pc' L (.int u :: S)) := by
  subst hp hu; exact r.pure fun T locs X eT t z => XS.ineg X.here r.1.1 rfl (hb r.1.2.1 hd) rfl z
theorem Rch.lneg {a : Int64} {u : Int64} (r : Rch p l e R s m args below meth c Z y bc ml rt n0 T0 g0 k n h (mkF m pc L (.long a :: S))) (hd : decode bc pc = .ok (.lneg, 1)) (hu : -a = u) (hp : pc + 1 = pc') : Rch p l e R s m args below meth c Z y bc ml rt n0 T0 g0 k n h (mkF m pc' L (.long u :: S)) := by
  subst hp hu; exact r.pure fun T locs X eT t z => XS.lneg X.here r.1.1 rfl (hb r.1.2.1 hd) rfl z
theorem Rch.i2l {a : Int32} {u : Int64} (r : Rch p l e R s m args below meth c Z y bc ml rt n0 T0 g0 k n h (mkF m pc L (.int a :: S))) (hd : decode bc pc = .ok (.i2l, 1)) (hu : a.toInt64 = u) (hp : pc + 1 = pc') : Rch p l e R s m args below meth c Z y bc ml rt n0 T0 g0 k n h (mkF m pc' L (.long u :: S)) := by
  subst hp hu; exact r.pure fun T locs X eT t z => XS.i2l X.here r.1.1 rfl (hb r.1.2.1 hd) rfl z
theorem Rch.l2i {a : Int64} {u : Int32} (r : Rch p l e R s m args below meth c Z y bc ml rt n0 T0 g0 k n h (mkF m pc L (.long a :: S))) (hd : decode bc pc = .ok (.l2i, 1)) (hu : a.toInt32 = u) (hp : pc + 1 = pc') : Rch p l e R s m args below meth c Z y bc ml rt n0 T0 g0 k n h (mkF m pc' L (.int u :: S)) := by
  subst hp hu; exact r.pure fun T locs X eT t z => XS.l2i X.here r.1.1 rfl (hb r.1.2.1 hd) rfl z
theorem Rch.i2b {a : Int32} {u : Int32} (r : Rch p l e R s m args below meth c Z y bc ml rt n0 T0 g0 k n h (mkF m pc L (.int a :: S))) (hd : decode bc pc = .ok (.i2b, 1)) (hu : a.toInt8.toInt32 = u) (hp : pc + 1 = pc') : Rch p l e R s m args below meth c Z y bc ml rt n0 T0 g0 k n h (mkF m pc' L (.int u :: S)) := by
  subst hp hu; exact r.pure fun T locs X eT t z => XS.i2b X.here r.1.1 rfl (hb r.1.2.1 hd) rfl z
theorem Rch.i2s {a : Int32} {u : Int32} (r : Rch p l e R s m args below meth c Z y bc ml rt n0 T0 g0 k n h (mkF m pc L (.int a :: S))) (hd : decode bc pc = .ok (.i2s, 1)) (hu : a.toInt16.toInt32 = u) (hp : pc + 1 = pc') : Rch p l e R s m args below meth c Z y bc ml rt n0 T0 g0 k n h (mkF m pc' L (.int u :: S)) := by
  subst hp hu; exact r.pure fun T locs X eT t z => XS.i2s X.here r.1.1 rfl (hb r.1.2.1 hd) rfl z
theorem Rch.i2c {a : Int32} {u : Int32} (r : Rch p l e R s m args below meth c Z y bc ml rt n0 T0 g0 k n h (mkF m pc L (.int a :: S))) (hd : decode bc pc = .ok (.i2c, 1)) (hu : a.toUInt32.toUInt16.toUInt32.toInt32 = u) (hp : pc + 1 = pc') : Rch p l e R s m args below meth c Z y bc ml rt n0 T0 g0 k n h (mkF m pc' L (.int u :: S)) := by
  subst hp hu; exact r.pure fun T locs X eT t z => XS.i2c X.here r.1.1 rfl (hb r.1.2.1 hd) rfl z
theorem Rch.lshl {a : Int64} {b : Int32} {u : Int64} (r : Rch p l e R s m args below meth c Z y bc ml rt n0 T0 g0 k n h (mkF m pc L (.int b :: .long a :: S))) (hd : decode bc pc = .ok (.lshl, 1)) (hu : a <<< (b &&& 0x3f).toInt64 = u) (hp : pc + 1 = pc') : Rch p l e R s m args below meth c Z y bc ml rt n0 T0 g0 k n h (mkF m pc' L (.long u :: S)) := by
  subst hp hu; exact r.pure fun T locs X eT t z => XS.lshl X.here r.1.1 rfl (hb r.1.2.1 hd) rfl z
theorem Rch.lshr {a : Int64} {b : Int32} {u : Int64} (r : Rch p l e R s m args below meth c Z y bc ml rt n0 T0 g0 k n h (mkF m pc L (.int b :: .long a :: S))) (hd : decode bc pc = .ok (.lshr, 1)) (hu : a >>> (b &&& 0x3f).toInt64 = u) (hp : pc + 1 = pc') : Rch p l e R s m args below meth c Z y bc ml rt n0 T0 g0 k n h (mkF m pc' L (.long u :: S)) := by
  subst hp hu; exact r.pure fun T locs X eT t z => XS.lshr X.here r.1.1 rfl (hb r.1.2.1 hd) rfl z
theorem Rch.lushr {a : Int64} {b : Int32} {u : Int64} (r : Rch p l e R s m args below meth c Z y bc ml rt n0 T0 g0 k n h (mkF m pc L (.int b :: .long a :: S))) (hd : decode bc pc = .ok (.lushr, 1)) (hu : (a.toUInt64 >>> (b &&& 0x3f).toInt64.toUInt64).toInt64 = u) (hp : pc + 1 = pc') : Rch p l e R s m args below meth c Z y bc ml rt n0 T0 g0 k n h (mkF m pc' L (.long u :: S)) := by
  subst hp hu; exact r.pure fun T locs X eT t z => XS.lushr X.here r.1.1 rfl (hb r.1.2.1 hd) rfl z
theorem Rch.dup {v : Value} (r : Rch p l e R s m args below meth c Z y bc ml rt n0 T0 g0 k n h (mkF m pc L (v :: S))) (hd : decode bc pc = .ok (.dup, 1)) (hv : v.category = 1) (hp : pc + 1 = pc') : Rch p l e R s m args below meth c Z y bc ml rt n0 T0 g0 k n h (mkF m pc' L (v :: v :: S)) := by
  subst hp; exact r.pure fun T locs X eT t z => XS.dup X.here r.1.1 rfl (hb r.1.2.1 hd) rfl hv z
theorem Rch.dupx1 {v w : Value} (r : Rch p l e R s m args below meth c Z y bc ml rt n0 T0 g0 k n h (mkF m pc L (v :: w :: S))) (hd : decode bc pc = .ok (.dup_x1, 1)) (hv : v.category = 1) (hw : w.category = 1) (hp : pc + 1 = pc') : Rch p l e R s m args below meth c Z y bc ml rt n0 T0 g0 k n h (mkF m pc' L (v :: w :: v :: S)) := by
  subst hp; exact r.pure fun T locs X eT t z => XS.dupX1 X.here r.1.1 rfl (hb r.1.2.1 hd) rfl hv hw z
theorem Rch.dup2 {v w : Value} (r : Rch p l e R s m args below meth c Z y bc ml rt n0 T0 g0 k n h (mkF m pc L (v :: w :: S))) (hd : decode bc pc = .ok (.dup2, 1)) (hv : v.category = 1) (hw : w.category = 1) (hp : pc + 1 = pc') : Rch p l e R s m args below meth c Z y bc ml rt n0 T0 g0 k n h (mkF m pc' L (v :: w :: v :: w :: S)) := by
  subst hp
  refine r.pure fun T locs X eT t z => ?_
  have hx := r.1.1
  have hd' := hb r.1.2.1 hd
  jvm_step X.here [X.here.top, hx, hd', hv, hw]
  exact z
theorem Rch.dupx2 {v w u : Value} (r : Rch p l e R s m args below meth c Z y bc ml rt n0 T0 g0 k n h (mkF m pc L (v :: w :: u :: S))) (hd : decode bc pc = .ok (.dup_x2, 1)) (hv : v.category = 1) (hw : w.category = 1) (hu : u.category = 1) (hp : pc + 1 = pc') : Rch p l e R s m args below meth c Z y bc ml rt n0 T0 g0 k n h (mkF m pc' L (v :: w :: u :: v :: S)) := by
  subst hp
  refine r.pure fun T locs X eT t z => ?_
  have hx := r.1.1
  have hd' := hb r.1.2.1 hd
  jvm_step X.here [X.here.top, hx, hd', hv, hw, hu]
  exact z
theorem Rch.pop {v : Value} (r : Rch p l e R s m args below meth c Z y bc ml rt n0 T0 g0 k n h (mkF m pc L (v :: S))) (hd : decode bc pc = .ok (.pop, 1)) (hv : v.category = 1) (hp : pc + 1 = pc') : Rch p l e R s m args below meth c Z y bc ml rt n0 T0 g0 k n h (mkF m pc' L S) := by
  subst hp; exact r.pure fun T locs X eT t z => XS.pop X.here r.1.1 rfl (hb r.1.2.1 hd) rfl hv z
-- branches
theorem Rch.goto {o : Int} (r : Rch p l e R s m args below meth c Z y bc ml rt n0 T0 g0 k n h (mkF m pc L S)) (hd : decode bc pc = .ok (.goto o, 3)) (ho : 0 ≤ (pc : Int) + o) (hp : ((pc : Int) + o).toNat = pc') : Rch p l e R s m args below meth c Z y bc ml rt n0 T0 g0 k n h (mkF m pc' L S) :=
  r.pure fun T locs X eT t z => XS.goto X.here r.1.1 rfl (pc0 := pc) rfl (hb r.1.2.1 hd) ho hp z
theorem Rch.icT {cd : ClassFile.Cond} {x w : Int32} {o : Int} (r : Rch p l e R s m args below meth c Z y bc ml rt n0 T0 g0 k n h (mkF m pc L (.int w :: .int x :: S))) (hd : decode bc pc = .ok (.if_icmp cd o, 3)) (hc : if_icmp.holds cd x w = true) (ho : 0 ≤ (pc : Int) + o) (hp : ((pc : Int) + o).toNat = pc') : Rch p l e R s m args below meth c Z y bc ml rt n0 T0 g0 k n h (mkF m pc' L S) :=
  r.pure fun T locs X eT t z => XS.icmpYes X.here r.1.1 rfl (pc0 := pc) rfl (hb r.1.2.1 hd) rfl hc ho hp z
theorem Rch.icF {cd : ClassFile.Cond} {x w : Int32} {o : Int} (r : Rch p l e R s m args below meth c Z y bc ml rt n0 T0 g0 k n h (mkF m pc L (.int w :: .int x :: S))) (hd : decode bc pc = .ok (.if_icmp cd o, 3)) (hc : if_icmp.holds cd x w = false) (hp : pc + 3 = pc') : Rch p l e R s m args below meth c Z y bc ml rt n0 T0 g0 k n h (mkF m pc' L S) := by
  subst hp; exact r.pure fun T locs X eT t z => XS.icmpNo X.here r.1.1 rfl (hb r.1.2.1 hd) rfl hc z
theorem Rch.ifT {cd : ClassFile.Cond} {x : Int32} {o : Int} (r : Rch p l e R s m args below meth c Z y bc ml rt n0 T0 g0 k n h (mkF m pc L (.int x :: S))) (hd : decode bc pc = .ok (.ifCond cd o, 3)) (hc : if_icmp.holds cd x 0 = true) (ho : 0 ≤ (pc : Int) + o) (hp : ((pc : Int) + o).toNat = pc') : Rch p l e R s m args below meth c Z y bc ml rt n0 T0 g0 k n h (mkF m pc' L S) :=
  r.pure fun T locs X eT t z => XS.ifYes X.here r.1.1 rfl (pc0 := pc) rfl (hb r.1.2.1 hd) rfl ((if0 _ _).trans hc) ho hp z
theorem Rch.ifF {cd : ClassFile.Cond} {x : Int32} {o : Int} (r : Rch p l e R s m args below meth c Z y bc ml rt n0 T0 g0 k n h (mkF m pc L (.int x :: S))) (hd : decode bc pc = .ok (.ifCond cd o, 3)) (hc : if_icmp.holds cd x 0 = false) (hp : pc + 3 = pc') : Rch p l e R s m args below meth c Z y bc ml rt n0 T0 g0 k n h (mkF m pc' L S) := by
  subst hp; exact r.pure fun T locs X eT t z => XS.ifNo X.here r.1.1 rfl (hb r.1.2.1 hd) rfl ((if0 _ _).trans hc) z
theorem Rch.acmp {cd : ACond} {v w : Value} {o : Int} {same : Bool} (r : Rch p l e R s m args below meth c Z y bc ml rt n0 T0 g0 k n h (mkF m pc L (w :: v :: S))) (hd : decode bc pc = .ok (.if_acmp cd o, 3)) (hv : v.isRef = true) (hw : w.isRef = true) (hq : decide (v = w) = same) (ho : 0 ≤ (pc : Int) + o) (hp : pc' = if acV cd same = true then ((pc : Int) + o).toNat else pc + 3) : Rch p l e R s m args below meth c Z y bc ml rt n0 T0 g0 k n h (mkF m pc' L S) :=
  r.pure fun T locs X eT t z => Jvm.RoadKit.acmp X r.1.1 rfl hv hw (pc0 := pc) rfl (hb r.1.2.1 hd) rfl hq ho hp z
theorem Rch.nullT {o : Int} (r : Rch p l e R s m args below meth c Z y bc ml rt n0 T0 g0 k n h (mkF m pc L (.null :: S))) (hd : decode bc pc = .ok (.ifnull o, 3)) (ho : 0 ≤ (pc : Int) + o) (hp : ((pc : Int) + o).toNat = pc') : Rch p l e R s m args below meth c Z y bc ml rt n0 T0 g0 k n h (mkF m pc' L S) :=
  r.pure fun T locs X eT t z => XS.ifnullYes X.here r.1.1 rfl (pc0 := pc) rfl (hb r.1.2.1 hd) rfl ho hp z
theorem Rch.nullF {a : Addr} {o : Int} (r : Rch p l e R s m args below meth c Z y bc ml rt n0 T0 g0 k n h (mkF m pc L (.ref a :: S))) (hd : decode bc pc = .ok (.ifnull o, 3)) (hp : pc + 3 = pc') : Rch p l e R s m args below meth c Z y bc ml rt n0 T0 g0 k n h (mkF m pc' L S) := by
  subst hp; exact r.pure fun T locs X eT t z => XS.ifnullNo X.here r.1.1 rfl (hb r.1.2.1 hd) rfl z
theorem Rch.nnT {a : Addr} {o : Int} (r : Rch p l e R s m args below meth c Z y bc ml rt n0 T0 g0 k n h (mkF m pc L (.ref a :: S))) (hd : decode bc pc = .ok (.ifnonnull o, 3)) (ho : 0 ≤ (pc : Int) + o) (hp : ((pc : Int) + o).toNat = pc') : Rch p l e R s m args below meth c Z y bc ml rt n0 T0 g0 k n h (mkF m pc' L S) :=
  r.pure fun T locs X eT t z => XS.ifnonnullYes X.here r.1.1 rfl (pc0 := pc) rfl (hb r.1.2.1 hd) rfl ho hp z
theorem Rch.nnF {o : Int} (r : Rch p l e R s m args below meth c Z y bc ml rt n0 T0 g0 k n h (mkF m pc L (.null :: S))) (hd : decode bc pc = .ok (.ifnonnull o, 3)) (hp : pc + 3 = pc') : Rch p l e R s m args below meth c Z y bc ml rt n0 T0 g0 k n h (mkF m pc' L S) := by
  subst hp; exact r.pure fun T locs X eT t z => XS.ifnonnullNo X.here r.1.1 rfl (hb r.1.2.1 hd) rfl z
-- fields
theorem Rch.getF {R0 O nm d host : String} {idx : Nat} {a : Addr} {v : Value} (r : Rch p l e R s m args below meth c Z y bc ml rt n0 T0 g0 k n h (mkF m pc L (.ref a :: S))) (hd : decode bc pc = .ok (.getfield idx, 3)) (w : (Jvm.Cond.fieldLink y.cls idx R0 nm d).before a0 Z = true ∨ (Jvm.Cond.fieldLinkNest y.cls idx R0 nm d host).before a0 Z = true) (via : Via Z R0 O nm d) (F : Fld Z h a O nm d v) (hp : pc + 3 = pc') :
    Rch p l e R s m args below meth c Z y bc ml rt n0 T0 g0 k n h (mkF m pc' L (v :: S)) := by
  subst hp; exact r.keep fun T locs X eT => getF X r.1.1 r.1.2.2.2.2.1 r.1.2.2.2.1 w via eT F (g := mkF m pc L (.ref a :: S)) rfl rfl (hb r.1.2.1 hd)
theorem Rch.getS {R0 O nm d host : String} {idx : Nat} {v : Value} (r : Rch p l e R s m args below meth c Z y bc ml rt n0 T0 g0 k n h (mkF m pc L S)) (hd : decode bc pc = .ok (.getstatic idx, 3)) (w : (Jvm.Cond.fieldLink y.cls idx R0 nm d).before a0 Z = true ∨ (Jvm.Cond.fieldLinkNest y.cls idx R0 nm d host).before a0 Z = true) (via : Via Z R0 O nm d) (F : Sta Z h O nm d v) (hp : pc + 3 = pc') :
    Rch p l e R s m args below meth c Z y bc ml rt n0 T0 g0 k n h (mkF m pc' L (v :: S)) := by
  subst hp; exact r.keep fun T locs X eT => getS2 X r.1.1 r.1.2.2.2.2.1 r.1.2.2.2.1 w via eT F (g := mkF m pc L S) rfl (hb r.1.2.1 hd)
theorem Rch.putF {R0 O nm d host C : String} {idx kk : Nat} {ty : FieldType} {a : Addr} {v old : Value} (r : Rch p l e R s m args below meth c Z y bc ml rt n0 T0 g0 k n h (mkF m pc L (v :: .ref a :: S))) (hd : decode bc pc = .ok (.putfield idx, 3)) (w : (Jvm.Cond.fieldLink y.cls idx R0 nm d).before a0 Z = true ∨ (Jvm.Cond.fieldLinkNest y.cls idx R0 nm d host).before a0 Z = true) (via : Via Z R0 O nm d) (F : Fld Z h a O nm d old) (E : Exa Z h a C)
    (lw : (Jvm.Cond.lays C O nm d).before a0 Z = true ∨ ((Jvm.Cond.laysFinal C O nm d).before a0 Z = true ∧ y.cls = O ∧ y.name = "<init>")) (wi : (Jvm.Cond.instantiable C kk).before a0 Z = true) (hty : parseFieldDescriptor d = some ty) (hn : narrow ty v = v) (hf : fits ty v = true) (hN : n0 ≤ a) (hp : pc + 3 = pc') :
    ∃ h', Wr h h' a (Jvm.RoadKit.slotOf Z O nm d) v ∧ Rch p l e R s m args below meth c Z y bc ml rt n0 T0 g0 k n h' (mkF m pc' L S) := by
  subst hp
  obtain ⟨q, T, locs, X, eT, N, st⟩ := r
  obtain ⟨T', h', X', e', W, st'⟩ := putF X q.1 q.2.2.2.2.1 q.2.2.2.1 w via eT F E (lw.imp id fun z => ⟨z.1, z.2.1, q.2.2.2.2.2.2.2.trans z.2.2⟩) wi hty hn hf (g := mkF m pc L (v :: .ref a :: S)) rfl rfl (hb q.2.1 hd)
  exact ⟨h', W, q, T', _, X', e', Fr.snoc X' N hN, fun t z => st t (st' t z)⟩
theorem Rch.putFN {R0 O nm d C : String} {idx kk : Nat} {ty : FieldType} {a : Addr} {v v' old : Value} (r : Rch p l e R s m args below meth c Z y bc ml rt n0 T0 g0 k n h (mkF m pc L (v :: .ref a :: S))) (hd : decode bc pc = .ok (.putfield idx, 3)) (w : (Jvm.Cond.fieldLink y.cls idx R0 nm d).before a0 Z = true) (via : Via Z R0 O nm d) (F : Fld Z h a O nm d old) (E : Exa Z h a C)
    (lw : (Jvm.Cond.lays C O nm d).before a0 Z = true ∨ ((Jvm.Cond.laysFinal C O nm d).before a0 Z = true ∧ y.cls = O ∧ y.name = "<init>")) (wi : (Jvm.Cond.instantiable C kk).before a0 Z = true) (hty : parseFieldDescriptor d = some ty) (hn : narrow ty v = v') (hf : fits ty v' = true) (hN : n0 ≤ a) (hp : pc + 3 = pc') :
    ∃ h', Wr h h' a (Jvm.RoadKit.slotOf Z O nm d) v' ∧ Rch p l e R s m args below meth c Z y bc ml rt n0 T0 g0 k n h' (mkF m pc' L S) := by
  subst hp
  obtain ⟨q, T, locs, X, eT, N, st⟩ := r
  obtain ⟨T', h', X', e', W, st'⟩ := putFN X q.1 q.2.2.2.2.1 q.2.2.2.1 w via eT F E (lw.imp id fun z => ⟨z.1, z.2.1, q.2.2.2.2.2.2.2.trans z.2.2⟩) wi hty hn hf (g := mkF m pc L (v :: .ref a :: S)) rfl rfl (hb q.2.1 hd)
  exact ⟨h', W, q, T', _, X', e', Fr.snoc X' N hN, fun t z => st t (st' t z)⟩
-- objects and arrays
theorem Rch.newO {C : String} {idx i : Nat} (r : Rch p l e R s m args below meth c Z y bc ml rt n0 T0 g0 k n h (mkF m pc L S)) (hd : decode bc pc = .ok (.new idx, 3)) (w : (Jvm.Cond.classLink y.cls idx C).before a0 Z = true) (wi : (Jvm.Cond.instantiable C i).before a0 Z = true) (wz : (Jvm.Cond.initialized C).before a0 Z = true) {k' n' : Nat} (hk : k + 1 = k') (hn' : n + i = n') (hc : k' ≤ R.cells) (hl : n' ≤ R.slots) (hp : pc + 3 = pc') :
    ∃ h' a, a = h.size ∧ Ext h h' ∧ Exa Z h' a C ∧ (∀ {O nm d : String} {ty : FieldType}, Laid Z a0 C O nm d → parseFieldDescriptor d = some ty → Fld Z h' a O nm d (defaultValue ty)) ∧ Rch p l e R s m args below meth c Z y bc ml rt n0 T0 g0 k' n' h' (mkF m pc' L (.ref a :: S)) := by
  subst hp hk hn'
  obtain ⟨q, T, locs, X, eT, N, st⟩ := r
  obtain ⟨T', h', X', e', E, A, D, -, st'⟩ := newO X q.1 q.2.2.2.2.1 q.2.2.2.1 w wi wz eT (g := mkF m pc L S) rfl (hb q.2.1 hd) hc hl
  exact ⟨h', h.size, rfl, E, A, D, q, T', locs, X', e', N, fun t z => st t (st' t z)⟩
theorem Rch.newP {aty : ArrayType} {i : Int32} (r : Rch p l e R s m args below meth c Z y bc ml rt n0 T0 g0 k n h (mkF m pc L (.int i :: S))) (hd : decode bc pc = .ok (.newarray aty, 2)) (w : (Jvm.Cond.arrayClass (newarray.typeOf aty)).before a0 Z = true) (hn : ¬ i < 0) {cap : Nat} (hcap : i.toNatClampNeg ≤ cap) (hbg : cap * 8 ≤ 536870912) {k' n' : Nat} (hk : k + 1 = k') (hn' : n + cap = n') (hc : k' ≤ R.cells) (hl : n' ≤ R.slots) (hp : pc + 2 = pc') :
    ∃ h' a cA, a = h.size ∧ Ext h h' ∧ Arv Z h' a cA (newarray.typeOf aty) i [] (defaultValue (newarray.typeOf aty)) ∧ Rch p l e R s m args below meth c Z y bc ml rt n0 T0 g0 k' n' h' (mkF m pc' L (.ref a :: S)) := by
  subst hp hk hn'
  obtain ⟨q, T, locs, X, eT, N, st⟩ := r
  obtain ⟨T', h', cA, X', e', E, A, st'⟩ := newP X q.1 q.2.2.2.2.1 w eT (g := mkF m pc L (.int i :: S)) rfl (hb q.2.1 hd) rfl hn hcap hbg hc hl
  exact ⟨h', h.size, cA, rfl, E, Arv.new A hn, q, T', locs, X', e', N, fun t z => st t (st' t z)⟩
theorem Rch.newR {C : String} {idx : Nat} {i : Int32} (r : Rch p l e R s m args below meth c Z y bc ml rt n0 T0 g0 k n h (mkF m pc L (.int i :: S))) (hd : decode bc pc = .ok (.anewarray idx, 3)) (w1 : (Jvm.Cond.classLink y.cls idx C).before a0 Z = true) (w2 : (Jvm.Cond.arrayOver (.object C)).before a0 Z = true) (hn : ¬ i < 0) {cap : Nat} (hcap : i.toNatClampNeg ≤ cap) (hbg : cap * 8 ≤ 536870912) {k' n' : Nat} (hk : k + 1 = k') (hn' : n + cap = n') (hc : k' ≤ R.cells) (hl : n' ≤ R.slots) (hp : pc + 3 = pc') :
    ∃ h' a cA, a = h.size ∧ Ext h h' ∧ Ovr Z cA C ∧ Arv Z h' a cA (.object C) i [] .null ∧ Rch p l e R s m args below meth c Z y bc ml rt n0 T0 g0 k' n' h' (mkF m pc' L (.ref a :: S)) := by
  subst hp hk hn'
  obtain ⟨q, T, locs, X, eT, N, st⟩ := r
  obtain ⟨T', h', cA, X', e', E, A, O, st'⟩ := newR X q.1 q.2.2.2.2.1 q.2.2.2.1 w1 w2 eT (g := mkF m pc L (.int i :: S)) rfl (hb q.2.1 hd) rfl hn hcap hbg hc hl
  exact ⟨h', h.size, cA, rfl, E, O, Arv.new A hn, q, T', locs, X', e', N, fun t z => st t (st' t z)⟩
theorem inbI {c : Cell} {z j : Int32} (S : c.slots.size = z.toNatClampNeg) (h1 : ¬ j < 0) (h2 : j < z) : ¬ (j < 0 ∨ c.slots.size ≤ j.toNatClampNeg) := inb_of S ⟨h1, h2⟩
theorem Rch.stI {a : Addr} {kc : ClassId} {z j : Int32} {x : Int32} {vs : List Value} {dv : Value} (r : Rch p l e R s m args below meth c Z y bc ml rt n0 T0 g0 k n h (mkF m pc L (.int x :: .int j :: .ref a :: S))) (hd : decode bc pc = .ok (.iastore, 1)) (V : Arv Z h a kc .int z vs dv) (h1 : ¬ j < 0) (h2 : j < z) (h3 : j.toNatClampNeg < vs.length) (hN : n0 ≤ a) (hp : pc + 1 = pc') :
    ∃ h', Wr h h' a j.toNatClampNeg (.int x) ∧ Arv Z h' a kc .int z (vs.set j.toNatClampNeg (.int x)) dv ∧ Rch p l e R s m args below meth c Z y bc ml rt n0 T0 g0 k n h' (mkF m pc' L S) := by
  subst hp
  obtain ⟨q, T, locs, X, eT, N, st⟩ := r
  obtain ⟨cl, A, q1, S1, q3, H, G⟩ := V
  obtain ⟨T', h', X', e', W, st'⟩ := stI X q.1 q.2.2.2.2.1 eT A (j := j) (inbI S1 h1 h2) (g := mkF m pc L (.int x :: .int j :: .ref a :: S)) rfl rfl (hb q.2.1 hd)
  exact ⟨h', W, Arv.set A q1 S1 q3 H G rfl W _ rfl h3, q, T', _, X', e', Fr.snoc X' N hN, fun t z => st t (st' t z)⟩
theorem Rch.stB {a : Addr} {kc : ClassId} {z j : Int32} {x : Int32} {vs : List Value} {dv : Value} (r : Rch p l e R s m args below meth c Z y bc ml rt n0 T0 g0 k n h (mkF m pc L (.int x :: .int j :: .ref a :: S))) (hd : decode bc pc = .ok (.bastore, 1)) (V : Arv Z h a kc .byte z vs dv) (h1 : ¬ j < 0) (h2 : j < z) (h3 : j.toNatClampNeg < vs.length) (hN : n0 ≤ a) (hp : pc + 1 = pc') :
    ∃ h', Wr h h' a j.toNatClampNeg (.int (nar .byte x)) ∧ Arv Z h' a kc .byte z (vs.set j.toNatClampNeg (.int (nar .byte x))) dv ∧ Rch p l e R s m args below meth c Z y bc ml rt n0 T0 g0 k n h' (mkF m pc' L S) := by
  subst hp
  obtain ⟨q, T, locs, X, eT, N, st⟩ := r
  obtain ⟨cl, A, q1, S1, q3, H, G⟩ := V
  obtain ⟨T', h', X', e', W, st'⟩ := stB X q.1 q.2.2.2.2.1 eT A (j := j) (inbI S1 h1 h2) (g := mkF m pc L (.int x :: .int j :: .ref a :: S)) rfl rfl (hb q.2.1 hd)
  exact ⟨h', W, Arv.set A q1 S1 q3 H G (fits_nar_byte _) W _ rfl h3, q, T', _, X', e', Fr.snoc X' N hN, fun t z => st t (st' t z)⟩
theorem Rch.stC {a : Addr} {kc : ClassId} {z j : Int32} {x : Int32} {vs : List Value} {dv : Value} (r : Rch p l e R s m args below meth c Z y bc ml rt n0 T0 g0 k n h (mkF m pc L (.int x :: .int j :: .ref a :: S))) (hd : decode bc pc = .ok (.castore, 1)) (V : Arv Z h a kc .char z vs dv) (h1 : ¬ j < 0) (h2 : j < z) (h3 : j.toNatClampNeg < vs.length) (hN : n0 ≤ a) (hp : pc + 1 = pc') :
    ∃ h', Wr h h' a j.toNatClampNeg (.int (nar .char x)) ∧ Arv Z h' a kc .char z (vs.set j.toNatClampNeg (.int (nar .char x))) dv ∧ Rch p l e R s m args below meth c Z y bc ml rt n0 T0 g0 k n h' (mkF m pc' L S) := by
  subst hp
  obtain ⟨q, T, locs, X, eT, N, st⟩ := r
  obtain ⟨cl, A, q1, S1, q3, H, G⟩ := V
  obtain ⟨T', h', X', e', W, st'⟩ := stC X q.1 q.2.2.2.2.1 eT A (j := j) (inbI S1 h1 h2) (g := mkF m pc L (.int x :: .int j :: .ref a :: S)) rfl rfl (hb q.2.1 hd)
  exact ⟨h', W, Arv.set A q1 S1 q3 H G (fits_nar_char _) W _ rfl h3, q, T', _, X', e', Fr.snoc X' N hN, fun t z => st t (st' t z)⟩
theorem Rch.stZ {a : Addr} {kc : ClassId} {z j : Int32} {x : Int32} {vs : List Value} {dv : Value} (r : Rch p l e R s m args below meth c Z y bc ml rt n0 T0 g0 k n h (mkF m pc L (.int x :: .int j :: .ref a :: S))) (hd : decode bc pc = .ok (.bastore, 1)) (V : Arv Z h a kc .boolean z vs dv) (h1 : ¬ j < 0) (h2 : j < z) (h3 : j.toNatClampNeg < vs.length) (hN : n0 ≤ a) (hp : pc + 1 = pc') :
    ∃ h', Wr h h' a j.toNatClampNeg (.int (nar .boolean x)) ∧ Arv Z h' a kc .boolean z (vs.set j.toNatClampNeg (.int (nar .boolean x))) dv ∧ Rch p l e R s m args below meth c Z y bc ml rt n0 T0 g0 k n h' (mkF m pc' L S) := by
  subst hp
  obtain ⟨q, T, locs, X, eT, N, st⟩ := r
  obtain ⟨cl, A, q1, S1, q3, H, G⟩ := V
  obtain ⟨T', h', X', e', W, st'⟩ := stZ X q.1 q.2.2.2.2.1 eT A (j := j) (inbI S1 h1 h2) (g := mkF m pc L (.int x :: .int j :: .ref a :: S)) rfl rfl (hb q.2.1 hd)
  exact ⟨h', W, Arv.set A q1 S1 q3 H G (fits_nar_bool _) W _ rfl h3, q, T', _, X', e', Fr.snoc X' N hN, fun t z => st t (st' t z)⟩
theorem Rch.stJ {a : Addr} {kc : ClassId} {z j : Int32} {x : Int64} {vs : List Value} {dv : Value} (r : Rch p l e R s m args below meth c Z y bc ml rt n0 T0 g0 k n h (mkF m pc L (.long x :: .int j :: .ref a :: S))) (hd : decode bc pc = .ok (.lastore, 1)) (V : Arv Z h a kc .long z vs dv) (h1 : ¬ j < 0) (h2 : j < z) (h3 : j.toNatClampNeg < vs.length) (hN : n0 ≤ a) (hp : pc + 1 = pc') :
    ∃ h', Wr h h' a j.toNatClampNeg (.long x) ∧ Arv Z h' a kc .long z (vs.set j.toNatClampNeg (.long x)) dv ∧ Rch p l e R s m args below meth c Z y bc ml rt n0 T0 g0 k n h' (mkF m pc' L S) := by
  subst hp
  obtain ⟨q, T, locs, X, eT, N, st⟩ := r
  obtain ⟨cl, A, q1, S1, q3, H, G⟩ := V
  obtain ⟨T', h', X', e', W, st'⟩ := stJ X q.1 q.2.2.2.2.1 eT A (j := j) (inbI S1 h1 h2) (g := mkF m pc L (.long x :: .int j :: .ref a :: S)) rfl rfl (hb q.2.1 hd)
  exact ⟨h', W, Arv.set A q1 S1 q3 H G rfl W _ rfl h3, q, T', _, X', e', Fr.snoc X' N hN, fun t z => st t (st' t z)⟩
theorem Rch.stR {C : String} {a : Addr} {kc : ClassId} {z j : Int32} {v : Value} {vs : List Value} {dv : Value} (r : Rch p l e R s m args below meth c Z y bc ml rt n0 T0 g0 k n h (mkF m pc L (v :: .int j :: .ref a :: S))) (hd : decode bc pc = .ok (.aastore, 1)) (V : Arv Z h a kc (.object C) z vs dv) (h1 : ¬ j < 0) (h2 : j < z) (h3 : j.toNatClampNeg < vs.length) (hs : Sto Z h a v) (hv : v.isRef = true) (hN : n0 ≤ a) (hp : pc + 1 = pc') :
    ∃ h', Wr h h' a j.toNatClampNeg v ∧ Arv Z h' a kc (.object C) z (vs.set j.toNatClampNeg v) dv ∧ Rch p l e R s m args below meth c Z y bc ml rt n0 T0 g0 k n h' (mkF m pc' L S) := by
  subst hp
  obtain ⟨q, T, locs, X, eT, N, st⟩ := r
  obtain ⟨cl, A, q1, S1, q3, H, G⟩ := V
  obtain ⟨T', h', X', e', W, st'⟩ := stR X q.1 q.2.2.2.2.1 eT A (j := j) (inbI S1 h1 h2) rfl hs (g := mkF m pc L (v :: .int j :: .ref a :: S)) rfl rfl (hb q.2.1 hd)
  have hf : fits (.object C) v = true := by cases v <;> first | rfl | (cases hv; done)
  exact ⟨h', W, Arv.set A q1 S1 q3 H G hf W _ rfl h3, q, T', _, X', e', Fr.snoc X' N hN, fun t z => st t (st' t z)⟩
theorem Rch.ldI {a : Addr} {kc : ClassId} {z j : Int32} {vs : List Value} {dv : Value} (v : Value) (r : Rch p l e R s m args below meth c Z y bc ml rt n0 T0 g0 k n h (mkF m pc L (.int j :: .ref a :: S))) (hd : decode bc pc = .ok (.iaload, 1)) (V : Arv Z h a kc .int z vs dv) (h1 : ¬ j < 0) (h2 : j < z) (hv : vs.getD j.toNatClampNeg dv = v) (hp : pc + 1 = pc') :
    Rch p l e R s m args below meth c Z y bc ml rt n0 T0 g0 k n h (mkF m pc' L (v :: S)) := by
  subst hp
  obtain ⟨cl, A, q1, S1, q3, H, G⟩ := V
  exact r.pure fun T locs X eT t w => X.iaload r.1.1 (j := j) (v := v) (by rw [eT]; exact A.1) (State.isArrayOf_alike r.1.2.2.2.2.1.alike A.2.1) A.2.2 (inbI S1 h1 h2) (Has.at H (inbI S1 h1 h2) hv) (g := mkF m pc L (.int j :: .ref a :: S)) rfl rfl (hb r.1.2.1 hd) _ w
theorem Rch.ldJ {a : Addr} {kc : ClassId} {z j : Int32} {vs : List Value} {dv : Value} (v : Value) (r : Rch p l e R s m args below meth c Z y bc ml rt n0 T0 g0 k n h (mkF m pc L (.int j :: .ref a :: S))) (hd : decode bc pc = .ok (.laload, 1)) (V : Arv Z h a kc .long z vs dv) (h1 : ¬ j < 0) (h2 : j < z) (hv : vs.getD j.toNatClampNeg dv = v) (hp : pc + 1 = pc') :
    Rch p l e R s m args below meth c Z y bc ml rt n0 T0 g0 k n h (mkF m pc' L (v :: S)) := by
  subst hp
  obtain ⟨cl, A, q1, S1, q3, H, G⟩ := V
  exact r.pure fun T locs X eT t w => X.laload r.1.1 (j := j) (v := v) (by rw [eT]; exact A.1) (State.isArrayOf_alike r.1.2.2.2.2.1.alike A.2.1) A.2.2 (inbI S1 h1 h2) (Has.at H (inbI S1 h1 h2) hv) (g := mkF m pc L (.int j :: .ref a :: S)) rfl rfl (hb r.1.2.1 hd) _ w
theorem Rch.ldB {a : Addr} {kc : ClassId} {z j : Int32} {vs : List Value} {dv : Value} (v : Value) (r : Rch p l e R s m args below meth c Z y bc ml rt n0 T0 g0 k n h (mkF m pc L (.int j :: .ref a :: S))) (hd : decode bc pc = .ok (.baload, 1)) (V : Arv Z h a kc .byte z vs dv) (h1 : ¬ j < 0) (h2 : j < z) (hv : vs.getD j.toNatClampNeg dv = v) (hp : pc + 1 = pc') :
    Rch p l e R s m args below meth c Z y bc ml rt n0 T0 g0 k n h (mkF m pc' L (v :: S)) := by
  subst hp
  obtain ⟨cl, A, q1, S1, q3, H, G⟩ := V
  exact r.pure fun T locs X eT t w => X.baloadBytes r.1.1 (j := j) (v := v) (by rw [eT]; exact A.1) (State.isArrayOf_alike r.1.2.2.2.2.1.alike A.2.1) A.2.2 (inbI S1 h1 h2) (Has.at H (inbI S1 h1 h2) hv) (g := mkF m pc L (.int j :: .ref a :: S)) rfl rfl (hb r.1.2.1 hd) _ w
theorem Rch.ldC {a : Addr} {kc : ClassId} {z j : Int32} {vs : List Value} {dv : Value} (v : Value) (r : Rch p l e R s m args below meth c Z y bc ml rt n0 T0 g0 k n h (mkF m pc L (.int j :: .ref a :: S))) (hd : decode bc pc = .ok (.caload, 1)) (V : Arv Z h a kc .char z vs dv) (h1 : ¬ j < 0) (h2 : j < z) (hv : vs.getD j.toNatClampNeg dv = v) (hp : pc + 1 = pc') :
    Rch p l e R s m args below meth c Z y bc ml rt n0 T0 g0 k n h (mkF m pc' L (v :: S)) := by
  subst hp
  obtain ⟨cl, A, q1, S1, q3, H, G⟩ := V
  exact r.pure fun T locs X eT t w => X.caload r.1.1 (j := j) (v := v) (by rw [eT]; exact A.1) (State.isArrayOf_alike r.1.2.2.2.2.1.alike A.2.1) A.2.2 (inbI S1 h1 h2) (Has.at H (inbI S1 h1 h2) hv) (g := mkF m pc L (.int j :: .ref a :: S)) rfl rfl (hb r.1.2.1 hd) _ w
theorem Rch.ldR {ty : FieldType} {a : Addr} {kc : ClassId} {z j : Int32} {vs : List Value} {dv : Value} (v : Value) (r : Rch p l e R s m args below meth c Z y bc ml rt n0 T0 g0 k n h (mkF m pc L (.int j :: .ref a :: S))) (hd : decode bc pc = .ok (.aaload, 1)) (V : Arv Z h a kc ty z vs dv) (hty : ty.isReference = true) (h1 : ¬ j < 0) (h2 : j < z) (hv : vs.getD j.toNatClampNeg dv = v) (hp : pc + 1 = pc') :
    Rch p l e R s m args below meth c Z y bc ml rt n0 T0 g0 k n h (mkF m pc' L (v :: S)) := by
  subst hp
  obtain ⟨cl, A, q1, S1, q3, H, G⟩ := V
  exact r.pure fun T locs X eT t w => X.aaload r.1.1 (j := j) (v := v) (by rw [eT]; exact A.1) (State.isArrayOf_alike r.1.2.2.2.2.1.alike A.2.1) hty A.2.2 (inbI S1 h1 h2) (Has.at H (inbI S1 h1 h2) hv) (g := mkF m pc L (.int j :: .ref a :: S)) rfl rfl (hb r.1.2.1 hd) _ w
theorem Rch.ldI0 {a : Addr} {kc : ClassId} {z j : Int32} {vs : List Value} {dv : Value} (r : Rch p l e R s m args below meth c Z y bc ml rt n0 T0 g0 k n h (mkF m pc L (.int j :: .ref a :: S))) (hd : decode bc pc = .ok (.iaload, 1)) (V : Arv Z h a kc .int z vs dv) (h1 : ¬ j < 0) (h2 : j < z) (hp : pc + 1 = pc') :
    ∃ x : Int32, vs.getD j.toNatClampNeg dv = .int x ∧ Rch p l e R s m args below meth c Z y bc ml rt n0 T0 g0 k n h (mkF m pc' L (.int x :: S)) := by
  have V0 := V
  obtain ⟨cl, A, q1, S1, q3, H, G⟩ := V0
  have hlt := Nat.lt_of_not_le fun q => inbI S1 h1 h2 (Or.inr q)
  obtain ⟨x, hx⟩ := fit_I (G _ hlt) (Or.inl rfl)
  exact ⟨x, hx, Rch.ldI (.int x) r hd V h1 h2 hx hp⟩
theorem Rch.stI0 {a : Addr} {kc : ClassId} {z j x : Int32} {vs : List Value} {dv : Value} (r : Rch p l e R s m args below meth c Z y bc ml rt n0 T0 g0 k n h (mkF m pc L (.int x :: .int j :: .ref a :: S))) (hd : decode bc pc = .ok (.iastore, 1)) (V : Arv Z h a kc .int z vs dv) (h1 : ¬ j < 0) (h2 : j < z) (hN : n0 ≤ a) (hp : pc + 1 = pc') :
    ∃ h' vs', Wr h h' a j.toNatClampNeg (.int x) ∧ Arv Z h' a kc .int z vs' dv ∧ Rch p l e R s m args below meth c Z y bc ml rt n0 T0 g0 k n h' (mkF m pc' L S) := by
  obtain ⟨h', W, V', r'⟩ := Rch.stI r hd (V.pad (pad_rep vs dv (j.toNatClampNeg + 1))) h1 h2 (by simp; omega) hN hp
  exact ⟨h', _, W, V', r'⟩
theorem Rch.alen {ty : FieldType} {a : Addr} {kc : ClassId} {z : Int32} {vs : List Value} {dv : Value} (r : Rch p l e R s m args below meth c Z y bc ml rt n0 T0 g0 k n h (mkF m pc L (.ref a :: S))) (hd : decode bc pc = .ok (.arraylength, 1)) (V : Arv Z h a kc ty z vs dv) (hp : pc + 1 = pc') :
    Rch p l e R s m args below meth c Z y bc ml rt n0 T0 g0 k n h (mkF m pc' L (.int z :: S)) := by
  subst hp
  obtain ⟨cl, A, -, S1, S2, -, -⟩ := V
  refine r.pure fun T locs X eT t w => X.arraylength r.1.1 (by rw [eT]; exact A.1) (State.isArrayOf_alike r.1.2.2.2.2.1.alike A.2.1) (g := mkF m pc L (.ref a :: S)) rfl rfl (hb r.1.2.1 hd) _ ?_
  rw [len_of S1 S2]
  exact w
-- returns
theorem Rch.retZ {z : Int32} {t : FieldType} (r : Rch p l e R s m args below meth c Z y bc ml rt n0 T0 g0 k n h (mkF m pc L (.int z :: S))) (hd : decode bc pc = .ok (.ireturn, 1)) (hrt : rt = some t) (ht : t = .boolean ∨ t = .byte ∨ t = .char ∨ t = .short) (w : Int32) (hw : nar t z = w) (hk : k ≤ R.cells) (hn : n ≤ R.slots) : Don p l e R s m args below meth c rt n0 T0 g0 (some (.int w)) h := by
  subst hw
  obtain ⟨q, T, locs, X, eT, N, st⟩ := r
  refine ⟨T, locs, k, n, X, hk, hn, eT, N, q.2.2.2.2.2.2.1, (fun z => ?_), fun fs hl => st _ (retN X q.1 (t := t) (q.2.2.2.2.2.1.trans hrt) ht (hb q.2.1 hd) hl)⟩
  rw [q.2.2.2.2.2.1, hrt] at z; cases z
theorem Rch.retI {z : Int32} (r : Rch p l e R s m args below meth c Z y bc ml rt n0 T0 g0 k n h (mkF m pc L (.int z :: S))) (hd : decode bc pc = .ok (.ireturn, 1)) (hrt : rt = some .int) (hk : k ≤ R.cells) (hn : n ≤ R.slots) : Don p l e R s m args below meth c rt n0 T0 g0 (some (.int z)) h := by
  obtain ⟨q, T, locs, X, eT, N, st⟩ := r
  refine ⟨T, locs, k, n, X, hk, hn, eT, N, q.2.2.2.2.2.2.1, (fun z => ?_), fun fs hl => st _ (retOut X q.1 (t := .int) (q.2.2.2.2.2.1.trans hrt) rfl (Or.inl ⟨rfl, Or.inl rfl, _, rfl⟩) (hb q.2.1 hd) hl)⟩
  rw [q.2.2.2.2.2.1, hrt] at z; cases z
theorem Rch.retJ {z : Int64} (r : Rch p l e R s m args below meth c Z y bc ml rt n0 T0 g0 k n h (mkF m pc L (.long z :: S))) (hd : decode bc pc = .ok (.lreturn, 1)) (hrt : rt = some .long) (hk : k ≤ R.cells) (hn : n ≤ R.slots) : Don p l e R s m args below meth c rt n0 T0 g0 (some (.long z)) h := by
  obtain ⟨q, T, locs, X, eT, N, st⟩ := r
  refine ⟨T, locs, k, n, X, hk, hn, eT, N, q.2.2.2.2.2.2.1, (fun z => ?_), fun fs hl => st _ (retOut X q.1 (t := .long) (q.2.2.2.2.2.1.trans hrt) rfl (Or.inr (Or.inl ⟨rfl, rfl, _, rfl⟩)) (hb q.2.1 hd) hl)⟩
  rw [q.2.2.2.2.2.1, hrt] at z; cases z
theorem Rch.retA {v : Value} {t : FieldType} (r : Rch p l e R s m args below meth c Z y bc ml rt n0 T0 g0 k n h (mkF m pc L (v :: S))) (hd : decode bc pc = .ok (.areturn, 1)) (hrt : rt = some t) (ht : t.isReference = true) (hv : v.isRef = true) (hk : k ≤ R.cells) (hn : n ≤ R.slots) : Don p l e R s m args below meth c rt n0 T0 g0 (some v) h := by
  obtain ⟨q, T, locs, X, eT, N, st⟩ := r
  have hnar : narrow t v = v := by cases v <;> first | (cases hv; done) | (cases t <;> rfl)
  refine ⟨T, locs, k, n, X, hk, hn, eT, N, q.2.2.2.2.2.2.1, (fun z => ?_), fun fs hl => st _ (retOut X q.1 (t := t) (q.2.2.2.2.2.1.trans hrt) hnar (Or.inr (Or.inr (Or.inr (Or.inr ⟨rfl, ht, hv⟩)))) (hb q.2.1 hd) hl)⟩
  rw [q.2.2.2.2.2.1, hrt] at z; cases z
theorem Rch.retV (r : Rch p l e R s m args below meth c Z y bc ml rt n0 T0 g0 k n h (mkF m pc L [])) (hd : decode bc pc = .ok (.return_, 1)) (hrt : rt = none) (hk : k ≤ R.cells) (hn : n ≤ R.slots) : Don p l e R s m args below meth c rt n0 T0 g0 none h := by
  obtain ⟨q, T, locs, X, eT, N, st⟩ := r
  exact ⟨T, locs, k, n, X, hk, hn, eT, N, q.2.2.2.2.2.2.1, fun _ => rfl, fun fs hl => st _ (X.returnOut q.1 (q.2.2.2.2.2.1.trans hrt) (hb q.2.1 hd) hl)⟩
-- entering a body
theorem ent {rm : Room} {as : Array Value} {h0 : Heap} {Q : Option Value → Heap → Prop} {L0 : Array Slot} (hpl : plainFor y = true) (hL : ∀ m, entryFrame m as ml = mkF m 0 L0 [])
    (H : ∀ p e s m below meth c T0, Rch p l e rm s m as below meth c Z y bc ml rt n0 T0 (mkF m 0 L0 []) 0 0 h0 (mkF m 0 L0 []) → ∃ v h, Don p l e rm s m as below meth c rt n0 T0 (mkF m 0 L0 []) v h ∧ Q v h) : Ctr l Z y bc ml rt rm as h0 n0 Q := by
  intro ws
  refine MetFree.of_bodySF hpl hisR ?_
  intro p e s m args below meth c s₁ Bd hml0 hP hK
  obtain ⟨rfl, hZ, hh⟩ := hP
  have hown : s.vm.findClass y.cls = some m.cls := findClass_of_methodNamed Bd.named
  have hnm := (name_of_methodNamed Bd.named Bd.method).1
  have X0 : Stand p l e rm s m args below meth c s₁ [] 0 0 := Stand.of_body Bd
  have e0 : s₁.heap = h0 := by rw [← hh, Bd.state]; rfl
  obtain ⟨v, h, ⟨T, locs, k, n, X, hk, hn, eT, N, hlk, hv, st⟩, hq⟩ := H p e s m below meth c s₁ ⟨⟨Bd.exec, Bd.bytes, hml0, hown, hZ, Bd.returns, Bd.notSynchronized, hnm⟩, s₁, [], X0, e0, Fr.nil n0, fun _ z => z⟩
  obtain ⟨fs, hr, hrun, hended, hW, hsame⟩ := X.leave (v := v) hv hlk
  refine ⟨_, _, castTop (hL m) (st fs hr), hrun, hended, v, locs, rfl, ⟨N, ?_⟩, ⟨_, rfl⟩, hW, hsame.mono hk hn⟩
  show Q v T.heap
  rw [eT]; exact hq
-- calls
theorem Rch.callS {z : MethodName} {bc' : ByteArray} {ml' : Nat} {rt' : Option FieldType} {rm : Room} {idx : Nat} {ps : List FieldType} {ro : Option FieldType} {Q : Option Value → Heap → Prop} (argsL : List Value) {rest : List Value} (W : Nat)
    (r : Rch p l e R s m args below meth c Z y bc ml rt n0 T0 g0 k n h (mkF m pc L S)) (hd : decode bc pc = .ok (.invokestatic idx, 3)) (w1 : (Jvm.Cond.methodLink y.cls idx z).before a0 Z = true) (w2 : (Jvm.Cond.static z).before a0 Z = true) (w3 : (Jvm.Cond.initialized z.cls).before a0 Z = true) (w4 : (Jvm.Cond.code z bc' ml' rt').before a0 Z = true)
    (hy : z.cls ≠ "java/lang/invoke/MethodHandle" ∧ z.cls ≠ "java/lang/invoke/VarHandle") (C : Ctr l Z z bc' ml' rt' rm argsL.toArray h n0 Q) (pd : parseMethodDescriptor z.desc = some ⟨ps, ro⟩) (hlen : argsL.length = ps.length) (hS : S = argsL.reverse ++ rest) (hml : L.size = ml)
    (hW : (rest.map fun v => v.category).sum ≤ W) (hf : rm.frames + 1 ≤ R.frames) (hlo : W + (ml' + 11) + rm.locals ≤ R.locals) {k' n' : Nat} (hk : k + rm.cells = k') (hn' : n + rm.slots = n') (hc : k' ≤ R.cells) (hl : n' ≤ R.slots) (hp : pc + 3 = pc') :
    ∃ v h', Q v h' ∧ Rch p l e R s m args below meth c Z y bc ml rt n0 T0 g0 k' n' h' (mkF m pc' L (v.toList ++ rest)) := by
  subst hp hS hk hn'
  obtain ⟨q, T, locs, X, eT, N, st⟩ := r
  obtain ⟨v, _, ⟨T', L', kk', nn'⟩, -, X', ⟨Lc, hQ, l1, y1, z1⟩, st'⟩ := Jvm.LawKit.callS X q.1 (y := z) q.2.2.2.1 (mvT q.2.2.2.2.1 w1) (mvT q.2.2.2.2.1 w2) (mvT q.2.2.2.2.1 w3) (mvT q.2.2.2.2.1 w4) hy (backOf (W := W) (Q := fun v h L => Fr n0 L ∧ Q v h) (C []) q.2.2.2.2.1 w4 w3 hf hlo) (g := mkF m pc L (argsL.reverse ++ rest)) rfl (by rw [q.2.2.1]; exact hml) (argsL := argsL) (rest := rest) (lenOf pd hlen) rfl (by simpa using hW) (hb q.2.1 hd) (fun _ _ => ⟨rfl, eT, hc, hl⟩)
  dsimp only [Pt.U, Pt.locs, Pt.cells, Pt.slots] at X' l1 y1 z1 st' hQ
  subst l1 y1 z1
  exact ⟨v, T'.heap, hQ.2, q, T', _, X', rfl, N.app hQ.1, fun t u => st t (st' t u)⟩
theorem Rch.callC {z : MethodName} {bc' : ByteArray} {ml' : Nat} {rm : Room} {idx : Nat} {ps : List FieldType} {ro : Option FieldType} {Q : Option Value → Heap → Prop} {a : Addr} (argsL : List Value) {rest : List Value} (W : Nat)
    (r : Rch p l e R s m args below meth c Z y bc ml rt n0 T0 g0 k n h (mkF m pc L S)) (hd : decode bc pc = .ok (.invokespecial idx, 3)) (hi : z.name = "<init>") (w1 : (Jvm.Cond.methodLink y.cls idx z).before a0 Z = true) (w2 : (Jvm.Cond.instanceMethod z).before a0 Z = true) (w3 : (Jvm.Cond.initialized z.cls).before a0 Z = true) (w4 : (Jvm.Cond.code z bc' ml' none).before a0 Z = true)
    (hy : z.cls ≠ "java/lang/invoke/MethodHandle" ∧ z.cls ≠ "java/lang/invoke/VarHandle") (C : Ctr l Z z bc' ml' none rm (.ref a :: argsL).toArray h n0 Q) (pd : parseMethodDescriptor z.desc = some ⟨ps, ro⟩) (hlen : argsL.length = ps.length) (hS : S = argsL.reverse ++ .ref a :: rest) (hml : L.size = ml)
    (hW : (rest.map fun v => v.category).sum ≤ W) (hf : rm.frames + 1 ≤ R.frames) (hlo : W + (ml' + 11) + rm.locals ≤ R.locals) {k' n' : Nat} (hk : k + rm.cells = k') (hn' : n + rm.slots = n') (hc : k' ≤ R.cells) (hl : n' ≤ R.slots) (hp : pc + 3 = pc') :
    ∃ v h', Q v h' ∧ Rch p l e R s m args below meth c Z y bc ml rt n0 T0 g0 k' n' h' (mkF m pc' L (v.toList ++ rest)) := by
  subst hp hS hk hn'
  obtain ⟨q, T, locs, X, eT, N, st⟩ := r
  obtain ⟨v, _, ⟨T', L', kk', nn'⟩, -, X', ⟨Lc, hQ, l1, y1, z1⟩, st'⟩ := X.specialBack q.1 (y := z) hi q.2.2.2.1 (mvT q.2.2.2.2.1 w1) (mvT q.2.2.2.2.1 w2) (mvT q.2.2.2.2.1 w4) hy (backOf (W := W) (Q := fun v h L => Fr n0 L ∧ Q v h) (C []) q.2.2.2.2.1 w4 w3 hf hlo) (g := mkF m pc L (argsL.reverse ++ .ref a :: rest)) rfl (by rw [q.2.2.1]; exact hml) (Steps.refl _) (a := a) (argsL := argsL) (rest := rest) (lenOf pd hlen) rfl (by simpa using hW) (hb q.2.1 hd) (fun _ _ => ⟨rfl, eT, hc, hl⟩)
  dsimp only [Pt.U, Pt.locs, Pt.cells, Pt.slots] at X' l1 y1 z1 st' hQ
  subst l1 y1 z1
  exact ⟨v, T'.heap, hQ.2, q, T', _, X', rfl, N.app hQ.1, fun t u => st t (st'.trans u)⟩
theorem Rch.callV {z z' : MethodName} {K : String} {bc' : ByteArray} {ml' : Nat} {rt' : Option FieldType} {rm : Room} {idx : Nat} {ps : List FieldType} {ro : Option FieldType} {Q : Option Value → Heap → Prop} {a : Addr} (argsL : List Value) {rest : List Value} (W : Nat)
    (r : Rch p l e R s m args below meth c Z y bc ml rt n0 T0 g0 k n h (mkF m pc L S)) (hd : decode bc pc = .ok (.invokevirtual idx, 3)) (w1 : (Jvm.Cond.methodLink y.cls idx z).before a0 Z = true) (w2 : (Jvm.Cond.declares z).before a0 Z = true) (nf : NotFace s z) (w5 : (Jvm.Cond.selects K z z').before a0 Z = true) (w6 : (Jvm.Cond.instanceMethod z').before a0 Z = true) (w3 : (Jvm.Cond.initialized z'.cls).before a0 Z = true) (w4 : (Jvm.Cond.code z' bc' ml' rt').before a0 Z = true)
    (hy : z.cls ≠ "java/lang/invoke/MethodHandle" ∧ z.cls ≠ "java/lang/invoke/VarHandle") (C : Ctr l Z z' bc' ml' rt' rm (.ref a :: argsL).toArray h n0 Q) (E : Exa Z h a K) (pd : parseMethodDescriptor z.desc = some ⟨ps, ro⟩) (hlen : argsL.length = ps.length) (hS : S = argsL.reverse ++ .ref a :: rest) (hml : L.size = ml)
    (hW : (rest.map fun v => v.category).sum ≤ W) (hf : rm.frames + 1 ≤ R.frames) (hlo : W + (ml' + 11) + rm.locals ≤ R.locals) {k' n' : Nat} (hk : k + rm.cells = k') (hn' : n + rm.slots = n') (hc : k' ≤ R.cells) (hl : n' ≤ R.slots) (hp : pc + 3 = pc') :
    ∃ v h', Q v h' ∧ Rch p l e R s m args below meth c Z y bc ml rt n0 T0 g0 k' n' h' (mkF m pc' L (v.toList ++ rest)) := by
  subst hp hS hk hn'
  obtain ⟨q, T, locs, X, eT, N, st⟩ := r
  obtain ⟨cq, kq, qa, qb, qc⟩ := isOf q.2.2.2.2.1 eT E
  obtain ⟨v, _, ⟨T', L', kk', nn'⟩, -, X', ⟨Lc, hQ, l1, y1, z1⟩, st'⟩ := X.virtualBack q.1 (y := z) (z := z') q.2.2.2.1 (mvT q.2.2.2.2.1 w1) (mvT q.2.2.2.2.1 w2) nf (mvT q.2.2.2.2.1 w5) (mvT q.2.2.2.2.1 w6) hy (backOf (W := W) (Q := fun v h L => Fr n0 L ∧ Q v h) (C []) q.2.2.2.2.1 w4 w3 hf hlo) qa qc (g := mkF m pc L (argsL.reverse ++ .ref a :: rest)) rfl (by rw [q.2.2.1]; exact hml) (Steps.refl _) (argsL := argsL) (rest := rest) (lenOf pd hlen) rfl (by simpa using hW) (hb q.2.1 hd) (fun _ _ => ⟨rfl, eT, hc, hl⟩)
  dsimp only [Pt.U, Pt.locs, Pt.cells, Pt.slots] at X' l1 y1 z1 st' hQ
  subst l1 y1 z1
  exact ⟨v, T'.heap, hQ.2, q, T', _, X', rfl, N.app hQ.1, fun t u => st t (st'.trans u)⟩
theorem Rch.nface {z z' : MethodName} {K : String} {g : JFrame} (r : Rch p l e R s m args below meth c Z y bc ml rt n0 T0 g0 k n h g) (w : (Jvm.Cond.selects K z z').before a0 Z = true) (hq : z = z') : NotFace s z := by
  subst hq; exact notFace_of_selects (args := #[]) (mvT r.1.2.2.2.2.1 w)
theorem Rch.initO {idx : Nat} {a : Addr} (W : Nat) (r : Rch p l e R s m args below meth c Z y bc ml rt n0 T0 g0 k n h (mkF m pc L (.ref a :: S))) (hd : decode bc pc = .ok (.invokespecial idx, 3)) (w1 : (Jvm.Cond.methodLink y.cls idx Lib.objectInit).before a0 Z = true) (w2 : (Jvm.Cond.instanceMethod Lib.objectInit).before a0 Z = true) (w3 : (Jvm.Cond.code Lib.objectInit ⟨#[0xb1]⟩ 1 none).before a0 Z = true) (hml : L.size = ml)
    (hf : 1 ≤ R.frames) (hW : (S.map fun v => v.category).sum ≤ W) (hl : W + 12 ≤ R.locals) (hp : pc + 3 = pc') : Rch p l e R s m args below meth c Z y bc ml rt n0 T0 g0 k n h (mkF m pc' L S) := by
  subst hp
  exact r.keep fun T locs X eT => initO X r.1.1 r.1.2.2.2.2.1 r.1.2.2.2.1 w1 w2 w3 eT (g := mkF m pc L (.ref a :: S)) rfl (by rw [r.1.2.2.1]; exact hml) rfl (hb r.1.2.1 hd) hf (W := W) (by simpa using hW) hl
end OwnLayer

/-- what the callee says of a code point -/
abbrev okc (c : Int) : Prop := c = 9 ∨ c = 10 ∨ c = 13 ∨ (32 ≤ c ∧ c ≤ 55295) ∨ (57344 ≤ c ∧ c ≤ 65533) ∨ 65536 ≤ c
theorem pn_com_example_mingdang_mingdang_Element : plainName "com/example/mingdang/mingdang/Element" = true := by first | (simp [plainName, overriddenIn]; done) | decide +kernel
theorem d1_0 : decode prog_36_method_14_code 0 = .ok (.iload_n 0, 1) := by decide +kernel
theorem d1_1 : decode prog_36_method_14_code 1 = .ok (.bipush 9, 2) := by decide +kernel
theorem d1_3 : decode prog_36_method_14_code 3 = .ok (.if_icmp .eq 45, 3) := by decide +kernel
theorem d1_48 : decode prog_36_method_14_code 48 = .ok (.iconst 1, 1) := by decide +kernel
theorem d1_49 : decode prog_36_method_14_code 49 = .ok (.goto 4, 3) := by decide +kernel
theorem d1_53 : decode prog_36_method_14_code 53 = .ok (.ireturn, 1) := by decide +kernel
theorem d1_6 : decode prog_36_method_14_code 6 = .ok (.iload_n 0, 1) := by decide +kernel
theorem d1_7 : decode prog_36_method_14_code 7 = .ok (.bipush 10, 2) := by decide +kernel
theorem d1_9 : decode prog_36_method_14_code 9 = .ok (.if_icmp .eq 39, 3) := by decide +kernel
theorem d1_12 : decode prog_36_method_14_code 12 = .ok (.iload_n 0, 1) := by decide +kernel
theorem d1_13 : decode prog_36_method_14_code 13 = .ok (.bipush 13, 2) := by decide +kernel
theorem d1_15 : decode prog_36_method_14_code 15 = .ok (.if_icmp .eq 33, 3) := by decide +kernel
theorem d1_18 : decode prog_36_method_14_code 18 = .ok (.iload_n 0, 1) := by decide +kernel
theorem d1_19 : decode prog_36_method_14_code 19 = .ok (.bipush 32, 2) := by decide +kernel
theorem d1_21 : decode prog_36_method_14_code 21 = .ok (.if_icmp .lt 9, 3) := by decide +kernel
theorem d1_30 : decode prog_36_method_14_code 30 = .ok (.iload_n 0, 1) := by decide +kernel
theorem d1_31 : decode prog_36_method_14_code 31 = .ok (.ldc 118, 2) := by decide +kernel
theorem d1_33 : decode prog_36_method_14_code 33 = .ok (.if_icmp .lt 9, 3) := by decide +kernel
theorem d1_42 : decode prog_36_method_14_code 42 = .ok (.iload_n 0, 1) := by decide +kernel
theorem d1_43 : decode prog_36_method_14_code 43 = .ok (.ldc 120, 2) := by decide +kernel
theorem d1_45 : decode prog_36_method_14_code 45 = .ok (.if_icmp .lt 7, 3) := by decide +kernel
theorem d1_52 : decode prog_36_method_14_code 52 = .ok (.iconst 0, 1) := by decide +kernel
theorem d1_36 : decode prog_36_method_14_code 36 = .ok (.iload_n 0, 1) := by decide +kernel
theorem d1_37 : decode prog_36_method_14_code 37 = .ok (.ldc 119, 2) := by decide +kernel
theorem d1_39 : decode prog_36_method_14_code 39 = .ok (.if_icmp .le 9, 3) := by decide +kernel
theorem d1_24 : decode prog_36_method_14_code 24 = .ok (.iload_n 0, 1) := by decide +kernel
theorem d1_25 : decode prog_36_method_14_code 25 = .ok (.ldc 117, 2) := by decide +kernel
theorem d1_27 : decode prog_36_method_14_code 27 = .ok (.if_icmp .le 21, 3) := by decide +kernel
set_option maxRecDepth 65536 in
set_option maxHeartbeats 40000000 in
theorem c1 (l : Launch) (Z : State) (a0 : Array Value) (hw : ∀ d ∈ tables_1, d.before a0 Z = true) (x0 : Int32) (h0 : Heap) (n0 : Nat) :
    Ctr l Z (⟨"com/example/mingdang/mingdang/Element", "carries", "(I)Z"⟩ : MethodName) prog_36_method_14_code 1 (some .boolean) ({ frames := 0, cells := 0, slots := 0, locals := 0 } : Room) #[(.int x0)] h0 n0 (fun v h => v = some (.int (if okc x0.toInt then (1 : Int32) else (0 : Int32))) ∧ h0 = h) := by
  refine ent (plainFor_of_name pn_com_example_mingdang_mingdang_Element) (L0 := #[.val (.int x0)]) (fun m => by first | (simp [entryFrame, mkF, argsToLocals, Value.category]; done) | rfl) ?_
  intro p e s m below meth c T0 r0
  have r1 := r0.iloadN (pc' := 1) d1_0 rfl rfl
  have r2 := r1.bipush (pc' := 3) (9 : Int32) d1_1 rfl rfl
  by_cases hc3 : x0 = (9 : Int32)
  · -- yes
    have r4 := r2.icT (pc' := 48) d1_3 (teq hc3).1 (by decide) (by decide)
    have r5 := r4.iconst (pc' := 49) (1 : Int32) d1_48 rfl rfl
    have r6 := r5.goto (pc' := 53) d1_49 (by decide) (by decide)
    have hP : okc x0.toInt := by
      simp only [Int32.lt_iff_toInt_lt, ← Int32.toInt_inj, Int32.reduceToInt] at hc3
      omega
    rw [if_pos hP]
    exact ⟨_, _, r6.retZ d1_53 rfl (t := .boolean) (by simp) (1 : Int32) rfl (by decide) (by decide), ⟨rfl, rfl⟩⟩
  · -- not no
    have r7 := r2.icF (pc' := 6) d1_3 (feq hc3).1 rfl
    have r8 := r7.iloadN (pc' := 7) d1_6 rfl rfl
    have r9 := r8.bipush (pc' := 9) (10 : Int32) d1_7 rfl rfl
    by_cases hc10 : x0 = (10 : Int32)
    · -- yes
      have r11 := r9.icT (pc' := 48) d1_9 (teq hc10).1 (by decide) (by decide)
      have r12 := r11.iconst (pc' := 49) (1 : Int32) d1_48 rfl rfl
      have r13 := r12.goto (pc' := 53) d1_49 (by decide) (by decide)
      have hP : okc x0.toInt := by
        simp only [Int32.lt_iff_toInt_lt, ← Int32.toInt_inj, Int32.reduceToInt] at hc3 hc10
        omega
      rw [if_pos hP]
      exact ⟨_, _, r13.retZ d1_53 rfl (t := .boolean) (by simp) (1 : Int32) rfl (by decide) (by decide), ⟨rfl, rfl⟩⟩
    · -- not no
      have r14 := r9.icF (pc' := 12) d1_9 (feq hc10).1 rfl
      have r15 := r14.iloadN (pc' := 13) d1_12 rfl rfl
      have r16 := r15.bipush (pc' := 15) (13 : Int32) d1_13 rfl rfl
      by_cases hc17 : x0 = (13 : Int32)
      · -- yes
        have r18 := r16.icT (pc' := 48) d1_15 (teq hc17).1 (by decide) (by decide)
        have r19 := r18.iconst (pc' := 49) (1 : Int32) d1_48 rfl rfl
        have r20 := r19.goto (pc' := 53) d1_49 (by decide) (by decide)
        have hP : okc x0.toInt := by
          simp only [Int32.lt_iff_toInt_lt, ← Int32.toInt_inj, Int32.reduceToInt] at hc3 hc10 hc17
          omega
        rw [if_pos hP]
        exact ⟨_, _, r20.retZ d1_53 rfl (t := .boolean) (by simp) (1 : Int32) rfl (by decide) (by decide), ⟨rfl, rfl⟩⟩
      · -- not no
        have r21 := r16.icF (pc' := 18) d1_15 (feq hc17).1 rfl
        have r22 := r21.iloadN (pc' := 19) d1_18 rfl rfl
        have r23 := r22.bipush (pc' := 21) (32 : Int32) d1_19 rfl rfl
        by_cases hc24 : x0 < (32 : Int32)
        · -- yes
          have r25 := r23.icT (pc' := 30) d1_21 (tlt hc24).1 (by decide) (by decide)
          have r26 := r25.iloadN (pc' := 31) d1_30 rfl rfl
          have r27 := r26.ldc (pc' := 33) d1_31 (hw _ (List.mem_of_getElem? (i := 9) rfl)) rfl
          by_cases hc28 : x0 < (57344 : Int32)
          · -- yes
            have r29 := r27.icT (pc' := 42) d1_33 (tlt hc28).1 (by decide) (by decide)
            have r30 := r29.iloadN (pc' := 43) d1_42 rfl rfl
            have r31 := r30.ldc (pc' := 45) d1_43 (hw _ (List.mem_of_getElem? (i := 10) rfl)) rfl
            by_cases hc32 : x0 < (65536 : Int32)
            · -- yes
              have r33 := r31.icT (pc' := 52) d1_45 (tlt hc32).1 (by decide) (by decide)
              have r34 := r33.iconst (pc' := 53) (0 : Int32) d1_52 rfl rfl
              have hP : ¬ (okc x0.toInt) := by
                simp only [Int32.lt_iff_toInt_lt, ← Int32.toInt_inj, Int32.reduceToInt] at hc3 hc10 hc17 hc24 hc28 hc32
                omega
              rw [if_neg hP]
              exact ⟨_, _, r34.retZ d1_53 rfl (t := .boolean) (by simp) (0 : Int32) rfl (by decide) (by decide), ⟨rfl, rfl⟩⟩
            · -- not no
              have r35 := r31.icF (pc' := 48) d1_45 (flt hc32).1 rfl
              have r36 := r35.iconst (pc' := 49) (1 : Int32) d1_48 rfl rfl
              have r37 := r36.goto (pc' := 53) d1_49 (by decide) (by decide)
              have hP : okc x0.toInt := by
                simp only [Int32.lt_iff_toInt_lt, ← Int32.toInt_inj, Int32.reduceToInt] at hc3 hc10 hc17 hc24 hc28 hc32
                omega
              rw [if_pos hP]
              exact ⟨_, _, r37.retZ d1_53 rfl (t := .boolean) (by simp) (1 : Int32) rfl (by decide) (by decide), ⟨rfl, rfl⟩⟩
          · -- not no
            have r38 := r27.icF (pc' := 36) d1_33 (flt hc28).1 rfl
            have r39 := r38.iloadN (pc' := 37) d1_36 rfl rfl
            have r40 := r39.ldc (pc' := 39) d1_37 (hw _ (List.mem_of_getElem? (i := 13) rfl)) rfl
            by_cases hc41 : (65533 : Int32) < x0
            · -- yes
              have r42 := r40.icF (pc' := 42) d1_39 (tlt hc41).2.2.2 rfl
              have r43 := r42.iloadN (pc' := 43) d1_42 rfl rfl
              have r44 := r43.ldc (pc' := 45) d1_43 (hw _ (List.mem_of_getElem? (i := 10) rfl)) rfl
              by_cases hc45 : x0 < (65536 : Int32)
              · -- yes
                have r46 := r44.icT (pc' := 52) d1_45 (tlt hc45).1 (by decide) (by decide)
                have r47 := r46.iconst (pc' := 53) (0 : Int32) d1_52 rfl rfl
                have hP : ¬ (okc x0.toInt) := by
                  simp only [Int32.lt_iff_toInt_lt, ← Int32.toInt_inj, Int32.reduceToInt] at hc3 hc10 hc17 hc24 hc28 hc41 hc45
                  omega
                rw [if_neg hP]
                exact ⟨_, _, r47.retZ d1_53 rfl (t := .boolean) (by simp) (0 : Int32) rfl (by decide) (by decide), ⟨rfl, rfl⟩⟩
              · -- not no
                have r48 := r44.icF (pc' := 48) d1_45 (flt hc45).1 rfl
                have r49 := r48.iconst (pc' := 49) (1 : Int32) d1_48 rfl rfl
                have r50 := r49.goto (pc' := 53) d1_49 (by decide) (by decide)
                have hP : okc x0.toInt := by
                  simp only [Int32.lt_iff_toInt_lt, ← Int32.toInt_inj, Int32.reduceToInt] at hc3 hc10 hc17 hc24 hc28 hc41 hc45
                  omega
                rw [if_pos hP]
                exact ⟨_, _, r50.retZ d1_53 rfl (t := .boolean) (by simp) (1 : Int32) rfl (by decide) (by decide), ⟨rfl, rfl⟩⟩
            · -- not no
              have r51 := r40.icT (pc' := 48) d1_39 (flt hc41).2.2.2 (by decide) (by decide)
              have r52 := r51.iconst (pc' := 49) (1 : Int32) d1_48 rfl rfl
              have r53 := r52.goto (pc' := 53) d1_49 (by decide) (by decide)
              have hP : okc x0.toInt := by
                simp only [Int32.lt_iff_toInt_lt, ← Int32.toInt_inj, Int32.reduceToInt] at hc3 hc10 hc17 hc24 hc28 hc41
                omega
              rw [if_pos hP]
              exact ⟨_, _, r53.retZ d1_53 rfl (t := .boolean) (by simp) (1 : Int32) rfl (by decide) (by decide), ⟨rfl, rfl⟩⟩
        · -- not no
          have r54 := r23.icF (pc' := 24) d1_21 (flt hc24).1 rfl
          have r55 := r54.iloadN (pc' := 25) d1_24 rfl rfl
          have r56 := r55.ldc (pc' := 27) d1_25 (hw _ (List.mem_of_getElem? (i := 11) rfl)) rfl
          by_cases hc57 : (55295 : Int32) < x0
          · -- yes
            have r58 := r56.icF (pc' := 30) d1_27 (tlt hc57).2.2.2 rfl
            have r59 := r58.iloadN (pc' := 31) d1_30 rfl rfl
            have r60 := r59.ldc (pc' := 33) d1_31 (hw _ (List.mem_of_getElem? (i := 9) rfl)) rfl
            by_cases hc61 : x0 < (57344 : Int32)
            · -- yes
              have r62 := r60.icT (pc' := 42) d1_33 (tlt hc61).1 (by decide) (by decide)
              have r63 := r62.iloadN (pc' := 43) d1_42 rfl rfl
              have r64 := r63.ldc (pc' := 45) d1_43 (hw _ (List.mem_of_getElem? (i := 10) rfl)) rfl
              by_cases hc65 : x0 < (65536 : Int32)
              · -- yes
                have r66 := r64.icT (pc' := 52) d1_45 (tlt hc65).1 (by decide) (by decide)
                have r67 := r66.iconst (pc' := 53) (0 : Int32) d1_52 rfl rfl
                have hP : ¬ (okc x0.toInt) := by
                  simp only [Int32.lt_iff_toInt_lt, ← Int32.toInt_inj, Int32.reduceToInt] at hc3 hc10 hc17 hc24 hc57 hc61 hc65
                  omega
                rw [if_neg hP]
                exact ⟨_, _, r67.retZ d1_53 rfl (t := .boolean) (by simp) (0 : Int32) rfl (by decide) (by decide), ⟨rfl, rfl⟩⟩
              · -- not no
                have r68 := r64.icF (pc' := 48) d1_45 (flt hc65).1 rfl
                have r69 := r68.iconst (pc' := 49) (1 : Int32) d1_48 rfl rfl
                have r70 := r69.goto (pc' := 53) d1_49 (by decide) (by decide)
                have hP : okc x0.toInt := by
                  simp only [Int32.lt_iff_toInt_lt, ← Int32.toInt_inj, Int32.reduceToInt] at hc3 hc10 hc17 hc24 hc57 hc61 hc65
                  omega
                rw [if_pos hP]
                exact ⟨_, _, r70.retZ d1_53 rfl (t := .boolean) (by simp) (1 : Int32) rfl (by decide) (by decide), ⟨rfl, rfl⟩⟩
            · -- not no
              have r71 := r60.icF (pc' := 36) d1_33 (flt hc61).1 rfl
              have r72 := r71.iloadN (pc' := 37) d1_36 rfl rfl
              have r73 := r72.ldc (pc' := 39) d1_37 (hw _ (List.mem_of_getElem? (i := 13) rfl)) rfl
              by_cases hc74 : (65533 : Int32) < x0
              · -- yes
                have r75 := r73.icF (pc' := 42) d1_39 (tlt hc74).2.2.2 rfl
                have r76 := r75.iloadN (pc' := 43) d1_42 rfl rfl
                have r77 := r76.ldc (pc' := 45) d1_43 (hw _ (List.mem_of_getElem? (i := 10) rfl)) rfl
                by_cases hc78 : x0 < (65536 : Int32)
                · -- yes
                  have r79 := r77.icT (pc' := 52) d1_45 (tlt hc78).1 (by decide) (by decide)
                  have r80 := r79.iconst (pc' := 53) (0 : Int32) d1_52 rfl rfl
                  have hP : ¬ (okc x0.toInt) := by
                    simp only [Int32.lt_iff_toInt_lt, ← Int32.toInt_inj, Int32.reduceToInt] at hc3 hc10 hc17 hc24 hc57 hc61 hc74 hc78
                    omega
                  rw [if_neg hP]
                  exact ⟨_, _, r80.retZ d1_53 rfl (t := .boolean) (by simp) (0 : Int32) rfl (by decide) (by decide), ⟨rfl, rfl⟩⟩
                · -- not no
                  have r81 := r77.icF (pc' := 48) d1_45 (flt hc78).1 rfl
                  have r82 := r81.iconst (pc' := 49) (1 : Int32) d1_48 rfl rfl
                  have r83 := r82.goto (pc' := 53) d1_49 (by decide) (by decide)
                  have hP : okc x0.toInt := by
                    simp only [Int32.lt_iff_toInt_lt, ← Int32.toInt_inj, Int32.reduceToInt] at hc3 hc10 hc17 hc24 hc57 hc61 hc74 hc78
                    omega
                  rw [if_pos hP]
                  exact ⟨_, _, r83.retZ d1_53 rfl (t := .boolean) (by simp) (1 : Int32) rfl (by decide) (by decide), ⟨rfl, rfl⟩⟩
              · -- not no
                have r84 := r73.icT (pc' := 48) d1_39 (flt hc74).2.2.2 (by decide) (by decide)
                have r85 := r84.iconst (pc' := 49) (1 : Int32) d1_48 rfl rfl
                have r86 := r85.goto (pc' := 53) d1_49 (by decide) (by decide)
                have hP : okc x0.toInt := by
                  simp only [Int32.lt_iff_toInt_lt, ← Int32.toInt_inj, Int32.reduceToInt] at hc3 hc10 hc17 hc24 hc57 hc61 hc74
                  omega
                rw [if_pos hP]
                exact ⟨_, _, r86.retZ d1_53 rfl (t := .boolean) (by simp) (1 : Int32) rfl (by decide) (by decide), ⟨rfl, rfl⟩⟩
          · -- not no
            have r87 := r56.icT (pc' := 48) d1_27 (flt hc57).2.2.2 (by decide) (by decide)
            have r88 := r87.iconst (pc' := 49) (1 : Int32) d1_48 rfl rfl
            have r89 := r88.goto (pc' := 53) d1_49 (by decide) (by decide)
            have hP : okc x0.toInt := by
              simp only [Int32.lt_iff_toInt_lt, ← Int32.toInt_inj, Int32.reduceToInt] at hc3 hc10 hc17 hc24 hc57
              omega
            rw [if_pos hP]
            exact ⟨_, _, r89.retZ d1_53 rfl (t := .boolean) (by simp) (1 : Int32) rfl (by decide) (by decide), ⟨rfl, rfl⟩⟩
theorem pn_com_example_mingdang_mingdang_ElementCarriesPinLaw : plainName "com/example/mingdang/mingdang/ElementCarriesPinLaw" = true := by first | (simp [plainName, overriddenIn]; done) | decide +kernel
theorem pd_0 : parseMethodDescriptor "(I)Z" = some ⟨[.int], some .boolean⟩ := by decide +kernel
set_option maxRecDepth 65536 in
set_option maxHeartbeats 40000000 in
theorem law (l : Launch) (Z : State) (a0 : Array Value) (hw : ∀ d ∈ tables_1, d.before a0 Z = true) (x0 : Int32) (h0 : Heap) (n0 : Nat) :
    Ctr l Z x code maxLocals ret room_1 #[(.int x0)] h0 n0 (fun v h => v = some (.int 1)) := by
  refine ent (plainFor_of_name pn_com_example_mingdang_mingdang_ElementCarriesPinLaw) (L0 := #[.val (.int x0), .unset, .unset, .unset, .unset, .unset]) (fun m => by first | (simp [entryFrame, mkF, argsToLocals, Value.category, maxLocals]; done) | rfl) ?_
  intro p e s m below meth c T0 r0
  have r90 := r0.iloadN (pc' := 1) at_0 rfl rfl
  have r91 := r90.ldc (pc' := 3) at_1 (hw _ (List.mem_of_getElem? (i := 0) rfl)) rfl
  have r92 := r91.iand (pc' := 4) at_3 rfl rfl
  have r93 := r92.ldc (pc' := 6) at_4 (hw _ (List.mem_of_getElem? (i := 1) rfl)) rfl
  have r94 := r93.irem (pc' := 7) at_6 (by decide) rfl rfl
  have r95 := r94.istoreN (pc' := 8) (L' := #[.val (.int x0), .val (.int ((x0 &&& (2147483647 : Int32)) % (1114112 : Int32))), .unset, .unset, .unset, .unset]) at_7 rfl rfl
  obtain ⟨cc, hcc⟩ : ∃ z, z = ((x0 &&& (2147483647 : Int32)) % (1114112 : Int32)) := ⟨_, rfl⟩
  rw [← hcc] at r95
  have r96 : Rch p l e room_1 s m #[(.int x0)] below meth c Z x code maxLocals ret n0 T0 (mkF m 0 #[.val (.int x0), .unset, .unset, .unset, .unset, .unset] []) 0 0 h0 (mkF m 37 #[.val (.int x0), .val (.int cc), .unset, .unset, .unset, .unset] [(.int (if cc.toInt < 32 ∧ cc.toInt ≠ 9 ∧ cc.toInt ≠ 10 ∧ cc.toInt ≠ 13 then (1 : Int32) else (0 : Int32)))]) := by
    have r97 := r95.iloadN (pc' := 9) at_8 rfl rfl
    have r98 := r97.bipush (pc' := 11) (32 : Int32) at_9 rfl rfl
    by_cases hc99 : cc < (32 : Int32)
    · -- yes
      have r100 := r98.icF (pc' := 14) at_11 (tlt hc99).2.1 rfl
      have r101 := r100.iloadN (pc' := 15) at_14 rfl rfl
      have r102 := r101.bipush (pc' := 17) (9 : Int32) at_15 rfl rfl
      by_cases hc103 : cc = (9 : Int32)
      · -- yes
        have r104 := r102.icT (pc' := 36) at_17 (teq hc103).1 (by decide) (by decide)
        have r105 := r104.iconst (pc' := 37) (0 : Int32) at_36 rfl rfl
        have hP : ¬ (cc.toInt < 32 ∧ cc.toInt ≠ 9 ∧ cc.toInt ≠ 10 ∧ cc.toInt ≠ 13) := by
          simp only [Int32.lt_iff_toInt_lt, ← Int32.toInt_inj, Int32.reduceToInt] at hc99 hc103
          omega
        rw [if_neg hP]
        exact r105
      · -- not no
        have r106 := r102.icF (pc' := 20) at_17 (feq hc103).1 rfl
        have r107 := r106.iloadN (pc' := 21) at_20 rfl rfl
        have r108 := r107.bipush (pc' := 23) (10 : Int32) at_21 rfl rfl
        by_cases hc109 : cc = (10 : Int32)
        · -- yes
          have r110 := r108.icT (pc' := 36) at_23 (teq hc109).1 (by decide) (by decide)
          have r111 := r110.iconst (pc' := 37) (0 : Int32) at_36 rfl rfl
          have hP : ¬ (cc.toInt < 32 ∧ cc.toInt ≠ 9 ∧ cc.toInt ≠ 10 ∧ cc.toInt ≠ 13) := by
            simp only [Int32.lt_iff_toInt_lt, ← Int32.toInt_inj, Int32.reduceToInt] at hc99 hc103 hc109
            omega
          rw [if_neg hP]
          exact r111
        · -- not no
          have r112 := r108.icF (pc' := 26) at_23 (feq hc109).1 rfl
          have r113 := r112.iloadN (pc' := 27) at_26 rfl rfl
          have r114 := r113.bipush (pc' := 29) (13 : Int32) at_27 rfl rfl
          by_cases hc115 : cc = (13 : Int32)
          · -- yes
            have r116 := r114.icT (pc' := 36) at_29 (teq hc115).1 (by decide) (by decide)
            have r117 := r116.iconst (pc' := 37) (0 : Int32) at_36 rfl rfl
            have hP : ¬ (cc.toInt < 32 ∧ cc.toInt ≠ 9 ∧ cc.toInt ≠ 10 ∧ cc.toInt ≠ 13) := by
              simp only [Int32.lt_iff_toInt_lt, ← Int32.toInt_inj, Int32.reduceToInt] at hc99 hc103 hc109 hc115
              omega
            rw [if_neg hP]
            exact r117
          · -- not no
            have r118 := r114.icF (pc' := 32) at_29 (feq hc115).1 rfl
            have r119 := r118.iconst (pc' := 33) (1 : Int32) at_32 rfl rfl
            have r120 := r119.goto (pc' := 37) at_33 (by decide) (by decide)
            have hP : cc.toInt < 32 ∧ cc.toInt ≠ 9 ∧ cc.toInt ≠ 10 ∧ cc.toInt ≠ 13 := by
              simp only [Int32.lt_iff_toInt_lt, ← Int32.toInt_inj, Int32.reduceToInt] at hc99 hc103 hc109 hc115
              omega
            rw [if_pos hP]
            exact r120
    · -- not no
      have r121 := r98.icT (pc' := 36) at_11 (flt hc99).2.1 (by decide) (by decide)
      have r122 := r121.iconst (pc' := 37) (0 : Int32) at_36 rfl rfl
      have hP : ¬ (cc.toInt < 32 ∧ cc.toInt ≠ 9 ∧ cc.toInt ≠ 10 ∧ cc.toInt ≠ 13) := by
        simp only [Int32.lt_iff_toInt_lt, ← Int32.toInt_inj, Int32.reduceToInt] at hc99
        omega
      rw [if_neg hP]
      exact r122
  obtain ⟨z123, hz124⟩ : ∃ z : Int32, z = (if cc.toInt < 32 ∧ cc.toInt ≠ 9 ∧ cc.toInt ≠ 10 ∧ cc.toInt ≠ 13 then (1 : Int32) else (0 : Int32)) := ⟨_, rfl⟩
  rw [← hz124] at r96
  have r125 := r96.istoreN (pc' := 38) (L' := #[.val (.int x0), .val (.int cc), .val (.int z123), .unset, .unset, .unset]) at_37 rfl rfl
  have r126 : Rch p l e room_1 s m #[(.int x0)] below meth c Z x code maxLocals ret n0 T0 (mkF m 0 #[.val (.int x0), .unset, .unset, .unset, .unset, .unset] []) 0 0 h0 (mkF m 55 #[.val (.int x0), .val (.int cc), .val (.int z123), .unset, .unset, .unset] [(.int (if 55296 ≤ cc.toInt ∧ cc.toInt ≤ 57343 then (1 : Int32) else (0 : Int32)))]) := by
    have r127 := r125.iloadN (pc' := 39) at_38 rfl rfl
    have r128 := r127.ldc (pc' := 41) at_39 (hw _ (List.mem_of_getElem? (i := 2) rfl)) rfl
    by_cases hc129 : cc < (55296 : Int32)
    · -- yes
      have r130 := r128.icT (pc' := 54) at_41 (tlt hc129).1 (by decide) (by decide)
      have r131 := r130.iconst (pc' := 55) (0 : Int32) at_54 rfl rfl
      have hP : ¬ (55296 ≤ cc.toInt ∧ cc.toInt ≤ 57343) := by
        simp only [Int32.lt_iff_toInt_lt, ← Int32.toInt_inj, Int32.reduceToInt] at hc129
        omega
      rw [if_neg hP]
      exact r131
    · -- not no
      have r132 := r128.icF (pc' := 44) at_41 (flt hc129).1 rfl
      have r133 := r132.iloadN (pc' := 45) at_44 rfl rfl
      have r134 := r133.ldc (pc' := 47) at_45 (hw _ (List.mem_of_getElem? (i := 12) rfl)) rfl
      by_cases hc135 : (57343 : Int32) < cc
      · -- yes
        have r136 := r134.icT (pc' := 54) at_47 (tlt hc135).2.2.1 (by decide) (by decide)
        have r137 := r136.iconst (pc' := 55) (0 : Int32) at_54 rfl rfl
        have hP : ¬ (55296 ≤ cc.toInt ∧ cc.toInt ≤ 57343) := by
          simp only [Int32.lt_iff_toInt_lt, ← Int32.toInt_inj, Int32.reduceToInt] at hc129 hc135
          omega
        rw [if_neg hP]
        exact r137
      · -- not no
        have r138 := r134.icF (pc' := 50) at_47 (flt hc135).2.2.1 rfl
        have r139 := r138.iconst (pc' := 51) (1 : Int32) at_50 rfl rfl
        have r140 := r139.goto (pc' := 55) at_51 (by decide) (by decide)
        have hP : 55296 ≤ cc.toInt ∧ cc.toInt ≤ 57343 := by
          simp only [Int32.lt_iff_toInt_lt, ← Int32.toInt_inj, Int32.reduceToInt] at hc129 hc135
          omega
        rw [if_pos hP]
        exact r140
  obtain ⟨z141, hz142⟩ : ∃ z : Int32, z = (if 55296 ≤ cc.toInt ∧ cc.toInt ≤ 57343 then (1 : Int32) else (0 : Int32)) := ⟨_, rfl⟩
  rw [← hz142] at r126
  have r143 := r126.istoreN (pc' := 56) (L' := #[.val (.int x0), .val (.int cc), .val (.int z123), .val (.int z141), .unset, .unset]) at_55 rfl rfl
  have r144 : Rch p l e room_1 s m #[(.int x0)] below meth c Z x code maxLocals ret n0 T0 (mkF m 0 #[.val (.int x0), .unset, .unset, .unset, .unset, .unset] []) 0 0 h0 (mkF m 73 #[.val (.int x0), .val (.int cc), .val (.int z123), .val (.int z141), .unset, .unset] [(.int (if cc.toInt = 65534 ∨ cc.toInt = 65535 then (1 : Int32) else (0 : Int32)))]) := by
    have r145 := r143.iloadN (pc' := 57) at_56 rfl rfl
    have r146 := r145.ldc (pc' := 59) at_57 (hw _ (List.mem_of_getElem? (i := 3) rfl)) rfl
    by_cases hc147 : cc = (65534 : Int32)
    · -- yes
      have r148 := r146.icT (pc' := 68) at_59 (teq hc147).1 (by decide) (by decide)
      have r149 := r148.iconst (pc' := 69) (1 : Int32) at_68 rfl rfl
      have r150 := r149.goto (pc' := 73) at_69 (by decide) (by decide)
      have hP : cc.toInt = 65534 ∨ cc.toInt = 65535 := by
        simp only [Int32.lt_iff_toInt_lt, ← Int32.toInt_inj, Int32.reduceToInt] at hc147
        omega
      rw [if_pos hP]
      exact r150
    · -- not no
      have r151 := r146.icF (pc' := 62) at_59 (feq hc147).1 rfl
      have r152 := r151.iloadN (pc' := 63) at_62 rfl rfl
      have r153 := r152.ldc (pc' := 65) at_63 (hw _ (List.mem_of_getElem? (i := 4) rfl)) rfl
      by_cases hc154 : cc = (65535 : Int32)
      · -- yes
        have r155 := r153.icF (pc' := 68) at_65 (teq hc154).2 rfl
        have r156 := r155.iconst (pc' := 69) (1 : Int32) at_68 rfl rfl
        have r157 := r156.goto (pc' := 73) at_69 (by decide) (by decide)
        have hP : cc.toInt = 65534 ∨ cc.toInt = 65535 := by
          simp only [Int32.lt_iff_toInt_lt, ← Int32.toInt_inj, Int32.reduceToInt] at hc147 hc154
          omega
        rw [if_pos hP]
        exact r157
      · -- not no
        have r158 := r153.icT (pc' := 72) at_65 (feq hc154).2 (by decide) (by decide)
        have r159 := r158.iconst (pc' := 73) (0 : Int32) at_72 rfl rfl
        have hP : ¬ (cc.toInt = 65534 ∨ cc.toInt = 65535) := by
          simp only [Int32.lt_iff_toInt_lt, ← Int32.toInt_inj, Int32.reduceToInt] at hc147 hc154
          omega
        rw [if_neg hP]
        exact r159
  obtain ⟨z160, hz161⟩ : ∃ z : Int32, z = (if cc.toInt = 65534 ∨ cc.toInt = 65535 then (1 : Int32) else (0 : Int32)) := ⟨_, rfl⟩
  rw [← hz161] at r144
  have r162 := r144.istore (pc' := 75) (L' := #[.val (.int x0), .val (.int cc), .val (.int z123), .val (.int z141), .val (.int z160), .unset]) at_73 rfl rfl
  have r163 : Rch p l e room_1 s m #[(.int x0)] below meth c Z x code maxLocals ret n0 T0 (mkF m 0 #[.val (.int x0), .unset, .unset, .unset, .unset, .unset] []) 0 0 h0 (mkF m 93 #[.val (.int x0), .val (.int cc), .val (.int z123), .val (.int z141), .val (.int z160), .unset] [(.int (if okc cc.toInt then (1 : Int32) else (0 : Int32)))]) := by
    have r164 := r162.iloadN (pc' := 76) at_75 rfl rfl
    by_cases hc165 : z123 = (0 : Int32)
    · -- yes
      have r166 := r164.ifF (pc' := 79) at_76 (teq hc165).2 rfl
      have r167 := r166.iloadN (pc' := 80) at_79 rfl rfl
      by_cases hc168 : z141 = (0 : Int32)
      · -- yes
        have r169 := r167.ifF (pc' := 83) at_80 (teq hc168).2 rfl
        have r170 := r169.iload (pc' := 85) at_83 rfl rfl
        by_cases hc171 : z160 = (0 : Int32)
        · -- yes
          have r172 := r170.ifF (pc' := 88) at_85 (teq hc171).2 rfl
          have r173 := r172.iconst (pc' := 89) (1 : Int32) at_88 rfl rfl
          have r174 := r173.goto (pc' := 93) at_89 (by decide) (by decide)
          have hP : okc cc.toInt := by
            apply Classical.byContradiction; intro hk
            simp only [okc] at hk
            have hc165' := hc165; rw [hz124] at hc165'
            have hc168' := hc168; rw [hz142] at hc168'
            have hc171' := hc171; rw [hz161] at hc171'
            skip
            skip
            skip
            (split at hc165' <;> (split at hc168' <;> (split at hc171' <;> first | omega | (simp_all; done))))
          rw [if_pos hP]
          exact r174
        · -- not no
          have r175 := r170.ifT (pc' := 92) at_85 (feq hc171).2 (by decide) (by decide)
          have r176 := r175.iconst (pc' := 93) (0 : Int32) at_92 rfl rfl
          have hP : ¬ okc cc.toInt := by
            intro hk
            simp only [okc] at hk
            have hc165' := hc165; rw [hz124] at hc165'
            have hc168' := hc168; rw [hz142] at hc168'
            have hc171' := hc171; rw [hz161] at hc171'
            skip
            skip
            skip
            (split at hc165' <;> (split at hc168' <;> (split at hc171' <;> first | omega | (simp_all; done))))
          rw [if_neg hP]
          exact r176
      · -- not no
        have r177 := r167.ifT (pc' := 92) at_80 (feq hc168).2 (by decide) (by decide)
        have r178 := r177.iconst (pc' := 93) (0 : Int32) at_92 rfl rfl
        have hP : ¬ okc cc.toInt := by
          intro hk
          simp only [okc] at hk
          have hc165' := hc165; rw [hz124] at hc165'
          have hc168' := hc168; rw [hz142] at hc168'
          skip
          skip
          (split at hc165' <;> (split at hc168' <;> first | omega | (simp_all; done)))
        rw [if_neg hP]
        exact r178
    · -- not no
      have r179 := r164.ifT (pc' := 92) at_76 (feq hc165).2 (by decide) (by decide)
      have r180 := r179.iconst (pc' := 93) (0 : Int32) at_92 rfl rfl
      have hP : ¬ okc cc.toInt := by
        intro hk
        simp only [okc] at hk
        have hc165' := hc165; rw [hz124] at hc165'
        skip
        (split at hc165' <;> first | omega | (simp_all; done))
      rw [if_neg hP]
      exact r180
  have r181 := r163.istore (pc' := 95) (L' := #[.val (.int x0), .val (.int cc), .val (.int z123), .val (.int z141), .val (.int z160), .val (.int (if okc cc.toInt then (1 : Int32) else (0 : Int32)))]) at_93 rfl rfl
  have r182 := r181.iloadN (pc' := 96) at_95 rfl rfl
  obtain ⟨v185, h186, hq184, r183⟩ := r182.callS (pc' := 99) [(.int cc)] (rest := []) 0 at_96 (hw _ (List.mem_of_getElem? (i := 5) rfl)) (hw _ (List.mem_of_getElem? (i := 6) rfl)) (hw _ (List.mem_of_getElem? (i := 7) rfl)) (hw _ (List.mem_of_getElem? (i := 8) rfl)) (by decide) (c1 l Z a0 hw cc h0 n0) pd_0 rfl rfl rfl (Nat.le_of_ble_eq_true rfl) (by decide) (by decide) (k' := 0) (n' := 0) rfl rfl (by decide) (by decide) rfl
  obtain ⟨rfl, rfl⟩ := hq184
  dsimp only [Option.toList, List.cons_append, List.nil_append] at r183
  have r187 := r183.iload (pc' := 101) at_99 rfl rfl
  have r188 := r187.icF (pc' := 104) at_101 (teq (rfl : (if okc cc.toInt then (1 : Int32) else (0 : Int32)) = (if okc cc.toInt then (1 : Int32) else (0 : Int32)))).2 rfl
  have r189 := r188.iconst (pc' := 105) (1 : Int32) at_104 rfl rfl
  have r190 := r189.goto (pc' := 109) at_105 (by decide) (by decide)
  exact ⟨_, _, r190.retZ at_109 rfl (t := .boolean) (by simp) (1 : Int32) rfl (by decide) (by decide), rfl⟩
set_option maxRecDepth 65536 in
set_option maxHeartbeats 40000000 in
theorem comes_1 {Post : Tables → Env → Array Value → State → Outcome → State → Prop} (hpost : ∀ tb e args s v u, (limb_1_1.after args s (.returned v) u = true ∧ limb_1_2.after args s (.returned v) u = true ∧ True) → FrameEnd s (.returned v) u (Jvm.fieldLocs frame_1_writes args s ++ Jvm.arrayLocs frame_1_arrays args s ++ Jvm.staticLocs frame_1_statics s) 0 0 → Post tb e args s (.returned v) u) :
    ArmFor flags0 classFile x code maxLocals ret World_1 tables_1 room_1 Calls_1 rest_1 Pre_1 Post := by
  intro l hfl _ _ p e ha hc hk s m args below hf hA hF happ hP
  obtain ⟨hcalls, hrest, hpre⟩ := hP
  obtain ⟨-, -, -, hnamed, -, -, -, hat⟩ := (Spec.applies_iff hf).mp happ
  obtain ⟨hg, hn⟩ := and_e (Cond.before_iff.mp (show (Jvm.Cond.and given_1 narrow_1).before args s = true from hpre))
  obtain ⟨gg1, gg2⟩ := and_e hg
  obtain ⟨w0, rfl⟩ : ∃ w0 : Value, args = #[w0] := by
    have hs : args.size = 1 := by simpa [Cond.value, given_1] using gg1
    obtain ⟨L⟩ := args
    match L, hs with
    | [w0], _ => exact ⟨w0, rfl⟩
  have hw := fun d (hd : d ∈ tables_1) => atoms_spec (ws := Jvm.Cond.code x code maxLocals ret :: tables_1) hat d (List.mem_cons_of_mem _ hd)
  obtain ⟨i0, ei0⟩ := is_v gg2
  obtain rfl : w0 = (.int i0) := Option.some.inj ei0
  obtain ⟨n, o, h1, h2, h3, _, L, rfl, ⟨N, rfl⟩, hq⟩ := law l s _ hw i0 s.heap s.heap.size tables_1 p e ha hc hk s m _ below hf ((Spec.applies_iff_loose hf).mp happ).1 ⟨rfl, State.Warmed39.refl s, rfl⟩ trivial
  refine ⟨n, _, h1, h2, h3, hpost _ _ _ _ _ _ ⟨Cond.after_iff.mpr rfl, Cond.after_iff.mpr (eq_i res_at (Term.int_eval (1)) rfl), trivial⟩ ⟨hq.1, hq.2.1, (hq.2.2.sift fun y hy => Or.inr (N y hy)).mono (by decide) (by decide)⟩⟩
theorem main_1_1 : Claimed_1_1 := comes_1 fun _ _ _ _ _ _ h hF => ⟨h.1, hF⟩
theorem main_1_2 : Claimed_1_2 := comes_1 fun _ _ _ _ _ _ h hF => ⟨h.2.1, hF⟩

end Jvm.Pilot.@@N@@
namespace Jvm.Pilot.@@N@@
open Jvm Jvm.ClassFile Sem Op Lib Jvm.Free Jvm.Stand Jvm.Pilot.@@N@@.Jvm.D
/-! MADE BY PROGRAM (witnessworld.py) out of the Statement's table words and the real class files: 9 classes; the members and pool entries that the words name. The judged class is class 1, her method 1. -/
namespace start1
open Jvm.ClassFile
def u (s : String) : CpInfo := .utf8 (stringToUtf16 s)
/-- a pool by its gaps: so many unusable entries, then the entry; so many at the end -/
def gap : Nat → List CpInfo → List CpInfo
  | 0, r => r
  | n + 1, r => .unusable :: gap n r
def poolList (es : List (Nat × CpInfo)) (last : Nat) : List CpInfo := es.foldr (fun e r => gap e.1 (e.2 :: r)) (gap last [])
def pool (es : List (Nat × CpInfo)) (last : Nat) : Array CpInfo := ⟨poolList es last⟩
def fileOf (pool : Array CpInfo) (this : Nat) (attrs : Array Attribute := #[]) (ms : Array MethodInfo := #[]) (fl : Nat := 33) (sup : Nat := 0) (ifs : Array Nat := #[]) (fds : Array FieldInfo := #[]) : ClassFile where
  minorVersion := 0
  majorVersion := 65
  constantPool := pool
  accessFlags := fl
  thisClass := this
  superClass := sup
  interfaces := ifs
  fields := fds
  methods := ms
  attributes := attrs
def plain (name : String) (sup : Option ClassId) : Class where
  name := name
  kind := .ordinary
  loader := none
  accessFlags := 33
  super := sup
  interfaces := #[]
  cf := none
  fields := #[]
  methods := #[]
  instanceTypes := #[]
  staticTypes := #[]
  resolved := #[]
  callSites := []
  init := .initialized
  statics := none
  mirror := none

def pool0 : Array CpInfo := pool [(5, u "<init>"), (0, u "()V"), (1, .class_ 10), (1, u "java/lang/Object")] 113

def k0m0 : Method := { name := "<init>", desc := "()V", sig := { parameters := [], returnType := none }, accessFlags := 1, code := none }
/-- java/lang/Object -/
def k0 : Class := { plain "java/lang/Object" none with
  accessFlags := 33
  interfaces := #[]
  cf := some (fileOf pool0 8 #[] #[{ accessFlags := 1, nameIndex := 5, descriptorIndex := 6, attributes := #[] }] 33 0 #[] #[])
  fields := #[]
  methods := #[k0m0]
  instanceTypes := #[]
  staticTypes := #[]
  resolved := Array.replicate 124 none
  statics := none }

def pool1 : Array CpInfo := pool [(2, .class_ 4), (1, u "java/lang/Object"), (0, u "<init>"), (0, u "()V"), (0, .integer 2147483647), (0, .integer 1114112), (0, .integer 55296), (0, .integer 57343), (0, .integer 65534), (0, .integer 65535), (0, .methodref 14 15), (0, .class_ 16), (0, .nameAndType 17 18), (0, u "com/example/mingdang/mingdang/Element"), (0, u "carries"), (0, u "(I)Z"), (0, .class_ 20), (0, u "com/example/mingdang/mingdang/ElementCarriesPinLaw"), (2, u "law")] 3

def k1m0 : Method := { name := "<init>", desc := "()V", sig := { parameters := [], returnType := none }, accessFlags := 2, code := none }
def k1c1 : Code := { maxStack := 2, maxLocals := 6, code := code, exceptionTable := #[], attributes := #[] }
def k1m1 : Method := { name := "law", desc := "(I)Z", sig := { parameters := [.int], returnType := some .boolean }, accessFlags := 9, code := some k1c1 }
/-- com/example/mingdang/mingdang/ElementCarriesPinLaw -/
def k1 : Class := { plain "com/example/mingdang/mingdang/ElementCarriesPinLaw" (some 0) with
  accessFlags := 49
  interfaces := #[]
  cf := some (fileOf pool1 19 #[] #[{ accessFlags := 2, nameIndex := 5, descriptorIndex := 6, attributes := #[] }, { accessFlags := 9, nameIndex := 23, descriptorIndex := 18, attributes := #[] }] 49 2 #[] #[])
  fields := #[]
  methods := #[k1m0, k1m1]
  instanceTypes := #[]
  staticTypes := #[]
  resolved := Array.replicate 27 none
  statics := none }

def pool2 : Array CpInfo := pool [(2, .class_ 4), (1, u "java/lang/Object"), (6, .class_ 13), (1, u "com/example/mingdang/mingdang/Element"), (0, u "attributes"), (0, u "Ljava/util/Map;"), (5, u "children"), (0, u "Ljava/util/List;"), (2, u "name"), (0, u "Ljava/lang/String;"), (2, u "declared"), (22, u "text"), (57, u "carries"), (0, u "(I)Z"), (5, .integer 55295), (0, .integer 57344), (0, .integer 65533), (0, .integer 65536), (72, u "TYPE"), (1, u "INDENT")] 52

def k2c0 : Code := { maxStack := 2, maxLocals := 1, code := prog_36_method_14_code, exceptionTable := #[], attributes := #[] }
def k2m0 : Method := { name := "carries", desc := "(I)Z", sig := { parameters := [.int], returnType := some .boolean }, accessFlags := 8, code := some k2c0 }
/-- com/example/mingdang/mingdang/Element -/
def k2 : Class := { plain "com/example/mingdang/mingdang/Element" (some 0) with
  accessFlags := 48
  interfaces := #[]
  cf := some (fileOf pool2 11 #[] #[{ accessFlags := 8, nameIndex := 110, descriptorIndex := 111, attributes := #[] }] 48 2 #[] #[{ accessFlags := 24, nameIndex := 193, descriptorIndex := 26, attributes := #[] }, { accessFlags := 26, nameIndex := 195, descriptorIndex := 26, attributes := #[] }, { accessFlags := 18, nameIndex := 25, descriptorIndex := 26, attributes := #[] }, { accessFlags := 18, nameIndex := 29, descriptorIndex := 26, attributes := #[] }, { accessFlags := 18, nameIndex := 14, descriptorIndex := 15, attributes := #[] }, { accessFlags := 18, nameIndex := 21, descriptorIndex := 22, attributes := #[] }, { accessFlags := 2, nameIndex := 52, descriptorIndex := 26, attributes := #[] }])
  fields := #[{ name := "TYPE", type := (.object "java/lang/String"), accessFlags := 24, slot := 0, constantValue := 0 }, { name := "INDENT", type := (.object "java/lang/String"), accessFlags := 26, slot := 1, constantValue := 0 }, { name := "name", type := (.object "java/lang/String"), accessFlags := 18, slot := 0, constantValue := 0 }, { name := "declared", type := (.object "java/lang/String"), accessFlags := 18, slot := 1, constantValue := 0 }, { name := "attributes", type := (.object "java/util/Map"), accessFlags := 18, slot := 2, constantValue := 0 }, { name := "children", type := (.object "java/util/List"), accessFlags := 18, slot := 3, constantValue := 0 }, { name := "text", type := (.object "java/lang/String"), accessFlags := 2, slot := 4, constantValue := 0 }]
  methods := #[k2m0]
  instanceTypes := #[(.object "java/lang/String"), (.object "java/lang/String"), (.object "java/util/Map"), (.object "java/util/List"), (.object "java/lang/String")]
  staticTypes := #[(.object "java/lang/String"), (.object "java/lang/String")]
  resolved := Array.replicate 248 none
  statics := none }

def pool3 : Array CpInfo := pool [(1, u "java/lang/Cloneable"), (0, .class_ 1), (0, u "java/lang/Object"), (0, .class_ 3)] 3

/-- java/lang/Cloneable -/
def k3 : Class := { plain "java/lang/Cloneable" (some 0) with
  accessFlags := 1537
  interfaces := #[]
  cf := some (fileOf pool3 2 #[] #[] 1537 4 #[] #[])
  fields := #[]
  methods := #[]
  instanceTypes := #[]
  staticTypes := #[]
  resolved := Array.replicate 8 none
  statics := none }

def pool4 : Array CpInfo := pool [(1, u "java/io/Serializable"), (0, .class_ 1), (0, u "java/lang/Object"), (0, .class_ 3)] 3

/-- java/io/Serializable -/
def k4 : Class := { plain "java/io/Serializable" (some 0) with
  accessFlags := 1537
  interfaces := #[]
  cf := some (fileOf pool4 2 #[] #[] 1537 4 #[] #[])
  fields := #[]
  methods := #[]
  instanceTypes := #[]
  staticTypes := #[]
  resolved := Array.replicate 8 none
  statics := none }

/-- the primitive byte -/
def k5 : Class := { plain "byte" none with kind := .primitive 'B', accessFlags := 0x411 }
/-- [B -/
def k6 : Class := { plain "[B" (some 0) with kind := .array 5 .byte, interfaces := #[3, 4], accessFlags := 1041 }

/-- the primitive int -/
def k7 : Class := { plain "int" none with kind := .primitive 'I', accessFlags := 0x411 }
/-- [I -/
def k8 : Class := { plain "[I" (some 0) with kind := .array 7 .int, interfaces := #[3, 4], accessFlags := 1041 }

def heap : Heap := #[]
def classes : Array Class := #[k0, k1, k2, k3, k4, k5, k6, k7, k8]
def interned : List (Array UInt16 × Addr) := []
def slotsUsed : Nat := 0
def theMethod : MethodId := ⟨1, 1⟩
def args0 : Array Value := #[.int 5]
def aboutOver (below : List Frame) : State where
  vm := { classes := classes, interned := interned.toArray }
  heap := heap
  slotsUsed := slotsUsed
  threads := #[{ frames := .invoking theMethod args0 :: below }]
def below0 : List Frame := [.native { method := ⟨0, 0⟩, args := #[] }]
def about1 : State := aboutOver below0
def p0 : Program := .bare "" "" ""
def e0 : Env := launch0.env 0 0 0
theorem w_frames : about1.frames = Frame.invoking theMethod args0 :: below0 := rfl
set_option maxRecDepth 65536 in
theorem w_args : argsFit about1.vm theMethod args0 = true := by decide +kernel
set_option maxRecDepth 65536 in
theorem w_heap : heapFits about1 = true := by decide +kernel
set_option maxRecDepth 65536 in
theorem w_runnable : about1.curStatus? = some .runnable := by decide +kernel
set_option maxRecDepth 65536 in
theorem w_alone : about1.alone = true := by decide +kernel
set_option maxRecDepth 65536 in
theorem w_named : about1.methodNamed? x = some theMethod := by decide +kernel
set_option maxRecDepth 65536 in
theorem w_hears : about1.hears theMethod below0 = true := by decide +kernel
set_option maxRecDepth 65536 in
theorem w_ripe : about1.ripe theMethod args0 below0 = true := by decide +kernel
theorem w_running : about1.status = .running := rfl
set_option maxRecDepth 65536 in
theorem w_room : about1.hasRoom e0.platform room_1 = true :=
  launch0.hasRoom_least _ room_1 (by decide +kernel) (by decide +kernel) (by decide +kernel) (by decide +kernel) (by decide +kernel) (by decide +kernel)
theorem allAtoms_all (ts : List Jvm.Cond) (a : Array Jvm.Value) (st : Jvm.State) : (allAtoms ts).before a st = ts.all (fun c => c.before a st) := by
  induction ts with
  | nil => rfl
  | cons c t ih =>
    show (Jvm.Cond.and c (allAtoms t)).before a st = _
    rw [Jvm.Cond.before_and, ih, List.all_cons]
def words1 : List Jvm.Cond := Jvm.Cond.code x code maxLocals ret :: tables_1
/-- a 'code' word, met by the world's own term for the bytes: nothing is compared byte by byte -/
theorem code_word {y : MethodName} {bytes : ByteArray} {mx : Nat} {rt : Option FieldType} {a : Array Value} {s : State} {m : MethodId} {meth : Method} {c : Code} (h1 : s.methodNamed? y = some m) (h2 : s.vm.method? m = some meth) (h3 : meth.code = some c) (h4 : c.code = bytes)
    (h5 : (c.maxLocals == mx && c.exceptionTable.isEmpty && decide (c.maxStack ≤ mostOperands) && decide (meth.sig.returnType = rt) && !meth.locks && decide (parseMethodDescriptor y.desc = some meth.sig)) = true) : (Jvm.Cond.code y bytes mx rt).before a s = true := by
  simp only [Bool.and_eq_true, beq_iff_eq, Bool.not_eq_true', decide_eq_true_eq] at h5
  obtain ⟨⟨⟨⟨⟨g1, g2⟩, g3⟩, g4⟩, g5⟩, g6⟩ := h5
  simp [Cond.before, Cond.holds, Cond.value, h1, h2, h3, h4, g1, g2, g3, g4, g5, g6]
def isCode : Jvm.Cond → Bool
  | .code _ _ _ _ => true
  | _ => false
theorem all_split {L : List Jvm.Cond} {P : Jvm.Cond → Bool} (h1 : L.all (fun c => isCode c || P c) = true) (h2 : ∀ c ∈ L.filter isCode, P c = true) : L.all P = true := by
  refine List.all_eq_true.mpr fun c hc => ?_
  have h := List.all_eq_true.mp h1 c hc
  rcases Bool.eq_false_or_eq_true (isCode c) with hi | hi
  · exact h2 c (List.mem_filter.mpr ⟨hc, hi⟩)
  · simpa [hi] using h
set_option maxRecDepth 65536 in
theorem w_c0 : (Jvm.Cond.code x code maxLocals ret).before args0 about1 = true := code_word (m := ⟨1, 1⟩) (meth := k1m1) (c := k1c1) (by decide +kernel) rfl rfl rfl (by decide +kernel)
set_option maxRecDepth 65536 in
theorem w_c1 : (Jvm.Cond.code ({ cls := "com/example/mingdang/mingdang/Element", name := "carries", desc := "(I)Z" } : Jvm.MethodName) prog_36_method_14_code (1 : Nat) (Option.some Jvm.ClassFile.FieldType.boolean)).before args0 about1 = true := code_word (m := ⟨2, 0⟩) (meth := k2m0) (c := k2c0) (by decide +kernel) rfl rfl rfl (by decide +kernel)
def codes1 : List Jvm.Cond := [Jvm.Cond.code x code maxLocals ret, Jvm.Cond.code ({ cls := "com/example/mingdang/mingdang/Element", name := "carries", desc := "(I)Z" } : Jvm.MethodName) prog_36_method_14_code (1 : Nat) (Option.some Jvm.ClassFile.FieldType.boolean)]
set_option maxRecDepth 65536 in
theorem codes_eq : words1.filter isCode = codes1 := rfl
theorem w_codes : ∀ c ∈ words1.filter isCode, c.before args0 about1 = true := by
  rw [codes_eq]
  intro c hc
  simp only [codes1, List.mem_cons, List.not_mem_nil, or_false] at hc
  rcases hc with rfl | rfl
  · exact w_c0
  · exact w_c1
set_option maxRecDepth 65536 in
theorem w_t1 : words1.all (fun c => isCode c || c.before args0 about1) = true := by decide +kernel
theorem w_tables : (allAtoms (Jvm.Cond.code x code maxLocals ret :: tables_1)).before args0 about1 = true := by
  rw [allAtoms_all]
  show words1.all (fun c => c.before args0 about1) = true
  refine all_split ?_ w_codes
  rw [w_t1]
set_option maxRecDepth 65536 in
theorem w_case : (Jvm.Cond.and given_1 narrow_1).before args0 about1 = true := by decide +kernel
theorem w_applies : (headSpec (Jvm.Cond.code x code maxLocals ret :: tables_1) room_1).applies x e0.platform about1 = true :=
  (Spec.applies_iff w_frames).mpr ⟨w_running, w_runnable, w_alone, w_named, w_hears, w_ripe, w_room, w_tables⟩
theorem atStart : AtStart classFile x code maxLocals ret World_1 tables_1 room_1 Calls_1 rest_1 Pre_1 launch0 p0 e0 about1 theMethod args0 below0 :=
  ⟨lists_1, trivial, launch0.admits_env _ _ _, launch0.least_env, fairChoices_fair.cas, fairChoices_fair.clock, w_frames, w_args, w_heap, w_applies, trivial, trivial, w_case⟩
end start1
theorem witness_1 : WitnessClaimed_1 := ⟨start1.p0, start1.e0, start1.about1, start1.theMethod, start1.args0, start1.below0, start1.atStart⟩
end Jvm.Pilot.@@N@@
