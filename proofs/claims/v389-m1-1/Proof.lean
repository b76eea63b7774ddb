import JvmDerived
import JvmDerived.Pilot.@@N@@Statement
import JvmDerived.Pilot.@@N@@Code
set_option linter.unusedVariables false
set_option linter.unusedSimpArgs false
namespace Jvm.Pilot.@@N@@
open Jvm Jvm.ClassFile Sem Op Lib Jvm.Free Jvm.Stand Jvm.LawKit Jvm.RoadKit Bundle Jvm.Pilot.@@N@@.Jvm.D
/-! own_: a walk in backward style: 'Ends': from here the body comes to its end and Q holds there. One law an instruction, over frames written mkF. -/
namespace Wk
section
variable {p : Program} {l : Launch} {e : Env} {R : Room} {s : State} {m : MethodId} {args : Array Value} {below : List Frame} {meth : Method} {c : Code} {T : State} {locs : List Loc} {cells slots : Nat} {Z : State} {a0 : Array Value} {h : Heap} {y : MethodName} {cd : ByteArray} {ml : Nat} {ret : Option FieldType} {Q : Option Value → Heap → List Loc → Prop} {pc pc' : Nat} {ls : Array Slot} {st : List Value}
/-- the run from T with the frame f comes to the body's end, and Q holds there -/
def Ends (p : Program) (e : Env) (s : State) (below : List Frame) (R : Room) (Q : Option Value → Heap → List Loc → Prop) (T : State) (f : JFrame) : Prop :=
  ∃ s₂ o, Steps p.tables e below (T.setTop f) s₂ ∧ s₂.status = .running ∧ Ended s₂ below o ∧ ∃ v L, o = .returned v ∧ Q v s₂.heap L ∧ FrameEnd s o s₂ L R.cells R.slots
/-- what stands still while one body is walked -/
def K (p : Program) (s : State) (m : MethodId) (meth : Method) (c : Code) (Z : State) (y : MethodName) (cd : ByteArray) (ml : Nat) (ret : Option FieldType) : Prop :=
  p.tables.exec = Jvm.exec ∧ Z.Warmed39 s.vm ∧ c.code = cd ∧ c.maxLocals = ml ∧ s.vm.findClass y.cls = some m.cls ∧ meth.sig.returnType = ret ∧ meth.locks = false ∧ meth.name = y.name
/-- a body's contract: called with as' over the heap h it returns, and Q holds -/
def Met (l : Launch) (y : MethodName) (cd : ByteArray) (ml : Nat) (ret : Option FieldType) (rm : Room) (as' : Array Value) (Z : State) (h : Heap) (Q : Option Value → Heap → List Loc → Prop) (ws : List Jvm.Cond) : Prop :=
  MetFree l y (head1 (Jvm.Cond.code y cd ml ret :: ws) rm) (fun a U => a = as' ∧ Z.Warmed39 U.vm ∧ U.heap = h) (fun _ _ _ _ _ => True) (fun _ U o U' => ∃ v L, o = .returned v ∧ Q v U'.heap L ∧ FrameEnd U o U' L rm.cells rm.slots)
theorem enter {rm : Room} {as' : Array Value} {ws : List Jvm.Cond} (hpl : plainFor y = true)
    (body : ∀ (p : Program) (e : Env) (s : State) (m : MethodId) (below : List Frame) (meth : Method) (c : Code) (T : State), K p s m meth c Z y cd ml ret → Stand p l e rm s m as' below meth c T [] 0 0 → T.heap = h → Ends p e s below rm Q T (entryFrame m as' ml)) :
    Met l y cd ml ret rm as' Z h Q ws := by
  refine MetFree.of_bodySF hpl hisR ?_
  intro p e s m args below meth c s₁ Bd hml0 hP hK
  obtain ⟨rfl, hZ, hh⟩ := hP
  exact body p e s m below meth c s₁ ⟨Bd.exec, hZ, Bd.bytes, hml0, findClass_of_methodNamed Bd.named, Bd.returns, Bd.notSynchronized, (name_of_methodNamed Bd.named Bd.method).1⟩ (Stand.of_body Bd) (by rw [← hh, Bd.state]; rfl)
theorem Ends.map {T' : State} {f f' : JFrame} (st : ∀ target, Steps p.tables e below (T'.setTop f') target → Steps p.tables e below (T.setTop f) target) (h : Ends p e s below R Q T' f') : Ends p e s below R Q T f := by
  obtain ⟨s₂, o, h1, h2⟩ := h
  exact ⟨s₂, o, st _ h1, h2⟩
theorem Ends.cast {f f' : JFrame} (q : f = f') (h : Ends p e s below R Q T f') : Ends p e s below R Q T f := q ▸ h
theorem w {ws : List Jvm.Cond} (hw : ∀ d ∈ ws, d.before a0 Z = true) (i : Nat) {d : Jvm.Cond} (q : ws[i]? = some d) : d.before a0 Z = true := hw d (List.mem_of_getElem? q)
/-! loads, stores, constants -/
theorem iload_n (k : K p s m meth c Z y cd ml ret) (X : Stand p l e R s m args below meth c T locs cells slots) {i : Fin 4} {v : Int32} (hd : decode cd pc = .ok (.iload_n i, 1)) (hl : ls[i.val]? = some (.val (.int v))) (pc' : Nat) (hp : pc + 1 = pc') (h : Ends p e s below R Q T (mkF m pc' ls (.int v :: st))) : Ends p e s below R Q T (mkF m pc ls st) := by
  subst hp; exact h.map fun _ q => XS.iloadN X.here k.1 rfl (hb k.2.2.1 hd) hl q
theorem iload (k : K p s m meth c Z y cd ml ret) (X : Stand p l e R s m args below meth c T locs cells slots) {i : Nat} {v : Int32} (hd : decode cd pc = .ok (.iload i, 2)) (hl : ls[i]? = some (.val (.int v))) (pc' : Nat) (hp : pc + 2 = pc') (h : Ends p e s below R Q T (mkF m pc' ls (.int v :: st))) : Ends p e s below R Q T (mkF m pc ls st) := by
  subst hp; exact h.map fun _ q => XS.iload X.here k.1 rfl (hb k.2.2.1 hd) hl q
theorem lload_n (k : K p s m meth c Z y cd ml ret) (X : Stand p l e R s m args below meth c T locs cells slots) {i : Fin 4} {v : Int64} (hd : decode cd pc = .ok (.lload_n i, 1)) (hl : ls[i.val]? = some (.val (.long v))) (pc' : Nat) (hp : pc + 1 = pc') (h : Ends p e s below R Q T (mkF m pc' ls (.long v :: st))) : Ends p e s below R Q T (mkF m pc ls st) := by
  subst hp; exact h.map fun _ q => XS.lloadN X.here k.1 rfl (hb k.2.2.1 hd) hl q
theorem lload (k : K p s m meth c Z y cd ml ret) (X : Stand p l e R s m args below meth c T locs cells slots) {i : Nat} {v : Int64} (hd : decode cd pc = .ok (.lload i, 2)) (hl : ls[i]? = some (.val (.long v))) (pc' : Nat) (hp : pc + 2 = pc') (h : Ends p e s below R Q T (mkF m pc' ls (.long v :: st))) : Ends p e s below R Q T (mkF m pc ls st) := by
  subst hp; exact h.map fun _ q => XS.lload X.here k.1 rfl (hb k.2.2.1 hd) hl q
theorem aload_n (k : K p s m meth c Z y cd ml ret) (X : Stand p l e R s m args below meth c T locs cells slots) {i : Fin 4} {v : Value} (hd : decode cd pc = .ok (.aload_n i, 1)) (hl : ls[i.val]? = some (.val v)) (hv : v.isRef = true) (pc' : Nat) (hp : pc + 1 = pc') (h : Ends p e s below R Q T (mkF m pc' ls (v :: st))) : Ends p e s below R Q T (mkF m pc ls st) := by
  subst hp; exact h.map fun _ q => XS.aloadN X.here k.1 rfl (hb k.2.2.1 hd) hl hv q
theorem aload (k : K p s m meth c Z y cd ml ret) (X : Stand p l e R s m args below meth c T locs cells slots) {i : Nat} {v : Value} (hd : decode cd pc = .ok (.aload i, 2)) (hl : ls[i]? = some (.val v)) (hv : v.isRef = true) (pc' : Nat) (hp : pc + 2 = pc') (h : Ends p e s below R Q T (mkF m pc' ls (v :: st))) : Ends p e s below R Q T (mkF m pc ls st) := by
  subst hp; exact h.map fun _ q => XS.aload X.here k.1 rfl (hb k.2.2.1 hd) hl hv q
theorem istore_n (k : K p s m meth c Z y cd ml ret) (X : Stand p l e R s m args below meth c T locs cells slots) {i : Fin 4} {v : Int32} (hd : decode cd pc = .ok (.istore_n i, 1)) (ls' : Array Slot) (hl : storeLocals ls i.val (.int v) = some ls') (pc' : Nat) (hp : pc + 1 = pc') (h : Ends p e s below R Q T (mkF m pc' ls' st)) : Ends p e s below R Q T (mkF m pc ls (.int v :: st)) := by
  subst hp; exact h.map fun _ q => XS.istoreN X.here k.1 rfl (hb k.2.2.1 hd) rfl hl q
theorem istore (k : K p s m meth c Z y cd ml ret) (X : Stand p l e R s m args below meth c T locs cells slots) {i : Nat} {v : Int32} (hd : decode cd pc = .ok (.istore i, 2)) (ls' : Array Slot) (hl : storeLocals ls i (.int v) = some ls') (pc' : Nat) (hp : pc + 2 = pc') (h : Ends p e s below R Q T (mkF m pc' ls' st)) : Ends p e s below R Q T (mkF m pc ls (.int v :: st)) := by
  subst hp; exact h.map fun _ q => XS.istore X.here k.1 rfl (hb k.2.2.1 hd) rfl hl q
theorem lstore_n (k : K p s m meth c Z y cd ml ret) (X : Stand p l e R s m args below meth c T locs cells slots) {i : Fin 4} {v : Int64} (hd : decode cd pc = .ok (.lstore_n i, 1)) (ls' : Array Slot) (hl : storeLocals ls i.val (.long v) = some ls') (pc' : Nat) (hp : pc + 1 = pc') (h : Ends p e s below R Q T (mkF m pc' ls' st)) : Ends p e s below R Q T (mkF m pc ls (.long v :: st)) := by
  subst hp; exact h.map fun _ q => XS.lstoreN X.here k.1 rfl (hb k.2.2.1 hd) rfl hl q
theorem lstore (k : K p s m meth c Z y cd ml ret) (X : Stand p l e R s m args below meth c T locs cells slots) {i : Nat} {v : Int64} (hd : decode cd pc = .ok (.lstore i, 2)) (ls' : Array Slot) (hl : storeLocals ls i (.long v) = some ls') (pc' : Nat) (hp : pc + 2 = pc') (h : Ends p e s below R Q T (mkF m pc' ls' st)) : Ends p e s below R Q T (mkF m pc ls (.long v :: st)) := by
  subst hp; exact h.map fun _ q => XS.lstore X.here k.1 rfl (hb k.2.2.1 hd) rfl hl q
theorem astore_n (k : K p s m meth c Z y cd ml ret) (X : Stand p l e R s m args below meth c T locs cells slots) {i : Fin 4} {v : Value} (hd : decode cd pc = .ok (.astore_n i, 1)) (hv : v.isRef = true) (ls' : Array Slot) (hl : storeLocals ls i.val v = some ls') (pc' : Nat) (hp : pc + 1 = pc') (h : Ends p e s below R Q T (mkF m pc' ls' st)) : Ends p e s below R Q T (mkF m pc ls (v :: st)) := by
  subst hp; exact h.map fun _ q => XS.astoreN X.here k.1 rfl (hb k.2.2.1 hd) rfl hv hl q
theorem astore (k : K p s m meth c Z y cd ml ret) (X : Stand p l e R s m args below meth c T locs cells slots) {i : Nat} {v : Value} (hd : decode cd pc = .ok (.astore i, 2)) (hv : v.isRef = true) (ls' : Array Slot) (hl : storeLocals ls i v = some ls') (pc' : Nat) (hp : pc + 2 = pc') (h : Ends p e s below R Q T (mkF m pc' ls' st)) : Ends p e s below R Q T (mkF m pc ls (v :: st)) := by
  subst hp; exact h.map fun _ q => XS.astore X.here k.1 rfl (hb k.2.2.1 hd) rfl hv hl q
theorem iinc (k : K p s m meth c Z y cd ml ret) (X : Stand p l e R s m args below meth c T locs cells slots) {i : Nat} {n : Int} {v : Int32} (hd : decode cd pc = .ok (.iinc i n, 3)) (hl : ls[i]? = some (.val (.int v))) (ls' : Array Slot) (hl' : storeLocals ls i (.int (v + Int32.ofInt n)) = some ls') (pc' : Nat) (hp : pc + 3 = pc') (h : Ends p e s below R Q T (mkF m pc' ls' st)) : Ends p e s below R Q T (mkF m pc ls st) := by
  subst hp; exact h.map fun _ q => XS.iinc X.here k.1 rfl (hb k.2.2.1 hd) hl hl' q
theorem iconst (k : K p s m meth c Z y cd ml ret) (X : Stand p l e R s m args below meth c T locs cells slots) {i : Int} (hd : decode cd pc = .ok (.iconst i, 1)) (z : Int32) (hz : Int32.ofInt i = z) (pc' : Nat) (hp : pc + 1 = pc') (h : Ends p e s below R Q T (mkF m pc' ls (.int z :: st))) : Ends p e s below R Q T (mkF m pc ls st) := by
  subst hp hz; exact h.map fun _ q => XS.iconst X.here k.1 rfl (hb k.2.2.1 hd) q
theorem bipush (k : K p s m meth c Z y cd ml ret) (X : Stand p l e R s m args below meth c T locs cells slots) {i : Int} (hd : decode cd pc = .ok (.bipush i, 2)) (z : Int32) (hz : (Int8.ofInt i).toInt32 = z) (pc' : Nat) (hp : pc + 2 = pc') (h : Ends p e s below R Q T (mkF m pc' ls (.int z :: st))) : Ends p e s below R Q T (mkF m pc ls st) := by
  subst hp hz; exact h.map fun _ q => XS.bipush X.here k.1 rfl (hb k.2.2.1 hd) q
theorem sipush (k : K p s m meth c Z y cd ml ret) (X : Stand p l e R s m args below meth c T locs cells slots) {i : Int} (hd : decode cd pc = .ok (.sipush i, 3)) (z : Int32) (hz : (Int16.ofInt i).toInt32 = z) (pc' : Nat) (hp : pc + 3 = pc') (h : Ends p e s below R Q T (mkF m pc' ls (.int z :: st))) : Ends p e s below R Q T (mkF m pc ls st) := by
  subst hp hz; exact h.map fun _ q => XS.sipush X.here k.1 rfl (hb k.2.2.1 hd) q
theorem lconst (k : K p s m meth c Z y cd ml ret) (X : Stand p l e R s m args below meth c T locs cells slots) {i : Fin 2} (hd : decode cd pc = .ok (.lconst i, 1)) (z : Int64) (hz : Int64.ofNat i = z) (pc' : Nat) (hp : pc + 1 = pc') (h : Ends p e s below R Q T (mkF m pc' ls (.long z :: st))) : Ends p e s below R Q T (mkF m pc ls st) := by
  subst hp hz; exact h.map fun _ q => XS.lconst X.here k.1 rfl (hb k.2.2.1 hd) q
theorem aconst_null (k : K p s m meth c Z y cd ml ret) (X : Stand p l e R s m args below meth c T locs cells slots) (hd : decode cd pc = .ok (.aconst_null, 1)) (pc' : Nat) (hp : pc + 1 = pc') (h : Ends p e s below R Q T (mkF m pc' ls (.null :: st))) : Ends p e s below R Q T (mkF m pc ls st) := by
  subst hp; exact h.map fun _ q => XS.aconstNull X.here k.1 rfl (hb k.2.2.1 hd) q
theorem ldc (k : K p s m meth c Z y cd ml ret) (X : Stand p l e R s m args below meth c T locs cells slots) {i : Nat} {z : Int32} (hd : decode cd pc = .ok (.ldc i, 2)) (hc : (Jvm.Cond.constant y.cls i z).before a0 Z = true) (pc' : Nat) (hp : pc + 2 = pc') (h : Ends p e s below R Q T (mkF m pc' ls (.int z :: st))) : Ends p e s below R Q T (mkF m pc ls st) := by
  subst hp; exact h.map (X.ldcInt k.1 k.2.2.2.2.1 (mvT k.2.1 hc) rfl (hb k.2.2.1 hd))
theorem ldc2_w (k : K p s m meth c Z y cd ml ret) (X : Stand p l e R s m args below meth c T locs cells slots) {i : Nat} {z : Int64} (hd : decode cd pc = .ok (.ldc2_w i, 3)) (hc : (Jvm.Cond.constantLong y.cls i z).before a0 Z = true) (pc' : Nat) (hp : pc + 3 = pc') (h : Ends p e s below R Q T (mkF m pc' ls (.long z :: st))) : Ends p e s below R Q T (mkF m pc ls st) := by
  subst hp; exact h.map (X.ldc2Long k.1 k.2.2.2.2.1 (mvT k.2.1 hc) rfl (hb k.2.2.1 hd))
theorem ldcF (k : K p s m meth c Z y cd ml ret) (X : Stand p l e R s m args below meth c T locs cells slots) {i : Nat} {z : UInt32} (hd : decode cd pc = .ok (.ldc i, 2)) (hc : (Jvm.Cond.constantFloat y.cls i z).before a0 Z = true) (pc' : Nat) (hp : pc + 2 = pc') (h : Ends p e s below R Q T (mkF m pc' ls (.float z :: st))) : Ends p e s below R Q T (mkF m pc ls st) := by
  subst hp; exact h.map (X.ldcFloatC k.1 k.2.2.2.2.1 (mvT k.2.1 hc) rfl (hb k.2.2.1 hd))
/-! arithmetic -/
theorem iadd (k : K p s m meth c Z y cd ml ret) (X : Stand p l e R s m args below meth c T locs cells slots) {a : Int32} {b : Int32} (hd : decode cd pc = .ok (.iadd, 1)) (pc' : Nat) (hp : pc + 1 = pc') (h : Ends p e s below R Q T (mkF m pc' ls (.int (a + b) :: st))) : Ends p e s below R Q T (mkF m pc ls (.int b :: .int a :: st)) := by
  subst hp; exact h.map fun _ q => XS.iadd X.here k.1 rfl (hb k.2.2.1 hd) rfl q
theorem ladd (k : K p s m meth c Z y cd ml ret) (X : Stand p l e R s m args below meth c T locs cells slots) {a : Int64} {b : Int64} (hd : decode cd pc = .ok (.ladd, 1)) (pc' : Nat) (hp : pc + 1 = pc') (h : Ends p e s below R Q T (mkF m pc' ls (.long (a + b) :: st))) : Ends p e s below R Q T (mkF m pc ls (.long b :: .long a :: st)) := by
  subst hp; exact h.map fun _ q => XS.ladd X.here k.1 rfl (hb k.2.2.1 hd) rfl q
theorem isub (k : K p s m meth c Z y cd ml ret) (X : Stand p l e R s m args below meth c T locs cells slots) {a : Int32} {b : Int32} (hd : decode cd pc = .ok (.isub, 1)) (pc' : Nat) (hp : pc + 1 = pc') (h : Ends p e s below R Q T (mkF m pc' ls (.int (a - b) :: st))) : Ends p e s below R Q T (mkF m pc ls (.int b :: .int a :: st)) := by
  subst hp; exact h.map fun _ q => XS.isub X.here k.1 rfl (hb k.2.2.1 hd) rfl q
theorem lsub (k : K p s m meth c Z y cd ml ret) (X : Stand p l e R s m args below meth c T locs cells slots) {a : Int64} {b : Int64} (hd : decode cd pc = .ok (.lsub, 1)) (pc' : Nat) (hp : pc + 1 = pc') (h : Ends p e s below R Q T (mkF m pc' ls (.long (a - b) :: st))) : Ends p e s below R Q T (mkF m pc ls (.long b :: .long a :: st)) := by
  subst hp; exact h.map fun _ q => XS.lsub X.here k.1 rfl (hb k.2.2.1 hd) rfl q
theorem imul (k : K p s m meth c Z y cd ml ret) (X : Stand p l e R s m args below meth c T locs cells slots) {a : Int32} {b : Int32} (hd : decode cd pc = .ok (.imul, 1)) (pc' : Nat) (hp : pc + 1 = pc') (h : Ends p e s below R Q T (mkF m pc' ls (.int (a * b) :: st))) : Ends p e s below R Q T (mkF m pc ls (.int b :: .int a :: st)) := by
  subst hp; exact h.map fun _ q => XS.imul X.here k.1 rfl (hb k.2.2.1 hd) rfl q
theorem lmul (k : K p s m meth c Z y cd ml ret) (X : Stand p l e R s m args below meth c T locs cells slots) {a : Int64} {b : Int64} (hd : decode cd pc = .ok (.lmul, 1)) (pc' : Nat) (hp : pc + 1 = pc') (h : Ends p e s below R Q T (mkF m pc' ls (.long (a * b) :: st))) : Ends p e s below R Q T (mkF m pc ls (.long b :: .long a :: st)) := by
  subst hp; exact h.map fun _ q => XS.lmul X.here k.1 rfl (hb k.2.2.1 hd) rfl q
theorem iand (k : K p s m meth c Z y cd ml ret) (X : Stand p l e R s m args below meth c T locs cells slots) {a : Int32} {b : Int32} (hd : decode cd pc = .ok (.iand, 1)) (pc' : Nat) (hp : pc + 1 = pc') (h : Ends p e s below R Q T (mkF m pc' ls (.int (a &&& b) :: st))) : Ends p e s below R Q T (mkF m pc ls (.int b :: .int a :: st)) := by
  subst hp; exact h.map fun _ q => XS.iand X.here k.1 rfl (hb k.2.2.1 hd) rfl q
theorem land (k : K p s m meth c Z y cd ml ret) (X : Stand p l e R s m args below meth c T locs cells slots) {a : Int64} {b : Int64} (hd : decode cd pc = .ok (.land, 1)) (pc' : Nat) (hp : pc + 1 = pc') (h : Ends p e s below R Q T (mkF m pc' ls (.long (a &&& b) :: st))) : Ends p e s below R Q T (mkF m pc ls (.long b :: .long a :: st)) := by
  subst hp; exact h.map fun _ q => XS.land X.here k.1 rfl (hb k.2.2.1 hd) rfl q
theorem ior (k : K p s m meth c Z y cd ml ret) (X : Stand p l e R s m args below meth c T locs cells slots) {a : Int32} {b : Int32} (hd : decode cd pc = .ok (.ior, 1)) (pc' : Nat) (hp : pc + 1 = pc') (h : Ends p e s below R Q T (mkF m pc' ls (.int (a ||| b) :: st))) : Ends p e s below R Q T (mkF m pc ls (.int b :: .int a :: st)) := by
  subst hp; exact h.map fun _ q => XS.ior X.here k.1 rfl (hb k.2.2.1 hd) rfl q
theorem lor (k : K p s m meth c Z y cd ml ret) (X : Stand p l e R s m args below meth c T locs cells slots) {a : Int64} {b : Int64} (hd : decode cd pc = .ok (.lor, 1)) (pc' : Nat) (hp : pc + 1 = pc') (h : Ends p e s below R Q T (mkF m pc' ls (.long (a ||| b) :: st))) : Ends p e s below R Q T (mkF m pc ls (.long b :: .long a :: st)) := by
  subst hp; exact h.map fun _ q => XS.lor X.here k.1 rfl (hb k.2.2.1 hd) rfl q
theorem ixor (k : K p s m meth c Z y cd ml ret) (X : Stand p l e R s m args below meth c T locs cells slots) {a : Int32} {b : Int32} (hd : decode cd pc = .ok (.ixor, 1)) (pc' : Nat) (hp : pc + 1 = pc') (h : Ends p e s below R Q T (mkF m pc' ls (.int (a ^^^ b) :: st))) : Ends p e s below R Q T (mkF m pc ls (.int b :: .int a :: st)) := by
  subst hp; exact h.map fun _ q => XS.ixor X.here k.1 rfl (hb k.2.2.1 hd) rfl q
theorem lxor (k : K p s m meth c Z y cd ml ret) (X : Stand p l e R s m args below meth c T locs cells slots) {a : Int64} {b : Int64} (hd : decode cd pc = .ok (.lxor, 1)) (pc' : Nat) (hp : pc + 1 = pc') (h : Ends p e s below R Q T (mkF m pc' ls (.long (a ^^^ b) :: st))) : Ends p e s below R Q T (mkF m pc ls (.long b :: .long a :: st)) := by
  subst hp; exact h.map fun _ q => XS.lxor X.here k.1 rfl (hb k.2.2.1 hd) rfl q
theorem idiv (k : K p s m meth c Z y cd ml ret) (X : Stand p l e R s m args below meth c T locs cells slots) {a : Int32} {b : Int32} (hd : decode cd pc = .ok (.idiv, 1)) (hy : b ≠ 0) (pc' : Nat) (hp : pc + 1 = pc') (h : Ends p e s below R Q T (mkF m pc' ls (.int (a / b) :: st))) : Ends p e s below R Q T (mkF m pc ls (.int b :: .int a :: st)) := by
  subst hp; exact h.map fun _ q => XS.idiv X.here k.1 rfl (hb k.2.2.1 hd) rfl hy q
theorem ldiv (k : K p s m meth c Z y cd ml ret) (X : Stand p l e R s m args below meth c T locs cells slots) {a : Int64} {b : Int64} (hd : decode cd pc = .ok (.ldiv, 1)) (hy : b ≠ 0) (pc' : Nat) (hp : pc + 1 = pc') (h : Ends p e s below R Q T (mkF m pc' ls (.long (a / b) :: st))) : Ends p e s below R Q T (mkF m pc ls (.long b :: .long a :: st)) := by
  subst hp; exact h.map fun _ q => XS.ldiv X.here k.1 rfl (hb k.2.2.1 hd) rfl hy q
theorem ishl (k : K p s m meth c Z y cd ml ret) (X : Stand p l e R s m args below meth c T locs cells slots) {a : Int32} {b : Int32} (hd : decode cd pc = .ok (.ishl, 1)) (pc' : Nat) (hp : pc + 1 = pc') (h : Ends p e s below R Q T (mkF m pc' ls (.int (a <<< (b &&& 31)) :: st))) : Ends p e s below R Q T (mkF m pc ls (.int b :: .int a :: st)) := by
  subst hp; exact h.map fun _ q => XS.ishl X.here k.1 rfl (hb k.2.2.1 hd) rfl q
theorem ishr (k : K p s m meth c Z y cd ml ret) (X : Stand p l e R s m args below meth c T locs cells slots) {a : Int32} {b : Int32} (hd : decode cd pc = .ok (.ishr, 1)) (pc' : Nat) (hp : pc + 1 = pc') (h : Ends p e s below R Q T (mkF m pc' ls (.int (a >>> (b &&& 31)) :: st))) : Ends p e s below R Q T (mkF m pc ls (.int b :: .int a :: st)) := by
  subst hp; exact h.map fun _ q => XS.ishr X.here k.1 rfl (hb k.2.2.1 hd) rfl q
theorem iushr (k : K p s m meth c Z y cd ml ret) (X : Stand p l e R s m args below meth c T locs cells slots) {a : Int32} {b : Int32} (hd : decode cd pc = .ok (.iushr, 1)) (pc' : Nat) (hp : pc + 1 = pc') (h : Ends p e s below R Q T (mkF m pc' ls (.int ((a.toUInt32 >>> (b &&& 31).toUInt32).toInt32) :: st))) : Ends p e s below R Q T (mkF m pc ls (.int b :: .int a :: st)) := by
  subst hp; exact h.map fun _ q => XS.iushr X.here k.1 rfl (hb k.2.2.1 hd) rfl q
theorem lshl (k : K p s m meth c Z y cd ml ret) (X : Stand p l e R s m args below meth c T locs cells slots) {a : Int64} {b : Int32} (hd : decode cd pc = .ok (.lshl, 1)) (pc' : Nat) (hp : pc + 1 = pc') (h : Ends p e s below R Q T (mkF m pc' ls (.long (a <<< (b &&& 0x3f).toInt64) :: st))) : Ends p e s below R Q T (mkF m pc ls (.int b :: .long a :: st)) := by
  subst hp; exact h.map fun _ q => XS.lshl X.here k.1 rfl (hb k.2.2.1 hd) rfl q
theorem lshr (k : K p s m meth c Z y cd ml ret) (X : Stand p l e R s m args below meth c T locs cells slots) {a : Int64} {b : Int32} (hd : decode cd pc = .ok (.lshr, 1)) (pc' : Nat) (hp : pc + 1 = pc') (h : Ends p e s below R Q T (mkF m pc' ls (.long (a >>> (b &&& 0x3f).toInt64) :: st))) : Ends p e s below R Q T (mkF m pc ls (.int b :: .long a :: st)) := by
  subst hp; exact h.map fun _ q => XS.lshr X.here k.1 rfl (hb k.2.2.1 hd) rfl q
theorem lushr (k : K p s m meth c Z y cd ml ret) (X : Stand p l e R s m args below meth c T locs cells slots) {a : Int64} {b : Int32} (hd : decode cd pc = .ok (.lushr, 1)) (pc' : Nat) (hp : pc + 1 = pc') (h : Ends p e s below R Q T (mkF m pc' ls (.long ((a.toUInt64 >>> (b &&& 0x3f).toInt64.toUInt64).toInt64) :: st))) : Ends p e s below R Q T (mkF m pc ls (.int b :: .long a :: st)) := by
  subst hp; exact h.map fun _ q => XS.lushr X.here k.1 rfl (hb k.2.2.1 hd) rfl q
theorem irem (k : K p s m meth c Z y cd ml ret) (X : Stand p l e R s m args below meth c T locs cells slots) {a b : Int32} (hd : decode cd pc = .ok (.irem, 1)) (hy : b ≠ 0) (pc' : Nat) (hp : pc + 1 = pc') (h : Ends p e s below R Q T (mkF m pc' ls (.int (a % b) :: st))) : Ends p e s below R Q T (mkF m pc ls (.int b :: .int a :: st)) := by
  subst hp; exact h.map fun _ q => iremM X k.1 rfl (hb k.2.2.1 hd) rfl hy q
theorem ineg (k : K p s m meth c Z y cd ml ret) (X : Stand p l e R s m args below meth c T locs cells slots) {a : Int32} (hd : decode cd pc = .ok (.ineg, 1)) (pc' : Nat) (hp : pc + 1 = pc') (h : Ends p e s below R Q T (mkF m pc' ls (.int (-a) :: st))) : Ends p e s below R Q T (mkF m pc ls (.int a :: st)) := by
  subst hp; exact h.map fun _ q => XS.ineg X.here k.1 rfl (hb k.2.2.1 hd) rfl q
theorem lneg (k : K p s m meth c Z y cd ml ret) (X : Stand p l e R s m args below meth c T locs cells slots) {a : Int64} (hd : decode cd pc = .ok (.lneg, 1)) (pc' : Nat) (hp : pc + 1 = pc') (h : Ends p e s below R Q T (mkF m pc' ls (.long (-a) :: st))) : Ends p e s below R Q T (mkF m pc ls (.long a :: st)) := by
  subst hp; exact h.map fun _ q => XS.lneg X.here k.1 rfl (hb k.2.2.1 hd) rfl q
theorem i2l (k : K p s m meth c Z y cd ml ret) (X : Stand p l e R s m args below meth c T locs cells slots) {a : Int32} (hd : decode cd pc = .ok (.i2l, 1)) (pc' : Nat) (hp : pc + 1 = pc') (h : Ends p e s below R Q T (mkF m pc' ls (.long (a.toInt64) :: st))) : Ends p e s below R Q T (mkF m pc ls (.int a :: st)) := by
  subst hp; exact h.map fun _ q => XS.i2l X.here k.1 rfl (hb k.2.2.1 hd) rfl q
theorem l2i (k : K p s m meth c Z y cd ml ret) (X : Stand p l e R s m args below meth c T locs cells slots) {a : Int64} (hd : decode cd pc = .ok (.l2i, 1)) (pc' : Nat) (hp : pc + 1 = pc') (h : Ends p e s below R Q T (mkF m pc' ls (.int (a.toInt32) :: st))) : Ends p e s below R Q T (mkF m pc ls (.long a :: st)) := by
  subst hp; exact h.map fun _ q => XS.l2i X.here k.1 rfl (hb k.2.2.1 hd) rfl q
theorem i2b (k : K p s m meth c Z y cd ml ret) (X : Stand p l e R s m args below meth c T locs cells slots) {a : Int32} (hd : decode cd pc = .ok (.i2b, 1)) (pc' : Nat) (hp : pc + 1 = pc') (h : Ends p e s below R Q T (mkF m pc' ls (.int (a.toInt8.toInt32) :: st))) : Ends p e s below R Q T (mkF m pc ls (.int a :: st)) := by
  subst hp; exact h.map fun _ q => XS.i2b X.here k.1 rfl (hb k.2.2.1 hd) rfl q
theorem i2s (k : K p s m meth c Z y cd ml ret) (X : Stand p l e R s m args below meth c T locs cells slots) {a : Int32} (hd : decode cd pc = .ok (.i2s, 1)) (pc' : Nat) (hp : pc + 1 = pc') (h : Ends p e s below R Q T (mkF m pc' ls (.int (a.toInt16.toInt32) :: st))) : Ends p e s below R Q T (mkF m pc ls (.int a :: st)) := by
  subst hp; exact h.map fun _ q => XS.i2s X.here k.1 rfl (hb k.2.2.1 hd) rfl q
theorem i2c (k : K p s m meth c Z y cd ml ret) (X : Stand p l e R s m args below meth c T locs cells slots) {a : Int32} (hd : decode cd pc = .ok (.i2c, 1)) (pc' : Nat) (hp : pc + 1 = pc') (h : Ends p e s below R Q T (mkF m pc' ls (.int (a.toUInt32.toUInt16.toUInt32.toInt32) :: st))) : Ends p e s below R Q T (mkF m pc ls (.int a :: st)) := by
  subst hp; exact h.map fun _ q => XS.i2c X.here k.1 rfl (hb k.2.2.1 hd) rfl q
/-! stack, jumps -/
theorem dup (k : K p s m meth c Z y cd ml ret) (X : Stand p l e R s m args below meth c T locs cells slots) {v : Value} (hd : decode cd pc = .ok (.dup, 1)) (hc : v.category = 1) (pc' : Nat) (hp : pc + 1 = pc') (h : Ends p e s below R Q T (mkF m pc' ls (v :: v :: st))) : Ends p e s below R Q T (mkF m pc ls (v :: st)) := by
  subst hp; exact h.map fun _ q => XS.dup X.here k.1 rfl (hb k.2.2.1 hd) rfl hc q
theorem pop (k : K p s m meth c Z y cd ml ret) (X : Stand p l e R s m args below meth c T locs cells slots) {v : Value} (hd : decode cd pc = .ok (.pop, 1)) (hc : v.category = 1) (pc' : Nat) (hp : pc + 1 = pc') (h : Ends p e s below R Q T (mkF m pc' ls st)) : Ends p e s below R Q T (mkF m pc ls (v :: st)) := by
  subst hp; exact h.map fun _ q => XS.pop X.here k.1 rfl (hb k.2.2.1 hd) rfl hc q
theorem dup_x1 (k : K p s m meth c Z y cd ml ret) (X : Stand p l e R s m args below meth c T locs cells slots) {v v' : Value} (hd : decode cd pc = .ok (.dup_x1, 1)) (hc : v.category = 1) (hc' : v'.category = 1) (pc' : Nat) (hp : pc + 1 = pc') (h : Ends p e s below R Q T (mkF m pc' ls (v :: v' :: v :: st))) : Ends p e s below R Q T (mkF m pc ls (v :: v' :: st)) := by
  subst hp; exact h.map fun _ q => XS.dupX1 X.here k.1 rfl (hb k.2.2.1 hd) rfl hc hc' q
theorem dup2 (k : K p s m meth c Z y cd ml ret) (X : Stand p l e R s m args below meth c T locs cells slots) {v v' : Value} (hd : decode cd pc = .ok (.dup2, 1)) (hc : v.category = 1) (hc' : v'.category = 1) (pc' : Nat) (hp : pc + 1 = pc') (h : Ends p e s below R Q T (mkF m pc' ls (v :: v' :: v :: v' :: st))) : Ends p e s below R Q T (mkF m pc ls (v :: v' :: st)) := by
  subst hp; exact h.map fun _ q => Jvm.Free.XT.dup2 X.here k.1 rfl (hb k.2.2.1 hd) rfl hc hc' q
theorem goto (k : K p s m meth c Z y cd ml ret) (X : Stand p l e R s m args below meth c T locs cells slots) {o : Int} (hd : decode cd pc = .ok (.goto o, 3)) (ho : 0 ≤ (pc : Int) + o) (pc' : Nat) (hp : ((pc : Int) + o).toNat = pc') (h : Ends p e s below R Q T (mkF m pc' ls st)) : Ends p e s below R Q T (mkF m pc ls st) := by
  exact h.map fun _ q => XS.goto X.here k.1 rfl rfl (hb k.2.2.1 hd) ho hp q
theorem icmp_lt (k : K p s m meth c Z y cd ml ret) (X : Stand p l e R s m args below meth c T locs cells slots) {a b : Int32} {o : Int} (hd : decode cd pc = .ok (.if_icmp .lt o, 3)) (ho : 0 ≤ (pc : Int) + o) (py pn : Nat) (hy : ((pc : Int) + o).toNat = py) (hn : pc + 3 = pn) (h1 : a < b → Ends p e s below R Q T (mkF m py ls st)) (h2 : ¬ a < b → Ends p e s below R Q T (mkF m pn ls st)) : Ends p e s below R Q T (mkF m pc ls (.int b :: .int a :: st)) := by
  subst hn
  by_cases q : a < b
  · exact (h1 q).map fun _ r => XS.icmpYes X.here k.1 rfl rfl (hb k.2.2.1 hd) rfl (tlt q).1 ho hy r
  · exact (h2 q).map fun _ r => XS.icmpNo X.here k.1 rfl (hb k.2.2.1 hd) rfl (flt q).1 r
theorem if_lt (k : K p s m meth c Z y cd ml ret) (X : Stand p l e R s m args below meth c T locs cells slots) {a : Int32} {o : Int} (hd : decode cd pc = .ok (.ifCond .lt o, 3)) (ho : 0 ≤ (pc : Int) + o) (py pn : Nat) (hy : ((pc : Int) + o).toNat = py) (hn : pc + 3 = pn) (h1 : a < 0 → Ends p e s below R Q T (mkF m py ls st)) (h2 : ¬ a < 0 → Ends p e s below R Q T (mkF m pn ls st)) : Ends p e s below R Q T (mkF m pc ls (.int a :: st)) := by
  subst hn
  by_cases q : a < 0
  · exact (h1 q).map fun _ r => XS.ifYes X.here k.1 rfl rfl (hb k.2.2.1 hd) rfl ((if0 _ _).trans (tlt q).1) ho hy r
  · exact (h2 q).map fun _ r => XS.ifNo X.here k.1 rfl (hb k.2.2.1 hd) rfl ((if0 _ _).trans (flt q).1) r
theorem icmp_ge (k : K p s m meth c Z y cd ml ret) (X : Stand p l e R s m args below meth c T locs cells slots) {a b : Int32} {o : Int} (hd : decode cd pc = .ok (.if_icmp .ge o, 3)) (ho : 0 ≤ (pc : Int) + o) (py pn : Nat) (hy : ((pc : Int) + o).toNat = py) (hn : pc + 3 = pn) (h1 : ¬ a < b → Ends p e s below R Q T (mkF m py ls st)) (h2 : a < b → Ends p e s below R Q T (mkF m pn ls st)) : Ends p e s below R Q T (mkF m pc ls (.int b :: .int a :: st)) := by
  subst hn
  by_cases q : a < b
  · exact (h2 q).map fun _ r => XS.icmpNo X.here k.1 rfl (hb k.2.2.1 hd) rfl (tlt q).2.1 r
  · exact (h1 q).map fun _ r => XS.icmpYes X.here k.1 rfl rfl (hb k.2.2.1 hd) rfl (flt q).2.1 ho hy r
theorem if_ge (k : K p s m meth c Z y cd ml ret) (X : Stand p l e R s m args below meth c T locs cells slots) {a : Int32} {o : Int} (hd : decode cd pc = .ok (.ifCond .ge o, 3)) (ho : 0 ≤ (pc : Int) + o) (py pn : Nat) (hy : ((pc : Int) + o).toNat = py) (hn : pc + 3 = pn) (h1 : ¬ a < 0 → Ends p e s below R Q T (mkF m py ls st)) (h2 : a < 0 → Ends p e s below R Q T (mkF m pn ls st)) : Ends p e s below R Q T (mkF m pc ls (.int a :: st)) := by
  subst hn
  by_cases q : a < 0
  · exact (h2 q).map fun _ r => XS.ifNo X.here k.1 rfl (hb k.2.2.1 hd) rfl ((if0 _ _).trans (tlt q).2.1) r
  · exact (h1 q).map fun _ r => XS.ifYes X.here k.1 rfl rfl (hb k.2.2.1 hd) rfl ((if0 _ _).trans (flt q).2.1) ho hy r
theorem icmp_gt (k : K p s m meth c Z y cd ml ret) (X : Stand p l e R s m args below meth c T locs cells slots) {a b : Int32} {o : Int} (hd : decode cd pc = .ok (.if_icmp .gt o, 3)) (ho : 0 ≤ (pc : Int) + o) (py pn : Nat) (hy : ((pc : Int) + o).toNat = py) (hn : pc + 3 = pn) (h1 : b < a → Ends p e s below R Q T (mkF m py ls st)) (h2 : ¬ b < a → Ends p e s below R Q T (mkF m pn ls st)) : Ends p e s below R Q T (mkF m pc ls (.int b :: .int a :: st)) := by
  subst hn
  by_cases q : b < a
  · exact (h1 q).map fun _ r => XS.icmpYes X.here k.1 rfl rfl (hb k.2.2.1 hd) rfl (tlt q).2.2.1 ho hy r
  · exact (h2 q).map fun _ r => XS.icmpNo X.here k.1 rfl (hb k.2.2.1 hd) rfl (flt q).2.2.1 r
theorem if_gt (k : K p s m meth c Z y cd ml ret) (X : Stand p l e R s m args below meth c T locs cells slots) {a : Int32} {o : Int} (hd : decode cd pc = .ok (.ifCond .gt o, 3)) (ho : 0 ≤ (pc : Int) + o) (py pn : Nat) (hy : ((pc : Int) + o).toNat = py) (hn : pc + 3 = pn) (h1 : 0 < a → Ends p e s below R Q T (mkF m py ls st)) (h2 : ¬ 0 < a → Ends p e s below R Q T (mkF m pn ls st)) : Ends p e s below R Q T (mkF m pc ls (.int a :: st)) := by
  subst hn
  by_cases q : 0 < a
  · exact (h1 q).map fun _ r => XS.ifYes X.here k.1 rfl rfl (hb k.2.2.1 hd) rfl ((if0 _ _).trans (tlt q).2.2.1) ho hy r
  · exact (h2 q).map fun _ r => XS.ifNo X.here k.1 rfl (hb k.2.2.1 hd) rfl ((if0 _ _).trans (flt q).2.2.1) r
theorem icmp_le (k : K p s m meth c Z y cd ml ret) (X : Stand p l e R s m args below meth c T locs cells slots) {a b : Int32} {o : Int} (hd : decode cd pc = .ok (.if_icmp .le o, 3)) (ho : 0 ≤ (pc : Int) + o) (py pn : Nat) (hy : ((pc : Int) + o).toNat = py) (hn : pc + 3 = pn) (h1 : ¬ b < a → Ends p e s below R Q T (mkF m py ls st)) (h2 : b < a → Ends p e s below R Q T (mkF m pn ls st)) : Ends p e s below R Q T (mkF m pc ls (.int b :: .int a :: st)) := by
  subst hn
  by_cases q : b < a
  · exact (h2 q).map fun _ r => XS.icmpNo X.here k.1 rfl (hb k.2.2.1 hd) rfl (tlt q).2.2.2 r
  · exact (h1 q).map fun _ r => XS.icmpYes X.here k.1 rfl rfl (hb k.2.2.1 hd) rfl (flt q).2.2.2 ho hy r
theorem if_le (k : K p s m meth c Z y cd ml ret) (X : Stand p l e R s m args below meth c T locs cells slots) {a : Int32} {o : Int} (hd : decode cd pc = .ok (.ifCond .le o, 3)) (ho : 0 ≤ (pc : Int) + o) (py pn : Nat) (hy : ((pc : Int) + o).toNat = py) (hn : pc + 3 = pn) (h1 : ¬ 0 < a → Ends p e s below R Q T (mkF m py ls st)) (h2 : 0 < a → Ends p e s below R Q T (mkF m pn ls st)) : Ends p e s below R Q T (mkF m pc ls (.int a :: st)) := by
  subst hn
  by_cases q : 0 < a
  · exact (h2 q).map fun _ r => XS.ifNo X.here k.1 rfl (hb k.2.2.1 hd) rfl ((if0 _ _).trans (tlt q).2.2.2) r
  · exact (h1 q).map fun _ r => XS.ifYes X.here k.1 rfl rfl (hb k.2.2.1 hd) rfl ((if0 _ _).trans (flt q).2.2.2) ho hy r
theorem icmp_eq (k : K p s m meth c Z y cd ml ret) (X : Stand p l e R s m args below meth c T locs cells slots) {a b : Int32} {o : Int} (hd : decode cd pc = .ok (.if_icmp .eq o, 3)) (ho : 0 ≤ (pc : Int) + o) (py pn : Nat) (hy : ((pc : Int) + o).toNat = py) (hn : pc + 3 = pn) (h1 : a = b → Ends p e s below R Q T (mkF m py ls st)) (h2 : ¬ a = b → Ends p e s below R Q T (mkF m pn ls st)) : Ends p e s below R Q T (mkF m pc ls (.int b :: .int a :: st)) := by
  subst hn
  by_cases q : a = b
  · exact (h1 q).map fun _ r => XS.icmpYes X.here k.1 rfl rfl (hb k.2.2.1 hd) rfl (teq q).1 ho hy r
  · exact (h2 q).map fun _ r => XS.icmpNo X.here k.1 rfl (hb k.2.2.1 hd) rfl (feq q).1 r
theorem if_eq (k : K p s m meth c Z y cd ml ret) (X : Stand p l e R s m args below meth c T locs cells slots) {a : Int32} {o : Int} (hd : decode cd pc = .ok (.ifCond .eq o, 3)) (ho : 0 ≤ (pc : Int) + o) (py pn : Nat) (hy : ((pc : Int) + o).toNat = py) (hn : pc + 3 = pn) (h1 : a = 0 → Ends p e s below R Q T (mkF m py ls st)) (h2 : ¬ a = 0 → Ends p e s below R Q T (mkF m pn ls st)) : Ends p e s below R Q T (mkF m pc ls (.int a :: st)) := by
  subst hn
  by_cases q : a = 0
  · exact (h1 q).map fun _ r => XS.ifYes X.here k.1 rfl rfl (hb k.2.2.1 hd) rfl ((if0 _ _).trans (teq q).1) ho hy r
  · exact (h2 q).map fun _ r => XS.ifNo X.here k.1 rfl (hb k.2.2.1 hd) rfl ((if0 _ _).trans (feq q).1) r
theorem icmp_ne (k : K p s m meth c Z y cd ml ret) (X : Stand p l e R s m args below meth c T locs cells slots) {a b : Int32} {o : Int} (hd : decode cd pc = .ok (.if_icmp .ne o, 3)) (ho : 0 ≤ (pc : Int) + o) (py pn : Nat) (hy : ((pc : Int) + o).toNat = py) (hn : pc + 3 = pn) (h1 : ¬ a = b → Ends p e s below R Q T (mkF m py ls st)) (h2 : a = b → Ends p e s below R Q T (mkF m pn ls st)) : Ends p e s below R Q T (mkF m pc ls (.int b :: .int a :: st)) := by
  subst hn
  by_cases q : a = b
  · exact (h2 q).map fun _ r => XS.icmpNo X.here k.1 rfl (hb k.2.2.1 hd) rfl (teq q).2 r
  · exact (h1 q).map fun _ r => XS.icmpYes X.here k.1 rfl rfl (hb k.2.2.1 hd) rfl (feq q).2 ho hy r
theorem if_ne (k : K p s m meth c Z y cd ml ret) (X : Stand p l e R s m args below meth c T locs cells slots) {a : Int32} {o : Int} (hd : decode cd pc = .ok (.ifCond .ne o, 3)) (ho : 0 ≤ (pc : Int) + o) (py pn : Nat) (hy : ((pc : Int) + o).toNat = py) (hn : pc + 3 = pn) (h1 : ¬ a = 0 → Ends p e s below R Q T (mkF m py ls st)) (h2 : a = 0 → Ends p e s below R Q T (mkF m pn ls st)) : Ends p e s below R Q T (mkF m pc ls (.int a :: st)) := by
  subst hn
  by_cases q : a = 0
  · exact (h2 q).map fun _ r => XS.ifNo X.here k.1 rfl (hb k.2.2.1 hd) rfl ((if0 _ _).trans (teq q).2) r
  · exact (h1 q).map fun _ r => XS.ifYes X.here k.1 rfl rfl (hb k.2.2.1 hd) rfl ((if0 _ _).trans (feq q).2) ho hy r
theorem lcmp_lt (k : K p s m meth c Z y cd ml ret) (X : Stand p l e R s m args below meth c T locs cells slots) {a b : Int64} {o : Int} (hd0 : decode cd pc = .ok (.lcmp, 1)) (pc1 : Nat) (hp1 : pc + 1 = pc1) (hd : decode cd pc1 = .ok (.ifCond .lt o, 3)) (ho : 0 ≤ (pc1 : Int) + o) (py pn : Nat) (hy : ((pc1 : Int) + o).toNat = py) (hn : pc1 + 3 = pn) (h1 : a < b → Ends p e s below R Q T (mkF m py ls st)) (h2 : ¬ a < b → Ends p e s below R Q T (mkF m pn ls st)) : Ends p e s below R Q T (mkF m pc ls (.long b :: .long a :: st)) := by
  subst hp1
  refine Ends.map (T' := T) (f' := mkF m (pc + 1) ls (.int (lcmpW a b) :: st)) (fun _ q => XS.lcmp X.here k.1 rfl (hb k.2.2.1 hd0) rfl q) ?_
  exact if_lt k X hd ho py pn hy hn (fun q => h1 ((lw_lt a b).mp q)) (fun q => h2 (mt (lw_lt a b).mpr q))
theorem lcmp_ge (k : K p s m meth c Z y cd ml ret) (X : Stand p l e R s m args below meth c T locs cells slots) {a b : Int64} {o : Int} (hd0 : decode cd pc = .ok (.lcmp, 1)) (pc1 : Nat) (hp1 : pc + 1 = pc1) (hd : decode cd pc1 = .ok (.ifCond .ge o, 3)) (ho : 0 ≤ (pc1 : Int) + o) (py pn : Nat) (hy : ((pc1 : Int) + o).toNat = py) (hn : pc1 + 3 = pn) (h1 : ¬ a < b → Ends p e s below R Q T (mkF m py ls st)) (h2 : a < b → Ends p e s below R Q T (mkF m pn ls st)) : Ends p e s below R Q T (mkF m pc ls (.long b :: .long a :: st)) := by
  subst hp1
  refine Ends.map (T' := T) (f' := mkF m (pc + 1) ls (.int (lcmpW a b) :: st)) (fun _ q => XS.lcmp X.here k.1 rfl (hb k.2.2.1 hd0) rfl q) ?_
  exact if_ge k X hd ho py pn hy hn (fun q => h1 (mt (lw_lt a b).mpr q)) (fun q => h2 ((lw_lt a b).mp q))
theorem lcmp_gt (k : K p s m meth c Z y cd ml ret) (X : Stand p l e R s m args below meth c T locs cells slots) {a b : Int64} {o : Int} (hd0 : decode cd pc = .ok (.lcmp, 1)) (pc1 : Nat) (hp1 : pc + 1 = pc1) (hd : decode cd pc1 = .ok (.ifCond .gt o, 3)) (ho : 0 ≤ (pc1 : Int) + o) (py pn : Nat) (hy : ((pc1 : Int) + o).toNat = py) (hn : pc1 + 3 = pn) (h1 : b < a → Ends p e s below R Q T (mkF m py ls st)) (h2 : ¬ b < a → Ends p e s below R Q T (mkF m pn ls st)) : Ends p e s below R Q T (mkF m pc ls (.long b :: .long a :: st)) := by
  subst hp1
  refine Ends.map (T' := T) (f' := mkF m (pc + 1) ls (.int (lcmpW a b) :: st)) (fun _ q => XS.lcmp X.here k.1 rfl (hb k.2.2.1 hd0) rfl q) ?_
  exact if_gt k X hd ho py pn hy hn (fun q => h1 ((lw_gt a b).mp q)) (fun q => h2 (mt (lw_gt a b).mpr q))
theorem lcmp_le (k : K p s m meth c Z y cd ml ret) (X : Stand p l e R s m args below meth c T locs cells slots) {a b : Int64} {o : Int} (hd0 : decode cd pc = .ok (.lcmp, 1)) (pc1 : Nat) (hp1 : pc + 1 = pc1) (hd : decode cd pc1 = .ok (.ifCond .le o, 3)) (ho : 0 ≤ (pc1 : Int) + o) (py pn : Nat) (hy : ((pc1 : Int) + o).toNat = py) (hn : pc1 + 3 = pn) (h1 : ¬ b < a → Ends p e s below R Q T (mkF m py ls st)) (h2 : b < a → Ends p e s below R Q T (mkF m pn ls st)) : Ends p e s below R Q T (mkF m pc ls (.long b :: .long a :: st)) := by
  subst hp1
  refine Ends.map (T' := T) (f' := mkF m (pc + 1) ls (.int (lcmpW a b) :: st)) (fun _ q => XS.lcmp X.here k.1 rfl (hb k.2.2.1 hd0) rfl q) ?_
  exact if_le k X hd ho py pn hy hn (fun q => h1 (mt (lw_gt a b).mpr q)) (fun q => h2 ((lw_gt a b).mp q))
theorem lcmp_eq (k : K p s m meth c Z y cd ml ret) (X : Stand p l e R s m args below meth c T locs cells slots) {a b : Int64} {o : Int} (hd0 : decode cd pc = .ok (.lcmp, 1)) (pc1 : Nat) (hp1 : pc + 1 = pc1) (hd : decode cd pc1 = .ok (.ifCond .eq o, 3)) (ho : 0 ≤ (pc1 : Int) + o) (py pn : Nat) (hy : ((pc1 : Int) + o).toNat = py) (hn : pc1 + 3 = pn) (h1 : a = b → Ends p e s below R Q T (mkF m py ls st)) (h2 : ¬ a = b → Ends p e s below R Q T (mkF m pn ls st)) : Ends p e s below R Q T (mkF m pc ls (.long b :: .long a :: st)) := by
  subst hp1
  refine Ends.map (T' := T) (f' := mkF m (pc + 1) ls (.int (lcmpW a b) :: st)) (fun _ q => XS.lcmp X.here k.1 rfl (hb k.2.2.1 hd0) rfl q) ?_
  exact if_eq k X hd ho py pn hy hn (fun q => h1 ((lw_eq a b).mp q)) (fun q => h2 (mt (lw_eq a b).mpr q))
theorem lcmp_ne (k : K p s m meth c Z y cd ml ret) (X : Stand p l e R s m args below meth c T locs cells slots) {a b : Int64} {o : Int} (hd0 : decode cd pc = .ok (.lcmp, 1)) (pc1 : Nat) (hp1 : pc + 1 = pc1) (hd : decode cd pc1 = .ok (.ifCond .ne o, 3)) (ho : 0 ≤ (pc1 : Int) + o) (py pn : Nat) (hy : ((pc1 : Int) + o).toNat = py) (hn : pc1 + 3 = pn) (h1 : ¬ a = b → Ends p e s below R Q T (mkF m py ls st)) (h2 : a = b → Ends p e s below R Q T (mkF m pn ls st)) : Ends p e s below R Q T (mkF m pc ls (.long b :: .long a :: st)) := by
  subst hp1
  refine Ends.map (T' := T) (f' := mkF m (pc + 1) ls (.int (lcmpW a b) :: st)) (fun _ q => XS.lcmp X.here k.1 rfl (hb k.2.2.1 hd0) rfl q) ?_
  exact if_ne k X hd ho py pn hy hn (fun q => h1 (mt (lw_eq a b).mpr q)) (fun q => h2 ((lw_eq a b).mp q))
/-! references -/
theorem ifnull_y (k : K p s m meth c Z y cd ml ret) (X : Stand p l e R s m args below meth c T locs cells slots) {o : Int} (hd : decode cd pc = .ok (.ifnull o, 3)) (ho : 0 ≤ (pc : Int) + o) (pc' : Nat) (hp : ((pc : Int) + o).toNat = pc') (h : Ends p e s below R Q T (mkF m pc' ls st)) : Ends p e s below R Q T (mkF m pc ls (.null :: st)) := by
  exact h.map fun _ q => XS.ifnullYes X.here k.1 rfl rfl (hb k.2.2.1 hd) rfl ho hp q
theorem ifnull_n (k : K p s m meth c Z y cd ml ret) (X : Stand p l e R s m args below meth c T locs cells slots) {o : Int} {a : Addr} (hd : decode cd pc = .ok (.ifnull o, 3)) (pc' : Nat) (hp : pc + 3 = pc') (h : Ends p e s below R Q T (mkF m pc' ls st)) : Ends p e s below R Q T (mkF m pc ls (.ref a :: st)) := by
  subst hp; exact h.map fun _ q => XS.ifnullNo X.here k.1 rfl (hb k.2.2.1 hd) rfl q
theorem ifnonnull_y (k : K p s m meth c Z y cd ml ret) (X : Stand p l e R s m args below meth c T locs cells slots) {o : Int} {a : Addr} (hd : decode cd pc = .ok (.ifnonnull o, 3)) (ho : 0 ≤ (pc : Int) + o) (pc' : Nat) (hp : ((pc : Int) + o).toNat = pc') (h : Ends p e s below R Q T (mkF m pc' ls st)) : Ends p e s below R Q T (mkF m pc ls (.ref a :: st)) := by
  exact h.map fun _ q => XS.ifnonnullYes X.here k.1 rfl rfl (hb k.2.2.1 hd) rfl ho hp q
theorem ifnonnull_n (k : K p s m meth c Z y cd ml ret) (X : Stand p l e R s m args below meth c T locs cells slots) {o : Int} (hd : decode cd pc = .ok (.ifnonnull o, 3)) (pc' : Nat) (hp : pc + 3 = pc') (h : Ends p e s below R Q T (mkF m pc' ls st)) : Ends p e s below R Q T (mkF m pc ls (.null :: st)) := by
  subst hp; exact h.map fun _ q => XS.ifnonnullNo X.here k.1 rfl (hb k.2.2.1 hd) rfl q
/-! returns -/
theorem ret_int (k : K p s m meth c Z y cd ml ret) (X : Stand p l e R s m args below meth c T locs cells slots) (hret : ret = some .int) {z : Int32} (hd : decode cd pc = .ok (.ireturn, 1)) (hc : cells ≤ R.cells) (hs : slots ≤ R.slots) (h : Q (some (.int z)) T.heap locs) : Ends p e s below R Q T (mkF m pc ls (.int z :: st)) := by
  have hl := k.2.2.2.2.2.2.1
  obtain ⟨fs, hr, hrun, hended, hW, hsame⟩ := X.leave (v := some (.int z)) (fun q => by rw [k.2.2.2.2.2.1, hret] at q; cases q)
  exact ⟨_, _, retOut X k.1 (t := .int) (k.2.2.2.2.2.1.trans hret) rfl (Or.inl ⟨rfl, Or.inl rfl, _, rfl⟩) (hb k.2.2.1 hd) hr, hrun, hended, _, _, rfl, h, ⟨_, rfl⟩, hW, hsame.mono hc hs⟩
theorem ret_bool (k : K p s m meth c Z y cd ml ret) (X : Stand p l e R s m args below meth c T locs cells slots) (hret : ret = some .boolean) {z : Int32} (hd : decode cd pc = .ok (.ireturn, 1)) (hc : cells ≤ R.cells) (hs : slots ≤ R.slots) (hz : z = 0 ∨ z = 1) (h : Q (some (.int z)) T.heap locs) : Ends p e s below R Q T (mkF m pc ls (.int z :: st)) := by
  have hl := k.2.2.2.2.2.2.1
  obtain ⟨fs, hr, hrun, hended, hW, hsame⟩ := X.leave (v := some (.int z)) (fun q => by rw [k.2.2.2.2.2.1, hret] at q; cases q)
  exact ⟨_, _, retOut X k.1 (t := .boolean) (k.2.2.2.2.2.1.trans hret) (by rcases hz with rfl | rfl <;> rfl) (Or.inl ⟨rfl, Or.inr (Or.inl rfl), _, rfl⟩) (hb k.2.2.1 hd) hr, hrun, hended, _, _, rfl, h, ⟨_, rfl⟩, hW, hsame.mono hc hs⟩
theorem ret_long (k : K p s m meth c Z y cd ml ret) (X : Stand p l e R s m args below meth c T locs cells slots) (hret : ret = some .long) {z : Int64} (hd : decode cd pc = .ok (.lreturn, 1)) (hc : cells ≤ R.cells) (hs : slots ≤ R.slots) (h : Q (some (.long z)) T.heap locs) : Ends p e s below R Q T (mkF m pc ls (.long z :: st)) := by
  have hl := k.2.2.2.2.2.2.1
  obtain ⟨fs, hr, hrun, hended, hW, hsame⟩ := X.leave (v := some (.long z)) (fun q => by rw [k.2.2.2.2.2.1, hret] at q; cases q)
  exact ⟨_, _, retOut X k.1 (t := .long) (k.2.2.2.2.2.1.trans hret) rfl (Or.inr (Or.inl ⟨rfl, rfl, _, rfl⟩)) (hb k.2.2.1 hd) hr, hrun, hended, _, _, rfl, h, ⟨_, rfl⟩, hW, hsame.mono hc hs⟩
theorem ret_ref (k : K p s m meth c Z y cd ml ret) (X : Stand p l e R s m args below meth c T locs cells slots) {t : FieldType} (hret : ret = some t) (ht : t.isReference = true) {z : Value} (hz : z.isRef = true) (hn : narrow t z = z) (hd : decode cd pc = .ok (.areturn, 1)) (hc : cells ≤ R.cells) (hs : slots ≤ R.slots) (h : Q (some z) T.heap locs) : Ends p e s below R Q T (mkF m pc ls (z :: st)) := by
  have hl := k.2.2.2.2.2.2.1
  obtain ⟨fs, hr, hrun, hended, hW, hsame⟩ := X.leave (v := some z) (fun q => by rw [k.2.2.2.2.2.1, hret] at q; cases q)
  exact ⟨_, _, retOut X k.1 (t := t) (k.2.2.2.2.2.1.trans hret) hn (Or.inr (Or.inr (Or.inr (Or.inr ⟨rfl, ht, hz⟩)))) (hb k.2.2.1 hd) hr, hrun, hended, _, _, rfl, h, ⟨_, rfl⟩, hW, hsame.mono hc hs⟩
theorem ret_void (k : K p s m meth c Z y cd ml ret) (X : Stand p l e R s m args below meth c T locs cells slots) (hret : ret = none) (hd : decode cd pc = .ok (.return_, 1)) (hc : cells ≤ R.cells) (hs : slots ≤ R.slots) (h : Q none T.heap locs) : Ends p e s below R Q T (mkF m pc ls []) := by
  have hl := k.2.2.2.2.2.2.1
  obtain ⟨fs, hr, hrun, hended, hW, hsame⟩ := X.leave (v := none) (fun _ => rfl)
  exact ⟨_, _, X.returnOut k.1 (k.2.2.2.2.2.1.trans hret) (hb k.2.2.1 hd) hr, hrun, hended, _, _, rfl, h, ⟨_, rfl⟩, hW, hsame.mono hc hs⟩
/-! the heap -/
theorem getfield (k : K p s m meth c Z y cd ml ret) (X : Stand p l e R s m args below meth c T locs cells slots) {R0 O n d host : String} {idx : Nat} {a : Addr} {v : Value} (hd : decode cd pc = .ok (.getfield idx, 3)) (wl : (Jvm.Cond.fieldLink y.cls idx R0 n d).before a0 Z = true ∨ (Jvm.Cond.fieldLinkNest y.cls idx R0 n d host).before a0 Z = true) (via : Via Z R0 O n d) (e0 : T.heap = h) (F : Fld Z h a O n d v) (pc' : Nat) (hp : pc + 3 = pc')
    (g : ∀ T' : State, Stand p l e R s m args below meth c T' locs cells slots → T'.heap = h → Ends p e s below R Q T' (mkF m pc' ls (v :: st))) : Ends p e s below R Q T (mkF m pc ls (.ref a :: st)) := by
  subst hp
  obtain ⟨T', X', e', q⟩ := getF X k.1 k.2.1 k.2.2.2.2.1 wl via e0 F (g := mkF m pc ls (.ref a :: st)) rfl rfl (hb k.2.2.1 hd)
  exact (g T' X' e').map q
theorem getstatic (k : K p s m meth c Z y cd ml ret) (X : Stand p l e R s m args below meth c T locs cells slots) {O n d host : String} {idx : Nat} {v : Value} (hd : decode cd pc = .ok (.getstatic idx, 3)) (wl : (Jvm.Cond.fieldLink y.cls idx O n d).before a0 Z = true ∨ (Jvm.Cond.fieldLinkNest y.cls idx O n d host).before a0 Z = true) (e0 : T.heap = h) (F : Sta Z h O n d v) (pc' : Nat) (hp : pc + 3 = pc')
    (g : ∀ T' : State, Stand p l e R s m args below meth c T' locs cells slots → T'.heap = h → Ends p e s below R Q T' (mkF m pc' ls (v :: st))) : Ends p e s below R Q T (mkF m pc ls st) := by
  subst hp
  obtain ⟨T', X', e', q⟩ := getS2 X k.1 k.2.1 k.2.2.2.2.1 wl Via.refl e0 F (g := mkF m pc ls st) rfl (hb k.2.2.1 hd)
  exact (g T' X' e').map q
theorem putfield (k : K p s m meth c Z y cd ml ret) (X : Stand p l e R s m args below meth c T locs cells slots) {R0 O n d host C : String} {idx kk : Nat} {ty : FieldType} {a : Addr} {v old : Value} (hd : decode cd pc = .ok (.putfield idx, 3)) (wl : (Jvm.Cond.fieldLink y.cls idx R0 n d).before a0 Z = true ∨ (Jvm.Cond.fieldLinkNest y.cls idx R0 n d host).before a0 Z = true) (via : Via Z R0 O n d) (e0 : T.heap = h) (F : Fld Z h a O n d old) (E : Exa Z h a C)
    (L : (Jvm.Cond.lays C O n d).before a0 Z = true ∨ ((Jvm.Cond.laysFinal C O n d).before a0 Z = true ∧ y.cls = O ∧ y.name = "<init>")) (wi : (Jvm.Cond.instantiable C kk).before a0 Z = true) (hty : parseFieldDescriptor d = some ty) (hn : narrow ty v = v) (hf : fits ty v = true) (pc' : Nat) (hp : pc + 3 = pc')
    (g : ∀ (T' : State) (h' : Heap), Stand p l e R s m args below meth c T' (locs ++ [⟨a, Jvm.RoadKit.slotOf Z O n d⟩]) cells slots → T'.heap = h' → Wr h h' a (Jvm.RoadKit.slotOf Z O n d) v → Ends p e s below R Q T' (mkF m pc' ls st)) : Ends p e s below R Q T (mkF m pc ls (v :: .ref a :: st)) := by
  subst hp
  obtain ⟨T', h', X', e', W', q⟩ := putF X k.1 k.2.1 k.2.2.2.2.1 wl via e0 F E (L.imp id fun q => ⟨q.1, q.2.1, k.2.2.2.2.2.2.2.trans q.2.2⟩) wi hty hn hf (g := mkF m pc ls (v :: .ref a :: st)) rfl rfl (hb k.2.2.1 hd)
  exact (g T' h' X' e' W').map q
theorem initObj (k : K p s m meth c Z y cd ml ret) (X : Stand p l e R s m args below meth c T locs cells slots) {idx : Nat} {a : Addr} {W : Nat} (hd : decode cd pc = .ok (.invokespecial idx, 3)) (w1 : (Jvm.Cond.methodLink y.cls idx Lib.objectInit).before a0 Z = true) (w2 : (Jvm.Cond.instanceMethod Lib.objectInit).before a0 Z = true) (w3 : (Jvm.Cond.code Lib.objectInit ⟨#[0xb1]⟩ 1 none).before a0 Z = true) (e0 : T.heap = h) (hsz : ls.size = ml) (hf : 1 ≤ R.frames) (hW : (st.map fun v => v.category).sum + 12 ≤ R.locals) (pc' : Nat) (hp : pc + 3 = pc')
    (g : ∀ T' : State, Stand p l e R s m args below meth c T' locs cells slots → T'.heap = h → Ends p e s below R Q T' (mkF m pc' ls st)) : Ends p e s below R Q T (mkF m pc ls (.ref a :: st)) := by
  subst hp
  obtain ⟨T', X', e', q⟩ := initO X k.1 k.2.1 k.2.2.2.2.1 w1 w2 w3 e0 (g := mkF m pc ls (.ref a :: st)) rfl (hsz.trans k.2.2.2.1.symm) rfl (hb k.2.2.1 hd) hf (W := (st.map fun v => v.category).sum) (by show 2 * 0 + _ ≤ _; rw [Nat.mul_zero, Nat.zero_add]; exact Nat.le_refl _) hW
  exact (g T' X' e').map q
theorem new (k : K p s m meth c Z y cd ml ret) (X : Stand p l e R s m args below meth c T locs cells slots) {C : String} {idx n : Nat} (hd : decode cd pc = .ok (.new idx, 3)) (wl : (Jvm.Cond.classLink y.cls idx C).before a0 Z = true) (wi : (Jvm.Cond.instantiable C n).before a0 Z = true) (wz : (Jvm.Cond.initialized C).before a0 Z = true) (e0 : T.heap = h) (hc : cells + 1 ≤ R.cells) (hs : slots + n ≤ R.slots) (pc' : Nat) (hp : pc + 3 = pc')
    (g : ∀ (T' : State) (h' : Heap) (a : Addr), a = h.size → Stand p l e R s m args below meth c T' locs (cells + 1) (slots + n) → T'.heap = h' → Ext h h' → Exa Z h' a C → (∀ {O nm d : String} {ty : FieldType}, Laid Z a0 C O nm d → parseFieldDescriptor d = some ty → Fld Z h' a O nm d (defaultValue ty)) → Ends p e s below R Q T' (mkF m pc' ls (.ref a :: st))) : Ends p e s below R Q T (mkF m pc ls st) := by
  subst hp
  obtain ⟨T', h', X', e', E', A', D', -, q⟩ := newO X k.1 k.2.1 k.2.2.2.2.1 wl wi wz e0 (g := mkF m pc ls st) rfl (hb k.2.2.1 hd) hc hs
  exact (g T' h' h.size rfl X' e' E' A' D').map q
theorem checkcast (k : K p s m meth c Z y cd ml ret) (X : Stand p l e R s m args below meth c T locs cells slots) {C : String} {idx : Nat} {a : Addr} (hd : decode cd pc = .ok (.checkcast idx, 3)) (wl : (Jvm.Cond.classLink y.cls idx C).before a0 Z = true) (e0 : T.heap = h) (F : Ins Z h a C true) (pc' : Nat) (hp : pc + 3 = pc')
    (g : ∀ T' : State, Stand p l e R s m args below meth c T' locs cells slots → T'.heap = h → Ends p e s below R Q T' (mkF m pc' ls (.ref a :: st))) : Ends p e s below R Q T (mkF m pc ls (.ref a :: st)) := by
  subst hp
  obtain ⟨T', X', e', q⟩ := castY X k.1 k.2.1 k.2.2.2.2.1 wl e0 F (g := mkF m pc ls (.ref a :: st)) rfl rfl (hb k.2.2.1 hd)
  exact (g T' X' e').map q
theorem inst_y (k : K p s m meth c Z y cd ml ret) (X : Stand p l e R s m args below meth c T locs cells slots) {C : String} {idx : Nat} {a : Addr} (hd : decode cd pc = .ok (.instanceof idx, 3)) (wl : (Jvm.Cond.classLink y.cls idx C).before a0 Z = true) (e0 : T.heap = h) (F : Ins Z h a C true) (pc' : Nat) (hp : pc + 3 = pc')
    (g : ∀ T' : State, Stand p l e R s m args below meth c T' locs cells slots → T'.heap = h → Ends p e s below R Q T' (mkF m pc' ls (.int 1 :: st))) : Ends p e s below R Q T (mkF m pc ls (.ref a :: st)) := by
  subst hp
  obtain ⟨T', X', e', q⟩ := instY X k.1 k.2.1 k.2.2.2.2.1 wl e0 F (g := mkF m pc ls (.ref a :: st)) rfl rfl (hb k.2.2.1 hd)
  exact (g T' X' e').map q
theorem acmp_same (k : K p s m meth c Z y cd ml ret) (X : Stand p l e R s m args below meth c T locs cells slots) {cnd : ACond} {o : Int} {a : Addr} (hd : decode cd pc = .ok (.if_acmp cnd o, 3)) (ho : 0 ≤ (pc : Int) + o) (pc' : Nat) (hp : pc' = if acV cnd true = true then ((pc : Int) + o).toNat else pc + 3) (h : Ends p e s below R Q T (mkF m pc' ls st)) : Ends p e s below R Q T (mkF m pc ls (.ref a :: .ref a :: st)) := by
  exact h.map fun _ q => Jvm.RoadKit.acmp (g := mkF m pc ls (.ref a :: .ref a :: st)) X k.1 rfl rfl rfl rfl (hb k.2.2.1 hd) rfl (decide_eq_true rfl) ho hp q
theorem acmp_diff (k : K p s m meth c Z y cd ml ret) (X : Stand p l e R s m args below meth c T locs cells slots) {cnd : ACond} {o : Int} {a : Addr} {v : Value} (hd : decode cd pc = .ok (.if_acmp cnd o, 3)) (hv : v.isRef = true) (hne : Value.ref a ≠ v) (ho : 0 ≤ (pc : Int) + o) (pc' : Nat) (hp : pc' = if acV cnd false = true then ((pc : Int) + o).toNat else pc + 3) (h : Ends p e s below R Q T (mkF m pc' ls st)) : Ends p e s below R Q T (mkF m pc ls (v :: .ref a :: st)) := by
  exact h.map fun _ q => Jvm.RoadKit.acmp (g := mkF m pc ls (v :: .ref a :: st)) X k.1 rfl rfl hv rfl (hb k.2.2.1 hd) rfl (decide_eq_false hne) ho hp q
theorem inst_null (k : K p s m meth c Z y cd ml ret) (X : Stand p l e R s m args below meth c T locs cells slots) {idx : Nat} (hd : decode cd pc = .ok (.instanceof idx, 3)) (pc' : Nat) (hp : pc + 3 = pc') (h : Ends p e s below R Q T (mkF m pc' ls (.int 0 :: st))) : Ends p e s below R Q T (mkF m pc ls (.null :: st)) := by
  subst hp; exact h.map fun _ q => X.instanceofNull k.1 (g := mkF m pc ls (.null :: st)) rfl rfl (hb k.2.2.1 hd) _ q
theorem inst_n (k : K p s m meth c Z y cd ml ret) (X : Stand p l e R s m args below meth c T locs cells slots) {C : String} {idx : Nat} {a : Addr} (hd : decode cd pc = .ok (.instanceof idx, 3)) (wl : (Jvm.Cond.classLink y.cls idx C).before a0 Z = true) (e0 : T.heap = h) (F : Ins Z h a C false) {C' : String} (E : Exa Z h a C') (pc' : Nat) (hp : pc + 3 = pc')
    (g : ∀ T' : State, Stand p l e R s m args below meth c T' locs cells slots → T'.heap = h → Ends p e s below R Q T' (mkF m pc' ls (.int 0 :: st))) : Ends p e s below R Q T (mkF m pc ls (.ref a :: st)) := by
  subst hp
  obtain ⟨cell, cT, h1, h2, h3⟩ := F
  obtain ⟨cell', kc, e1, -, e3, e4, -⟩ := E
  cases h1.symm.trans e1
  obtain ⟨k', q, -⟩ := k.2.1.alike.2.2 _ _ e3
  obtain ⟨vm', X', st'⟩ := Jvm.Sym.instanceofNoAt X k.1 k.2.2.2.2.1 (mvT k.2.1 wl) (by rw [e0]; exact h1) e4 q (by rw [k.2.1.alike.findClass]; exact h2) (by rw [k.2.1.alike.assignable]; simpa [e4] using h3) (g := mkF m pc ls (.ref a :: st)) rfl rfl (hb k.2.2.1 hd)
  exact (g _ X' e0).map st'
end
/-! arrays: the list of what they hold -/
def Arl (Z : State) (h : Heap) (a : Addr) (ty : FieldType) (vs : List Value) : Prop := ∃ c : Cell, Arr Z h a c ty ∧ c.slots.toList = vs ∧ vs.length < 2147483648
section
variable {Z : State} {h h' : Heap} {a b : Addr} {ty : FieldType} {vs : List Value} {sl : Nat} {v : Value} {ws : List Addr}
theorem Arl.lt (F : Arl Z h a ty vs) : a < h.size := by obtain ⟨c, A, -⟩ := F; exact A.lt
theorem Arl.ext (F : Arl Z h a ty vs) (E : Ext h h') : Arl Z h' a ty vs := by obtain ⟨c, A, r⟩ := F; exact ⟨c, A.ext E, r⟩
theorem Arl.other (F : Arl Z h b ty vs) (W : Wr h h' a sl v) (q : b ≠ a) : Arl Z h' b ty vs := by obtain ⟨c, A, r⟩ := F; exact ⟨c, A.other W q, r⟩
theorem Arl.keep (F : Arl Z h a ty vs) (K : Keep h h' ws) (q : a ∉ ws) : Arl Z h' a ty vs := by obtain ⟨c, A, r⟩ := F; exact ⟨c, ⟨K.2.1 a c A.1 q, A.2⟩, r⟩
theorem Arl.same (F : Arl Z h a ty vs) (W : Wr h h' a sl v) : Arl Z h' a ty (vs.set sl v) := by
  obtain ⟨c, A, rfl, hl⟩ := F
  refine ⟨c.setSlot sl v, A.same W, ?_, by rw [List.length_set]; exact hl⟩
  simp [Cell.setSlot]
theorem tnc {j : Int32} {i : Nat} (hj : j.toInt = i) : j.toNatClampNeg = i := by simp only [Int32.toNatClampNeg, hj]; rfl
theorem inb {j : Int32} {i n : Nat} (hj : j.toInt = i) (hi : i < n) : ¬ (j < 0 ∨ n ≤ j.toNatClampNeg) := by
  rw [tnc hj]; intro q
  rcases q with q | q
  · rw [Int32.lt_iff_toInt_lt] at q; have e0 : (0 : Int32).toInt = 0 := rfl; omega
  · omega
theorem lt_of_get {xs : List Int32} {i : Nat} {x : Int32} (q : xs[i]? = some x) : i < xs.length := (List.getElem?_eq_some_iff.mp q).1
end
section
variable {p : Program} {l : Launch} {e : Env} {R : Room} {s : State} {m : MethodId} {args : Array Value} {below : List Frame} {meth : Method} {c : Code} {T : State} {locs : List Loc} {cells slots : Nat} {Z : State} {a0 : Array Value} {h : Heap} {y : MethodName} {cd : ByteArray} {ml : Nat} {ret : Option FieldType} {Q : Option Value → Heap → List Loc → Prop} {pc pc' : Nat} {ls : Array Slot} {st : List Value}
theorem arraylength (k : K p s m meth c Z y cd ml ret) (X : Stand p l e R s m args below meth c T locs cells slots) {ty : FieldType} {vs : List Value} {a : Addr} (hd : decode cd pc = .ok (.arraylength, 1)) (e0 : T.heap = h) (A : Arl Z h a ty vs) (n : Int32) (hn : n.toInt = vs.length) (pc' : Nat) (hp : pc + 1 = pc') (g : Ends p e s below R Q T (mkF m pc' ls (.int n :: st))) : Ends p e s below R Q T (mkF m pc ls (.ref a :: st)) := by
  subst hp
  obtain ⟨cl, Ar, rfl, hl⟩ := A
  have q : cl.slots.size.toInt32 = n := by
    apply Int32.toInt_inj.mp
    rw [len_toInt (by simpa using hl), hn]; simp
  refine g.map fun _ r => X.arraylength k.1 (by rw [e0]; exact Ar.1) (State.isArrayOf_alike k.2.1.alike Ar.2.1) (g := mkF m pc ls (.ref a :: st)) rfl rfl (hb k.2.2.1 hd) _ ?_
  rw [q]; exact r
theorem iaload (k : K p s m meth c Z y cd ml ret) (X : Stand p l e R s m args below meth c T locs cells slots) {xs : List Int32} {a : Addr} {j : Int32} (hd : decode cd pc = .ok (.iaload, 1)) (e0 : T.heap = h) (A : Arl Z h a .int (xs.map .int)) (i : Nat) (hj : j.toInt = i) (x : Int32) (hx : xs[i]? = some x) (pc' : Nat) (hp : pc + 1 = pc') (g : Ends p e s below R Q T (mkF m pc' ls (.int x :: st))) : Ends p e s below R Q T (mkF m pc ls (.int j :: .ref a :: st)) := by
  subst hp
  obtain ⟨cl, Ar, hs, hl⟩ := A
  have hz : cl.slots.size = xs.length := by rw [← Array.length_toList, hs, List.length_map]
  refine g.map fun _ r => X.iaload k.1 (j := j) (v := .int x) (by rw [e0]; exact Ar.1) (State.isArrayOf_alike k.2.1.alike Ar.2.1) Ar.2.2 (inb hj (hz ▸ lt_of_get hx)) ?_ (g := mkF m pc ls (.int j :: .ref a :: st)) rfl rfl (hb k.2.2.1 hd) _ r
  rw [tnc hj, ← Array.getElem?_toList, hs, List.getElem?_map, hx]; rfl
theorem baload (k : K p s m meth c Z y cd ml ret) (X : Stand p l e R s m args below meth c T locs cells slots) {xs : List Int32} {a : Addr} {j : Int32} (hd : decode cd pc = .ok (.baload, 1)) (e0 : T.heap = h) (A : Arl Z h a .byte (xs.map .int)) (i : Nat) (hj : j.toInt = i) (x : Int32) (hx : xs[i]? = some x) (pc' : Nat) (hp : pc + 1 = pc') (g : Ends p e s below R Q T (mkF m pc' ls (.int x :: st))) : Ends p e s below R Q T (mkF m pc ls (.int j :: .ref a :: st)) := by
  subst hp
  obtain ⟨cl, Ar, hs, hl⟩ := A
  have hz : cl.slots.size = xs.length := by rw [← Array.length_toList, hs, List.length_map]
  refine g.map fun _ r => X.baloadBytes k.1 (j := j) (v := .int x) (by rw [e0]; exact Ar.1) (State.isArrayOf_alike k.2.1.alike Ar.2.1) Ar.2.2 (inb hj (hz ▸ lt_of_get hx)) ?_ (g := mkF m pc ls (.int j :: .ref a :: st)) rfl rfl (hb k.2.2.1 hd) _ r
  rw [tnc hj, ← Array.getElem?_toList, hs, List.getElem?_map, hx]; rfl
theorem iastore (k : K p s m meth c Z y cd ml ret) (X : Stand p l e R s m args below meth c T locs cells slots) {xs : List Int32} {a : Addr} {j x : Int32} (hd : decode cd pc = .ok (.iastore, 1)) (e0 : T.heap = h) (A : Arl Z h a .int (xs.map .int)) (i : Nat) (hj : j.toInt = i) (hi : i < xs.length) (pc' : Nat) (hp : pc + 1 = pc')
    (g : ∀ (T' : State) (h' : Heap), Stand p l e R s m args below meth c T' (locs ++ [⟨a, i⟩]) cells slots → T'.heap = h' → Wr h h' a i (.int x) → Arl Z h' a .int ((xs.set i x).map .int) → Ends p e s below R Q T' (mkF m pc' ls st)) : Ends p e s below R Q T (mkF m pc ls (.int x :: .int j :: .ref a :: st)) := by
  subst hp
  have A' := A
  obtain ⟨cl, Ar, hs, hl⟩ := A
  have hz : cl.slots.size = xs.length := by rw [← Array.length_toList, hs, List.length_map]
  obtain ⟨T', h', X', e', W', q⟩ := stI X k.1 k.2.1 e0 Ar (j := j) (x := x) (inb hj (hz ▸ hi)) (g := mkF m pc ls (.int x :: .int j :: .ref a :: st)) rfl rfl (hb k.2.2.1 hd)
  rw [tnc hj] at X' W'
  exact (g T' h' X' e' W' (by rw [List.map_set]; exact A'.same W')).map q
theorem bastore (k : K p s m meth c Z y cd ml ret) (X : Stand p l e R s m args below meth c T locs cells slots) {xs : List Int32} {a : Addr} {j x : Int32} (hd : decode cd pc = .ok (.bastore, 1)) (e0 : T.heap = h) (A : Arl Z h a .byte (xs.map .int)) (i : Nat) (hj : j.toInt = i) (hi : i < xs.length) (x' : Int32) (hx' : x.toInt8.toInt32 = x') (pc' : Nat) (hp : pc + 1 = pc')
    (g : ∀ (T' : State) (h' : Heap), Stand p l e R s m args below meth c T' (locs ++ [⟨a, i⟩]) cells slots → T'.heap = h' → Wr h h' a i (.int x') → Arl Z h' a .byte ((xs.set i x').map .int) → Ends p e s below R Q T' (mkF m pc' ls st)) : Ends p e s below R Q T (mkF m pc ls (.int x :: .int j :: .ref a :: st)) := by
  subst hp hx'
  have A' := A
  obtain ⟨cl, Ar, hs, hl⟩ := A
  have hz : cl.slots.size = xs.length := by rw [← Array.length_toList, hs, List.length_map]
  obtain ⟨T', h', X', e', W', q⟩ := stB X k.1 k.2.1 e0 Ar (j := j) (x := x) (inb hj (hz ▸ hi)) (g := mkF m pc ls (.int x :: .int j :: .ref a :: st)) rfl rfl (hb k.2.2.1 hd)
  rw [tnc hj] at X' W'
  exact (g T' h' X' e' W' (by rw [List.map_set]; exact A'.same W')).map q
theorem newarray (k : K p s m meth c Z y cd ml ret) (X : Stand p l e R s m args below meth c T locs cells slots) {aty : ArrayType} {n : Int32} (hd : decode cd pc = .ok (.newarray aty, 2)) (wa : (Jvm.Cond.arrayClass (newarray.typeOf aty)).before a0 Z = true) (e0 : T.heap = h) (i : Nat) (hn : n.toInt = i) (cap : Nat) (hcap : i ≤ cap) (hb8 : cap * 8 ≤ 536870912) (hc : cells + 1 ≤ R.cells) (hs : slots + cap ≤ R.slots) (pc' : Nat) (hp : pc + 2 = pc')
    (g : ∀ (T' : State) (h' : Heap) (a : Addr), a = h.size → Stand p l e R s m args below meth c T' locs (cells + 1) (slots + cap) → T'.heap = h' → Ext h h' → Arl Z h' a (newarray.typeOf aty) (List.replicate i (defaultValue (newarray.typeOf aty))) → Ends p e s below R Q T' (mkF m pc' ls (.ref a :: st))) : Ends p e s below R Q T (mkF m pc ls (.int n :: st)) := by
  subst hp
  have h0 : ¬ n < 0 := by rw [Int32.lt_iff_toInt_lt]; have e0 : (0 : Int32).toInt = 0 := rfl; omega
  obtain ⟨T', h', cA, X', e', E', A', q⟩ := newP X k.1 k.2.1 wa e0 (g := mkF m pc ls (.int n :: st)) rfl (hb k.2.2.1 hd) rfl h0 (cap := cap) (by rw [tnc hn]; exact hcap) hb8 hc hs
  refine (g T' h' h.size rfl X' e' E' ⟨_, A', ?_, ?_⟩).map q
  · simp [newA, tnc hn]
  · rw [List.length_replicate]; omega
/-! calls, by the callee's contract -/
theorem callS (k : K p s m meth c Z y cd ml ret) (X : Stand p l e R s m args below meth c T locs cells slots) {y' : MethodName} {cd' : ByteArray} {ml' : Nat} {ret' : Option FieldType} {rm' : Room} {Qc : Option Value → Heap → List Loc → Prop} {idx : Nat} {ps : List FieldType} {rt : Option FieldType} (as : List Value) (rest : List Value) (hd : decode cd pc = .ok (.invokestatic idx, 3)) (M : Met l y' cd' ml' ret' rm' as.toArray Z h Qc []) (e0 : T.heap = h)
    (w1 : (Jvm.Cond.methodLink y.cls idx y').before a0 Z = true) (w2 : (Jvm.Cond.static y').before a0 Z = true) (w3 : (Jvm.Cond.initialized y'.cls).before a0 Z = true) (w4 : (Jvm.Cond.code y' cd' ml' ret').before a0 Z = true) (hy : y'.cls ≠ "java/lang/invoke/MethodHandle" ∧ y'.cls ≠ "java/lang/invoke/VarHandle") (hsz : ls.size = ml) (hlen : parseMethodDescriptor y'.desc = some ⟨ps, rt⟩) (hl2 : as.length = ps.length) (hst : st = as.reverse ++ rest)
    (hf : rm'.frames + 1 ≤ R.frames) (hlo : (rest.map fun v => v.category).sum + (ml' + 11) + rm'.locals ≤ R.locals) (hc : cells + rm'.cells ≤ R.cells) (hs : slots + rm'.slots ≤ R.slots) (pc' : Nat) (hp : pc + 3 = pc')
    (g : ∀ (T' : State) (v : Option Value) (L : List Loc), Stand p l e R s m args below meth c T' (locs ++ L) (cells + rm'.cells) (slots + rm'.slots) → Qc v T'.heap L → Ends p e s below R Q T' (mkF m pc' ls (v.toList ++ rest))) : Ends p e s below R Q T (mkF m pc ls st) := by
  subst hp hst
  obtain ⟨v, _, ⟨T', L', c', n'⟩, -, X', ⟨Lc, hQ, q1, q2, q3⟩, q⟩ := Jvm.LawKit.callS X k.1 (y := y') k.2.2.2.2.1 (mvT k.2.1 w1) (mvT k.2.1 w2) (mvT k.2.1 w3) (mvT k.2.1 w4) hy (backOf (W := (rest.map fun v => v.category).sum) M k.2.1 w4 w3 hf hlo) (g := mkF m pc ls (as.reverse ++ rest)) rfl (hsz.trans k.2.2.2.1.symm) (argsL := as) (rest := rest) (lenOf hlen hl2) rfl (by show 2 * 0 + _ ≤ _; rw [Nat.mul_zero, Nat.zero_add]; exact Nat.le_refl _) (hb k.2.2.1 hd) (fun _ _ => ⟨rfl, e0, hc, hs⟩)
  dsimp only [Pt.U, Pt.locs, Pt.cells, Pt.slots] at X' q1 q2 q3 q hQ
  subst q1 q2 q3
  exact (g T' v Lc X' hQ).map q
theorem callI (k : K p s m meth c Z y cd ml ret) (X : Stand p l e R s m args below meth c T locs cells slots) {y' : MethodName} {cd' : ByteArray} {ml' : Nat} {rm' : Room} {Qc : Option Value → Heap → List Loc → Prop} {idx : Nat} {ps : List FieldType} {rt : Option FieldType} {a : Addr} (as : List Value) (rest : List Value) (hd : decode cd pc = .ok (.invokespecial idx, 3)) (M : Met l y' cd' ml' none rm' (.ref a :: as).toArray Z h Qc []) (e0 : T.heap = h) (hin : y'.name = "<init>")
    (w1 : (Jvm.Cond.methodLink y.cls idx y').before a0 Z = true) (w2 : (Jvm.Cond.instanceMethod y').before a0 Z = true) (w3 : (Jvm.Cond.initialized y'.cls).before a0 Z = true) (w4 : (Jvm.Cond.code y' cd' ml' none).before a0 Z = true) (hy : y'.cls ≠ "java/lang/invoke/MethodHandle" ∧ y'.cls ≠ "java/lang/invoke/VarHandle") (hsz : ls.size = ml) (hlen : parseMethodDescriptor y'.desc = some ⟨ps, rt⟩) (hl2 : as.length = ps.length) (hst : st = as.reverse ++ .ref a :: rest)
    (hf : rm'.frames + 1 ≤ R.frames) (hlo : (rest.map fun v => v.category).sum + (ml' + 11) + rm'.locals ≤ R.locals) (hc : cells + rm'.cells ≤ R.cells) (hs : slots + rm'.slots ≤ R.slots) (pc' : Nat) (hp : pc + 3 = pc')
    (g : ∀ (T' : State) (v : Option Value) (L : List Loc), Stand p l e R s m args below meth c T' (locs ++ L) (cells + rm'.cells) (slots + rm'.slots) → Qc v T'.heap L → Ends p e s below R Q T' (mkF m pc' ls (v.toList ++ rest))) : Ends p e s below R Q T (mkF m pc ls st) := by
  subst hp hst
  obtain ⟨v, _, ⟨T', L', c', n'⟩, -, X', ⟨Lc, hQ, q1, q2, q3⟩, q⟩ := X.specialBack k.1 (y := y') hin k.2.2.2.2.1 (mvT k.2.1 w1) (mvT k.2.1 w2) (mvT k.2.1 w4) hy (backOf (W := (rest.map fun v => v.category).sum) M k.2.1 w4 w3 hf hlo) (g := mkF m pc ls (as.reverse ++ .ref a :: rest)) rfl (hsz.trans k.2.2.2.1.symm) (Steps.refl _) (a := a) (argsL := as) (rest := rest) (lenOf hlen hl2) rfl (by show 2 * 0 + _ ≤ _; rw [Nat.mul_zero, Nat.zero_add]; exact Nat.le_refl _) (hb k.2.2.1 hd) (fun _ _ => ⟨rfl, e0, hc, hs⟩)
  dsimp only [Pt.U, Pt.locs, Pt.cells, Pt.slots] at X' q1 q2 q3 q hQ
  subst q1 q2 q3
  exact (g T' v Lc X' hQ).map fun _ r => q.trans r
theorem callV (k : K p s m meth c Z y cd ml ret) (X : Stand p l e R s m args below meth c T locs cells slots) {y' : MethodName} {cd' : ByteArray} {ml' : Nat} {ret' : Option FieldType} {rm' : Room} {Qc : Option Value → Heap → List Loc → Prop} {idx : Nat} {ps : List FieldType} {rt : Option FieldType} {a : Addr} (as : List Value) (rest : List Value) (hd : decode cd pc = .ok (.invokevirtual idx, 3)) (M : Met l y' cd' ml' ret' rm' (.ref a :: as).toArray Z h Qc []) (e0 : T.heap = h) (E : Exa Z h a y'.cls)
    (w1 : (Jvm.Cond.methodLink y.cls idx y').before a0 Z = true) (w0 : (Jvm.Cond.declares y').before a0 Z = true) (ws : (Jvm.Cond.selects y'.cls y' y').before a0 Z = true) (w2 : (Jvm.Cond.instanceMethod y').before a0 Z = true) (w3 : (Jvm.Cond.initialized y'.cls).before a0 Z = true) (w4 : (Jvm.Cond.code y' cd' ml' ret').before a0 Z = true) (hy : y'.cls ≠ "java/lang/invoke/MethodHandle" ∧ y'.cls ≠ "java/lang/invoke/VarHandle") (hsz : ls.size = ml) (hlen : parseMethodDescriptor y'.desc = some ⟨ps, rt⟩) (hl2 : as.length = ps.length) (hst : st = as.reverse ++ .ref a :: rest)
    (hf : rm'.frames + 1 ≤ R.frames) (hlo : (rest.map fun v => v.category).sum + (ml' + 11) + rm'.locals ≤ R.locals) (hc : cells + rm'.cells ≤ R.cells) (hs : slots + rm'.slots ≤ R.slots) (pc' : Nat) (hp : pc + 3 = pc')
    (g : ∀ (T' : State) (v : Option Value) (L : List Loc), Stand p l e R s m args below meth c T' (locs ++ L) (cells + rm'.cells) (slots + rm'.slots) → Qc v T'.heap L → Ends p e s below R Q T' (mkF m pc' ls (v.toList ++ rest))) : Ends p e s below R Q T (mkF m pc ls st) := by
  subst hp hst
  obtain ⟨cq, kq, qa, qb, qc⟩ := isOf k.2.1 e0 E
  obtain ⟨v, _, ⟨T', L', c', n'⟩, -, X', ⟨Lc, hQ, q1, q2, q3⟩, q⟩ := X.virtualBack k.1 (y := y') (z := y') k.2.2.2.2.1 (mvT k.2.1 w1) (mvT k.2.1 w0) (notFace_of_selects (args := #[]) (mvT k.2.1 ws)) (mvT k.2.1 ws) (mvT k.2.1 w2) hy (backOf (W := (rest.map fun v => v.category).sum) M k.2.1 w4 w3 hf hlo) qa qc (g := mkF m pc ls (as.reverse ++ .ref a :: rest)) rfl (hsz.trans k.2.2.2.1.symm) (Steps.refl _) (argsL := as) (rest := rest) (lenOf hlen hl2) rfl (by show 2 * 0 + _ ≤ _; rw [Nat.mul_zero, Nat.zero_add]; exact Nat.le_refl _) (hb k.2.2.1 hd) (fun _ _ => ⟨rfl, e0, hc, hs⟩)
  dsimp only [Pt.U, Pt.locs, Pt.cells, Pt.slots] at X' q1 q2 q3 q hQ
  subst q1 q2 q3
  exact (g T' v Lc X' hQ).map fun _ r => q.trans r
theorem callP (k : K p s m meth c Z y cd ml ret) (X : Stand p l e R s m args below meth c T locs cells slots) {y' : MethodName} {cd' : ByteArray} {ml' : Nat} {ret' : Option FieldType} {rm' : Room} {Qc : Option Value → Heap → List Loc → Prop} {idx : Nat} {ps : List FieldType} {rt : Option FieldType} {a : Addr} {C : String} {ni : Nat} (as : List Value) (rest : List Value) (hd : decode cd pc = .ok (.invokevirtual idx, 3)) (M : Met l y' cd' ml' ret' rm' (.ref a :: as).toArray Z h Qc []) (e0 : T.heap = h) (E : Exa Z h a C)
    (w1 : (Jvm.Cond.methodLink y.cls idx y').before a0 Z = true) (w0 : (Jvm.Cond.privateMethod y').before a0 Z = true) (wi : (Jvm.Cond.instantiable y'.cls ni).before a0 Z = true) (w2 : (Jvm.Cond.instanceMethod y').before a0 Z = true) (w3 : (Jvm.Cond.initialized y'.cls).before a0 Z = true) (w4 : (Jvm.Cond.code y' cd' ml' ret').before a0 Z = true) (hy : y'.cls ≠ "java/lang/invoke/MethodHandle" ∧ y'.cls ≠ "java/lang/invoke/VarHandle") (hsz : ls.size = ml) (hlen : parseMethodDescriptor y'.desc = some ⟨ps, rt⟩) (hl2 : as.length = ps.length) (hst : st = as.reverse ++ .ref a :: rest)
    (hf : rm'.frames + 1 ≤ R.frames) (hlo : (rest.map fun v => v.category).sum + (ml' + 11) + rm'.locals ≤ R.locals) (hc : cells + rm'.cells ≤ R.cells) (hs : slots + rm'.slots ≤ R.slots) (pc' : Nat) (hp : pc + 3 = pc')
    (g : ∀ (T' : State) (v : Option Value) (L : List Loc), Stand p l e R s m args below meth c T' (locs ++ L) (cells + rm'.cells) (slots + rm'.slots) → Qc v T'.heap L → Ends p e s below R Q T' (mkF m pc' ls (v.toList ++ rest))) : Ends p e s below R Q T (mkF m pc ls st) := by
  subst hp hst
  obtain ⟨cq, qa, qb⟩ := E.cell
  obtain ⟨ci, ki, i1, i2, -, i4, -, -⟩ := Cond.instantiable_spec wi
  have ws := Jvm.Stand.selects_self_of_private (args := a0) i1 i2 (Bool.or_eq_false_iff.mp i4).1 (Cond.privateMethod_at w0) w2 hy
  obtain ⟨v, _, ⟨T', L', c', n'⟩, -, X', ⟨Lc, hQ, q1, q2, q3⟩, q⟩ := X.privateBack k.1 (y := y') k.2.2.2.2.1 (mvT k.2.1 w1) (mvT k.2.1 w2) (mvT k.2.1 ws) (Cond.privateMethod_at (mvP k.2.1 w0 (args := #[]))) (mvT k.2.1 w4) hy (backOf (W := (rest.map fun v => v.category).sum) M k.2.1 w4 w3 hf hlo) (g := mkF m pc ls (as.reverse ++ .ref a :: rest)) rfl (hsz.trans k.2.2.2.1.symm) (Steps.refl _) (a := a) (by rw [e0]; exact qa) qb (argsL := as) (rest := rest) (lenOf hlen hl2) rfl (by show 2 * 0 + _ ≤ _; rw [Nat.mul_zero, Nat.zero_add]; exact Nat.le_refl _) (hb k.2.2.1 hd) (fun _ _ => ⟨rfl, e0, hc, hs⟩)
  dsimp only [Pt.U, Pt.locs, Pt.cells, Pt.slots] at X' q1 q2 q3 q hQ
  subst q1 q2 q3
  exact (g T' v Lc X' hQ).map fun _ r => q.trans r
end
end Wk
/-! own_: numbers: unsigned longs by naturals, seven bits a byte -/
def own_V (v : Int64) (k : Nat) : Int64 := Int64.ofBitVec (v.toBitVec >>> (7 * k))
def own_u (v : Int64) : Nat := v.toBitVec.toNat
theorem own_u_lt (v : Int64) : own_u v < 2 ^ 64 := v.toBitVec.isLt
theorem own_V0 (v : Int64) : own_V v 0 = v := by
  apply Int64.toBitVec_inj.mp
  show v.toBitVec >>> (7 * 0) = v.toBitVec
  simp
theorem own_sh (v : Int64) (q : Int32) (j : Nat) (hq : q.toBitVec.toNat % 64 = j) : ((v.toUInt64 >>> (q &&& 0x3f).toInt64.toUInt64).toInt64) = Int64.ofBitVec (v.toBitVec >>> j) := by
  apply Int64.toBitVec_inj.mp
  show v.toBitVec >>> ((q &&& 0x3f).toInt64.toBitVec % 64) = v.toBitVec >>> j
  have h2 := (sm64 q j hq).2
  rw [(sm64 q j hq).1, BitVec.ushiftRight_eq']
  congr 1
  rw [BitVec.toNat_umod, BitVec.toNat_ofNat]
  have : (64 : BitVec 64).toNat = 64 := rfl
  rw [this]; omega
theorem own_Vs (v : Int64) (k : Nat) : (((own_V v k).toUInt64 >>> ((7 : Int32) &&& 0x3f).toInt64.toUInt64).toInt64) = own_V v (k + 1) := by
  rw [own_sh (own_V v k) 7 7 (by decide)]
  apply Int64.toBitVec_inj.mp
  show v.toBitVec >>> (7 * k) >>> 7 = v.toBitVec >>> (7 * (k + 1))
  rw [← BitVec.shiftRight_add]; rfl
theorem own_u_sh (v : Int64) (j : Nat) : own_u (Int64.ofBitVec (v.toBitVec >>> j)) = own_u v / 2 ^ j := by
  show (v.toBitVec >>> j).toNat = _
  rw [BitVec.toNat_ushiftRight, Nat.shiftRight_eq_div_pow]; rfl
theorem own_u_V (v : Int64) (k : Nat) : own_u (own_V v k) = own_u v / 2 ^ (7 * k) := own_u_sh v (7 * k)
theorem own_u0 (v : Int64) : v = 0 ↔ own_u v = 0 := by
  constructor
  · intro h; rw [h]; rfl
  · intro h; apply Int64.toBitVec_inj.mp; apply BitVec.eq_of_toNat_eq; exact h
theorem own_u_and7 (v : Int64) : own_u (v &&& 127) = own_u v % 128 := by
  show (v.toBitVec &&& (127 : Int64).toBitVec).toNat = _
  rw [BitVec.toNat_and, show (127 : Int64).toBitVec.toNat = 2 ^ 7 - 1 from by decide, Nat.and_two_pow_sub_one_eq_mod]; rfl
theorem own_hiC (i : Fin 64) : ((-128 : Int64).toBitVec).getLsbD i.val = decide (7 ≤ i.val) := by revert i; decide
theorem own_u_hi (v : Int64) : own_u (v &&& (-128 : Int64)) = own_u v / 128 * 128 := by
  have key : v.toBitVec &&& (-128 : Int64).toBitVec = (v.toBitVec >>> 7) <<< 7 := by
    apply BitVec.eq_of_getLsbD_eq
    intro i hi
    rw [BitVec.getLsbD_and, own_hiC ⟨i, hi⟩, BitVec.getLsbD_shiftLeft, BitVec.getLsbD_ushiftRight]
    by_cases q : 7 ≤ i
    · have e : 7 + (i - 7) = i := by omega
      simp [q, hi, e]
    · simp [q]
  show (v.toBitVec &&& (-128 : Int64).toBitVec).toNat = v.toBitVec.toNat / 128 * 128
  rw [key, BitVec.toNat_shiftLeft, BitVec.toNat_ushiftRight, Nat.shiftRight_eq_div_pow, Nat.shiftLeft_eq]
  have := v.toBitVec.isLt
  omega
theorem own_small (v : Int64) (h : own_u v < 128) : v &&& 127 = v := by
  apply Int64.toBitVec_inj.mp; apply BitVec.eq_of_toNat_eq
  have := own_u_and7 v
  show own_u (v &&& 127) = own_u v
  omega
theorem own_tn (x : Int32) (n : Nat) (h : x.toInt = n) : x.toBitVec.toNat = n := by
  have h1 : x.toBitVec.toInt = n := h
  rw [BitVec.toInt_eq_toNat_cond] at h1
  have := x.toBitVec.isLt
  split at h1 <;> omega
theorem own_b8 (y : Int32) : (y.toInt8.toInt32).toInt8.toInt32 = y.toInt8.toInt32 := by rw [Int8.toInt8_toInt32]
/-- the byte with its top bit set, the last byte -/
def own_cb (v : Int64) (k : Nat) : Int32 := ((((own_V v k) &&& (127 : Int64)) ||| (128 : Int64)).toInt32).toInt8.toInt32
def own_lb (v : Int64) (k : Nat) : Int32 := ((own_V v k).toInt32).toInt8.toInt32
def own_fill (xs : List Int32) (v : Int64) (a : Nat) : Nat → List Int32
  | 0 => xs
  | k + 1 => (own_fill xs v a k).set (a + k) (own_cb v k)
theorem own_fill_len (xs : List Int32) (v : Int64) (a k : Nat) : (own_fill xs v a k).length = xs.length := by
  induction k with
  | zero => rfl
  | succ k ih => simp [own_fill, ih]
theorem own_fill_get (xs : List Int32) (v : Int64) (a : Nat) (j : Nat) (hj : j < xs.length) : ∀ k, (own_fill xs v a k)[j]? = if a ≤ j ∧ j < a + k then some (own_cb v (j - a)) else xs[j]?
  | 0 => by rw [if_neg (by omega)]; rfl
  | k + 1 => by
    show ((own_fill xs v a k).set (a + k) (own_cb v k))[j]? = _
    rw [List.getElem?_set, own_fill_len, own_fill_get xs v a j hj k]
    by_cases q : a + k = j
    · subst q
      rw [if_pos rfl, if_pos hj, if_pos (by omega)]
      congr 2; omega
    · rw [if_neg q]
      by_cases r : a ≤ j ∧ j < a + k
      · rw [if_pos r, if_pos (by omega)]
      · rw [if_neg r, if_neg (by omega)]
/-- the bytes when all n are written -/
def own_done (xs : List Int32) (v : Int64) (a n : Nat) : List Int32 := (own_fill xs v a (n - 1)).set (a + (n - 1)) (own_lb v (n - 1))
theorem own_done_len (xs : List Int32) (v : Int64) (a n : Nat) : (own_done xs v a n).length = xs.length := by simp [own_done, own_fill_len]
theorem own_done_get (xs : List Int32) (v : Int64) (a n : Nat) (hn : 1 ≤ n) (j : Nat) (hj : j < xs.length) : (own_done xs v a n)[j]? = if a ≤ j ∧ j < a + n then some (if j - a < n - 1 then own_cb v (j - a) else own_lb v (j - a)) else xs[j]? := by
  rw [own_done, List.getElem?_set, own_fill_len, own_fill_get xs v a j hj]
  by_cases q : a + (n - 1) = j
  · subst q
    rw [if_pos rfl, if_pos hj, if_pos (by omega), if_neg (by omega)]
    congr 2; omega
  · rw [if_neg q]
    by_cases r : a ≤ j ∧ j < a + (n - 1)
    · rw [if_pos r, if_pos (by omega), if_pos (by omega)]
    · rw [if_neg r, if_neg (by omega)]
/-- how many bytes -/
def own_n (w : Nat) : Nat := if 2 ^ 63 ≤ w then 10 else if 2 ^ 56 ≤ w then 9 else if 2 ^ 49 ≤ w then 8 else if 2 ^ 42 ≤ w then 7 else if 2 ^ 35 ≤ w then 6 else if 2 ^ 28 ≤ w then 5 else if 2 ^ 21 ≤ w then 4 else if 2 ^ 14 ≤ w then 3 else if 2 ^ 7 ≤ w then 2 else 1
theorem own_n_spec (w : Nat) (hw : w < 2 ^ 64) : 1 ≤ own_n w ∧ own_n w ≤ 10 ∧ w < 2 ^ (7 * own_n w) ∧ (own_n w = 1 ∨ 2 ^ (7 * (own_n w - 1)) ≤ w) := by
  unfold own_n
  repeat' split
  all_goals (refine ⟨by decide, by decide, ?_, ?_⟩ <;> omega)
theorem own_more {w n k : Nat} (h : n = 1 ∨ 2 ^ (7 * (n - 1)) ≤ w) (hk : k + 1 < n) : 128 ≤ w / 2 ^ (7 * k) := by
  rcases h with h | h
  · omega
  · have e : 2 ^ (7 * (n - 1)) = 2 ^ (7 * (n - 1 - k)) * 2 ^ (7 * k) := by rw [← Nat.pow_add]; congr 1; omega
    have p : 0 < 2 ^ (7 * k) := Nat.two_pow_pos _
    have q : 2 ^ 7 ≤ 2 ^ (7 * (n - 1 - k)) := Nat.pow_le_pow_right (by decide) (by omega)
    rw [Nat.le_div_iff_mul_le p]
    calc 128 * 2 ^ (7 * k) ≤ 2 ^ (7 * (n - 1 - k)) * 2 ^ (7 * k) := Nat.mul_le_mul_right _ q
      _ = 2 ^ (7 * (n - 1)) := e.symm
      _ ≤ w := h
theorem own_last {w n k : Nat} (h : w < 2 ^ (7 * n)) (hk : k + 1 = n) : w / 2 ^ (7 * k) < 128 := by
  subst hk
  rw [Nat.div_lt_iff_lt_mul (Nat.two_pow_pos _)]
  calc w < 2 ^ (7 * (k + 1)) := h
    _ = 128 * 2 ^ (7 * k) := by rw [Nat.mul_add, Nat.pow_add, Nat.mul_comm]
theorem own_go {v : Int64} {n k : Nat} (h : n = 1 ∨ 2 ^ (7 * (n - 1)) ≤ own_u v) (hk : k + 1 < n) : ¬ (own_V v k &&& (-128 : Int64)) = 0 := by
  rw [own_u0, own_u_hi, own_u_V]
  have := own_more h hk
  omega
theorem own_stop {v : Int64} {n k : Nat} (h : own_u v < 2 ^ (7 * n)) (hk : k + 1 = n) : (own_V v k &&& (-128 : Int64)) = 0 := by
  rw [own_u0, own_u_hi, own_u_V]
  have := own_last h hk
  omega
theorem own_inc {i : Int32} {a : Nat} (h : i.toInt = a) (ha : a < 1000) : (i + (1 : Int32)).toInt = ((a + 1 : Nat) : Int) := by
  have h1 := c_iadd i 1
  have h2 := rng32 (i + 1)
  have h3 : (1 : Int32).toInt = 1 := rfl
  omega

theorem d_Varints_put_0 : decode prog_97_method_3_code 0 = .ok (.iload_n 1, 1) := by decide +kernel
theorem d_Varints_put_1 : decode prog_97_method_3_code 1 = .ok (.istore 4, 2) := by decide +kernel
theorem d_Varints_put_3 : decode prog_97_method_3_code 3 = .ok (.lload_n 2, 1) := by decide +kernel
theorem d_Varints_put_4 : decode prog_97_method_3_code 4 = .ok (.lstore 5, 2) := by decide +kernel
theorem d_Varints_put_6 : decode prog_97_method_3_code 6 = .ok (.lload 5, 2) := by decide +kernel
theorem d_Varints_put_8 : decode prog_97_method_3_code 8 = .ok (.ldc2_w 7, 3) := by decide +kernel
theorem d_Varints_put_11 : decode prog_97_method_3_code 11 = .ok (.land, 1) := by decide +kernel
theorem d_Varints_put_12 : decode prog_97_method_3_code 12 = .ok (.lconst 0, 1) := by decide +kernel
theorem d_Varints_put_13 : decode prog_97_method_3_code 13 = .ok (.lcmp, 1) := by decide +kernel
theorem d_Varints_put_14 : decode prog_97_method_3_code 14 = .ok (.ifCond .eq 32, 3) := by decide +kernel
theorem d_Varints_put_17 : decode prog_97_method_3_code 17 = .ok (.aload_n 0, 1) := by decide +kernel
theorem d_Varints_put_18 : decode prog_97_method_3_code 18 = .ok (.iload 4, 2) := by decide +kernel
theorem d_Varints_put_20 : decode prog_97_method_3_code 20 = .ok (.iinc 4 1, 3) := by decide +kernel
theorem d_Varints_put_23 : decode prog_97_method_3_code 23 = .ok (.lload 5, 2) := by decide +kernel
theorem d_Varints_put_25 : decode prog_97_method_3_code 25 = .ok (.ldc2_w 9, 3) := by decide +kernel
theorem d_Varints_put_28 : decode prog_97_method_3_code 28 = .ok (.land, 1) := by decide +kernel
theorem d_Varints_put_29 : decode prog_97_method_3_code 29 = .ok (.ldc2_w 11, 3) := by decide +kernel
theorem d_Varints_put_32 : decode prog_97_method_3_code 32 = .ok (.lor, 1) := by decide +kernel
theorem d_Varints_put_33 : decode prog_97_method_3_code 33 = .ok (.l2i, 1) := by decide +kernel
theorem d_Varints_put_34 : decode prog_97_method_3_code 34 = .ok (.i2b, 1) := by decide +kernel
theorem d_Varints_put_35 : decode prog_97_method_3_code 35 = .ok (.bastore, 1) := by decide +kernel
theorem d_Varints_put_36 : decode prog_97_method_3_code 36 = .ok (.lload 5, 2) := by decide +kernel
theorem d_Varints_put_38 : decode prog_97_method_3_code 38 = .ok (.bipush 7, 2) := by decide +kernel
theorem d_Varints_put_40 : decode prog_97_method_3_code 40 = .ok (.lushr, 1) := by decide +kernel
theorem d_Varints_put_41 : decode prog_97_method_3_code 41 = .ok (.lstore 5, 2) := by decide +kernel
theorem d_Varints_put_43 : decode prog_97_method_3_code 43 = .ok (.goto (-37), 3) := by decide +kernel
theorem d_Varints_put_46 : decode prog_97_method_3_code 46 = .ok (.aload_n 0, 1) := by decide +kernel
theorem d_Varints_put_47 : decode prog_97_method_3_code 47 = .ok (.iload 4, 2) := by decide +kernel
theorem d_Varints_put_49 : decode prog_97_method_3_code 49 = .ok (.iinc 4 1, 3) := by decide +kernel
theorem d_Varints_put_52 : decode prog_97_method_3_code 52 = .ok (.lload 5, 2) := by decide +kernel
theorem d_Varints_put_54 : decode prog_97_method_3_code 54 = .ok (.l2i, 1) := by decide +kernel
theorem d_Varints_put_55 : decode prog_97_method_3_code 55 = .ok (.i2b, 1) := by decide +kernel
theorem d_Varints_put_56 : decode prog_97_method_3_code 56 = .ok (.bastore, 1) := by decide +kernel
theorem d_Varints_put_57 : decode prog_97_method_3_code 57 = .ok (.iload 4, 2) := by decide +kernel
theorem d_Varints_put_59 : decode prog_97_method_3_code 59 = .ok (.ireturn, 1) := by decide +kernel
theorem pn_Varints_put : plainFor (⟨"com/example/lestr/lestr/stream/Varints", "put", "([BIJ)I"⟩ : MethodName) = true := plainFor_of_name (by first | (simp [plainName, overriddenIn, x]; done) | decide +kernel)
theorem pd_Varints_put : parseMethodDescriptor "([BIJ)I" = some ⟨[(.array .byte), .int, .long], (some .int)⟩ := by decide +kernel
def own_putQ (Z : State) (h0 : Heap) (n0 : Nat) (a : Addr) (v : Int64) (aa n : Nat) (xs : List Int32) (r : Option Value) (h : Heap) (L : List Loc) : Prop := ∃ z : Int32, r = some (.int z) ∧ z.toInt = ((aa + n : Nat) : Int) ∧ Fr n0 L ∧ Keep h0 h [a] ∧ Wk.Arl Z h a .byte ((own_done xs v aa n).map Value.int)
set_option maxRecDepth 65536 in
set_option maxHeartbeats 40000000 in
theorem put_6 {p : Program} {l : Launch} {e : Env} {s : State} {m : MethodId} {args : Array Value} {below : List Frame} {meth : Method} {c : Code} {Z : State} {a0 : Array Value} {h0 : Heap} {n0 : Nat} (hw : ∀ d ∈ tables_1, d.before a0 Z = true) (k : Wk.K p s m meth c Z (⟨"com/example/lestr/lestr/stream/Varints", "put", "([BIJ)I"⟩ : MethodName) prog_97_method_3_code 7 (some .int)) (a : Addr) (at0 : Int32) (v : Int64) (aa n : Nat) (xs : List Int32) (hn1 : own_u v < 2 ^ (7 * n)) (hn2 : n = 1 ∨ 2 ^ (7 * (n - 1)) ≤ own_u v) (hlen : aa + n ≤ xs.length) (hsm : aa + n < 1000) (g1 : n0 ≤ a) :
    ∀ (d kk : Nat), kk + d + 1 = n → ∀ (T0 : State) (h1 : Heap) (locs : List Loc) (i4 : Int32), Stand p l e ({ frames := 0, cells := 0, slots := 0, locals := 0 } : Room) s m args below meth c T0 locs 0 0 → T0.heap = h1 → Keep h0 h1 [a] → Fr n0 locs → i4.toInt = ((aa + kk : Nat) : Int) → Wk.Arl Z h1 a .byte ((own_fill xs v aa kk).map Value.int) →
      Wk.Ends p e s below ({ frames := 0, cells := 0, slots := 0, locals := 0 } : Room) (own_putQ Z h0 n0 a v aa n xs) T0 (mkF m 6 #[.val (.ref a), .val (.int at0), .val (.long v), .second, .val (.int i4), .val (.long (own_V v kk)), .second] []) := by
  intro d
  induction d with
  | zero =>
    intro kk hd T0 h1 locs i4 X0 e0 K1 N1 hi A1
    obtain rfl : n = kk + 1 := by omega
    refine Wk.lload k X0 d_Varints_put_6 rfl 8 rfl ?_
    refine Wk.ldc2_w k X0 (z := (-128 : Int64)) d_Varints_put_8 (Wk.w hw 5 rfl) 11 rfl ?_
    refine Wk.land k X0 d_Varints_put_11 12 rfl ?_
    refine Wk.lconst k X0 d_Varints_put_12 (0 : Int64) rfl 13 rfl ?_
    refine Wk.lcmp_eq k X0 d_Varints_put_13 14 rfl d_Varints_put_14 (by decide) 46 17 (by decide) rfl (fun hc14 => ?_) (fun hc14 => ?_)
    · refine Wk.aload_n k X0 d_Varints_put_46 rfl rfl 47 rfl ?_
      refine Wk.iload k X0 d_Varints_put_47 rfl 49 rfl ?_
      refine Wk.iinc k X0 d_Varints_put_49 rfl #[.val (.ref a), .val (.int at0), .val (.long v), .second, .val (.int (i4 + (1 : Int32))), .val (.long (own_V v kk)), .second] rfl 52 rfl ?_
      refine Wk.lload k X0 d_Varints_put_52 rfl 54 rfl ?_
      refine Wk.l2i k X0 d_Varints_put_54 55 rfl ?_
      refine Wk.i2b k X0 d_Varints_put_55 56 rfl ?_
      refine Wk.bastore k X0 (x := (((((own_V v kk)).toInt32)).toInt8.toInt32)) d_Varints_put_56 e0 A1 (aa + kk) hi (by rw [own_fill_len]; omega) (((((own_V v kk)).toInt32)).toInt8.toInt32) (own_b8 _) 57 rfl fun T101 h101 X101 e101 W101 A101 => ?_
      have N102 := Fr.snoc X101 N1 g1
      have K2 := K1.wr W101 (Or.inl (List.mem_of_getElem? (i := 0) rfl))
      refine Wk.iload k X101 d_Varints_put_57 rfl 59 rfl ?_
      refine Wk.ret_int k X101 rfl d_Varints_put_59 (by decide) (by decide) ?_
      rw [e101]
      exact ⟨_, rfl, by rw [own_inc hi (by omega)]; omega, N102, K2, A101⟩
    · exact absurd (own_stop hn1 rfl) hc14
  | succ d ih =>
    intro kk hd T0 h1 locs i4 X0 e0 K1 N1 hi A1
    refine Wk.lload k X0 d_Varints_put_6 rfl 8 rfl ?_
    refine Wk.ldc2_w k X0 (z := (-128 : Int64)) d_Varints_put_8 (Wk.w hw 5 rfl) 11 rfl ?_
    refine Wk.land k X0 d_Varints_put_11 12 rfl ?_
    refine Wk.lconst k X0 d_Varints_put_12 (0 : Int64) rfl 13 rfl ?_
    refine Wk.lcmp_eq k X0 d_Varints_put_13 14 rfl d_Varints_put_14 (by decide) 46 17 (by decide) rfl (fun hc14 => ?_) (fun hc14 => ?_)
    · exact absurd hc14 (own_go hn2 (by omega))
    · refine Wk.aload_n k X0 d_Varints_put_17 rfl rfl 18 rfl ?_
      refine Wk.iload k X0 d_Varints_put_18 rfl 20 rfl ?_
      refine Wk.iinc k X0 d_Varints_put_20 rfl #[.val (.ref a), .val (.int at0), .val (.long v), .second, .val (.int (i4 + (1 : Int32))), .val (.long (own_V v kk)), .second] rfl 23 rfl ?_
      refine Wk.lload k X0 d_Varints_put_23 rfl 25 rfl ?_
      refine Wk.ldc2_w k X0 (z := (127 : Int64)) d_Varints_put_25 (Wk.w hw 14 rfl) 28 rfl ?_
      refine Wk.land k X0 d_Varints_put_28 29 rfl ?_
      refine Wk.ldc2_w k X0 (z := (128 : Int64)) d_Varints_put_29 (Wk.w hw 15 rfl) 32 rfl ?_
      refine Wk.lor k X0 d_Varints_put_32 33 rfl ?_
      refine Wk.l2i k X0 d_Varints_put_33 34 rfl ?_
      refine Wk.i2b k X0 d_Varints_put_34 35 rfl ?_
      refine Wk.bastore k X0 (x := (((((((own_V v kk) &&& (127 : Int64)) ||| (128 : Int64))).toInt32)).toInt8.toInt32)) d_Varints_put_35 e0 A1 (aa + kk) hi (by rw [own_fill_len]; omega) (((((((own_V v kk) &&& (127 : Int64)) ||| (128 : Int64))).toInt32)).toInt8.toInt32) (own_b8 _) 36 rfl fun T101 h101 X101 e101 W101 A101 => ?_
      have N102 := Fr.snoc X101 N1 g1
      have K2 := K1.wr W101 (Or.inl (List.mem_of_getElem? (i := 0) rfl))
      refine Wk.lload k X101 d_Varints_put_36 rfl 38 rfl ?_
      refine Wk.bipush k X101 d_Varints_put_38 (7 : Int32) rfl 40 rfl ?_
      refine Wk.lushr k X101 d_Varints_put_40 41 rfl ?_
      refine Wk.lstore k X101 d_Varints_put_41 #[.val (.ref a), .val (.int at0), .val (.long v), .second, .val (.int (i4 + (1 : Int32))), .val (.long ((((own_V v kk)).toUInt64 >>> ((7 : Int32) &&& 0x3f).toInt64.toUInt64).toInt64)), .second] rfl 43 rfl ?_
      refine Wk.goto k X101 d_Varints_put_43 (by decide) 6 (by decide) ?_
      rw [own_Vs]
      exact ih (kk + 1) (by omega) _ _ _ _ X101 e101 K2 N102 (by rw [own_inc hi (by omega)]; omega) A101
theorem ef_put (m : MethodId) (a : Addr) (at0 : Int32) (v : Int64) : entryFrame m #[(.ref a), (.int at0), (.long v)] 7 = mkF m 0 #[.val (.ref a), .val (.int at0), .val (.long v), .second, .unset, .unset, .unset] [] := by first | (simp [entryFrame, mkF, argsToLocals, Value.category]; done) | rfl
set_option maxRecDepth 65536 in
set_option maxHeartbeats 40000000 in
theorem rm_put (l : Launch) (Z : State) (a0 : Array Value) (hw : ∀ d ∈ tables_1, d.before a0 Z = true) (a : Addr) (at0 : Int32) (v : Int64) (aa : Nat) (xs : List Int32) (h0 : Heap) (n0 : Nat) (ha : at0.toInt = ((aa : Nat) : Int)) (haa : aa ≤ 900) (hlen : aa + own_n (own_u v) ≤ xs.length) (A0 : Wk.Arl Z h0 a .byte (xs.map Value.int)) (g1 : n0 ≤ a) : Wk.Met l (⟨"com/example/lestr/lestr/stream/Varints", "put", "([BIJ)I"⟩ : MethodName) prog_97_method_3_code 7 (some .int) ({ frames := 0, cells := 0, slots := 0, locals := 0 } : Room) #[(.ref a), (.int at0), (.long v)] Z h0 (own_putQ Z h0 n0 a v aa (own_n (own_u v)) xs) [] := by
  refine Wk.enter pn_Varints_put (fun p e s m below meth c T0 k X0 e0 => ?_)
  refine (Wk.Ends.cast (ef_put m a at0 v) ?_)
  refine Wk.iload_n k X0 d_Varints_put_0 rfl 1 rfl ?_
  refine Wk.istore k X0 d_Varints_put_1 #[.val (.ref a), .val (.int at0), .val (.long v), .second, .val (.int at0), .unset, .unset] rfl 3 rfl ?_
  refine Wk.lload_n k X0 d_Varints_put_3 rfl 4 rfl ?_
  refine Wk.lstore k X0 d_Varints_put_4 #[.val (.ref a), .val (.int at0), .val (.long v), .second, .val (.int at0), .val (.long v), .second] rfl 6 rfl ?_
  have hn := own_n_spec (own_u v) (own_u_lt v)
  have q := put_6 hw k a at0 v aa _ xs hn.2.2.1 hn.2.2.2 hlen (by omega) g1 (own_n (own_u v) - 1) 0 (by omega) _ _ _ _ X0 e0 (Keep.refl _ _) (Fr.nil _) ha A0
  rw [own_V0] at q
  exact q
theorem own_t (v : Int64) (q : Int32) (j : Nat) (hq : q.toBitVec.toNat % 64 = j) : ((v.toUInt64 >>> (q &&& 0x3f).toInt64.toUInt64).toInt64) = 0 ↔ own_u v < 2 ^ j := by
  rw [own_sh v q j hq, own_u0, own_u_sh, Nat.div_eq_zero_iff]
  have := Nat.two_pow_pos j
  omega
theorem d_VarintsPutPinLaw_len_0 : decode method_2_code 0 = .ok (.lload_n 0, 1) := by decide +kernel
theorem d_VarintsPutPinLaw_len_1 : decode method_2_code 1 = .ok (.bipush 63, 2) := by decide +kernel
theorem d_VarintsPutPinLaw_len_3 : decode method_2_code 3 = .ok (.lushr, 1) := by decide +kernel
theorem d_VarintsPutPinLaw_len_4 : decode method_2_code 4 = .ok (.lconst 0, 1) := by decide +kernel
theorem d_VarintsPutPinLaw_len_5 : decode method_2_code 5 = .ok (.lcmp, 1) := by decide +kernel
theorem d_VarintsPutPinLaw_len_6 : decode method_2_code 6 = .ok (.ifCond .eq 6, 3) := by decide +kernel
theorem d_VarintsPutPinLaw_len_9 : decode method_2_code 9 = .ok (.bipush 10, 2) := by decide +kernel
theorem d_VarintsPutPinLaw_len_11 : decode method_2_code 11 = .ok (.ireturn, 1) := by decide +kernel
theorem d_VarintsPutPinLaw_len_12 : decode method_2_code 12 = .ok (.lload_n 0, 1) := by decide +kernel
theorem d_VarintsPutPinLaw_len_13 : decode method_2_code 13 = .ok (.bipush 56, 2) := by decide +kernel
theorem d_VarintsPutPinLaw_len_15 : decode method_2_code 15 = .ok (.lushr, 1) := by decide +kernel
theorem d_VarintsPutPinLaw_len_16 : decode method_2_code 16 = .ok (.lconst 0, 1) := by decide +kernel
theorem d_VarintsPutPinLaw_len_17 : decode method_2_code 17 = .ok (.lcmp, 1) := by decide +kernel
theorem d_VarintsPutPinLaw_len_18 : decode method_2_code 18 = .ok (.ifCond .eq 6, 3) := by decide +kernel
theorem d_VarintsPutPinLaw_len_21 : decode method_2_code 21 = .ok (.bipush 9, 2) := by decide +kernel
theorem d_VarintsPutPinLaw_len_23 : decode method_2_code 23 = .ok (.ireturn, 1) := by decide +kernel
theorem d_VarintsPutPinLaw_len_24 : decode method_2_code 24 = .ok (.lload_n 0, 1) := by decide +kernel
theorem d_VarintsPutPinLaw_len_25 : decode method_2_code 25 = .ok (.bipush 49, 2) := by decide +kernel
theorem d_VarintsPutPinLaw_len_27 : decode method_2_code 27 = .ok (.lushr, 1) := by decide +kernel
theorem d_VarintsPutPinLaw_len_28 : decode method_2_code 28 = .ok (.lconst 0, 1) := by decide +kernel
theorem d_VarintsPutPinLaw_len_29 : decode method_2_code 29 = .ok (.lcmp, 1) := by decide +kernel
theorem d_VarintsPutPinLaw_len_30 : decode method_2_code 30 = .ok (.ifCond .eq 6, 3) := by decide +kernel
theorem d_VarintsPutPinLaw_len_33 : decode method_2_code 33 = .ok (.bipush 8, 2) := by decide +kernel
theorem d_VarintsPutPinLaw_len_35 : decode method_2_code 35 = .ok (.ireturn, 1) := by decide +kernel
theorem d_VarintsPutPinLaw_len_36 : decode method_2_code 36 = .ok (.lload_n 0, 1) := by decide +kernel
theorem d_VarintsPutPinLaw_len_37 : decode method_2_code 37 = .ok (.bipush 42, 2) := by decide +kernel
theorem d_VarintsPutPinLaw_len_39 : decode method_2_code 39 = .ok (.lushr, 1) := by decide +kernel
theorem d_VarintsPutPinLaw_len_40 : decode method_2_code 40 = .ok (.lconst 0, 1) := by decide +kernel
theorem d_VarintsPutPinLaw_len_41 : decode method_2_code 41 = .ok (.lcmp, 1) := by decide +kernel
theorem d_VarintsPutPinLaw_len_42 : decode method_2_code 42 = .ok (.ifCond .eq 6, 3) := by decide +kernel
theorem d_VarintsPutPinLaw_len_45 : decode method_2_code 45 = .ok (.bipush 7, 2) := by decide +kernel
theorem d_VarintsPutPinLaw_len_47 : decode method_2_code 47 = .ok (.ireturn, 1) := by decide +kernel
theorem d_VarintsPutPinLaw_len_48 : decode method_2_code 48 = .ok (.lload_n 0, 1) := by decide +kernel
theorem d_VarintsPutPinLaw_len_49 : decode method_2_code 49 = .ok (.bipush 35, 2) := by decide +kernel
theorem d_VarintsPutPinLaw_len_51 : decode method_2_code 51 = .ok (.lushr, 1) := by decide +kernel
theorem d_VarintsPutPinLaw_len_52 : decode method_2_code 52 = .ok (.lconst 0, 1) := by decide +kernel
theorem d_VarintsPutPinLaw_len_53 : decode method_2_code 53 = .ok (.lcmp, 1) := by decide +kernel
theorem d_VarintsPutPinLaw_len_54 : decode method_2_code 54 = .ok (.ifCond .eq 6, 3) := by decide +kernel
theorem d_VarintsPutPinLaw_len_57 : decode method_2_code 57 = .ok (.bipush 6, 2) := by decide +kernel
theorem d_VarintsPutPinLaw_len_59 : decode method_2_code 59 = .ok (.ireturn, 1) := by decide +kernel
theorem d_VarintsPutPinLaw_len_60 : decode method_2_code 60 = .ok (.lload_n 0, 1) := by decide +kernel
theorem d_VarintsPutPinLaw_len_61 : decode method_2_code 61 = .ok (.bipush 28, 2) := by decide +kernel
theorem d_VarintsPutPinLaw_len_63 : decode method_2_code 63 = .ok (.lushr, 1) := by decide +kernel
theorem d_VarintsPutPinLaw_len_64 : decode method_2_code 64 = .ok (.lconst 0, 1) := by decide +kernel
theorem d_VarintsPutPinLaw_len_65 : decode method_2_code 65 = .ok (.lcmp, 1) := by decide +kernel
theorem d_VarintsPutPinLaw_len_66 : decode method_2_code 66 = .ok (.ifCond .eq 5, 3) := by decide +kernel
theorem d_VarintsPutPinLaw_len_69 : decode method_2_code 69 = .ok (.iconst 5, 1) := by decide +kernel
theorem d_VarintsPutPinLaw_len_70 : decode method_2_code 70 = .ok (.ireturn, 1) := by decide +kernel
theorem d_VarintsPutPinLaw_len_71 : decode method_2_code 71 = .ok (.lload_n 0, 1) := by decide +kernel
theorem d_VarintsPutPinLaw_len_72 : decode method_2_code 72 = .ok (.bipush 21, 2) := by decide +kernel
theorem d_VarintsPutPinLaw_len_74 : decode method_2_code 74 = .ok (.lushr, 1) := by decide +kernel
theorem d_VarintsPutPinLaw_len_75 : decode method_2_code 75 = .ok (.lconst 0, 1) := by decide +kernel
theorem d_VarintsPutPinLaw_len_76 : decode method_2_code 76 = .ok (.lcmp, 1) := by decide +kernel
theorem d_VarintsPutPinLaw_len_77 : decode method_2_code 77 = .ok (.ifCond .eq 5, 3) := by decide +kernel
theorem d_VarintsPutPinLaw_len_80 : decode method_2_code 80 = .ok (.iconst 4, 1) := by decide +kernel
theorem d_VarintsPutPinLaw_len_81 : decode method_2_code 81 = .ok (.ireturn, 1) := by decide +kernel
theorem d_VarintsPutPinLaw_len_82 : decode method_2_code 82 = .ok (.lload_n 0, 1) := by decide +kernel
theorem d_VarintsPutPinLaw_len_83 : decode method_2_code 83 = .ok (.bipush 14, 2) := by decide +kernel
theorem d_VarintsPutPinLaw_len_85 : decode method_2_code 85 = .ok (.lushr, 1) := by decide +kernel
theorem d_VarintsPutPinLaw_len_86 : decode method_2_code 86 = .ok (.lconst 0, 1) := by decide +kernel
theorem d_VarintsPutPinLaw_len_87 : decode method_2_code 87 = .ok (.lcmp, 1) := by decide +kernel
theorem d_VarintsPutPinLaw_len_88 : decode method_2_code 88 = .ok (.ifCond .eq 5, 3) := by decide +kernel
theorem d_VarintsPutPinLaw_len_91 : decode method_2_code 91 = .ok (.iconst 3, 1) := by decide +kernel
theorem d_VarintsPutPinLaw_len_92 : decode method_2_code 92 = .ok (.ireturn, 1) := by decide +kernel
theorem d_VarintsPutPinLaw_len_93 : decode method_2_code 93 = .ok (.lload_n 0, 1) := by decide +kernel
theorem d_VarintsPutPinLaw_len_94 : decode method_2_code 94 = .ok (.bipush 7, 2) := by decide +kernel
theorem d_VarintsPutPinLaw_len_96 : decode method_2_code 96 = .ok (.lushr, 1) := by decide +kernel
theorem d_VarintsPutPinLaw_len_97 : decode method_2_code 97 = .ok (.lconst 0, 1) := by decide +kernel
theorem d_VarintsPutPinLaw_len_98 : decode method_2_code 98 = .ok (.lcmp, 1) := by decide +kernel
theorem d_VarintsPutPinLaw_len_99 : decode method_2_code 99 = .ok (.ifCond .eq 5, 3) := by decide +kernel
theorem d_VarintsPutPinLaw_len_102 : decode method_2_code 102 = .ok (.iconst 2, 1) := by decide +kernel
theorem d_VarintsPutPinLaw_len_103 : decode method_2_code 103 = .ok (.ireturn, 1) := by decide +kernel
theorem d_VarintsPutPinLaw_len_104 : decode method_2_code 104 = .ok (.iconst 1, 1) := by decide +kernel
theorem d_VarintsPutPinLaw_len_105 : decode method_2_code 105 = .ok (.ireturn, 1) := by decide +kernel
theorem pn_VarintsPutPinLaw_len : plainFor (⟨"com/example/lestr/lestr/stream/VarintsPutPinLaw", "len", "(J)I"⟩ : MethodName) = true := plainFor_of_name (by first | (simp [plainName, overriddenIn, x]; done) | decide +kernel)
theorem pd_VarintsPutPinLaw_len : parseMethodDescriptor "(J)I" = some ⟨[.long], (some .int)⟩ := by decide +kernel
theorem ef_len (m : MethodId) (v : Int64) : entryFrame m #[(.long v)] 2 = mkF m 0 #[.val (.long v), .second] [] := by first | (simp [entryFrame, mkF, argsToLocals, Value.category]; done) | rfl
set_option maxRecDepth 65536 in
set_option maxHeartbeats 40000000 in
theorem rm_len (l : Launch) (Z : State) (a0 : Array Value) (hw : ∀ d ∈ tables_1, d.before a0 Z = true) (v : Int64) (h0 : Heap) : Wk.Met l (⟨"com/example/lestr/lestr/stream/VarintsPutPinLaw", "len", "(J)I"⟩ : MethodName) method_2_code 2 (some .int) ({ frames := 0, cells := 0, slots := 0, locals := 0 } : Room) #[(.long v)] Z h0 (fun r h L => ∃ z : Int32, r = some (.int z) ∧ z.toInt = ((own_n (own_u v) : Nat) : Int) ∧ h = h0 ∧ L = []) [] := by
  refine Wk.enter pn_VarintsPutPinLaw_len (fun p e s m below meth c T0 k X0 e0 => ?_)
  refine (Wk.Ends.cast (ef_len m v) ?_)
  refine Wk.lload_n k X0 d_VarintsPutPinLaw_len_0 rfl 1 rfl ?_
  refine Wk.bipush k X0 d_VarintsPutPinLaw_len_1 (63 : Int32) rfl 3 rfl ?_
  refine Wk.lushr k X0 d_VarintsPutPinLaw_len_3 4 rfl ?_
  refine Wk.lconst k X0 d_VarintsPutPinLaw_len_4 (0 : Int64) rfl 5 rfl ?_
  refine Wk.lcmp_eq k X0 d_VarintsPutPinLaw_len_5 6 rfl d_VarintsPutPinLaw_len_6 (by decide) 12 9 (by decide) rfl (fun hc6 => ?_) (fun hc6 => ?_)
  · refine Wk.lload_n k X0 d_VarintsPutPinLaw_len_12 rfl 13 rfl ?_
    refine Wk.bipush k X0 d_VarintsPutPinLaw_len_13 (56 : Int32) rfl 15 rfl ?_
    refine Wk.lushr k X0 d_VarintsPutPinLaw_len_15 16 rfl ?_
    refine Wk.lconst k X0 d_VarintsPutPinLaw_len_16 (0 : Int64) rfl 17 rfl ?_
    refine Wk.lcmp_eq k X0 d_VarintsPutPinLaw_len_17 18 rfl d_VarintsPutPinLaw_len_18 (by decide) 24 21 (by decide) rfl (fun hc18 => ?_) (fun hc18 => ?_)
    · refine Wk.lload_n k X0 d_VarintsPutPinLaw_len_24 rfl 25 rfl ?_
      refine Wk.bipush k X0 d_VarintsPutPinLaw_len_25 (49 : Int32) rfl 27 rfl ?_
      refine Wk.lushr k X0 d_VarintsPutPinLaw_len_27 28 rfl ?_
      refine Wk.lconst k X0 d_VarintsPutPinLaw_len_28 (0 : Int64) rfl 29 rfl ?_
      refine Wk.lcmp_eq k X0 d_VarintsPutPinLaw_len_29 30 rfl d_VarintsPutPinLaw_len_30 (by decide) 36 33 (by decide) rfl (fun hc30 => ?_) (fun hc30 => ?_)
      · refine Wk.lload_n k X0 d_VarintsPutPinLaw_len_36 rfl 37 rfl ?_
        refine Wk.bipush k X0 d_VarintsPutPinLaw_len_37 (42 : Int32) rfl 39 rfl ?_
        refine Wk.lushr k X0 d_VarintsPutPinLaw_len_39 40 rfl ?_
        refine Wk.lconst k X0 d_VarintsPutPinLaw_len_40 (0 : Int64) rfl 41 rfl ?_
        refine Wk.lcmp_eq k X0 d_VarintsPutPinLaw_len_41 42 rfl d_VarintsPutPinLaw_len_42 (by decide) 48 45 (by decide) rfl (fun hc42 => ?_) (fun hc42 => ?_)
        · refine Wk.lload_n k X0 d_VarintsPutPinLaw_len_48 rfl 49 rfl ?_
          refine Wk.bipush k X0 d_VarintsPutPinLaw_len_49 (35 : Int32) rfl 51 rfl ?_
          refine Wk.lushr k X0 d_VarintsPutPinLaw_len_51 52 rfl ?_
          refine Wk.lconst k X0 d_VarintsPutPinLaw_len_52 (0 : Int64) rfl 53 rfl ?_
          refine Wk.lcmp_eq k X0 d_VarintsPutPinLaw_len_53 54 rfl d_VarintsPutPinLaw_len_54 (by decide) 60 57 (by decide) rfl (fun hc54 => ?_) (fun hc54 => ?_)
          · refine Wk.lload_n k X0 d_VarintsPutPinLaw_len_60 rfl 61 rfl ?_
            refine Wk.bipush k X0 d_VarintsPutPinLaw_len_61 (28 : Int32) rfl 63 rfl ?_
            refine Wk.lushr k X0 d_VarintsPutPinLaw_len_63 64 rfl ?_
            refine Wk.lconst k X0 d_VarintsPutPinLaw_len_64 (0 : Int64) rfl 65 rfl ?_
            refine Wk.lcmp_eq k X0 d_VarintsPutPinLaw_len_65 66 rfl d_VarintsPutPinLaw_len_66 (by decide) 71 69 (by decide) rfl (fun hc66 => ?_) (fun hc66 => ?_)
            · refine Wk.lload_n k X0 d_VarintsPutPinLaw_len_71 rfl 72 rfl ?_
              refine Wk.bipush k X0 d_VarintsPutPinLaw_len_72 (21 : Int32) rfl 74 rfl ?_
              refine Wk.lushr k X0 d_VarintsPutPinLaw_len_74 75 rfl ?_
              refine Wk.lconst k X0 d_VarintsPutPinLaw_len_75 (0 : Int64) rfl 76 rfl ?_
              refine Wk.lcmp_eq k X0 d_VarintsPutPinLaw_len_76 77 rfl d_VarintsPutPinLaw_len_77 (by decide) 82 80 (by decide) rfl (fun hc77 => ?_) (fun hc77 => ?_)
              · refine Wk.lload_n k X0 d_VarintsPutPinLaw_len_82 rfl 83 rfl ?_
                refine Wk.bipush k X0 d_VarintsPutPinLaw_len_83 (14 : Int32) rfl 85 rfl ?_
                refine Wk.lushr k X0 d_VarintsPutPinLaw_len_85 86 rfl ?_
                refine Wk.lconst k X0 d_VarintsPutPinLaw_len_86 (0 : Int64) rfl 87 rfl ?_
                refine Wk.lcmp_eq k X0 d_VarintsPutPinLaw_len_87 88 rfl d_VarintsPutPinLaw_len_88 (by decide) 93 91 (by decide) rfl (fun hc88 => ?_) (fun hc88 => ?_)
                · refine Wk.lload_n k X0 d_VarintsPutPinLaw_len_93 rfl 94 rfl ?_
                  refine Wk.bipush k X0 d_VarintsPutPinLaw_len_94 (7 : Int32) rfl 96 rfl ?_
                  refine Wk.lushr k X0 d_VarintsPutPinLaw_len_96 97 rfl ?_
                  refine Wk.lconst k X0 d_VarintsPutPinLaw_len_97 (0 : Int64) rfl 98 rfl ?_
                  refine Wk.lcmp_eq k X0 d_VarintsPutPinLaw_len_98 99 rfl d_VarintsPutPinLaw_len_99 (by decide) 104 102 (by decide) rfl (fun hc99 => ?_) (fun hc99 => ?_)
                  · refine Wk.iconst k X0 d_VarintsPutPinLaw_len_104 (1 : Int32) rfl 105 rfl ?_
                    exact Wk.ret_int k X0 rfl d_VarintsPutPinLaw_len_105 (by decide) (by decide) ⟨_, rfl, by rw [own_n, if_neg (Nat.not_le.mpr ((own_t v 63 63 (by decide)).mp hc6)), if_neg (Nat.not_le.mpr ((own_t v 56 56 (by decide)).mp hc18)), if_neg (Nat.not_le.mpr ((own_t v 49 49 (by decide)).mp hc30)), if_neg (Nat.not_le.mpr ((own_t v 42 42 (by decide)).mp hc42)), if_neg (Nat.not_le.mpr ((own_t v 35 35 (by decide)).mp hc54)), if_neg (Nat.not_le.mpr ((own_t v 28 28 (by decide)).mp hc66)), if_neg (Nat.not_le.mpr ((own_t v 21 21 (by decide)).mp hc77)), if_neg (Nat.not_le.mpr ((own_t v 14 14 (by decide)).mp hc88)), if_neg (Nat.not_le.mpr ((own_t v 7 7 (by decide)).mp hc99))]; rfl, e0, rfl⟩
                  · refine Wk.iconst k X0 d_VarintsPutPinLaw_len_102 (2 : Int32) rfl 103 rfl ?_
                    exact Wk.ret_int k X0 rfl d_VarintsPutPinLaw_len_103 (by decide) (by decide) ⟨_, rfl, by rw [own_n, if_neg (Nat.not_le.mpr ((own_t v 63 63 (by decide)).mp hc6)), if_neg (Nat.not_le.mpr ((own_t v 56 56 (by decide)).mp hc18)), if_neg (Nat.not_le.mpr ((own_t v 49 49 (by decide)).mp hc30)), if_neg (Nat.not_le.mpr ((own_t v 42 42 (by decide)).mp hc42)), if_neg (Nat.not_le.mpr ((own_t v 35 35 (by decide)).mp hc54)), if_neg (Nat.not_le.mpr ((own_t v 28 28 (by decide)).mp hc66)), if_neg (Nat.not_le.mpr ((own_t v 21 21 (by decide)).mp hc77)), if_neg (Nat.not_le.mpr ((own_t v 14 14 (by decide)).mp hc88)), if_pos (Nat.le_of_not_lt (mt (own_t v 7 7 (by decide)).mpr hc99))]; rfl, e0, rfl⟩
                · refine Wk.iconst k X0 d_VarintsPutPinLaw_len_91 (3 : Int32) rfl 92 rfl ?_
                  exact Wk.ret_int k X0 rfl d_VarintsPutPinLaw_len_92 (by decide) (by decide) ⟨_, rfl, by rw [own_n, if_neg (Nat.not_le.mpr ((own_t v 63 63 (by decide)).mp hc6)), if_neg (Nat.not_le.mpr ((own_t v 56 56 (by decide)).mp hc18)), if_neg (Nat.not_le.mpr ((own_t v 49 49 (by decide)).mp hc30)), if_neg (Nat.not_le.mpr ((own_t v 42 42 (by decide)).mp hc42)), if_neg (Nat.not_le.mpr ((own_t v 35 35 (by decide)).mp hc54)), if_neg (Nat.not_le.mpr ((own_t v 28 28 (by decide)).mp hc66)), if_neg (Nat.not_le.mpr ((own_t v 21 21 (by decide)).mp hc77)), if_pos (Nat.le_of_not_lt (mt (own_t v 14 14 (by decide)).mpr hc88))]; rfl, e0, rfl⟩
              · refine Wk.iconst k X0 d_VarintsPutPinLaw_len_80 (4 : Int32) rfl 81 rfl ?_
                exact Wk.ret_int k X0 rfl d_VarintsPutPinLaw_len_81 (by decide) (by decide) ⟨_, rfl, by rw [own_n, if_neg (Nat.not_le.mpr ((own_t v 63 63 (by decide)).mp hc6)), if_neg (Nat.not_le.mpr ((own_t v 56 56 (by decide)).mp hc18)), if_neg (Nat.not_le.mpr ((own_t v 49 49 (by decide)).mp hc30)), if_neg (Nat.not_le.mpr ((own_t v 42 42 (by decide)).mp hc42)), if_neg (Nat.not_le.mpr ((own_t v 35 35 (by decide)).mp hc54)), if_neg (Nat.not_le.mpr ((own_t v 28 28 (by decide)).mp hc66)), if_pos (Nat.le_of_not_lt (mt (own_t v 21 21 (by decide)).mpr hc77))]; rfl, e0, rfl⟩
            · refine Wk.iconst k X0 d_VarintsPutPinLaw_len_69 (5 : Int32) rfl 70 rfl ?_
              exact Wk.ret_int k X0 rfl d_VarintsPutPinLaw_len_70 (by decide) (by decide) ⟨_, rfl, by rw [own_n, if_neg (Nat.not_le.mpr ((own_t v 63 63 (by decide)).mp hc6)), if_neg (Nat.not_le.mpr ((own_t v 56 56 (by decide)).mp hc18)), if_neg (Nat.not_le.mpr ((own_t v 49 49 (by decide)).mp hc30)), if_neg (Nat.not_le.mpr ((own_t v 42 42 (by decide)).mp hc42)), if_neg (Nat.not_le.mpr ((own_t v 35 35 (by decide)).mp hc54)), if_pos (Nat.le_of_not_lt (mt (own_t v 28 28 (by decide)).mpr hc66))]; rfl, e0, rfl⟩
          · refine Wk.bipush k X0 d_VarintsPutPinLaw_len_57 (6 : Int32) rfl 59 rfl ?_
            exact Wk.ret_int k X0 rfl d_VarintsPutPinLaw_len_59 (by decide) (by decide) ⟨_, rfl, by rw [own_n, if_neg (Nat.not_le.mpr ((own_t v 63 63 (by decide)).mp hc6)), if_neg (Nat.not_le.mpr ((own_t v 56 56 (by decide)).mp hc18)), if_neg (Nat.not_le.mpr ((own_t v 49 49 (by decide)).mp hc30)), if_neg (Nat.not_le.mpr ((own_t v 42 42 (by decide)).mp hc42)), if_pos (Nat.le_of_not_lt (mt (own_t v 35 35 (by decide)).mpr hc54))]; rfl, e0, rfl⟩
        · refine Wk.bipush k X0 d_VarintsPutPinLaw_len_45 (7 : Int32) rfl 47 rfl ?_
          exact Wk.ret_int k X0 rfl d_VarintsPutPinLaw_len_47 (by decide) (by decide) ⟨_, rfl, by rw [own_n, if_neg (Nat.not_le.mpr ((own_t v 63 63 (by decide)).mp hc6)), if_neg (Nat.not_le.mpr ((own_t v 56 56 (by decide)).mp hc18)), if_neg (Nat.not_le.mpr ((own_t v 49 49 (by decide)).mp hc30)), if_pos (Nat.le_of_not_lt (mt (own_t v 42 42 (by decide)).mpr hc42))]; rfl, e0, rfl⟩
      · refine Wk.bipush k X0 d_VarintsPutPinLaw_len_33 (8 : Int32) rfl 35 rfl ?_
        exact Wk.ret_int k X0 rfl d_VarintsPutPinLaw_len_35 (by decide) (by decide) ⟨_, rfl, by rw [own_n, if_neg (Nat.not_le.mpr ((own_t v 63 63 (by decide)).mp hc6)), if_neg (Nat.not_le.mpr ((own_t v 56 56 (by decide)).mp hc18)), if_pos (Nat.le_of_not_lt (mt (own_t v 49 49 (by decide)).mpr hc30))]; rfl, e0, rfl⟩
    · refine Wk.bipush k X0 d_VarintsPutPinLaw_len_21 (9 : Int32) rfl 23 rfl ?_
      exact Wk.ret_int k X0 rfl d_VarintsPutPinLaw_len_23 (by decide) (by decide) ⟨_, rfl, by rw [own_n, if_neg (Nat.not_le.mpr ((own_t v 63 63 (by decide)).mp hc6)), if_pos (Nat.le_of_not_lt (mt (own_t v 56 56 (by decide)).mpr hc18))]; rfl, e0, rfl⟩
  · refine Wk.bipush k X0 d_VarintsPutPinLaw_len_9 (10 : Int32) rfl 11 rfl ?_
    exact Wk.ret_int k X0 rfl d_VarintsPutPinLaw_len_11 (by decide) (by decide) ⟨_, rfl, by rw [own_n, if_pos (Nat.le_of_not_lt (mt (own_t v 63 63 (by decide)).mpr hc6))]; rfl, e0, rfl⟩
def own_exp (v : Int64) (sb : Int32) (aa n j : Nat) : Int32 := if aa ≤ j ∧ j < aa + n then (if j - aa < n - 1 then own_cb v (j - aa) else own_lb v (j - aa)) else sb
theorem own_7k {i b : Int32} {ii aa : Nat} (hi : i.toInt = (ii : Int)) (hb : b.toInt = (aa : Int)) (h : aa ≤ ii) (h2 : ii - aa ≤ 9) (h3 : ii < 100) : ((7 : Int32) * (i - b)).toBitVec.toNat % 64 = 7 * (ii - aa) := by
  have h1 := c_isub i b
  have h4 := rng32 (i - b)
  have h5 := c_imul 7 (i - b)
  have h6 := rng32 (7 * (i - b))
  have h7 : (7 : Int32).toInt = 7 := rfl
  have h8 : (i - b).toInt = ((ii - aa : Nat) : Int) := by omega
  rw [h7, h8] at h5
  have h9 : (7 * (i - b)).toInt = ((7 * (ii - aa) : Nat) : Int) := by omega
  rw [own_tn _ _ h9]; omega
theorem own_okA {v : Int64} {i b : Int32} {ii aa : Nat} (hi : i.toInt = (ii : Int)) (hb : b.toInt = (aa : Int)) (h : aa ≤ ii) (h2 : ii - aa ≤ 9) (h3 : ii < 100) :
    ((((((v).toUInt64 >>> ((((7 : Int32) * (i - b))) &&& 0x3f).toInt64.toUInt64).toInt64) &&& (127 : Int64)).toInt32) ||| (128 : Int32)).toInt8.toInt32 = own_cb v (ii - aa) := by
  rw [own_sh v _ _ (own_7k hi hb h h2 h3)]
  show _ = ((((own_V v (ii - aa)) &&& (127 : Int64)) ||| (128 : Int64)).toInt32).toInt8.toInt32
  rw [Int64.toInt32_or]; rfl
theorem own_okB {v : Int64} {i b : Int32} {ii aa : Nat} (hi : i.toInt = (ii : Int)) (hb : b.toInt = (aa : Int)) (h : aa ≤ ii) (h2 : ii - aa ≤ 9) (h3 : ii < 100) (hu : own_u (own_V v (ii - aa)) < 128) :
    ((((((v).toUInt64 >>> ((((7 : Int32) * (i - b))) &&& 0x3f).toInt64.toUInt64).toInt64) &&& (127 : Int64)).toInt32) ||| (0 : Int32)).toInt8.toInt32 = own_lb v (ii - aa) := by
  rw [own_sh v _ _ (own_7k hi hb h h2 h3)]
  show (((own_V v (ii - aa)) &&& (127 : Int64)).toInt32 ||| (0 : Int32)).toInt8.toInt32 = _
  rw [own_small _ hu, Int32.or_zero]; rfl
theorem d_VarintsPutPinLaw_ok_0 : decode method_3_code 0 = .ok (.iload_n 1, 1) := by decide +kernel
theorem d_VarintsPutPinLaw_ok_1 : decode method_3_code 1 = .ok (.iload_n 2, 1) := by decide +kernel
theorem d_VarintsPutPinLaw_ok_2 : decode method_3_code 2 = .ok (.if_icmp .lt 10, 3) := by decide +kernel
theorem d_VarintsPutPinLaw_ok_5 : decode method_3_code 5 = .ok (.iload_n 1, 1) := by decide +kernel
theorem d_VarintsPutPinLaw_ok_6 : decode method_3_code 6 = .ok (.iload_n 2, 1) := by decide +kernel
theorem d_VarintsPutPinLaw_ok_7 : decode method_3_code 7 = .ok (.iload_n 3, 1) := by decide +kernel
theorem d_VarintsPutPinLaw_ok_8 : decode method_3_code 8 = .ok (.iadd, 1) := by decide +kernel
theorem d_VarintsPutPinLaw_ok_9 : decode method_3_code 9 = .ok (.if_icmp .lt 17, 3) := by decide +kernel
theorem d_VarintsPutPinLaw_ok_12 : decode method_3_code 12 = .ok (.aload_n 0, 1) := by decide +kernel
theorem d_VarintsPutPinLaw_ok_13 : decode method_3_code 13 = .ok (.iload_n 1, 1) := by decide +kernel
theorem d_VarintsPutPinLaw_ok_14 : decode method_3_code 14 = .ok (.baload, 1) := by decide +kernel
theorem d_VarintsPutPinLaw_ok_15 : decode method_3_code 15 = .ok (.iload 6, 2) := by decide +kernel
theorem d_VarintsPutPinLaw_ok_17 : decode method_3_code 17 = .ok (.if_icmp .ne 7, 3) := by decide +kernel
theorem d_VarintsPutPinLaw_ok_20 : decode method_3_code 20 = .ok (.iconst 1, 1) := by decide +kernel
theorem d_VarintsPutPinLaw_ok_21 : decode method_3_code 21 = .ok (.goto 4, 3) := by decide +kernel
theorem d_VarintsPutPinLaw_ok_25 : decode method_3_code 25 = .ok (.ireturn, 1) := by decide +kernel
theorem d_VarintsPutPinLaw_ok_26 : decode method_3_code 26 = .ok (.iload_n 1, 1) := by decide +kernel
theorem d_VarintsPutPinLaw_ok_27 : decode method_3_code 27 = .ok (.iload_n 2, 1) := by decide +kernel
theorem d_VarintsPutPinLaw_ok_28 : decode method_3_code 28 = .ok (.isub, 1) := by decide +kernel
theorem d_VarintsPutPinLaw_ok_29 : decode method_3_code 29 = .ok (.istore 7, 2) := by decide +kernel
theorem d_VarintsPutPinLaw_ok_31 : decode method_3_code 31 = .ok (.lload 4, 2) := by decide +kernel
theorem d_VarintsPutPinLaw_ok_33 : decode method_3_code 33 = .ok (.bipush 7, 2) := by decide +kernel
theorem d_VarintsPutPinLaw_ok_35 : decode method_3_code 35 = .ok (.iload 7, 2) := by decide +kernel
theorem d_VarintsPutPinLaw_ok_37 : decode method_3_code 37 = .ok (.imul, 1) := by decide +kernel
theorem d_VarintsPutPinLaw_ok_38 : decode method_3_code 38 = .ok (.lushr, 1) := by decide +kernel
theorem d_VarintsPutPinLaw_ok_39 : decode method_3_code 39 = .ok (.ldc2_w 7, 3) := by decide +kernel
theorem d_VarintsPutPinLaw_ok_42 : decode method_3_code 42 = .ok (.land, 1) := by decide +kernel
theorem d_VarintsPutPinLaw_ok_43 : decode method_3_code 43 = .ok (.l2i, 1) := by decide +kernel
theorem d_VarintsPutPinLaw_ok_44 : decode method_3_code 44 = .ok (.istore 8, 2) := by decide +kernel
theorem d_VarintsPutPinLaw_ok_46 : decode method_3_code 46 = .ok (.iload 7, 2) := by decide +kernel
theorem d_VarintsPutPinLaw_ok_48 : decode method_3_code 48 = .ok (.iload_n 3, 1) := by decide +kernel
theorem d_VarintsPutPinLaw_ok_49 : decode method_3_code 49 = .ok (.iconst 1, 1) := by decide +kernel
theorem d_VarintsPutPinLaw_ok_50 : decode method_3_code 50 = .ok (.isub, 1) := by decide +kernel
theorem d_VarintsPutPinLaw_ok_51 : decode method_3_code 51 = .ok (.if_icmp .ge 9, 3) := by decide +kernel
theorem d_VarintsPutPinLaw_ok_54 : decode method_3_code 54 = .ok (.sipush 128, 3) := by decide +kernel
theorem d_VarintsPutPinLaw_ok_57 : decode method_3_code 57 = .ok (.goto 4, 3) := by decide +kernel
theorem d_VarintsPutPinLaw_ok_60 : decode method_3_code 60 = .ok (.iconst 0, 1) := by decide +kernel
theorem d_VarintsPutPinLaw_ok_61 : decode method_3_code 61 = .ok (.istore 9, 2) := by decide +kernel
theorem d_VarintsPutPinLaw_ok_63 : decode method_3_code 63 = .ok (.aload_n 0, 1) := by decide +kernel
theorem d_VarintsPutPinLaw_ok_64 : decode method_3_code 64 = .ok (.iload_n 1, 1) := by decide +kernel
theorem d_VarintsPutPinLaw_ok_65 : decode method_3_code 65 = .ok (.baload, 1) := by decide +kernel
theorem d_VarintsPutPinLaw_ok_66 : decode method_3_code 66 = .ok (.iload 8, 2) := by decide +kernel
theorem d_VarintsPutPinLaw_ok_68 : decode method_3_code 68 = .ok (.iload 9, 2) := by decide +kernel
theorem d_VarintsPutPinLaw_ok_70 : decode method_3_code 70 = .ok (.ior, 1) := by decide +kernel
theorem d_VarintsPutPinLaw_ok_71 : decode method_3_code 71 = .ok (.i2b, 1) := by decide +kernel
theorem d_VarintsPutPinLaw_ok_72 : decode method_3_code 72 = .ok (.if_icmp .ne 7, 3) := by decide +kernel
theorem d_VarintsPutPinLaw_ok_75 : decode method_3_code 75 = .ok (.iconst 1, 1) := by decide +kernel
theorem d_VarintsPutPinLaw_ok_76 : decode method_3_code 76 = .ok (.goto 4, 3) := by decide +kernel
theorem d_VarintsPutPinLaw_ok_80 : decode method_3_code 80 = .ok (.ireturn, 1) := by decide +kernel
theorem pn_VarintsPutPinLaw_ok : plainFor (⟨"com/example/lestr/lestr/stream/VarintsPutPinLaw", "ok", "([BIIIJB)Z"⟩ : MethodName) = true := plainFor_of_name (by first | (simp [plainName, overriddenIn, x]; done) | decide +kernel)
theorem pd_VarintsPutPinLaw_ok : parseMethodDescriptor "([BIIIJB)Z" = some ⟨[(.array .byte), .int, .int, .int, .long, .byte], (some .boolean)⟩ := by decide +kernel
set_option maxRecDepth 65536 in
set_option maxHeartbeats 40000000 in
theorem ok_12 {p : Program} {l : Launch} {e : Env} {s : State} {m : MethodId} {args : Array Value} {below : List Frame} {meth : Method} {c : Code} {Z : State} {a0 : Array Value} {h0 : Heap} {T0 : State} (hw : ∀ d ∈ tables_1, d.before a0 Z = true) (k : Wk.K p s m meth c Z (⟨"com/example/lestr/lestr/stream/VarintsPutPinLaw", "ok", "([BIIIJB)Z"⟩ : MethodName) method_3_code 10 (some .boolean)) (X0 : Stand p l e ({ frames := 0, cells := 0, slots := 0, locals := 0 } : Room) s m args below meth c T0 [] 0 0) (a : Addr) (i b n : Int32) (v : Int64) (sb : Int32) (ii aa nn : Nat) (xs : List Int32) (x : Int32) (hi : i.toInt = (ii : Int)) (hb : b.toInt = (aa : Int)) (hn : n.toInt = (nn : Int)) (hii : ii < 100) (haa : aa ≤ 3) (hnn : 1 ≤ nn) (hnn2 : nn ≤ 10) (hu : own_u v < 2 ^ (7 * nn)) (A0 : Wk.Arl Z h0 a .byte (xs.map Value.int)) (hx : xs[ii]? = some x) (he : x = own_exp v sb aa nn ii) (e0 : T0.heap = h0) (ho : ¬ (aa ≤ ii ∧ ii < aa + nn)) : Wk.Ends p e s below ({ frames := 0, cells := 0, slots := 0, locals := 0 } : Room) (fun r h L => r = some (.int 1) ∧ h = h0 ∧ L = []) T0 (mkF m 12 #[.val (.ref a), .val (.int i), .val (.int b), .val (.int n), .val (.long v), .second, .val (.int sb), .unset, .unset, .unset] []) := by
  refine Wk.aload_n k X0 d_VarintsPutPinLaw_ok_12 rfl rfl 13 rfl ?_
  refine Wk.iload_n k X0 d_VarintsPutPinLaw_ok_13 rfl 14 rfl ?_
  refine Wk.baload k X0 d_VarintsPutPinLaw_ok_14 e0 A0 ii hi x hx 15 rfl ?_
  refine Wk.iload k X0 d_VarintsPutPinLaw_ok_15 rfl 17 rfl ?_
  refine Wk.icmp_ne k X0 d_VarintsPutPinLaw_ok_17 (by decide) 24 20 (by decide) rfl (fun hc17 => ?_) (fun hc17 => ?_)
  · exact absurd (he.trans (if_neg ho)) hc17
  · refine Wk.iconst k X0 d_VarintsPutPinLaw_ok_20 (1 : Int32) rfl 21 rfl ?_
    refine Wk.goto k X0 d_VarintsPutPinLaw_ok_21 (by decide) 25 (by decide) ?_
    exact Wk.ret_bool k X0 rfl d_VarintsPutPinLaw_ok_25 (by decide) (by decide) (by decide) ⟨rfl, e0, rfl⟩
set_option maxRecDepth 65536 in
set_option maxHeartbeats 40000000 in
theorem ok_26 {p : Program} {l : Launch} {e : Env} {s : State} {m : MethodId} {args : Array Value} {below : List Frame} {meth : Method} {c : Code} {Z : State} {a0 : Array Value} {h0 : Heap} {T0 : State} (hw : ∀ d ∈ tables_1, d.before a0 Z = true) (k : Wk.K p s m meth c Z (⟨"com/example/lestr/lestr/stream/VarintsPutPinLaw", "ok", "([BIIIJB)Z"⟩ : MethodName) method_3_code 10 (some .boolean)) (X0 : Stand p l e ({ frames := 0, cells := 0, slots := 0, locals := 0 } : Room) s m args below meth c T0 [] 0 0) (a : Addr) (i b n : Int32) (v : Int64) (sb : Int32) (ii aa nn : Nat) (xs : List Int32) (x : Int32) (hi : i.toInt = (ii : Int)) (hb : b.toInt = (aa : Int)) (hn : n.toInt = (nn : Int)) (hii : ii < 100) (haa : aa ≤ 3) (hnn : 1 ≤ nn) (hnn2 : nn ≤ 10) (hu : own_u v < 2 ^ (7 * nn)) (A0 : Wk.Arl Z h0 a .byte (xs.map Value.int)) (hx : xs[ii]? = some x) (he : x = own_exp v sb aa nn ii) (e0 : T0.heap = h0) (hin : aa ≤ ii ∧ ii < aa + nn) : Wk.Ends p e s below ({ frames := 0, cells := 0, slots := 0, locals := 0 } : Room) (fun r h L => r = some (.int 1) ∧ h = h0 ∧ L = []) T0 (mkF m 26 #[.val (.ref a), .val (.int i), .val (.int b), .val (.int n), .val (.long v), .second, .val (.int sb), .unset, .unset, .unset] []) := by
  have hk1 : (i - b).toInt = ((ii - aa : Nat) : Int) := by have q := c_isub i b; have r := rng32 (i - b); omega
  have hk2 : (n - (1 : Int32)).toInt = ((nn - 1 : Nat) : Int) := by have q := c_isub n 1; have r := rng32 (n - 1); have t : (1 : Int32).toInt = 1 := rfl; omega
  refine Wk.iload_n k X0 d_VarintsPutPinLaw_ok_26 rfl 27 rfl ?_
  refine Wk.iload_n k X0 d_VarintsPutPinLaw_ok_27 rfl 28 rfl ?_
  refine Wk.isub k X0 d_VarintsPutPinLaw_ok_28 29 rfl ?_
  refine Wk.istore k X0 d_VarintsPutPinLaw_ok_29 #[.val (.ref a), .val (.int i), .val (.int b), .val (.int n), .val (.long v), .second, .val (.int sb), .val (.int (i - b)), .unset, .unset] rfl 31 rfl ?_
  refine Wk.lload k X0 d_VarintsPutPinLaw_ok_31 rfl 33 rfl ?_
  refine Wk.bipush k X0 d_VarintsPutPinLaw_ok_33 (7 : Int32) rfl 35 rfl ?_
  refine Wk.iload k X0 d_VarintsPutPinLaw_ok_35 rfl 37 rfl ?_
  refine Wk.imul k X0 d_VarintsPutPinLaw_ok_37 38 rfl ?_
  refine Wk.lushr k X0 d_VarintsPutPinLaw_ok_38 39 rfl ?_
  refine Wk.ldc2_w k X0 (z := (127 : Int64)) d_VarintsPutPinLaw_ok_39 (Wk.w hw 13 rfl) 42 rfl ?_
  refine Wk.land k X0 d_VarintsPutPinLaw_ok_42 43 rfl ?_
  refine Wk.l2i k X0 d_VarintsPutPinLaw_ok_43 44 rfl ?_
  refine Wk.istore k X0 d_VarintsPutPinLaw_ok_44 #[.val (.ref a), .val (.int i), .val (.int b), .val (.int n), .val (.long v), .second, .val (.int sb), .val (.int (i - b)), .val (.int ((((((v).toUInt64 >>> (((7 : Int32) * (i - b)) &&& 0x3f).toInt64.toUInt64).toInt64) &&& (127 : Int64))).toInt32)), .unset] rfl 46 rfl ?_
  refine Wk.iload k X0 d_VarintsPutPinLaw_ok_46 rfl 48 rfl ?_
  refine Wk.iload_n k X0 d_VarintsPutPinLaw_ok_48 rfl 49 rfl ?_
  refine Wk.iconst k X0 d_VarintsPutPinLaw_ok_49 (1 : Int32) rfl 50 rfl ?_
  refine Wk.isub k X0 d_VarintsPutPinLaw_ok_50 51 rfl ?_
  refine Wk.icmp_ge k X0 d_VarintsPutPinLaw_ok_51 (by decide) 60 54 (by decide) rfl (fun hc51 => ?_) (fun hc51 => ?_)
  · refine Wk.iconst k X0 d_VarintsPutPinLaw_ok_60 (0 : Int32) rfl 61 rfl ?_
    refine Wk.istore k X0 d_VarintsPutPinLaw_ok_61 #[.val (.ref a), .val (.int i), .val (.int b), .val (.int n), .val (.long v), .second, .val (.int sb), .val (.int (i - b)), .val (.int ((((((v).toUInt64 >>> (((7 : Int32) * (i - b)) &&& 0x3f).toInt64.toUInt64).toInt64) &&& (127 : Int64))).toInt32)), .val (.int (0 : Int32))] rfl 63 rfl ?_
    refine Wk.aload_n k X0 d_VarintsPutPinLaw_ok_63 rfl rfl 64 rfl ?_
    refine Wk.iload_n k X0 d_VarintsPutPinLaw_ok_64 rfl 65 rfl ?_
    refine Wk.baload k X0 d_VarintsPutPinLaw_ok_65 e0 A0 ii hi x hx 66 rfl ?_
    refine Wk.iload k X0 d_VarintsPutPinLaw_ok_66 rfl 68 rfl ?_
    refine Wk.iload k X0 d_VarintsPutPinLaw_ok_68 rfl 70 rfl ?_
    refine Wk.ior k X0 d_VarintsPutPinLaw_ok_70 71 rfl ?_
    refine Wk.i2b k X0 d_VarintsPutPinLaw_ok_71 72 rfl ?_
    refine Wk.icmp_ne k X0 d_VarintsPutPinLaw_ok_72 (by decide) 79 75 (by decide) rfl (fun hc72 => ?_) (fun hc72 => ?_)
    · exact absurd (he.trans ((if_pos hin).trans ((if_neg (by rw [Int32.lt_iff_toInt_lt, hk1, hk2] at hc51; omega)).trans (own_okB hi hb hin.1 (by omega) hii (by rw [own_u_V]; exact own_last hu (by rw [Int32.lt_iff_toInt_lt, hk1, hk2] at hc51; omega))).symm))) hc72
    · refine Wk.iconst k X0 d_VarintsPutPinLaw_ok_75 (1 : Int32) rfl 76 rfl ?_
      refine Wk.goto k X0 d_VarintsPutPinLaw_ok_76 (by decide) 80 (by decide) ?_
      exact Wk.ret_bool k X0 rfl d_VarintsPutPinLaw_ok_80 (by decide) (by decide) (by decide) ⟨rfl, e0, rfl⟩
  · refine Wk.sipush k X0 d_VarintsPutPinLaw_ok_54 (128 : Int32) rfl 57 rfl ?_
    refine Wk.goto k X0 d_VarintsPutPinLaw_ok_57 (by decide) 61 (by decide) ?_
    refine Wk.istore k X0 d_VarintsPutPinLaw_ok_61 #[.val (.ref a), .val (.int i), .val (.int b), .val (.int n), .val (.long v), .second, .val (.int sb), .val (.int (i - b)), .val (.int ((((((v).toUInt64 >>> (((7 : Int32) * (i - b)) &&& 0x3f).toInt64.toUInt64).toInt64) &&& (127 : Int64))).toInt32)), .val (.int (128 : Int32))] rfl 63 rfl ?_
    refine Wk.aload_n k X0 d_VarintsPutPinLaw_ok_63 rfl rfl 64 rfl ?_
    refine Wk.iload_n k X0 d_VarintsPutPinLaw_ok_64 rfl 65 rfl ?_
    refine Wk.baload k X0 d_VarintsPutPinLaw_ok_65 e0 A0 ii hi x hx 66 rfl ?_
    refine Wk.iload k X0 d_VarintsPutPinLaw_ok_66 rfl 68 rfl ?_
    refine Wk.iload k X0 d_VarintsPutPinLaw_ok_68 rfl 70 rfl ?_
    refine Wk.ior k X0 d_VarintsPutPinLaw_ok_70 71 rfl ?_
    refine Wk.i2b k X0 d_VarintsPutPinLaw_ok_71 72 rfl ?_
    refine Wk.icmp_ne k X0 d_VarintsPutPinLaw_ok_72 (by decide) 79 75 (by decide) rfl (fun hc72 => ?_) (fun hc72 => ?_)
    · exact absurd (he.trans ((if_pos hin).trans ((if_pos (by rw [Int32.lt_iff_toInt_lt, hk1, hk2] at hc51; omega)).trans (own_okA hi hb hin.1 (by omega) hii).symm))) hc72
    · refine Wk.iconst k X0 d_VarintsPutPinLaw_ok_75 (1 : Int32) rfl 76 rfl ?_
      refine Wk.goto k X0 d_VarintsPutPinLaw_ok_76 (by decide) 80 (by decide) ?_
      exact Wk.ret_bool k X0 rfl d_VarintsPutPinLaw_ok_80 (by decide) (by decide) (by decide) ⟨rfl, e0, rfl⟩
theorem ef_ok (m : MethodId) (a : Addr) (i b n : Int32) (v : Int64) (sb : Int32) : entryFrame m #[(.ref a), (.int i), (.int b), (.int n), (.long v), (.int sb)] 10 = mkF m 0 #[.val (.ref a), .val (.int i), .val (.int b), .val (.int n), .val (.long v), .second, .val (.int sb), .unset, .unset, .unset] [] := by first | (simp [entryFrame, mkF, argsToLocals, Value.category]; done) | rfl
set_option maxRecDepth 65536 in
set_option maxHeartbeats 40000000 in
theorem rm_ok (l : Launch) (Z : State) (a0 : Array Value) (hw : ∀ d ∈ tables_1, d.before a0 Z = true) (a : Addr) (i b n : Int32) (v : Int64) (sb : Int32) (h0 : Heap) (ii aa nn : Nat) (xs : List Int32) (x : Int32) (hi : i.toInt = (ii : Int)) (hb : b.toInt = (aa : Int)) (hn : n.toInt = (nn : Int)) (hii : ii < 100) (haa : aa ≤ 3) (hnn : 1 ≤ nn) (hnn2 : nn ≤ 10) (hu : own_u v < 2 ^ (7 * nn)) (A0 : Wk.Arl Z h0 a .byte (xs.map Value.int)) (hx : xs[ii]? = some x) (he : x = own_exp v sb aa nn ii) : Wk.Met l (⟨"com/example/lestr/lestr/stream/VarintsPutPinLaw", "ok", "([BIIIJB)Z"⟩ : MethodName) method_3_code 10 (some .boolean) ({ frames := 0, cells := 0, slots := 0, locals := 0 } : Room) #[(.ref a), (.int i), (.int b), (.int n), (.long v), (.int sb)] Z h0 (fun r h L => r = some (.int 1) ∧ h = h0 ∧ L = []) [] := by
  refine Wk.enter pn_VarintsPutPinLaw_ok (fun p e s m below meth c T0 k X0 e0 => ?_)
  refine (Wk.Ends.cast (ef_ok m a i b n v sb) ?_)
  refine Wk.iload_n k X0 d_VarintsPutPinLaw_ok_0 rfl 1 rfl ?_
  refine Wk.iload_n k X0 d_VarintsPutPinLaw_ok_1 rfl 2 rfl ?_
  refine Wk.icmp_lt k X0 d_VarintsPutPinLaw_ok_2 (by decide) 12 5 (by decide) rfl (fun hc2 => ?_) (fun hc2 => ?_)
  · exact ok_12 hw k X0 a i b n v sb ii aa nn xs x hi hb hn hii haa hnn hnn2 hu A0 hx he e0 (by rw [Int32.lt_iff_toInt_lt] at hc2; omega)
  · refine Wk.iload_n k X0 d_VarintsPutPinLaw_ok_5 rfl 6 rfl ?_
    refine Wk.iload_n k X0 d_VarintsPutPinLaw_ok_6 rfl 7 rfl ?_
    refine Wk.iload_n k X0 d_VarintsPutPinLaw_ok_7 rfl 8 rfl ?_
    refine Wk.iadd k X0 d_VarintsPutPinLaw_ok_8 9 rfl ?_
    refine Wk.icmp_lt k X0 d_VarintsPutPinLaw_ok_9 (by decide) 26 12 (by decide) rfl (fun hc9 => ?_) (fun hc9 => ?_)
    · exact ok_26 hw k X0 a i b n v sb ii aa nn xs x hi hb hn hii haa hnn hnn2 hu A0 hx he e0 (by rw [Int32.lt_iff_toInt_lt] at hc2 hc9; have q := c_iadd b n; have r := rng32 (b + n); omega)
    · exact ok_12 hw k X0 a i b n v sb ii aa nn xs x hi hb hn hii haa hnn hnn2 hu A0 hx he e0 (by rw [Int32.lt_iff_toInt_lt] at hc2 hc9; have q := c_iadd b n; have r := rng32 (b + n); omega)
theorem pn_VarintsPutPinLaw_law : plainFor x = true := plainFor_of_name (by first | (simp [plainName, overriddenIn, x]; done) | decide +kernel)
set_option maxRecDepth 65536 in
set_option maxHeartbeats 40000000 in
theorem law_132 {p : Program} {l : Launch} {e : Env} {s : State} {m : MethodId} {args : Array Value} {below : List Frame} {meth : Method} {c : Code} {Z : State} {a0 : Array Value} {h0 : Heap} {n0 : Nat} {T0 : State} {locs : List Loc} (hw : ∀ d ∈ tables_1, d.before a0 Z = true) (k : Wk.K p s m meth c Z x code maxLocals ret) (X0 : Stand p l e room_1 s m args below meth c T0 locs 1 14) (q0 : Int64) (p2 p3 p4 : Int32) (a : Addr) (v : Int64) (b sb z n : Int32) (aa : Nat) (e0 : T0.heap = h0) (N0 : Fr n0 locs) (hb : b.toInt = (aa : Int)) (haa : aa ≤ 3) (hn : n.toInt = ((own_n (own_u v) : Nat) : Int)) (A0 : Wk.Arl Z h0 a .byte ((own_done ([sb, sb, sb, sb, sb, sb, sb, sb, sb, sb, sb, sb, sb, sb] : List Int32) v aa (own_n (own_u v))).map Value.int)) : Wk.Ends p e s below room_1 (fun v _ L => v = some (.int 1) ∧ Fr n0 L) T0 (mkF m 132 #[.val (.long q0), .second, .val (.int p2), .val (.int p3), .val (.int p4), .val (.long v), .second, .val (.int b), .val (.int sb), .val (.ref a), .val (.int z), .val (.int n)] []) := by
  have hs := own_n_spec (own_u v) (own_u_lt v)
  have hxs : ∀ j, j < 14 → (own_done ([sb, sb, sb, sb, sb, sb, sb, sb, sb, sb, sb, sb, sb, sb] : List Int32) v aa (own_n (own_u v)))[j]? = some (own_exp v sb aa (own_n (own_u v)) j) := fun j hj => by
    rw [own_done_get ([sb, sb, sb, sb, sb, sb, sb, sb, sb, sb, sb, sb, sb, sb] : List Int32) _ _ _ hs.1 j hj]
    have e1 : ([sb, sb, sb, sb, sb, sb, sb, sb, sb, sb, sb, sb, sb, sb] : List Int32)[j]? = some sb := by
      rw [show ([sb, sb, sb, sb, sb, sb, sb, sb, sb, sb, sb, sb, sb, sb] : List Int32) = List.replicate 14 sb from rfl, List.getElem?_replicate, if_pos hj]
    rw [e1, own_exp]; split <;> rfl
  refine Wk.aload k X0 at_132 rfl rfl 134 rfl ?_
  refine Wk.iconst k X0 at_134 (0 : Int32) rfl 135 rfl ?_
  refine Wk.iload k X0 at_135 rfl 137 rfl ?_
  refine Wk.iload k X0 at_137 rfl 139 rfl ?_
  refine Wk.lload k X0 at_139 rfl 141 rfl ?_
  refine Wk.iload k X0 at_141 rfl 143 rfl ?_
  refine Wk.callS k X0 [(.ref a), (.int (0 : Int32)), (.int b), (.int n), (.long v), (.int sb)] [] at_143 (rm_ok l Z a0 hw a (0 : Int32) b n v sb h0 0 aa _ _ _ rfl hb hn (by decide) haa hs.1 hs.2.1 hs.2.2.1 A0 (hxs 0 (by decide)) rfl) e0 (Wk.w hw 10 rfl) (Wk.w hw 11 rfl) (Wk.w hw 8 rfl) (Wk.w hw 12 rfl) (by decide) rfl pd_VarintsPutPinLaw_ok rfl rfl (Nat.le_of_ble_eq_true rfl) (Nat.le_of_ble_eq_true rfl) (Nat.le_of_ble_eq_true rfl) (Nat.le_of_ble_eq_true rfl) 146 rfl fun T1 v1 L1 X1 hQ1 => ?_
  obtain ⟨rfl, e1, rfl⟩ := hQ1
  rw [List.append_nil] at X1
  show Wk.Ends _ _ _ _ _ _ _ (mkF m 146 _ [(.int (1 : Int32))])
  refine Wk.if_eq k X1 at_146 (by decide) 382 149 (by decide) rfl (fun hc146 => ?_) (fun hc146 => ?_)
  · exact absurd hc146 (by decide)
  · refine Wk.aload k X1 at_149 rfl rfl 151 rfl ?_
    refine Wk.iconst k X1 at_151 (1 : Int32) rfl 152 rfl ?_
    refine Wk.iload k X1 at_152 rfl 154 rfl ?_
    refine Wk.iload k X1 at_154 rfl 156 rfl ?_
    refine Wk.lload k X1 at_156 rfl 158 rfl ?_
    refine Wk.iload k X1 at_158 rfl 160 rfl ?_
    refine Wk.callS k X1 [(.ref a), (.int (1 : Int32)), (.int b), (.int n), (.long v), (.int sb)] [] at_160 (rm_ok l Z a0 hw a (1 : Int32) b n v sb h0 1 aa _ _ _ rfl hb hn (by decide) haa hs.1 hs.2.1 hs.2.2.1 A0 (hxs 1 (by decide)) rfl) e1 (Wk.w hw 10 rfl) (Wk.w hw 11 rfl) (Wk.w hw 8 rfl) (Wk.w hw 12 rfl) (by decide) rfl pd_VarintsPutPinLaw_ok rfl rfl (Nat.le_of_ble_eq_true rfl) (Nat.le_of_ble_eq_true rfl) (Nat.le_of_ble_eq_true rfl) (Nat.le_of_ble_eq_true rfl) 163 rfl fun T3 v3 L3 X3 hQ3 => ?_
    obtain ⟨rfl, e3, rfl⟩ := hQ3
    rw [List.append_nil] at X3
    show Wk.Ends _ _ _ _ _ _ _ (mkF m 163 _ [(.int (1 : Int32))])
    refine Wk.if_eq k X3 at_163 (by decide) 382 166 (by decide) rfl (fun hc163 => ?_) (fun hc163 => ?_)
    · exact absurd hc163 (by decide)
    · refine Wk.aload k X3 at_166 rfl rfl 168 rfl ?_
      refine Wk.iconst k X3 at_168 (2 : Int32) rfl 169 rfl ?_
      refine Wk.iload k X3 at_169 rfl 171 rfl ?_
      refine Wk.iload k X3 at_171 rfl 173 rfl ?_
      refine Wk.lload k X3 at_173 rfl 175 rfl ?_
      refine Wk.iload k X3 at_175 rfl 177 rfl ?_
      refine Wk.callS k X3 [(.ref a), (.int (2 : Int32)), (.int b), (.int n), (.long v), (.int sb)] [] at_177 (rm_ok l Z a0 hw a (2 : Int32) b n v sb h0 2 aa _ _ _ rfl hb hn (by decide) haa hs.1 hs.2.1 hs.2.2.1 A0 (hxs 2 (by decide)) rfl) e3 (Wk.w hw 10 rfl) (Wk.w hw 11 rfl) (Wk.w hw 8 rfl) (Wk.w hw 12 rfl) (by decide) rfl pd_VarintsPutPinLaw_ok rfl rfl (Nat.le_of_ble_eq_true rfl) (Nat.le_of_ble_eq_true rfl) (Nat.le_of_ble_eq_true rfl) (Nat.le_of_ble_eq_true rfl) 180 rfl fun T5 v5 L5 X5 hQ5 => ?_
      obtain ⟨rfl, e5, rfl⟩ := hQ5
      rw [List.append_nil] at X5
      show Wk.Ends _ _ _ _ _ _ _ (mkF m 180 _ [(.int (1 : Int32))])
      refine Wk.if_eq k X5 at_180 (by decide) 382 183 (by decide) rfl (fun hc180 => ?_) (fun hc180 => ?_)
      · exact absurd hc180 (by decide)
      · refine Wk.aload k X5 at_183 rfl rfl 185 rfl ?_
        refine Wk.iconst k X5 at_185 (3 : Int32) rfl 186 rfl ?_
        refine Wk.iload k X5 at_186 rfl 188 rfl ?_
        refine Wk.iload k X5 at_188 rfl 190 rfl ?_
        refine Wk.lload k X5 at_190 rfl 192 rfl ?_
        refine Wk.iload k X5 at_192 rfl 194 rfl ?_
        refine Wk.callS k X5 [(.ref a), (.int (3 : Int32)), (.int b), (.int n), (.long v), (.int sb)] [] at_194 (rm_ok l Z a0 hw a (3 : Int32) b n v sb h0 3 aa _ _ _ rfl hb hn (by decide) haa hs.1 hs.2.1 hs.2.2.1 A0 (hxs 3 (by decide)) rfl) e5 (Wk.w hw 10 rfl) (Wk.w hw 11 rfl) (Wk.w hw 8 rfl) (Wk.w hw 12 rfl) (by decide) rfl pd_VarintsPutPinLaw_ok rfl rfl (Nat.le_of_ble_eq_true rfl) (Nat.le_of_ble_eq_true rfl) (Nat.le_of_ble_eq_true rfl) (Nat.le_of_ble_eq_true rfl) 197 rfl fun T7 v7 L7 X7 hQ7 => ?_
        obtain ⟨rfl, e7, rfl⟩ := hQ7
        rw [List.append_nil] at X7
        show Wk.Ends _ _ _ _ _ _ _ (mkF m 197 _ [(.int (1 : Int32))])
        refine Wk.if_eq k X7 at_197 (by decide) 382 200 (by decide) rfl (fun hc197 => ?_) (fun hc197 => ?_)
        · exact absurd hc197 (by decide)
        · refine Wk.aload k X7 at_200 rfl rfl 202 rfl ?_
          refine Wk.iconst k X7 at_202 (4 : Int32) rfl 203 rfl ?_
          refine Wk.iload k X7 at_203 rfl 205 rfl ?_
          refine Wk.iload k X7 at_205 rfl 207 rfl ?_
          refine Wk.lload k X7 at_207 rfl 209 rfl ?_
          refine Wk.iload k X7 at_209 rfl 211 rfl ?_
          refine Wk.callS k X7 [(.ref a), (.int (4 : Int32)), (.int b), (.int n), (.long v), (.int sb)] [] at_211 (rm_ok l Z a0 hw a (4 : Int32) b n v sb h0 4 aa _ _ _ rfl hb hn (by decide) haa hs.1 hs.2.1 hs.2.2.1 A0 (hxs 4 (by decide)) rfl) e7 (Wk.w hw 10 rfl) (Wk.w hw 11 rfl) (Wk.w hw 8 rfl) (Wk.w hw 12 rfl) (by decide) rfl pd_VarintsPutPinLaw_ok rfl rfl (Nat.le_of_ble_eq_true rfl) (Nat.le_of_ble_eq_true rfl) (Nat.le_of_ble_eq_true rfl) (Nat.le_of_ble_eq_true rfl) 214 rfl fun T9 v9 L9 X9 hQ9 => ?_
          obtain ⟨rfl, e9, rfl⟩ := hQ9
          rw [List.append_nil] at X9
          show Wk.Ends _ _ _ _ _ _ _ (mkF m 214 _ [(.int (1 : Int32))])
          refine Wk.if_eq k X9 at_214 (by decide) 382 217 (by decide) rfl (fun hc214 => ?_) (fun hc214 => ?_)
          · exact absurd hc214 (by decide)
          · refine Wk.aload k X9 at_217 rfl rfl 219 rfl ?_
            refine Wk.iconst k X9 at_219 (5 : Int32) rfl 220 rfl ?_
            refine Wk.iload k X9 at_220 rfl 222 rfl ?_
            refine Wk.iload k X9 at_222 rfl 224 rfl ?_
            refine Wk.lload k X9 at_224 rfl 226 rfl ?_
            refine Wk.iload k X9 at_226 rfl 228 rfl ?_
            refine Wk.callS k X9 [(.ref a), (.int (5 : Int32)), (.int b), (.int n), (.long v), (.int sb)] [] at_228 (rm_ok l Z a0 hw a (5 : Int32) b n v sb h0 5 aa _ _ _ rfl hb hn (by decide) haa hs.1 hs.2.1 hs.2.2.1 A0 (hxs 5 (by decide)) rfl) e9 (Wk.w hw 10 rfl) (Wk.w hw 11 rfl) (Wk.w hw 8 rfl) (Wk.w hw 12 rfl) (by decide) rfl pd_VarintsPutPinLaw_ok rfl rfl (Nat.le_of_ble_eq_true rfl) (Nat.le_of_ble_eq_true rfl) (Nat.le_of_ble_eq_true rfl) (Nat.le_of_ble_eq_true rfl) 231 rfl fun T11 v11 L11 X11 hQ11 => ?_
            obtain ⟨rfl, e11, rfl⟩ := hQ11
            rw [List.append_nil] at X11
            show Wk.Ends _ _ _ _ _ _ _ (mkF m 231 _ [(.int (1 : Int32))])
            refine Wk.if_eq k X11 at_231 (by decide) 382 234 (by decide) rfl (fun hc231 => ?_) (fun hc231 => ?_)
            · exact absurd hc231 (by decide)
            · refine Wk.aload k X11 at_234 rfl rfl 236 rfl ?_
              refine Wk.bipush k X11 at_236 (6 : Int32) rfl 238 rfl ?_
              refine Wk.iload k X11 at_238 rfl 240 rfl ?_
              refine Wk.iload k X11 at_240 rfl 242 rfl ?_
              refine Wk.lload k X11 at_242 rfl 244 rfl ?_
              refine Wk.iload k X11 at_244 rfl 246 rfl ?_
              refine Wk.callS k X11 [(.ref a), (.int (6 : Int32)), (.int b), (.int n), (.long v), (.int sb)] [] at_246 (rm_ok l Z a0 hw a (6 : Int32) b n v sb h0 6 aa _ _ _ rfl hb hn (by decide) haa hs.1 hs.2.1 hs.2.2.1 A0 (hxs 6 (by decide)) rfl) e11 (Wk.w hw 10 rfl) (Wk.w hw 11 rfl) (Wk.w hw 8 rfl) (Wk.w hw 12 rfl) (by decide) rfl pd_VarintsPutPinLaw_ok rfl rfl (Nat.le_of_ble_eq_true rfl) (Nat.le_of_ble_eq_true rfl) (Nat.le_of_ble_eq_true rfl) (Nat.le_of_ble_eq_true rfl) 249 rfl fun T13 v13 L13 X13 hQ13 => ?_
              obtain ⟨rfl, e13, rfl⟩ := hQ13
              rw [List.append_nil] at X13
              show Wk.Ends _ _ _ _ _ _ _ (mkF m 249 _ [(.int (1 : Int32))])
              refine Wk.if_eq k X13 at_249 (by decide) 382 252 (by decide) rfl (fun hc249 => ?_) (fun hc249 => ?_)
              · exact absurd hc249 (by decide)
              · refine Wk.aload k X13 at_252 rfl rfl 254 rfl ?_
                refine Wk.bipush k X13 at_254 (7 : Int32) rfl 256 rfl ?_
                refine Wk.iload k X13 at_256 rfl 258 rfl ?_
                refine Wk.iload k X13 at_258 rfl 260 rfl ?_
                refine Wk.lload k X13 at_260 rfl 262 rfl ?_
                refine Wk.iload k X13 at_262 rfl 264 rfl ?_
                refine Wk.callS k X13 [(.ref a), (.int (7 : Int32)), (.int b), (.int n), (.long v), (.int sb)] [] at_264 (rm_ok l Z a0 hw a (7 : Int32) b n v sb h0 7 aa _ _ _ rfl hb hn (by decide) haa hs.1 hs.2.1 hs.2.2.1 A0 (hxs 7 (by decide)) rfl) e13 (Wk.w hw 10 rfl) (Wk.w hw 11 rfl) (Wk.w hw 8 rfl) (Wk.w hw 12 rfl) (by decide) rfl pd_VarintsPutPinLaw_ok rfl rfl (Nat.le_of_ble_eq_true rfl) (Nat.le_of_ble_eq_true rfl) (Nat.le_of_ble_eq_true rfl) (Nat.le_of_ble_eq_true rfl) 267 rfl fun T15 v15 L15 X15 hQ15 => ?_
                obtain ⟨rfl, e15, rfl⟩ := hQ15
                rw [List.append_nil] at X15
                show Wk.Ends _ _ _ _ _ _ _ (mkF m 267 _ [(.int (1 : Int32))])
                refine Wk.if_eq k X15 at_267 (by decide) 382 270 (by decide) rfl (fun hc267 => ?_) (fun hc267 => ?_)
                · exact absurd hc267 (by decide)
                · refine Wk.aload k X15 at_270 rfl rfl 272 rfl ?_
                  refine Wk.bipush k X15 at_272 (8 : Int32) rfl 274 rfl ?_
                  refine Wk.iload k X15 at_274 rfl 276 rfl ?_
                  refine Wk.iload k X15 at_276 rfl 278 rfl ?_
                  refine Wk.lload k X15 at_278 rfl 280 rfl ?_
                  refine Wk.iload k X15 at_280 rfl 282 rfl ?_
                  refine Wk.callS k X15 [(.ref a), (.int (8 : Int32)), (.int b), (.int n), (.long v), (.int sb)] [] at_282 (rm_ok l Z a0 hw a (8 : Int32) b n v sb h0 8 aa _ _ _ rfl hb hn (by decide) haa hs.1 hs.2.1 hs.2.2.1 A0 (hxs 8 (by decide)) rfl) e15 (Wk.w hw 10 rfl) (Wk.w hw 11 rfl) (Wk.w hw 8 rfl) (Wk.w hw 12 rfl) (by decide) rfl pd_VarintsPutPinLaw_ok rfl rfl (Nat.le_of_ble_eq_true rfl) (Nat.le_of_ble_eq_true rfl) (Nat.le_of_ble_eq_true rfl) (Nat.le_of_ble_eq_true rfl) 285 rfl fun T17 v17 L17 X17 hQ17 => ?_
                  obtain ⟨rfl, e17, rfl⟩ := hQ17
                  rw [List.append_nil] at X17
                  show Wk.Ends _ _ _ _ _ _ _ (mkF m 285 _ [(.int (1 : Int32))])
                  refine Wk.if_eq k X17 at_285 (by decide) 382 288 (by decide) rfl (fun hc285 => ?_) (fun hc285 => ?_)
                  · exact absurd hc285 (by decide)
                  · refine Wk.aload k X17 at_288 rfl rfl 290 rfl ?_
                    refine Wk.bipush k X17 at_290 (9 : Int32) rfl 292 rfl ?_
                    refine Wk.iload k X17 at_292 rfl 294 rfl ?_
                    refine Wk.iload k X17 at_294 rfl 296 rfl ?_
                    refine Wk.lload k X17 at_296 rfl 298 rfl ?_
                    refine Wk.iload k X17 at_298 rfl 300 rfl ?_
                    refine Wk.callS k X17 [(.ref a), (.int (9 : Int32)), (.int b), (.int n), (.long v), (.int sb)] [] at_300 (rm_ok l Z a0 hw a (9 : Int32) b n v sb h0 9 aa _ _ _ rfl hb hn (by decide) haa hs.1 hs.2.1 hs.2.2.1 A0 (hxs 9 (by decide)) rfl) e17 (Wk.w hw 10 rfl) (Wk.w hw 11 rfl) (Wk.w hw 8 rfl) (Wk.w hw 12 rfl) (by decide) rfl pd_VarintsPutPinLaw_ok rfl rfl (Nat.le_of_ble_eq_true rfl) (Nat.le_of_ble_eq_true rfl) (Nat.le_of_ble_eq_true rfl) (Nat.le_of_ble_eq_true rfl) 303 rfl fun T19 v19 L19 X19 hQ19 => ?_
                    obtain ⟨rfl, e19, rfl⟩ := hQ19
                    rw [List.append_nil] at X19
                    show Wk.Ends _ _ _ _ _ _ _ (mkF m 303 _ [(.int (1 : Int32))])
                    refine Wk.if_eq k X19 at_303 (by decide) 382 306 (by decide) rfl (fun hc303 => ?_) (fun hc303 => ?_)
                    · exact absurd hc303 (by decide)
                    · refine Wk.aload k X19 at_306 rfl rfl 308 rfl ?_
                      refine Wk.bipush k X19 at_308 (10 : Int32) rfl 310 rfl ?_
                      refine Wk.iload k X19 at_310 rfl 312 rfl ?_
                      refine Wk.iload k X19 at_312 rfl 314 rfl ?_
                      refine Wk.lload k X19 at_314 rfl 316 rfl ?_
                      refine Wk.iload k X19 at_316 rfl 318 rfl ?_
                      refine Wk.callS k X19 [(.ref a), (.int (10 : Int32)), (.int b), (.int n), (.long v), (.int sb)] [] at_318 (rm_ok l Z a0 hw a (10 : Int32) b n v sb h0 10 aa _ _ _ rfl hb hn (by decide) haa hs.1 hs.2.1 hs.2.2.1 A0 (hxs 10 (by decide)) rfl) e19 (Wk.w hw 10 rfl) (Wk.w hw 11 rfl) (Wk.w hw 8 rfl) (Wk.w hw 12 rfl) (by decide) rfl pd_VarintsPutPinLaw_ok rfl rfl (Nat.le_of_ble_eq_true rfl) (Nat.le_of_ble_eq_true rfl) (Nat.le_of_ble_eq_true rfl) (Nat.le_of_ble_eq_true rfl) 321 rfl fun T21 v21 L21 X21 hQ21 => ?_
                      obtain ⟨rfl, e21, rfl⟩ := hQ21
                      rw [List.append_nil] at X21
                      show Wk.Ends _ _ _ _ _ _ _ (mkF m 321 _ [(.int (1 : Int32))])
                      refine Wk.if_eq k X21 at_321 (by decide) 382 324 (by decide) rfl (fun hc321 => ?_) (fun hc321 => ?_)
                      · exact absurd hc321 (by decide)
                      · refine Wk.aload k X21 at_324 rfl rfl 326 rfl ?_
                        refine Wk.bipush k X21 at_326 (11 : Int32) rfl 328 rfl ?_
                        refine Wk.iload k X21 at_328 rfl 330 rfl ?_
                        refine Wk.iload k X21 at_330 rfl 332 rfl ?_
                        refine Wk.lload k X21 at_332 rfl 334 rfl ?_
                        refine Wk.iload k X21 at_334 rfl 336 rfl ?_
                        refine Wk.callS k X21 [(.ref a), (.int (11 : Int32)), (.int b), (.int n), (.long v), (.int sb)] [] at_336 (rm_ok l Z a0 hw a (11 : Int32) b n v sb h0 11 aa _ _ _ rfl hb hn (by decide) haa hs.1 hs.2.1 hs.2.2.1 A0 (hxs 11 (by decide)) rfl) e21 (Wk.w hw 10 rfl) (Wk.w hw 11 rfl) (Wk.w hw 8 rfl) (Wk.w hw 12 rfl) (by decide) rfl pd_VarintsPutPinLaw_ok rfl rfl (Nat.le_of_ble_eq_true rfl) (Nat.le_of_ble_eq_true rfl) (Nat.le_of_ble_eq_true rfl) (Nat.le_of_ble_eq_true rfl) 339 rfl fun T23 v23 L23 X23 hQ23 => ?_
                        obtain ⟨rfl, e23, rfl⟩ := hQ23
                        rw [List.append_nil] at X23
                        show Wk.Ends _ _ _ _ _ _ _ (mkF m 339 _ [(.int (1 : Int32))])
                        refine Wk.if_eq k X23 at_339 (by decide) 382 342 (by decide) rfl (fun hc339 => ?_) (fun hc339 => ?_)
                        · exact absurd hc339 (by decide)
                        · refine Wk.aload k X23 at_342 rfl rfl 344 rfl ?_
                          refine Wk.bipush k X23 at_344 (12 : Int32) rfl 346 rfl ?_
                          refine Wk.iload k X23 at_346 rfl 348 rfl ?_
                          refine Wk.iload k X23 at_348 rfl 350 rfl ?_
                          refine Wk.lload k X23 at_350 rfl 352 rfl ?_
                          refine Wk.iload k X23 at_352 rfl 354 rfl ?_
                          refine Wk.callS k X23 [(.ref a), (.int (12 : Int32)), (.int b), (.int n), (.long v), (.int sb)] [] at_354 (rm_ok l Z a0 hw a (12 : Int32) b n v sb h0 12 aa _ _ _ rfl hb hn (by decide) haa hs.1 hs.2.1 hs.2.2.1 A0 (hxs 12 (by decide)) rfl) e23 (Wk.w hw 10 rfl) (Wk.w hw 11 rfl) (Wk.w hw 8 rfl) (Wk.w hw 12 rfl) (by decide) rfl pd_VarintsPutPinLaw_ok rfl rfl (Nat.le_of_ble_eq_true rfl) (Nat.le_of_ble_eq_true rfl) (Nat.le_of_ble_eq_true rfl) (Nat.le_of_ble_eq_true rfl) 357 rfl fun T25 v25 L25 X25 hQ25 => ?_
                          obtain ⟨rfl, e25, rfl⟩ := hQ25
                          rw [List.append_nil] at X25
                          show Wk.Ends _ _ _ _ _ _ _ (mkF m 357 _ [(.int (1 : Int32))])
                          refine Wk.if_eq k X25 at_357 (by decide) 382 360 (by decide) rfl (fun hc357 => ?_) (fun hc357 => ?_)
                          · exact absurd hc357 (by decide)
                          · refine Wk.aload k X25 at_360 rfl rfl 362 rfl ?_
                            refine Wk.bipush k X25 at_362 (13 : Int32) rfl 364 rfl ?_
                            refine Wk.iload k X25 at_364 rfl 366 rfl ?_
                            refine Wk.iload k X25 at_366 rfl 368 rfl ?_
                            refine Wk.lload k X25 at_368 rfl 370 rfl ?_
                            refine Wk.iload k X25 at_370 rfl 372 rfl ?_
                            refine Wk.callS k X25 [(.ref a), (.int (13 : Int32)), (.int b), (.int n), (.long v), (.int sb)] [] at_372 (rm_ok l Z a0 hw a (13 : Int32) b n v sb h0 13 aa _ _ _ rfl hb hn (by decide) haa hs.1 hs.2.1 hs.2.2.1 A0 (hxs 13 (by decide)) rfl) e25 (Wk.w hw 10 rfl) (Wk.w hw 11 rfl) (Wk.w hw 8 rfl) (Wk.w hw 12 rfl) (by decide) rfl pd_VarintsPutPinLaw_ok rfl rfl (Nat.le_of_ble_eq_true rfl) (Nat.le_of_ble_eq_true rfl) (Nat.le_of_ble_eq_true rfl) (Nat.le_of_ble_eq_true rfl) 375 rfl fun T27 v27 L27 X27 hQ27 => ?_
                            obtain ⟨rfl, e27, rfl⟩ := hQ27
                            rw [List.append_nil] at X27
                            show Wk.Ends _ _ _ _ _ _ _ (mkF m 375 _ [(.int (1 : Int32))])
                            refine Wk.if_eq k X27 at_375 (by decide) 382 378 (by decide) rfl (fun hc375 => ?_) (fun hc375 => ?_)
                            · exact absurd hc375 (by decide)
                            · refine Wk.iconst k X27 at_378 (1 : Int32) rfl 379 rfl ?_
                              refine Wk.goto k X27 at_379 (by decide) 383 (by decide) ?_
                              exact Wk.ret_bool k X27 rfl at_383 (by decide) (by decide) (by decide) ⟨rfl, N0⟩
set_option maxRecDepth 65536 in
set_option maxHeartbeats 40000000 in
theorem law_18 {p : Program} {l : Launch} {e : Env} {s : State} {m : MethodId} {args : Array Value} {below : List Frame} {meth : Method} {c : Code} {Z : State} {a0 : Array Value} {h0 : Heap} {n0 : Nat} {T0 : State} (hw : ∀ d ∈ tables_1, d.before a0 Z = true) (k : Wk.K p s m meth c Z x code maxLocals ret) (X0 : Stand p l e room_1 s m args below meth c T0 [] 0 0) (q0 : Int64) (p2 p3 p4 : Int32) (v : Int64) (b sb : Int32) (aa : Nat) (e0 : T0.heap = h0) (Z0 : n0 ≤ h0.size) (N0 : Fr n0 []) (hb : b.toInt = (aa : Int)) (haa : aa ≤ 3) (hsb : sb.toInt8.toInt32 = sb) : Wk.Ends p e s below room_1 (fun v _ L => v = some (.int 1) ∧ Fr n0 L) T0 (mkF m 18 #[.val (.long q0), .second, .val (.int p2), .val (.int p3), .val (.int p4), .val (.long v), .second, .val (.int b), .val (.int sb), .unset, .unset, .unset] []) := by
  have hs := own_n_spec (own_u v) (own_u_lt v)
  refine Wk.bipush k X0 at_18 (14 : Int32) rfl 20 rfl ?_
  refine Wk.newarray k X0 at_20 (Wk.w hw 0 rfl) e0 14 rfl 14 (by decide) (by decide) (by decide) (by decide) 22 rfl fun T29 h29 b29 q29 X29 e29 E29 A29 => ?_
  have g29 : n0 ≤ b29 := by rw [q29]; exact Z0
  have sz29 := Nat.le_trans Z0 E29.1
  have A29' : Wk.Arl Z h29 b29 .byte (([(0 : Int32), (0 : Int32), (0 : Int32), (0 : Int32), (0 : Int32), (0 : Int32), (0 : Int32), (0 : Int32), (0 : Int32), (0 : Int32), (0 : Int32), (0 : Int32), (0 : Int32), (0 : Int32)] : List Int32).map Value.int) := A29
  refine Wk.dup k X29 at_22 rfl 23 rfl ?_
  refine Wk.iconst k X29 at_23 (0 : Int32) rfl 24 rfl ?_
  refine Wk.iload k X29 at_24 rfl 26 rfl ?_
  refine Wk.bastore k X29 (x := sb) at_26 e29 A29' 0 rfl (show 0 < 14 from by decide) sb hsb 27 rfl fun T30 h30 X30 e30 W30 A30 => ?_
  have sz30 : n0 ≤ h30.size := by rw [W30.size]; exact sz29
  have N31 := Fr.snoc X30 N0 g29
  have A30' : Wk.Arl Z h30 b29 .byte (([sb, (0 : Int32), (0 : Int32), (0 : Int32), (0 : Int32), (0 : Int32), (0 : Int32), (0 : Int32), (0 : Int32), (0 : Int32), (0 : Int32), (0 : Int32), (0 : Int32), (0 : Int32)] : List Int32).map Value.int) := A30
  refine Wk.dup k X30 at_27 rfl 28 rfl ?_
  refine Wk.iconst k X30 at_28 (1 : Int32) rfl 29 rfl ?_
  refine Wk.iload k X30 at_29 rfl 31 rfl ?_
  refine Wk.bastore k X30 (x := sb) at_31 e30 A30' 1 rfl (show 1 < 14 from by decide) sb hsb 32 rfl fun T32 h32 X32 e32 W32 A32 => ?_
  have sz32 : n0 ≤ h32.size := by rw [W32.size]; exact sz30
  have N33 := Fr.snoc X32 N31 g29
  have A32' : Wk.Arl Z h32 b29 .byte (([sb, sb, (0 : Int32), (0 : Int32), (0 : Int32), (0 : Int32), (0 : Int32), (0 : Int32), (0 : Int32), (0 : Int32), (0 : Int32), (0 : Int32), (0 : Int32), (0 : Int32)] : List Int32).map Value.int) := A32
  refine Wk.dup k X32 at_32 rfl 33 rfl ?_
  refine Wk.iconst k X32 at_33 (2 : Int32) rfl 34 rfl ?_
  refine Wk.iload k X32 at_34 rfl 36 rfl ?_
  refine Wk.bastore k X32 (x := sb) at_36 e32 A32' 2 rfl (show 2 < 14 from by decide) sb hsb 37 rfl fun T34 h34 X34 e34 W34 A34 => ?_
  have sz34 : n0 ≤ h34.size := by rw [W34.size]; exact sz32
  have N35 := Fr.snoc X34 N33 g29
  have A34' : Wk.Arl Z h34 b29 .byte (([sb, sb, sb, (0 : Int32), (0 : Int32), (0 : Int32), (0 : Int32), (0 : Int32), (0 : Int32), (0 : Int32), (0 : Int32), (0 : Int32), (0 : Int32), (0 : Int32)] : List Int32).map Value.int) := A34
  refine Wk.dup k X34 at_37 rfl 38 rfl ?_
  refine Wk.iconst k X34 at_38 (3 : Int32) rfl 39 rfl ?_
  refine Wk.iload k X34 at_39 rfl 41 rfl ?_
  refine Wk.bastore k X34 (x := sb) at_41 e34 A34' 3 rfl (show 3 < 14 from by decide) sb hsb 42 rfl fun T36 h36 X36 e36 W36 A36 => ?_
  have sz36 : n0 ≤ h36.size := by rw [W36.size]; exact sz34
  have N37 := Fr.snoc X36 N35 g29
  have A36' : Wk.Arl Z h36 b29 .byte (([sb, sb, sb, sb, (0 : Int32), (0 : Int32), (0 : Int32), (0 : Int32), (0 : Int32), (0 : Int32), (0 : Int32), (0 : Int32), (0 : Int32), (0 : Int32)] : List Int32).map Value.int) := A36
  refine Wk.dup k X36 at_42 rfl 43 rfl ?_
  refine Wk.iconst k X36 at_43 (4 : Int32) rfl 44 rfl ?_
  refine Wk.iload k X36 at_44 rfl 46 rfl ?_
  refine Wk.bastore k X36 (x := sb) at_46 e36 A36' 4 rfl (show 4 < 14 from by decide) sb hsb 47 rfl fun T38 h38 X38 e38 W38 A38 => ?_
  have sz38 : n0 ≤ h38.size := by rw [W38.size]; exact sz36
  have N39 := Fr.snoc X38 N37 g29
  have A38' : Wk.Arl Z h38 b29 .byte (([sb, sb, sb, sb, sb, (0 : Int32), (0 : Int32), (0 : Int32), (0 : Int32), (0 : Int32), (0 : Int32), (0 : Int32), (0 : Int32), (0 : Int32)] : List Int32).map Value.int) := A38
  refine Wk.dup k X38 at_47 rfl 48 rfl ?_
  refine Wk.iconst k X38 at_48 (5 : Int32) rfl 49 rfl ?_
  refine Wk.iload k X38 at_49 rfl 51 rfl ?_
  refine Wk.bastore k X38 (x := sb) at_51 e38 A38' 5 rfl (show 5 < 14 from by decide) sb hsb 52 rfl fun T40 h40 X40 e40 W40 A40 => ?_
  have sz40 : n0 ≤ h40.size := by rw [W40.size]; exact sz38
  have N41 := Fr.snoc X40 N39 g29
  have A40' : Wk.Arl Z h40 b29 .byte (([sb, sb, sb, sb, sb, sb, (0 : Int32), (0 : Int32), (0 : Int32), (0 : Int32), (0 : Int32), (0 : Int32), (0 : Int32), (0 : Int32)] : List Int32).map Value.int) := A40
  refine Wk.dup k X40 at_52 rfl 53 rfl ?_
  refine Wk.bipush k X40 at_53 (6 : Int32) rfl 55 rfl ?_
  refine Wk.iload k X40 at_55 rfl 57 rfl ?_
  refine Wk.bastore k X40 (x := sb) at_57 e40 A40' 6 rfl (show 6 < 14 from by decide) sb hsb 58 rfl fun T42 h42 X42 e42 W42 A42 => ?_
  have sz42 : n0 ≤ h42.size := by rw [W42.size]; exact sz40
  have N43 := Fr.snoc X42 N41 g29
  have A42' : Wk.Arl Z h42 b29 .byte (([sb, sb, sb, sb, sb, sb, sb, (0 : Int32), (0 : Int32), (0 : Int32), (0 : Int32), (0 : Int32), (0 : Int32), (0 : Int32)] : List Int32).map Value.int) := A42
  refine Wk.dup k X42 at_58 rfl 59 rfl ?_
  refine Wk.bipush k X42 at_59 (7 : Int32) rfl 61 rfl ?_
  refine Wk.iload k X42 at_61 rfl 63 rfl ?_
  refine Wk.bastore k X42 (x := sb) at_63 e42 A42' 7 rfl (show 7 < 14 from by decide) sb hsb 64 rfl fun T44 h44 X44 e44 W44 A44 => ?_
  have sz44 : n0 ≤ h44.size := by rw [W44.size]; exact sz42
  have N45 := Fr.snoc X44 N43 g29
  have A44' : Wk.Arl Z h44 b29 .byte (([sb, sb, sb, sb, sb, sb, sb, sb, (0 : Int32), (0 : Int32), (0 : Int32), (0 : Int32), (0 : Int32), (0 : Int32)] : List Int32).map Value.int) := A44
  refine Wk.dup k X44 at_64 rfl 65 rfl ?_
  refine Wk.bipush k X44 at_65 (8 : Int32) rfl 67 rfl ?_
  refine Wk.iload k X44 at_67 rfl 69 rfl ?_
  refine Wk.bastore k X44 (x := sb) at_69 e44 A44' 8 rfl (show 8 < 14 from by decide) sb hsb 70 rfl fun T46 h46 X46 e46 W46 A46 => ?_
  have sz46 : n0 ≤ h46.size := by rw [W46.size]; exact sz44
  have N47 := Fr.snoc X46 N45 g29
  have A46' : Wk.Arl Z h46 b29 .byte (([sb, sb, sb, sb, sb, sb, sb, sb, sb, (0 : Int32), (0 : Int32), (0 : Int32), (0 : Int32), (0 : Int32)] : List Int32).map Value.int) := A46
  refine Wk.dup k X46 at_70 rfl 71 rfl ?_
  refine Wk.bipush k X46 at_71 (9 : Int32) rfl 73 rfl ?_
  refine Wk.iload k X46 at_73 rfl 75 rfl ?_
  refine Wk.bastore k X46 (x := sb) at_75 e46 A46' 9 rfl (show 9 < 14 from by decide) sb hsb 76 rfl fun T48 h48 X48 e48 W48 A48 => ?_
  have sz48 : n0 ≤ h48.size := by rw [W48.size]; exact sz46
  have N49 := Fr.snoc X48 N47 g29
  have A48' : Wk.Arl Z h48 b29 .byte (([sb, sb, sb, sb, sb, sb, sb, sb, sb, sb, (0 : Int32), (0 : Int32), (0 : Int32), (0 : Int32)] : List Int32).map Value.int) := A48
  refine Wk.dup k X48 at_76 rfl 77 rfl ?_
  refine Wk.bipush k X48 at_77 (10 : Int32) rfl 79 rfl ?_
  refine Wk.iload k X48 at_79 rfl 81 rfl ?_
  refine Wk.bastore k X48 (x := sb) at_81 e48 A48' 10 rfl (show 10 < 14 from by decide) sb hsb 82 rfl fun T50 h50 X50 e50 W50 A50 => ?_
  have sz50 : n0 ≤ h50.size := by rw [W50.size]; exact sz48
  have N51 := Fr.snoc X50 N49 g29
  have A50' : Wk.Arl Z h50 b29 .byte (([sb, sb, sb, sb, sb, sb, sb, sb, sb, sb, sb, (0 : Int32), (0 : Int32), (0 : Int32)] : List Int32).map Value.int) := A50
  refine Wk.dup k X50 at_82 rfl 83 rfl ?_
  refine Wk.bipush k X50 at_83 (11 : Int32) rfl 85 rfl ?_
  refine Wk.iload k X50 at_85 rfl 87 rfl ?_
  refine Wk.bastore k X50 (x := sb) at_87 e50 A50' 11 rfl (show 11 < 14 from by decide) sb hsb 88 rfl fun T52 h52 X52 e52 W52 A52 => ?_
  have sz52 : n0 ≤ h52.size := by rw [W52.size]; exact sz50
  have N53 := Fr.snoc X52 N51 g29
  have A52' : Wk.Arl Z h52 b29 .byte (([sb, sb, sb, sb, sb, sb, sb, sb, sb, sb, sb, sb, (0 : Int32), (0 : Int32)] : List Int32).map Value.int) := A52
  refine Wk.dup k X52 at_88 rfl 89 rfl ?_
  refine Wk.bipush k X52 at_89 (12 : Int32) rfl 91 rfl ?_
  refine Wk.iload k X52 at_91 rfl 93 rfl ?_
  refine Wk.bastore k X52 (x := sb) at_93 e52 A52' 12 rfl (show 12 < 14 from by decide) sb hsb 94 rfl fun T54 h54 X54 e54 W54 A54 => ?_
  have sz54 : n0 ≤ h54.size := by rw [W54.size]; exact sz52
  have N55 := Fr.snoc X54 N53 g29
  have A54' : Wk.Arl Z h54 b29 .byte (([sb, sb, sb, sb, sb, sb, sb, sb, sb, sb, sb, sb, sb, (0 : Int32)] : List Int32).map Value.int) := A54
  refine Wk.dup k X54 at_94 rfl 95 rfl ?_
  refine Wk.bipush k X54 at_95 (13 : Int32) rfl 97 rfl ?_
  refine Wk.iload k X54 at_97 rfl 99 rfl ?_
  refine Wk.bastore k X54 (x := sb) at_99 e54 A54' 13 rfl (show 13 < 14 from by decide) sb hsb 100 rfl fun T56 h56 X56 e56 W56 A56 => ?_
  have sz56 : n0 ≤ h56.size := by rw [W56.size]; exact sz54
  have N57 := Fr.snoc X56 N55 g29
  have A56' : Wk.Arl Z h56 b29 .byte (([sb, sb, sb, sb, sb, sb, sb, sb, sb, sb, sb, sb, sb, sb] : List Int32).map Value.int) := A56
  refine Wk.astore k X56 at_100 rfl #[.val (.long q0), .second, .val (.int p2), .val (.int p3), .val (.int p4), .val (.long v), .second, .val (.int b), .val (.int sb), .val (.ref b29), .unset, .unset] rfl 102 rfl ?_
  refine Wk.aload k X56 at_102 rfl rfl 104 rfl ?_
  refine Wk.iload k X56 at_104 rfl 106 rfl ?_
  refine Wk.lload k X56 at_106 rfl 108 rfl ?_
  refine Wk.callS k X56 [(.ref b29), (.int b), (.long v)] [] at_108 (rm_put l Z a0 hw b29 b v aa _ h56 n0 hb (by omega) (by show aa + _ ≤ 14; omega) A56' g29) e56 (Wk.w hw 1 rfl) (Wk.w hw 2 rfl) (Wk.w hw 3 rfl) (Wk.w hw 4 rfl) (by decide) rfl pd_Varints_put rfl rfl (Nat.le_of_ble_eq_true rfl) (Nat.le_of_ble_eq_true rfl) (Nat.le_of_ble_eq_true rfl) (Nat.le_of_ble_eq_true rfl) 111 rfl fun T58 v58 L58 X58 hQ58 => ?_
  obtain ⟨z, rfl, hz, N58q, K58, A58⟩ := hQ58
  show Wk.Ends _ _ _ _ _ _ _ (mkF m 111 _ [(.int z)])
  have N58 := Fr.app N57 N58q
  refine Wk.istore k X58 at_111 #[.val (.long q0), .second, .val (.int p2), .val (.int p3), .val (.int p4), .val (.long v), .second, .val (.int b), .val (.int sb), .val (.ref b29), .val (.int z), .unset] rfl 113 rfl ?_
  refine Wk.lload k X58 at_113 rfl 115 rfl ?_
  refine Wk.callS k X58 [(.long v)] [] at_115 (rm_len l Z a0 hw v _) (rfl : T58.heap = T58.heap) (Wk.w hw 6 rfl) (Wk.w hw 7 rfl) (Wk.w hw 8 rfl) (Wk.w hw 9 rfl) (by decide) rfl pd_VarintsPutPinLaw_len rfl rfl (Nat.le_of_ble_eq_true rfl) (Nat.le_of_ble_eq_true rfl) (Nat.le_of_ble_eq_true rfl) (Nat.le_of_ble_eq_true rfl) 118 rfl fun T59 v59 L59 X59 hQ59 => ?_
  obtain ⟨n, rfl, hn, e59, rfl⟩ := hQ59
  rw [List.append_nil] at X59
  show Wk.Ends _ _ _ _ _ _ _ (mkF m 118 _ [(.int n)])
  refine Wk.istore k X59 at_118 #[.val (.long q0), .second, .val (.int p2), .val (.int p3), .val (.int p4), .val (.long v), .second, .val (.int b), .val (.int sb), .val (.ref b29), .val (.int z), .val (.int n)] rfl 120 rfl ?_
  refine Wk.iload k X59 at_120 rfl 122 rfl ?_
  refine Wk.iload k X59 at_122 rfl 124 rfl ?_
  refine Wk.iload k X59 at_124 rfl 126 rfl ?_
  refine Wk.iadd k X59 at_126 127 rfl ?_
  refine Wk.icmp_eq k X59 at_127 (by decide) 132 130 (by decide) rfl (fun hc127 => ?_) (fun hc127 => ?_)
  · exact law_132 hw k X59 q0 p2 p3 p4 b29 v b sb z n aa e59 N58 hb haa hn A58
  · exact absurd (Int32.toInt_inj.mp (by have q := c_iadd b n; have r := rng32 (b + n); omega)) hc127
theorem ef_law (m : MethodId) (q0 : Int64) (p2 p3 p4 : Int32) : entryFrame m #[(.long q0), (.int p2), (.int p3), (.int p4)] maxLocals = mkF m 0 #[.val (.long q0), .second, .val (.int p2), .val (.int p3), .val (.int p4), .unset, .unset, .unset, .unset, .unset, .unset, .unset] [] := by first | (simp [entryFrame, mkF, argsToLocals, Value.category, maxLocals]; done) | rfl
set_option maxRecDepth 65536 in
set_option maxHeartbeats 40000000 in
theorem rm0 (l : Launch) (Z : State) (a0 : Array Value) (hw : ∀ d ∈ tables_1, d.before a0 Z = true) (ws : List Jvm.Cond) (q0 : Int64) (p2 p3 p4 : Int32) (h0 : Heap) (n0 : Nat) (Z0 : n0 ≤ h0.size) : Wk.Met l x code maxLocals ret room_1 #[(.long q0), (.int p2), (.int p3), (.int p4)] Z h0 (fun v _ L => v = some (.int 1) ∧ Fr n0 L) ws := by
  refine Wk.enter pn_VarintsPutPinLaw_law (fun p e s m below meth c T0 k X0 e0 => ?_)
  refine (Wk.Ends.cast (ef_law m q0 p2 p3 p4) ?_)
  refine Wk.lload_n k X0 at_0 rfl 1 rfl ?_
  refine Wk.iload_n k X0 at_1 rfl 2 rfl ?_
  refine Wk.bipush k X0 at_2 (63 : Int32) rfl 4 rfl ?_
  refine Wk.iand k X0 at_4 5 rfl ?_
  refine Wk.lushr k X0 at_5 6 rfl ?_
  refine Wk.lstore k X0 at_6 #[.val (.long q0), .second, .val (.int p2), .val (.int p3), .val (.int p4), .val (.long (((q0).toUInt64 >>> ((p2 &&& (63 : Int32)) &&& 0x3f).toInt64.toUInt64).toInt64)), .second, .unset, .unset, .unset, .unset, .unset] rfl 8 rfl ?_
  refine Wk.iload_n k X0 at_8 rfl 9 rfl ?_
  refine Wk.iconst k X0 at_9 (3 : Int32) rfl 10 rfl ?_
  refine Wk.iand k X0 at_10 11 rfl ?_
  refine Wk.istore k X0 at_11 #[.val (.long q0), .second, .val (.int p2), .val (.int p3), .val (.int p4), .val (.long (((q0).toUInt64 >>> ((p2 &&& (63 : Int32)) &&& 0x3f).toInt64.toUInt64).toInt64)), .second, .val (.int (p3 &&& (3 : Int32))), .unset, .unset, .unset, .unset] rfl 13 rfl ?_
  refine Wk.iload k X0 at_13 rfl 15 rfl ?_
  refine Wk.i2b k X0 at_15 16 rfl ?_
  refine Wk.istore k X0 at_16 #[.val (.long q0), .second, .val (.int p2), .val (.int p3), .val (.int p4), .val (.long (((q0).toUInt64 >>> ((p2 &&& (63 : Int32)) &&& 0x3f).toInt64.toUInt64).toInt64)), .second, .val (.int (p3 &&& (3 : Int32))), .val (.int ((p4).toInt8.toInt32)), .unset, .unset, .unset] rfl 18 rfl ?_
  have hm := c_mask p3 3 2 (by decide) (by decide)
  exact law_18 hw k X0 q0 p2 p3 p4 _ _ _ ((p3 &&& (3 : Int32)).toInt.toNat) e0 Z0 (Fr.nil _) (by omega) (by omega) (own_b8 _)
set_option maxRecDepth 65536 in
set_option maxHeartbeats 40000000 in
theorem comes_1 {Post : Tables → Env → Array Value → State → Outcome → State → Prop} (hpost : ∀ tb e args s v u, (limb_1_1.after args s (.returned v) u = true ∧ limb_1_2.after args s (.returned v) u = true) → FrameEnd s (.returned v) u (Jvm.fieldLocs frame_1_writes args s ++ Jvm.arrayLocs frame_1_arrays args s ++ Jvm.staticLocs frame_1_statics s) 16 128 → Post tb e args s (.returned v) u) :
    ArmFor flags0 classFile x code maxLocals ret World_1 tables_1 room_1 Calls_1 rest_1 Pre_1 Post := by
  intro l hfl _ _ p e ha hc hk s m args below hf hA hF happ hP
  obtain ⟨hcalls, hrest, hpre⟩ := hP
  obtain ⟨-, -, -, hnamed, -, -, -, hat⟩ := (Spec.applies_iff hf).mp happ
  obtain ⟨hg, hn⟩ := and_e (Cond.before_iff.mp (show (Jvm.Cond.and given_1 narrow_1).before args s = true from hpre))
  obtain ⟨gc, g0⟩ := and_e hg
  obtain ⟨q0, g1⟩ := and_e g0
  obtain ⟨q1, g2⟩ := and_e g1
  obtain ⟨q2, g3⟩ := and_e g2
  have q3 := g3
  obtain ⟨w0, w1, w2, w3, rfl⟩ : ∃ w0 w1 w2 w3 : Value, args = #[w0, w1, w2, w3] := by
    have hs : args.size = 4 := by simpa [Cond.value, given_1] using gc
    obtain ⟨L⟩ := args
    match L, hs with
    | [w0, w1, w2, w3], _ => exact ⟨w0, w1, w2, w3, rfl⟩
  have hw := fun d (hd : d ∈ tables_1) => atoms_spec (ws := Jvm.Cond.code x code maxLocals ret :: tables_1) hat d (List.mem_cons_of_mem _ hd)
  have hfit : Fit s := fun {y c} hc i hi => by
    obtain ⟨ha, rfl⟩ := Array.getElem?_eq_some_iff.mp hc
    have q := List.all_eq_true.mp ((Array.all_eq_true_iff_forall_mem.mp hF) _ (Array.getElem_mem ha)) i (List.mem_range.mpr hi)
    simpa [Array.getElem?_eq_getElem hi] using q
  obtain ⟨i0, ei0⟩ := isL_v q0
  obtain rfl : w0 = (.long i0) := Option.some.inj ei0
  obtain ⟨i1, ei1⟩ := is_v q1
  obtain rfl : w1 = (.int i1) := Option.some.inj ei1
  obtain ⟨i2, ei2⟩ := is_v q2
  obtain rfl : w2 = (.int i2) := Option.some.inj ei2
  obtain ⟨i3, ei3⟩ := is_v q3
  obtain rfl : w3 = (.int i3) := Option.some.inj ei3
  obtain ⟨n, o, h1, h2, h3, _, L, rfl, ⟨rfl, N⟩, hq⟩ := rm0 l s _ hw tables_1 i0 i1 i2 i3 s.heap s.heap.size (Nat.le_refl _) p e ha hc hk s m _ below hf ((Spec.applies_iff_loose hf).mp happ).1 ⟨rfl, State.Warmed39.refl s, rfl⟩ trivial
  exact ⟨n, _, h1, h2, h3, hpost _ _ _ _ _ _ ⟨Cond.after_iff.mpr rfl, Cond.after_iff.mpr (eq_i res_at (Term.int_eval (1)) rfl)⟩ ⟨hq.1, hq.2.1, (hq.2.2.sift fun y hy => Or.inr (N y hy)).mono (by decide) (by decide)⟩⟩
theorem main_1_1 : Claimed_1_1 := comes_1 fun _ _ _ _ _ _ h hF => ⟨h.1, hF⟩
theorem main_1_2 : Claimed_1_2 := comes_1 fun _ _ _ _ _ _ h hF => ⟨h.2, hF⟩
end Jvm.Pilot.@@N@@
namespace Jvm.Pilot.@@N@@
open Jvm Jvm.ClassFile Sem Op Lib Jvm.Free Jvm.Stand Jvm.Pilot.@@N@@.Jvm.D
/-! MADE BY PROGRAM (witnessworld.py) out of the Statement's table words and the real class files: 9 classes; the members and pool entries that the words name. The judged class is class 1, her method 3. -/
namespace start1
open Jvm.ClassFile
def u (s : String) : CpInfo := .utf8 (stringToUtf16 s)
/-- a pool by its gaps: so many unusable entries, then the entry; so many at the end -/
def gap : Nat → List CpInfo → List CpInfo
  | 0, r => r
  | n + 1, r => .unusable :: gap n r
def poolList (es : List (Nat × CpInfo)) (last : Nat) : List CpInfo := es.foldr (fun e r => gap e.1 (e.2 :: r)) (gap last [])
def pool (es : List (Nat × CpInfo)) (last : Nat) : Array CpInfo := ⟨poolList es last⟩
def fileOf (pool : Array CpInfo) (this : Nat) (attrs : Array Attribute := #[]) (ms : Array MethodInfo := #[]) (fl : Nat := 33) (sup : Nat := 0) (ifs : Array Nat := #[]) (fds : Array FieldInfo := #[]) : ClassFile where
  minorVersion := 0
  majorVersion := 65
  constantPool := pool
  accessFlags := fl
  thisClass := this
  superClass := sup
  interfaces := ifs
  fields := fds
  methods := ms
  attributes := attrs
def plain (name : String) (sup : Option ClassId) : Class where
  name := name
  kind := .ordinary
  loader := none
  accessFlags := 33
  super := sup
  interfaces := #[]
  cf := none
  fields := #[]
  methods := #[]
  instanceTypes := #[]
  staticTypes := #[]
  resolved := #[]
  callSites := []
  init := .initialized
  statics := none
  mirror := none

def pool0 : Array CpInfo := pool [(5, u "<init>"), (0, u "()V"), (1, .class_ 10), (1, u "java/lang/Object")] 113

def k0m0 : Method := { name := "<init>", desc := "()V", sig := { parameters := [], returnType := none }, accessFlags := 1, code := none }
/-- java/lang/Object -/
def k0 : Class := { plain "java/lang/Object" none with
  accessFlags := 33
  interfaces := #[]
  cf := some (fileOf pool0 8 #[] #[{ accessFlags := 1, nameIndex := 5, descriptorIndex := 6, attributes := #[] }] 33 0 #[] #[])
  fields := #[]
  methods := #[k0m0]
  instanceTypes := #[]
  staticTypes := #[]
  resolved := Array.replicate 124 none
  statics := none }

def pool1 : Array CpInfo := pool [(2, .class_ 4), (1, u "java/lang/Object"), (0, u "<init>"), (0, u "()V"), (0, .long 127), (1, .methodref 10 11), (0, .class_ 12), (0, .nameAndType 13 14), (0, u "com/example/lestr/lestr/stream/Varints"), (0, u "put"), (0, u "([BIJ)I"), (0, .methodref 16 17), (0, .class_ 18), (0, .nameAndType 19 20), (0, u "com/example/lestr/lestr/stream/VarintsPutPinLaw"), (0, u "len"), (0, u "(J)I"), (0, .methodref 16 22), (0, .nameAndType 23 24), (0, u "ok"), (0, u "([BIIIJB)Z"), (3, u "law"), (0, u "(JIII)Z")] 4

def k1m0 : Method := { name := "<init>", desc := "()V", sig := { parameters := [], returnType := none }, accessFlags := 2, code := none }
def k1c1 : Code := { maxStack := 4, maxLocals := 2, code := method_2_code, exceptionTable := #[], attributes := #[] }
def k1m1 : Method := { name := "len", desc := "(J)I", sig := { parameters := [.long], returnType := some .int }, accessFlags := 10, code := some k1c1 }
def k1c2 : Code := { maxStack := 4, maxLocals := 10, code := method_3_code, exceptionTable := #[], attributes := #[] }
def k1m2 : Method := { name := "ok", desc := "([BIIIJB)Z", sig := { parameters := [(.array .byte), .int, .int, .int, .long, .byte], returnType := some .boolean }, accessFlags := 10, code := some k1c2 }
def k1c3 : Code := { maxStack := 7, maxLocals := 12, code := code, exceptionTable := #[], attributes := #[] }
def k1m3 : Method := { name := "law", desc := "(JIII)Z", sig := { parameters := [.long, .int, .int, .int], returnType := some .boolean }, accessFlags := 9, code := some k1c3 }
/-- com/example/lestr/lestr/stream/VarintsPutPinLaw -/
def k1 : Class := { plain "com/example/lestr/lestr/stream/VarintsPutPinLaw" (some 0) with
  accessFlags := 49
  interfaces := #[]
  cf := some (fileOf pool1 16 #[] #[{ accessFlags := 2, nameIndex := 5, descriptorIndex := 6, attributes := #[] }, { accessFlags := 10, nameIndex := 19, descriptorIndex := 20, attributes := #[] }, { accessFlags := 10, nameIndex := 23, descriptorIndex := 24, attributes := #[] }, { accessFlags := 9, nameIndex := 28, descriptorIndex := 29, attributes := #[] }] 49 2 #[] #[])
  fields := #[]
  methods := #[k1m0, k1m1, k1m2, k1m3]
  instanceTypes := #[]
  staticTypes := #[]
  resolved := Array.replicate 34 none
  statics := none }

def pool2 : Array CpInfo := pool [(2, .class_ 4), (1, u "java/lang/Object"), (0, u "<init>"), (0, u "()V"), (0, .long 18446744073709551488), (1, .long 127), (1, .long 128), (14, .class_ 27), (0, u "com/example/lestr/lestr/stream/Varints"), (5, u "put"), (0, u "([BIJ)I"), (5, .class_ 41), (0, u "com/example/lestr/lestr/stream/Varints$Reader")] 2

def k2m0 : Method := { name := "<init>", desc := "()V", sig := { parameters := [], returnType := none }, accessFlags := 2, code := none }
def k2c1 : Code := { maxStack := 6, maxLocals := 7, code := prog_97_method_3_code, exceptionTable := #[], attributes := #[] }
def k2m1 : Method := { name := "put", desc := "([BIJ)I", sig := { parameters := [(.array .byte), .int, .long], returnType := some .int }, accessFlags := 8, code := some k2c1 }
/-- com/example/lestr/lestr/stream/Varints -/
def k2 : Class := { plain "com/example/lestr/lestr/stream/Varints" (some 0) with
  accessFlags := 48
  interfaces := #[]
  cf := some (fileOf pool2 26 #[.nestMembers #[40]] #[{ accessFlags := 2, nameIndex := 5, descriptorIndex := 6, attributes := #[] }, { accessFlags := 8, nameIndex := 33, descriptorIndex := 34, attributes := #[] }] 48 2 #[] #[])
  fields := #[]
  methods := #[k2m0, k2m1]
  instanceTypes := #[]
  staticTypes := #[]
  resolved := Array.replicate 44 none
  statics := none }

def pool3 : Array CpInfo := pool [(1, u "java/lang/Cloneable"), (0, .class_ 1), (0, u "java/lang/Object"), (0, .class_ 3)] 3

/-- java/lang/Cloneable -/
def k3 : Class := { plain "java/lang/Cloneable" (some 0) with
  accessFlags := 1537
  interfaces := #[]
  cf := some (fileOf pool3 2 #[] #[] 1537 4 #[] #[])
  fields := #[]
  methods := #[]
  instanceTypes := #[]
  staticTypes := #[]
  resolved := Array.replicate 8 none
  statics := none }

def pool4 : Array CpInfo := pool [(1, u "java/io/Serializable"), (0, .class_ 1), (0, u "java/lang/Object"), (0, .class_ 3)] 3

/-- java/io/Serializable -/
def k4 : Class := { plain "java/io/Serializable" (some 0) with
  accessFlags := 1537
  interfaces := #[]
  cf := some (fileOf pool4 2 #[] #[] 1537 4 #[] #[])
  fields := #[]
  methods := #[]
  instanceTypes := #[]
  staticTypes := #[]
  resolved := Array.replicate 8 none
  statics := none }

/-- the primitive byte -/
def k5 : Class := { plain "byte" none with kind := .primitive 'B', accessFlags := 0x411 }
/-- [B -/
def k6 : Class := { plain "[B" (some 0) with kind := .array 5 .byte, interfaces := #[3, 4], accessFlags := 1041 }

/-- the primitive int -/
def k7 : Class := { plain "int" none with kind := .primitive 'I', accessFlags := 0x411 }
/-- [I -/
def k8 : Class := { plain "[I" (some 0) with kind := .array 7 .int, interfaces := #[3, 4], accessFlags := 1041 }

def heap : Heap := #[]
def classes : Array Class := #[k0, k1, k2, k3, k4, k5, k6, k7, k8]
def interned : List (Array UInt16 × Addr) := []
def slotsUsed : Nat := 0
def theMethod : MethodId := ⟨1, 3⟩
def args0 : Array Value := #[.long 300, .int 3, .int 2, .int 9]
def aboutOver (below : List Frame) : State where
  vm := { classes := classes, interned := interned.toArray }
  heap := heap
  slotsUsed := slotsUsed
  threads := #[{ frames := .invoking theMethod args0 :: below }]
def below0 : List Frame := [.native { method := ⟨0, 0⟩, args := #[] }]
def about1 : State := aboutOver below0
def p0 : Program := .bare "" "" ""
def e0 : Env := launch0.env 0 0 0
theorem w_frames : about1.frames = Frame.invoking theMethod args0 :: below0 := rfl
set_option maxRecDepth 65536 in
theorem w_args : argsFit about1.vm theMethod args0 = true := by decide +kernel
set_option maxRecDepth 65536 in
theorem w_heap : heapFits about1 = true := by decide +kernel
set_option maxRecDepth 65536 in
theorem w_runnable : about1.curStatus? = some .runnable := by decide +kernel
set_option maxRecDepth 65536 in
theorem w_alone : about1.alone = true := by decide +kernel
set_option maxRecDepth 65536 in
theorem w_named : about1.methodNamed? x = some theMethod := by decide +kernel
set_option maxRecDepth 65536 in
theorem w_hears : about1.hears theMethod below0 = true := by decide +kernel
set_option maxRecDepth 65536 in
theorem w_ripe : about1.ripe theMethod args0 below0 = true := by decide +kernel
theorem w_running : about1.status = .running := rfl
set_option maxRecDepth 65536 in
theorem w_room : about1.hasRoom e0.platform room_1 = true :=
  launch0.hasRoom_least _ room_1 (by decide +kernel) (by decide +kernel) (by decide +kernel) (by decide +kernel) (by decide +kernel) (by decide +kernel)
theorem allAtoms_all (ts : List Jvm.Cond) (a : Array Jvm.Value) (st : Jvm.State) : (allAtoms ts).before a st = ts.all (fun c => c.before a st) := by
  induction ts with
  | nil => rfl
  | cons c t ih =>
    show (Jvm.Cond.and c (allAtoms t)).before a st = _
    rw [Jvm.Cond.before_and, ih, List.all_cons]
def words1 : List Jvm.Cond := Jvm.Cond.code x code maxLocals ret :: tables_1
/-- a 'code' word, met by the world's own term for the bytes: nothing is compared byte by byte -/
theorem code_word {y : MethodName} {bytes : ByteArray} {mx : Nat} {rt : Option FieldType} {a : Array Value} {s : State} {m : MethodId} {meth : Method} {c : Code} (h1 : s.methodNamed? y = some m) (h2 : s.vm.method? m = some meth) (h3 : meth.code = some c) (h4 : c.code = bytes)
    (h5 : (c.maxLocals == mx && c.exceptionTable.isEmpty && decide (c.maxStack ≤ mostOperands) && decide (meth.sig.returnType = rt) && !meth.locks && decide (parseMethodDescriptor y.desc = some meth.sig)) = true) : (Jvm.Cond.code y bytes mx rt).before a s = true := by
  simp only [Bool.and_eq_true, beq_iff_eq, Bool.not_eq_true', decide_eq_true_eq] at h5
  obtain ⟨⟨⟨⟨⟨g1, g2⟩, g3⟩, g4⟩, g5⟩, g6⟩ := h5
  simp [Cond.before, Cond.holds, Cond.value, h1, h2, h3, h4, g1, g2, g3, g4, g5, g6]
def isCode : Jvm.Cond → Bool
  | .code _ _ _ _ => true
  | _ => false
theorem all_split {L : List Jvm.Cond} {P : Jvm.Cond → Bool} (h1 : L.all (fun c => isCode c || P c) = true) (h2 : ∀ c ∈ L.filter isCode, P c = true) : L.all P = true := by
  refine List.all_eq_true.mpr fun c hc => ?_
  have h := List.all_eq_true.mp h1 c hc
  rcases Bool.eq_false_or_eq_true (isCode c) with hi | hi
  · exact h2 c (List.mem_filter.mpr ⟨hc, hi⟩)
  · simpa [hi] using h
set_option maxRecDepth 65536 in
theorem w_c0 : (Jvm.Cond.code x code maxLocals ret).before args0 about1 = true := code_word (m := ⟨1, 3⟩) (meth := k1m3) (c := k1c3) (by decide +kernel) rfl rfl rfl (by decide +kernel)
set_option maxRecDepth 65536 in
theorem w_c1 : (Jvm.Cond.code ({ cls := "com/example/lestr/lestr/stream/Varints", name := "put", desc := "([BIJ)I" } : Jvm.MethodName) prog_97_method_3_code (7 : Nat) (Option.some Jvm.ClassFile.FieldType.int)).before args0 about1 = true := code_word (m := ⟨2, 1⟩) (meth := k2m1) (c := k2c1) (by decide +kernel) rfl rfl rfl (by decide +kernel)
set_option maxRecDepth 65536 in
theorem w_c2 : (Jvm.Cond.code ({ cls := "com/example/lestr/lestr/stream/VarintsPutPinLaw", name := "len", desc := "(J)I" } : Jvm.MethodName) method_2_code (2 : Nat) (Option.some Jvm.ClassFile.FieldType.int)).before args0 about1 = true := code_word (m := ⟨1, 1⟩) (meth := k1m1) (c := k1c1) (by decide +kernel) rfl rfl rfl (by decide +kernel)
set_option maxRecDepth 65536 in
theorem w_c3 : (Jvm.Cond.code ({ cls := "com/example/lestr/lestr/stream/VarintsPutPinLaw", name := "ok", desc := "([BIIIJB)Z" } : Jvm.MethodName) method_3_code (10 : Nat) (Option.some Jvm.ClassFile.FieldType.boolean)).before args0 about1 = true := code_word (m := ⟨1, 2⟩) (meth := k1m2) (c := k1c2) (by decide +kernel) rfl rfl rfl (by decide +kernel)
def codes1 : List Jvm.Cond := [Jvm.Cond.code x code maxLocals ret, Jvm.Cond.code ({ cls := "com/example/lestr/lestr/stream/Varints", name := "put", desc := "([BIJ)I" } : Jvm.MethodName) prog_97_method_3_code (7 : Nat) (Option.some Jvm.ClassFile.FieldType.int), Jvm.Cond.code ({ cls := "com/example/lestr/lestr/stream/VarintsPutPinLaw", name := "len", desc := "(J)I" } : Jvm.MethodName) method_2_code (2 : Nat) (Option.some Jvm.ClassFile.FieldType.int), Jvm.Cond.code ({ cls := "com/example/lestr/lestr/stream/VarintsPutPinLaw", name := "ok", desc := "([BIIIJB)Z" } : Jvm.MethodName) method_3_code (10 : Nat) (Option.some Jvm.ClassFile.FieldType.boolean)]
set_option maxRecDepth 65536 in
theorem codes_eq : words1.filter isCode = codes1 := rfl
theorem w_codes : ∀ c ∈ words1.filter isCode, c.before args0 about1 = true := by
  rw [codes_eq]
  intro c hc
  simp only [codes1, List.mem_cons, List.not_mem_nil, or_false] at hc
  rcases hc with rfl | rfl | rfl | rfl
  · exact w_c0
  · exact w_c1
  · exact w_c2
  · exact w_c3
set_option maxRecDepth 65536 in
theorem w_t1 : words1.all (fun c => isCode c || c.before args0 about1) = true := by decide +kernel
theorem w_tables : (allAtoms (Jvm.Cond.code x code maxLocals ret :: tables_1)).before args0 about1 = true := by
  rw [allAtoms_all]
  show words1.all (fun c => c.before args0 about1) = true
  refine all_split ?_ w_codes
  rw [w_t1]
set_option maxRecDepth 65536 in
theorem w_case : (Jvm.Cond.and given_1 narrow_1).before args0 about1 = true := by decide +kernel
theorem w_applies : (headSpec (Jvm.Cond.code x code maxLocals ret :: tables_1) room_1).applies x e0.platform about1 = true :=
  (Spec.applies_iff w_frames).mpr ⟨w_running, w_runnable, w_alone, w_named, w_hears, w_ripe, w_room, w_tables⟩
theorem atStart : AtStart classFile x code maxLocals ret World_1 tables_1 room_1 Calls_1 rest_1 Pre_1 launch0 p0 e0 about1 theMethod args0 below0 :=
  ⟨lists_1, trivial, launch0.admits_env _ _ _, launch0.least_env, fairChoices_fair.cas, fairChoices_fair.clock, w_frames, w_args, w_heap, w_applies, trivial, trivial, w_case⟩
end start1
theorem witness_1 : WitnessClaimed_1 := ⟨start1.p0, start1.e0, start1.about1, start1.theMethod, start1.args0, start1.below0, start1.atStart⟩
end Jvm.Pilot.@@N@@
