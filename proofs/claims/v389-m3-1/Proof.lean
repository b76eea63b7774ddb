import JvmDerived
import JvmDerived.Pilot.@@N@@Statement
import JvmDerived.Pilot.@@N@@Code
set_option linter.unusedVariables false
set_option linter.unusedSimpArgs false
namespace Jvm.Pilot.@@N@@
open Jvm Jvm.ClassFile Sem Op Lib Jvm.Free Jvm.Stand Jvm.LawKit Jvm.RoadKit Bundle Jvm.Pilot.@@N@@.Jvm.D
/-! own_: a walk in backward style: 'Ends': from here the body comes to its end and Q holds there. One law an instruction, over frames written mkF. -/
namespace Wk
section
variable {p : Program} {l : Launch} {e : Env} {R : Room} {s : State} {m : MethodId} {args : Array Value} {below : List Frame} {meth : Method} {c : Code} {T : State} {locs : List Loc} {cells slots : Nat} {Z : State} {a0 : Array Value} {h : Heap} {y : MethodName} {cd : ByteArray} {ml : Nat} {ret : Option FieldType} {Q : Option Value → Heap → List Loc → Prop} {pc pc' : Nat} {ls : Array Slot} {st : List Value}
/-- the run from T with the frame f comes to the body's end, and Q holds there -/
def Ends (p : Program) (e : Env) (s : State) (below : List Frame) (R : Room) (Q : Option Value → Heap → List Loc → Prop) (T : State) (f : JFrame) : Prop :=
  ∃ s₂ o, Steps p.tables e below (T.setTop f) s₂ ∧ s₂.status = .running ∧ Ended s₂ below o ∧ ∃ v L, o = .returned v ∧ Q v s₂.heap L ∧ FrameEnd s o s₂ L R.cells R.slots
/-- what stands still while one body is walked -/
def K (p : Program) (s : State) (m : MethodId) (meth : Method) (c : Code) (Z : State) (y : MethodName) (cd : ByteArray) (ml : Nat) (ret : Option FieldType) : Prop :=
  p.tables.exec = Jvm.exec ∧ Z.Warmed39 s.vm ∧ c.code = cd ∧ c.maxLocals = ml ∧ s.vm.findClass y.cls = some m.cls ∧ meth.sig.returnType = ret ∧ meth.locks = false ∧ meth.name = y.name
/-- a body's contract: called with as' over the heap h it returns, and Q holds -/
def Met (l : Launch) (y : MethodName) (cd : ByteArray) (ml : Nat) (ret : Option FieldType) (rm : Room) (as' : Array Value) (Z : State) (h : Heap) (Q : Option Value → Heap → List Loc → Prop) (ws : List Jvm.Cond) : Prop :=
  MetFree l y (head1 (Jvm.Cond.code y cd ml ret :: ws) rm) (fun a U => a = as' ∧ Z.Warmed39 U.vm ∧ U.heap = h) (fun _ _ _ _ _ => True) (fun _ U o U' => ∃ v L, o = .returned v ∧ Q v U'.heap L ∧ FrameEnd U o U' L rm.cells rm.slots)
theorem enter {rm : Room} {as' : Array Value} {ws : List Jvm.Cond} (hpl : plainFor y = true)
    (body : ∀ (p : Program) (e : Env) (s : State) (m : MethodId) (below : List Frame) (meth : Method) (c : Code) (T : State), K p s m meth c Z y cd ml ret → Stand p l e rm s m as' below meth c T [] 0 0 → T.heap = h → Ends p e s below rm Q T (entryFrame m as' ml)) :
    Met l y cd ml ret rm as' Z h Q ws := by
  refine MetFree.of_bodySF hpl hisR ?_
  intro p e s m args below meth c s₁ Bd hml0 hP hK
  obtain ⟨rfl, hZ, hh⟩ := hP
  exact body p e s m below meth c s₁ ⟨Bd.exec, hZ, Bd.bytes, hml0, findClass_of_methodNamed Bd.named, Bd.returns, Bd.notSynchronized, (name_of_methodNamed Bd.named Bd.method).1⟩ (Stand.of_body Bd) (by rw [← hh, Bd.state]; rfl)
theorem Ends.map {T' : State} {f f' : JFrame} (st : ∀ target, Steps p.tables e below (T'.setTop f') target → Steps p.tables e below (T.setTop f) target) (h : Ends p e s below R Q T' f') : Ends p e s below R Q T f := by
  obtain ⟨s₂, o, h1, h2⟩ := h
  exact ⟨s₂, o, st _ h1, h2⟩
theorem Ends.cast {f f' : JFrame} (q : f = f') (h : Ends p e s below R Q T f') : Ends p e s below R Q T f := q ▸ h
theorem w {ws : List Jvm.Cond} (hw : ∀ d ∈ ws, d.before a0 Z = true) (i : Nat) {d : Jvm.Cond} (q : ws[i]? = some d) : d.before a0 Z = true := hw d (List.mem_of_getElem? q)
/-! loads, stores, constants -/
theorem iload_n (k : K p s m meth c Z y cd ml ret) (X : Stand p l e R s m args below meth c T locs cells slots) {i : Fin 4} {v : Int32} (hd : decode cd pc = .ok (.iload_n i, 1)) (hl : ls[i.val]? = some (.val (.int v))) (pc' : Nat) (hp : pc + 1 = pc') (h : Ends p e s below R Q T (mkF m pc' ls (.int v :: st))) : Ends p e s below R Q T (mkF m pc ls st) := by
  subst hp; exact h.map fun _ q => XS.iloadN X.here k.1 rfl (hb k.2.2.1 hd) hl q
theorem iload (k : K p s m meth c Z y cd ml ret) (X : Stand p l e R s m args below meth c T locs cells slots) {i : Nat} {v : Int32} (hd : decode cd pc = .ok (.iload i, 2)) (hl : ls[i]? = some (.val (.int v))) (pc' : Nat) (hp : pc + 2 = pc') (h : Ends p e s below R Q T (mkF m pc' ls (.int v :: st))) : Ends p e s below R Q T (mkF m pc ls st) := by
  subst hp; exact h.map fun _ q => XS.iload X.here k.1 rfl (hb k.2.2.1 hd) hl q
theorem lload_n (k : K p s m meth c Z y cd ml ret) (X : Stand p l e R s m args below meth c T locs cells slots) {i : Fin 4} {v : Int64} (hd : decode cd pc = .ok (.lload_n i, 1)) (hl : ls[i.val]? = some (.val (.long v))) (pc' : Nat) (hp : pc + 1 = pc') (h : Ends p e s below R Q T (mkF m pc' ls (.long v :: st))) : Ends p e s below R Q T (mkF m pc ls st) := by
  subst hp; exact h.map fun _ q => XS.lloadN X.here k.1 rfl (hb k.2.2.1 hd) hl q
theorem lload (k : K p s m meth c Z y cd ml ret) (X : Stand p l e R s m args below meth c T locs cells slots) {i : Nat} {v : Int64} (hd : decode cd pc = .ok (.lload i, 2)) (hl : ls[i]? = some (.val (.long v))) (pc' : Nat) (hp : pc + 2 = pc') (h : Ends p e s below R Q T (mkF m pc' ls (.long v :: st))) : Ends p e s below R Q T (mkF m pc ls st) := by
  subst hp; exact h.map fun _ q => XS.lload X.here k.1 rfl (hb k.2.2.1 hd) hl q
theorem aload_n (k : K p s m meth c Z y cd ml ret) (X : Stand p l e R s m args below meth c T locs cells slots) {i : Fin 4} {v : Value} (hd : decode cd pc = .ok (.aload_n i, 1)) (hl : ls[i.val]? = some (.val v)) (hv : v.isRef = true) (pc' : Nat) (hp : pc + 1 = pc') (h : Ends p e s below R Q T (mkF m pc' ls (v :: st))) : Ends p e s below R Q T (mkF m pc ls st) := by
  subst hp; exact h.map fun _ q => XS.aloadN X.here k.1 rfl (hb k.2.2.1 hd) hl hv q
theorem aload (k : K p s m meth c Z y cd ml ret) (X : Stand p l e R s m args below meth c T locs cells slots) {i : Nat} {v : Value} (hd : decode cd pc = .ok (.aload i, 2)) (hl : ls[i]? = some (.val v)) (hv : v.isRef = true) (pc' : Nat) (hp : pc + 2 = pc') (h : Ends p e s below R Q T (mkF m pc' ls (v :: st))) : Ends p e s below R Q T (mkF m pc ls st) := by
  subst hp; exact h.map fun _ q => XS.aload X.here k.1 rfl (hb k.2.2.1 hd) hl hv q
theorem istore_n (k : K p s m meth c Z y cd ml ret) (X : Stand p l e R s m args below meth c T locs cells slots) {i : Fin 4} {v : Int32} (hd : decode cd pc = .ok (.istore_n i, 1)) (ls' : Array Slot) (hl : storeLocals ls i.val (.int v) = some ls') (pc' : Nat) (hp : pc + 1 = pc') (h : Ends p e s below R Q T (mkF m pc' ls' st)) : Ends p e s below R Q T (mkF m pc ls (.int v :: st)) := by
  subst hp; exact h.map fun _ q => XS.istoreN X.here k.1 rfl (hb k.2.2.1 hd) rfl hl q
theorem istore (k : K p s m meth c Z y cd ml ret) (X : Stand p l e R s m args below meth c T locs cells slots) {i : Nat} {v : Int32} (hd : decode cd pc = .ok (.istore i, 2)) (ls' : Array Slot) (hl : storeLocals ls i (.int v) = some ls') (pc' : Nat) (hp : pc + 2 = pc') (h : Ends p e s below R Q T (mkF m pc' ls' st)) : Ends p e s below R Q T (mkF m pc ls (.int v :: st)) := by
  subst hp; exact h.map fun _ q => XS.istore X.here k.1 rfl (hb k.2.2.1 hd) rfl hl q
theorem lstore_n (k : K p s m meth c Z y cd ml ret) (X : Stand p l e R s m args below meth c T locs cells slots) {i : Fin 4} {v : Int64} (hd : decode cd pc = .ok (.lstore_n i, 1)) (ls' : Array Slot) (hl : storeLocals ls i.val (.long v) = some ls') (pc' : Nat) (hp : pc + 1 = pc') (h : Ends p e s below R Q T (mkF m pc' ls' st)) : Ends p e s below R Q T (mkF m pc ls (.long v :: st)) := by
  subst hp; exact h.map fun _ q => XS.lstoreN X.here k.1 rfl (hb k.2.2.1 hd) rfl hl q
theorem lstore (k : K p s m meth c Z y cd ml ret) (X : Stand p l e R s m args below meth c T locs cells slots) {i : Nat} {v : Int64} (hd : decode cd pc = .ok (.lstore i, 2)) (ls' : Array Slot) (hl : storeLocals ls i (.long v) = some ls') (pc' : Nat) (hp : pc + 2 = pc') (h : Ends p e s below R Q T (mkF m pc' ls' st)) : Ends p e s below R Q T (mkF m pc ls (.long v :: st)) := by
  subst hp; exact h.map fun _ q => XS.lstore X.here k.1 rfl (hb k.2.2.1 hd) rfl hl q
theorem astore_n (k : K p s m meth c Z y cd ml ret) (X : Stand p l e R s m args below meth c T locs cells slots) {i : Fin 4} {v : Value} (hd : decode cd pc = .ok (.astore_n i, 1)) (hv : v.isRef = true) (ls' : Array Slot) (hl : storeLocals ls i.val v = some ls') (pc' : Nat) (hp : pc + 1 = pc') (h : Ends p e s below R Q T (mkF m pc' ls' st)) : Ends p e s below R Q T (mkF m pc ls (v :: st)) := by
  subst hp; exact h.map fun _ q => XS.astoreN X.here k.1 rfl (hb k.2.2.1 hd) rfl hv hl q
theorem astore (k : K p s m meth c Z y cd ml ret) (X : Stand p l e R s m args below meth c T locs cells slots) {i : Nat} {v : Value} (hd : decode cd pc = .ok (.astore i, 2)) (hv : v.isRef = true) (ls' : Array Slot) (hl : storeLocals ls i v = some ls') (pc' : Nat) (hp : pc + 2 = pc') (h : Ends p e s below R Q T (mkF m pc' ls' st)) : Ends p e s below R Q T (mkF m pc ls (v :: st)) := by
  subst hp; exact h.map fun _ q => XS.astore X.here k.1 rfl (hb k.2.2.1 hd) rfl hv hl q
theorem iinc (k : K p s m meth c Z y cd ml ret) (X : Stand p l e R s m args below meth c T locs cells slots) {i : Nat} {n : Int} {v : Int32} (hd : decode cd pc = .ok (.iinc i n, 3)) (hl : ls[i]? = some (.val (.int v))) (ls' : Array Slot) (hl' : storeLocals ls i (.int (v + Int32.ofInt n)) = some ls') (pc' : Nat) (hp : pc + 3 = pc') (h : Ends p e s below R Q T (mkF m pc' ls' st)) : Ends p e s below R Q T (mkF m pc ls st) := by
  subst hp; exact h.map fun _ q => XS.iinc X.here k.1 rfl (hb k.2.2.1 hd) hl hl' q
theorem iconst (k : K p s m meth c Z y cd ml ret) (X : Stand p l e R s m args below meth c T locs cells slots) {i : Int} (hd : decode cd pc = .ok (.iconst i, 1)) (z : Int32) (hz : Int32.ofInt i = z) (pc' : Nat) (hp : pc + 1 = pc') (h : Ends p e s below R Q T (mkF m pc' ls (.int z :: st))) : Ends p e s below R Q T (mkF m pc ls st) := by
  subst hp hz; exact h.map fun _ q => XS.iconst X.here k.1 rfl (hb k.2.2.1 hd) q
theorem bipush (k : K p s m meth c Z y cd ml ret) (X : Stand p l e R s m args below meth c T locs cells slots) {i : Int} (hd : decode cd pc = .ok (.bipush i, 2)) (z : Int32) (hz : (Int8.ofInt i).toInt32 = z) (pc' : Nat) (hp : pc + 2 = pc') (h : Ends p e s below R Q T (mkF m pc' ls (.int z :: st))) : Ends p e s below R Q T (mkF m pc ls st) := by
  subst hp hz; exact h.map fun _ q => XS.bipush X.here k.1 rfl (hb k.2.2.1 hd) q
theorem sipush (k : K p s m meth c Z y cd ml ret) (X : Stand p l e R s m args below meth c T locs cells slots) {i : Int} (hd : decode cd pc = .ok (.sipush i, 3)) (z : Int32) (hz : (Int16.ofInt i).toInt32 = z) (pc' : Nat) (hp : pc + 3 = pc') (h : Ends p e s below R Q T (mkF m pc' ls (.int z :: st))) : Ends p e s below R Q T (mkF m pc ls st) := by
  subst hp hz; exact h.map fun _ q => XS.sipush X.here k.1 rfl (hb k.2.2.1 hd) q
theorem lconst (k : K p s m meth c Z y cd ml ret) (X : Stand p l e R s m args below meth c T locs cells slots) {i : Fin 2} (hd : decode cd pc = .ok (.lconst i, 1)) (z : Int64) (hz : Int64.ofNat i = z) (pc' : Nat) (hp : pc + 1 = pc') (h : Ends p e s below R Q T (mkF m pc' ls (.long z :: st))) : Ends p e s below R Q T (mkF m pc ls st) := by
  subst hp hz; exact h.map fun _ q => XS.lconst X.here k.1 rfl (hb k.2.2.1 hd) q
theorem aconst_null (k : K p s m meth c Z y cd ml ret) (X : Stand p l e R s m args below meth c T locs cells slots) (hd : decode cd pc = .ok (.aconst_null, 1)) (pc' : Nat) (hp : pc + 1 = pc') (h : Ends p e s below R Q T (mkF m pc' ls (.null :: st))) : Ends p e s below R Q T (mkF m pc ls st) := by
  subst hp; exact h.map fun _ q => XS.aconstNull X.here k.1 rfl (hb k.2.2.1 hd) q
theorem ldc (k : K p s m meth c Z y cd ml ret) (X : Stand p l e R s m args below meth c T locs cells slots) {i : Nat} {z : Int32} (hd : decode cd pc = .ok (.ldc i, 2)) (hc : (Jvm.Cond.constant y.cls i z).before a0 Z = true) (pc' : Nat) (hp : pc + 2 = pc') (h : Ends p e s below R Q T (mkF m pc' ls (.int z :: st))) : Ends p e s below R Q T (mkF m pc ls st) := by
  subst hp; exact h.map (X.ldcInt k.1 k.2.2.2.2.1 (mvT k.2.1 hc) rfl (hb k.2.2.1 hd))
theorem ldc2_w (k : K p s m meth c Z y cd ml ret) (X : Stand p l e R s m args below meth c T locs cells slots) {i : Nat} {z : Int64} (hd : decode cd pc = .ok (.ldc2_w i, 3)) (hc : (Jvm.Cond.constantLong y.cls i z).before a0 Z = true) (pc' : Nat) (hp : pc + 3 = pc') (h : Ends p e s below R Q T (mkF m pc' ls (.long z :: st))) : Ends p e s below R Q T (mkF m pc ls st) := by
  subst hp; exact h.map (X.ldc2Long k.1 k.2.2.2.2.1 (mvT k.2.1 hc) rfl (hb k.2.2.1 hd))
theorem ldcF (k : K p s m meth c Z y cd ml ret) (X : Stand p l e R s m args below meth c T locs cells slots) {i : Nat} {z : UInt32} (hd : decode cd pc = .ok (.ldc i, 2)) (hc : (Jvm.Cond.constantFloat y.cls i z).before a0 Z = true) (pc' : Nat) (hp : pc + 2 = pc') (h : Ends p e s below R Q T (mkF m pc' ls (.float z :: st))) : Ends p e s below R Q T (mkF m pc ls st) := by
  subst hp; exact h.map (X.ldcFloatC k.1 k.2.2.2.2.1 (mvT k.2.1 hc) rfl (hb k.2.2.1 hd))
/-! arithmetic -/
theorem iadd (k : K p s m meth c Z y cd ml ret) (X : Stand p l e R s m args below meth c T locs cells slots) {a : Int32} {b : Int32} (hd : decode cd pc = .ok (.iadd, 1)) (pc' : Nat) (hp : pc + 1 = pc') (h : Ends p e s below R Q T (mkF m pc' ls (.int (a + b) :: st))) : Ends p e s below R Q T (mkF m pc ls (.int b :: .int a :: st)) := by
  subst hp; exact h.map fun _ q => XS.iadd X.here k.1 rfl (hb k.2.2.1 hd) rfl q
theorem ladd (k : K p s m meth c Z y cd ml ret) (X : Stand p l e R s m args below meth c T locs cells slots) {a : Int64} {b : Int64} (hd : decode cd pc = .ok (.ladd, 1)) (pc' : Nat) (hp : pc + 1 = pc') (h : Ends p e s below R Q T (mkF m pc' ls (.long (a + b) :: st))) : Ends p e s below R Q T (mkF m pc ls (.long b :: .long a :: st)) := by
  subst hp; exact h.map fun _ q => XS.ladd X.here k.1 rfl (hb k.2.2.1 hd) rfl q
theorem isub (k : K p s m meth c Z y cd ml ret) (X : Stand p l e R s m args below meth c T locs cells slots) {a : Int32} {b : Int32} (hd : decode cd pc = .ok (.isub, 1)) (pc' : Nat) (hp : pc + 1 = pc') (h : Ends p e s below R Q T (mkF m pc' ls (.int (a - b) :: st))) : Ends p e s below R Q T (mkF m pc ls (.int b :: .int a :: st)) := by
  subst hp; exact h.map fun _ q => XS.isub X.here k.1 rfl (hb k.2.2.1 hd) rfl q
theorem lsub (k : K p s m meth c Z y cd ml ret) (X : Stand p l e R s m args below meth c T locs cells slots) {a : Int64} {b : Int64} (hd : decode cd pc = .ok (.lsub, 1)) (pc' : Nat) (hp : pc + 1 = pc') (h : Ends p e s below R Q T (mkF m pc' ls (.long (a - b) :: st))) : Ends p e s below R Q T (mkF m pc ls (.long b :: .long a :: st)) := by
  subst hp; exact h.map fun _ q => XS.lsub X.here k.1 rfl (hb k.2.2.1 hd) rfl q
theorem imul (k : K p s m meth c Z y cd ml ret) (X : Stand p l e R s m args below meth c T locs cells slots) {a : Int32} {b : Int32} (hd : decode cd pc = .ok (.imul, 1)) (pc' : Nat) (hp : pc + 1 = pc') (h : Ends p e s below R Q T (mkF m pc' ls (.int (a * b) :: st))) : Ends p e s below R Q T (mkF m pc ls (.int b :: .int a :: st)) := by
  subst hp; exact h.map fun _ q => XS.imul X.here k.1 rfl (hb k.2.2.1 hd) rfl q
theorem lmul (k : K p s m meth c Z y cd ml ret) (X : Stand p l e R s m args below meth c T locs cells slots) {a : Int64} {b : Int64} (hd : decode cd pc = .ok (.lmul, 1)) (pc' : Nat) (hp : pc + 1 = pc') (h : Ends p e s below R Q T (mkF m pc' ls (.long (a * b) :: st))) : Ends p e s below R Q T (mkF m pc ls (.long b :: .long a :: st)) := by
  subst hp; exact h.map fun _ q => XS.lmul X.here k.1 rfl (hb k.2.2.1 hd) rfl q
theorem iand (k : K p s m meth c Z y cd ml ret) (X : Stand p l e R s m args below meth c T locs cells slots) {a : Int32} {b : Int32} (hd : decode cd pc = .ok (.iand, 1)) (pc' : Nat) (hp : pc + 1 = pc') (h : Ends p e s below R Q T (mkF m pc' ls (.int (a &&& b) :: st))) : Ends p e s below R Q T (mkF m pc ls (.int b :: .int a :: st)) := by
  subst hp; exact h.map fun _ q => XS.iand X.here k.1 rfl (hb k.2.2.1 hd) rfl q
theorem land (k : K p s m meth c Z y cd ml ret) (X : Stand p l e R s m args below meth c T locs cells slots) {a : Int64} {b : Int64} (hd : decode cd pc = .ok (.land, 1)) (pc' : Nat) (hp : pc + 1 = pc') (h : Ends p e s below R Q T (mkF m pc' ls (.long (a &&& b) :: st))) : Ends p e s below R Q T (mkF m pc ls (.long b :: .long a :: st)) := by
  subst hp; exact h.map fun _ q => XS.land X.here k.1 rfl (hb k.2.2.1 hd) rfl q
theorem ior (k : K p s m meth c Z y cd ml ret) (X : Stand p l e R s m args below meth c T locs cells slots) {a : Int32} {b : Int32} (hd : decode cd pc = .ok (.ior, 1)) (pc' : Nat) (hp : pc + 1 = pc') (h : Ends p e s below R Q T (mkF m pc' ls (.int (a ||| b) :: st))) : Ends p e s below R Q T (mkF m pc ls (.int b :: .int a :: st)) := by
  subst hp; exact h.map fun _ q => XS.ior X.here k.1 rfl (hb k.2.2.1 hd) rfl q
theorem lor (k : K p s m meth c Z y cd ml ret) (X : Stand p l e R s m args below meth c T locs cells slots) {a : Int64} {b : Int64} (hd : decode cd pc = .ok (.lor, 1)) (pc' : Nat) (hp : pc + 1 = pc') (h : Ends p e s below R Q T (mkF m pc' ls (.long (a ||| b) :: st))) : Ends p e s below R Q T (mkF m pc ls (.long b :: .long a :: st)) := by
  subst hp; exact h.map fun _ q => XS.lor X.here k.1 rfl (hb k.2.2.1 hd) rfl q
theorem ixor (k : K p s m meth c Z y cd ml ret) (X : Stand p l e R s m args below meth c T locs cells slots) {a : Int32} {b : Int32} (hd : decode cd pc = .ok (.ixor, 1)) (pc' : Nat) (hp : pc + 1 = pc') (h : Ends p e s below R Q T (mkF m pc' ls (.int (a ^^^ b) :: st))) : Ends p e s below R Q T (mkF m pc ls (.int b :: .int a :: st)) := by
  subst hp; exact h.map fun _ q => XS.ixor X.here k.1 rfl (hb k.2.2.1 hd) rfl q
theorem lxor (k : K p s m meth c Z y cd ml ret) (X : Stand p l e R s m args below meth c T locs cells slots) {a : Int64} {b : Int64} (hd : decode cd pc = .ok (.lxor, 1)) (pc' : Nat) (hp : pc + 1 = pc') (h : Ends p e s below R Q T (mkF m pc' ls (.long (a ^^^ b) :: st))) : Ends p e s below R Q T (mkF m pc ls (.long b :: .long a :: st)) := by
  subst hp; exact h.map fun _ q => XS.lxor X.here k.1 rfl (hb k.2.2.1 hd) rfl q
theorem idiv (k : K p s m meth c Z y cd ml ret) (X : Stand p l e R s m args below meth c T locs cells slots) {a : Int32} {b : Int32} (hd : decode cd pc = .ok (.idiv, 1)) (hy : b ≠ 0) (pc' : Nat) (hp : pc + 1 = pc') (h : Ends p e s below R Q T (mkF m pc' ls (.int (a / b) :: st))) : Ends p e s below R Q T (mkF m pc ls (.int b :: .int a :: st)) := by
  subst hp; exact h.map fun _ q => XS.idiv X.here k.1 rfl (hb k.2.2.1 hd) rfl hy q
theorem ldiv (k : K p s m meth c Z y cd ml ret) (X : Stand p l e R s m args below meth c T locs cells slots) {a : Int64} {b : Int64} (hd : decode cd pc = .ok (.ldiv, 1)) (hy : b ≠ 0) (pc' : Nat) (hp : pc + 1 = pc') (h : Ends p e s below R Q T (mkF m pc' ls (.long (a / b) :: st))) : Ends p e s below R Q T (mkF m pc ls (.long b :: .long a :: st)) := by
  subst hp; exact h.map fun _ q => XS.ldiv X.here k.1 rfl (hb k.2.2.1 hd) rfl hy q
theorem ishl (k : K p s m meth c Z y cd ml ret) (X : Stand p l e R s m args below meth c T locs cells slots) {a : Int32} {b : Int32} (hd : decode cd pc = .ok (.ishl, 1)) (pc' : Nat) (hp : pc + 1 = pc') (h : Ends p e s below R Q T (mkF m pc' ls (.int (a <<< (b &&& 31)) :: st))) : Ends p e s below R Q T (mkF m pc ls (.int b :: .int a :: st)) := by
  subst hp; exact h.map fun _ q => XS.ishl X.here k.1 rfl (hb k.2.2.1 hd) rfl q
theorem ishr (k : K p s m meth c Z y cd ml ret) (X : Stand p l e R s m args below meth c T locs cells slots) {a : Int32} {b : Int32} (hd : decode cd pc = .ok (.ishr, 1)) (pc' : Nat) (hp : pc + 1 = pc') (h : Ends p e s below R Q T (mkF m pc' ls (.int (a >>> (b &&& 31)) :: st))) : Ends p e s below R Q T (mkF m pc ls (.int b :: .int a :: st)) := by
  subst hp; exact h.map fun _ q => XS.ishr X.here k.1 rfl (hb k.2.2.1 hd) rfl q
theorem iushr (k : K p s m meth c Z y cd ml ret) (X : Stand p l e R s m args below meth c T locs cells slots) {a : Int32} {b : Int32} (hd : decode cd pc = .ok (.iushr, 1)) (pc' : Nat) (hp : pc + 1 = pc') (h : Ends p e s below R Q T (mkF m pc' ls (.int ((a.toUInt32 >>> (b &&& 31).toUInt32).toInt32) :: st))) : Ends p e s below R Q T (mkF m pc ls (.int b :: .int a :: st)) := by
  subst hp; exact h.map fun _ q => XS.iushr X.here k.1 rfl (hb k.2.2.1 hd) rfl q
theorem lshl (k : K p s m meth c Z y cd ml ret) (X : Stand p l e R s m args below meth c T locs cells slots) {a : Int64} {b : Int32} (hd : decode cd pc = .ok (.lshl, 1)) (pc' : Nat) (hp : pc + 1 = pc') (h : Ends p e s below R Q T (mkF m pc' ls (.long (a <<< (b &&& 0x3f).toInt64) :: st))) : Ends p e s below R Q T (mkF m pc ls (.int b :: .long a :: st)) := by
  subst hp; exact h.map fun _ q => XS.lshl X.here k.1 rfl (hb k.2.2.1 hd) rfl q
theorem lshr (k : K p s m meth c Z y cd ml ret) (X : Stand p l e R s m args below meth c T locs cells slots) {a : Int64} {b : Int32} (hd : decode cd pc = .ok (.lshr, 1)) (pc' : Nat) (hp : pc + 1 = pc') (h : Ends p e s below R Q T (mkF m pc' ls (.long (a >>> (b &&& 0x3f).toInt64) :: st))) : Ends p e s below R Q T (mkF m pc ls (.int b :: .long a :: st)) := by
  subst hp; exact h.map fun _ q => XS.lshr X.here k.1 rfl (hb k.2.2.1 hd) rfl q
theorem lushr (k : K p s m meth c Z y cd ml ret) (X : Stand p l e R s m args below meth c T locs cells slots) {a : Int64} {b : Int32} (hd : decode cd pc = .ok (.lushr, 1)) (pc' : Nat) (hp : pc + 1 = pc') (h : Ends p e s below R Q T (mkF m pc' ls (.long ((a.toUInt64 >>> (b &&& 0x3f).toInt64.toUInt64).toInt64) :: st))) : Ends p e s below R Q T (mkF m pc ls (.int b :: .long a :: st)) := by
  subst hp; exact h.map fun _ q => XS.lushr X.here k.1 rfl (hb k.2.2.1 hd) rfl q
theorem irem (k : K p s m meth c Z y cd ml ret) (X : Stand p l e R s m args below meth c T locs cells slots) {a b : Int32} (hd : decode cd pc = .ok (.irem, 1)) (hy : b ≠ 0) (pc' : Nat) (hp : pc + 1 = pc') (h : Ends p e s below R Q T (mkF m pc' ls (.int (a % b) :: st))) : Ends p e s below R Q T (mkF m pc ls (.int b :: .int a :: st)) := by
  subst hp; exact h.map fun _ q => iremM X k.1 rfl (hb k.2.2.1 hd) rfl hy q
theorem ineg (k : K p s m meth c Z y cd ml ret) (X : Stand p l e R s m args below meth c T locs cells slots) {a : Int32} (hd : decode cd pc = .ok (.ineg, 1)) (pc' : Nat) (hp : pc + 1 = pc') (h : Ends p e s below R Q T (mkF m pc' ls (.int (-a) :: st))) : Ends p e s below R Q T (mkF m pc ls (.int a :: st)) := by
  subst hp; exact h.map fun _ q => XS.ineg X.here k.1 rfl (hb k.2.2.1 hd) rfl q
theorem lneg (k : K p s m meth c Z y cd ml ret) (X : Stand p l e R s m args below meth c T locs cells slots) {a : Int64} (hd : decode cd pc = .ok (.lneg, 1)) (pc' : Nat) (hp : pc + 1 = pc') (h : Ends p e s below R Q T (mkF m pc' ls (.long (-a) :: st))) : Ends p e s below R Q T (mkF m pc ls (.long a :: st)) := by
  subst hp; exact h.map fun _ q => XS.lneg X.here k.1 rfl (hb k.2.2.1 hd) rfl q
theorem i2l (k : K p s m meth c Z y cd ml ret) (X : Stand p l e R s m args below meth c T locs cells slots) {a : Int32} (hd : decode cd pc = .ok (.i2l, 1)) (pc' : Nat) (hp : pc + 1 = pc') (h : Ends p e s below R Q T (mkF m pc' ls (.long (a.toInt64) :: st))) : Ends p e s below R Q T (mkF m pc ls (.int a :: st)) := by
  subst hp; exact h.map fun _ q => XS.i2l X.here k.1 rfl (hb k.2.2.1 hd) rfl q
theorem l2i (k : K p s m meth c Z y cd ml ret) (X : Stand p l e R s m args below meth c T locs cells slots) {a : Int64} (hd : decode cd pc = .ok (.l2i, 1)) (pc' : Nat) (hp : pc + 1 = pc') (h : Ends p e s below R Q T (mkF m pc' ls (.int (a.toInt32) :: st))) : Ends p e s below R Q T (mkF m pc ls (.long a :: st)) := by
  subst hp; exact h.map fun _ q => XS.l2i X.here k.1 rfl (hb k.2.2.1 hd) rfl q
theorem i2b (k : K p s m meth c Z y cd ml ret) (X : Stand p l e R s m args below meth c T locs cells slots) {a : Int32} (hd : decode cd pc = .ok (.i2b, 1)) (pc' : Nat) (hp : pc + 1 = pc') (h : Ends p e s below R Q T (mkF m pc' ls (.int (a.toInt8.toInt32) :: st))) : Ends p e s below R Q T (mkF m pc ls (.int a :: st)) := by
  subst hp; exact h.map fun _ q => XS.i2b X.here k.1 rfl (hb k.2.2.1 hd) rfl q
theorem i2s (k : K p s m meth c Z y cd ml ret) (X : Stand p l e R s m args below meth c T locs cells slots) {a : Int32} (hd : decode cd pc = .ok (.i2s, 1)) (pc' : Nat) (hp : pc + 1 = pc') (h : Ends p e s below R Q T (mkF m pc' ls (.int (a.toInt16.toInt32) :: st))) : Ends p e s below R Q T (mkF m pc ls (.int a :: st)) := by
  subst hp; exact h.map fun _ q => XS.i2s X.here k.1 rfl (hb k.2.2.1 hd) rfl q
theorem i2c (k : K p s m meth c Z y cd ml ret) (X : Stand p l e R s m args below meth c T locs cells slots) {a : Int32} (hd : decode cd pc = .ok (.i2c, 1)) (pc' : Nat) (hp : pc + 1 = pc') (h : Ends p e s below R Q T (mkF m pc' ls (.int (a.toUInt32.toUInt16.toUInt32.toInt32) :: st))) : Ends p e s below R Q T (mkF m pc ls (.int a :: st)) := by
  subst hp; exact h.map fun _ q => XS.i2c X.here k.1 rfl (hb k.2.2.1 hd) rfl q
/-! stack, jumps -/
theorem dup (k : K p s m meth c Z y cd ml ret) (X : Stand p l e R s m args below meth c T locs cells slots) {v : Value} (hd : decode cd pc = .ok (.dup, 1)) (hc : v.category = 1) (pc' : Nat) (hp : pc + 1 = pc') (h : Ends p e s below R Q T (mkF m pc' ls (v :: v :: st))) : Ends p e s below R Q T (mkF m pc ls (v :: st)) := by
  subst hp; exact h.map fun _ q => XS.dup X.here k.1 rfl (hb k.2.2.1 hd) rfl hc q
theorem pop (k : K p s m meth c Z y cd ml ret) (X : Stand p l e R s m args below meth c T locs cells slots) {v : Value} (hd : decode cd pc = .ok (.pop, 1)) (hc : v.category = 1) (pc' : Nat) (hp : pc + 1 = pc') (h : Ends p e s below R Q T (mkF m pc' ls st)) : Ends p e s below R Q T (mkF m pc ls (v :: st)) := by
  subst hp; exact h.map fun _ q => XS.pop X.here k.1 rfl (hb k.2.2.1 hd) rfl hc q
theorem dup_x1 (k : K p s m meth c Z y cd ml ret) (X : Stand p l e R s m args below meth c T locs cells slots) {v v' : Value} (hd : decode cd pc = .ok (.dup_x1, 1)) (hc : v.category = 1) (hc' : v'.category = 1) (pc' : Nat) (hp : pc + 1 = pc') (h : Ends p e s below R Q T (mkF m pc' ls (v :: v' :: v :: st))) : Ends p e s below R Q T (mkF m pc ls (v :: v' :: st)) := by
  subst hp; exact h.map fun _ q => XS.dupX1 X.here k.1 rfl (hb k.2.2.1 hd) rfl hc hc' q
theorem dup2 (k : K p s m meth c Z y cd ml ret) (X : Stand p l e R s m args below meth c T locs cells slots) {v v' : Value} (hd : decode cd pc = .ok (.dup2, 1)) (hc : v.category = 1) (hc' : v'.category = 1) (pc' : Nat) (hp : pc + 1 = pc') (h : Ends p e s below R Q T (mkF m pc' ls (v :: v' :: v :: v' :: st))) : Ends p e s below R Q T (mkF m pc ls (v :: v' :: st)) := by
  subst hp; exact h.map fun _ q => Jvm.Free.XT.dup2 X.here k.1 rfl (hb k.2.2.1 hd) rfl hc hc' q
theorem goto (k : K p s m meth c Z y cd ml ret) (X : Stand p l e R s m args below meth c T locs cells slots) {o : Int} (hd : decode cd pc = .ok (.goto o, 3)) (ho : 0 ≤ (pc : Int) + o) (pc' : Nat) (hp : ((pc : Int) + o).toNat = pc') (h : Ends p e s below R Q T (mkF m pc' ls st)) : Ends p e s below R Q T (mkF m pc ls st) := by
  exact h.map fun _ q => XS.goto X.here k.1 rfl rfl (hb k.2.2.1 hd) ho hp q
theorem icmp_lt (k : K p s m meth c Z y cd ml ret) (X : Stand p l e R s m args below meth c T locs cells slots) {a b : Int32} {o : Int} (hd : decode cd pc = .ok (.if_icmp .lt o, 3)) (ho : 0 ≤ (pc : Int) + o) (py pn : Nat) (hy : ((pc : Int) + o).toNat = py) (hn : pc + 3 = pn) (h1 : a < b → Ends p e s below R Q T (mkF m py ls st)) (h2 : ¬ a < b → Ends p e s below R Q T (mkF m pn ls st)) : Ends p e s below R Q T (mkF m pc ls (.int b :: .int a :: st)) := by
  subst hn
  by_cases q : a < b
  · exact (h1 q).map fun _ r => XS.icmpYes X.here k.1 rfl rfl (hb k.2.2.1 hd) rfl (tlt q).1 ho hy r
  · exact (h2 q).map fun _ r => XS.icmpNo X.here k.1 rfl (hb k.2.2.1 hd) rfl (flt q).1 r
theorem if_lt (k : K p s m meth c Z y cd ml ret) (X : Stand p l e R s m args below meth c T locs cells slots) {a : Int32} {o : Int} (hd : decode cd pc = .ok (.ifCond .lt o, 3)) (ho : 0 ≤ (pc : Int) + o) (py pn : Nat) (hy : ((pc : Int) + o).toNat = py) (hn : pc + 3 = pn) (h1 : a < 0 → Ends p e s below R Q T (mkF m py ls st)) (h2 : ¬ a < 0 → Ends p e s below R Q T (mkF m pn ls st)) : Ends p e s below R Q T (mkF m pc ls (.int a :: st)) := by
  subst hn
  by_cases q : a < 0
  · exact (h1 q).map fun _ r => XS.ifYes X.here k.1 rfl rfl (hb k.2.2.1 hd) rfl ((if0 _ _).trans (tlt q).1) ho hy r
  · exact (h2 q).map fun _ r => XS.ifNo X.here k.1 rfl (hb k.2.2.1 hd) rfl ((if0 _ _).trans (flt q).1) r
theorem icmp_ge (k : K p s m meth c Z y cd ml ret) (X : Stand p l e R s m args below meth c T locs cells slots) {a b : Int32} {o : Int} (hd : decode cd pc = .ok (.if_icmp .ge o, 3)) (ho : 0 ≤ (pc : Int) + o) (py pn : Nat) (hy : ((pc : Int) + o).toNat = py) (hn : pc + 3 = pn) (h1 : ¬ a < b → Ends p e s below R Q T (mkF m py ls st)) (h2 : a < b → Ends p e s below R Q T (mkF m pn ls st)) : Ends p e s below R Q T (mkF m pc ls (.int b :: .int a :: st)) := by
  subst hn
  by_cases q : a < b
  · exact (h2 q).map fun _ r => XS.icmpNo X.here k.1 rfl (hb k.2.2.1 hd) rfl (tlt q).2.1 r
  · exact (h1 q).map fun _ r => XS.icmpYes X.here k.1 rfl rfl (hb k.2.2.1 hd) rfl (flt q).2.1 ho hy r
theorem if_ge (k : K p s m meth c Z y cd ml ret) (X : Stand p l e R s m args below meth c T locs cells slots) {a : Int32} {o : Int} (hd : decode cd pc = .ok (.ifCond .ge o, 3)) (ho : 0 ≤ (pc : Int) + o) (py pn : Nat) (hy : ((pc : Int) + o).toNat = py) (hn : pc + 3 = pn) (h1 : ¬ a < 0 → Ends p e s below R Q T (mkF m py ls st)) (h2 : a < 0 → Ends p e s below R Q T (mkF m pn ls st)) : Ends p e s below R Q T (mkF m pc ls (.int a :: st)) := by
  subst hn
  by_cases q : a < 0
  · exact (h2 q).map fun _ r => XS.ifNo X.here k.1 rfl (hb k.2.2.1 hd) rfl ((if0 _ _).trans (tlt q).2.1) r
  · exact (h1 q).map fun _ r => XS.ifYes X.here k.1 rfl rfl (hb k.2.2.1 hd) rfl ((if0 _ _).trans (flt q).2.1) ho hy r
theorem icmp_gt (k : K p s m meth c Z y cd ml ret) (X : Stand p l e R s m args below meth c T locs cells slots) {a b : Int32} {o : Int} (hd : decode cd pc = .ok (.if_icmp .gt o, 3)) (ho : 0 ≤ (pc : Int) + o) (py pn : Nat) (hy : ((pc : Int) + o).toNat = py) (hn : pc + 3 = pn) (h1 : b < a → Ends p e s below R Q T (mkF m py ls st)) (h2 : ¬ b < a → Ends p e s below R Q T (mkF m pn ls st)) : Ends p e s below R Q T (mkF m pc ls (.int b :: .int a :: st)) := by
  subst hn
  by_cases q : b < a
  · exact (h1 q).map fun _ r => XS.icmpYes X.here k.1 rfl rfl (hb k.2.2.1 hd) rfl (tlt q).2.2.1 ho hy r
  · exact (h2 q).map fun _ r => XS.icmpNo X.here k.1 rfl (hb k.2.2.1 hd) rfl (flt q).2.2.1 r
theorem if_gt (k : K p s m meth c Z y cd ml ret) (X : Stand p l e R s m args below meth c T locs cells slots) {a : Int32} {o : Int} (hd : decode cd pc = .ok (.ifCond .gt o, 3)) (ho : 0 ≤ (pc : Int) + o) (py pn : Nat) (hy : ((pc : Int) + o).toNat = py) (hn : pc + 3 = pn) (h1 : 0 < a → Ends p e s below R Q T (mkF m py ls st)) (h2 : ¬ 0 < a → Ends p e s below R Q T (mkF m pn ls st)) : Ends p e s below R Q T (mkF m pc ls (.int a :: st)) := by
  subst hn
  by_cases q : 0 < a
  · exact (h1 q).map fun _ r => XS.ifYes X.here k.1 rfl rfl (hb k.2.2.1 hd) rfl ((if0 _ _).trans (tlt q).2.2.1) ho hy r
  · exact (h2 q).map fun _ r => XS.ifNo X.here k.1 rfl (hb k.2.2.1 hd) rfl ((if0 _ _).trans (flt q).2.2.1) r
theorem icmp_le (k : K p s m meth c Z y cd ml ret) (X : Stand p l e R s m args below meth c T locs cells slots) {a b : Int32} {o : Int} (hd : decode cd pc = .ok (.if_icmp .le o, 3)) (ho : 0 ≤ (pc : Int) + o) (py pn : Nat) (hy : ((pc : Int) + o).toNat = py) (hn : pc + 3 = pn) (h1 : ¬ b < a → Ends p e s below R Q T (mkF m py ls st)) (h2 : b < a → Ends p e s below R Q T (mkF m pn ls st)) : Ends p e s below R Q T (mkF m pc ls (.int b :: .int a :: st)) := by
  subst hn
  by_cases q : b < a
  · exact (h2 q).map fun _ r => XS.icmpNo X.here k.1 rfl (hb k.2.2.1 hd) rfl (tlt q).2.2.2 r
  · exact (h1 q).map fun _ r => XS.icmpYes X.here k.1 rfl rfl (hb k.2.2.1 hd) rfl (flt q).2.2.2 ho hy r
theorem if_le (k : K p s m meth c Z y cd ml ret) (X : Stand p l e R s m args below meth c T locs cells slots) {a : Int32} {o : Int} (hd : decode cd pc = .ok (.ifCond .le o, 3)) (ho : 0 ≤ (pc : Int) + o) (py pn : Nat) (hy : ((pc : Int) + o).toNat = py) (hn : pc + 3 = pn) (h1 : ¬ 0 < a → Ends p e s below R Q T (mkF m py ls st)) (h2 : 0 < a → Ends p e s below R Q T (mkF m pn ls st)) : Ends p e s below R Q T (mkF m pc ls (.int a :: st)) := by
  subst hn
  by_cases q : 0 < a
  · exact (h2 q).map fun _ r => XS.ifNo X.here k.1 rfl (hb k.2.2.1 hd) rfl ((if0 _ _).trans (tlt q).2.2.2) r
  · exact (h1 q).map fun _ r => XS.ifYes X.here k.1 rfl rfl (hb k.2.2.1 hd) rfl ((if0 _ _).trans (flt q).2.2.2) ho hy r
theorem icmp_eq (k : K p s m meth c Z y cd ml ret) (X : Stand p l e R s m args below meth c T locs cells slots) {a b : Int32} {o : Int} (hd : decode cd pc = .ok (.if_icmp .eq o, 3)) (ho : 0 ≤ (pc : Int) + o) (py pn : Nat) (hy : ((pc : Int) + o).toNat = py) (hn : pc + 3 = pn) (h1 : a = b → Ends p e s below R Q T (mkF m py ls st)) (h2 : ¬ a = b → Ends p e s below R Q T (mkF m pn ls st)) : Ends p e s below R Q T (mkF m pc ls (.int b :: .int a :: st)) := by
  subst hn
  by_cases q : a = b
  · exact (h1 q).map fun _ r => XS.icmpYes X.here k.1 rfl rfl (hb k.2.2.1 hd) rfl (teq q).1 ho hy r
  · exact (h2 q).map fun _ r => XS.icmpNo X.here k.1 rfl (hb k.2.2.1 hd) rfl (feq q).1 r
theorem if_eq (k : K p s m meth c Z y cd ml ret) (X : Stand p l e R s m args below meth c T locs cells slots) {a : Int32} {o : Int} (hd : decode cd pc = .ok (.ifCond .eq o, 3)) (ho : 0 ≤ (pc : Int) + o) (py pn : Nat) (hy : ((pc : Int) + o).toNat = py) (hn : pc + 3 = pn) (h1 : a = 0 → Ends p e s below R Q T (mkF m py ls st)) (h2 : ¬ a = 0 → Ends p e s below R Q T (mkF m pn ls st)) : Ends p e s below R Q T (mkF m pc ls (.int a :: st)) := by
  subst hn
  by_cases q : a = 0
  · exact (h1 q).map fun _ r => XS.ifYes X.here k.1 rfl rfl (hb k.2.2.1 hd) rfl ((if0 _ _).trans (teq q).1) ho hy r
  · exact (h2 q).map fun _ r => XS.ifNo X.here k.1 rfl (hb k.2.2.1 hd) rfl ((if0 _ _).trans (feq q).1) r
theorem icmp_ne (k : K p s m meth c Z y cd ml ret) (X : Stand p l e R s m args below meth c T locs cells slots) {a b : Int32} {o : Int} (hd : decode cd pc = .ok (.if_icmp .ne o, 3)) (ho : 0 ≤ (pc : Int) + o) (py pn : Nat) (hy : ((pc : Int) + o).toNat = py) (hn : pc + 3 = pn) (h1 : ¬ a = b → Ends p e s below R Q T (mkF m py ls st)) (h2 : a = b → Ends p e s below R Q T (mkF m pn ls st)) : Ends p e s below R Q T (mkF m pc ls (.int b :: .int a :: st)) := by
  subst hn
  by_cases q : a = b
  · exact (h2 q).map fun _ r => XS.icmpNo X.here k.1 rfl (hb k.2.2.1 hd) rfl (teq q).2 r
  · exact (h1 q).map fun _ r => XS.icmpYes X.here k.1 rfl rfl (hb k.2.2.1 hd) rfl (feq q).2 ho hy r
theorem if_ne (k : K p s m meth c Z y cd ml ret) (X : Stand p l e R s m args below meth c T locs cells slots) {a : Int32} {o : Int} (hd : decode cd pc = .ok (.ifCond .ne o, 3)) (ho : 0 ≤ (pc : Int) + o) (py pn : Nat) (hy : ((pc : Int) + o).toNat = py) (hn : pc + 3 = pn) (h1 : ¬ a = 0 → Ends p e s below R Q T (mkF m py ls st)) (h2 : a = 0 → Ends p e s below R Q T (mkF m pn ls st)) : Ends p e s below R Q T (mkF m pc ls (.int a :: st)) := by
  subst hn
  by_cases q : a = 0
  · exact (h2 q).map fun _ r => XS.ifNo X.here k.1 rfl (hb k.2.2.1 hd) rfl ((if0 _ _).trans (teq q).2) r
  · exact (h1 q).map fun _ r => XS.ifYes X.here k.1 rfl rfl (hb k.2.2.1 hd) rfl ((if0 _ _).trans (feq q).2) ho hy r
theorem lcmp_lt (k : K p s m meth c Z y cd ml ret) (X : Stand p l e R s m args below meth c T locs cells slots) {a b : Int64} {o : Int} (hd0 : decode cd pc = .ok (.lcmp, 1)) (pc1 : Nat) (hp1 : pc + 1 = pc1) (hd : decode cd pc1 = .ok (.ifCond .lt o, 3)) (ho : 0 ≤ (pc1 : Int) + o) (py pn : Nat) (hy : ((pc1 : Int) + o).toNat = py) (hn : pc1 + 3 = pn) (h1 : a < b → Ends p e s below R Q T (mkF m py ls st)) (h2 : ¬ a < b → Ends p e s below R Q T (mkF m pn ls st)) : Ends p e s below R Q T (mkF m pc ls (.long b :: .long a :: st)) := by
  subst hp1
  refine Ends.map (T' := T) (f' := mkF m (pc + 1) ls (.int (lcmpW a b) :: st)) (fun _ q => XS.lcmp X.here k.1 rfl (hb k.2.2.1 hd0) rfl q) ?_
  exact if_lt k X hd ho py pn hy hn (fun q => h1 ((lw_lt a b).mp q)) (fun q => h2 (mt (lw_lt a b).mpr q))
theorem lcmp_ge (k : K p s m meth c Z y cd ml ret) (X : Stand p l e R s m args below meth c T locs cells slots) {a b : Int64} {o : Int} (hd0 : decode cd pc = .ok (.lcmp, 1)) (pc1 : Nat) (hp1 : pc + 1 = pc1) (hd : decode cd pc1 = .ok (.ifCond .ge o, 3)) (ho : 0 ≤ (pc1 : Int) + o) (py pn : Nat) (hy : ((pc1 : Int) + o).toNat = py) (hn : pc1 + 3 = pn) (h1 : ¬ a < b → Ends p e s below R Q T (mkF m py ls st)) (h2 : a < b → Ends p e s below R Q T (mkF m pn ls st)) : Ends p e s below R Q T (mkF m pc ls (.long b :: .long a :: st)) := by
  subst hp1
  refine Ends.map (T' := T) (f' := mkF m (pc + 1) ls (.int (lcmpW a b) :: st)) (fun _ q => XS.lcmp X.here k.1 rfl (hb k.2.2.1 hd0) rfl q) ?_
  exact if_ge k X hd ho py pn hy hn (fun q => h1 (mt (lw_lt a b).mpr q)) (fun q => h2 ((lw_lt a b).mp q))
theorem lcmp_gt (k : K p s m meth c Z y cd ml ret) (X : Stand p l e R s m args below meth c T locs cells slots) {a b : Int64} {o : Int} (hd0 : decode cd pc = .ok (.lcmp, 1)) (pc1 : Nat) (hp1 : pc + 1 = pc1) (hd : decode cd pc1 = .ok (.ifCond .gt o, 3)) (ho : 0 ≤ (pc1 : Int) + o) (py pn : Nat) (hy : ((pc1 : Int) + o).toNat = py) (hn : pc1 + 3 = pn) (h1 : b < a → Ends p e s below R Q T (mkF m py ls st)) (h2 : ¬ b < a → Ends p e s below R Q T (mkF m pn ls st)) : Ends p e s below R Q T (mkF m pc ls (.long b :: .long a :: st)) := by
  subst hp1
  refine Ends.map (T' := T) (f' := mkF m (pc + 1) ls (.int (lcmpW a b) :: st)) (fun _ q => XS.lcmp X.here k.1 rfl (hb k.2.2.1 hd0) rfl q) ?_
  exact if_gt k X hd ho py pn hy hn (fun q => h1 ((lw_gt a b).mp q)) (fun q => h2 (mt (lw_gt a b).mpr q))
theorem lcmp_le (k : K p s m meth c Z y cd ml ret) (X : Stand p l e R s m args below meth c T locs cells slots) {a b : Int64} {o : Int} (hd0 : decode cd pc = .ok (.lcmp, 1)) (pc1 : Nat) (hp1 : pc + 1 = pc1) (hd : decode cd pc1 = .ok (.ifCond .le o, 3)) (ho : 0 ≤ (pc1 : Int) + o) (py pn : Nat) (hy : ((pc1 : Int) + o).toNat = py) (hn : pc1 + 3 = pn) (h1 : ¬ b < a → Ends p e s below R Q T (mkF m py ls st)) (h2 : b < a → Ends p e s below R Q T (mkF m pn ls st)) : Ends p e s below R Q T (mkF m pc ls (.long b :: .long a :: st)) := by
  subst hp1
  refine Ends.map (T' := T) (f' := mkF m (pc + 1) ls (.int (lcmpW a b) :: st)) (fun _ q => XS.lcmp X.here k.1 rfl (hb k.2.2.1 hd0) rfl q) ?_
  exact if_le k X hd ho py pn hy hn (fun q => h1 (mt (lw_gt a b).mpr q)) (fun q => h2 ((lw_gt a b).mp q))
theorem lcmp_eq (k : K p s m meth c Z y cd ml ret) (X : Stand p l e R s m args below meth c T locs cells slots) {a b : Int64} {o : Int} (hd0 : decode cd pc = .ok (.lcmp, 1)) (pc1 : Nat) (hp1 : pc + 1 = pc1) (hd : decode cd pc1 = .ok (.ifCond .eq o, 3)) (ho : 0 ≤ (pc1 : Int) + o) (py pn : Nat) (hy : ((pc1 : Int) + o).toNat = py) (hn : pc1 + 3 = pn) (h1 : a = b → Ends p e s below R Q T (mkF m py ls st)) (h2 : ¬ a = b → Ends p e s below R Q T (mkF m pn ls st)) : Ends p e s below R Q T (mkF m pc ls (.long b :: .long a :: st)) := by
  subst hp1
  refine Ends.map (T' := T) (f' := mkF m (pc + 1) ls (.int (lcmpW a b) :: st)) (fun _ q => XS.lcmp X.here k.1 rfl (hb k.2.2.1 hd0) rfl q) ?_
  exact if_eq k X hd ho py pn hy hn (fun q => h1 ((lw_eq a b).mp q)) (fun q => h2 (mt (lw_eq a b).mpr q))
theorem lcmp_ne (k : K p s m meth c Z y cd ml ret) (X : Stand p l e R s m args below meth c T locs cells slots) {a b : Int64} {o : Int} (hd0 : decode cd pc = .ok (.lcmp, 1)) (pc1 : Nat) (hp1 : pc + 1 = pc1) (hd : decode cd pc1 = .ok (.ifCond .ne o, 3)) (ho : 0 ≤ (pc1 : Int) + o) (py pn : Nat) (hy : ((pc1 : Int) + o).toNat = py) (hn : pc1 + 3 = pn) (h1 : ¬ a = b → Ends p e s below R Q T (mkF m py ls st)) (h2 : a = b → Ends p e s below R Q T (mkF m pn ls st)) : Ends p e s below R Q T (mkF m pc ls (.long b :: .long a :: st)) := by
  subst hp1
  refine Ends.map (T' := T) (f' := mkF m (pc + 1) ls (.int (lcmpW a b) :: st)) (fun _ q => XS.lcmp X.here k.1 rfl (hb k.2.2.1 hd0) rfl q) ?_
  exact if_ne k X hd ho py pn hy hn (fun q => h1 (mt (lw_eq a b).mpr q)) (fun q => h2 ((lw_eq a b).mp q))
/-! references -/
theorem ifnull_y (k : K p s m meth c Z y cd ml ret) (X : Stand p l e R s m args below meth c T locs cells slots) {o : Int} (hd : decode cd pc = .ok (.ifnull o, 3)) (ho : 0 ≤ (pc : Int) + o) (pc' : Nat) (hp : ((pc : Int) + o).toNat = pc') (h : Ends p e s below R Q T (mkF m pc' ls st)) : Ends p e s below R Q T (mkF m pc ls (.null :: st)) := by
  exact h.map fun _ q => XS.ifnullYes X.here k.1 rfl rfl (hb k.2.2.1 hd) rfl ho hp q
theorem ifnull_n (k : K p s m meth c Z y cd ml ret) (X : Stand p l e R s m args below meth c T locs cells slots) {o : Int} {a : Addr} (hd : decode cd pc = .ok (.ifnull o, 3)) (pc' : Nat) (hp : pc + 3 = pc') (h : Ends p e s below R Q T (mkF m pc' ls st)) : Ends p e s below R Q T (mkF m pc ls (.ref a :: st)) := by
  subst hp; exact h.map fun _ q => XS.ifnullNo X.here k.1 rfl (hb k.2.2.1 hd) rfl q
theorem ifnonnull_y (k : K p s m meth c Z y cd ml ret) (X : Stand p l e R s m args below meth c T locs cells slots) {o : Int} {a : Addr} (hd : decode cd pc = .ok (.ifnonnull o, 3)) (ho : 0 ≤ (pc : Int) + o) (pc' : Nat) (hp : ((pc : Int) + o).toNat = pc') (h : Ends p e s below R Q T (mkF m pc' ls st)) : Ends p e s below R Q T (mkF m pc ls (.ref a :: st)) := by
  exact h.map fun _ q => XS.ifnonnullYes X.here k.1 rfl rfl (hb k.2.2.1 hd) rfl ho hp q
theorem ifnonnull_n (k : K p s m meth c Z y cd ml ret) (X : Stand p l e R s m args below meth c T locs cells slots) {o : Int} (hd : decode cd pc = .ok (.ifnonnull o, 3)) (pc' : Nat) (hp : pc + 3 = pc') (h : Ends p e s below R Q T (mkF m pc' ls st)) : Ends p e s below R Q T (mkF m pc ls (.null :: st)) := by
  subst hp; exact h.map fun _ q => XS.ifnonnullNo X.here k.1 rfl (hb k.2.2.1 hd) rfl q
/-! returns -/
theorem ret_int (k : K p s m meth c Z y cd ml ret) (X : Stand p l e R s m args below meth c T locs cells slots) (hret : ret = some .int) {z : Int32} (hd : decode cd pc = .ok (.ireturn, 1)) (hc : cells ≤ R.cells) (hs : slots ≤ R.slots) (h : Q (some (.int z)) T.heap locs) : Ends p e s below R Q T (mkF m pc ls (.int z :: st)) := by
  have hl := k.2.2.2.2.2.2.1
  obtain ⟨fs, hr, hrun, hended, hW, hsame⟩ := X.leave (v := some (.int z)) (fun q => by rw [k.2.2.2.2.2.1, hret] at q; cases q)
  exact ⟨_, _, retOut X k.1 (t := .int) (k.2.2.2.2.2.1.trans hret) rfl (Or.inl ⟨rfl, Or.inl rfl, _, rfl⟩) (hb k.2.2.1 hd) hr, hrun, hended, _, _, rfl, h, ⟨_, rfl⟩, hW, hsame.mono hc hs⟩
theorem ret_bool (k : K p s m meth c Z y cd ml ret) (X : Stand p l e R s m args below meth c T locs cells slots) (hret : ret = some .boolean) {z : Int32} (hd : decode cd pc = .ok (.ireturn, 1)) (hc : cells ≤ R.cells) (hs : slots ≤ R.slots) (hz : z = 0 ∨ z = 1) (h : Q (some (.int z)) T.heap locs) : Ends p e s below R Q T (mkF m pc ls (.int z :: st)) := by
  have hl := k.2.2.2.2.2.2.1
  obtain ⟨fs, hr, hrun, hended, hW, hsame⟩ := X.leave (v := some (.int z)) (fun q => by rw [k.2.2.2.2.2.1, hret] at q; cases q)
  exact ⟨_, _, retOut X k.1 (t := .boolean) (k.2.2.2.2.2.1.trans hret) (by rcases hz with rfl | rfl <;> rfl) (Or.inl ⟨rfl, Or.inr (Or.inl rfl), _, rfl⟩) (hb k.2.2.1 hd) hr, hrun, hended, _, _, rfl, h, ⟨_, rfl⟩, hW, hsame.mono hc hs⟩
theorem ret_long (k : K p s m meth c Z y cd ml ret) (X : Stand p l e R s m args below meth c T locs cells slots) (hret : ret = some .long) {z : Int64} (hd : decode cd pc = .ok (.lreturn, 1)) (hc : cells ≤ R.cells) (hs : slots ≤ R.slots) (h : Q (some (.long z)) T.heap locs) : Ends p e s below R Q T (mkF m pc ls (.long z :: st)) := by
  have hl := k.2.2.2.2.2.2.1
  obtain ⟨fs, hr, hrun, hended, hW, hsame⟩ := X.leave (v := some (.long z)) (fun q => by rw [k.2.2.2.2.2.1, hret] at q; cases q)
  exact ⟨_, _, retOut X k.1 (t := .long) (k.2.2.2.2.2.1.trans hret) rfl (Or.inr (Or.inl ⟨rfl, rfl, _, rfl⟩)) (hb k.2.2.1 hd) hr, hrun, hended, _, _, rfl, h, ⟨_, rfl⟩, hW, hsame.mono hc hs⟩
theorem ret_ref (k : K p s m meth c Z y cd ml ret) (X : Stand p l e R s m args below meth c T locs cells slots) {t : FieldType} (hret : ret = some t) (ht : t.isReference = true) {z : Value} (hz : z.isRef = true) (hn : narrow t z = z) (hd : decode cd pc = .ok (.areturn, 1)) (hc : cells ≤ R.cells) (hs : slots ≤ R.slots) (h : Q (some z) T.heap locs) : Ends p e s below R Q T (mkF m pc ls (z :: st)) := by
  have hl := k.2.2.2.2.2.2.1
  obtain ⟨fs, hr, hrun, hended, hW, hsame⟩ := X.leave (v := some z) (fun q => by rw [k.2.2.2.2.2.1, hret] at q; cases q)
  exact ⟨_, _, retOut X k.1 (t := t) (k.2.2.2.2.2.1.trans hret) hn (Or.inr (Or.inr (Or.inr (Or.inr ⟨rfl, ht, hz⟩)))) (hb k.2.2.1 hd) hr, hrun, hended, _, _, rfl, h, ⟨_, rfl⟩, hW, hsame.mono hc hs⟩
theorem ret_void (k : K p s m meth c Z y cd ml ret) (X : Stand p l e R s m args below meth c T locs cells slots) (hret : ret = none) (hd : decode cd pc = .ok (.return_, 1)) (hc : cells ≤ R.cells) (hs : slots ≤ R.slots) (h : Q none T.heap locs) : Ends p e s below R Q T (mkF m pc ls []) := by
  have hl := k.2.2.2.2.2.2.1
  obtain ⟨fs, hr, hrun, hended, hW, hsame⟩ := X.leave (v := none) (fun _ => rfl)
  exact ⟨_, _, X.returnOut k.1 (k.2.2.2.2.2.1.trans hret) (hb k.2.2.1 hd) hr, hrun, hended, _, _, rfl, h, ⟨_, rfl⟩, hW, hsame.mono hc hs⟩
/-! the heap -/
theorem getfield (k : K p s m meth c Z y cd ml ret) (X : Stand p l e R s m args below meth c T locs cells slots) {R0 O n d host : String} {idx : Nat} {a : Addr} {v : Value} (hd : decode cd pc = .ok (.getfield idx, 3)) (wl : (Jvm.Cond.fieldLink y.cls idx R0 n d).before a0 Z = true ∨ (Jvm.Cond.fieldLinkNest y.cls idx R0 n d host).before a0 Z = true) (via : Via Z R0 O n d) (e0 : T.heap = h) (F : Fld Z h a O n d v) (pc' : Nat) (hp : pc + 3 = pc')
    (g : ∀ T' : State, Stand p l e R s m args below meth c T' locs cells slots → T'.heap = h → Ends p e s below R Q T' (mkF m pc' ls (v :: st))) : Ends p e s below R Q T (mkF m pc ls (.ref a :: st)) := by
  subst hp
  obtain ⟨T', X', e', q⟩ := getF X k.1 k.2.1 k.2.2.2.2.1 wl via e0 F (g := mkF m pc ls (.ref a :: st)) rfl rfl (hb k.2.2.1 hd)
  exact (g T' X' e').map q
theorem getstatic (k : K p s m meth c Z y cd ml ret) (X : Stand p l e R s m args below meth c T locs cells slots) {O n d host : String} {idx : Nat} {v : Value} (hd : decode cd pc = .ok (.getstatic idx, 3)) (wl : (Jvm.Cond.fieldLink y.cls idx O n d).before a0 Z = true ∨ (Jvm.Cond.fieldLinkNest y.cls idx O n d host).before a0 Z = true) (e0 : T.heap = h) (F : Sta Z h O n d v) (pc' : Nat) (hp : pc + 3 = pc')
    (g : ∀ T' : State, Stand p l e R s m args below meth c T' locs cells slots → T'.heap = h → Ends p e s below R Q T' (mkF m pc' ls (v :: st))) : Ends p e s below R Q T (mkF m pc ls st) := by
  subst hp
  obtain ⟨T', X', e', q⟩ := getS2 X k.1 k.2.1 k.2.2.2.2.1 wl Via.refl e0 F (g := mkF m pc ls st) rfl (hb k.2.2.1 hd)
  exact (g T' X' e').map q
theorem putfield (k : K p s m meth c Z y cd ml ret) (X : Stand p l e R s m args below meth c T locs cells slots) {R0 O n d host C : String} {idx kk : Nat} {ty : FieldType} {a : Addr} {v old : Value} (hd : decode cd pc = .ok (.putfield idx, 3)) (wl : (Jvm.Cond.fieldLink y.cls idx R0 n d).before a0 Z = true ∨ (Jvm.Cond.fieldLinkNest y.cls idx R0 n d host).before a0 Z = true) (via : Via Z R0 O n d) (e0 : T.heap = h) (F : Fld Z h a O n d old) (E : Exa Z h a C)
    (L : (Jvm.Cond.lays C O n d).before a0 Z = true ∨ ((Jvm.Cond.laysFinal C O n d).before a0 Z = true ∧ y.cls = O ∧ y.name = "<init>")) (wi : (Jvm.Cond.instantiable C kk).before a0 Z = true) (hty : parseFieldDescriptor d = some ty) (hn : narrow ty v = v) (hf : fits ty v = true) (pc' : Nat) (hp : pc + 3 = pc')
    (g : ∀ (T' : State) (h' : Heap), Stand p l e R s m args below meth c T' (locs ++ [⟨a, Jvm.RoadKit.slotOf Z O n d⟩]) cells slots → T'.heap = h' → Wr h h' a (Jvm.RoadKit.slotOf Z O n d) v → Ends p e s below R Q T' (mkF m pc' ls st)) : Ends p e s below R Q T (mkF m pc ls (v :: .ref a :: st)) := by
  subst hp
  obtain ⟨T', h', X', e', W', q⟩ := putF X k.1 k.2.1 k.2.2.2.2.1 wl via e0 F E (L.imp id fun q => ⟨q.1, q.2.1, k.2.2.2.2.2.2.2.trans q.2.2⟩) wi hty hn hf (g := mkF m pc ls (v :: .ref a :: st)) rfl rfl (hb k.2.2.1 hd)
  exact (g T' h' X' e' W').map q
theorem initObj (k : K p s m meth c Z y cd ml ret) (X : Stand p l e R s m args below meth c T locs cells slots) {idx : Nat} {a : Addr} {W : Nat} (hd : decode cd pc = .ok (.invokespecial idx, 3)) (w1 : (Jvm.Cond.methodLink y.cls idx Lib.objectInit).before a0 Z = true) (w2 : (Jvm.Cond.instanceMethod Lib.objectInit).before a0 Z = true) (w3 : (Jvm.Cond.code Lib.objectInit ⟨#[0xb1]⟩ 1 none).before a0 Z = true) (e0 : T.heap = h) (hsz : ls.size = ml) (hf : 1 ≤ R.frames) (hW : (st.map fun v => v.category).sum + 12 ≤ R.locals) (pc' : Nat) (hp : pc + 3 = pc')
    (g : ∀ T' : State, Stand p l e R s m args below meth c T' locs cells slots → T'.heap = h → Ends p e s below R Q T' (mkF m pc' ls st)) : Ends p e s below R Q T (mkF m pc ls (.ref a :: st)) := by
  subst hp
  obtain ⟨T', X', e', q⟩ := initO X k.1 k.2.1 k.2.2.2.2.1 w1 w2 w3 e0 (g := mkF m pc ls (.ref a :: st)) rfl (hsz.trans k.2.2.2.1.symm) rfl (hb k.2.2.1 hd) hf (W := (st.map fun v => v.category).sum) (by show 2 * 0 + _ ≤ _; rw [Nat.mul_zero, Nat.zero_add]; exact Nat.le_refl _) hW
  exact (g T' X' e').map q
theorem new (k : K p s m meth c Z y cd ml ret) (X : Stand p l e R s m args below meth c T locs cells slots) {C : String} {idx n : Nat} (hd : decode cd pc = .ok (.new idx, 3)) (wl : (Jvm.Cond.classLink y.cls idx C).before a0 Z = true) (wi : (Jvm.Cond.instantiable C n).before a0 Z = true) (wz : (Jvm.Cond.initialized C).before a0 Z = true) (e0 : T.heap = h) (hc : cells + 1 ≤ R.cells) (hs : slots + n ≤ R.slots) (pc' : Nat) (hp : pc + 3 = pc')
    (g : ∀ (T' : State) (h' : Heap) (a : Addr), a = h.size → Stand p l e R s m args below meth c T' locs (cells + 1) (slots + n) → T'.heap = h' → Ext h h' → Exa Z h' a C → (∀ {O nm d : String} {ty : FieldType}, Laid Z a0 C O nm d → parseFieldDescriptor d = some ty → Fld Z h' a O nm d (defaultValue ty)) → Ends p e s below R Q T' (mkF m pc' ls (.ref a :: st))) : Ends p e s below R Q T (mkF m pc ls st) := by
  subst hp
  obtain ⟨T', h', X', e', E', A', D', -, q⟩ := newO X k.1 k.2.1 k.2.2.2.2.1 wl wi wz e0 (g := mkF m pc ls st) rfl (hb k.2.2.1 hd) hc hs
  exact (g T' h' h.size rfl X' e' E' A' D').map q
theorem checkcast (k : K p s m meth c Z y cd ml ret) (X : Stand p l e R s m args below meth c T locs cells slots) {C : String} {idx : Nat} {a : Addr} (hd : decode cd pc = .ok (.checkcast idx, 3)) (wl : (Jvm.Cond.classLink y.cls idx C).before a0 Z = true) (e0 : T.heap = h) (F : Ins Z h a C true) (pc' : Nat) (hp : pc + 3 = pc')
    (g : ∀ T' : State, Stand p l e R s m args below meth c T' locs cells slots → T'.heap = h → Ends p e s below R Q T' (mkF m pc' ls (.ref a :: st))) : Ends p e s below R Q T (mkF m pc ls (.ref a :: st)) := by
  subst hp
  obtain ⟨T', X', e', q⟩ := castY X k.1 k.2.1 k.2.2.2.2.1 wl e0 F (g := mkF m pc ls (.ref a :: st)) rfl rfl (hb k.2.2.1 hd)
  exact (g T' X' e').map q
theorem inst_y (k : K p s m meth c Z y cd ml ret) (X : Stand p l e R s m args below meth c T locs cells slots) {C : String} {idx : Nat} {a : Addr} (hd : decode cd pc = .ok (.instanceof idx, 3)) (wl : (Jvm.Cond.classLink y.cls idx C).before a0 Z = true) (e0 : T.heap = h) (F : Ins Z h a C true) (pc' : Nat) (hp : pc + 3 = pc')
    (g : ∀ T' : State, Stand p l e R s m args below meth c T' locs cells slots → T'.heap = h → Ends p e s below R Q T' (mkF m pc' ls (.int 1 :: st))) : Ends p e s below R Q T (mkF m pc ls (.ref a :: st)) := by
  subst hp
  obtain ⟨T', X', e', q⟩ := instY X k.1 k.2.1 k.2.2.2.2.1 wl e0 F (g := mkF m pc ls (.ref a :: st)) rfl rfl (hb k.2.2.1 hd)
  exact (g T' X' e').map q
theorem acmp_same (k : K p s m meth c Z y cd ml ret) (X : Stand p l e R s m args below meth c T locs cells slots) {cnd : ACond} {o : Int} {a : Addr} (hd : decode cd pc = .ok (.if_acmp cnd o, 3)) (ho : 0 ≤ (pc : Int) + o) (pc' : Nat) (hp : pc' = if acV cnd true = true then ((pc : Int) + o).toNat else pc + 3) (h : Ends p e s below R Q T (mkF m pc' ls st)) : Ends p e s below R Q T (mkF m pc ls (.ref a :: .ref a :: st)) := by
  exact h.map fun _ q => Jvm.RoadKit.acmp (g := mkF m pc ls (.ref a :: .ref a :: st)) X k.1 rfl rfl rfl rfl (hb k.2.2.1 hd) rfl (decide_eq_true rfl) ho hp q
theorem acmp_diff (k : K p s m meth c Z y cd ml ret) (X : Stand p l e R s m args below meth c T locs cells slots) {cnd : ACond} {o : Int} {a : Addr} {v : Value} (hd : decode cd pc = .ok (.if_acmp cnd o, 3)) (hv : v.isRef = true) (hne : Value.ref a ≠ v) (ho : 0 ≤ (pc : Int) + o) (pc' : Nat) (hp : pc' = if acV cnd false = true then ((pc : Int) + o).toNat else pc + 3) (h : Ends p e s below R Q T (mkF m pc' ls st)) : Ends p e s below R Q T (mkF m pc ls (v :: .ref a :: st)) := by
  exact h.map fun _ q => Jvm.RoadKit.acmp (g := mkF m pc ls (v :: .ref a :: st)) X k.1 rfl rfl hv rfl (hb k.2.2.1 hd) rfl (decide_eq_false hne) ho hp q
theorem inst_null (k : K p s m meth c Z y cd ml ret) (X : Stand p l e R s m args below meth c T locs cells slots) {idx : Nat} (hd : decode cd pc = .ok (.instanceof idx, 3)) (pc' : Nat) (hp : pc + 3 = pc') (h : Ends p e s below R Q T (mkF m pc' ls (.int 0 :: st))) : Ends p e s below R Q T (mkF m pc ls (.null :: st)) := by
  subst hp; exact h.map fun _ q => X.instanceofNull k.1 (g := mkF m pc ls (.null :: st)) rfl rfl (hb k.2.2.1 hd) _ q
theorem inst_n (k : K p s m meth c Z y cd ml ret) (X : Stand p l e R s m args below meth c T locs cells slots) {C : String} {idx : Nat} {a : Addr} (hd : decode cd pc = .ok (.instanceof idx, 3)) (wl : (Jvm.Cond.classLink y.cls idx C).before a0 Z = true) (e0 : T.heap = h) (F : Ins Z h a C false) {C' : String} (E : Exa Z h a C') (pc' : Nat) (hp : pc + 3 = pc')
    (g : ∀ T' : State, Stand p l e R s m args below meth c T' locs cells slots → T'.heap = h → Ends p e s below R Q T' (mkF m pc' ls (.int 0 :: st))) : Ends p e s below R Q T (mkF m pc ls (.ref a :: st)) := by
  subst hp
  obtain ⟨cell, cT, h1, h2, h3⟩ := F
  obtain ⟨cell', kc, e1, -, e3, e4, -⟩ := E
  cases h1.symm.trans e1
  obtain ⟨k', q, -⟩ := k.2.1.alike.2.2 _ _ e3
  obtain ⟨vm', X', st'⟩ := Jvm.Sym.instanceofNoAt X k.1 k.2.2.2.2.1 (mvT k.2.1 wl) (by rw [e0]; exact h1) e4 q (by rw [k.2.1.alike.findClass]; exact h2) (by rw [k.2.1.alike.assignable]; simpa [e4] using h3) (g := mkF m pc ls (.ref a :: st)) rfl rfl (hb k.2.2.1 hd)
  exact (g _ X' e0).map st'
end
/-! arrays: the list of what they hold -/
def Arl (Z : State) (h : Heap) (a : Addr) (ty : FieldType) (vs : List Value) : Prop := ∃ c : Cell, Arr Z h a c ty ∧ c.slots.toList = vs ∧ vs.length < 2147483648
section
variable {Z : State} {h h' : Heap} {a b : Addr} {ty : FieldType} {vs : List Value} {sl : Nat} {v : Value} {ws : List Addr}
theorem Arl.lt (F : Arl Z h a ty vs) : a < h.size := by obtain ⟨c, A, -⟩ := F; exact A.lt
theorem Arl.ext (F : Arl Z h a ty vs) (E : Ext h h') : Arl Z h' a ty vs := by obtain ⟨c, A, r⟩ := F; exact ⟨c, A.ext E, r⟩
theorem Arl.other (F : Arl Z h b ty vs) (W : Wr h h' a sl v) (q : b ≠ a) : Arl Z h' b ty vs := by obtain ⟨c, A, r⟩ := F; exact ⟨c, A.other W q, r⟩
theorem Arl.keep (F : Arl Z h a ty vs) (K : Keep h h' ws) (q : a ∉ ws) : Arl Z h' a ty vs := by obtain ⟨c, A, r⟩ := F; exact ⟨c, ⟨K.2.1 a c A.1 q, A.2⟩, r⟩
theorem Arl.same (F : Arl Z h a ty vs) (W : Wr h h' a sl v) : Arl Z h' a ty (vs.set sl v) := by
  obtain ⟨c, A, rfl, hl⟩ := F
  refine ⟨c.setSlot sl v, A.same W, ?_, by rw [List.length_set]; exact hl⟩
  simp [Cell.setSlot]
theorem tnc {j : Int32} {i : Nat} (hj : j.toInt = i) : j.toNatClampNeg = i := by simp only [Int32.toNatClampNeg, hj]; rfl
theorem inb {j : Int32} {i n : Nat} (hj : j.toInt = i) (hi : i < n) : ¬ (j < 0 ∨ n ≤ j.toNatClampNeg) := by
  rw [tnc hj]; intro q
  rcases q with q | q
  · rw [Int32.lt_iff_toInt_lt] at q; have e0 : (0 : Int32).toInt = 0 := rfl; omega
  · omega
theorem lt_of_get {xs : List Int32} {i : Nat} {x : Int32} (q : xs[i]? = some x) : i < xs.length := (List.getElem?_eq_some_iff.mp q).1
end
section
variable {p : Program} {l : Launch} {e : Env} {R : Room} {s : State} {m : MethodId} {args : Array Value} {below : List Frame} {meth : Method} {c : Code} {T : State} {locs : List Loc} {cells slots : Nat} {Z : State} {a0 : Array Value} {h : Heap} {y : MethodName} {cd : ByteArray} {ml : Nat} {ret : Option FieldType} {Q : Option Value → Heap → List Loc → Prop} {pc pc' : Nat} {ls : Array Slot} {st : List Value}
theorem arraylength (k : K p s m meth c Z y cd ml ret) (X : Stand p l e R s m args below meth c T locs cells slots) {ty : FieldType} {vs : List Value} {a : Addr} (hd : decode cd pc = .ok (.arraylength, 1)) (e0 : T.heap = h) (A : Arl Z h a ty vs) (n : Int32) (hn : n.toInt = vs.length) (pc' : Nat) (hp : pc + 1 = pc') (g : Ends p e s below R Q T (mkF m pc' ls (.int n :: st))) : Ends p e s below R Q T (mkF m pc ls (.ref a :: st)) := by
  subst hp
  obtain ⟨cl, Ar, rfl, hl⟩ := A
  have q : cl.slots.size.toInt32 = n := by
    apply Int32.toInt_inj.mp
    rw [len_toInt (by simpa using hl), hn]; simp
  refine g.map fun _ r => X.arraylength k.1 (by rw [e0]; exact Ar.1) (State.isArrayOf_alike k.2.1.alike Ar.2.1) (g := mkF m pc ls (.ref a :: st)) rfl rfl (hb k.2.2.1 hd) _ ?_
  rw [q]; exact r
theorem iaload (k : K p s m meth c Z y cd ml ret) (X : Stand p l e R s m args below meth c T locs cells slots) {xs : List Int32} {a : Addr} {j : Int32} (hd : decode cd pc = .ok (.iaload, 1)) (e0 : T.heap = h) (A : Arl Z h a .int (xs.map .int)) (i : Nat) (hj : j.toInt = i) (x : Int32) (hx : xs[i]? = some x) (pc' : Nat) (hp : pc + 1 = pc') (g : Ends p e s below R Q T (mkF m pc' ls (.int x :: st))) : Ends p e s below R Q T (mkF m pc ls (.int j :: .ref a :: st)) := by
  subst hp
  obtain ⟨cl, Ar, hs, hl⟩ := A
  have hz : cl.slots.size = xs.length := by rw [← Array.length_toList, hs, List.length_map]
  refine g.map fun _ r => X.iaload k.1 (j := j) (v := .int x) (by rw [e0]; exact Ar.1) (State.isArrayOf_alike k.2.1.alike Ar.2.1) Ar.2.2 (inb hj (hz ▸ lt_of_get hx)) ?_ (g := mkF m pc ls (.int j :: .ref a :: st)) rfl rfl (hb k.2.2.1 hd) _ r
  rw [tnc hj, ← Array.getElem?_toList, hs, List.getElem?_map, hx]; rfl
theorem baload (k : K p s m meth c Z y cd ml ret) (X : Stand p l e R s m args below meth c T locs cells slots) {xs : List Int32} {a : Addr} {j : Int32} (hd : decode cd pc = .ok (.baload, 1)) (e0 : T.heap = h) (A : Arl Z h a .byte (xs.map .int)) (i : Nat) (hj : j.toInt = i) (x : Int32) (hx : xs[i]? = some x) (pc' : Nat) (hp : pc + 1 = pc') (g : Ends p e s below R Q T (mkF m pc' ls (.int x :: st))) : Ends p e s below R Q T (mkF m pc ls (.int j :: .ref a :: st)) := by
  subst hp
  obtain ⟨cl, Ar, hs, hl⟩ := A
  have hz : cl.slots.size = xs.length := by rw [← Array.length_toList, hs, List.length_map]
  refine g.map fun _ r => X.baloadBytes k.1 (j := j) (v := .int x) (by rw [e0]; exact Ar.1) (State.isArrayOf_alike k.2.1.alike Ar.2.1) Ar.2.2 (inb hj (hz ▸ lt_of_get hx)) ?_ (g := mkF m pc ls (.int j :: .ref a :: st)) rfl rfl (hb k.2.2.1 hd) _ r
  rw [tnc hj, ← Array.getElem?_toList, hs, List.getElem?_map, hx]; rfl
theorem iastore (k : K p s m meth c Z y cd ml ret) (X : Stand p l e R s m args below meth c T locs cells slots) {xs : List Int32} {a : Addr} {j x : Int32} (hd : decode cd pc = .ok (.iastore, 1)) (e0 : T.heap = h) (A : Arl Z h a .int (xs.map .int)) (i : Nat) (hj : j.toInt = i) (hi : i < xs.length) (pc' : Nat) (hp : pc + 1 = pc')
    (g : ∀ (T' : State) (h' : Heap), Stand p l e R s m args below meth c T' (locs ++ [⟨a, i⟩]) cells slots → T'.heap = h' → Wr h h' a i (.int x) → Arl Z h' a .int ((xs.set i x).map .int) → Ends p e s below R Q T' (mkF m pc' ls st)) : Ends p e s below R Q T (mkF m pc ls (.int x :: .int j :: .ref a :: st)) := by
  subst hp
  have A' := A
  obtain ⟨cl, Ar, hs, hl⟩ := A
  have hz : cl.slots.size = xs.length := by rw [← Array.length_toList, hs, List.length_map]
  obtain ⟨T', h', X', e', W', q⟩ := stI X k.1 k.2.1 e0 Ar (j := j) (x := x) (inb hj (hz ▸ hi)) (g := mkF m pc ls (.int x :: .int j :: .ref a :: st)) rfl rfl (hb k.2.2.1 hd)
  rw [tnc hj] at X' W'
  exact (g T' h' X' e' W' (by rw [List.map_set]; exact A'.same W')).map q
theorem bastore (k : K p s m meth c Z y cd ml ret) (X : Stand p l e R s m args below meth c T locs cells slots) {xs : List Int32} {a : Addr} {j x : Int32} (hd : decode cd pc = .ok (.bastore, 1)) (e0 : T.heap = h) (A : Arl Z h a .byte (xs.map .int)) (i : Nat) (hj : j.toInt = i) (hi : i < xs.length) (x' : Int32) (hx' : x.toInt8.toInt32 = x') (pc' : Nat) (hp : pc + 1 = pc')
    (g : ∀ (T' : State) (h' : Heap), Stand p l e R s m args below meth c T' (locs ++ [⟨a, i⟩]) cells slots → T'.heap = h' → Wr h h' a i (.int x') → Arl Z h' a .byte ((xs.set i x').map .int) → Ends p e s below R Q T' (mkF m pc' ls st)) : Ends p e s below R Q T (mkF m pc ls (.int x :: .int j :: .ref a :: st)) := by
  subst hp hx'
  have A' := A
  obtain ⟨cl, Ar, hs, hl⟩ := A
  have hz : cl.slots.size = xs.length := by rw [← Array.length_toList, hs, List.length_map]
  obtain ⟨T', h', X', e', W', q⟩ := stB X k.1 k.2.1 e0 Ar (j := j) (x := x) (inb hj (hz ▸ hi)) (g := mkF m pc ls (.int x :: .int j :: .ref a :: st)) rfl rfl (hb k.2.2.1 hd)
  rw [tnc hj] at X' W'
  exact (g T' h' X' e' W' (by rw [List.map_set]; exact A'.same W')).map q
theorem newarray (k : K p s m meth c Z y cd ml ret) (X : Stand p l e R s m args below meth c T locs cells slots) {aty : ArrayType} {n : Int32} (hd : decode cd pc = .ok (.newarray aty, 2)) (wa : (Jvm.Cond.arrayClass (newarray.typeOf aty)).before a0 Z = true) (e0 : T.heap = h) (i : Nat) (hn : n.toInt = i) (cap : Nat) (hcap : i ≤ cap) (hb8 : cap * 8 ≤ 536870912) (hc : cells + 1 ≤ R.cells) (hs : slots + cap ≤ R.slots) (pc' : Nat) (hp : pc + 2 = pc')
    (g : ∀ (T' : State) (h' : Heap) (a : Addr), a = h.size → Stand p l e R s m args below meth c T' locs (cells + 1) (slots + cap) → T'.heap = h' → Ext h h' → Arl Z h' a (newarray.typeOf aty) (List.replicate i (defaultValue (newarray.typeOf aty))) → Ends p e s below R Q T' (mkF m pc' ls (.ref a :: st))) : Ends p e s below R Q T (mkF m pc ls (.int n :: st)) := by
  subst hp
  have h0 : ¬ n < 0 := by rw [Int32.lt_iff_toInt_lt]; have e0 : (0 : Int32).toInt = 0 := rfl; omega
  obtain ⟨T', h', cA, X', e', E', A', q⟩ := newP X k.1 k.2.1 wa e0 (g := mkF m pc ls (.int n :: st)) rfl (hb k.2.2.1 hd) rfl h0 (cap := cap) (by rw [tnc hn]; exact hcap) hb8 hc hs
  refine (g T' h' h.size rfl X' e' E' ⟨_, A', ?_, ?_⟩).map q
  · simp [newA, tnc hn]
  · rw [List.length_replicate]; omega
/-! calls, by the callee's contract -/
theorem callS (k : K p s m meth c Z y cd ml ret) (X : Stand p l e R s m args below meth c T locs cells slots) {y' : MethodName} {cd' : ByteArray} {ml' : Nat} {ret' : Option FieldType} {rm' : Room} {Qc : Option Value → Heap → List Loc → Prop} {idx : Nat} {ps : List FieldType} {rt : Option FieldType} (as : List Value) (rest : List Value) (hd : decode cd pc = .ok (.invokestatic idx, 3)) (M : Met l y' cd' ml' ret' rm' as.toArray Z h Qc []) (e0 : T.heap = h)
    (w1 : (Jvm.Cond.methodLink y.cls idx y').before a0 Z = true) (w2 : (Jvm.Cond.static y').before a0 Z = true) (w3 : (Jvm.Cond.initialized y'.cls).before a0 Z = true) (w4 : (Jvm.Cond.code y' cd' ml' ret').before a0 Z = true) (hy : y'.cls ≠ "java/lang/invoke/MethodHandle" ∧ y'.cls ≠ "java/lang/invoke/VarHandle") (hsz : ls.size = ml) (hlen : parseMethodDescriptor y'.desc = some ⟨ps, rt⟩) (hl2 : as.length = ps.length) (hst : st = as.reverse ++ rest)
    (hf : rm'.frames + 1 ≤ R.frames) (hlo : (rest.map fun v => v.category).sum + (ml' + 11) + rm'.locals ≤ R.locals) (hc : cells + rm'.cells ≤ R.cells) (hs : slots + rm'.slots ≤ R.slots) (pc' : Nat) (hp : pc + 3 = pc')
    (g : ∀ (T' : State) (v : Option Value) (L : List Loc), Stand p l e R s m args below meth c T' (locs ++ L) (cells + rm'.cells) (slots + rm'.slots) → Qc v T'.heap L → Ends p e s below R Q T' (mkF m pc' ls (v.toList ++ rest))) : Ends p e s below R Q T (mkF m pc ls st) := by
  subst hp hst
  obtain ⟨v, _, ⟨T', L', c', n'⟩, -, X', ⟨Lc, hQ, q1, q2, q3⟩, q⟩ := Jvm.LawKit.callS X k.1 (y := y') k.2.2.2.2.1 (mvT k.2.1 w1) (mvT k.2.1 w2) (mvT k.2.1 w3) (mvT k.2.1 w4) hy (backOf (W := (rest.map fun v => v.category).sum) M k.2.1 w4 w3 hf hlo) (g := mkF m pc ls (as.reverse ++ rest)) rfl (hsz.trans k.2.2.2.1.symm) (argsL := as) (rest := rest) (lenOf hlen hl2) rfl (by show 2 * 0 + _ ≤ _; rw [Nat.mul_zero, Nat.zero_add]; exact Nat.le_refl _) (hb k.2.2.1 hd) (fun _ _ => ⟨rfl, e0, hc, hs⟩)
  dsimp only [Pt.U, Pt.locs, Pt.cells, Pt.slots] at X' q1 q2 q3 q hQ
  subst q1 q2 q3
  exact (g T' v Lc X' hQ).map q
theorem callI (k : K p s m meth c Z y cd ml ret) (X : Stand p l e R s m args below meth c T locs cells slots) {y' : MethodName} {cd' : ByteArray} {ml' : Nat} {rm' : Room} {Qc : Option Value → Heap → List Loc → Prop} {idx : Nat} {ps : List FieldType} {rt : Option FieldType} {a : Addr} (as : List Value) (rest : List Value) (hd : decode cd pc = .ok (.invokespecial idx, 3)) (M : Met l y' cd' ml' none rm' (.ref a :: as).toArray Z h Qc []) (e0 : T.heap = h) (hin : y'.name = "<init>")
    (w1 : (Jvm.Cond.methodLink y.cls idx y').before a0 Z = true) (w2 : (Jvm.Cond.instanceMethod y').before a0 Z = true) (w3 : (Jvm.Cond.initialized y'.cls).before a0 Z = true) (w4 : (Jvm.Cond.code y' cd' ml' none).before a0 Z = true) (hy : y'.cls ≠ "java/lang/invoke/MethodHandle" ∧ y'.cls ≠ "java/lang/invoke/VarHandle") (hsz : ls.size = ml) (hlen : parseMethodDescriptor y'.desc = some ⟨ps, rt⟩) (hl2 : as.length = ps.length) (hst : st = as.reverse ++ .ref a :: rest)
    (hf : rm'.frames + 1 ≤ R.frames) (hlo : (rest.map fun v => v.category).sum + (ml' + 11) + rm'.locals ≤ R.locals) (hc : cells + rm'.cells ≤ R.cells) (hs : slots + rm'.slots ≤ R.slots) (pc' : Nat) (hp : pc + 3 = pc')
    (g : ∀ (T' : State) (v : Option Value) (L : List Loc), Stand p l e R s m args below meth c T' (locs ++ L) (cells + rm'.cells) (slots + rm'.slots) → Qc v T'.heap L → Ends p e s below R Q T' (mkF m pc' ls (v.toList ++ rest))) : Ends p e s below R Q T (mkF m pc ls st) := by
  subst hp hst
  obtain ⟨v, _, ⟨T', L', c', n'⟩, -, X', ⟨Lc, hQ, q1, q2, q3⟩, q⟩ := X.specialBack k.1 (y := y') hin k.2.2.2.2.1 (mvT k.2.1 w1) (mvT k.2.1 w2) (mvT k.2.1 w4) hy (backOf (W := (rest.map fun v => v.category).sum) M k.2.1 w4 w3 hf hlo) (g := mkF m pc ls (as.reverse ++ .ref a :: rest)) rfl (hsz.trans k.2.2.2.1.symm) (Steps.refl _) (a := a) (argsL := as) (rest := rest) (lenOf hlen hl2) rfl (by show 2 * 0 + _ ≤ _; rw [Nat.mul_zero, Nat.zero_add]; exact Nat.le_refl _) (hb k.2.2.1 hd) (fun _ _ => ⟨rfl, e0, hc, hs⟩)
  dsimp only [Pt.U, Pt.locs, Pt.cells, Pt.slots] at X' q1 q2 q3 q hQ
  subst q1 q2 q3
  exact (g T' v Lc X' hQ).map fun _ r => q.trans r
theorem callV (k : K p s m meth c Z y cd ml ret) (X : Stand p l e R s m args below meth c T locs cells slots) {y' : MethodName} {cd' : ByteArray} {ml' : Nat} {ret' : Option FieldType} {rm' : Room} {Qc : Option Value → Heap → List Loc → Prop} {idx : Nat} {ps : List FieldType} {rt : Option FieldType} {a : Addr} (as : List Value) (rest : List Value) (hd : decode cd pc = .ok (.invokevirtual idx, 3)) (M : Met l y' cd' ml' ret' rm' (.ref a :: as).toArray Z h Qc []) (e0 : T.heap = h) (E : Exa Z h a y'.cls)
    (w1 : (Jvm.Cond.methodLink y.cls idx y').before a0 Z = true) (w0 : (Jvm.Cond.declares y').before a0 Z = true) (ws : (Jvm.Cond.selects y'.cls y' y').before a0 Z = true) (w2 : (Jvm.Cond.instanceMethod y').before a0 Z = true) (w3 : (Jvm.Cond.initialized y'.cls).before a0 Z = true) (w4 : (Jvm.Cond.code y' cd' ml' ret').before a0 Z = true) (hy : y'.cls ≠ "java/lang/invoke/MethodHandle" ∧ y'.cls ≠ "java/lang/invoke/VarHandle") (hsz : ls.size = ml) (hlen : parseMethodDescriptor y'.desc = some ⟨ps, rt⟩) (hl2 : as.length = ps.length) (hst : st = as.reverse ++ .ref a :: rest)
    (hf : rm'.frames + 1 ≤ R.frames) (hlo : (rest.map fun v => v.category).sum + (ml' + 11) + rm'.locals ≤ R.locals) (hc : cells + rm'.cells ≤ R.cells) (hs : slots + rm'.slots ≤ R.slots) (pc' : Nat) (hp : pc + 3 = pc')
    (g : ∀ (T' : State) (v : Option Value) (L : List Loc), Stand p l e R s m args below meth c T' (locs ++ L) (cells + rm'.cells) (slots + rm'.slots) → Qc v T'.heap L → Ends p e s below R Q T' (mkF m pc' ls (v.toList ++ rest))) : Ends p e s below R Q T (mkF m pc ls st) := by
  subst hp hst
  obtain ⟨cq, kq, qa, qb, qc⟩ := isOf k.2.1 e0 E
  obtain ⟨v, _, ⟨T', L', c', n'⟩, -, X', ⟨Lc, hQ, q1, q2, q3⟩, q⟩ := X.virtualBack k.1 (y := y') (z := y') k.2.2.2.2.1 (mvT k.2.1 w1) (mvT k.2.1 w0) (notFace_of_selects (args := #[]) (mvT k.2.1 ws)) (mvT k.2.1 ws) (mvT k.2.1 w2) hy (backOf (W := (rest.map fun v => v.category).sum) M k.2.1 w4 w3 hf hlo) qa qc (g := mkF m pc ls (as.reverse ++ .ref a :: rest)) rfl (hsz.trans k.2.2.2.1.symm) (Steps.refl _) (argsL := as) (rest := rest) (lenOf hlen hl2) rfl (by show 2 * 0 + _ ≤ _; rw [Nat.mul_zero, Nat.zero_add]; exact Nat.le_refl _) (hb k.2.2.1 hd) (fun _ _ => ⟨rfl, e0, hc, hs⟩)
  dsimp only [Pt.U, Pt.locs, Pt.cells, Pt.slots] at X' q1 q2 q3 q hQ
  subst q1 q2 q3
  exact (g T' v Lc X' hQ).map fun _ r => q.trans r
theorem callP (k : K p s m meth c Z y cd ml ret) (X : Stand p l e R s m args below meth c T locs cells slots) {y' : MethodName} {cd' : ByteArray} {ml' : Nat} {ret' : Option FieldType} {rm' : Room} {Qc : Option Value → Heap → List Loc → Prop} {idx : Nat} {ps : List FieldType} {rt : Option FieldType} {a : Addr} {C : String} {ni : Nat} (as : List Value) (rest : List Value) (hd : decode cd pc = .ok (.invokevirtual idx, 3)) (M : Met l y' cd' ml' ret' rm' (.ref a :: as).toArray Z h Qc []) (e0 : T.heap = h) (E : Exa Z h a C)
    (w1 : (Jvm.Cond.methodLink y.cls idx y').before a0 Z = true) (w0 : (Jvm.Cond.privateMethod y').before a0 Z = true) (wi : (Jvm.Cond.instantiable y'.cls ni).before a0 Z = true) (w2 : (Jvm.Cond.instanceMethod y').before a0 Z = true) (w3 : (Jvm.Cond.initialized y'.cls).before a0 Z = true) (w4 : (Jvm.Cond.code y' cd' ml' ret').before a0 Z = true) (hy : y'.cls ≠ "java/lang/invoke/MethodHandle" ∧ y'.cls ≠ "java/lang/invoke/VarHandle") (hsz : ls.size = ml) (hlen : parseMethodDescriptor y'.desc = some ⟨ps, rt⟩) (hl2 : as.length = ps.length) (hst : st = as.reverse ++ .ref a :: rest)
    (hf : rm'.frames + 1 ≤ R.frames) (hlo : (rest.map fun v => v.category).sum + (ml' + 11) + rm'.locals ≤ R.locals) (hc : cells + rm'.cells ≤ R.cells) (hs : slots + rm'.slots ≤ R.slots) (pc' : Nat) (hp : pc + 3 = pc')
    (g : ∀ (T' : State) (v : Option Value) (L : List Loc), Stand p l e R s m args below meth c T' (locs ++ L) (cells + rm'.cells) (slots + rm'.slots) → Qc v T'.heap L → Ends p e s below R Q T' (mkF m pc' ls (v.toList ++ rest))) : Ends p e s below R Q T (mkF m pc ls st) := by
  subst hp hst
  obtain ⟨cq, qa, qb⟩ := E.cell
  obtain ⟨ci, ki, i1, i2, -, i4, -, -⟩ := Cond.instantiable_spec wi
  have ws := Jvm.Stand.selects_self_of_private (args := a0) i1 i2 (Bool.or_eq_false_iff.mp i4).1 (Cond.privateMethod_at w0) w2 hy
  obtain ⟨v, _, ⟨T', L', c', n'⟩, -, X', ⟨Lc, hQ, q1, q2, q3⟩, q⟩ := X.privateBack k.1 (y := y') k.2.2.2.2.1 (mvT k.2.1 w1) (mvT k.2.1 w2) (mvT k.2.1 ws) (Cond.privateMethod_at (mvP k.2.1 w0 (args := #[]))) (mvT k.2.1 w4) hy (backOf (W := (rest.map fun v => v.category).sum) M k.2.1 w4 w3 hf hlo) (g := mkF m pc ls (as.reverse ++ .ref a :: rest)) rfl (hsz.trans k.2.2.2.1.symm) (Steps.refl _) (a := a) (by rw [e0]; exact qa) qb (argsL := as) (rest := rest) (lenOf hlen hl2) rfl (by show 2 * 0 + _ ≤ _; rw [Nat.mul_zero, Nat.zero_add]; exact Nat.le_refl _) (hb k.2.2.1 hd) (fun _ _ => ⟨rfl, e0, hc, hs⟩)
  dsimp only [Pt.U, Pt.locs, Pt.cells, Pt.slots] at X' q1 q2 q3 q hQ
  subst q1 q2 q3
  exact (g T' v Lc X' hQ).map fun _ r => q.trans r
end
end Wk
/-! own_: numbers: unsigned longs by naturals, seven bits a byte -/
def own_V (v : Int64) (k : Nat) : Int64 := Int64.ofBitVec (v.toBitVec >>> (7 * k))
def own_u (v : Int64) : Nat := v.toBitVec.toNat
theorem own_u_lt (v : Int64) : own_u v < 2 ^ 64 := v.toBitVec.isLt
theorem own_V0 (v : Int64) : own_V v 0 = v := by
  apply Int64.toBitVec_inj.mp
  show v.toBitVec >>> (7 * 0) = v.toBitVec
  simp
theorem own_sh (v : Int64) (q : Int32) (j : Nat) (hq : q.toBitVec.toNat % 64 = j) : ((v.toUInt64 >>> (q &&& 0x3f).toInt64.toUInt64).toInt64) = Int64.ofBitVec (v.toBitVec >>> j) := by
  apply Int64.toBitVec_inj.mp
  show v.toBitVec >>> ((q &&& 0x3f).toInt64.toBitVec % 64) = v.toBitVec >>> j
  have h2 := (sm64 q j hq).2
  rw [(sm64 q j hq).1, BitVec.ushiftRight_eq']
  congr 1
  rw [BitVec.toNat_umod, BitVec.toNat_ofNat]
  have : (64 : BitVec 64).toNat = 64 := rfl
  rw [this]; omega
theorem own_Vs (v : Int64) (k : Nat) : (((own_V v k).toUInt64 >>> ((7 : Int32) &&& 0x3f).toInt64.toUInt64).toInt64) = own_V v (k + 1) := by
  rw [own_sh (own_V v k) 7 7 (by decide)]
  apply Int64.toBitVec_inj.mp
  show v.toBitVec >>> (7 * k) >>> 7 = v.toBitVec >>> (7 * (k + 1))
  rw [← BitVec.shiftRight_add]; rfl
theorem own_u_sh (v : Int64) (j : Nat) : own_u (Int64.ofBitVec (v.toBitVec >>> j)) = own_u v / 2 ^ j := by
  show (v.toBitVec >>> j).toNat = _
  rw [BitVec.toNat_ushiftRight, Nat.shiftRight_eq_div_pow]; rfl
theorem own_u_V (v : Int64) (k : Nat) : own_u (own_V v k) = own_u v / 2 ^ (7 * k) := own_u_sh v (7 * k)
theorem own_u0 (v : Int64) : v = 0 ↔ own_u v = 0 := by
  constructor
  · intro h; rw [h]; rfl
  · intro h; apply Int64.toBitVec_inj.mp; apply BitVec.eq_of_toNat_eq; exact h
theorem own_u_and7 (v : Int64) : own_u (v &&& 127) = own_u v % 128 := by
  show (v.toBitVec &&& (127 : Int64).toBitVec).toNat = _
  rw [BitVec.toNat_and, show (127 : Int64).toBitVec.toNat = 2 ^ 7 - 1 from by decide, Nat.and_two_pow_sub_one_eq_mod]; rfl
theorem own_hiC (i : Fin 64) : ((-128 : Int64).toBitVec).getLsbD i.val = decide (7 ≤ i.val) := by revert i; decide
theorem own_u_hi (v : Int64) : own_u (v &&& (-128 : Int64)) = own_u v / 128 * 128 := by
  have key : v.toBitVec &&& (-128 : Int64).toBitVec = (v.toBitVec >>> 7) <<< 7 := by
    apply BitVec.eq_of_getLsbD_eq
    intro i hi
    rw [BitVec.getLsbD_and, own_hiC ⟨i, hi⟩, BitVec.getLsbD_shiftLeft, BitVec.getLsbD_ushiftRight]
    by_cases q : 7 ≤ i
    · have e : 7 + (i - 7) = i := by omega
      simp [q, hi, e]
    · simp [q]
  show (v.toBitVec &&& (-128 : Int64).toBitVec).toNat = v.toBitVec.toNat / 128 * 128
  rw [key, BitVec.toNat_shiftLeft, BitVec.toNat_ushiftRight, Nat.shiftRight_eq_div_pow, Nat.shiftLeft_eq]
  have := v.toBitVec.isLt
  omega
theorem own_small (v : Int64) (h : own_u v < 128) : v &&& 127 = v := by
  apply Int64.toBitVec_inj.mp; apply BitVec.eq_of_toNat_eq
  have := own_u_and7 v
  show own_u (v &&& 127) = own_u v
  omega
theorem own_tn (x : Int32) (n : Nat) (h : x.toInt = n) : x.toBitVec.toNat = n := by
  have h1 : x.toBitVec.toInt = n := h
  rw [BitVec.toInt_eq_toNat_cond] at h1
  have := x.toBitVec.isLt
  split at h1 <;> omega
theorem own_b8 (y : Int32) : (y.toInt8.toInt32).toInt8.toInt32 = y.toInt8.toInt32 := by rw [Int8.toInt8_toInt32]
/-- the byte with its top bit set, the last byte -/
def own_cb (v : Int64) (k : Nat) : Int32 := ((((own_V v k) &&& (127 : Int64)) ||| (128 : Int64)).toInt32).toInt8.toInt32
def own_lb (v : Int64) (k : Nat) : Int32 := ((own_V v k).toInt32).toInt8.toInt32
def own_fill (xs : List Int32) (v : Int64) (a : Nat) : Nat → List Int32
  | 0 => xs
  | k + 1 => (own_fill xs v a k).set (a + k) (own_cb v k)
theorem own_fill_len (xs : List Int32) (v : Int64) (a k : Nat) : (own_fill xs v a k).length = xs.length := by
  induction k with
  | zero => rfl
  | succ k ih => simp [own_fill, ih]
theorem own_fill_get (xs : List Int32) (v : Int64) (a : Nat) (j : Nat) (hj : j < xs.length) : ∀ k, (own_fill xs v a k)[j]? = if a ≤ j ∧ j < a + k then some (own_cb v (j - a)) else xs[j]?
  | 0 => by rw [if_neg (by omega)]; rfl
  | k + 1 => by
    show ((own_fill xs v a k).set (a + k) (own_cb v k))[j]? = _
    rw [List.getElem?_set, own_fill_len, own_fill_get xs v a j hj k]
    by_cases q : a + k = j
    · subst q
      rw [if_pos rfl, if_pos hj, if_pos (by omega)]
      congr 2; omega
    · rw [if_neg q]
      by_cases r : a ≤ j ∧ j < a + k
      · rw [if_pos r, if_pos (by omega)]
      · rw [if_neg r, if_neg (by omega)]
/-- the bytes when all n are written -/
def own_done (xs : List Int32) (v : Int64) (a n : Nat) : List Int32 := (own_fill xs v a (n - 1)).set (a + (n - 1)) (own_lb v (n - 1))
theorem own_done_len (xs : List Int32) (v : Int64) (a n : Nat) : (own_done xs v a n).length = xs.length := by simp [own_done, own_fill_len]
theorem own_done_get (xs : List Int32) (v : Int64) (a n : Nat) (hn : 1 ≤ n) (j : Nat) (hj : j < xs.length) : (own_done xs v a n)[j]? = if a ≤ j ∧ j < a + n then some (if j - a < n - 1 then own_cb v (j - a) else own_lb v (j - a)) else xs[j]? := by
  rw [own_done, List.getElem?_set, own_fill_len, own_fill_get xs v a j hj]
  by_cases q : a + (n - 1) = j
  · subst q
    rw [if_pos rfl, if_pos hj, if_pos (by omega), if_neg (by omega)]
    congr 2; omega
  · rw [if_neg q]
    by_cases r : a ≤ j ∧ j < a + (n - 1)
    · rw [if_pos r, if_pos (by omega), if_pos (by omega)]
    · rw [if_neg r, if_neg (by omega)]
/-- how many bytes -/
def own_n (w : Nat) : Nat := if 2 ^ 63 ≤ w then 10 else if 2 ^ 56 ≤ w then 9 else if 2 ^ 49 ≤ w then 8 else if 2 ^ 42 ≤ w then 7 else if 2 ^ 35 ≤ w then 6 else if 2 ^ 28 ≤ w then 5 else if 2 ^ 21 ≤ w then 4 else if 2 ^ 14 ≤ w then 3 else if 2 ^ 7 ≤ w then 2 else 1
theorem own_n_spec (w : Nat) (hw : w < 2 ^ 64) : 1 ≤ own_n w ∧ own_n w ≤ 10 ∧ w < 2 ^ (7 * own_n w) ∧ (own_n w = 1 ∨ 2 ^ (7 * (own_n w - 1)) ≤ w) := by
  unfold own_n
  repeat' split
  all_goals (refine ⟨by decide, by decide, ?_, ?_⟩ <;> omega)
theorem own_more {w n k : Nat} (h : n = 1 ∨ 2 ^ (7 * (n - 1)) ≤ w) (hk : k + 1 < n) : 128 ≤ w / 2 ^ (7 * k) := by
  rcases h with h | h
  · omega
  · have e : 2 ^ (7 * (n - 1)) = 2 ^ (7 * (n - 1 - k)) * 2 ^ (7 * k) := by rw [← Nat.pow_add]; congr 1; omega
    have p : 0 < 2 ^ (7 * k) := Nat.two_pow_pos _
    have q : 2 ^ 7 ≤ 2 ^ (7 * (n - 1 - k)) := Nat.pow_le_pow_right (by decide) (by omega)
    rw [Nat.le_div_iff_mul_le p]
    calc 128 * 2 ^ (7 * k) ≤ 2 ^ (7 * (n - 1 - k)) * 2 ^ (7 * k) := Nat.mul_le_mul_right _ q
      _ = 2 ^ (7 * (n - 1)) := e.symm
      _ ≤ w := h
theorem own_last {w n k : Nat} (h : w < 2 ^ (7 * n)) (hk : k + 1 = n) : w / 2 ^ (7 * k) < 128 := by
  subst hk
  rw [Nat.div_lt_iff_lt_mul (Nat.two_pow_pos _)]
  calc w < 2 ^ (7 * (k + 1)) := h
    _ = 128 * 2 ^ (7 * k) := by rw [Nat.mul_add, Nat.pow_add, Nat.mul_comm]
theorem own_go {v : Int64} {n k : Nat} (h : n = 1 ∨ 2 ^ (7 * (n - 1)) ≤ own_u v) (hk : k + 1 < n) : ¬ (own_V v k &&& (-128 : Int64)) = 0 := by
  rw [own_u0, own_u_hi, own_u_V]
  have := own_more h hk
  omega
theorem own_stop {v : Int64} {n k : Nat} (h : own_u v < 2 ^ (7 * n)) (hk : k + 1 = n) : (own_V v k &&& (-128 : Int64)) = 0 := by
  rw [own_u0, own_u_hi, own_u_V]
  have := own_last h hk
  omega
theorem own_inc {i : Int32} {a : Nat} (h : i.toInt = a) (ha : a < 1000) : (i + (1 : Int32)).toInt = ((a + 1 : Nat) : Int) := by
  have h1 := c_iadd i 1
  have h2 := rng32 (i + 1)
  have h3 : (1 : Int32).toInt = 1 := rfl
  omega
theorem own_u_toInt (x : Int64) : (own_u x : Int) = x.toInt % 18446744073709551616 := by
  have h : x.toInt = x.toBitVec.toInt := rfl
  have h2 := x.toBitVec.isLt
  rw [h, BitVec.toInt_eq_toNat_cond, own_u]
  split <;> omega
theorem own_u_small (x : Int64) (h : own_u x < 9223372036854775808) : x.toInt = (own_u x : Int) := by
  have h1 : x.toInt = x.toBitVec.toInt := rfl
  rw [h1, BitVec.toInt_eq_toNat_cond]
  have h2 : x.toBitVec.toNat = own_u x := rfl
  rw [h2]
  split <;> omega
theorem own_u_inj {x y : Int64} (h : own_u x = own_u y) : x = y := by
  apply Int64.toBitVec_inj.mp; apply BitVec.eq_of_toNat_eq; exact h
theorem own_cb_toInt (v : Int64) (k : Nat) : (own_cb v k).toInt = ((own_u v / 2 ^ (7 * k) % 128 : Nat) : Int) - 128 := by
  have a1 := own_u_and7 (own_V v k)
  rw [own_u_V] at a1
  have a2 := own_u_small (own_V v k &&& 127) (by omega)
  have a3 := c_orL 128 (own_V v k &&& 127) 7 (by decide) 128 (by decide) (by decide) (by omega) (by omega)
  have a4 : (128 : Int64).toInt = 128 := rfl
  have a5 := rng64 (128 ||| (own_V v k &&& 127))
  rw [Int64.or_comm] at a3 a5
  have a6 := c_l2i ((own_V v k &&& 127) ||| 128)
  have a7 := rng32 ((own_V v k &&& 127) ||| 128).toInt32
  have a8 := c_i2b ((own_V v k &&& 127) ||| 128).toInt32
  show (((own_V v k &&& 127) ||| 128).toInt32.toInt8.toInt32).toInt = _
  omega
theorem own_lb_toInt (v : Int64) (k : Nat) (h : own_u v / 2 ^ (7 * k) < 128) : (own_lb v k).toInt = ((own_u v / 2 ^ (7 * k) : Nat) : Int) := by
  have a1 := own_u_V v k
  have a2 := own_u_small (own_V v k) (by omega)
  have a6 := c_l2i (own_V v k)
  have a7 := rng32 (own_V v k).toInt32
  have a8 := c_i2b (own_V v k).toInt32
  show ((own_V v k).toInt32.toInt8.toInt32).toInt = _
  omega
theorem own_acc (v acc : Int64) (z q : Int32) (k : Nat) (hk : k ≤ 9) (h1 : own_u acc = own_u v % 2 ^ (7 * k)) (hz : z.toInt % 128 = ((own_u v / 2 ^ (7 * k) % 128 : Nat) : Int)) (hq : q.toInt = ((7 * k : Nat) : Int)) :
    own_u (acc ||| (((z &&& (127 : Int32)).toInt64) <<< (q &&& 0x3f).toInt64)) = own_u v % 2 ^ (7 * (k + 1)) := by
  have a1 := c_mask z 127 7 (by decide) (by decide)
  have a2 := c_i2l (z &&& 127)
  have a3 := c_lshl ((z &&& 127).toInt64) q (7 * k) (by rw [own_tn _ _ hq]; omega)
  generalize hS : ((z &&& (127 : Int32)).toInt64) <<< (q &&& 0x3f).toInt64 = S at *
  rw [a2, a1] at a3
  have e1 : z.toInt % ((2 ^ 7 : Nat) : Int) = ((own_u v / 2 ^ (7 * k) % 128 : Nat) : Int) := hz
  rw [e1] at a3
  have hM : (2 : Nat) ^ 64 = 2 ^ (7 * k) * 2 ^ (64 - 7 * k) := by rw [← Nat.pow_add]; congr 1; omega
  have hP : 2 ^ (7 * k) ≤ 2 ^ 63 := Nat.pow_le_pow_right (by decide) (by omega)
  have hP0 : 0 < 2 ^ (7 * k) := Nat.two_pow_pos _
  have hm : own_u v % (2 ^ (7 * k) * 128) = own_u v % 2 ^ (7 * k) + 2 ^ (7 * k) * (own_u v / 2 ^ (7 * k) % 128) := Nat.mod_mul
  have he : (2 : Nat) ^ (7 * (k + 1)) = 2 ^ (7 * k) * 128 := by rw [Nat.mul_add, Nat.pow_add]
  have hlt : own_u v % 2 ^ (7 * k) < 2 ^ (7 * k) := Nat.mod_lt _ hP0
  have hle : own_u v % (2 ^ (7 * k) * 128) ≤ own_u v := Nat.mod_le _ _
  have hv := own_u_lt v
  rw [he]
  generalize hd : own_u v / 2 ^ (7 * k) % 128 = d at *
  generalize hPP : 2 ^ (7 * k) = P at *
  generalize 2 ^ (64 - 7 * k) = M at *
  have a4 := own_u_small acc (by omega)
  obtain ⟨t, ht⟩ : ∃ t : Int, S.toInt = (P : Int) * ((d : Int) + (M : Int) * t) := by
    refine ⟨(S.toInt - (d : Int) * (P : Int)) / 18446744073709551616, ?_⟩
    have q1 := Int.mul_ediv_add_emod (S.toInt - (d : Int) * (P : Int)) 18446744073709551616
    rw [a3] at q1
    have q2 : (18446744073709551616 : Int) = (P : Int) * (M : Int) := by rw [← Int.natCast_mul, ← hM]; rfl
    rw [Int.mul_add, ← Int.mul_assoc, ← q2]
    generalize (S.toInt - (d : Int) * (P : Int)) / 18446744073709551616 = t at *
    rw [Int.mul_comm (P : Int) (d : Int)]
    omega
  have a5 : S.toInt % (P : Int) = 0 := by rw [ht]; exact Int.mul_emod_right _ _
  have a6 := c_orL S acc (7 * k) (by omega) (P : Int) (by rw [hPP]) a5 (by omega) (by omega)
  rw [Int64.or_comm] at a6
  have a7 := own_u_toInt (acc ||| S)
  have a8 := own_u_lt (acc ||| S)
  rw [Int.mul_comm (d : Int) (P : Int), ← Int.natCast_mul] at a3
  generalize P * d = N at *
  omega
theorem own_fin {v x : Int64} {n : Nat} (h : own_u x = own_u v % 2 ^ (7 * n)) (hn : own_u v < 2 ^ (7 * n)) : x = v := own_u_inj (by rw [h, Nat.mod_eq_of_lt hn])

theorem d_Varints_put_0 : decode prog_98_method_3_code 0 = .ok (.iload_n 1, 1) := by decide +kernel
theorem d_Varints_put_1 : decode prog_98_method_3_code 1 = .ok (.istore 4, 2) := by decide +kernel
theorem d_Varints_put_3 : decode prog_98_method_3_code 3 = .ok (.lload_n 2, 1) := by decide +kernel
theorem d_Varints_put_4 : decode prog_98_method_3_code 4 = .ok (.lstore 5, 2) := by decide +kernel
theorem d_Varints_put_6 : decode prog_98_method_3_code 6 = .ok (.lload 5, 2) := by decide +kernel
theorem d_Varints_put_8 : decode prog_98_method_3_code 8 = .ok (.ldc2_w 7, 3) := by decide +kernel
theorem d_Varints_put_11 : decode prog_98_method_3_code 11 = .ok (.land, 1) := by decide +kernel
theorem d_Varints_put_12 : decode prog_98_method_3_code 12 = .ok (.lconst 0, 1) := by decide +kernel
theorem d_Varints_put_13 : decode prog_98_method_3_code 13 = .ok (.lcmp, 1) := by decide +kernel
theorem d_Varints_put_14 : decode prog_98_method_3_code 14 = .ok (.ifCond .eq 32, 3) := by decide +kernel
theorem d_Varints_put_17 : decode prog_98_method_3_code 17 = .ok (.aload_n 0, 1) := by decide +kernel
theorem d_Varints_put_18 : decode prog_98_method_3_code 18 = .ok (.iload 4, 2) := by decide +kernel
theorem d_Varints_put_20 : decode prog_98_method_3_code 20 = .ok (.iinc 4 1, 3) := by decide +kernel
theorem d_Varints_put_23 : decode prog_98_method_3_code 23 = .ok (.lload 5, 2) := by decide +kernel
theorem d_Varints_put_25 : decode prog_98_method_3_code 25 = .ok (.ldc2_w 9, 3) := by decide +kernel
theorem d_Varints_put_28 : decode prog_98_method_3_code 28 = .ok (.land, 1) := by decide +kernel
theorem d_Varints_put_29 : decode prog_98_method_3_code 29 = .ok (.ldc2_w 11, 3) := by decide +kernel
theorem d_Varints_put_32 : decode prog_98_method_3_code 32 = .ok (.lor, 1) := by decide +kernel
theorem d_Varints_put_33 : decode prog_98_method_3_code 33 = .ok (.l2i, 1) := by decide +kernel
theorem d_Varints_put_34 : decode prog_98_method_3_code 34 = .ok (.i2b, 1) := by decide +kernel
theorem d_Varints_put_35 : decode prog_98_method_3_code 35 = .ok (.bastore, 1) := by decide +kernel
theorem d_Varints_put_36 : decode prog_98_method_3_code 36 = .ok (.lload 5, 2) := by decide +kernel
theorem d_Varints_put_38 : decode prog_98_method_3_code 38 = .ok (.bipush 7, 2) := by decide +kernel
theorem d_Varints_put_40 : decode prog_98_method_3_code 40 = .ok (.lushr, 1) := by decide +kernel
theorem d_Varints_put_41 : decode prog_98_method_3_code 41 = .ok (.lstore 5, 2) := by decide +kernel
theorem d_Varints_put_43 : decode prog_98_method_3_code 43 = .ok (.goto (-37), 3) := by decide +kernel
theorem d_Varints_put_46 : decode prog_98_method_3_code 46 = .ok (.aload_n 0, 1) := by decide +kernel
theorem d_Varints_put_47 : decode prog_98_method_3_code 47 = .ok (.iload 4, 2) := by decide +kernel
theorem d_Varints_put_49 : decode prog_98_method_3_code 49 = .ok (.iinc 4 1, 3) := by decide +kernel
theorem d_Varints_put_52 : decode prog_98_method_3_code 52 = .ok (.lload 5, 2) := by decide +kernel
theorem d_Varints_put_54 : decode prog_98_method_3_code 54 = .ok (.l2i, 1) := by decide +kernel
theorem d_Varints_put_55 : decode prog_98_method_3_code 55 = .ok (.i2b, 1) := by decide +kernel
theorem d_Varints_put_56 : decode prog_98_method_3_code 56 = .ok (.bastore, 1) := by decide +kernel
theorem d_Varints_put_57 : decode prog_98_method_3_code 57 = .ok (.iload 4, 2) := by decide +kernel
theorem d_Varints_put_59 : decode prog_98_method_3_code 59 = .ok (.ireturn, 1) := by decide +kernel
theorem pn_Varints_put : plainFor (⟨"com/example/lestr/lestr/stream/Varints", "put", "([BIJ)I"⟩ : MethodName) = true := plainFor_of_name (by first | (simp [plainName, overriddenIn, x]; done) | decide +kernel)
theorem pd_Varints_put : parseMethodDescriptor "([BIJ)I" = some ⟨[(.array .byte), .int, .long], (some .int)⟩ := by decide +kernel
def own_putQ (Z : State) (h0 : Heap) (n0 : Nat) (a : Addr) (v : Int64) (aa n : Nat) (xs : List Int32) (r : Option Value) (h : Heap) (L : List Loc) : Prop := ∃ z : Int32, r = some (.int z) ∧ z.toInt = ((aa + n : Nat) : Int) ∧ Fr n0 L ∧ Keep h0 h [a] ∧ Wk.Arl Z h a .byte ((own_done xs v aa n).map Value.int)
set_option maxRecDepth 65536 in
set_option maxHeartbeats 40000000 in
theorem put_6 {p : Program} {l : Launch} {e : Env} {s : State} {m : MethodId} {args : Array Value} {below : List Frame} {meth : Method} {c : Code} {Z : State} {a0 : Array Value} {h0 : Heap} {n0 : Nat} (hw : ∀ d ∈ tables_1, d.before a0 Z = true) (k : Wk.K p s m meth c Z (⟨"com/example/lestr/lestr/stream/Varints", "put", "([BIJ)I"⟩ : MethodName) prog_98_method_3_code 7 (some .int)) (a : Addr) (at0 : Int32) (v : Int64) (aa n : Nat) (xs : List Int32) (hn1 : own_u v < 2 ^ (7 * n)) (hn2 : n = 1 ∨ 2 ^ (7 * (n - 1)) ≤ own_u v) (hlen : aa + n ≤ xs.length) (hsm : aa + n < 1000) (g1 : n0 ≤ a) :
    ∀ (d kk : Nat), kk + d + 1 = n → ∀ (T0 : State) (h1 : Heap) (locs : List Loc) (i4 : Int32), Stand p l e ({ frames := 0, cells := 0, slots := 0, locals := 0 } : Room) s m args below meth c T0 locs 0 0 → T0.heap = h1 → Keep h0 h1 [a] → Fr n0 locs → i4.toInt = ((aa + kk : Nat) : Int) → Wk.Arl Z h1 a .byte ((own_fill xs v aa kk).map Value.int) →
      Wk.Ends p e s below ({ frames := 0, cells := 0, slots := 0, locals := 0 } : Room) (own_putQ Z h0 n0 a v aa n xs) T0 (mkF m 6 #[.val (.ref a), .val (.int at0), .val (.long v), .second, .val (.int i4), .val (.long (own_V v kk)), .second] []) := by
  intro d
  induction d with
  | zero =>
    intro kk hd T0 h1 locs i4 X0 e0 K1 N1 hi A1
    obtain rfl : n = kk + 1 := by omega
    refine Wk.lload k X0 d_Varints_put_6 rfl 8 rfl ?_
    refine Wk.ldc2_w k X0 (z := (-128 : Int64)) d_Varints_put_8 (Wk.w hw 5 rfl) 11 rfl ?_
    refine Wk.land k X0 d_Varints_put_11 12 rfl ?_
    refine Wk.lconst k X0 d_Varints_put_12 (0 : Int64) rfl 13 rfl ?_
    refine Wk.lcmp_eq k X0 d_Varints_put_13 14 rfl d_Varints_put_14 (by decide) 46 17 (by decide) rfl (fun hc14 => ?_) (fun hc14 => ?_)
    · refine Wk.aload_n k X0 d_Varints_put_46 rfl rfl 47 rfl ?_
      refine Wk.iload k X0 d_Varints_put_47 rfl 49 rfl ?_
      refine Wk.iinc k X0 d_Varints_put_49 rfl #[.val (.ref a), .val (.int at0), .val (.long v), .second, .val (.int (i4 + (1 : Int32))), .val (.long (own_V v kk)), .second] rfl 52 rfl ?_
      refine Wk.lload k X0 d_Varints_put_52 rfl 54 rfl ?_
      refine Wk.l2i k X0 d_Varints_put_54 55 rfl ?_
      refine Wk.i2b k X0 d_Varints_put_55 56 rfl ?_
      refine Wk.bastore k X0 (x := (((((own_V v kk)).toInt32)).toInt8.toInt32)) d_Varints_put_56 e0 A1 (aa + kk) hi (by rw [own_fill_len]; omega) (((((own_V v kk)).toInt32)).toInt8.toInt32) (own_b8 _) 57 rfl fun T101 h101 X101 e101 W101 A101 => ?_
      have N102 := Fr.snoc X101 N1 g1
      have K2 := K1.wr W101 (Or.inl (List.mem_of_getElem? (i := 0) rfl))
      refine Wk.iload k X101 d_Varints_put_57 rfl 59 rfl ?_
      refine Wk.ret_int k X101 rfl d_Varints_put_59 (by decide) (by decide) ?_
      rw [e101]
      exact ⟨_, rfl, by rw [own_inc hi (by omega)]; omega, N102, K2, A101⟩
    · exact absurd (own_stop hn1 rfl) hc14
  | succ d ih =>
    intro kk hd T0 h1 locs i4 X0 e0 K1 N1 hi A1
    refine Wk.lload k X0 d_Varints_put_6 rfl 8 rfl ?_
    refine Wk.ldc2_w k X0 (z := (-128 : Int64)) d_Varints_put_8 (Wk.w hw 5 rfl) 11 rfl ?_
    refine Wk.land k X0 d_Varints_put_11 12 rfl ?_
    refine Wk.lconst k X0 d_Varints_put_12 (0 : Int64) rfl 13 rfl ?_
    refine Wk.lcmp_eq k X0 d_Varints_put_13 14 rfl d_Varints_put_14 (by decide) 46 17 (by decide) rfl (fun hc14 => ?_) (fun hc14 => ?_)
    · exact absurd hc14 (own_go hn2 (by omega))
    · refine Wk.aload_n k X0 d_Varints_put_17 rfl rfl 18 rfl ?_
      refine Wk.iload k X0 d_Varints_put_18 rfl 20 rfl ?_
      refine Wk.iinc k X0 d_Varints_put_20 rfl #[.val (.ref a), .val (.int at0), .val (.long v), .second, .val (.int (i4 + (1 : Int32))), .val (.long (own_V v kk)), .second] rfl 23 rfl ?_
      refine Wk.lload k X0 d_Varints_put_23 rfl 25 rfl ?_
      refine Wk.ldc2_w k X0 (z := (127 : Int64)) d_Varints_put_25 (Wk.w hw 28 rfl) 28 rfl ?_
      refine Wk.land k X0 d_Varints_put_28 29 rfl ?_
      refine Wk.ldc2_w k X0 (z := (128 : Int64)) d_Varints_put_29 (Wk.w hw 29 rfl) 32 rfl ?_
      refine Wk.lor k X0 d_Varints_put_32 33 rfl ?_
      refine Wk.l2i k X0 d_Varints_put_33 34 rfl ?_
      refine Wk.i2b k X0 d_Varints_put_34 35 rfl ?_
      refine Wk.bastore k X0 (x := (((((((own_V v kk) &&& (127 : Int64)) ||| (128 : Int64))).toInt32)).toInt8.toInt32)) d_Varints_put_35 e0 A1 (aa + kk) hi (by rw [own_fill_len]; omega) (((((((own_V v kk) &&& (127 : Int64)) ||| (128 : Int64))).toInt32)).toInt8.toInt32) (own_b8 _) 36 rfl fun T101 h101 X101 e101 W101 A101 => ?_
      have N102 := Fr.snoc X101 N1 g1
      have K2 := K1.wr W101 (Or.inl (List.mem_of_getElem? (i := 0) rfl))
      refine Wk.lload k X101 d_Varints_put_36 rfl 38 rfl ?_
      refine Wk.bipush k X101 d_Varints_put_38 (7 : Int32) rfl 40 rfl ?_
      refine Wk.lushr k X101 d_Varints_put_40 41 rfl ?_
      refine Wk.lstore k X101 d_Varints_put_41 #[.val (.ref a), .val (.int at0), .val (.long v), .second, .val (.int (i4 + (1 : Int32))), .val (.long ((((own_V v kk)).toUInt64 >>> ((7 : Int32) &&& 0x3f).toInt64.toUInt64).toInt64)), .second] rfl 43 rfl ?_
      refine Wk.goto k X101 d_Varints_put_43 (by decide) 6 (by decide) ?_
      rw [own_Vs]
      exact ih (kk + 1) (by omega) _ _ _ _ X101 e101 K2 N102 (by rw [own_inc hi (by omega)]; omega) A101
theorem ef_put (m : MethodId) (a : Addr) (at0 : Int32) (v : Int64) : entryFrame m #[(.ref a), (.int at0), (.long v)] 7 = mkF m 0 #[.val (.ref a), .val (.int at0), .val (.long v), .second, .unset, .unset, .unset] [] := by first | (simp [entryFrame, mkF, argsToLocals, Value.category]; done) | rfl
set_option maxRecDepth 65536 in
set_option maxHeartbeats 40000000 in
theorem rm_put (l : Launch) (Z : State) (a0 : Array Value) (hw : ∀ d ∈ tables_1, d.before a0 Z = true) (a : Addr) (at0 : Int32) (v : Int64) (aa : Nat) (xs : List Int32) (h0 : Heap) (n0 : Nat) (ha : at0.toInt = ((aa : Nat) : Int)) (haa : aa ≤ 900) (hlen : aa + own_n (own_u v) ≤ xs.length) (A0 : Wk.Arl Z h0 a .byte (xs.map Value.int)) (g1 : n0 ≤ a) : Wk.Met l (⟨"com/example/lestr/lestr/stream/Varints", "put", "([BIJ)I"⟩ : MethodName) prog_98_method_3_code 7 (some .int) ({ frames := 0, cells := 0, slots := 0, locals := 0 } : Room) #[(.ref a), (.int at0), (.long v)] Z h0 (own_putQ Z h0 n0 a v aa (own_n (own_u v)) xs) [] := by
  refine Wk.enter pn_Varints_put (fun p e s m below meth c T0 k X0 e0 => ?_)
  refine (Wk.Ends.cast (ef_put m a at0 v) ?_)
  refine Wk.iload_n k X0 d_Varints_put_0 rfl 1 rfl ?_
  refine Wk.istore k X0 d_Varints_put_1 #[.val (.ref a), .val (.int at0), .val (.long v), .second, .val (.int at0), .unset, .unset] rfl 3 rfl ?_
  refine Wk.lload_n k X0 d_Varints_put_3 rfl 4 rfl ?_
  refine Wk.lstore k X0 d_Varints_put_4 #[.val (.ref a), .val (.int at0), .val (.long v), .second, .val (.int at0), .val (.long v), .second] rfl 6 rfl ?_
  have hn := own_n_spec (own_u v) (own_u_lt v)
  have q := put_6 hw k a at0 v aa _ xs hn.2.2.1 hn.2.2.2 hlen (by omega) g1 (own_n (own_u v) - 1) 0 (by omega) _ _ _ _ X0 e0 (Keep.refl _ _) (Fr.nil _) ha A0
  rw [own_V0] at q
  exact q
theorem d_Reader_init_0 : decode prog_99_method_1_code 0 = .ok (.aload_n 0, 1) := by decide +kernel
theorem d_Reader_init_1 : decode prog_99_method_1_code 1 = .ok (.invokespecial 1, 3) := by decide +kernel
theorem d_Reader_init_4 : decode prog_99_method_1_code 4 = .ok (.aload_n 0, 1) := by decide +kernel
theorem d_Reader_init_5 : decode prog_99_method_1_code 5 = .ok (.aload_n 1, 1) := by decide +kernel
theorem d_Reader_init_6 : decode prog_99_method_1_code 6 = .ok (.putfield 7, 3) := by decide +kernel
theorem d_Reader_init_9 : decode prog_99_method_1_code 9 = .ok (.aload_n 0, 1) := by decide +kernel
theorem d_Reader_init_10 : decode prog_99_method_1_code 10 = .ok (.iload_n 2, 1) := by decide +kernel
theorem d_Reader_init_11 : decode prog_99_method_1_code 11 = .ok (.putfield 13, 3) := by decide +kernel
theorem d_Reader_init_14 : decode prog_99_method_1_code 14 = .ok (.return_, 1) := by decide +kernel
theorem pn_Reader_init : plainFor (⟨"com/example/lestr/lestr/stream/Varints$Reader", "<init>", "([BI)V"⟩ : MethodName) = true := plainFor_of_name (by first | (simp [plainName, overriddenIn, x]; done) | decide +kernel)
theorem pd_Reader_init : parseMethodDescriptor "([BI)V" = some ⟨[(.array .byte), .int], none⟩ := by decide +kernel
theorem ef_ini (m : MethodId) (o a : Addr) (z : Int32) : entryFrame m #[(.ref o), (.ref a), (.int z)] 3 = mkF m 0 #[.val (.ref o), .val (.ref a), .val (.int z)] [] := by first | (simp [entryFrame, mkF, argsToLocals, Value.category]; done) | rfl
set_option maxRecDepth 65536 in
set_option maxHeartbeats 40000000 in
theorem rm_ini (l : Launch) (Z : State) (a0 : Array Value) (hw : ∀ d ∈ tables_1, d.before a0 Z = true) (o a : Addr) (z : Int32) (u1 u2 : Value) (h0 : Heap) (n0 : Nat) (E0 : Exa Z h0 o "com/example/lestr/lestr/stream/Varints$Reader") (F0 : Fld Z h0 o "com/example/lestr/lestr/stream/Varints$Reader" "data" "[B" u1) (F1 : Fld Z h0 o "com/example/lestr/lestr/stream/Varints$Reader" "position" "I" u2) (g0 : n0 ≤ o) : Wk.Met l (⟨"com/example/lestr/lestr/stream/Varints$Reader", "<init>", "([BI)V"⟩ : MethodName) prog_99_method_1_code 3 none ({ frames := 1, cells := 0, slots := 0, locals := 12 } : Room) #[(.ref o), (.ref a), (.int z)] Z h0 (fun r h L => r = none ∧ Fr n0 L ∧ Keep h0 h [o] ∧ Exa Z h o "com/example/lestr/lestr/stream/Varints$Reader" ∧ Fld Z h o "com/example/lestr/lestr/stream/Varints$Reader" "data" "[B" (.ref a) ∧ Fld Z h o "com/example/lestr/lestr/stream/Varints$Reader" "position" "I" (.int z)) [] := by
  refine Wk.enter pn_Reader_init (fun p e s m below meth c T0 k X0 e0 => ?_)
  refine (Wk.Ends.cast (ef_ini m o a z) ?_)
  have N0 := Fr.nil n0
  refine Wk.aload_n k X0 d_Reader_init_0 rfl rfl 1 rfl ?_
  refine Wk.initObj (W := 0) k X0 d_Reader_init_1 (Wk.w hw 12 rfl) (Wk.w hw 13 rfl) (Wk.w hw 14 rfl) e0 rfl (Nat.le_of_ble_eq_true rfl) (Nat.le_of_ble_eq_true rfl) 4 rfl fun T1 X1 e1 => ?_
  refine Wk.aload_n k X1 d_Reader_init_4 rfl rfl 5 rfl ?_
  refine Wk.aload_n k X1 d_Reader_init_5 rfl rfl 6 rfl ?_
  refine Wk.putfield k X1 d_Reader_init_6 (host := "") (Or.inl (Wk.w hw 15 rfl)) Via.refl e1 F0 E0 (Or.inl (Wk.w hw 16 rfl)) (Wk.w hw 7 rfl) (ty := (.array .byte)) (by decide) rfl rfl 9 rfl fun T2 h2 X2 e2 W2 => ?_
  have N3 := Fr.snoc X2 N0 g0
  have K4 := (Keep.refl h0 [o]).wr W2 (Or.inl (List.mem_of_getElem? (i := 0) rfl))
  have f5 := Exa.wr W2 E0
  have f6 := Fld.other W2 F1 (Or.inr (slot_ne (Or.inl (Wk.w hw 18 rfl)) (Or.inl (Wk.w hw 16 rfl)) (by decide) (t := .int) (t' := (.array .byte)) (by decide) (by decide)))
  have f7 := Fld.same W2 F0
  refine Wk.aload_n k X2 d_Reader_init_9 rfl rfl 10 rfl ?_
  refine Wk.iload_n k X2 d_Reader_init_10 rfl 11 rfl ?_
  refine Wk.putfield k X2 d_Reader_init_11 (host := "") (Or.inl (Wk.w hw 17 rfl)) Via.refl e2 f6 f5 (Or.inl (Wk.w hw 18 rfl)) (Wk.w hw 7 rfl) (ty := .int) (by decide) rfl rfl 14 rfl fun T8 h8 X8 e8 W8 => ?_
  have N9 := Fr.snoc X8 N3 g0
  have K10 := K4.wr W8 (Or.inl (List.mem_of_getElem? (i := 0) rfl))
  have f11 := Exa.wr W8 f5
  have f12 := Fld.other W8 f7 (Or.inr (slot_ne (Or.inl (Wk.w hw 16 rfl)) (Or.inl (Wk.w hw 18 rfl)) (by decide) (t := (.array .byte)) (t' := .int) (by decide) (by decide)))
  have f13 := Fld.same W8 f6
  refine Wk.ret_void k X8 rfl d_Reader_init_14 (by decide) (by decide) ?_
  rw [e8]
  exact ⟨rfl, N9, K10, f11, f12, f13⟩
theorem own_os4 {z0 z1 z3 : Value} {s4 : Slot} {v : Int32} (h : One s4) : storeLocals #[.val z0, .val z1, .second, .val z3, s4] 4 (.int v) = some #[.val z0, .val z1, .second, .val z3, .val (.int v)] := by
  rcases h with rfl | ⟨w, rfl, hw⟩
  · rfl
  · cases w <;> first | rfl | (simp [Value.category] at hw)
theorem d_Reader_varint_0 : decode prog_99_method_2_code 0 = .ok (.lconst 0, 1) := by decide +kernel
theorem d_Reader_varint_1 : decode prog_99_method_2_code 1 = .ok (.lstore_n 1, 1) := by decide +kernel
theorem d_Reader_varint_2 : decode prog_99_method_2_code 2 = .ok (.iconst 0, 1) := by decide +kernel
theorem d_Reader_varint_3 : decode prog_99_method_2_code 3 = .ok (.istore_n 3, 1) := by decide +kernel
theorem d_Reader_varint_4 : decode prog_99_method_2_code 4 = .ok (.aload_n 0, 1) := by decide +kernel
theorem d_Reader_varint_5 : decode prog_99_method_2_code 5 = .ok (.getfield 7, 3) := by decide +kernel
theorem d_Reader_varint_8 : decode prog_99_method_2_code 8 = .ok (.aload_n 0, 1) := by decide +kernel
theorem d_Reader_varint_9 : decode prog_99_method_2_code 9 = .ok (.dup, 1) := by decide +kernel
theorem d_Reader_varint_10 : decode prog_99_method_2_code 10 = .ok (.getfield 13, 3) := by decide +kernel
theorem d_Reader_varint_13 : decode prog_99_method_2_code 13 = .ok (.dup_x1, 1) := by decide +kernel
theorem d_Reader_varint_14 : decode prog_99_method_2_code 14 = .ok (.iconst 1, 1) := by decide +kernel
theorem d_Reader_varint_15 : decode prog_99_method_2_code 15 = .ok (.iadd, 1) := by decide +kernel
theorem d_Reader_varint_16 : decode prog_99_method_2_code 16 = .ok (.putfield 13, 3) := by decide +kernel
theorem d_Reader_varint_19 : decode prog_99_method_2_code 19 = .ok (.baload, 1) := by decide +kernel
theorem d_Reader_varint_20 : decode prog_99_method_2_code 20 = .ok (.istore 4, 2) := by decide +kernel
theorem d_Reader_varint_22 : decode prog_99_method_2_code 22 = .ok (.lload_n 1, 1) := by decide +kernel
theorem d_Reader_varint_23 : decode prog_99_method_2_code 23 = .ok (.iload 4, 2) := by decide +kernel
theorem d_Reader_varint_25 : decode prog_99_method_2_code 25 = .ok (.bipush 127, 2) := by decide +kernel
theorem d_Reader_varint_27 : decode prog_99_method_2_code 27 = .ok (.iand, 1) := by decide +kernel
theorem d_Reader_varint_28 : decode prog_99_method_2_code 28 = .ok (.i2l, 1) := by decide +kernel
theorem d_Reader_varint_29 : decode prog_99_method_2_code 29 = .ok (.iload_n 3, 1) := by decide +kernel
theorem d_Reader_varint_30 : decode prog_99_method_2_code 30 = .ok (.lshl, 1) := by decide +kernel
theorem d_Reader_varint_31 : decode prog_99_method_2_code 31 = .ok (.lor, 1) := by decide +kernel
theorem d_Reader_varint_32 : decode prog_99_method_2_code 32 = .ok (.lstore_n 1, 1) := by decide +kernel
theorem d_Reader_varint_33 : decode prog_99_method_2_code 33 = .ok (.iload 4, 2) := by decide +kernel
theorem d_Reader_varint_35 : decode prog_99_method_2_code 35 = .ok (.ifCond .lt 5, 3) := by decide +kernel
theorem d_Reader_varint_38 : decode prog_99_method_2_code 38 = .ok (.lload_n 1, 1) := by decide +kernel
theorem d_Reader_varint_39 : decode prog_99_method_2_code 39 = .ok (.lreturn, 1) := by decide +kernel
theorem d_Reader_varint_40 : decode prog_99_method_2_code 40 = .ok (.iinc 3 7, 3) := by decide +kernel
theorem d_Reader_varint_43 : decode prog_99_method_2_code 43 = .ok (.goto (-39), 3) := by decide +kernel
theorem pn_Reader_varint : plainFor (⟨"com/example/lestr/lestr/stream/Varints$Reader", "varint", "()J"⟩ : MethodName) = true := plainFor_of_name (by first | (simp [plainName, overriddenIn, x]; done) | decide +kernel)
theorem pd_Reader_varint : parseMethodDescriptor "()J" = some ⟨[], (some .long)⟩ := by decide +kernel
set_option maxRecDepth 65536 in
set_option maxHeartbeats 40000000 in
theorem var_4 {p : Program} {l : Launch} {e : Env} {s : State} {m : MethodId} {args : Array Value} {below : List Frame} {meth : Method} {c : Code} {Z : State} {a0 : Array Value} {h0 : Heap} {n0 : Nat} (hw : ∀ d ∈ tables_1, d.before a0 Z = true) (k : Wk.K p s m meth c Z (⟨"com/example/lestr/lestr/stream/Varints$Reader", "varint", "()J"⟩ : MethodName) prog_99_method_2_code 5 (some .long)) (o a : Addr) (v : Int64) (aa n : Nat) (xs : List Int32) (hn : 1 ≤ n) (hn10 : n ≤ 10) (hn1 : own_u v < 2 ^ (7 * n)) (hn2 : n = 1 ∨ 2 ^ (7 * (n - 1)) ≤ own_u v) (hx : ∀ j, j < n → xs[aa + j]? = some (if j < n - 1 then own_cb v j else own_lb v j)) (hsm : aa ≤ 900) (hne : a ≠ o) (g1 : n0 ≤ o) :
    ∀ (d kk : Nat), kk + d + 1 = n → ∀ (T0 : State) (h1 : Heap) (locs : List Loc) (acc : Int64) (sh pp : Int32) (s4 : Slot), Stand p l e ({ frames := 0, cells := 0, slots := 0, locals := 0 } : Room) s m args below meth c T0 locs 0 0 → T0.heap = h1 → Keep h0 h1 [o] → Fr n0 locs → Exa Z h1 o "com/example/lestr/lestr/stream/Varints$Reader" → Fld Z h1 o "com/example/lestr/lestr/stream/Varints$Reader" "data" "[B" (.ref a) → Fld Z h1 o "com/example/lestr/lestr/stream/Varints$Reader" "position" "I" (.int pp) → Wk.Arl Z h1 a .byte (xs.map Value.int) → own_u acc = own_u v % 2 ^ (7 * kk) → sh.toInt = ((7 * kk : Nat) : Int) → pp.toInt = ((aa + kk : Nat) : Int) → One s4 →
      Wk.Ends p e s below ({ frames := 0, cells := 0, slots := 0, locals := 0 } : Room) (fun r h L => r = some (.long v) ∧ Fr n0 L ∧ Keep h0 h [o] ∧ Exa Z h o "com/example/lestr/lestr/stream/Varints$Reader" ∧ ∃ z : Int32, Fld Z h o "com/example/lestr/lestr/stream/Varints$Reader" "position" "I" (.int z) ∧ z.toInt = ((aa + n : Nat) : Int)) T0 (mkF m 4 #[.val (.ref o), .val (.long acc), .second, .val (.int sh), s4] []) := by
  intro d
  induction d with
  | zero =>
    intro kk hd T0 h1 locs acc sh pp s4 X0 e0 K1 N1 E1 Fd Fp A1 hac hsh hp hs4
    obtain rfl : n = kk + 1 := by omega
    have hl := own_last hn1 rfl
    have hxl : xs[aa + kk]? = some (own_lb v kk) := by rw [hx kk (by omega), if_neg (by omega)]
    have hacc := own_acc v acc (own_lb v kk) sh kk (by omega) hac (by rw [own_lb_toInt v kk hl]; omega) hsh
    refine Wk.aload_n k X0 d_Reader_varint_4 rfl rfl 5 rfl ?_
    refine Wk.getfield k X0 d_Reader_varint_5 (host := "") (Or.inl (Wk.w hw 15 rfl)) Via.refl e0 Fd 8 rfl fun T101 X101 e101 => ?_
    refine Wk.aload_n k X101 d_Reader_varint_8 rfl rfl 9 rfl ?_
    refine Wk.dup k X101 d_Reader_varint_9 rfl 10 rfl ?_
    refine Wk.getfield k X101 d_Reader_varint_10 (host := "") (Or.inl (Wk.w hw 17 rfl)) Via.refl e101 Fp 13 rfl fun T102 X102 e102 => ?_
    refine Wk.dup_x1 k X102 d_Reader_varint_13 rfl rfl 14 rfl ?_
    refine Wk.iconst k X102 d_Reader_varint_14 (1 : Int32) rfl 15 rfl ?_
    refine Wk.iadd k X102 d_Reader_varint_15 16 rfl ?_
    refine Wk.putfield k X102 d_Reader_varint_16 (host := "") (Or.inl (Wk.w hw 17 rfl)) Via.refl e102 Fp E1 (Or.inl (Wk.w hw 18 rfl)) (Wk.w hw 7 rfl) (ty := .int) (by decide) rfl rfl 19 rfl fun T103 h103 X103 e103 W103 => ?_
    have N104 := Fr.snoc X103 N1 g1
    have K105 := K1.wr W103 (Or.inl (List.mem_of_getElem? (i := 0) rfl))
    have f106 := Exa.wr W103 E1
    have f107 := Fld.other W103 Fd (Or.inr (slot_ne (Or.inl (Wk.w hw 16 rfl)) (Or.inl (Wk.w hw 18 rfl)) (by decide) (t := (.array .byte)) (t' := .int) (by decide) (by decide)))
    have f108 := A1.other W103 hne
    have f109 := Fld.same W103 Fp
    refine Wk.baload k X103 d_Reader_varint_19 e103 f108 (aa + kk) hp (own_lb v kk) (hxl) 20 rfl ?_
    refine Wk.istore k X103 d_Reader_varint_20 #[.val (.ref o), .val (.long acc), .second, .val (.int sh), .val (.int (own_lb v kk))] (own_os4 hs4) 22 rfl ?_
    refine Wk.lload_n k X103 d_Reader_varint_22 rfl 23 rfl ?_
    refine Wk.iload k X103 d_Reader_varint_23 rfl 25 rfl ?_
    refine Wk.bipush k X103 d_Reader_varint_25 (127 : Int32) rfl 27 rfl ?_
    refine Wk.iand k X103 d_Reader_varint_27 28 rfl ?_
    refine Wk.i2l k X103 d_Reader_varint_28 29 rfl ?_
    refine Wk.iload_n k X103 d_Reader_varint_29 rfl 30 rfl ?_
    refine Wk.lshl k X103 d_Reader_varint_30 31 rfl ?_
    refine Wk.lor k X103 d_Reader_varint_31 32 rfl ?_
    refine Wk.lstore_n k X103 d_Reader_varint_32 #[.val (.ref o), .val (.long (acc ||| (((((own_lb v kk) &&& (127 : Int32))).toInt64) <<< (sh &&& 0x3f).toInt64))), .second, .val (.int sh), .val (.int (own_lb v kk))] rfl 33 rfl ?_
    refine Wk.iload k X103 d_Reader_varint_33 rfl 35 rfl ?_
    refine Wk.if_lt k X103 d_Reader_varint_35 (by decide) 40 38 (by decide) rfl (fun hc35 => ?_) (fun hc35 => ?_)
    · exact absurd hc35 (by rw [Int32.lt_iff_toInt_lt, own_lb_toInt v kk hl]; exact Int.not_lt.mpr (Int.natCast_nonneg _))
    · refine Wk.lload_n k X103 d_Reader_varint_38 rfl 39 rfl ?_
      refine Wk.ret_long k X103 rfl d_Reader_varint_39 (by decide) (by decide) ?_
      rw [e103]
      exact ⟨by rw [own_fin hacc hn1], N104, K105, f106, _, f109, by rw [own_inc hp (by omega)]; omega⟩
  | succ d ih =>
    intro kk hd T0 h1 locs acc sh pp s4 X0 e0 K1 N1 E1 Fd Fp A1 hac hsh hp hs4
    have hxc : xs[aa + kk]? = some (own_cb v kk) := by rw [hx kk (by omega), if_pos (by omega)]
    have hacc := own_acc v acc (own_cb v kk) sh kk (by omega) hac (by rw [own_cb_toInt v kk]; omega) hsh
    refine Wk.aload_n k X0 d_Reader_varint_4 rfl rfl 5 rfl ?_
    refine Wk.getfield k X0 d_Reader_varint_5 (host := "") (Or.inl (Wk.w hw 15 rfl)) Via.refl e0 Fd 8 rfl fun T101 X101 e101 => ?_
    refine Wk.aload_n k X101 d_Reader_varint_8 rfl rfl 9 rfl ?_
    refine Wk.dup k X101 d_Reader_varint_9 rfl 10 rfl ?_
    refine Wk.getfield k X101 d_Reader_varint_10 (host := "") (Or.inl (Wk.w hw 17 rfl)) Via.refl e101 Fp 13 rfl fun T102 X102 e102 => ?_
    refine Wk.dup_x1 k X102 d_Reader_varint_13 rfl rfl 14 rfl ?_
    refine Wk.iconst k X102 d_Reader_varint_14 (1 : Int32) rfl 15 rfl ?_
    refine Wk.iadd k X102 d_Reader_varint_15 16 rfl ?_
    refine Wk.putfield k X102 d_Reader_varint_16 (host := "") (Or.inl (Wk.w hw 17 rfl)) Via.refl e102 Fp E1 (Or.inl (Wk.w hw 18 rfl)) (Wk.w hw 7 rfl) (ty := .int) (by decide) rfl rfl 19 rfl fun T103 h103 X103 e103 W103 => ?_
    have N104 := Fr.snoc X103 N1 g1
    have K105 := K1.wr W103 (Or.inl (List.mem_of_getElem? (i := 0) rfl))
    have f106 := Exa.wr W103 E1
    have f107 := Fld.other W103 Fd (Or.inr (slot_ne (Or.inl (Wk.w hw 16 rfl)) (Or.inl (Wk.w hw 18 rfl)) (by decide) (t := (.array .byte)) (t' := .int) (by decide) (by decide)))
    have f108 := A1.other W103 hne
    have f109 := Fld.same W103 Fp
    refine Wk.baload k X103 d_Reader_varint_19 e103 f108 (aa + kk) hp (own_cb v kk) (hxc) 20 rfl ?_
    refine Wk.istore k X103 d_Reader_varint_20 #[.val (.ref o), .val (.long acc), .second, .val (.int sh), .val (.int (own_cb v kk))] (own_os4 hs4) 22 rfl ?_
    refine Wk.lload_n k X103 d_Reader_varint_22 rfl 23 rfl ?_
    refine Wk.iload k X103 d_Reader_varint_23 rfl 25 rfl ?_
    refine Wk.bipush k X103 d_Reader_varint_25 (127 : Int32) rfl 27 rfl ?_
    refine Wk.iand k X103 d_Reader_varint_27 28 rfl ?_
    refine Wk.i2l k X103 d_Reader_varint_28 29 rfl ?_
    refine Wk.iload_n k X103 d_Reader_varint_29 rfl 30 rfl ?_
    refine Wk.lshl k X103 d_Reader_varint_30 31 rfl ?_
    refine Wk.lor k X103 d_Reader_varint_31 32 rfl ?_
    refine Wk.lstore_n k X103 d_Reader_varint_32 #[.val (.ref o), .val (.long (acc ||| (((((own_cb v kk) &&& (127 : Int32))).toInt64) <<< (sh &&& 0x3f).toInt64))), .second, .val (.int sh), .val (.int (own_cb v kk))] rfl 33 rfl ?_
    refine Wk.iload k X103 d_Reader_varint_33 rfl 35 rfl ?_
    refine Wk.if_lt k X103 d_Reader_varint_35 (by decide) 40 38 (by decide) rfl (fun hc35 => ?_) (fun hc35 => ?_)
    · refine Wk.iinc k X103 d_Reader_varint_40 rfl #[.val (.ref o), .val (.long (acc ||| (((((own_cb v kk) &&& (127 : Int32))).toInt64) <<< (sh &&& 0x3f).toInt64))), .second, .val (.int (sh + (7 : Int32))), .val (.int (own_cb v kk))] rfl 43 rfl ?_
      refine Wk.goto k X103 d_Reader_varint_43 (by decide) 4 (by decide) ?_
      exact ih (kk + 1) (by omega) _ _ _ _ _ _ _ X103 e103 K105 N104 f106 f107 f109 f108 hacc (by have q := c_iadd sh 7; have r := rng32 (sh + 7); have t : (7 : Int32).toInt = 7 := rfl; omega) (by rw [own_inc hp (by omega)]; omega) (One.val rfl)
    · exact absurd (by rw [Int32.lt_iff_toInt_lt, own_cb_toInt v kk]; have q : (0 : Int32).toInt = 0 := rfl; omega) hc35
theorem ef_var (m : MethodId) (o : Addr) : entryFrame m #[(.ref o)] 5 = mkF m 0 #[.val (.ref o), .unset, .unset, .unset, .unset] [] := by first | (simp [entryFrame, mkF, argsToLocals, Value.category]; done) | rfl
set_option maxRecDepth 65536 in
set_option maxHeartbeats 40000000 in
theorem rm_var (l : Launch) (Z : State) (a0 : Array Value) (hw : ∀ d ∈ tables_1, d.before a0 Z = true) (o a : Addr) (v : Int64) (aa n : Nat) (xs : List Int32) (pp : Int32) (h0 : Heap) (n0 : Nat) (hn : 1 ≤ n) (hn10 : n ≤ 10) (hn1 : own_u v < 2 ^ (7 * n)) (hn2 : n = 1 ∨ 2 ^ (7 * (n - 1)) ≤ own_u v) (hx : ∀ j, j < n → xs[aa + j]? = some (if j < n - 1 then own_cb v j else own_lb v j)) (hsm : aa ≤ 900) (hne : a ≠ o) (g1 : n0 ≤ o) (E1 : Exa Z h0 o "com/example/lestr/lestr/stream/Varints$Reader") (Fd : Fld Z h0 o "com/example/lestr/lestr/stream/Varints$Reader" "data" "[B" (.ref a)) (Fp : Fld Z h0 o "com/example/lestr/lestr/stream/Varints$Reader" "position" "I" (.int pp)) (A1 : Wk.Arl Z h0 a .byte (xs.map Value.int)) (hp : pp.toInt = ((aa : Nat) : Int)) : Wk.Met l (⟨"com/example/lestr/lestr/stream/Varints$Reader", "varint", "()J"⟩ : MethodName) prog_99_method_2_code 5 (some .long) ({ frames := 0, cells := 0, slots := 0, locals := 0 } : Room) #[(.ref o)] Z h0 (fun r h L => r = some (.long v) ∧ Fr n0 L ∧ Keep h0 h [o] ∧ Exa Z h o "com/example/lestr/lestr/stream/Varints$Reader" ∧ ∃ z : Int32, Fld Z h o "com/example/lestr/lestr/stream/Varints$Reader" "position" "I" (.int z) ∧ z.toInt = ((aa + n : Nat) : Int)) [] := by
  refine Wk.enter pn_Reader_varint (fun p e s m below meth c T0 k X0 e0 => ?_)
  refine (Wk.Ends.cast (ef_var m o) ?_)
  refine Wk.lconst k X0 d_Reader_varint_0 (0 : Int64) rfl 1 rfl ?_
  refine Wk.lstore_n k X0 d_Reader_varint_1 #[.val (.ref o), .val (.long (0 : Int64)), .second, .unset, .unset] rfl 2 rfl ?_
  refine Wk.iconst k X0 d_Reader_varint_2 (0 : Int32) rfl 3 rfl ?_
  refine Wk.istore_n k X0 d_Reader_varint_3 #[.val (.ref o), .val (.long (0 : Int64)), .second, .val (.int (0 : Int32)), .unset] rfl 4 rfl ?_
  exact var_4 hw k o a v aa n xs hn hn10 hn1 hn2 hx hsm hne g1 (n - 1) 0 (by omega) _ _ _ _ _ _ _ X0 e0 (Keep.refl _ _) (Fr.nil _) E1 Fd Fp A1 (by show own_u 0 = _ % 2 ^ (7 * 0); rw [Nat.mul_zero, Nat.pow_zero, Nat.mod_one]; rfl) rfl hp One.u
theorem d_Varints_size_0 : decode prog_98_method_2_code 0 = .ok (.iconst 1, 1) := by decide +kernel
theorem d_Varints_size_1 : decode prog_98_method_2_code 1 = .ok (.istore_n 2, 1) := by decide +kernel
theorem d_Varints_size_2 : decode prog_98_method_2_code 2 = .ok (.lload_n 0, 1) := by decide +kernel
theorem d_Varints_size_3 : decode prog_98_method_2_code 3 = .ok (.bipush 7, 2) := by decide +kernel
theorem d_Varints_size_5 : decode prog_98_method_2_code 5 = .ok (.lushr, 1) := by decide +kernel
theorem d_Varints_size_6 : decode prog_98_method_2_code 6 = .ok (.lstore_n 3, 1) := by decide +kernel
theorem d_Varints_size_7 : decode prog_98_method_2_code 7 = .ok (.lload_n 3, 1) := by decide +kernel
theorem d_Varints_size_8 : decode prog_98_method_2_code 8 = .ok (.lconst 0, 1) := by decide +kernel
theorem d_Varints_size_9 : decode prog_98_method_2_code 9 = .ok (.lcmp, 1) := by decide +kernel
theorem d_Varints_size_10 : decode prog_98_method_2_code 10 = .ok (.ifCond .eq 14, 3) := by decide +kernel
theorem d_Varints_size_13 : decode prog_98_method_2_code 13 = .ok (.iinc 2 1, 3) := by decide +kernel
theorem d_Varints_size_16 : decode prog_98_method_2_code 16 = .ok (.lload_n 3, 1) := by decide +kernel
theorem d_Varints_size_17 : decode prog_98_method_2_code 17 = .ok (.bipush 7, 2) := by decide +kernel
theorem d_Varints_size_19 : decode prog_98_method_2_code 19 = .ok (.lushr, 1) := by decide +kernel
theorem d_Varints_size_20 : decode prog_98_method_2_code 20 = .ok (.lstore_n 3, 1) := by decide +kernel
theorem d_Varints_size_21 : decode prog_98_method_2_code 21 = .ok (.goto (-14), 3) := by decide +kernel
theorem d_Varints_size_24 : decode prog_98_method_2_code 24 = .ok (.iload_n 2, 1) := by decide +kernel
theorem d_Varints_size_25 : decode prog_98_method_2_code 25 = .ok (.ireturn, 1) := by decide +kernel
theorem pn_Varints_size : plainFor (⟨"com/example/lestr/lestr/stream/Varints", "size", "(J)I"⟩ : MethodName) = true := plainFor_of_name (by first | (simp [plainName, overriddenIn, x]; done) | decide +kernel)
theorem pd_Varints_size : parseMethodDescriptor "(J)I" = some ⟨[.long], (some .int)⟩ := by decide +kernel
theorem own_pos {w n k : Nat} (h : n = 1 ∨ 2 ^ (7 * (n - 1)) ≤ w) (hk : k < n) (hk1 : 1 ≤ k) : ¬ w / 2 ^ (7 * k) = 0 := by
  rcases h with h | h
  · omega
  · have q : 2 ^ (7 * k) ≤ 2 ^ (7 * (n - 1)) := Nat.pow_le_pow_right (by decide) (by omega)
    have := Nat.div_pos (Nat.le_trans q h) (Nat.two_pow_pos _)
    omega
set_option maxRecDepth 65536 in
set_option maxHeartbeats 40000000 in
theorem size_7 {p : Program} {l : Launch} {e : Env} {s : State} {m : MethodId} {args : Array Value} {below : List Frame} {meth : Method} {c : Code} {Z : State} {a0 : Array Value} {h0 : Heap} {T0 : State} (hw : ∀ d ∈ tables_1, d.before a0 Z = true) (k : Wk.K p s m meth c Z (⟨"com/example/lestr/lestr/stream/Varints", "size", "(J)I"⟩ : MethodName) prog_98_method_2_code 5 (some .int)) (X0 : Stand p l e ({ frames := 0, cells := 0, slots := 0, locals := 0 } : Room) s m args below meth c T0 [] 0 0) (v : Int64) (n : Nat) (hn10 : n ≤ 10) (hn1 : own_u v < 2 ^ (7 * n)) (hn2 : n = 1 ∨ 2 ^ (7 * (n - 1)) ≤ own_u v) (e0 : T0.heap = h0) :
    ∀ (d kk : Nat), kk + d = n → 1 ≤ kk → ∀ (z : Int32), z.toInt = ((kk : Nat) : Int) → Wk.Ends p e s below ({ frames := 0, cells := 0, slots := 0, locals := 0 } : Room) (fun r h L => ∃ z : Int32, r = some (.int z) ∧ z.toInt = ((n : Nat) : Int) ∧ h = h0 ∧ L = []) T0 (mkF m 7 #[.val (.long v), .second, .val (.int z), .val (.long (own_V v kk)), .second] []) := by
  intro d
  induction d with
  | zero =>
    intro kk hd hk1 z hz
    refine Wk.lload_n k X0 d_Varints_size_7 rfl 8 rfl ?_
    refine Wk.lconst k X0 d_Varints_size_8 (0 : Int64) rfl 9 rfl ?_
    refine Wk.lcmp_eq k X0 d_Varints_size_9 10 rfl d_Varints_size_10 (by decide) 24 13 (by decide) rfl (fun hc10 => ?_) (fun hc10 => ?_)
    · refine Wk.iload_n k X0 d_Varints_size_24 rfl 25 rfl ?_
      exact Wk.ret_int k X0 rfl d_Varints_size_25 (by decide) (by decide) ⟨_, rfl, by omega, e0, rfl⟩
    · exact absurd ((own_u0 _).mpr (by rw [own_u_V]; exact Nat.div_eq_of_lt (by rw [show kk = n from by omega]; exact hn1))) hc10
  | succ d ih =>
    intro kk hd hk1 z hz
    refine Wk.lload_n k X0 d_Varints_size_7 rfl 8 rfl ?_
    refine Wk.lconst k X0 d_Varints_size_8 (0 : Int64) rfl 9 rfl ?_
    refine Wk.lcmp_eq k X0 d_Varints_size_9 10 rfl d_Varints_size_10 (by decide) 24 13 (by decide) rfl (fun hc10 => ?_) (fun hc10 => ?_)
    · exact absurd ((own_u0 _).mp hc10) (by rw [own_u_V]; exact own_pos hn2 (by omega) (by omega))
    · refine Wk.iinc k X0 d_Varints_size_13 rfl #[.val (.long v), .second, .val (.int (z + (1 : Int32))), .val (.long (own_V v kk)), .second] rfl 16 rfl ?_
      refine Wk.lload_n k X0 d_Varints_size_16 rfl 17 rfl ?_
      refine Wk.bipush k X0 d_Varints_size_17 (7 : Int32) rfl 19 rfl ?_
      refine Wk.lushr k X0 d_Varints_size_19 20 rfl ?_
      refine Wk.lstore_n k X0 d_Varints_size_20 #[.val (.long v), .second, .val (.int (z + (1 : Int32))), .val (.long ((((own_V v kk)).toUInt64 >>> ((7 : Int32) &&& 0x3f).toInt64.toUInt64).toInt64)), .second] rfl 21 rfl ?_
      refine Wk.goto k X0 d_Varints_size_21 (by decide) 7 (by decide) ?_
      rw [own_Vs]
      exact ih (kk + 1) (by omega) (by omega) _ (by rw [own_inc hz (by omega)])
theorem ef_size (m : MethodId) (v : Int64) : entryFrame m #[(.long v)] 5 = mkF m 0 #[.val (.long v), .second, .unset, .unset, .unset] [] := by first | (simp [entryFrame, mkF, argsToLocals, Value.category]; done) | rfl
set_option maxRecDepth 65536 in
set_option maxHeartbeats 40000000 in
theorem rm_size (l : Launch) (Z : State) (a0 : Array Value) (hw : ∀ d ∈ tables_1, d.before a0 Z = true) (v : Int64) (h0 : Heap) : Wk.Met l (⟨"com/example/lestr/lestr/stream/Varints", "size", "(J)I"⟩ : MethodName) prog_98_method_2_code 5 (some .int) ({ frames := 0, cells := 0, slots := 0, locals := 0 } : Room) #[(.long v)] Z h0 (fun r h L => ∃ z : Int32, r = some (.int z) ∧ z.toInt = ((own_n (own_u v) : Nat) : Int) ∧ h = h0 ∧ L = []) [] := by
  refine Wk.enter pn_Varints_size (fun p e s m below meth c T0 k X0 e0 => ?_)
  refine (Wk.Ends.cast (ef_size m v) ?_)
  refine Wk.iconst k X0 d_Varints_size_0 (1 : Int32) rfl 1 rfl ?_
  refine Wk.istore_n k X0 d_Varints_size_1 #[.val (.long v), .second, .val (.int (1 : Int32)), .unset, .unset] rfl 2 rfl ?_
  refine Wk.lload_n k X0 d_Varints_size_2 rfl 3 rfl ?_
  refine Wk.bipush k X0 d_Varints_size_3 (7 : Int32) rfl 5 rfl ?_
  refine Wk.lushr k X0 d_Varints_size_5 6 rfl ?_
  refine Wk.lstore_n k X0 d_Varints_size_6 #[.val (.long v), .second, .val (.int (1 : Int32)), .val (.long (((v).toUInt64 >>> ((7 : Int32) &&& 0x3f).toInt64.toUInt64).toInt64)), .second] rfl 7 rfl ?_
  have hn := own_n_spec (own_u v) (own_u_lt v)
  have q := size_7 hw k X0 v _ hn.2.1 hn.2.2.1 hn.2.2.2 e0 (own_n (own_u v) - 1) 1 (by omega) (by omega) (1 : Int32) rfl
  rw [← own_Vs v 0, own_V0] at q
  exact q
theorem pn_ReaderVarintPinLaw_law : plainFor x = true := plainFor_of_name (by first | (simp [plainName, overriddenIn, x]; done) | decide +kernel)
set_option maxRecDepth 65536 in
set_option maxHeartbeats 40000000 in
theorem law_9 {p : Program} {l : Launch} {e : Env} {s : State} {m : MethodId} {args : Array Value} {below : List Frame} {meth : Method} {c : Code} {Z : State} {a0 : Array Value} {h0 : Heap} {n0 : Nat} {T0 : State} (hw : ∀ d ∈ tables_1, d.before a0 Z = true) (k : Wk.K p s m meth c Z x code maxLocals ret) (X0 : Stand p l e room_1 s m args below meth c T0 [] 0 0) (v : Int64) (p2 p3 : Int32) (b sb : Int32) (aa : Nat) (e0 : T0.heap = h0) (Z0 : n0 ≤ h0.size) (N0 : Fr n0 []) (hb : b.toInt = (aa : Int)) (haa : aa ≤ 3) (hsb : sb.toInt8.toInt32 = sb) : Wk.Ends p e s below room_1 (fun v _ L => v = some (.int 1) ∧ Fr n0 L) T0 (mkF m 9 #[.val (.long v), .second, .val (.int p2), .val (.int p3), .val (.int b), .val (.int sb), .unset, .unset, .unset, .unset, .unset, .unset] []) := by
  have hs := own_n_spec (own_u v) (own_u_lt v)
  have hxs : ∀ j, j < own_n (own_u v) → (own_done ([sb, sb, sb, sb, sb, sb, sb, sb, sb, sb, sb, sb, sb, sb] : List Int32) v aa (own_n (own_u v)))[aa + j]? = some (if j < own_n (own_u v) - 1 then own_cb v j else own_lb v j) := fun j hj => by
    rw [own_done_get _ _ _ _ hs.1 (aa + j) (by show aa + j < 14; omega), if_pos (by omega), Nat.add_sub_cancel_left]
  refine Wk.bipush k X0 at_9 (14 : Int32) rfl 11 rfl ?_
  refine Wk.newarray k X0 at_11 (Wk.w hw 0 rfl) e0 14 rfl 14 (by decide) (by decide) (by decide) (by decide) 13 rfl fun T1 h1 b1 q1 X1 e1 E1 A1 => ?_
  have g1 : n0 ≤ b1 := by rw [q1]; exact Z0
  have sz1 := Nat.le_trans Z0 E1.1
  have A1' : Wk.Arl Z h1 b1 .byte (([(0 : Int32), (0 : Int32), (0 : Int32), (0 : Int32), (0 : Int32), (0 : Int32), (0 : Int32), (0 : Int32), (0 : Int32), (0 : Int32), (0 : Int32), (0 : Int32), (0 : Int32), (0 : Int32)] : List Int32).map Value.int) := A1
  refine Wk.astore k X1 at_13 rfl #[.val (.long v), .second, .val (.int p2), .val (.int p3), .val (.int b), .val (.int sb), .val (.ref b1), .unset, .unset, .unset, .unset, .unset] rfl 15 rfl ?_
  refine Wk.aload k X1 at_15 rfl rfl 17 rfl ?_
  refine Wk.iconst k X1 at_17 (0 : Int32) rfl 18 rfl ?_
  refine Wk.iload k X1 at_18 rfl 20 rfl ?_
  refine Wk.bastore k X1 (x := sb) at_20 e1 A1' 0 rfl (show 0 < 14 from by decide) sb hsb 21 rfl fun T2 h2 X2 e2 W2 A2 => ?_
  have sz2 : n0 ≤ h2.size := by rw [W2.size]; exact sz1
  have N3 := Fr.snoc X2 N0 g1
  have A2' : Wk.Arl Z h2 b1 .byte (([sb, (0 : Int32), (0 : Int32), (0 : Int32), (0 : Int32), (0 : Int32), (0 : Int32), (0 : Int32), (0 : Int32), (0 : Int32), (0 : Int32), (0 : Int32), (0 : Int32), (0 : Int32)] : List Int32).map Value.int) := A2
  refine Wk.aload k X2 at_21 rfl rfl 23 rfl ?_
  refine Wk.iconst k X2 at_23 (1 : Int32) rfl 24 rfl ?_
  refine Wk.iload k X2 at_24 rfl 26 rfl ?_
  refine Wk.bastore k X2 (x := sb) at_26 e2 A2' 1 rfl (show 1 < 14 from by decide) sb hsb 27 rfl fun T4 h4 X4 e4 W4 A4 => ?_
  have sz4 : n0 ≤ h4.size := by rw [W4.size]; exact sz2
  have N5 := Fr.snoc X4 N3 g1
  have A4' : Wk.Arl Z h4 b1 .byte (([sb, sb, (0 : Int32), (0 : Int32), (0 : Int32), (0 : Int32), (0 : Int32), (0 : Int32), (0 : Int32), (0 : Int32), (0 : Int32), (0 : Int32), (0 : Int32), (0 : Int32)] : List Int32).map Value.int) := A4
  refine Wk.aload k X4 at_27 rfl rfl 29 rfl ?_
  refine Wk.iconst k X4 at_29 (2 : Int32) rfl 30 rfl ?_
  refine Wk.iload k X4 at_30 rfl 32 rfl ?_
  refine Wk.bastore k X4 (x := sb) at_32 e4 A4' 2 rfl (show 2 < 14 from by decide) sb hsb 33 rfl fun T6 h6 X6 e6 W6 A6 => ?_
  have sz6 : n0 ≤ h6.size := by rw [W6.size]; exact sz4
  have N7 := Fr.snoc X6 N5 g1
  have A6' : Wk.Arl Z h6 b1 .byte (([sb, sb, sb, (0 : Int32), (0 : Int32), (0 : Int32), (0 : Int32), (0 : Int32), (0 : Int32), (0 : Int32), (0 : Int32), (0 : Int32), (0 : Int32), (0 : Int32)] : List Int32).map Value.int) := A6
  refine Wk.aload k X6 at_33 rfl rfl 35 rfl ?_
  refine Wk.iconst k X6 at_35 (3 : Int32) rfl 36 rfl ?_
  refine Wk.iload k X6 at_36 rfl 38 rfl ?_
  refine Wk.bastore k X6 (x := sb) at_38 e6 A6' 3 rfl (show 3 < 14 from by decide) sb hsb 39 rfl fun T8 h8 X8 e8 W8 A8 => ?_
  have sz8 : n0 ≤ h8.size := by rw [W8.size]; exact sz6
  have N9 := Fr.snoc X8 N7 g1
  have A8' : Wk.Arl Z h8 b1 .byte (([sb, sb, sb, sb, (0 : Int32), (0 : Int32), (0 : Int32), (0 : Int32), (0 : Int32), (0 : Int32), (0 : Int32), (0 : Int32), (0 : Int32), (0 : Int32)] : List Int32).map Value.int) := A8
  refine Wk.aload k X8 at_39 rfl rfl 41 rfl ?_
  refine Wk.iconst k X8 at_41 (4 : Int32) rfl 42 rfl ?_
  refine Wk.iload k X8 at_42 rfl 44 rfl ?_
  refine Wk.bastore k X8 (x := sb) at_44 e8 A8' 4 rfl (show 4 < 14 from by decide) sb hsb 45 rfl fun T10 h10 X10 e10 W10 A10 => ?_
  have sz10 : n0 ≤ h10.size := by rw [W10.size]; exact sz8
  have N11 := Fr.snoc X10 N9 g1
  have A10' : Wk.Arl Z h10 b1 .byte (([sb, sb, sb, sb, sb, (0 : Int32), (0 : Int32), (0 : Int32), (0 : Int32), (0 : Int32), (0 : Int32), (0 : Int32), (0 : Int32), (0 : Int32)] : List Int32).map Value.int) := A10
  refine Wk.aload k X10 at_45 rfl rfl 47 rfl ?_
  refine Wk.iconst k X10 at_47 (5 : Int32) rfl 48 rfl ?_
  refine Wk.iload k X10 at_48 rfl 50 rfl ?_
  refine Wk.bastore k X10 (x := sb) at_50 e10 A10' 5 rfl (show 5 < 14 from by decide) sb hsb 51 rfl fun T12 h12 X12 e12 W12 A12 => ?_
  have sz12 : n0 ≤ h12.size := by rw [W12.size]; exact sz10
  have N13 := Fr.snoc X12 N11 g1
  have A12' : Wk.Arl Z h12 b1 .byte (([sb, sb, sb, sb, sb, sb, (0 : Int32), (0 : Int32), (0 : Int32), (0 : Int32), (0 : Int32), (0 : Int32), (0 : Int32), (0 : Int32)] : List Int32).map Value.int) := A12
  refine Wk.aload k X12 at_51 rfl rfl 53 rfl ?_
  refine Wk.bipush k X12 at_53 (6 : Int32) rfl 55 rfl ?_
  refine Wk.iload k X12 at_55 rfl 57 rfl ?_
  refine Wk.bastore k X12 (x := sb) at_57 e12 A12' 6 rfl (show 6 < 14 from by decide) sb hsb 58 rfl fun T14 h14 X14 e14 W14 A14 => ?_
  have sz14 : n0 ≤ h14.size := by rw [W14.size]; exact sz12
  have N15 := Fr.snoc X14 N13 g1
  have A14' : Wk.Arl Z h14 b1 .byte (([sb, sb, sb, sb, sb, sb, sb, (0 : Int32), (0 : Int32), (0 : Int32), (0 : Int32), (0 : Int32), (0 : Int32), (0 : Int32)] : List Int32).map Value.int) := A14
  refine Wk.aload k X14 at_58 rfl rfl 60 rfl ?_
  refine Wk.bipush k X14 at_60 (7 : Int32) rfl 62 rfl ?_
  refine Wk.iload k X14 at_62 rfl 64 rfl ?_
  refine Wk.bastore k X14 (x := sb) at_64 e14 A14' 7 rfl (show 7 < 14 from by decide) sb hsb 65 rfl fun T16 h16 X16 e16 W16 A16 => ?_
  have sz16 : n0 ≤ h16.size := by rw [W16.size]; exact sz14
  have N17 := Fr.snoc X16 N15 g1
  have A16' : Wk.Arl Z h16 b1 .byte (([sb, sb, sb, sb, sb, sb, sb, sb, (0 : Int32), (0 : Int32), (0 : Int32), (0 : Int32), (0 : Int32), (0 : Int32)] : List Int32).map Value.int) := A16
  refine Wk.aload k X16 at_65 rfl rfl 67 rfl ?_
  refine Wk.bipush k X16 at_67 (8 : Int32) rfl 69 rfl ?_
  refine Wk.iload k X16 at_69 rfl 71 rfl ?_
  refine Wk.bastore k X16 (x := sb) at_71 e16 A16' 8 rfl (show 8 < 14 from by decide) sb hsb 72 rfl fun T18 h18 X18 e18 W18 A18 => ?_
  have sz18 : n0 ≤ h18.size := by rw [W18.size]; exact sz16
  have N19 := Fr.snoc X18 N17 g1
  have A18' : Wk.Arl Z h18 b1 .byte (([sb, sb, sb, sb, sb, sb, sb, sb, sb, (0 : Int32), (0 : Int32), (0 : Int32), (0 : Int32), (0 : Int32)] : List Int32).map Value.int) := A18
  refine Wk.aload k X18 at_72 rfl rfl 74 rfl ?_
  refine Wk.bipush k X18 at_74 (9 : Int32) rfl 76 rfl ?_
  refine Wk.iload k X18 at_76 rfl 78 rfl ?_
  refine Wk.bastore k X18 (x := sb) at_78 e18 A18' 9 rfl (show 9 < 14 from by decide) sb hsb 79 rfl fun T20 h20 X20 e20 W20 A20 => ?_
  have sz20 : n0 ≤ h20.size := by rw [W20.size]; exact sz18
  have N21 := Fr.snoc X20 N19 g1
  have A20' : Wk.Arl Z h20 b1 .byte (([sb, sb, sb, sb, sb, sb, sb, sb, sb, sb, (0 : Int32), (0 : Int32), (0 : Int32), (0 : Int32)] : List Int32).map Value.int) := A20
  refine Wk.aload k X20 at_79 rfl rfl 81 rfl ?_
  refine Wk.bipush k X20 at_81 (10 : Int32) rfl 83 rfl ?_
  refine Wk.iload k X20 at_83 rfl 85 rfl ?_
  refine Wk.bastore k X20 (x := sb) at_85 e20 A20' 10 rfl (show 10 < 14 from by decide) sb hsb 86 rfl fun T22 h22 X22 e22 W22 A22 => ?_
  have sz22 : n0 ≤ h22.size := by rw [W22.size]; exact sz20
  have N23 := Fr.snoc X22 N21 g1
  have A22' : Wk.Arl Z h22 b1 .byte (([sb, sb, sb, sb, sb, sb, sb, sb, sb, sb, sb, (0 : Int32), (0 : Int32), (0 : Int32)] : List Int32).map Value.int) := A22
  refine Wk.aload k X22 at_86 rfl rfl 88 rfl ?_
  refine Wk.bipush k X22 at_88 (11 : Int32) rfl 90 rfl ?_
  refine Wk.iload k X22 at_90 rfl 92 rfl ?_
  refine Wk.bastore k X22 (x := sb) at_92 e22 A22' 11 rfl (show 11 < 14 from by decide) sb hsb 93 rfl fun T24 h24 X24 e24 W24 A24 => ?_
  have sz24 : n0 ≤ h24.size := by rw [W24.size]; exact sz22
  have N25 := Fr.snoc X24 N23 g1
  have A24' : Wk.Arl Z h24 b1 .byte (([sb, sb, sb, sb, sb, sb, sb, sb, sb, sb, sb, sb, (0 : Int32), (0 : Int32)] : List Int32).map Value.int) := A24
  refine Wk.aload k X24 at_93 rfl rfl 95 rfl ?_
  refine Wk.bipush k X24 at_95 (12 : Int32) rfl 97 rfl ?_
  refine Wk.iload k X24 at_97 rfl 99 rfl ?_
  refine Wk.bastore k X24 (x := sb) at_99 e24 A24' 12 rfl (show 12 < 14 from by decide) sb hsb 100 rfl fun T26 h26 X26 e26 W26 A26 => ?_
  have sz26 : n0 ≤ h26.size := by rw [W26.size]; exact sz24
  have N27 := Fr.snoc X26 N25 g1
  have A26' : Wk.Arl Z h26 b1 .byte (([sb, sb, sb, sb, sb, sb, sb, sb, sb, sb, sb, sb, sb, (0 : Int32)] : List Int32).map Value.int) := A26
  refine Wk.aload k X26 at_100 rfl rfl 102 rfl ?_
  refine Wk.bipush k X26 at_102 (13 : Int32) rfl 104 rfl ?_
  refine Wk.iload k X26 at_104 rfl 106 rfl ?_
  refine Wk.bastore k X26 (x := sb) at_106 e26 A26' 13 rfl (show 13 < 14 from by decide) sb hsb 107 rfl fun T28 h28 X28 e28 W28 A28 => ?_
  have sz28 : n0 ≤ h28.size := by rw [W28.size]; exact sz26
  have N29 := Fr.snoc X28 N27 g1
  have A28' : Wk.Arl Z h28 b1 .byte (([sb, sb, sb, sb, sb, sb, sb, sb, sb, sb, sb, sb, sb, sb] : List Int32).map Value.int) := A28
  refine Wk.aload k X28 at_107 rfl rfl 109 rfl ?_
  refine Wk.iload k X28 at_109 rfl 111 rfl ?_
  refine Wk.lload_n k X28 at_111 rfl 112 rfl ?_
  refine Wk.callS k X28 [(.ref b1), (.int b), (.long v)] [] at_112 (rm_put l Z a0 hw b1 b v aa _ h28 n0 hb (by omega) (by show aa + _ ≤ 14; omega) A28' g1) e28 (Wk.w hw 1 rfl) (Wk.w hw 2 rfl) (Wk.w hw 3 rfl) (Wk.w hw 4 rfl) (by decide) rfl pd_Varints_put rfl rfl (Nat.le_of_ble_eq_true rfl) (Nat.le_of_ble_eq_true rfl) (Nat.le_of_ble_eq_true rfl) (Nat.le_of_ble_eq_true rfl) 115 rfl fun T30 v30 L30 X30 hQ30 => ?_
  obtain ⟨z, rfl, hz, N30q, K30, A30⟩ := hQ30
  show Wk.Ends _ _ _ _ _ _ _ (mkF m 115 _ [(.int z)])
  have N30 := Fr.app N29 N30q
  have sz30 := Nat.le_trans sz28 K30.1
  refine Wk.istore k X30 at_115 #[.val (.long v), .second, .val (.int p2), .val (.int p3), .val (.int b), .val (.int sb), .val (.ref b1), .val (.int z), .unset, .unset, .unset, .unset] rfl 117 rfl ?_
  refine Wk.new k X30 at_117 (Wk.w hw 6 rfl) (Wk.w hw 7 rfl) (Wk.w hw 8 rfl) (rfl : T30.heap = T30.heap) (by decide) (by decide) 120 rfl fun T31 h31 b31 q31 X31 e31 E31 A31 D31 => ?_
  have g31 : n0 ≤ b31 := by rw [q31]; exact sz30
  have ne32 : b1 ≠ b31 := by rw [q31]; exact Nat.ne_of_lt A30.lt
  have sz31 := Nat.le_trans sz30 E31.1
  have f33 := A30.ext E31
  have f34 : Fld Z h31 b31 "com/example/lestr/lestr/stream/Varints$Reader" "data" "[B" .null := D31 (Or.inl (Wk.w hw 16 rfl)) (ty := (.array .byte)) (by decide)
  have f35 : Fld Z h31 b31 "com/example/lestr/lestr/stream/Varints$Reader" "position" "I" (.int (0 : Int32)) := D31 (Or.inl (Wk.w hw 18 rfl)) (ty := .int) (by decide)
  refine Wk.dup k X31 at_120 rfl 121 rfl ?_
  refine Wk.aload k X31 at_121 rfl rfl 123 rfl ?_
  refine Wk.iload k X31 at_123 rfl 125 rfl ?_
  refine Wk.callI k X31 [(.ref b1), (.int b)] [(.ref b31)] at_125 (rm_ini l Z a0 hw b31 b1 b _ _ h31 n0 A31 f34 f35 g31) e31 rfl (Wk.w hw 9 rfl) (Wk.w hw 10 rfl) (Wk.w hw 8 rfl) (Wk.w hw 11 rfl) (by decide) rfl pd_Reader_init rfl rfl (Nat.le_of_ble_eq_true rfl) (Nat.le_of_ble_eq_true rfl) (Nat.le_of_ble_eq_true rfl) (Nat.le_of_ble_eq_true rfl) 128 rfl fun T36 v36 L36 X36 hQ36 => ?_
  obtain ⟨rfl, N36q, K36, E36, F36a, F36b⟩ := hQ36
  show Wk.Ends _ _ _ _ _ _ _ (mkF m 128 _ [(.ref b31)])
  have N36 := Fr.app N30 N36q
  have sz36 := Nat.le_trans sz31 K36.1
  have f37 := f33.keep K36 (ninS ne32 nin0)
  refine Wk.astore k X36 at_128 rfl #[.val (.long v), .second, .val (.int p2), .val (.int p3), .val (.int b), .val (.int sb), .val (.ref b1), .val (.int z), .val (.ref b31), .unset, .unset, .unset] rfl 130 rfl ?_
  refine Wk.aload k X36 at_130 rfl rfl 132 rfl ?_
  refine Wk.callV k X36 [] [] at_132 (rm_var l Z a0 hw b31 b1 v aa _ _ b T36.heap n0 hs.1 hs.2.1 hs.2.2.1 hs.2.2.2 hxs (by omega) ne32 g31 E36 F36a F36b f37 hb) (rfl : T36.heap = T36.heap) E36 (Wk.w hw 19 rfl) (Wk.w hw 20 rfl) (Wk.w hw 22 rfl) (Wk.w hw 21 rfl) (Wk.w hw 8 rfl) (Wk.w hw 23 rfl) (by decide) rfl pd_Reader_varint rfl rfl (Nat.le_of_ble_eq_true rfl) (Nat.le_of_ble_eq_true rfl) (Nat.le_of_ble_eq_true rfl) (Nat.le_of_ble_eq_true rfl) 135 rfl fun T38 v38 L38 X38 hQ38 => ?_
  obtain ⟨rfl, N38q, K38, E38, pz, F38b, hpz⟩ := hQ38
  show Wk.Ends _ _ _ _ _ _ _ (mkF m 135 _ [(.long v)])
  have N38 := Fr.app N36 N38q
  refine Wk.lstore k X38 at_135 #[.val (.long v), .second, .val (.int p2), .val (.int p3), .val (.int b), .val (.int sb), .val (.ref b1), .val (.int z), .val (.ref b31), .val (.long v), .second, .unset] rfl 137 rfl ?_
  refine Wk.iload k X38 at_137 rfl 139 rfl ?_
  refine Wk.iload k X38 at_139 rfl 141 rfl ?_
  refine Wk.isub k X38 at_141 142 rfl ?_
  refine Wk.istore k X38 at_142 #[.val (.long v), .second, .val (.int p2), .val (.int p3), .val (.int b), .val (.int sb), .val (.ref b1), .val (.int z), .val (.ref b31), .val (.long v), .second, .val (.int (z - b))] rfl 144 rfl ?_
  refine Wk.lload k X38 at_144 rfl 146 rfl ?_
  refine Wk.lload_n k X38 at_146 rfl 147 rfl ?_
  refine Wk.lcmp_ne k X38 at_147 148 rfl at_148 (by decide) 187 151 (by decide) rfl (fun hc148 => ?_) (fun hc148 => ?_)
  · exact absurd rfl hc148
  · refine Wk.aload k X38 at_151 rfl rfl 153 rfl ?_
    refine Wk.getfield k X38 at_153 (host := "") (Or.inl (Wk.w hw 24 rfl)) Via.refl (rfl : T38.heap = T38.heap) F38b 156 rfl fun T39 X39 e39 => ?_
    refine Wk.iload k X39 at_156 rfl 158 rfl ?_
    refine Wk.icmp_ne k X39 at_158 (by decide) 187 161 (by decide) rfl (fun hc158 => ?_) (fun hc158 => ?_)
    · exact absurd (Int32.toInt_inj.mp (by omega)) hc158
    · refine Wk.iload k X39 at_161 rfl 163 rfl ?_
      refine Wk.lload_n k X39 at_163 rfl 164 rfl ?_
      refine Wk.callS k X39 [(.long v)] [(.int (z - b))] at_164 (rm_size l Z a0 hw v _) e39 (Wk.w hw 25 rfl) (Wk.w hw 26 rfl) (Wk.w hw 3 rfl) (Wk.w hw 27 rfl) (by decide) rfl pd_Varints_size rfl rfl (Nat.le_of_ble_eq_true rfl) (Nat.le_of_ble_eq_true rfl) (Nat.le_of_ble_eq_true rfl) (Nat.le_of_ble_eq_true rfl) 167 rfl fun T40 v40 L40 X40 hQ40 => ?_
      obtain ⟨n, rfl, hn, e40, rfl⟩ := hQ40
      rw [List.append_nil] at X40
      show Wk.Ends _ _ _ _ _ _ _ (mkF m 167 _ [(.int n), (.int (z - b))])
      refine Wk.icmp_ne k X40 at_167 (by decide) 187 170 (by decide) rfl (fun hc167 => ?_) (fun hc167 => ?_)
      · exact absurd (Int32.toInt_inj.mp (by have q := c_isub z b; have r := rng32 (z - b); omega)) hc167
      · refine Wk.iload k X40 at_170 rfl 172 rfl ?_
        refine Wk.iconst k X40 at_172 (1 : Int32) rfl 173 rfl ?_
        refine Wk.icmp_lt k X40 at_173 (by decide) 187 176 (by decide) rfl (fun hc173 => ?_) (fun hc173 => ?_)
        · exact absurd hc173 (by rw [Int32.lt_iff_toInt_lt]; have t : (1 : Int32).toInt = 1 := rfl; have q := c_isub z b; have r := rng32 (z - b); omega)
        · refine Wk.iload k X40 at_176 rfl 178 rfl ?_
          refine Wk.bipush k X40 at_178 (10 : Int32) rfl 180 rfl ?_
          refine Wk.icmp_gt k X40 at_180 (by decide) 187 183 (by decide) rfl (fun hc180 => ?_) (fun hc180 => ?_)
          · exact absurd hc180 (by rw [Int32.lt_iff_toInt_lt]; have t : (10 : Int32).toInt = 10 := rfl; have q := c_isub z b; have r := rng32 (z - b); omega)
          · refine Wk.iconst k X40 at_183 (1 : Int32) rfl 184 rfl ?_
            refine Wk.goto k X40 at_184 (by decide) 188 (by decide) ?_
            exact Wk.ret_bool k X40 rfl at_188 (by decide) (by decide) (by decide) ⟨rfl, N38⟩
theorem ef_law (m : MethodId) (v : Int64) (p2 p3 : Int32) : entryFrame m #[(.long v), (.int p2), (.int p3)] maxLocals = mkF m 0 #[.val (.long v), .second, .val (.int p2), .val (.int p3), .unset, .unset, .unset, .unset, .unset, .unset, .unset, .unset] [] := by first | (simp [entryFrame, mkF, argsToLocals, Value.category, maxLocals]; done) | rfl
set_option maxRecDepth 65536 in
set_option maxHeartbeats 40000000 in
theorem rm0 (l : Launch) (Z : State) (a0 : Array Value) (hw : ∀ d ∈ tables_1, d.before a0 Z = true) (ws : List Jvm.Cond) (v : Int64) (p2 p3 : Int32) (h0 : Heap) (n0 : Nat) (Z0 : n0 ≤ h0.size) : Wk.Met l x code maxLocals ret room_1 #[(.long v), (.int p2), (.int p3)] Z h0 (fun v _ L => v = some (.int 1) ∧ Fr n0 L) ws := by
  refine Wk.enter pn_ReaderVarintPinLaw_law (fun p e s m below meth c T0 k X0 e0 => ?_)
  refine (Wk.Ends.cast (ef_law m v p2 p3) ?_)
  refine Wk.iload_n k X0 at_0 rfl 1 rfl ?_
  refine Wk.iconst k X0 at_1 (3 : Int32) rfl 2 rfl ?_
  refine Wk.iand k X0 at_2 3 rfl ?_
  refine Wk.istore k X0 at_3 #[.val (.long v), .second, .val (.int p2), .val (.int p3), .val (.int (p2 &&& (3 : Int32))), .unset, .unset, .unset, .unset, .unset, .unset, .unset] rfl 5 rfl ?_
  refine Wk.iload_n k X0 at_5 rfl 6 rfl ?_
  refine Wk.i2b k X0 at_6 7 rfl ?_
  refine Wk.istore k X0 at_7 #[.val (.long v), .second, .val (.int p2), .val (.int p3), .val (.int (p2 &&& (3 : Int32))), .val (.int ((p3).toInt8.toInt32)), .unset, .unset, .unset, .unset, .unset, .unset] rfl 9 rfl ?_
  have hm := c_mask p2 3 2 (by decide) (by decide)
  exact law_9 hw k X0 v p2 p3 _ _ ((p2 &&& (3 : Int32)).toInt.toNat) e0 Z0 (Fr.nil _) (by omega) (by omega) (own_b8 _)
set_option maxRecDepth 65536 in
set_option maxHeartbeats 40000000 in
theorem comes_1 {Post : Tables → Env → Array Value → State → Outcome → State → Prop} (hpost : ∀ tb e args s v u, (limb_1_1.after args s (.returned v) u = true ∧ limb_1_2.after args s (.returned v) u = true) → FrameEnd s (.returned v) u (Jvm.fieldLocs frame_1_writes args s ++ Jvm.arrayLocs frame_1_arrays args s ++ Jvm.staticLocs frame_1_statics s) 16 128 → Post tb e args s (.returned v) u) :
    ArmFor flags0 classFile x code maxLocals ret World_1 tables_1 room_1 Calls_1 rest_1 Pre_1 Post := by
  intro l hfl _ _ p e ha hc hk s m args below hf hA hF happ hP
  obtain ⟨hcalls, hrest, hpre⟩ := hP
  obtain ⟨-, -, -, hnamed, -, -, -, hat⟩ := (Spec.applies_iff hf).mp happ
  obtain ⟨hg, hn⟩ := and_e (Cond.before_iff.mp (show (Jvm.Cond.and given_1 narrow_1).before args s = true from hpre))
  obtain ⟨gc, g0⟩ := and_e hg
  obtain ⟨q0, g1⟩ := and_e g0
  obtain ⟨q1, g2⟩ := and_e g1
  have q2 := g2
  obtain ⟨w0, w1, w2, rfl⟩ : ∃ w0 w1 w2 : Value, args = #[w0, w1, w2] := by
    have hs : args.size = 3 := by simpa [Cond.value, given_1] using gc
    obtain ⟨L⟩ := args
    match L, hs with
    | [w0, w1, w2], _ => exact ⟨w0, w1, w2, rfl⟩
  have hw := fun d (hd : d ∈ tables_1) => atoms_spec (ws := Jvm.Cond.code x code maxLocals ret :: tables_1) hat d (List.mem_cons_of_mem _ hd)
  have hfit : Fit s := fun {y c} hc i hi => by
    obtain ⟨ha, rfl⟩ := Array.getElem?_eq_some_iff.mp hc
    have q := List.all_eq_true.mp ((Array.all_eq_true_iff_forall_mem.mp hF) _ (Array.getElem_mem ha)) i (List.mem_range.mpr hi)
    simpa [Array.getElem?_eq_getElem hi] using q
  obtain ⟨i0, ei0⟩ := isL_v q0
  obtain rfl : w0 = (.long i0) := Option.some.inj ei0
  obtain ⟨i1, ei1⟩ := is_v q1
  obtain rfl : w1 = (.int i1) := Option.some.inj ei1
  obtain ⟨i2, ei2⟩ := is_v q2
  obtain rfl : w2 = (.int i2) := Option.some.inj ei2
  obtain ⟨n, o, h1, h2, h3, _, L, rfl, ⟨rfl, N⟩, hq⟩ := rm0 l s _ hw tables_1 i0 i1 i2 s.heap s.heap.size (Nat.le_refl _) p e ha hc hk s m _ below hf ((Spec.applies_iff_loose hf).mp happ).1 ⟨rfl, State.Warmed39.refl s, rfl⟩ trivial
  exact ⟨n, _, h1, h2, h3, hpost _ _ _ _ _ _ ⟨Cond.after_iff.mpr rfl, Cond.after_iff.mpr (eq_i res_at (Term.int_eval (1)) rfl)⟩ ⟨hq.1, hq.2.1, (hq.2.2.sift fun y hy => Or.inr (N y hy)).mono (by decide) (by decide)⟩⟩
theorem main_1_1 : Claimed_1_1 := comes_1 fun _ _ _ _ _ _ h hF => ⟨h.1, hF⟩
theorem main_1_2 : Claimed_1_2 := comes_1 fun _ _ _ _ _ _ h hF => ⟨h.2, hF⟩
end Jvm.Pilot.@@N@@
namespace Jvm.Pilot.@@N@@
open Jvm Jvm.ClassFile Sem Op Lib Jvm.Free Jvm.Stand Jvm.Pilot.@@N@@.Jvm.D
/-! MADE BY PROGRAM (witnessworld.py) out of the Statement's table words and the real class files: 10 classes; the members and pool entries that the words name. The judged class is class 1, her method 1. -/
namespace start1
open Jvm.ClassFile
def u (s : String) : CpInfo := .utf8 (stringToUtf16 s)
/-- a pool by its gaps: so many unusable entries, then the entry; so many at the end -/
def gap : Nat → List CpInfo → List CpInfo
  | 0, r => r
  | n + 1, r => .unusable :: gap n r
def poolList (es : List (Nat × CpInfo)) (last : Nat) : List CpInfo := es.foldr (fun e r => gap e.1 (e.2 :: r)) (gap last [])
def pool (es : List (Nat × CpInfo)) (last : Nat) : Array CpInfo := ⟨poolList es last⟩
def fileOf (pool : Array CpInfo) (this : Nat) (attrs : Array Attribute := #[]) (ms : Array MethodInfo := #[]) (fl : Nat := 33) (sup : Nat := 0) (ifs : Array Nat := #[]) (fds : Array FieldInfo := #[]) : ClassFile where
  minorVersion := 0
  majorVersion := 65
  constantPool := pool
  accessFlags := fl
  thisClass := this
  superClass := sup
  interfaces := ifs
  fields := fds
  methods := ms
  attributes := attrs
def plain (name : String) (sup : Option ClassId) : Class where
  name := name
  kind := .ordinary
  loader := none
  accessFlags := 33
  super := sup
  interfaces := #[]
  cf := none
  fields := #[]
  methods := #[]
  instanceTypes := #[]
  staticTypes := #[]
  resolved := #[]
  callSites := []
  init := .initialized
  statics := none
  mirror := none

def pool0 : Array CpInfo := pool [(5, u "<init>"), (0, u "()V"), (1, .class_ 10), (1, u "java/lang/Object")] 113

def k0c0 : Code := { maxStack := 0, maxLocals := 1, code := object_method_1_code, exceptionTable := #[], attributes := #[] }
def k0m0 : Method := { name := "<init>", desc := "()V", sig := { parameters := [], returnType := none }, accessFlags := 1, code := some k0c0 }
/-- java/lang/Object -/
def k0 : Class := { plain "java/lang/Object" none with
  accessFlags := 33
  interfaces := #[]
  cf := some (fileOf pool0 8 #[] #[{ accessFlags := 1, nameIndex := 5, descriptorIndex := 6, attributes := #[] }] 33 0 #[] #[])
  fields := #[]
  methods := #[k0m0]
  instanceTypes := #[]
  staticTypes := #[]
  resolved := Array.replicate 124 none
  statics := none }

def pool1 : Array CpInfo := pool [(2, .class_ 4), (1, u "java/lang/Object"), (0, u "<init>"), (0, u "()V"), (0, .methodref 8 9), (0, .class_ 10), (0, .nameAndType 11 12), (0, u "com/example/lestr/lestr/stream/Varints"), (0, u "put"), (0, u "([BIJ)I"), (0, .class_ 14), (0, u "com/example/lestr/lestr/stream/Varints$Reader"), (0, .methodref 13 16), (0, .nameAndType 5 17), (0, u "([BI)V"), (0, .methodref 13 19), (0, .nameAndType 20 21), (0, u "varint"), (0, u "()J"), (0, .fieldref 13 23), (0, .nameAndType 24 25), (0, u "position"), (0, u "I"), (0, .methodref 8 27), (0, .nameAndType 28 29), (0, u "size"), (0, u "(J)I"), (0, .class_ 31), (0, u "com/example/lestr/lestr/stream/ReaderVarintPinLaw"), (2, u "law"), (0, u "(JII)Z")] 7

def k1m0 : Method := { name := "<init>", desc := "()V", sig := { parameters := [], returnType := none }, accessFlags := 2, code := none }
def k1c1 : Code := { maxStack := 4, maxLocals := 12, code := code, exceptionTable := #[], attributes := #[] }
def k1m1 : Method := { name := "law", desc := "(JII)Z", sig := { parameters := [.long, .int, .int], returnType := some .boolean }, accessFlags := 9, code := some k1c1 }
/-- com/example/lestr/lestr/stream/ReaderVarintPinLaw -/
def k1 : Class := { plain "com/example/lestr/lestr/stream/ReaderVarintPinLaw" (some 0) with
  accessFlags := 49
  interfaces := #[]
  cf := some (fileOf pool1 30 #[] #[{ accessFlags := 2, nameIndex := 5, descriptorIndex := 6, attributes := #[] }, { accessFlags := 9, nameIndex := 34, descriptorIndex := 35, attributes := #[] }] 49 2 #[] #[])
  fields := #[]
  methods := #[k1m0, k1m1]
  instanceTypes := #[]
  staticTypes := #[]
  resolved := Array.replicate 43 none
  statics := none }

def pool2 : Array CpInfo := pool [(2, .class_ 4), (1, u "java/lang/Object"), (0, u "<init>"), (0, u "()V"), (0, .long 18446744073709551488), (1, .long 127), (1, .long 128), (14, .class_ 27), (0, u "com/example/lestr/lestr/stream/Varints"), (2, u "size"), (0, u "(J)I"), (1, u "put"), (0, u "([BIJ)I"), (5, .class_ 41), (0, u "com/example/lestr/lestr/stream/Varints$Reader")] 2

def k2m0 : Method := { name := "<init>", desc := "()V", sig := { parameters := [], returnType := none }, accessFlags := 2, code := none }
def k2c1 : Code := { maxStack := 4, maxLocals := 5, code := prog_98_method_2_code, exceptionTable := #[], attributes := #[] }
def k2m1 : Method := { name := "size", desc := "(J)I", sig := { parameters := [.long], returnType := some .int }, accessFlags := 8, code := some k2c1 }
def k2c2 : Code := { maxStack := 6, maxLocals := 7, code := prog_98_method_3_code, exceptionTable := #[], attributes := #[] }
def k2m2 : Method := { name := "put", desc := "([BIJ)I", sig := { parameters := [(.array .byte), .int, .long], returnType := some .int }, accessFlags := 8, code := some k2c2 }
/-- com/example/lestr/lestr/stream/Varints -/
def k2 : Class := { plain "com/example/lestr/lestr/stream/Varints" (some 0) with
  accessFlags := 48
  interfaces := #[]
  cf := some (fileOf pool2 26 #[.nestMembers #[40]] #[{ accessFlags := 2, nameIndex := 5, descriptorIndex := 6, attributes := #[] }, { accessFlags := 8, nameIndex := 30, descriptorIndex := 31, attributes := #[] }, { accessFlags := 8, nameIndex := 33, descriptorIndex := 34, attributes := #[] }] 48 2 #[] #[])
  fields := #[]
  methods := #[k2m0, k2m1, k2m2]
  instanceTypes := #[]
  staticTypes := #[]
  resolved := Array.replicate 44 none
  statics := none }

def pool3 : Array CpInfo := pool [(1, .methodref 2 3), (0, .class_ 4), (0, .nameAndType 5 6), (0, u "java/lang/Object"), (0, u "<init>"), (0, u "()V"), (0, .fieldref 8 9), (0, .class_ 10), (0, .nameAndType 11 12), (0, u "com/example/lestr/lestr/stream/Varints$Reader"), (0, u "data"), (0, u "[B"), (0, .fieldref 8 14), (0, .nameAndType 15 16), (0, u "position"), (0, u "I"), (0, u "([BI)V"), (2, u "varint"), (0, u "()J"), (4, .class_ 27), (0, u "com/example/lestr/lestr/stream/Varints")] 2

def k3c0 : Code := { maxStack := 2, maxLocals := 3, code := prog_99_method_1_code, exceptionTable := #[], attributes := #[] }
def k3m0 : Method := { name := "<init>", desc := "([BI)V", sig := { parameters := [(.array .byte), .int], returnType := none }, accessFlags := 0, code := some k3c0 }
def k3c1 : Code := { maxStack := 5, maxLocals := 5, code := prog_99_method_2_code, exceptionTable := #[], attributes := #[] }
def k3m1 : Method := { name := "varint", desc := "()J", sig := { parameters := [], returnType := some .long }, accessFlags := 0, code := some k3c1 }
/-- com/example/lestr/lestr/stream/Varints$Reader -/
def k3 : Class := { plain "com/example/lestr/lestr/stream/Varints$Reader" (some 0) with
  accessFlags := 32
  interfaces := #[]
  cf := some (fileOf pool3 8 #[.nestHost 26] #[{ accessFlags := 0, nameIndex := 5, descriptorIndex := 17, attributes := #[] }, { accessFlags := 0, nameIndex := 20, descriptorIndex := 21, attributes := #[] }] 32 2 #[] #[{ accessFlags := 0, nameIndex := 11, descriptorIndex := 12, attributes := #[] }, { accessFlags := 0, nameIndex := 15, descriptorIndex := 16, attributes := #[] }])
  fields := #[{ name := "data", type := (.array .byte), accessFlags := 0, slot := 0, constantValue := 0 }, { name := "position", type := .int, accessFlags := 0, slot := 1, constantValue := 0 }]
  methods := #[k3m0, k3m1]
  instanceTypes := #[(.array .byte), .int]
  staticTypes := #[]
  resolved := Array.replicate 30 none
  statics := none }

def pool4 : Array CpInfo := pool [(1, u "java/lang/Cloneable"), (0, .class_ 1), (0, u "java/lang/Object"), (0, .class_ 3)] 3

/-- java/lang/Cloneable -/
def k4 : Class := { plain "java/lang/Cloneable" (some 0) with
  accessFlags := 1537
  interfaces := #[]
  cf := some (fileOf pool4 2 #[] #[] 1537 4 #[] #[])
  fields := #[]
  methods := #[]
  instanceTypes := #[]
  staticTypes := #[]
  resolved := Array.replicate 8 none
  statics := none }

def pool5 : Array CpInfo := pool [(1, u "java/io/Serializable"), (0, .class_ 1), (0, u "java/lang/Object"), (0, .class_ 3)] 3

/-- java/io/Serializable -/
def k5 : Class := { plain "java/io/Serializable" (some 0) with
  accessFlags := 1537
  interfaces := #[]
  cf := some (fileOf pool5 2 #[] #[] 1537 4 #[] #[])
  fields := #[]
  methods := #[]
  instanceTypes := #[]
  staticTypes := #[]
  resolved := Array.replicate 8 none
  statics := none }

/-- the primitive byte -/
def k6 : Class := { plain "byte" none with kind := .primitive 'B', accessFlags := 0x411 }
/-- [B -/
def k7 : Class := { plain "[B" (some 0) with kind := .array 6 .byte, interfaces := #[4, 5], accessFlags := 1041 }

/-- the primitive int -/
def k8 : Class := { plain "int" none with kind := .primitive 'I', accessFlags := 0x411 }
/-- [I -/
def k9 : Class := { plain "[I" (some 0) with kind := .array 8 .int, interfaces := #[4, 5], accessFlags := 1041 }

def heap : Heap := #[]
def classes : Array Class := #[k0, k1, k2, k3, k4, k5, k6, k7, k8, k9]
def interned : List (Array UInt16 × Addr) := []
def slotsUsed : Nat := 0
def theMethod : MethodId := ⟨1, 1⟩
def args0 : Array Value := #[.long 300, .int 3, .int 2]
def aboutOver (below : List Frame) : State where
  vm := { classes := classes, interned := interned.toArray }
  heap := heap
  slotsUsed := slotsUsed
  threads := #[{ frames := .invoking theMethod args0 :: below }]
def below0 : List Frame := [.native { method := ⟨0, 0⟩, args := #[] }]
def about1 : State := aboutOver below0
def p0 : Program := .bare "" "" ""
def e0 : Env := launch0.env 0 0 0
theorem w_frames : about1.frames = Frame.invoking theMethod args0 :: below0 := rfl
set_option maxRecDepth 65536 in
theorem w_args : argsFit about1.vm theMethod args0 = true := by decide +kernel
set_option maxRecDepth 65536 in
theorem w_heap : heapFits about1 = true := by decide +kernel
set_option maxRecDepth 65536 in
theorem w_runnable : about1.curStatus? = some .runnable := by decide +kernel
set_option maxRecDepth 65536 in
theorem w_alone : about1.alone = true := by decide +kernel
set_option maxRecDepth 65536 in
theorem w_named : about1.methodNamed? x = some theMethod := by decide +kernel
set_option maxRecDepth 65536 in
theorem w_hears : about1.hears theMethod below0 = true := by decide +kernel
set_option maxRecDepth 65536 in
theorem w_ripe : about1.ripe theMethod args0 below0 = true := by decide +kernel
theorem w_running : about1.status = .running := rfl
set_option maxRecDepth 65536 in
theorem w_room : about1.hasRoom e0.platform room_1 = true :=
  launch0.hasRoom_least _ room_1 (by decide +kernel) (by decide +kernel) (by decide +kernel) (by decide +kernel) (by decide +kernel) (by decide +kernel)
theorem allAtoms_all (ts : List Jvm.Cond) (a : Array Jvm.Value) (st : Jvm.State) : (allAtoms ts).before a st = ts.all (fun c => c.before a st) := by
  induction ts with
  | nil => rfl
  | cons c t ih =>
    show (Jvm.Cond.and c (allAtoms t)).before a st = _
    rw [Jvm.Cond.before_and, ih, List.all_cons]
def words1 : List Jvm.Cond := Jvm.Cond.code x code maxLocals ret :: tables_1
/-- a 'code' word, met by the world's own term for the bytes: nothing is compared byte by byte -/
theorem code_word {y : MethodName} {bytes : ByteArray} {mx : Nat} {rt : Option FieldType} {a : Array Value} {s : State} {m : MethodId} {meth : Method} {c : Code} (h1 : s.methodNamed? y = some m) (h2 : s.vm.method? m = some meth) (h3 : meth.code = some c) (h4 : c.code = bytes)
    (h5 : (c.maxLocals == mx && c.exceptionTable.isEmpty && decide (c.maxStack ≤ mostOperands) && decide (meth.sig.returnType = rt) && !meth.locks && decide (parseMethodDescriptor y.desc = some meth.sig)) = true) : (Jvm.Cond.code y bytes mx rt).before a s = true := by
  simp only [Bool.and_eq_true, beq_iff_eq, Bool.not_eq_true', decide_eq_true_eq] at h5
  obtain ⟨⟨⟨⟨⟨g1, g2⟩, g3⟩, g4⟩, g5⟩, g6⟩ := h5
  simp [Cond.before, Cond.holds, Cond.value, h1, h2, h3, h4, g1, g2, g3, g4, g5, g6]
def isCode : Jvm.Cond → Bool
  | .code _ _ _ _ => true
  | _ => false
theorem all_split {L : List Jvm.Cond} {P : Jvm.Cond → Bool} (h1 : L.all (fun c => isCode c || P c) = true) (h2 : ∀ c ∈ L.filter isCode, P c = true) : L.all P = true := by
  refine List.all_eq_true.mpr fun c hc => ?_
  have h := List.all_eq_true.mp h1 c hc
  rcases Bool.eq_false_or_eq_true (isCode c) with hi | hi
  · exact h2 c (List.mem_filter.mpr ⟨hc, hi⟩)
  · simpa [hi] using h
set_option maxRecDepth 65536 in
theorem w_c0 : (Jvm.Cond.code x code maxLocals ret).before args0 about1 = true := code_word (m := ⟨1, 1⟩) (meth := k1m1) (c := k1c1) (by decide +kernel) rfl rfl rfl (by decide +kernel)
set_option maxRecDepth 65536 in
theorem w_c1 : (Jvm.Cond.code ({ cls := "com/example/lestr/lestr/stream/Varints", name := "put", desc := "([BIJ)I" } : Jvm.MethodName) prog_98_method_3_code (7 : Nat) (Option.some Jvm.ClassFile.FieldType.int)).before args0 about1 = true := code_word (m := ⟨2, 2⟩) (meth := k2m2) (c := k2c2) (by decide +kernel) rfl rfl rfl (by decide +kernel)
set_option maxRecDepth 65536 in
theorem w_c2 : (Jvm.Cond.code ({ cls := "com/example/lestr/lestr/stream/Varints$Reader", name := "<init>", desc := "([BI)V" } : Jvm.MethodName) prog_99_method_1_code (3 : Nat) (Option.none : Option Jvm.ClassFile.FieldType)).before args0 about1 = true := code_word (m := ⟨3, 0⟩) (meth := k3m0) (c := k3c0) (by decide +kernel) rfl rfl rfl (by decide +kernel)
set_option maxRecDepth 65536 in
theorem w_c3 : (Jvm.Cond.code ({ cls := "java/lang/Object", name := "<init>", desc := "()V" } : Jvm.MethodName) object_method_1_code (1 : Nat) (Option.none : Option Jvm.ClassFile.FieldType)).before args0 about1 = true := code_word (m := ⟨0, 0⟩) (meth := k0m0) (c := k0c0) (by decide +kernel) rfl rfl rfl (by decide +kernel)
set_option maxRecDepth 65536 in
theorem w_c4 : (Jvm.Cond.code ({ cls := "com/example/lestr/lestr/stream/Varints$Reader", name := "varint", desc := "()J" } : Jvm.MethodName) prog_99_method_2_code (5 : Nat) (Option.some Jvm.ClassFile.FieldType.long)).before args0 about1 = true := code_word (m := ⟨3, 1⟩) (meth := k3m1) (c := k3c1) (by decide +kernel) rfl rfl rfl (by decide +kernel)
set_option maxRecDepth 65536 in
theorem w_c5 : (Jvm.Cond.code ({ cls := "com/example/lestr/lestr/stream/Varints", name := "size", desc := "(J)I" } : Jvm.MethodName) prog_98_method_2_code (5 : Nat) (Option.some Jvm.ClassFile.FieldType.int)).before args0 about1 = true := code_word (m := ⟨2, 1⟩) (meth := k2m1) (c := k2c1) (by decide +kernel) rfl rfl rfl (by decide +kernel)
def codes1 : List Jvm.Cond := [Jvm.Cond.code x code maxLocals ret, Jvm.Cond.code ({ cls := "com/example/lestr/lestr/stream/Varints", name := "put", desc := "([BIJ)I" } : Jvm.MethodName) prog_98_method_3_code (7 : Nat) (Option.some Jvm.ClassFile.FieldType.int), Jvm.Cond.code ({ cls := "com/example/lestr/lestr/stream/Varints$Reader", name := "<init>", desc := "([BI)V" } : Jvm.MethodName) prog_99_method_1_code (3 : Nat) (Option.none : Option Jvm.ClassFile.FieldType), Jvm.Cond.code ({ cls := "java/lang/Object", name := "<init>", desc := "()V" } : Jvm.MethodName) object_method_1_code (1 : Nat) (Option.none : Option Jvm.ClassFile.FieldType), Jvm.Cond.code ({ cls := "com/example/lestr/lestr/stream/Varints$Reader", name := "varint", desc := "()J" } : Jvm.MethodName) prog_99_method_2_code (5 : Nat) (Option.some Jvm.ClassFile.FieldType.long), Jvm.Cond.code ({ cls := "com/example/lestr/lestr/stream/Varints", name := "size", desc := "(J)I" } : Jvm.MethodName) prog_98_method_2_code (5 : Nat) (Option.some Jvm.ClassFile.FieldType.int)]
set_option maxRecDepth 65536 in
theorem codes_eq : words1.filter isCode = codes1 := rfl
theorem w_codes : ∀ c ∈ words1.filter isCode, c.before args0 about1 = true := by
  rw [codes_eq]
  intro c hc
  simp only [codes1, List.mem_cons, List.not_mem_nil, or_false] at hc
  rcases hc with rfl | rfl | rfl | rfl | rfl | rfl
  · exact w_c0
  · exact w_c1
  · exact w_c2
  · exact w_c3
  · exact w_c4
  · exact w_c5
set_option maxRecDepth 65536 in
theorem w_t1 : (words1.take 24).all (fun c => isCode c || c.before args0 about1) = true := by decide +kernel
set_option maxRecDepth 65536 in
theorem w_t2 : (words1.drop 24).all (fun c => isCode c || c.before args0 about1) = true := by decide +kernel
theorem w_tables : (allAtoms (Jvm.Cond.code x code maxLocals ret :: tables_1)).before args0 about1 = true := by
  rw [allAtoms_all]
  show words1.all (fun c => c.before args0 about1) = true
  refine all_split ?_ w_codes
  rw [← List.take_append_drop 24 words1, List.all_append, w_t1, w_t2]
  rfl
set_option maxRecDepth 65536 in
theorem w_case : (Jvm.Cond.and given_1 narrow_1).before args0 about1 = true := by decide +kernel
theorem w_applies : (headSpec (Jvm.Cond.code x code maxLocals ret :: tables_1) room_1).applies x e0.platform about1 = true :=
  (Spec.applies_iff w_frames).mpr ⟨w_running, w_runnable, w_alone, w_named, w_hears, w_ripe, w_room, w_tables⟩
theorem atStart : AtStart classFile x code maxLocals ret World_1 tables_1 room_1 Calls_1 rest_1 Pre_1 launch0 p0 e0 about1 theMethod args0 below0 :=
  ⟨lists_1, trivial, launch0.admits_env _ _ _, launch0.least_env, fairChoices_fair.cas, fairChoices_fair.clock, w_frames, w_args, w_heap, w_applies, trivial, trivial, w_case⟩
end start1
theorem witness_1 : WitnessClaimed_1 := ⟨start1.p0, start1.e0, start1.about1, start1.theMethod, start1.args0, start1.below0, start1.atStart⟩
end Jvm.Pilot.@@N@@
