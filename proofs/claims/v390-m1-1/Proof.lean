import JvmDerived
import JvmDerived.Pilot.@@N@@Statement
import JvmDerived.Pilot.@@N@@Code
set_option linter.unusedVariables false
set_option linter.unusedSimpArgs false
namespace Jvm.Pilot.@@N@@
open Jvm Jvm.ClassFile Sem Op Lib Jvm.Free Jvm.Stand Jvm.LawKit Jvm.RoadKit Bundle Jvm.Pilot.@@N@@.Jvm.D
/-! own_: a walk in backward style: 'Ends': from here the body comes to its end and Q holds there. One law an instruction, over frames written mkF. -/
namespace Wk
section
variable {p : Program} {l : Launch} {e : Env} {R : Room} {s : State} {m : MethodId} {args : Array Value} {below : List Frame} {meth : Method} {c : Code} {T : State} {locs : List Loc} {cells slots : Nat} {Z : State} {a0 : Array Value} {h : Heap} {y : MethodName} {cd : ByteArray} {ml : Nat} {ret : Option FieldType} {Q : Option Value → Heap → List Loc → Prop} {pc pc' : Nat} {ls : Array Slot} {st : List Value}
/-- the run from T with the frame f comes to the body's end, and Q holds there -/
def Ends (p : Program) (e : Env) (s : State) (below : List Frame) (R : Room) (Q : Option Value → Heap → List Loc → Prop) (T : State) (f : JFrame) : Prop :=
  ∃ s₂ o, Steps p.tables e below (T.setTop f) s₂ ∧ s₂.status = .running ∧ Ended s₂ below o ∧ ∃ v L, o = .returned v ∧ Q v s₂.heap L ∧ FrameEnd s o s₂ L R.cells R.slots
/-- what stands still while one body is walked -/
def K (p : Program) (s : State) (m : MethodId) (meth : Method) (c : Code) (Z : State) (y : MethodName) (cd : ByteArray) (ml : Nat) (ret : Option FieldType) : Prop :=
  p.tables.exec = Jvm.exec ∧ Z.Warmed39 s.vm ∧ c.code = cd ∧ c.maxLocals = ml ∧ s.vm.findClass y.cls = some m.cls ∧ meth.sig.returnType = ret ∧ meth.locks = false ∧ meth.name = y.name
/-- a body's contract: called with as' over the heap h it returns, and Q holds -/
def Met (l : Launch) (y : MethodName) (cd : ByteArray) (ml : Nat) (ret : Option FieldType) (rm : Room) (as' : Array Value) (Z : State) (h : Heap) (Q : Option Value → Heap → List Loc → Prop) (ws : List Jvm.Cond) : Prop :=
  MetFree l y (head1 (Jvm.Cond.code y cd ml ret :: ws) rm) (fun a U => a = as' ∧ Z.Warmed39 U.vm ∧ U.heap = h) (fun _ _ _ _ _ => True) (fun _ U o U' => ∃ v L, o = .returned v ∧ Q v U'.heap L ∧ FrameEnd U o U' L rm.cells rm.slots)
theorem enter {rm : Room} {as' : Array Value} {ws : List Jvm.Cond} (hpl : plainFor y = true)
    (body : ∀ (p : Program) (e : Env) (s : State) (m : MethodId) (below : List Frame) (meth : Method) (c : Code) (T : State), K p s m meth c Z y cd ml ret → Stand p l e rm s m as' below meth c T [] 0 0 → T.heap = h → Ends p e s below rm Q T (entryFrame m as' ml)) :
    Met l y cd ml ret rm as' Z h Q ws := by
  refine MetFree.of_bodySF hpl hisR ?_
  intro p e s m args below meth c s₁ Bd hml0 hP hK
  obtain ⟨rfl, hZ, hh⟩ := hP
  exact body p e s m below meth c s₁ ⟨Bd.exec, hZ, Bd.bytes, hml0, findClass_of_methodNamed Bd.named, Bd.returns, Bd.notSynchronized, (name_of_methodNamed Bd.named Bd.method).1⟩ (Stand.of_body Bd) (by rw [← hh, Bd.state]; rfl)
theorem Ends.map {T' : State} {f f' : JFrame} (st : ∀ target, Steps p.tables e below (T'.setTop f') target → Steps p.tables e below (T.setTop f) target) (h : Ends p e s below R Q T' f') : Ends p e s below R Q T f := by
  obtain ⟨s₂, o, h1, h2⟩ := h
  exact ⟨s₂, o, st _ h1, h2⟩
theorem Ends.cast {f f' : JFrame} (q : f = f') (h : Ends p e s below R Q T f') : Ends p e s below R Q T f := q ▸ h
theorem w {ws : List Jvm.Cond} (hw : ∀ d ∈ ws, d.before a0 Z = true) (i : Nat) {d : Jvm.Cond} (q : ws[i]? = some d) : d.before a0 Z = true := hw d (List.mem_of_getElem? q)
/-! loads, stores, constants -/
theorem iload_n (k : K p s m meth c Z y cd ml ret) (X : Stand p l e R s m args below meth c T locs cells slots) {i : Fin 4} {v : Int32} (hd : decode cd pc = .ok (.iload_n i, 1)) (hl : ls[i.val]? = some (.val (.int v))) (pc' : Nat) (hp : pc + 1 = pc') (h : Ends p e s below R Q T (mkF m pc' ls (.int v :: st))) : Ends p e s below R Q T (mkF m pc ls st) := by
  subst hp; exact h.map fun _ q => XS.iloadN X.here k.1 rfl (hb k.2.2.1 hd) hl q
theorem iload (k : K p s m meth c Z y cd ml ret) (X : Stand p l e R s m args below meth c T locs cells slots) {i : Nat} {v : Int32} (hd : decode cd pc = .ok (.iload i, 2)) (hl : ls[i]? = some (.val (.int v))) (pc' : Nat) (hp : pc + 2 = pc') (h : Ends p e s below R Q T (mkF m pc' ls (.int v :: st))) : Ends p e s below R Q T (mkF m pc ls st) := by
  subst hp; exact h.map fun _ q => XS.iload X.here k.1 rfl (hb k.2.2.1 hd) hl q
theorem lload_n (k : K p s m meth c Z y cd ml ret) (X : Stand p l e R s m args below meth c T locs cells slots) {i : Fin 4} {v : Int64} (hd : decode cd pc = .ok (.lload_n i, 1)) (hl : ls[i.val]? = some (.val (.long v))) (pc' : Nat) (hp : pc + 1 = pc') (h : Ends p e s below R Q T (mkF m pc' ls (.long v :: st))) : Ends p e s below R Q T (mkF m pc ls st) := by
  subst hp; exact h.map fun _ q => XS.lloadN X.here k.1 rfl (hb k.2.2.1 hd) hl q
theorem lload (k : K p s m meth c Z y cd ml ret) (X : Stand p l e R s m args below meth c T locs cells slots) {i : Nat} {v : Int64} (hd : decode cd pc = .ok (.lload i, 2)) (hl : ls[i]? = some (.val (.long v))) (pc' : Nat) (hp : pc + 2 = pc') (h : Ends p e s below R Q T (mkF m pc' ls (.long v :: st))) : Ends p e s below R Q T (mkF m pc ls st) := by
  subst hp; exact h.map fun _ q => XS.lload X.here k.1 rfl (hb k.2.2.1 hd) hl q
theorem aload_n (k : K p s m meth c Z y cd ml ret) (X : Stand p l e R s m args below meth c T locs cells slots) {i : Fin 4} {v : Value} (hd : decode cd pc = .ok (.aload_n i, 1)) (hl : ls[i.val]? = some (.val v)) (hv : v.isRef = true) (pc' : Nat) (hp : pc + 1 = pc') (h : Ends p e s below R Q T (mkF m pc' ls (v :: st))) : Ends p e s below R Q T (mkF m pc ls st) := by
  subst hp; exact h.map fun _ q => XS.aloadN X.here k.1 rfl (hb k.2.2.1 hd) hl hv q
theorem aload (k : K p s m meth c Z y cd ml ret) (X : Stand p l e R s m args below meth c T locs cells slots) {i : Nat} {v : Value} (hd : decode cd pc = .ok (.aload i, 2)) (hl : ls[i]? = some (.val v)) (hv : v.isRef = true) (pc' : Nat) (hp : pc + 2 = pc') (h : Ends p e s below R Q T (mkF m pc' ls (v :: st))) : Ends p e s below R Q T (mkF m pc ls st) := by
  subst hp; exact h.map fun _ q => XS.aload X.here k.1 rfl (hb k.2.2.1 hd) hl hv q
theorem istore_n (k : K p s m meth c Z y cd ml ret) (X : Stand p l e R s m args below meth c T locs cells slots) {i : Fin 4} {v : Int32} (hd : decode cd pc = .ok (.istore_n i, 1)) (ls' : Array Slot) (hl : storeLocals ls i.val (.int v) = some ls') (pc' : Nat) (hp : pc + 1 = pc') (h : Ends p e s below R Q T (mkF m pc' ls' st)) : Ends p e s below R Q T (mkF m pc ls (.int v :: st)) := by
  subst hp; exact h.map fun _ q => XS.istoreN X.here k.1 rfl (hb k.2.2.1 hd) rfl hl q
theorem istore (k : K p s m meth c Z y cd ml ret) (X : Stand p l e R s m args below meth c T locs cells slots) {i : Nat} {v : Int32} (hd : decode cd pc = .ok (.istore i, 2)) (ls' : Array Slot) (hl : storeLocals ls i (.int v) = some ls') (pc' : Nat) (hp : pc + 2 = pc') (h : Ends p e s below R Q T (mkF m pc' ls' st)) : Ends p e s below R Q T (mkF m pc ls (.int v :: st)) := by
  subst hp; exact h.map fun _ q => XS.istore X.here k.1 rfl (hb k.2.2.1 hd) rfl hl q
theorem lstore_n (k : K p s m meth c Z y cd ml ret) (X : Stand p l e R s m args below meth c T locs cells slots) {i : Fin 4} {v : Int64} (hd : decode cd pc = .ok (.lstore_n i, 1)) (ls' : Array Slot) (hl : storeLocals ls i.val (.long v) = some ls') (pc' : Nat) (hp : pc + 1 = pc') (h : Ends p e s below R Q T (mkF m pc' ls' st)) : Ends p e s below R Q T (mkF m pc ls (.long v :: st)) := by
  subst hp; exact h.map fun _ q => XS.lstoreN X.here k.1 rfl (hb k.2.2.1 hd) rfl hl q
theorem lstore (k : K p s m meth c Z y cd ml ret) (X : Stand p l e R s m args below meth c T locs cells slots) {i : Nat} {v : Int64} (hd : decode cd pc = .ok (.lstore i, 2)) (ls' : Array Slot) (hl : storeLocals ls i (.long v) = some ls') (pc' : Nat) (hp : pc + 2 = pc') (h : Ends p e s below R Q T (mkF m pc' ls' st)) : Ends p e s below R Q T (mkF m pc ls (.long v :: st)) := by
  subst hp; exact h.map fun _ q => XS.lstore X.here k.1 rfl (hb k.2.2.1 hd) rfl hl q
theorem astore_n (k : K p s m meth c Z y cd ml ret) (X : Stand p l e R s m args below meth c T locs cells slots) {i : Fin 4} {v : Value} (hd : decode cd pc = .ok (.astore_n i, 1)) (hv : v.isRef = true) (ls' : Array Slot) (hl : storeLocals ls i.val v = some ls') (pc' : Nat) (hp : pc + 1 = pc') (h : Ends p e s below R Q T (mkF m pc' ls' st)) : Ends p e s below R Q T (mkF m pc ls (v :: st)) := by
  subst hp; exact h.map fun _ q => XS.astoreN X.here k.1 rfl (hb k.2.2.1 hd) rfl hv hl q
theorem astore (k : K p s m meth c Z y cd ml ret) (X : Stand p l e R s m args below meth c T locs cells slots) {i : Nat} {v : Value} (hd : decode cd pc = .ok (.astore i, 2)) (hv : v.isRef = true) (ls' : Array Slot) (hl : storeLocals ls i v = some ls') (pc' : Nat) (hp : pc + 2 = pc') (h : Ends p e s below R Q T (mkF m pc' ls' st)) : Ends p e s below R Q T (mkF m pc ls (v :: st)) := by
  subst hp; exact h.map fun _ q => XS.astore X.here k.1 rfl (hb k.2.2.1 hd) rfl hv hl q
theorem iinc (k : K p s m meth c Z y cd ml ret) (X : Stand p l e R s m args below meth c T locs cells slots) {i : Nat} {n : Int} {v : Int32} (hd : decode cd pc = .ok (.iinc i n, 3)) (hl : ls[i]? = some (.val (.int v))) (ls' : Array Slot) (hl' : storeLocals ls i (.int (v + Int32.ofInt n)) = some ls') (pc' : Nat) (hp : pc + 3 = pc') (h : Ends p e s below R Q T (mkF m pc' ls' st)) : Ends p e s below R Q T (mkF m pc ls st) := by
  subst hp; exact h.map fun _ q => XS.iinc X.here k.1 rfl (hb k.2.2.1 hd) hl hl' q
theorem iconst (k : K p s m meth c Z y cd ml ret) (X : Stand p l e R s m args below meth c T locs cells slots) {i : Int} (hd : decode cd pc = .ok (.iconst i, 1)) (z : Int32) (hz : Int32.ofInt i = z) (pc' : Nat) (hp : pc + 1 = pc') (h : Ends p e s below R Q T (mkF m pc' ls (.int z :: st))) : Ends p e s below R Q T (mkF m pc ls st) := by
  subst hp hz; exact h.map fun _ q => XS.iconst X.here k.1 rfl (hb k.2.2.1 hd) q
theorem bipush (k : K p s m meth c Z y cd ml ret) (X : Stand p l e R s m args below meth c T locs cells slots) {i : Int} (hd : decode cd pc = .ok (.bipush i, 2)) (z : Int32) (hz : (Int8.ofInt i).toInt32 = z) (pc' : Nat) (hp : pc + 2 = pc') (h : Ends p e s below R Q T (mkF m pc' ls (.int z :: st))) : Ends p e s below R Q T (mkF m pc ls st) := by
  subst hp hz; exact h.map fun _ q => XS.bipush X.here k.1 rfl (hb k.2.2.1 hd) q
theorem sipush (k : K p s m meth c Z y cd ml ret) (X : Stand p l e R s m args below meth c T locs cells slots) {i : Int} (hd : decode cd pc = .ok (.sipush i, 3)) (z : Int32) (hz : (Int16.ofInt i).toInt32 = z) (pc' : Nat) (hp : pc + 3 = pc') (h : Ends p e s below R Q T (mkF m pc' ls (.int z :: st))) : Ends p e s below R Q T (mkF m pc ls st) := by
  subst hp hz; exact h.map fun _ q => XS.sipush X.here k.1 rfl (hb k.2.2.1 hd) q
theorem lconst (k : K p s m meth c Z y cd ml ret) (X : Stand p l e R s m args below meth c T locs cells slots) {i : Fin 2} (hd : decode cd pc = .ok (.lconst i, 1)) (z : Int64) (hz : Int64.ofNat i = z) (pc' : Nat) (hp : pc + 1 = pc') (h : Ends p e s below R Q T (mkF m pc' ls (.long z :: st))) : Ends p e s below R Q T (mkF m pc ls st) := by
  subst hp hz; exact h.map fun _ q => XS.lconst X.here k.1 rfl (hb k.2.2.1 hd) q
theorem aconst_null (k : K p s m meth c Z y cd ml ret) (X : Stand p l e R s m args below meth c T locs cells slots) (hd : decode cd pc = .ok (.aconst_null, 1)) (pc' : Nat) (hp : pc + 1 = pc') (h : Ends p e s below R Q T (mkF m pc' ls (.null :: st))) : Ends p e s below R Q T (mkF m pc ls st) := by
  subst hp; exact h.map fun _ q => XS.aconstNull X.here k.1 rfl (hb k.2.2.1 hd) q
theorem ldc (k : K p s m meth c Z y cd ml ret) (X : Stand p l e R s m args below meth c T locs cells slots) {i : Nat} {z : Int32} (hd : decode cd pc = .ok (.ldc i, 2)) (hc : (Jvm.Cond.constant y.cls i z).before a0 Z = true) (pc' : Nat) (hp : pc + 2 = pc') (h : Ends p e s below R Q T (mkF m pc' ls (.int z :: st))) : Ends p e s below R Q T (mkF m pc ls st) := by
  subst hp; exact h.map (X.ldcInt k.1 k.2.2.2.2.1 (mvT k.2.1 hc) rfl (hb k.2.2.1 hd))
theorem ldc2_w (k : K p s m meth c Z y cd ml ret) (X : Stand p l e R s m args below meth c T locs cells slots) {i : Nat} {z : Int64} (hd : decode cd pc = .ok (.ldc2_w i, 3)) (hc : (Jvm.Cond.constantLong y.cls i z).before a0 Z = true) (pc' : Nat) (hp : pc + 3 = pc') (h : Ends p e s below R Q T (mkF m pc' ls (.long z :: st))) : Ends p e s below R Q T (mkF m pc ls st) := by
  subst hp; exact h.map (X.ldc2Long k.1 k.2.2.2.2.1 (mvT k.2.1 hc) rfl (hb k.2.2.1 hd))
theorem ldcF (k : K p s m meth c Z y cd ml ret) (X : Stand p l e R s m args below meth c T locs cells slots) {i : Nat} {z : UInt32} (hd : decode cd pc = .ok (.ldc i, 2)) (hc : (Jvm.Cond.constantFloat y.cls i z).before a0 Z = true) (pc' : Nat) (hp : pc + 2 = pc') (h : Ends p e s below R Q T (mkF m pc' ls (.float z :: st))) : Ends p e s below R Q T (mkF m pc ls st) := by
  subst hp; exact h.map (X.ldcFloatC k.1 k.2.2.2.2.1 (mvT k.2.1 hc) rfl (hb k.2.2.1 hd))
/-! arithmetic -/
theorem iadd (k : K p s m meth c Z y cd ml ret) (X : Stand p l e R s m args below meth c T locs cells slots) {a : Int32} {b : Int32} (hd : decode cd pc = .ok (.iadd, 1)) (pc' : Nat) (hp : pc + 1 = pc') (h : Ends p e s below R Q T (mkF m pc' ls (.int (a + b) :: st))) : Ends p e s below R Q T (mkF m pc ls (.int b :: .int a :: st)) := by
  subst hp; exact h.map fun _ q => XS.iadd X.here k.1 rfl (hb k.2.2.1 hd) rfl q
theorem ladd (k : K p s m meth c Z y cd ml ret) (X : Stand p l e R s m args below meth c T locs cells slots) {a : Int64} {b : Int64} (hd : decode cd pc = .ok (.ladd, 1)) (pc' : Nat) (hp : pc + 1 = pc') (h : Ends p e s below R Q T (mkF m pc' ls (.long (a + b) :: st))) : Ends p e s below R Q T (mkF m pc ls (.long b :: .long a :: st)) := by
  subst hp; exact h.map fun _ q => XS.ladd X.here k.1 rfl (hb k.2.2.1 hd) rfl q
theorem isub (k : K p s m meth c Z y cd ml ret) (X : Stand p l e R s m args below meth c T locs cells slots) {a : Int32} {b : Int32} (hd : decode cd pc = .ok (.isub, 1)) (pc' : Nat) (hp : pc + 1 = pc') (h : Ends p e s below R Q T (mkF m pc' ls (.int (a - b) :: st))) : Ends p e s below R Q T (mkF m pc ls (.int b :: .int a :: st)) := by
  subst hp; exact h.map fun _ q => XS.isub X.here k.1 rfl (hb k.2.2.1 hd) rfl q
theorem lsub (k : K p s m meth c Z y cd ml ret) (X : Stand p l e R s m args below meth c T locs cells slots) {a : Int64} {b : Int64} (hd : decode cd pc = .ok (.lsub, 1)) (pc' : Nat) (hp : pc + 1 = pc') (h : Ends p e s below R Q T (mkF m pc' ls (.long (a - b) :: st))) : Ends p e s below R Q T (mkF m pc ls (.long b :: .long a :: st)) := by
  subst hp; exact h.map fun _ q => XS.lsub X.here k.1 rfl (hb k.2.2.1 hd) rfl q
theorem imul (k : K p s m meth c Z y cd ml ret) (X : Stand p l e R s m args below meth c T locs cells slots) {a : Int32} {b : Int32} (hd : decode cd pc = .ok (.imul, 1)) (pc' : Nat) (hp : pc + 1 = pc') (h : Ends p e s below R Q T (mkF m pc' ls (.int (a * b) :: st))) : Ends p e s below R Q T (mkF m pc ls (.int b :: .int a :: st)) := by
  subst hp; exact h.map fun _ q => XS.imul X.here k.1 rfl (hb k.2.2.1 hd) rfl q
theorem lmul (k : K p s m meth c Z y cd ml ret) (X : Stand p l e R s m args below meth c T locs cells slots) {a : Int64} {b : Int64} (hd : decode cd pc = .ok (.lmul, 1)) (pc' : Nat) (hp : pc + 1 = pc') (h : Ends p e s below R Q T (mkF m pc' ls (.long (a * b) :: st))) : Ends p e s below R Q T (mkF m pc ls (.long b :: .long a :: st)) := by
  subst hp; exact h.map fun _ q => XS.lmul X.here k.1 rfl (hb k.2.2.1 hd) rfl q
theorem iand (k : K p s m meth c Z y cd ml ret) (X : Stand p l e R s m args below meth c T locs cells slots) {a : Int32} {b : Int32} (hd : decode cd pc = .ok (.iand, 1)) (pc' : Nat) (hp : pc + 1 = pc') (h : Ends p e s below R Q T (mkF m pc' ls (.int (a &&& b) :: st))) : Ends p e s below R Q T (mkF m pc ls (.int b :: .int a :: st)) := by
  subst hp; exact h.map fun _ q => XS.iand X.here k.1 rfl (hb k.2.2.1 hd) rfl q
theorem land (k : K p s m meth c Z y cd ml ret) (X : Stand p l e R s m args below meth c T locs cells slots) {a : Int64} {b : Int64} (hd : decode cd pc = .ok (.land, 1)) (pc' : Nat) (hp : pc + 1 = pc') (h : Ends p e s below R Q T (mkF m pc' ls (.long (a &&& b) :: st))) : Ends p e s below R Q T (mkF m pc ls (.long b :: .long a :: st)) := by
  subst hp; exact h.map fun _ q => XS.land X.here k.1 rfl (hb k.2.2.1 hd) rfl q
theorem ior (k : K p s m meth c Z y cd ml ret) (X : Stand p l e R s m args below meth c T locs cells slots) {a : Int32} {b : Int32} (hd : decode cd pc = .ok (.ior, 1)) (pc' : Nat) (hp : pc + 1 = pc') (h : Ends p e s below R Q T (mkF m pc' ls (.int (a ||| b) :: st))) : Ends p e s below R Q T (mkF m pc ls (.int b :: .int a :: st)) := by
  subst hp; exact h.map fun _ q => XS.ior X.here k.1 rfl (hb k.2.2.1 hd) rfl q
theorem lor (k : K p s m meth c Z y cd ml ret) (X : Stand p l e R s m args below meth c T locs cells slots) {a : Int64} {b : Int64} (hd : decode cd pc = .ok (.lor, 1)) (pc' : Nat) (hp : pc + 1 = pc') (h : Ends p e s below R Q T (mkF m pc' ls (.long (a ||| b) :: st))) : Ends p e s below R Q T (mkF m pc ls (.long b :: .long a :: st)) := by
  subst hp; exact h.map fun _ q => XS.lor X.here k.1 rfl (hb k.2.2.1 hd) rfl q
theorem ixor (k : K p s m meth c Z y cd ml ret) (X : Stand p l e R s m args below meth c T locs cells slots) {a : Int32} {b : Int32} (hd : decode cd pc = .ok (.ixor, 1)) (pc' : Nat) (hp : pc + 1 = pc') (h : Ends p e s below R Q T (mkF m pc' ls (.int (a ^^^ b) :: st))) : Ends p e s below R Q T (mkF m pc ls (.int b :: .int a :: st)) := by
  subst hp; exact h.map fun _ q => XS.ixor X.here k.1 rfl (hb k.2.2.1 hd) rfl q
theorem lxor (k : K p s m meth c Z y cd ml ret) (X : Stand p l e R s m args below meth c T locs cells slots) {a : Int64} {b : Int64} (hd : decode cd pc = .ok (.lxor, 1)) (pc' : Nat) (hp : pc + 1 = pc') (h : Ends p e s below R Q T (mkF m pc' ls (.long (a ^^^ b) :: st))) : Ends p e s below R Q T (mkF m pc ls (.long b :: .long a :: st)) := by
  subst hp; exact h.map fun _ q => XS.lxor X.here k.1 rfl (hb k.2.2.1 hd) rfl q
theorem idiv (k : K p s m meth c Z y cd ml ret) (X : Stand p l e R s m args below meth c T locs cells slots) {a : Int32} {b : Int32} (hd : decode cd pc = .ok (.idiv, 1)) (hy : b ≠ 0) (pc' : Nat) (hp : pc + 1 = pc') (h : Ends p e s below R Q T (mkF m pc' ls (.int (a / b) :: st))) : Ends p e s below R Q T (mkF m pc ls (.int b :: .int a :: st)) := by
  subst hp; exact h.map fun _ q => XS.idiv X.here k.1 rfl (hb k.2.2.1 hd) rfl hy q
theorem ldiv (k : K p s m meth c Z y cd ml ret) (X : Stand p l e R s m args below meth c T locs cells slots) {a : Int64} {b : Int64} (hd : decode cd pc = .ok (.ldiv, 1)) (hy : b ≠ 0) (pc' : Nat) (hp : pc + 1 = pc') (h : Ends p e s below R Q T (mkF m pc' ls (.long (a / b) :: st))) : Ends p e s below R Q T (mkF m pc ls (.long b :: .long a :: st)) := by
  subst hp; exact h.map fun _ q => XS.ldiv X.here k.1 rfl (hb k.2.2.1 hd) rfl hy q
theorem ishl (k : K p s m meth c Z y cd ml ret) (X : Stand p l e R s m args below meth c T locs cells slots) {a : Int32} {b : Int32} (hd : decode cd pc = .ok (.ishl, 1)) (pc' : Nat) (hp : pc + 1 = pc') (h : Ends p e s below R Q T (mkF m pc' ls (.int (a <<< (b &&& 31)) :: st))) : Ends p e s below R Q T (mkF m pc ls (.int b :: .int a :: st)) := by
  subst hp; exact h.map fun _ q => XS.ishl X.here k.1 rfl (hb k.2.2.1 hd) rfl q
theorem ishr (k : K p s m meth c Z y cd ml ret) (X : Stand p l e R s m args below meth c T locs cells slots) {a : Int32} {b : Int32} (hd : decode cd pc = .ok (.ishr, 1)) (pc' : Nat) (hp : pc + 1 = pc') (h : Ends p e s below R Q T (mkF m pc' ls (.int (a >>> (b &&& 31)) :: st))) : Ends p e s below R Q T (mkF m pc ls (.int b :: .int a :: st)) := by
  subst hp; exact h.map fun _ q => XS.ishr X.here k.1 rfl (hb k.2.2.1 hd) rfl q
theorem iushr (k : K p s m meth c Z y cd ml ret) (X : Stand p l e R s m args below meth c T locs cells slots) {a : Int32} {b : Int32} (hd : decode cd pc = .ok (.iushr, 1)) (pc' : Nat) (hp : pc + 1 = pc') (h : Ends p e s below R Q T (mkF m pc' ls (.int ((a.toUInt32 >>> (b &&& 31).toUInt32).toInt32) :: st))) : Ends p e s below R Q T (mkF m pc ls (.int b :: .int a :: st)) := by
  subst hp; exact h.map fun _ q => XS.iushr X.here k.1 rfl (hb k.2.2.1 hd) rfl q
theorem lshl (k : K p s m meth c Z y cd ml ret) (X : Stand p l e R s m args below meth c T locs cells slots) {a : Int64} {b : Int32} (hd : decode cd pc = .ok (.lshl, 1)) (pc' : Nat) (hp : pc + 1 = pc') (h : Ends p e s below R Q T (mkF m pc' ls (.long (a <<< (b &&& 0x3f).toInt64) :: st))) : Ends p e s below R Q T (mkF m pc ls (.int b :: .long a :: st)) := by
  subst hp; exact h.map fun _ q => XS.lshl X.here k.1 rfl (hb k.2.2.1 hd) rfl q
theorem lshr (k : K p s m meth c Z y cd ml ret) (X : Stand p l e R s m args below meth c T locs cells slots) {a : Int64} {b : Int32} (hd : decode cd pc = .ok (.lshr, 1)) (pc' : Nat) (hp : pc + 1 = pc') (h : Ends p e s below R Q T (mkF m pc' ls (.long (a >>> (b &&& 0x3f).toInt64) :: st))) : Ends p e s below R Q T (mkF m pc ls (.int b :: .long a :: st)) := by
  subst hp; exact h.map fun _ q => XS.lshr X.here k.1 rfl (hb k.2.2.1 hd) rfl q
theorem lushr (k : K p s m meth c Z y cd ml ret) (X : Stand p l e R s m args below meth c T locs cells slots) {a : Int64} {b : Int32} (hd : decode cd pc = .ok (.lushr, 1)) (pc' : Nat) (hp : pc + 1 = pc') (h : Ends p e s below R Q T (mkF m pc' ls (.long ((a.toUInt64 >>> (b &&& 0x3f).toInt64.toUInt64).toInt64) :: st))) : Ends p e s below R Q T (mkF m pc ls (.int b :: .long a :: st)) := by
  subst hp; exact h.map fun _ q => XS.lushr X.here k.1 rfl (hb k.2.2.1 hd) rfl q
theorem irem (k : K p s m meth c Z y cd ml ret) (X : Stand p l e R s m args below meth c T locs cells slots) {a b : Int32} (hd : decode cd pc = .ok (.irem, 1)) (hy : b ≠ 0) (pc' : Nat) (hp : pc + 1 = pc') (h : Ends p e s below R Q T (mkF m pc' ls (.int (a % b) :: st))) : Ends p e s below R Q T (mkF m pc ls (.int b :: .int a :: st)) := by
  subst hp; exact h.map fun _ q => iremM X k.1 rfl (hb k.2.2.1 hd) rfl hy q
theorem ineg (k : K p s m meth c Z y cd ml ret) (X : Stand p l e R s m args below meth c T locs cells slots) {a : Int32} (hd : decode cd pc = .ok (.ineg, 1)) (pc' : Nat) (hp : pc + 1 = pc') (h : Ends p e s below R Q T (mkF m pc' ls (.int (-a) :: st))) : Ends p e s below R Q T (mkF m pc ls (.int a :: st)) := by
  subst hp; exact h.map fun _ q => XS.ineg X.here k.1 rfl (hb k.2.2.1 hd) rfl q
theorem lneg (k : K p s m meth c Z y cd ml ret) (X : Stand p l e R s m args below meth c T locs cells slots) {a : Int64} (hd : decode cd pc = .ok (.lneg, 1)) (pc' : Nat) (hp : pc + 1 = pc') (h : Ends p e s below R Q T (mkF m pc' ls (.long (-a) :: st))) : Ends p e s below R Q T (mkF m pc ls (.long a :: st)) := by
  subst hp; exact h.map fun _ q => XS.lneg X.here k.1 rfl (hb k.2.2.1 hd) rfl q
theorem i2l (k : K p s m meth c Z y cd ml ret) (X : Stand p l e R s m args below meth c T locs cells slots) {a : Int32} (hd : decode cd pc = .ok (.i2l, 1)) (pc' : Nat) (hp : pc + 1 = pc') (h : Ends p e s below R Q T (mkF m pc' ls (.long (a.toInt64) :: st))) : Ends p e s below R Q T (mkF m pc ls (.int a :: st)) := by
  subst hp; exact h.map fun _ q => XS.i2l X.here k.1 rfl (hb k.2.2.1 hd) rfl q
theorem l2i (k : K p s m meth c Z y cd ml ret) (X : Stand p l e R s m args below meth c T locs cells slots) {a : Int64} (hd : decode cd pc = .ok (.l2i, 1)) (pc' : Nat) (hp : pc + 1 = pc') (h : Ends p e s below R Q T (mkF m pc' ls (.int (a.toInt32) :: st))) : Ends p e s below R Q T (mkF m pc ls (.long a :: st)) := by
  subst hp; exact h.map fun _ q => XS.l2i X.here k.1 rfl (hb k.2.2.1 hd) rfl q
theorem i2b (k : K p s m meth c Z y cd ml ret) (X : Stand p l e R s m args below meth c T locs cells slots) {a : Int32} (hd : decode cd pc = .ok (.i2b, 1)) (pc' : Nat) (hp : pc + 1 = pc') (h : Ends p e s below R Q T (mkF m pc' ls (.int (a.toInt8.toInt32) :: st))) : Ends p e s below R Q T (mkF m pc ls (.int a :: st)) := by
  subst hp; exact h.map fun _ q => XS.i2b X.here k.1 rfl (hb k.2.2.1 hd) rfl q
theorem i2s (k : K p s m meth c Z y cd ml ret) (X : Stand p l e R s m args below meth c T locs cells slots) {a : Int32} (hd : decode cd pc = .ok (.i2s, 1)) (pc' : Nat) (hp : pc + 1 = pc') (h : Ends p e s below R Q T (mkF m pc' ls (.int (a.toInt16.toInt32) :: st))) : Ends p e s below R Q T (mkF m pc ls (.int a :: st)) := by
  subst hp; exact h.map fun _ q => XS.i2s X.here k.1 rfl (hb k.2.2.1 hd) rfl q
theorem i2c (k : K p s m meth c Z y cd ml ret) (X : Stand p l e R s m args below meth c T locs cells slots) {a : Int32} (hd : decode cd pc = .ok (.i2c, 1)) (pc' : Nat) (hp : pc + 1 = pc') (h : Ends p e s below R Q T (mkF m pc' ls (.int (a.toUInt32.toUInt16.toUInt32.toInt32) :: st))) : Ends p e s below R Q T (mkF m pc ls (.int a :: st)) := by
  subst hp; exact h.map fun _ q => XS.i2c X.here k.1 rfl (hb k.2.2.1 hd) rfl q
/-! stack, jumps -/
theorem dup (k : K p s m meth c Z y cd ml ret) (X : Stand p l e R s m args below meth c T locs cells slots) {v : Value} (hd : decode cd pc = .ok (.dup, 1)) (hc : v.category = 1) (pc' : Nat) (hp : pc + 1 = pc') (h : Ends p e s below R Q T (mkF m pc' ls (v :: v :: st))) : Ends p e s below R Q T (mkF m pc ls (v :: st)) := by
  subst hp; exact h.map fun _ q => XS.dup X.here k.1 rfl (hb k.2.2.1 hd) rfl hc q
theorem pop (k : K p s m meth c Z y cd ml ret) (X : Stand p l e R s m args below meth c T locs cells slots) {v : Value} (hd : decode cd pc = .ok (.pop, 1)) (hc : v.category = 1) (pc' : Nat) (hp : pc + 1 = pc') (h : Ends p e s below R Q T (mkF m pc' ls st)) : Ends p e s below R Q T (mkF m pc ls (v :: st)) := by
  subst hp; exact h.map fun _ q => XS.pop X.here k.1 rfl (hb k.2.2.1 hd) rfl hc q
theorem dup_x1 (k : K p s m meth c Z y cd ml ret) (X : Stand p l e R s m args below meth c T locs cells slots) {v v' : Value} (hd : decode cd pc = .ok (.dup_x1, 1)) (hc : v.category = 1) (hc' : v'.category = 1) (pc' : Nat) (hp : pc + 1 = pc') (h : Ends p e s below R Q T (mkF m pc' ls (v :: v' :: v :: st))) : Ends p e s below R Q T (mkF m pc ls (v :: v' :: st)) := by
  subst hp; exact h.map fun _ q => XS.dupX1 X.here k.1 rfl (hb k.2.2.1 hd) rfl hc hc' q
theorem dup2 (k : K p s m meth c Z y cd ml ret) (X : Stand p l e R s m args below meth c T locs cells slots) {v v' : Value} (hd : decode cd pc = .ok (.dup2, 1)) (hc : v.category = 1) (hc' : v'.category = 1) (pc' : Nat) (hp : pc + 1 = pc') (h : Ends p e s below R Q T (mkF m pc' ls (v :: v' :: v :: v' :: st))) : Ends p e s below R Q T (mkF m pc ls (v :: v' :: st)) := by
  subst hp; exact h.map fun _ q => Jvm.Free.XT.dup2 X.here k.1 rfl (hb k.2.2.1 hd) rfl hc hc' q
theorem goto (k : K p s m meth c Z y cd ml ret) (X : Stand p l e R s m args below meth c T locs cells slots) {o : Int} (hd : decode cd pc = .ok (.goto o, 3)) (ho : 0 ≤ (pc : Int) + o) (pc' : Nat) (hp : ((pc : Int) + o).toNat = pc') (h : Ends p e s below R Q T (mkF m pc' ls st)) : Ends p e s below R Q T (mkF m pc ls st) := by
  exact h.map fun _ q => XS.goto X.here k.1 rfl rfl (hb k.2.2.1 hd) ho hp q
theorem icmp_lt (k : K p s m meth c Z y cd ml ret) (X : Stand p l e R s m args below meth c T locs cells slots) {a b : Int32} {o : Int} (hd : decode cd pc = .ok (.if_icmp .lt o, 3)) (ho : 0 ≤ (pc : Int) + o) (py pn : Nat) (hy : ((pc : Int) + o).toNat = py) (hn : pc + 3 = pn) (h1 : a < b → Ends p e s below R Q T (mkF m py ls st)) (h2 : ¬ a < b → Ends p e s below R Q T (mkF m pn ls st)) : Ends p e s below R Q T (mkF m pc ls (.int b :: .int a :: st)) := by
  subst hn
  by_cases q : a < b
  · exact (h1 q).map fun _ r => XS.icmpYes X.here k.1 rfl rfl (hb k.2.2.1 hd) rfl (tlt q).1 ho hy r
  · exact (h2 q).map fun _ r => XS.icmpNo X.here k.1 rfl (hb k.2.2.1 hd) rfl (flt q).1 r
theorem if_lt (k : K p s m meth c Z y cd ml ret) (X : Stand p l e R s m args below meth c T locs cells slots) {a : Int32} {o : Int} (hd : decode cd pc = .ok (.ifCond .lt o, 3)) (ho : 0 ≤ (pc : Int) + o) (py pn : Nat) (hy : ((pc : Int) + o).toNat = py) (hn : pc + 3 = pn) (h1 : a < 0 → Ends p e s below R Q T (mkF m py ls st)) (h2 : ¬ a < 0 → Ends p e s below R Q T (mkF m pn ls st)) : Ends p e s below R Q T (mkF m pc ls (.int a :: st)) := by
  subst hn
  by_cases q : a < 0
  · exact (h1 q).map fun _ r => XS.ifYes X.here k.1 rfl rfl (hb k.2.2.1 hd) rfl ((if0 _ _).trans (tlt q).1) ho hy r
  · exact (h2 q).map fun _ r => XS.ifNo X.here k.1 rfl (hb k.2.2.1 hd) rfl ((if0 _ _).trans (flt q).1) r
theorem icmp_ge (k : K p s m meth c Z y cd ml ret) (X : Stand p l e R s m args below meth c T locs cells slots) {a b : Int32} {o : Int} (hd : decode cd pc = .ok (.if_icmp .ge o, 3)) (ho : 0 ≤ (pc : Int) + o) (py pn : Nat) (hy : ((pc : Int) + o).toNat = py) (hn : pc + 3 = pn) (h1 : ¬ a < b → Ends p e s below R Q T (mkF m py ls st)) (h2 : a < b → Ends p e s below R Q T (mkF m pn ls st)) : Ends p e s below R Q T (mkF m pc ls (.int b :: .int a :: st)) := by
  subst hn
  by_cases q : a < b
  · exact (h2 q).map fun _ r => XS.icmpNo X.here k.1 rfl (hb k.2.2.1 hd) rfl (tlt q).2.1 r
  · exact (h1 q).map fun _ r => XS.icmpYes X.here k.1 rfl rfl (hb k.2.2.1 hd) rfl (flt q).2.1 ho hy r
theorem if_ge (k : K p s m meth c Z y cd ml ret) (X : Stand p l e R s m args below meth c T locs cells slots) {a : Int32} {o : Int} (hd : decode cd pc = .ok (.ifCond .ge o, 3)) (ho : 0 ≤ (pc : Int) + o) (py pn : Nat) (hy : ((pc : Int) + o).toNat = py) (hn : pc + 3 = pn) (h1 : ¬ a < 0 → Ends p e s below R Q T (mkF m py ls st)) (h2 : a < 0 → Ends p e s below R Q T (mkF m pn ls st)) : Ends p e s below R Q T (mkF m pc ls (.int a :: st)) := by
  subst hn
  by_cases q : a < 0
  · exact (h2 q).map fun _ r => XS.ifNo X.here k.1 rfl (hb k.2.2.1 hd) rfl ((if0 _ _).trans (tlt q).2.1) r
  · exact (h1 q).map fun _ r => XS.ifYes X.here k.1 rfl rfl (hb k.2.2.1 hd) rfl ((if0 _ _).trans (flt q).2.1) ho hy r
theorem icmp_gt (k : K p s m meth c Z y cd ml ret) (X : Stand p l e R s m args below meth c T locs cells slots) {a b : Int32} {o : Int} (hd : decode cd pc = .ok (.if_icmp .gt o, 3)) (ho : 0 ≤ (pc : Int) + o) (py pn : Nat) (hy : ((pc : Int) + o).toNat = py) (hn : pc + 3 = pn) (h1 : b < a → Ends p e s below R Q T (mkF m py ls st)) (h2 : ¬ b < a → Ends p e s below R Q T (mkF m pn ls st)) : Ends p e s below R Q T (mkF m pc ls (.int b :: .int a :: st)) := by
  subst hn
  by_cases q : b < a
  · exact (h1 q).map fun _ r => XS.icmpYes X.here k.1 rfl rfl (hb k.2.2.1 hd) rfl (tlt q).2.2.1 ho hy r
  · exact (h2 q).map fun _ r => XS.icmpNo X.here k.1 rfl (hb k.2.2.1 hd) rfl (flt q).2.2.1 r
theorem if_gt (k : K p s m meth c Z y cd ml ret) (X : Stand p l e R s m args below meth c T locs cells slots) {a : Int32} {o : Int} (hd : decode cd pc = .ok (.ifCond .gt o, 3)) (ho : 0 ≤ (pc : Int) + o) (py pn : Nat) (hy : ((pc : Int) + o).toNat = py) (hn : pc + 3 = pn) (h1 : 0 < a → Ends p e s below R Q T (mkF m py ls st)) (h2 : ¬ 0 < a → Ends p e s below R Q T (mkF m pn ls st)) : Ends p e s below R Q T (mkF m pc ls (.int a :: st)) := by
  subst hn
  by_cases q : 0 < a
  · exact (h1 q).map fun _ r => XS.ifYes X.here k.1 rfl rfl (hb k.2.2.1 hd) rfl ((if0 _ _).trans (tlt q).2.2.1) ho hy r
  · exact (h2 q).map fun _ r => XS.ifNo X.here k.1 rfl (hb k.2.2.1 hd) rfl ((if0 _ _).trans (flt q).2.2.1) r
theorem icmp_le (k : K p s m meth c Z y cd ml ret) (X : Stand p l e R s m args below meth c T locs cells slots) {a b : Int32} {o : Int} (hd : decode cd pc = .ok (.if_icmp .le o, 3)) (ho : 0 ≤ (pc : Int) + o) (py pn : Nat) (hy : ((pc : Int) + o).toNat = py) (hn : pc + 3 = pn) (h1 : ¬ b < a → Ends p e s below R Q T (mkF m py ls st)) (h2 : b < a → Ends p e s below R Q T (mkF m pn ls st)) : Ends p e s below R Q T (mkF m pc ls (.int b :: .int a :: st)) := by
  subst hn
  by_cases q : b < a
  · exact (h2 q).map fun _ r => XS.icmpNo X.here k.1 rfl (hb k.2.2.1 hd) rfl (tlt q).2.2.2 r
  · exact (h1 q).map fun _ r => XS.icmpYes X.here k.1 rfl rfl (hb k.2.2.1 hd) rfl (flt q).2.2.2 ho hy r
theorem if_le (k : K p s m meth c Z y cd ml ret) (X : Stand p l e R s m args below meth c T locs cells slots) {a : Int32} {o : Int} (hd : decode cd pc = .ok (.ifCond .le o, 3)) (ho : 0 ≤ (pc : Int) + o) (py pn : Nat) (hy : ((pc : Int) + o).toNat = py) (hn : pc + 3 = pn) (h1 : ¬ 0 < a → Ends p e s below R Q T (mkF m py ls st)) (h2 : 0 < a → Ends p e s below R Q T (mkF m pn ls st)) : Ends p e s below R Q T (mkF m pc ls (.int a :: st)) := by
  subst hn
  by_cases q : 0 < a
  · exact (h2 q).map fun _ r => XS.ifNo X.here k.1 rfl (hb k.2.2.1 hd) rfl ((if0 _ _).trans (tlt q).2.2.2) r
  · exact (h1 q).map fun _ r => XS.ifYes X.here k.1 rfl rfl (hb k.2.2.1 hd) rfl ((if0 _ _).trans (flt q).2.2.2) ho hy r
theorem icmp_eq (k : K p s m meth c Z y cd ml ret) (X : Stand p l e R s m args below meth c T locs cells slots) {a b : Int32} {o : Int} (hd : decode cd pc = .ok (.if_icmp .eq o, 3)) (ho : 0 ≤ (pc : Int) + o) (py pn : Nat) (hy : ((pc : Int) + o).toNat = py) (hn : pc + 3 = pn) (h1 : a = b → Ends p e s below R Q T (mkF m py ls st)) (h2 : ¬ a = b → Ends p e s below R Q T (mkF m pn ls st)) : Ends p e s below R Q T (mkF m pc ls (.int b :: .int a :: st)) := by
  subst hn
  by_cases q : a = b
  · exact (h1 q).map fun _ r => XS.icmpYes X.here k.1 rfl rfl (hb k.2.2.1 hd) rfl (teq q).1 ho hy r
  · exact (h2 q).map fun _ r => XS.icmpNo X.here k.1 rfl (hb k.2.2.1 hd) rfl (feq q).1 r
theorem if_eq (k : K p s m meth c Z y cd ml ret) (X : Stand p l e R s m args below meth c T locs cells slots) {a : Int32} {o : Int} (hd : decode cd pc = .ok (.ifCond .eq o, 3)) (ho : 0 ≤ (pc : Int) + o) (py pn : Nat) (hy : ((pc : Int) + o).toNat = py) (hn : pc + 3 = pn) (h1 : a = 0 → Ends p e s below R Q T (mkF m py ls st)) (h2 : ¬ a = 0 → Ends p e s below R Q T (mkF m pn ls st)) : Ends p e s below R Q T (mkF m pc ls (.int a :: st)) := by
  subst hn
  by_cases q : a = 0
  · exact (h1 q).map fun _ r => XS.ifYes X.here k.1 rfl rfl (hb k.2.2.1 hd) rfl ((if0 _ _).trans (teq q).1) ho hy r
  · exact (h2 q).map fun _ r => XS.ifNo X.here k.1 rfl (hb k.2.2.1 hd) rfl ((if0 _ _).trans (feq q).1) r
theorem icmp_ne (k : K p s m meth c Z y cd ml ret) (X : Stand p l e R s m args below meth c T locs cells slots) {a b : Int32} {o : Int} (hd : decode cd pc = .ok (.if_icmp .ne o, 3)) (ho : 0 ≤ (pc : Int) + o) (py pn : Nat) (hy : ((pc : Int) + o).toNat = py) (hn : pc + 3 = pn) (h1 : ¬ a = b → Ends p e s below R Q T (mkF m py ls st)) (h2 : a = b → Ends p e s below R Q T (mkF m pn ls st)) : Ends p e s below R Q T (mkF m pc ls (.int b :: .int a :: st)) := by
  subst hn
  by_cases q : a = b
  · exact (h2 q).map fun _ r => XS.icmpNo X.here k.1 rfl (hb k.2.2.1 hd) rfl (teq q).2 r
  · exact (h1 q).map fun _ r => XS.icmpYes X.here k.1 rfl rfl (hb k.2.2.1 hd) rfl (feq q).2 ho hy r
theorem if_ne (k : K p s m meth c Z y cd ml ret) (X : Stand p l e R s m args below meth c T locs cells slots) {a : Int32} {o : Int} (hd : decode cd pc = .ok (.ifCond .ne o, 3)) (ho : 0 ≤ (pc : Int) + o) (py pn : Nat) (hy : ((pc : Int) + o).toNat = py) (hn : pc + 3 = pn) (h1 : ¬ a = 0 → Ends p e s below R Q T (mkF m py ls st)) (h2 : a = 0 → Ends p e s below R Q T (mkF m pn ls st)) : Ends p e s below R Q T (mkF m pc ls (.int a :: st)) := by
  subst hn
  by_cases q : a = 0
  · exact (h2 q).map fun _ r => XS.ifNo X.here k.1 rfl (hb k.2.2.1 hd) rfl ((if0 _ _).trans (teq q).2) r
  · exact (h1 q).map fun _ r => XS.ifYes X.here k.1 rfl rfl (hb k.2.2.1 hd) rfl ((if0 _ _).trans (feq q).2) ho hy r
theorem lcmp_lt (k : K p s m meth c Z y cd ml ret) (X : Stand p l e R s m args below meth c T locs cells slots) {a b : Int64} {o : Int} (hd0 : decode cd pc = .ok (.lcmp, 1)) (pc1 : Nat) (hp1 : pc + 1 = pc1) (hd : decode cd pc1 = .ok (.ifCond .lt o, 3)) (ho : 0 ≤ (pc1 : Int) + o) (py pn : Nat) (hy : ((pc1 : Int) + o).toNat = py) (hn : pc1 + 3 = pn) (h1 : a < b → Ends p e s below R Q T (mkF m py ls st)) (h2 : ¬ a < b → Ends p e s below R Q T (mkF m pn ls st)) : Ends p e s below R Q T (mkF m pc ls (.long b :: .long a :: st)) := by
  subst hp1
  refine Ends.map (T' := T) (f' := mkF m (pc + 1) ls (.int (lcmpW a b) :: st)) (fun _ q => XS.lcmp X.here k.1 rfl (hb k.2.2.1 hd0) rfl q) ?_
  exact if_lt k X hd ho py pn hy hn (fun q => h1 ((lw_lt a b).mp q)) (fun q => h2 (mt (lw_lt a b).mpr q))
theorem lcmp_ge (k : K p s m meth c Z y cd ml ret) (X : Stand p l e R s m args below meth c T locs cells slots) {a b : Int64} {o : Int} (hd0 : decode cd pc = .ok (.lcmp, 1)) (pc1 : Nat) (hp1 : pc + 1 = pc1) (hd : decode cd pc1 = .ok (.ifCond .ge o, 3)) (ho : 0 ≤ (pc1 : Int) + o) (py pn : Nat) (hy : ((pc1 : Int) + o).toNat = py) (hn : pc1 + 3 = pn) (h1 : ¬ a < b → Ends p e s below R Q T (mkF m py ls st)) (h2 : a < b → Ends p e s below R Q T (mkF m pn ls st)) : Ends p e s below R Q T (mkF m pc ls (.long b :: .long a :: st)) := by
  subst hp1
  refine Ends.map (T' := T) (f' := mkF m (pc + 1) ls (.int (lcmpW a b) :: st)) (fun _ q => XS.lcmp X.here k.1 rfl (hb k.2.2.1 hd0) rfl q) ?_
  exact if_ge k X hd ho py pn hy hn (fun q => h1 (mt (lw_lt a b).mpr q)) (fun q => h2 ((lw_lt a b).mp q))
theorem lcmp_gt (k : K p s m meth c Z y cd ml ret) (X : Stand p l e R s m args below meth c T locs cells slots) {a b : Int64} {o : Int} (hd0 : decode cd pc = .ok (.lcmp, 1)) (pc1 : Nat) (hp1 : pc + 1 = pc1) (hd : decode cd pc1 = .ok (.ifCond .gt o, 3)) (ho : 0 ≤ (pc1 : Int) + o) (py pn : Nat) (hy : ((pc1 : Int) + o).toNat = py) (hn : pc1 + 3 = pn) (h1 : b < a → Ends p e s below R Q T (mkF m py ls st)) (h2 : ¬ b < a → Ends p e s below R Q T (mkF m pn ls st)) : Ends p e s below R Q T (mkF m pc ls (.long b :: .long a :: st)) := by
  subst hp1
  refine Ends.map (T' := T) (f' := mkF m (pc + 1) ls (.int (lcmpW a b) :: st)) (fun _ q => XS.lcmp X.here k.1 rfl (hb k.2.2.1 hd0) rfl q) ?_
  exact if_gt k X hd ho py pn hy hn (fun q => h1 ((lw_gt a b).mp q)) (fun q => h2 (mt (lw_gt a b).mpr q))
theorem lcmp_le (k : K p s m meth c Z y cd ml ret) (X : Stand p l e R s m args below meth c T locs cells slots) {a b : Int64} {o : Int} (hd0 : decode cd pc = .ok (.lcmp, 1)) (pc1 : Nat) (hp1 : pc + 1 = pc1) (hd : decode cd pc1 = .ok (.ifCond .le o, 3)) (ho : 0 ≤ (pc1 : Int) + o) (py pn : Nat) (hy : ((pc1 : Int) + o).toNat = py) (hn : pc1 + 3 = pn) (h1 : ¬ b < a → Ends p e s below R Q T (mkF m py ls st)) (h2 : b < a → Ends p e s below R Q T (mkF m pn ls st)) : Ends p e s below R Q T (mkF m pc ls (.long b :: .long a :: st)) := by
  subst hp1
  refine Ends.map (T' := T) (f' := mkF m (pc + 1) ls (.int (lcmpW a b) :: st)) (fun _ q => XS.lcmp X.here k.1 rfl (hb k.2.2.1 hd0) rfl q) ?_
  exact if_le k X hd ho py pn hy hn (fun q => h1 (mt (lw_gt a b).mpr q)) (fun q => h2 ((lw_gt a b).mp q))
theorem lcmp_eq (k : K p s m meth c Z y cd ml ret) (X : Stand p l e R s m args below meth c T locs cells slots) {a b : Int64} {o : Int} (hd0 : decode cd pc = .ok (.lcmp, 1)) (pc1 : Nat) (hp1 : pc + 1 = pc1) (hd : decode cd pc1 = .ok (.ifCond .eq o, 3)) (ho : 0 ≤ (pc1 : Int) + o) (py pn : Nat) (hy : ((pc1 : Int) + o).toNat = py) (hn : pc1 + 3 = pn) (h1 : a = b → Ends p e s below R Q T (mkF m py ls st)) (h2 : ¬ a = b → Ends p e s below R Q T (mkF m pn ls st)) : Ends p e s below R Q T (mkF m pc ls (.long b :: .long a :: st)) := by
  subst hp1
  refine Ends.map (T' := T) (f' := mkF m (pc + 1) ls (.int (lcmpW a b) :: st)) (fun _ q => XS.lcmp X.here k.1 rfl (hb k.2.2.1 hd0) rfl q) ?_
  exact if_eq k X hd ho py pn hy hn (fun q => h1 ((lw_eq a b).mp q)) (fun q => h2 (mt (lw_eq a b).mpr q))
theorem lcmp_ne (k : K p s m meth c Z y cd ml ret) (X : Stand p l e R s m args below meth c T locs cells slots) {a b : Int64} {o : Int} (hd0 : decode cd pc = .ok (.lcmp, 1)) (pc1 : Nat) (hp1 : pc + 1 = pc1) (hd : decode cd pc1 = .ok (.ifCond .ne o, 3)) (ho : 0 ≤ (pc1 : Int) + o) (py pn : Nat) (hy : ((pc1 : Int) + o).toNat = py) (hn : pc1 + 3 = pn) (h1 : ¬ a = b → Ends p e s below R Q T (mkF m py ls st)) (h2 : a = b → Ends p e s below R Q T (mkF m pn ls st)) : Ends p e s below R Q T (mkF m pc ls (.long b :: .long a :: st)) := by
  subst hp1
  refine Ends.map (T' := T) (f' := mkF m (pc + 1) ls (.int (lcmpW a b) :: st)) (fun _ q => XS.lcmp X.here k.1 rfl (hb k.2.2.1 hd0) rfl q) ?_
  exact if_ne k X hd ho py pn hy hn (fun q => h1 (mt (lw_eq a b).mpr q)) (fun q => h2 ((lw_eq a b).mp q))
/-! references -/
theorem ifnull_y (k : K p s m meth c Z y cd ml ret) (X : Stand p l e R s m args below meth c T locs cells slots) {o : Int} (hd : decode cd pc = .ok (.ifnull o, 3)) (ho : 0 ≤ (pc : Int) + o) (pc' : Nat) (hp : ((pc : Int) + o).toNat = pc') (h : Ends p e s below R Q T (mkF m pc' ls st)) : Ends p e s below R Q T (mkF m pc ls (.null :: st)) := by
  exact h.map fun _ q => XS.ifnullYes X.here k.1 rfl rfl (hb k.2.2.1 hd) rfl ho hp q
theorem ifnull_n (k : K p s m meth c Z y cd ml ret) (X : Stand p l e R s m args below meth c T locs cells slots) {o : Int} {a : Addr} (hd : decode cd pc = .ok (.ifnull o, 3)) (pc' : Nat) (hp : pc + 3 = pc') (h : Ends p e s below R Q T (mkF m pc' ls st)) : Ends p e s below R Q T (mkF m pc ls (.ref a :: st)) := by
  subst hp; exact h.map fun _ q => XS.ifnullNo X.here k.1 rfl (hb k.2.2.1 hd) rfl q
theorem ifnonnull_y (k : K p s m meth c Z y cd ml ret) (X : Stand p l e R s m args below meth c T locs cells slots) {o : Int} {a : Addr} (hd : decode cd pc = .ok (.ifnonnull o, 3)) (ho : 0 ≤ (pc : Int) + o) (pc' : Nat) (hp : ((pc : Int) + o).toNat = pc') (h : Ends p e s below R Q T (mkF m pc' ls st)) : Ends p e s below R Q T (mkF m pc ls (.ref a :: st)) := by
  exact h.map fun _ q => XS.ifnonnullYes X.here k.1 rfl rfl (hb k.2.2.1 hd) rfl ho hp q
theorem ifnonnull_n (k : K p s m meth c Z y cd ml ret) (X : Stand p l e R s m args below meth c T locs cells slots) {o : Int} (hd : decode cd pc = .ok (.ifnonnull o, 3)) (pc' : Nat) (hp : pc + 3 = pc') (h : Ends p e s below R Q T (mkF m pc' ls st)) : Ends p e s below R Q T (mkF m pc ls (.null :: st)) := by
  subst hp; exact h.map fun _ q => XS.ifnonnullNo X.here k.1 rfl (hb k.2.2.1 hd) rfl q
/-! returns -/
theorem ret_int (k : K p s m meth c Z y cd ml ret) (X : Stand p l e R s m args below meth c T locs cells slots) (hret : ret = some .int) {z : Int32} (hd : decode cd pc = .ok (.ireturn, 1)) (hc : cells ≤ R.cells) (hs : slots ≤ R.slots) (h : Q (some (.int z)) T.heap locs) : Ends p e s below R Q T (mkF m pc ls (.int z :: st)) := by
  have hl := k.2.2.2.2.2.2.1
  obtain ⟨fs, hr, hrun, hended, hW, hsame⟩ := X.leave (v := some (.int z)) (fun q => by rw [k.2.2.2.2.2.1, hret] at q; cases q)
  exact ⟨_, _, retOut X k.1 (t := .int) (k.2.2.2.2.2.1.trans hret) rfl (Or.inl ⟨rfl, Or.inl rfl, _, rfl⟩) (hb k.2.2.1 hd) hr, hrun, hended, _, _, rfl, h, ⟨_, rfl⟩, hW, hsame.mono hc hs⟩
theorem ret_bool (k : K p s m meth c Z y cd ml ret) (X : Stand p l e R s m args below meth c T locs cells slots) (hret : ret = some .boolean) {z : Int32} (hd : decode cd pc = .ok (.ireturn, 1)) (hc : cells ≤ R.cells) (hs : slots ≤ R.slots) (hz : z = 0 ∨ z = 1) (h : Q (some (.int z)) T.heap locs) : Ends p e s below R Q T (mkF m pc ls (.int z :: st)) := by
  have hl := k.2.2.2.2.2.2.1
  obtain ⟨fs, hr, hrun, hended, hW, hsame⟩ := X.leave (v := some (.int z)) (fun q => by rw [k.2.2.2.2.2.1, hret] at q; cases q)
  exact ⟨_, _, retOut X k.1 (t := .boolean) (k.2.2.2.2.2.1.trans hret) (by rcases hz with rfl | rfl <;> rfl) (Or.inl ⟨rfl, Or.inr (Or.inl rfl), _, rfl⟩) (hb k.2.2.1 hd) hr, hrun, hended, _, _, rfl, h, ⟨_, rfl⟩, hW, hsame.mono hc hs⟩
theorem ret_long (k : K p s m meth c Z y cd ml ret) (X : Stand p l e R s m args below meth c T locs cells slots) (hret : ret = some .long) {z : Int64} (hd : decode cd pc = .ok (.lreturn, 1)) (hc : cells ≤ R.cells) (hs : slots ≤ R.slots) (h : Q (some (.long z)) T.heap locs) : Ends p e s below R Q T (mkF m pc ls (.long z :: st)) := by
  have hl := k.2.2.2.2.2.2.1
  obtain ⟨fs, hr, hrun, hended, hW, hsame⟩ := X.leave (v := some (.long z)) (fun q => by rw [k.2.2.2.2.2.1, hret] at q; cases q)
  exact ⟨_, _, retOut X k.1 (t := .long) (k.2.2.2.2.2.1.trans hret) rfl (Or.inr (Or.inl ⟨rfl, rfl, _, rfl⟩)) (hb k.2.2.1 hd) hr, hrun, hended, _, _, rfl, h, ⟨_, rfl⟩, hW, hsame.mono hc hs⟩
theorem ret_ref (k : K p s m meth c Z y cd ml ret) (X : Stand p l e R s m args below meth c T locs cells slots) {t : FieldType} (hret : ret = some t) (ht : t.isReference = true) {z : Value} (hz : z.isRef = true) (hn : narrow t z = z) (hd : decode cd pc = .ok (.areturn, 1)) (hc : cells ≤ R.cells) (hs : slots ≤ R.slots) (h : Q (some z) T.heap locs) : Ends p e s below R Q T (mkF m pc ls (z :: st)) := by
  have hl := k.2.2.2.2.2.2.1
  obtain ⟨fs, hr, hrun, hended, hW, hsame⟩ := X.leave (v := some z) (fun q => by rw [k.2.2.2.2.2.1, hret] at q; cases q)
  exact ⟨_, _, retOut X k.1 (t := t) (k.2.2.2.2.2.1.trans hret) hn (Or.inr (Or.inr (Or.inr (Or.inr ⟨rfl, ht, hz⟩)))) (hb k.2.2.1 hd) hr, hrun, hended, _, _, rfl, h, ⟨_, rfl⟩, hW, hsame.mono hc hs⟩
theorem ret_void (k : K p s m meth c Z y cd ml ret) (X : Stand p l e R s m args below meth c T locs cells slots) (hret : ret = none) (hd : decode cd pc = .ok (.return_, 1)) (hc : cells ≤ R.cells) (hs : slots ≤ R.slots) (h : Q none T.heap locs) : Ends p e s below R Q T (mkF m pc ls []) := by
  have hl := k.2.2.2.2.2.2.1
  obtain ⟨fs, hr, hrun, hended, hW, hsame⟩ := X.leave (v := none) (fun _ => rfl)
  exact ⟨_, _, X.returnOut k.1 (k.2.2.2.2.2.1.trans hret) (hb k.2.2.1 hd) hr, hrun, hended, _, _, rfl, h, ⟨_, rfl⟩, hW, hsame.mono hc hs⟩
/-! the heap -/
theorem getfield (k : K p s m meth c Z y cd ml ret) (X : Stand p l e R s m args below meth c T locs cells slots) {R0 O n d host : String} {idx : Nat} {a : Addr} {v : Value} (hd : decode cd pc = .ok (.getfield idx, 3)) (wl : (Jvm.Cond.fieldLink y.cls idx R0 n d).before a0 Z = true ∨ (Jvm.Cond.fieldLinkNest y.cls idx R0 n d host).before a0 Z = true) (via : Via Z R0 O n d) (e0 : T.heap = h) (F : Fld Z h a O n d v) (pc' : Nat) (hp : pc + 3 = pc')
    (g : ∀ T' : State, Stand p l e R s m args below meth c T' locs cells slots → T'.heap = h → Ends p e s below R Q T' (mkF m pc' ls (v :: st))) : Ends p e s below R Q T (mkF m pc ls (.ref a :: st)) := by
  subst hp
  obtain ⟨T', X', e', q⟩ := getF X k.1 k.2.1 k.2.2.2.2.1 wl via e0 F (g := mkF m pc ls (.ref a :: st)) rfl rfl (hb k.2.2.1 hd)
  exact (g T' X' e').map q
theorem getstatic (k : K p s m meth c Z y cd ml ret) (X : Stand p l e R s m args below meth c T locs cells slots) {O n d host : String} {idx : Nat} {v : Value} (hd : decode cd pc = .ok (.getstatic idx, 3)) (wl : (Jvm.Cond.fieldLink y.cls idx O n d).before a0 Z = true ∨ (Jvm.Cond.fieldLinkNest y.cls idx O n d host).before a0 Z = true) (e0 : T.heap = h) (F : Sta Z h O n d v) (pc' : Nat) (hp : pc + 3 = pc')
    (g : ∀ T' : State, Stand p l e R s m args below meth c T' locs cells slots → T'.heap = h → Ends p e s below R Q T' (mkF m pc' ls (v :: st))) : Ends p e s below R Q T (mkF m pc ls st) := by
  subst hp
  obtain ⟨T', X', e', q⟩ := getS2 X k.1 k.2.1 k.2.2.2.2.1 wl Via.refl e0 F (g := mkF m pc ls st) rfl (hb k.2.2.1 hd)
  exact (g T' X' e').map q
theorem putfield (k : K p s m meth c Z y cd ml ret) (X : Stand p l e R s m args below meth c T locs cells slots) {R0 O n d host C : String} {idx kk : Nat} {ty : FieldType} {a : Addr} {v old : Value} (hd : decode cd pc = .ok (.putfield idx, 3)) (wl : (Jvm.Cond.fieldLink y.cls idx R0 n d).before a0 Z = true ∨ (Jvm.Cond.fieldLinkNest y.cls idx R0 n d host).before a0 Z = true) (via : Via Z R0 O n d) (e0 : T.heap = h) (F : Fld Z h a O n d old) (E : Exa Z h a C)
    (L : (Jvm.Cond.lays C O n d).before a0 Z = true ∨ ((Jvm.Cond.laysFinal C O n d).before a0 Z = true ∧ y.cls = O ∧ y.name = "<init>")) (wi : (Jvm.Cond.instantiable C kk).before a0 Z = true) (hty : parseFieldDescriptor d = some ty) (hn : narrow ty v = v) (hf : fits ty v = true) (pc' : Nat) (hp : pc + 3 = pc')
    (g : ∀ (T' : State) (h' : Heap), Stand p l e R s m args below meth c T' (locs ++ [⟨a, Jvm.RoadKit.slotOf Z O n d⟩]) cells slots → T'.heap = h' → Wr h h' a (Jvm.RoadKit.slotOf Z O n d) v → Ends p e s below R Q T' (mkF m pc' ls st)) : Ends p e s below R Q T (mkF m pc ls (v :: .ref a :: st)) := by
  subst hp
  obtain ⟨T', h', X', e', W', q⟩ := putF X k.1 k.2.1 k.2.2.2.2.1 wl via e0 F E (L.imp id fun q => ⟨q.1, q.2.1, k.2.2.2.2.2.2.2.trans q.2.2⟩) wi hty hn hf (g := mkF m pc ls (v :: .ref a :: st)) rfl rfl (hb k.2.2.1 hd)
  exact (g T' h' X' e' W').map q
theorem initObj (k : K p s m meth c Z y cd ml ret) (X : Stand p l e R s m args below meth c T locs cells slots) {idx : Nat} {a : Addr} {W : Nat} (hd : decode cd pc = .ok (.invokespecial idx, 3)) (w1 : (Jvm.Cond.methodLink y.cls idx Lib.objectInit).before a0 Z = true) (w2 : (Jvm.Cond.instanceMethod Lib.objectInit).before a0 Z = true) (w3 : (Jvm.Cond.code Lib.objectInit ⟨#[0xb1]⟩ 1 none).before a0 Z = true) (e0 : T.heap = h) (hsz : ls.size = ml) (hf : 1 ≤ R.frames) (hW : (st.map fun v => v.category).sum + 12 ≤ R.locals) (pc' : Nat) (hp : pc + 3 = pc')
    (g : ∀ T' : State, Stand p l e R s m args below meth c T' locs cells slots → T'.heap = h → Ends p e s below R Q T' (mkF m pc' ls st)) : Ends p e s below R Q T (mkF m pc ls (.ref a :: st)) := by
  subst hp
  obtain ⟨T', X', e', q⟩ := initO X k.1 k.2.1 k.2.2.2.2.1 w1 w2 w3 e0 (g := mkF m pc ls (.ref a :: st)) rfl (hsz.trans k.2.2.2.1.symm) rfl (hb k.2.2.1 hd) hf (W := (st.map fun v => v.category).sum) (by show 2 * 0 + _ ≤ _; rw [Nat.mul_zero, Nat.zero_add]; exact Nat.le_refl _) hW
  exact (g T' X' e').map q
theorem new (k : K p s m meth c Z y cd ml ret) (X : Stand p l e R s m args below meth c T locs cells slots) {C : String} {idx n : Nat} (hd : decode cd pc = .ok (.new idx, 3)) (wl : (Jvm.Cond.classLink y.cls idx C).before a0 Z = true) (wi : (Jvm.Cond.instantiable C n).before a0 Z = true) (wz : (Jvm.Cond.initialized C).before a0 Z = true) (e0 : T.heap = h) (hc : cells + 1 ≤ R.cells) (hs : slots + n ≤ R.slots) (pc' : Nat) (hp : pc + 3 = pc')
    (g : ∀ (T' : State) (h' : Heap) (a : Addr), a = h.size → Stand p l e R s m args below meth c T' locs (cells + 1) (slots + n) → T'.heap = h' → Ext h h' → Exa Z h' a C → (∀ {O nm d : String} {ty : FieldType}, Laid Z a0 C O nm d → parseFieldDescriptor d = some ty → Fld Z h' a O nm d (defaultValue ty)) → Ends p e s below R Q T' (mkF m pc' ls (.ref a :: st))) : Ends p e s below R Q T (mkF m pc ls st) := by
  subst hp
  obtain ⟨T', h', X', e', E', A', D', -, q⟩ := newO X k.1 k.2.1 k.2.2.2.2.1 wl wi wz e0 (g := mkF m pc ls st) rfl (hb k.2.2.1 hd) hc hs
  exact (g T' h' h.size rfl X' e' E' A' D').map q
theorem checkcast (k : K p s m meth c Z y cd ml ret) (X : Stand p l e R s m args below meth c T locs cells slots) {C : String} {idx : Nat} {a : Addr} (hd : decode cd pc = .ok (.checkcast idx, 3)) (wl : (Jvm.Cond.classLink y.cls idx C).before a0 Z = true) (e0 : T.heap = h) (F : Ins Z h a C true) (pc' : Nat) (hp : pc + 3 = pc')
    (g : ∀ T' : State, Stand p l e R s m args below meth c T' locs cells slots → T'.heap = h → Ends p e s below R Q T' (mkF m pc' ls (.ref a :: st))) : Ends p e s below R Q T (mkF m pc ls (.ref a :: st)) := by
  subst hp
  obtain ⟨T', X', e', q⟩ := castY X k.1 k.2.1 k.2.2.2.2.1 wl e0 F (g := mkF m pc ls (.ref a :: st)) rfl rfl (hb k.2.2.1 hd)
  exact (g T' X' e').map q
theorem inst_y (k : K p s m meth c Z y cd ml ret) (X : Stand p l e R s m args below meth c T locs cells slots) {C : String} {idx : Nat} {a : Addr} (hd : decode cd pc = .ok (.instanceof idx, 3)) (wl : (Jvm.Cond.classLink y.cls idx C).before a0 Z = true) (e0 : T.heap = h) (F : Ins Z h a C true) (pc' : Nat) (hp : pc + 3 = pc')
    (g : ∀ T' : State, Stand p l e R s m args below meth c T' locs cells slots → T'.heap = h → Ends p e s below R Q T' (mkF m pc' ls (.int 1 :: st))) : Ends p e s below R Q T (mkF m pc ls (.ref a :: st)) := by
  subst hp
  obtain ⟨T', X', e', q⟩ := instY X k.1 k.2.1 k.2.2.2.2.1 wl e0 F (g := mkF m pc ls (.ref a :: st)) rfl rfl (hb k.2.2.1 hd)
  exact (g T' X' e').map q
theorem acmp_same (k : K p s m meth c Z y cd ml ret) (X : Stand p l e R s m args below meth c T locs cells slots) {cnd : ACond} {o : Int} {a : Addr} (hd : decode cd pc = .ok (.if_acmp cnd o, 3)) (ho : 0 ≤ (pc : Int) + o) (pc' : Nat) (hp : pc' = if acV cnd true = true then ((pc : Int) + o).toNat else pc + 3) (h : Ends p e s below R Q T (mkF m pc' ls st)) : Ends p e s below R Q T (mkF m pc ls (.ref a :: .ref a :: st)) := by
  exact h.map fun _ q => Jvm.RoadKit.acmp (g := mkF m pc ls (.ref a :: .ref a :: st)) X k.1 rfl rfl rfl rfl (hb k.2.2.1 hd) rfl (decide_eq_true rfl) ho hp q
theorem acmp_diff (k : K p s m meth c Z y cd ml ret) (X : Stand p l e R s m args below meth c T locs cells slots) {cnd : ACond} {o : Int} {a : Addr} {v : Value} (hd : decode cd pc = .ok (.if_acmp cnd o, 3)) (hv : v.isRef = true) (hne : Value.ref a ≠ v) (ho : 0 ≤ (pc : Int) + o) (pc' : Nat) (hp : pc' = if acV cnd false = true then ((pc : Int) + o).toNat else pc + 3) (h : Ends p e s below R Q T (mkF m pc' ls st)) : Ends p e s below R Q T (mkF m pc ls (v :: .ref a :: st)) := by
  exact h.map fun _ q => Jvm.RoadKit.acmp (g := mkF m pc ls (v :: .ref a :: st)) X k.1 rfl rfl hv rfl (hb k.2.2.1 hd) rfl (decide_eq_false hne) ho hp q
theorem inst_null (k : K p s m meth c Z y cd ml ret) (X : Stand p l e R s m args below meth c T locs cells slots) {idx : Nat} (hd : decode cd pc = .ok (.instanceof idx, 3)) (pc' : Nat) (hp : pc + 3 = pc') (h : Ends p e s below R Q T (mkF m pc' ls (.int 0 :: st))) : Ends p e s below R Q T (mkF m pc ls (.null :: st)) := by
  subst hp; exact h.map fun _ q => X.instanceofNull k.1 (g := mkF m pc ls (.null :: st)) rfl rfl (hb k.2.2.1 hd) _ q
theorem inst_n (k : K p s m meth c Z y cd ml ret) (X : Stand p l e R s m args below meth c T locs cells slots) {C : String} {idx : Nat} {a : Addr} (hd : decode cd pc = .ok (.instanceof idx, 3)) (wl : (Jvm.Cond.classLink y.cls idx C).before a0 Z = true) (e0 : T.heap = h) (F : Ins Z h a C false) {C' : String} (E : Exa Z h a C') (pc' : Nat) (hp : pc + 3 = pc')
    (g : ∀ T' : State, Stand p l e R s m args below meth c T' locs cells slots → T'.heap = h → Ends p e s below R Q T' (mkF m pc' ls (.int 0 :: st))) : Ends p e s below R Q T (mkF m pc ls (.ref a :: st)) := by
  subst hp
  obtain ⟨cell, cT, h1, h2, h3⟩ := F
  obtain ⟨cell', kc, e1, -, e3, e4, -⟩ := E
  cases h1.symm.trans e1
  obtain ⟨k', q, -⟩ := k.2.1.alike.2.2 _ _ e3
  obtain ⟨vm', X', st'⟩ := Jvm.Sym.instanceofNoAt X k.1 k.2.2.2.2.1 (mvT k.2.1 wl) (by rw [e0]; exact h1) e4 q (by rw [k.2.1.alike.findClass]; exact h2) (by rw [k.2.1.alike.assignable]; simpa [e4] using h3) (g := mkF m pc ls (.ref a :: st)) rfl rfl (hb k.2.2.1 hd)
  exact (g _ X' e0).map st'
end
/-! arrays: the list of what they hold -/
def Arl (Z : State) (h : Heap) (a : Addr) (ty : FieldType) (vs : List Value) : Prop := ∃ c : Cell, Arr Z h a c ty ∧ c.slots.toList = vs ∧ vs.length < 2147483648
section
variable {Z : State} {h h' : Heap} {a b : Addr} {ty : FieldType} {vs : List Value} {sl : Nat} {v : Value} {ws : List Addr}
theorem Arl.lt (F : Arl Z h a ty vs) : a < h.size := by obtain ⟨c, A, -⟩ := F; exact A.lt
theorem Arl.ext (F : Arl Z h a ty vs) (E : Ext h h') : Arl Z h' a ty vs := by obtain ⟨c, A, r⟩ := F; exact ⟨c, A.ext E, r⟩
theorem Arl.other (F : Arl Z h b ty vs) (W : Wr h h' a sl v) (q : b ≠ a) : Arl Z h' b ty vs := by obtain ⟨c, A, r⟩ := F; exact ⟨c, A.other W q, r⟩
theorem Arl.keep (F : Arl Z h a ty vs) (K : Keep h h' ws) (q : a ∉ ws) : Arl Z h' a ty vs := by obtain ⟨c, A, r⟩ := F; exact ⟨c, ⟨K.2.1 a c A.1 q, A.2⟩, r⟩
theorem Arl.same (F : Arl Z h a ty vs) (W : Wr h h' a sl v) : Arl Z h' a ty (vs.set sl v) := by
  obtain ⟨c, A, rfl, hl⟩ := F
  refine ⟨c.setSlot sl v, A.same W, ?_, by rw [List.length_set]; exact hl⟩
  simp [Cell.setSlot]
theorem tnc {j : Int32} {i : Nat} (hj : j.toInt = i) : j.toNatClampNeg = i := by simp only [Int32.toNatClampNeg, hj]; rfl
theorem inb {j : Int32} {i n : Nat} (hj : j.toInt = i) (hi : i < n) : ¬ (j < 0 ∨ n ≤ j.toNatClampNeg) := by
  rw [tnc hj]; intro q
  rcases q with q | q
  · rw [Int32.lt_iff_toInt_lt] at q; have e0 : (0 : Int32).toInt = 0 := rfl; omega
  · omega
theorem lt_of_get {xs : List Int32} {i : Nat} {x : Int32} (q : xs[i]? = some x) : i < xs.length := (List.getElem?_eq_some_iff.mp q).1
end
section
variable {p : Program} {l : Launch} {e : Env} {R : Room} {s : State} {m : MethodId} {args : Array Value} {below : List Frame} {meth : Method} {c : Code} {T : State} {locs : List Loc} {cells slots : Nat} {Z : State} {a0 : Array Value} {h : Heap} {y : MethodName} {cd : ByteArray} {ml : Nat} {ret : Option FieldType} {Q : Option Value → Heap → List Loc → Prop} {pc pc' : Nat} {ls : Array Slot} {st : List Value}
theorem arraylength (k : K p s m meth c Z y cd ml ret) (X : Stand p l e R s m args below meth c T locs cells slots) {ty : FieldType} {vs : List Value} {a : Addr} (hd : decode cd pc = .ok (.arraylength, 1)) (e0 : T.heap = h) (A : Arl Z h a ty vs) (n : Int32) (hn : n.toInt = vs.length) (pc' : Nat) (hp : pc + 1 = pc') (g : Ends p e s below R Q T (mkF m pc' ls (.int n :: st))) : Ends p e s below R Q T (mkF m pc ls (.ref a :: st)) := by
  subst hp
  obtain ⟨cl, Ar, rfl, hl⟩ := A
  have q : cl.slots.size.toInt32 = n := by
    apply Int32.toInt_inj.mp
    rw [len_toInt (by simpa using hl), hn]; simp
  refine g.map fun _ r => X.arraylength k.1 (by rw [e0]; exact Ar.1) (State.isArrayOf_alike k.2.1.alike Ar.2.1) (g := mkF m pc ls (.ref a :: st)) rfl rfl (hb k.2.2.1 hd) _ ?_
  rw [q]; exact r
theorem iaload (k : K p s m meth c Z y cd ml ret) (X : Stand p l e R s m args below meth c T locs cells slots) {xs : List Int32} {a : Addr} {j : Int32} (hd : decode cd pc = .ok (.iaload, 1)) (e0 : T.heap = h) (A : Arl Z h a .int (xs.map .int)) (i : Nat) (hj : j.toInt = i) (x : Int32) (hx : xs[i]? = some x) (pc' : Nat) (hp : pc + 1 = pc') (g : Ends p e s below R Q T (mkF m pc' ls (.int x :: st))) : Ends p e s below R Q T (mkF m pc ls (.int j :: .ref a :: st)) := by
  subst hp
  obtain ⟨cl, Ar, hs, hl⟩ := A
  have hz : cl.slots.size = xs.length := by rw [← Array.length_toList, hs, List.length_map]
  refine g.map fun _ r => X.iaload k.1 (j := j) (v := .int x) (by rw [e0]; exact Ar.1) (State.isArrayOf_alike k.2.1.alike Ar.2.1) Ar.2.2 (inb hj (hz ▸ lt_of_get hx)) ?_ (g := mkF m pc ls (.int j :: .ref a :: st)) rfl rfl (hb k.2.2.1 hd) _ r
  rw [tnc hj, ← Array.getElem?_toList, hs, List.getElem?_map, hx]; rfl
theorem baload (k : K p s m meth c Z y cd ml ret) (X : Stand p l e R s m args below meth c T locs cells slots) {xs : List Int32} {a : Addr} {j : Int32} (hd : decode cd pc = .ok (.baload, 1)) (e0 : T.heap = h) (A : Arl Z h a .byte (xs.map .int)) (i : Nat) (hj : j.toInt = i) (x : Int32) (hx : xs[i]? = some x) (pc' : Nat) (hp : pc + 1 = pc') (g : Ends p e s below R Q T (mkF m pc' ls (.int x :: st))) : Ends p e s below R Q T (mkF m pc ls (.int j :: .ref a :: st)) := by
  subst hp
  obtain ⟨cl, Ar, hs, hl⟩ := A
  have hz : cl.slots.size = xs.length := by rw [← Array.length_toList, hs, List.length_map]
  refine g.map fun _ r => X.baloadBytes k.1 (j := j) (v := .int x) (by rw [e0]; exact Ar.1) (State.isArrayOf_alike k.2.1.alike Ar.2.1) Ar.2.2 (inb hj (hz ▸ lt_of_get hx)) ?_ (g := mkF m pc ls (.int j :: .ref a :: st)) rfl rfl (hb k.2.2.1 hd) _ r
  rw [tnc hj, ← Array.getElem?_toList, hs, List.getElem?_map, hx]; rfl
theorem iastore (k : K p s m meth c Z y cd ml ret) (X : Stand p l e R s m args below meth c T locs cells slots) {xs : List Int32} {a : Addr} {j x : Int32} (hd : decode cd pc = .ok (.iastore, 1)) (e0 : T.heap = h) (A : Arl Z h a .int (xs.map .int)) (i : Nat) (hj : j.toInt = i) (hi : i < xs.length) (pc' : Nat) (hp : pc + 1 = pc')
    (g : ∀ (T' : State) (h' : Heap), Stand p l e R s m args below meth c T' (locs ++ [⟨a, i⟩]) cells slots → T'.heap = h' → Wr h h' a i (.int x) → Arl Z h' a .int ((xs.set i x).map .int) → Ends p e s below R Q T' (mkF m pc' ls st)) : Ends p e s below R Q T (mkF m pc ls (.int x :: .int j :: .ref a :: st)) := by
  subst hp
  have A' := A
  obtain ⟨cl, Ar, hs, hl⟩ := A
  have hz : cl.slots.size = xs.length := by rw [← Array.length_toList, hs, List.length_map]
  obtain ⟨T', h', X', e', W', q⟩ := stI X k.1 k.2.1 e0 Ar (j := j) (x := x) (inb hj (hz ▸ hi)) (g := mkF m pc ls (.int x :: .int j :: .ref a :: st)) rfl rfl (hb k.2.2.1 hd)
  rw [tnc hj] at X' W'
  exact (g T' h' X' e' W' (by rw [List.map_set]; exact A'.same W')).map q
theorem bastore (k : K p s m meth c Z y cd ml ret) (X : Stand p l e R s m args below meth c T locs cells slots) {xs : List Int32} {a : Addr} {j x : Int32} (hd : decode cd pc = .ok (.bastore, 1)) (e0 : T.heap = h) (A : Arl Z h a .byte (xs.map .int)) (i : Nat) (hj : j.toInt = i) (hi : i < xs.length) (x' : Int32) (hx' : x.toInt8.toInt32 = x') (pc' : Nat) (hp : pc + 1 = pc')
    (g : ∀ (T' : State) (h' : Heap), Stand p l e R s m args below meth c T' (locs ++ [⟨a, i⟩]) cells slots → T'.heap = h' → Wr h h' a i (.int x') → Arl Z h' a .byte ((xs.set i x').map .int) → Ends p e s below R Q T' (mkF m pc' ls st)) : Ends p e s below R Q T (mkF m pc ls (.int x :: .int j :: .ref a :: st)) := by
  subst hp hx'
  have A' := A
  obtain ⟨cl, Ar, hs, hl⟩ := A
  have hz : cl.slots.size = xs.length := by rw [← Array.length_toList, hs, List.length_map]
  obtain ⟨T', h', X', e', W', q⟩ := stB X k.1 k.2.1 e0 Ar (j := j) (x := x) (inb hj (hz ▸ hi)) (g := mkF m pc ls (.int x :: .int j :: .ref a :: st)) rfl rfl (hb k.2.2.1 hd)
  rw [tnc hj] at X' W'
  exact (g T' h' X' e' W' (by rw [List.map_set]; exact A'.same W')).map q
theorem newarray (k : K p s m meth c Z y cd ml ret) (X : Stand p l e R s m args below meth c T locs cells slots) {aty : ArrayType} {n : Int32} (hd : decode cd pc = .ok (.newarray aty, 2)) (wa : (Jvm.Cond.arrayClass (newarray.typeOf aty)).before a0 Z = true) (e0 : T.heap = h) (i : Nat) (hn : n.toInt = i) (cap : Nat) (hcap : i ≤ cap) (hb8 : cap * 8 ≤ 536870912) (hc : cells + 1 ≤ R.cells) (hs : slots + cap ≤ R.slots) (pc' : Nat) (hp : pc + 2 = pc')
    (g : ∀ (T' : State) (h' : Heap) (a : Addr), a = h.size → Stand p l e R s m args below meth c T' locs (cells + 1) (slots + cap) → T'.heap = h' → Ext h h' → Arl Z h' a (newarray.typeOf aty) (List.replicate i (defaultValue (newarray.typeOf aty))) → Ends p e s below R Q T' (mkF m pc' ls (.ref a :: st))) : Ends p e s below R Q T (mkF m pc ls (.int n :: st)) := by
  subst hp
  have h0 : ¬ n < 0 := by rw [Int32.lt_iff_toInt_lt]; have e0 : (0 : Int32).toInt = 0 := rfl; omega
  obtain ⟨T', h', cA, X', e', E', A', q⟩ := newP X k.1 k.2.1 wa e0 (g := mkF m pc ls (.int n :: st)) rfl (hb k.2.2.1 hd) rfl h0 (cap := cap) (by rw [tnc hn]; exact hcap) hb8 hc hs
  refine (g T' h' h.size rfl X' e' E' ⟨_, A', ?_, ?_⟩).map q
  · simp [newA, tnc hn]
  · rw [List.length_replicate]; omega
/-! calls, by the callee's contract -/
theorem callS (k : K p s m meth c Z y cd ml ret) (X : Stand p l e R s m args below meth c T locs cells slots) {y' : MethodName} {cd' : ByteArray} {ml' : Nat} {ret' : Option FieldType} {rm' : Room} {Qc : Option Value → Heap → List Loc → Prop} {idx : Nat} {ps : List FieldType} {rt : Option FieldType} (as : List Value) (rest : List Value) (hd : decode cd pc = .ok (.invokestatic idx, 3)) (M : Met l y' cd' ml' ret' rm' as.toArray Z h Qc []) (e0 : T.heap = h)
    (w1 : (Jvm.Cond.methodLink y.cls idx y').before a0 Z = true) (w2 : (Jvm.Cond.static y').before a0 Z = true) (w3 : (Jvm.Cond.initialized y'.cls).before a0 Z = true) (w4 : (Jvm.Cond.code y' cd' ml' ret').before a0 Z = true) (hy : y'.cls ≠ "java/lang/invoke/MethodHandle" ∧ y'.cls ≠ "java/lang/invoke/VarHandle") (hsz : ls.size = ml) (hlen : parseMethodDescriptor y'.desc = some ⟨ps, rt⟩) (hl2 : as.length = ps.length) (hst : st = as.reverse ++ rest)
    (hf : rm'.frames + 1 ≤ R.frames) (hlo : (rest.map fun v => v.category).sum + (ml' + 11) + rm'.locals ≤ R.locals) (hc : cells + rm'.cells ≤ R.cells) (hs : slots + rm'.slots ≤ R.slots) (pc' : Nat) (hp : pc + 3 = pc')
    (g : ∀ (T' : State) (v : Option Value) (L : List Loc), Stand p l e R s m args below meth c T' (locs ++ L) (cells + rm'.cells) (slots + rm'.slots) → Qc v T'.heap L → Ends p e s below R Q T' (mkF m pc' ls (v.toList ++ rest))) : Ends p e s below R Q T (mkF m pc ls st) := by
  subst hp hst
  obtain ⟨v, _, ⟨T', L', c', n'⟩, -, X', ⟨Lc, hQ, q1, q2, q3⟩, q⟩ := Jvm.LawKit.callS X k.1 (y := y') k.2.2.2.2.1 (mvT k.2.1 w1) (mvT k.2.1 w2) (mvT k.2.1 w3) (mvT k.2.1 w4) hy (backOf (W := (rest.map fun v => v.category).sum) M k.2.1 w4 w3 hf hlo) (g := mkF m pc ls (as.reverse ++ rest)) rfl (hsz.trans k.2.2.2.1.symm) (argsL := as) (rest := rest) (lenOf hlen hl2) rfl (by show 2 * 0 + _ ≤ _; rw [Nat.mul_zero, Nat.zero_add]; exact Nat.le_refl _) (hb k.2.2.1 hd) (fun _ _ => ⟨rfl, e0, hc, hs⟩)
  dsimp only [Pt.U, Pt.locs, Pt.cells, Pt.slots] at X' q1 q2 q3 q hQ
  subst q1 q2 q3
  exact (g T' v Lc X' hQ).map q
theorem callI (k : K p s m meth c Z y cd ml ret) (X : Stand p l e R s m args below meth c T locs cells slots) {y' : MethodName} {cd' : ByteArray} {ml' : Nat} {rm' : Room} {Qc : Option Value → Heap → List Loc → Prop} {idx : Nat} {ps : List FieldType} {rt : Option FieldType} {a : Addr} (as : List Value) (rest : List Value) (hd : decode cd pc = .ok (.invokespecial idx, 3)) (M : Met l y' cd' ml' none rm' (.ref a :: as).toArray Z h Qc []) (e0 : T.heap = h) (hin : y'.name = "<init>")
    (w1 : (Jvm.Cond.methodLink y.cls idx y').before a0 Z = true) (w2 : (Jvm.Cond.instanceMethod y').before a0 Z = true) (w3 : (Jvm.Cond.initialized y'.cls).before a0 Z = true) (w4 : (Jvm.Cond.code y' cd' ml' none).before a0 Z = true) (hy : y'.cls ≠ "java/lang/invoke/MethodHandle" ∧ y'.cls ≠ "java/lang/invoke/VarHandle") (hsz : ls.size = ml) (hlen : parseMethodDescriptor y'.desc = some ⟨ps, rt⟩) (hl2 : as.length = ps.length) (hst : st = as.reverse ++ .ref a :: rest)
    (hf : rm'.frames + 1 ≤ R.frames) (hlo : (rest.map fun v => v.category).sum + (ml' + 11) + rm'.locals ≤ R.locals) (hc : cells + rm'.cells ≤ R.cells) (hs : slots + rm'.slots ≤ R.slots) (pc' : Nat) (hp : pc + 3 = pc')
    (g : ∀ (T' : State) (v : Option Value) (L : List Loc), Stand p l e R s m args below meth c T' (locs ++ L) (cells + rm'.cells) (slots + rm'.slots) → Qc v T'.heap L → Ends p e s below R Q T' (mkF m pc' ls (v.toList ++ rest))) : Ends p e s below R Q T (mkF m pc ls st) := by
  subst hp hst
  obtain ⟨v, _, ⟨T', L', c', n'⟩, -, X', ⟨Lc, hQ, q1, q2, q3⟩, q⟩ := X.specialBack k.1 (y := y') hin k.2.2.2.2.1 (mvT k.2.1 w1) (mvT k.2.1 w2) (mvT k.2.1 w4) hy (backOf (W := (rest.map fun v => v.category).sum) M k.2.1 w4 w3 hf hlo) (g := mkF m pc ls (as.reverse ++ .ref a :: rest)) rfl (hsz.trans k.2.2.2.1.symm) (Steps.refl _) (a := a) (argsL := as) (rest := rest) (lenOf hlen hl2) rfl (by show 2 * 0 + _ ≤ _; rw [Nat.mul_zero, Nat.zero_add]; exact Nat.le_refl _) (hb k.2.2.1 hd) (fun _ _ => ⟨rfl, e0, hc, hs⟩)
  dsimp only [Pt.U, Pt.locs, Pt.cells, Pt.slots] at X' q1 q2 q3 q hQ
  subst q1 q2 q3
  exact (g T' v Lc X' hQ).map fun _ r => q.trans r
theorem callV (k : K p s m meth c Z y cd ml ret) (X : Stand p l e R s m args below meth c T locs cells slots) {y' : MethodName} {cd' : ByteArray} {ml' : Nat} {ret' : Option FieldType} {rm' : Room} {Qc : Option Value → Heap → List Loc → Prop} {idx : Nat} {ps : List FieldType} {rt : Option FieldType} {a : Addr} (as : List Value) (rest : List Value) (hd : decode cd pc = .ok (.invokevirtual idx, 3)) (M : Met l y' cd' ml' ret' rm' (.ref a :: as).toArray Z h Qc []) (e0 : T.heap = h) (E : Exa Z h a y'.cls)
    (w1 : (Jvm.Cond.methodLink y.cls idx y').before a0 Z = true) (w0 : (Jvm.Cond.declares y').before a0 Z = true) (ws : (Jvm.Cond.selects y'.cls y' y').before a0 Z = true) (w2 : (Jvm.Cond.instanceMethod y').before a0 Z = true) (w3 : (Jvm.Cond.initialized y'.cls).before a0 Z = true) (w4 : (Jvm.Cond.code y' cd' ml' ret').before a0 Z = true) (hy : y'.cls ≠ "java/lang/invoke/MethodHandle" ∧ y'.cls ≠ "java/lang/invoke/VarHandle") (hsz : ls.size = ml) (hlen : parseMethodDescriptor y'.desc = some ⟨ps, rt⟩) (hl2 : as.length = ps.length) (hst : st = as.reverse ++ .ref a :: rest)
    (hf : rm'.frames + 1 ≤ R.frames) (hlo : (rest.map fun v => v.category).sum + (ml' + 11) + rm'.locals ≤ R.locals) (hc : cells + rm'.cells ≤ R.cells) (hs : slots + rm'.slots ≤ R.slots) (pc' : Nat) (hp : pc + 3 = pc')
    (g : ∀ (T' : State) (v : Option Value) (L : List Loc), Stand p l e R s m args below meth c T' (locs ++ L) (cells + rm'.cells) (slots + rm'.slots) → Qc v T'.heap L → Ends p e s below R Q T' (mkF m pc' ls (v.toList ++ rest))) : Ends p e s below R Q T (mkF m pc ls st) := by
  subst hp hst
  obtain ⟨cq, kq, qa, qb, qc⟩ := isOf k.2.1 e0 E
  obtain ⟨v, _, ⟨T', L', c', n'⟩, -, X', ⟨Lc, hQ, q1, q2, q3⟩, q⟩ := X.virtualBack k.1 (y := y') (z := y') k.2.2.2.2.1 (mvT k.2.1 w1) (mvT k.2.1 w0) (notFace_of_selects (args := #[]) (mvT k.2.1 ws)) (mvT k.2.1 ws) (mvT k.2.1 w2) hy (backOf (W := (rest.map fun v => v.category).sum) M k.2.1 w4 w3 hf hlo) qa qc (g := mkF m pc ls (as.reverse ++ .ref a :: rest)) rfl (hsz.trans k.2.2.2.1.symm) (Steps.refl _) (argsL := as) (rest := rest) (lenOf hlen hl2) rfl (by show 2 * 0 + _ ≤ _; rw [Nat.mul_zero, Nat.zero_add]; exact Nat.le_refl _) (hb k.2.2.1 hd) (fun _ _ => ⟨rfl, e0, hc, hs⟩)
  dsimp only [Pt.U, Pt.locs, Pt.cells, Pt.slots] at X' q1 q2 q3 q hQ
  subst q1 q2 q3
  exact (g T' v Lc X' hQ).map fun _ r => q.trans r
theorem callP (k : K p s m meth c Z y cd ml ret) (X : Stand p l e R s m args below meth c T locs cells slots) {y' : MethodName} {cd' : ByteArray} {ml' : Nat} {ret' : Option FieldType} {rm' : Room} {Qc : Option Value → Heap → List Loc → Prop} {idx : Nat} {ps : List FieldType} {rt : Option FieldType} {a : Addr} {C : String} {ni : Nat} (as : List Value) (rest : List Value) (hd : decode cd pc = .ok (.invokevirtual idx, 3)) (M : Met l y' cd' ml' ret' rm' (.ref a :: as).toArray Z h Qc []) (e0 : T.heap = h) (E : Exa Z h a C)
    (w1 : (Jvm.Cond.methodLink y.cls idx y').before a0 Z = true) (w0 : (Jvm.Cond.privateMethod y').before a0 Z = true) (wi : (Jvm.Cond.instantiable y'.cls ni).before a0 Z = true) (w2 : (Jvm.Cond.instanceMethod y').before a0 Z = true) (w3 : (Jvm.Cond.initialized y'.cls).before a0 Z = true) (w4 : (Jvm.Cond.code y' cd' ml' ret').before a0 Z = true) (hy : y'.cls ≠ "java/lang/invoke/MethodHandle" ∧ y'.cls ≠ "java/lang/invoke/VarHandle") (hsz : ls.size = ml) (hlen : parseMethodDescriptor y'.desc = some ⟨ps, rt⟩) (hl2 : as.length = ps.length) (hst : st = as.reverse ++ .ref a :: rest)
    (hf : rm'.frames + 1 ≤ R.frames) (hlo : (rest.map fun v => v.category).sum + (ml' + 11) + rm'.locals ≤ R.locals) (hc : cells + rm'.cells ≤ R.cells) (hs : slots + rm'.slots ≤ R.slots) (pc' : Nat) (hp : pc + 3 = pc')
    (g : ∀ (T' : State) (v : Option Value) (L : List Loc), Stand p l e R s m args below meth c T' (locs ++ L) (cells + rm'.cells) (slots + rm'.slots) → Qc v T'.heap L → Ends p e s below R Q T' (mkF m pc' ls (v.toList ++ rest))) : Ends p e s below R Q T (mkF m pc ls st) := by
  subst hp hst
  obtain ⟨cq, qa, qb⟩ := E.cell
  obtain ⟨ci, ki, i1, i2, -, i4, -, -⟩ := Cond.instantiable_spec wi
  have ws := Jvm.Stand.selects_self_of_private (args := a0) i1 i2 (Bool.or_eq_false_iff.mp i4).1 (Cond.privateMethod_at w0) w2 hy
  obtain ⟨v, _, ⟨T', L', c', n'⟩, -, X', ⟨Lc, hQ, q1, q2, q3⟩, q⟩ := X.privateBack k.1 (y := y') k.2.2.2.2.1 (mvT k.2.1 w1) (mvT k.2.1 w2) (mvT k.2.1 ws) (Cond.privateMethod_at (mvP k.2.1 w0 (args := #[]))) (mvT k.2.1 w4) hy (backOf (W := (rest.map fun v => v.category).sum) M k.2.1 w4 w3 hf hlo) (g := mkF m pc ls (as.reverse ++ .ref a :: rest)) rfl (hsz.trans k.2.2.2.1.symm) (Steps.refl _) (a := a) (by rw [e0]; exact qa) qb (argsL := as) (rest := rest) (lenOf hlen hl2) rfl (by show 2 * 0 + _ ≤ _; rw [Nat.mul_zero, Nat.zero_add]; exact Nat.le_refl _) (hb k.2.2.1 hd) (fun _ _ => ⟨rfl, e0, hc, hs⟩)
  dsimp only [Pt.U, Pt.locs, Pt.cells, Pt.slots] at X' q1 q2 q3 q hQ
  subst q1 q2 q3
  exact (g T' v Lc X' hQ).map fun _ r => q.trans r
end
end Wk
/-! own_: doubles that are whole: laws over the library's XS, stD, X.daload -/
namespace Wk
section
variable {p : Program} {l : Launch} {e : Env} {R : Room} {s : State} {m : MethodId} {args : Array Value} {below : List Frame} {meth : Method} {c : Code} {T : State} {locs : List Loc} {cells slots : Nat} {Z : State} {a0 : Array Value} {h : Heap} {y : MethodName} {cd : ByteArray} {ml : Nat} {ret : Option FieldType} {Q : Option Value → Heap → List Loc → Prop} {pc pc' : Nat} {ls : Array Slot} {st : List Value}
theorem dload_n (k : K p s m meth c Z y cd ml ret) (X : Stand p l e R s m args below meth c T locs cells slots) {i : Fin 4} {v : UInt64} (hd : decode cd pc = .ok (.dload_n i, 1)) (hl : ls[i.val]? = some (.val (.double v))) (pc' : Nat) (hp : pc + 1 = pc') (h : Ends p e s below R Q T (mkF m pc' ls (.double v :: st))) : Ends p e s below R Q T (mkF m pc ls st) := by
  subst hp; exact h.map fun _ q => XS.dloadN X.here k.1 rfl (hb k.2.2.1 hd) hl q
theorem dload (k : K p s m meth c Z y cd ml ret) (X : Stand p l e R s m args below meth c T locs cells slots) {i : Nat} {v : UInt64} (hd : decode cd pc = .ok (.dload i, 2)) (hl : ls[i]? = some (.val (.double v))) (pc' : Nat) (hp : pc + 2 = pc') (h : Ends p e s below R Q T (mkF m pc' ls (.double v :: st))) : Ends p e s below R Q T (mkF m pc ls st) := by
  subst hp; exact h.map fun _ q => XS.dload X.here k.1 rfl (hb k.2.2.1 hd) hl q
theorem dstore_n (k : K p s m meth c Z y cd ml ret) (X : Stand p l e R s m args below meth c T locs cells slots) {i : Fin 4} {v : UInt64} (hd : decode cd pc = .ok (.dstore_n i, 1)) (ls' : Array Slot) (hl : storeLocals ls i.val (.double v) = some ls') (pc' : Nat) (hp : pc + 1 = pc') (h : Ends p e s below R Q T (mkF m pc' ls' st)) : Ends p e s below R Q T (mkF m pc ls (.double v :: st)) := by
  subst hp; exact h.map fun _ q => XS.dstoreN X.here k.1 rfl (hb k.2.2.1 hd) rfl hl q
theorem dstore (k : K p s m meth c Z y cd ml ret) (X : Stand p l e R s m args below meth c T locs cells slots) {i : Nat} {v : UInt64} (hd : decode cd pc = .ok (.dstore i, 2)) (ls' : Array Slot) (hl : storeLocals ls i (.double v) = some ls') (pc' : Nat) (hp : pc + 2 = pc') (h : Ends p e s below R Q T (mkF m pc' ls' st)) : Ends p e s below R Q T (mkF m pc ls (.double v :: st)) := by
  subst hp; exact h.map fun _ q => XS.dstore X.here k.1 rfl (hb k.2.2.1 hd) rfl hl q
theorem i2d (k : K p s m meth c Z y cd ml ret) (X : Stand p l e R s m args below meth c T locs cells slots) {x : Int32} (hd : decode cd pc = .ok (.i2d, 1)) (pc' : Nat) (hp : pc + 1 = pc') (h : Ends p e s below R Q T (mkF m pc' ls (.double (FP.i2d x) :: st))) : Ends p e s below R Q T (mkF m pc ls (.int x :: st)) := by
  subst hp; exact h.map fun _ q => XS.i2dS X.here k.1 rfl (hb k.2.2.1 hd) rfl rfl q
theorem b32 (x : Int32) : B53 x.toInt64 := by
  have q : x.toInt64.toInt = x.toInt := Int32.toInt_toInt64 x
  have r := rng32 x
  unfold B53; omega
theorem dcv (a b : Int32) (o : CmpOp) : cmpValue (FP.dcmp (FP.i2d a) (FP.i2d b)) o = lcmpW a.toInt64 b.toInt64 := by rw [i2d_w, i2d_w]; exact dcmpV_w (b32 a) (b32 b) o
theorem lt64 (a b : Int32) : a.toInt64 < b.toInt64 ↔ a < b := by rw [Int64.lt_iff_toInt_lt, Int32.lt_iff_toInt_lt, Int32.toInt_toInt64, Int32.toInt_toInt64]
theorem eq64 (a b : Int32) : a.toInt64 = b.toInt64 ↔ a = b := by rw [← Int64.toInt_inj, ← Int32.toInt_inj, Int32.toInt_toInt64, Int32.toInt_toInt64]
theorem dcmp_lt (k : K p s m meth c Z y cd ml ret) (X : Stand p l e R s m args below meth c T locs cells slots) {a b : Int32} {o : Int} {cm : CmpOp} (hd0 : decode cd pc = .ok (.dcmp cm, 1)) (pc1 : Nat) (hp1 : pc + 1 = pc1) (hd : decode cd pc1 = .ok (.ifCond .lt o, 3)) (ho : 0 ≤ (pc1 : Int) + o) (py pn : Nat) (hy : ((pc1 : Int) + o).toNat = py) (hn : pc1 + 3 = pn) (h1 : a < b → Ends p e s below R Q T (mkF m py ls st)) (h2 : ¬ a < b → Ends p e s below R Q T (mkF m pn ls st)) : Ends p e s below R Q T (mkF m pc ls (.double (FP.i2d b) :: .double (FP.i2d a) :: st)) := by
  subst hp1
  refine Ends.map (T' := T) (f' := mkF m (pc + 1) ls (.int (lcmpW a.toInt64 b.toInt64) :: st)) (fun _ q => XS.dcmpS X.here k.1 rfl (hb k.2.2.1 hd0) rfl (dcv a b cm) q) ?_
  exact if_lt k X hd ho py pn hy hn (fun q => h1 ((lt64 a b).mp ((lw_lt _ _).mp q))) (fun q => h2 (fun r => q ((lw_lt _ _).mpr ((lt64 a b).mpr r))))
theorem dcmp_ge (k : K p s m meth c Z y cd ml ret) (X : Stand p l e R s m args below meth c T locs cells slots) {a b : Int32} {o : Int} {cm : CmpOp} (hd0 : decode cd pc = .ok (.dcmp cm, 1)) (pc1 : Nat) (hp1 : pc + 1 = pc1) (hd : decode cd pc1 = .ok (.ifCond .ge o, 3)) (ho : 0 ≤ (pc1 : Int) + o) (py pn : Nat) (hy : ((pc1 : Int) + o).toNat = py) (hn : pc1 + 3 = pn) (h1 : ¬ a < b → Ends p e s below R Q T (mkF m py ls st)) (h2 : a < b → Ends p e s below R Q T (mkF m pn ls st)) : Ends p e s below R Q T (mkF m pc ls (.double (FP.i2d b) :: .double (FP.i2d a) :: st)) := by
  subst hp1
  refine Ends.map (T' := T) (f' := mkF m (pc + 1) ls (.int (lcmpW a.toInt64 b.toInt64) :: st)) (fun _ q => XS.dcmpS X.here k.1 rfl (hb k.2.2.1 hd0) rfl (dcv a b cm) q) ?_
  exact if_ge k X hd ho py pn hy hn (fun q => h1 (fun r => q ((lw_lt _ _).mpr ((lt64 a b).mpr r)))) (fun q => h2 ((lt64 a b).mp ((lw_lt _ _).mp q)))
theorem dcmp_gt (k : K p s m meth c Z y cd ml ret) (X : Stand p l e R s m args below meth c T locs cells slots) {a b : Int32} {o : Int} {cm : CmpOp} (hd0 : decode cd pc = .ok (.dcmp cm, 1)) (pc1 : Nat) (hp1 : pc + 1 = pc1) (hd : decode cd pc1 = .ok (.ifCond .gt o, 3)) (ho : 0 ≤ (pc1 : Int) + o) (py pn : Nat) (hy : ((pc1 : Int) + o).toNat = py) (hn : pc1 + 3 = pn) (h1 : b < a → Ends p e s below R Q T (mkF m py ls st)) (h2 : ¬ b < a → Ends p e s below R Q T (mkF m pn ls st)) : Ends p e s below R Q T (mkF m pc ls (.double (FP.i2d b) :: .double (FP.i2d a) :: st)) := by
  subst hp1
  refine Ends.map (T' := T) (f' := mkF m (pc + 1) ls (.int (lcmpW a.toInt64 b.toInt64) :: st)) (fun _ q => XS.dcmpS X.here k.1 rfl (hb k.2.2.1 hd0) rfl (dcv a b cm) q) ?_
  exact if_gt k X hd ho py pn hy hn (fun q => h1 ((lt64 b a).mp ((lw_gt _ _).mp q))) (fun q => h2 (fun r => q ((lw_gt _ _).mpr ((lt64 b a).mpr r))))
theorem dcmp_le (k : K p s m meth c Z y cd ml ret) (X : Stand p l e R s m args below meth c T locs cells slots) {a b : Int32} {o : Int} {cm : CmpOp} (hd0 : decode cd pc = .ok (.dcmp cm, 1)) (pc1 : Nat) (hp1 : pc + 1 = pc1) (hd : decode cd pc1 = .ok (.ifCond .le o, 3)) (ho : 0 ≤ (pc1 : Int) + o) (py pn : Nat) (hy : ((pc1 : Int) + o).toNat = py) (hn : pc1 + 3 = pn) (h1 : ¬ b < a → Ends p e s below R Q T (mkF m py ls st)) (h2 : b < a → Ends p e s below R Q T (mkF m pn ls st)) : Ends p e s below R Q T (mkF m pc ls (.double (FP.i2d b) :: .double (FP.i2d a) :: st)) := by
  subst hp1
  refine Ends.map (T' := T) (f' := mkF m (pc + 1) ls (.int (lcmpW a.toInt64 b.toInt64) :: st)) (fun _ q => XS.dcmpS X.here k.1 rfl (hb k.2.2.1 hd0) rfl (dcv a b cm) q) ?_
  exact if_le k X hd ho py pn hy hn (fun q => h1 (fun r => q ((lw_gt _ _).mpr ((lt64 b a).mpr r)))) (fun q => h2 ((lt64 b a).mp ((lw_gt _ _).mp q)))
theorem dcmp_eq (k : K p s m meth c Z y cd ml ret) (X : Stand p l e R s m args below meth c T locs cells slots) {a b : Int32} {o : Int} {cm : CmpOp} (hd0 : decode cd pc = .ok (.dcmp cm, 1)) (pc1 : Nat) (hp1 : pc + 1 = pc1) (hd : decode cd pc1 = .ok (.ifCond .eq o, 3)) (ho : 0 ≤ (pc1 : Int) + o) (py pn : Nat) (hy : ((pc1 : Int) + o).toNat = py) (hn : pc1 + 3 = pn) (h1 : a = b → Ends p e s below R Q T (mkF m py ls st)) (h2 : ¬ a = b → Ends p e s below R Q T (mkF m pn ls st)) : Ends p e s below R Q T (mkF m pc ls (.double (FP.i2d b) :: .double (FP.i2d a) :: st)) := by
  subst hp1
  refine Ends.map (T' := T) (f' := mkF m (pc + 1) ls (.int (lcmpW a.toInt64 b.toInt64) :: st)) (fun _ q => XS.dcmpS X.here k.1 rfl (hb k.2.2.1 hd0) rfl (dcv a b cm) q) ?_
  exact if_eq k X hd ho py pn hy hn (fun q => h1 ((eq64 a b).mp ((lw_eq _ _).mp q))) (fun q => h2 (fun r => q ((lw_eq _ _).mpr ((eq64 a b).mpr r))))
theorem dcmp_ne (k : K p s m meth c Z y cd ml ret) (X : Stand p l e R s m args below meth c T locs cells slots) {a b : Int32} {o : Int} {cm : CmpOp} (hd0 : decode cd pc = .ok (.dcmp cm, 1)) (pc1 : Nat) (hp1 : pc + 1 = pc1) (hd : decode cd pc1 = .ok (.ifCond .ne o, 3)) (ho : 0 ≤ (pc1 : Int) + o) (py pn : Nat) (hy : ((pc1 : Int) + o).toNat = py) (hn : pc1 + 3 = pn) (h1 : ¬ a = b → Ends p e s below R Q T (mkF m py ls st)) (h2 : a = b → Ends p e s below R Q T (mkF m pn ls st)) : Ends p e s below R Q T (mkF m pc ls (.double (FP.i2d b) :: .double (FP.i2d a) :: st)) := by
  subst hp1
  refine Ends.map (T' := T) (f' := mkF m (pc + 1) ls (.int (lcmpW a.toInt64 b.toInt64) :: st)) (fun _ q => XS.dcmpS X.here k.1 rfl (hb k.2.2.1 hd0) rfl (dcv a b cm) q) ?_
  exact if_ne k X hd ho py pn hy hn (fun q => h1 (fun r => q ((lw_eq _ _).mpr ((eq64 a b).mpr r)))) (fun q => h2 ((eq64 a b).mp ((lw_eq _ _).mp q)))
theorem daload (k : K p s m meth c Z y cd ml ret) (X : Stand p l e R s m args below meth c T locs cells slots) {vs : List Value} {a : Addr} {j : Int32} (hd : decode cd pc = .ok (.daload, 1)) (e0 : T.heap = h) (A : Arl Z h a .double vs) (i : Nat) (hj : j.toInt = i) (x : Value) (hx : vs[i]? = some x) (pc' : Nat) (hp : pc + 1 = pc') (g : Ends p e s below R Q T (mkF m pc' ls (x :: st))) : Ends p e s below R Q T (mkF m pc ls (.int j :: .ref a :: st)) := by
  subst hp
  obtain ⟨cl, Ar, hs, hl⟩ := A
  have hz : cl.slots.size = vs.length := by rw [← Array.length_toList, hs]
  refine g.map fun _ r => X.daload k.1 (j := j) (v := x) (by rw [e0]; exact Ar.1) (State.isArrayOf_alike k.2.1.alike Ar.2.1) Ar.2.2 (inb hj (hz ▸ (List.getElem?_eq_some_iff.mp hx).1)) ?_ (g := mkF m pc ls (.int j :: .ref a :: st)) rfl rfl (hb k.2.2.1 hd) _ r
  rw [tnc hj, ← Array.getElem?_toList, hs, hx]
theorem dastore (k : K p s m meth c Z y cd ml ret) (X : Stand p l e R s m args below meth c T locs cells slots) {vs : List Value} {a : Addr} {j : Int32} {x : UInt64} (hd : decode cd pc = .ok (.dastore, 1)) (e0 : T.heap = h) (A : Arl Z h a .double vs) (i : Nat) (hj : j.toInt = i) (hi : i < vs.length) (pc' : Nat) (hp : pc + 1 = pc')
    (g : ∀ (T' : State) (h' : Heap), Stand p l e R s m args below meth c T' (locs ++ [⟨a, i⟩]) cells slots → T'.heap = h' → Wr h h' a i (.double x) → Arl Z h' a .double (vs.set i (.double x)) → Ends p e s below R Q T' (mkF m pc' ls st)) : Ends p e s below R Q T (mkF m pc ls (.double x :: .int j :: .ref a :: st)) := by
  subst hp
  have A' := A
  obtain ⟨cl, Ar, hs, hl⟩ := A
  have hz : cl.slots.size = vs.length := by rw [← Array.length_toList, hs]
  obtain ⟨T', h', X', e', W', q⟩ := stD X k.1 k.2.1 e0 Ar (j := j) (x := x) (inb hj (hz ▸ hi)) (g := mkF m pc ls (.double x :: .int j :: .ref a :: st)) rfl rfl (hb k.2.2.1 hd)
  rw [tnc hj] at X' W'
  exact (g T' h' X' e' W' (A'.same W')).map q
theorem ret_dbl (k : K p s m meth c Z y cd ml ret) (X : Stand p l e R s m args below meth c T locs cells slots) (hret : ret = some .double) {z : UInt64} (hd : decode cd pc = .ok (.dreturn, 1)) (hc : cells ≤ R.cells) (hs : slots ≤ R.slots) (h : Q (some (.double z)) T.heap locs) : Ends p e s below R Q T (mkF m pc ls (.double z :: st)) := by
  have hl := k.2.2.2.2.2.2.1
  obtain ⟨fs, hr, hrun, hended, hW, hsame⟩ := X.leave (v := some (.double z)) (fun q => by rw [k.2.2.2.2.2.1, hret] at q; cases q)
  exact ⟨_, _, retOut X k.1 (t := .double) (k.2.2.2.2.2.1.trans hret) rfl (Or.inr (Or.inr (Or.inl ⟨rfl, rfl, _, rfl⟩))) (hb k.2.2.1 hd) hr, hrun, hended, _, _, rfl, h, ⟨_, rfl⟩, hW, hsame.mono hc hs⟩
end
end Wk
/-! own_: choosing by rank; plain facts, no program in sight -/
def own_g (xs : List Int32) (k : Nat) : Int := (xs.getD k 0).toInt
def own_dv (z : Int32) : Value := Value.double (FP.i2d z)
def own_s (f : Nat → Nat) : Nat → Nat
  | 0 => 0
  | n + 1 => own_s f n + f n
theorem own_s_congr {f g : Nat → Nat} : ∀ n, (∀ k, k < n → f k = g k) → own_s f n = own_s g n
  | 0, _ => rfl
  | n + 1, h => by
    show own_s f n + f n = own_s g n + g n
    rw [own_s_congr n fun k hk => h k (by omega), h n (by omega)]
theorem own_s_upd (f : Nat → Nat) (i v : Nat) : ∀ n, i < n → own_s (fun k => if k = i then v else f k) n + f i = own_s f n + v
  | 0, h => absurd h (Nat.not_lt_zero _)
  | n + 1, h => by
    have q : own_s (fun k => if k = i then v else f k) (n + 1) = own_s (fun k => if k = i then v else f k) n + (if n = i then v else f n) := rfl
    have r : own_s f (n + 1) = own_s f n + f n := rfl
    rw [q, r]
    by_cases e : n = i
    · rw [if_pos e]
      have : own_s (fun k => if k = i then v else f k) n = own_s f n := own_s_congr n fun k hk => if_neg (by omega)
      rw [this, e]; omega
    · rw [if_neg e]
      have := own_s_upd f i v n (by omega)
      omega
theorem own_s_le {f : Nat → Nat} (hf : ∀ k, f k ≤ 1) : ∀ (n r : Nat), (∀ b, r ≤ b → b < n → f b = 0) → own_s f n ≤ r
  | 0, r, _ => Nat.zero_le r
  | n + 1, r, h => by
    show own_s f n + f n ≤ r
    by_cases e : r ≤ n
    · have := own_s_le hf n r fun b hb hn => h b hb (by omega)
      rw [h n e (by omega)]; omega
    · have q := own_s_le hf n n fun b hb hn => absurd hn (by omega)
      have := hf n
      omega
theorem own_s_ge {f : Nat → Nat} : ∀ (n r : Nat), r ≤ n → (∀ a, a < r → f a = 1) → r ≤ own_s f n
  | 0, r, h, _ => by omega
  | n + 1, r, h, g => by
    show r ≤ own_s f n + f n
    by_cases e : r ≤ n
    · have := own_s_ge n r e g; omega
    · have q := own_s_ge (f := f) n n (Nat.le_refl _) fun a ha => g a (by omega)
      rw [g n (by omega)]; omega
def own_cn (P : Int32 → Bool) (xs : List Int32) (n : Nat) : Nat := own_s (fun k => if P (xs.getD k 0) then 1 else 0) n
def own_sw (xs : List Int32) (i j : Nat) : List Int32 := (xs.set i (xs.getD j 0)).set j (xs.getD i 0)
theorem own_sg {ks : List Int32} {s : Nat} {a : Int32} (h : s < ks.length) (x : Nat) : (ks.set s a).getD x 0 = if x = s then a else ks.getD x 0 := by
  rw [List.getD_eq_getElem?_getD, List.getElem?_set]
  by_cases q : s = x
  · subst q; rw [if_pos rfl, if_pos h, if_pos rfl]; rfl
  · rw [if_neg q, if_neg (fun r => q r.symm), List.getD_eq_getElem?_getD]
theorem own_sw_len (xs : List Int32) (i j : Nat) : (own_sw xs i j).length = xs.length := by simp [own_sw]
theorem own_sw_get {xs : List Int32} {i j : Nat} (hi : i < xs.length) (hj : j < xs.length) (k : Nat) : (own_sw xs i j).getD k 0 = if k = j then xs.getD i 0 else if k = i then xs.getD j 0 else xs.getD k 0 := by
  unfold own_sw
  rw [own_sg (by simpa using hj), own_sg hi]
theorem own_cn_sw {xs : List Int32} {i j n : Nat} (P : Int32 → Bool) (hi : i < n) (hj : j < n) (hn : n ≤ xs.length) : own_cn P (own_sw xs i j) n = own_cn P xs n := by
  unfold own_cn
  generalize hf : (fun k => if P (xs.getD k 0) = true then (1 : Nat) else 0) = f
  have e : own_s (fun k => if P ((own_sw xs i j).getD k 0) = true then (1 : Nat) else 0) n = own_s (fun k => if k = j then f i else (fun k => if k = i then f j else f k) k) n := own_s_congr n fun k _ => by
    subst hf
    simp only [own_sw_get (show i < xs.length by omega) (show j < xs.length by omega) k]
    by_cases q : k = j
    · rw [if_pos q, if_pos q]
    · rw [if_neg q, if_neg q]
      by_cases r : k = i
      · rw [if_pos r, if_pos r]
      · rw [if_neg r, if_neg r]
  rw [e]
  have a1 := own_s_upd (fun k => if k = i then f j else f k) j (f i) n hj
  have a2 := own_s_upd f i (f j) n hi
  have a3 : (if j = i then f j else f j) = f j := by split <;> rfl
  have a4 : own_s (fun k => if k = j then f i else (fun k => if k = i then f j else f k) k) n + f j = own_s (fun k => if k = i then f j else f k) n + f i := by rw [← a3]; exact (by rw [a3] at a1 ⊢; exact a1)
  omega
/-- what holds of the whole: l to r is still open -/
def own_Gl (os xs : List Int32) (n l r : Nat) : Prop := xs.length = 5 ∧ (∀ P, own_cn P xs n = own_cn P os n) ∧ (∀ k, n ≤ k → xs.getD k 0 = os.getD k 0) ∧ (∀ a b, a < l → l ≤ b → b < n → own_g xs a ≤ own_g xs b) ∧ (∀ a b, a ≤ r → r < b → b < n → own_g xs a ≤ own_g xs b)
theorem own_Gl0 {os : List Int32} {n : Nat} (h : os.length = 5) : own_Gl os os n 0 (n - 1) := ⟨h, fun _ => rfl, fun _ _ => rfl, fun a b h _ _ => absurd h (Nat.not_lt_zero _), fun a b _ h1 h2 => absurd h2 (by omega)⟩
theorem own_gsw {xs : List Int32} {i j : Nat} (hi : i < xs.length) (hj : j < xs.length) (k : Nat) : own_g (own_sw xs i j) k = if k = j then own_g xs i else if k = i then own_g xs j else own_g xs k := by
  unfold own_g
  rw [own_sw_get hi hj]
  by_cases q : k = j
  · rw [if_pos q, if_pos q]
  · rw [if_neg q, if_neg q]
    by_cases r : k = i
    · rw [if_pos r, if_pos r]
    · rw [if_neg r, if_neg r]
theorem own_Gl_sw {os xs : List Int32} {n l r i j : Nat} (h : own_Gl os xs n l r) (hi : l ≤ i) (hij : i ≤ j) (hj : j ≤ r) (hr : r < n) (hn : n ≤ 5) : own_Gl os (own_sw xs i j) n l r := by
  obtain ⟨h1, h2, h3, h4, h5⟩ := h
  have li : i < xs.length := by omega
  have lj : j < xs.length := by omega
  refine ⟨by rw [own_sw_len]; exact h1, fun P => (own_cn_sw P (by omega) (by omega) (by omega)).trans (h2 P), fun k hk => ?_, fun a b ha hb hbn => ?_, fun a b ha hb hbn => ?_⟩
  · rw [own_sw_get li lj, if_neg (by omega), if_neg (by omega)]; exact h3 k hk
  · rw [own_gsw li lj a, own_gsw li lj b, if_neg (by omega), if_neg (by omega)]
    by_cases q : b = j
    · rw [if_pos q]; exact h4 a i ha hi (by omega)
    · rw [if_neg q]
      by_cases r : b = i
      · rw [if_pos r]; exact h4 a j ha (by omega) (by omega)
      · rw [if_neg r]; exact h4 a b ha hb hbn
  · rw [own_gsw li lj a, own_gsw li lj b, if_neg (show ¬ b = j by omega), if_neg (show ¬ b = i by omega)]
    by_cases q : a = j
    · rw [if_pos q]; exact h5 i b (by omega) hb hbn
    · rw [if_neg q]
      by_cases r : a = i
      · rw [if_pos r]; exact h5 j b hj hb hbn
      · rw [if_neg r]; exact h5 a b ha hb hbn
/-- the partition under way: i from the left, J one past j from the right -/
def own_In (xs : List Int32) (l r : Nat) (pv : Int) (i J : Nat) : Prop := l ≤ i ∧ i ≤ r + 1 ∧ l ≤ J ∧ J ≤ r + 1 ∧ (∀ k, l ≤ k → k < i → own_g xs k ≤ pv) ∧ (∀ k, J ≤ k → k ≤ r → pv ≤ own_g xs k) ∧ ((∃ k, i ≤ k ∧ k < J ∧ own_g xs k = pv) ∨ (l < i ∧ J ≤ r))
def own_Sc (xs : List Int32) (l r : Nat) (pv : Int) (i J : Nat) : Prop := l ≤ i ∧ i ≤ r ∧ l < J ∧ J ≤ r + 1 ∧ (∀ k, l ≤ k → k < i → own_g xs k ≤ pv) ∧ (∀ k, J ≤ k → k ≤ r → pv ≤ own_g xs k) ∧ ((∃ k, i ≤ k ∧ k < J ∧ own_g xs k = pv) ∨ (l < i ∧ J ≤ r ∧ i ≤ J))
theorem own_In0 {xs : List Int32} {l r m : Nat} (h1 : l ≤ m) (h2 : m ≤ r) : own_In xs l r (own_g xs m) l (r + 1) := ⟨Nat.le_refl _, by omega, by omega, Nat.le_refl _, fun k a b => absurd b (by omega), fun k a b => absurd b (by omega), Or.inl ⟨m, h1, by omega, rfl⟩⟩
theorem own_In_Sc {xs : List Int32} {l r : Nat} {pv : Int} {i J : Nat} (h : own_In xs l r pv i J) (hij : i < J) : own_Sc xs l r pv i J := by
  obtain ⟨h1, h2, h3, h4, h5, h6, h7⟩ := h
  refine ⟨h1, by omega, by omega, h4, h5, h6, ?_⟩
  rcases h7 with h | h
  · exact Or.inl h
  · exact Or.inr ⟨h.1, h.2, by omega⟩
theorem own_Sc_i {xs : List Int32} {l r : Nat} {pv : Int} {i J : Nat} (h : own_Sc xs l r pv i J) (hl : own_g xs i < pv) : own_Sc xs l r pv (i + 1) J := by
  obtain ⟨h1, h2, h3, h4, h5, h6, h7⟩ := h
  have hA : ∀ k, l ≤ k → k < i + 1 → own_g xs k ≤ pv := fun k a b => by
    by_cases q : k = i
    · rw [q]; omega
    · exact h5 k a (by omega)
  rcases h7 with ⟨k, a, b, e⟩ | ⟨a, b, d⟩
  · have : k ≠ i := fun q => by rw [q] at e; omega
    exact ⟨by omega, by omega, h3, h4, hA, h6, Or.inl ⟨k, by omega, b, e⟩⟩
  · have : i ≠ J := fun q => by have := h6 i (by omega) (by omega); omega
    exact ⟨by omega, by omega, h3, h4, hA, h6, Or.inr ⟨by omega, b, by omega⟩⟩
theorem own_Sc_j {xs : List Int32} {l r : Nat} {pv : Int} {i J : Nat} (h : own_Sc xs l r pv i (J + 1)) (hl : pv < own_g xs J) : own_Sc xs l r pv i J := by
  obtain ⟨h1, h2, h3, h4, h5, h6, h7⟩ := h
  have hB : ∀ k, J ≤ k → k ≤ r → pv ≤ own_g xs k := fun k a b => by
    by_cases q : k = J
    · rw [q]; omega
    · exact h6 k (by omega) b
  rcases h7 with ⟨k, a, b, e⟩ | ⟨a, b, d⟩
  · have : k ≠ J := fun q => by rw [q] at e; omega
    exact ⟨h1, h2, by omega, by omega, h5, hB, Or.inl ⟨k, a, by omega, e⟩⟩
  · have : i ≠ J + 1 := fun q => by have := h5 (i - 1) (by omega) (by omega); rw [show i - 1 = J by omega] at this; omega
    exact ⟨h1, h2, by omega, by omega, h5, hB, Or.inr ⟨a, by omega, by omega⟩⟩
theorem own_Sc_In {xs : List Int32} {l r : Nat} {pv : Int} {i J : Nat} (h : own_Sc xs l r pv i J) (hij : J ≤ i) : own_In xs l r pv i J := by
  obtain ⟨h1, h2, h3, h4, h5, h6, h7⟩ := h
  refine ⟨h1, by omega, by omega, h4, h5, h6, ?_⟩
  rcases h7 with ⟨k, a, b, e⟩ | h
  · omega
  · exact Or.inr ⟨h.1, h.2.1⟩
theorem own_In_sw {xs : List Int32} {l r : Nat} {pv : Int} {i J : Nat} (h : own_Sc xs l r pv i (J + 1)) (hx : r < xs.length) (hij : i ≤ J) (gi : pv ≤ own_g xs i) (gj : own_g xs J ≤ pv) : own_In (own_sw xs i J) l r pv (i + 1) J := by
  obtain ⟨h1, h2, h3, h4, h5, h6, h7⟩ := h
  have li : i < xs.length := by omega
  have lj : J < xs.length := by omega
  refine ⟨by omega, by omega, by omega, by omega, fun k a b => ?_, fun k a b => ?_, Or.inr ⟨by omega, by omega⟩⟩
  · rw [own_gsw li lj k]
    by_cases q : k = J
    · rw [if_pos q, show i = J by omega]; exact gj
    · rw [if_neg q]
      by_cases s : k = i
      · rw [if_pos s]; exact gj
      · rw [if_neg s]; exact h5 k a (by omega)
  · rw [own_gsw li lj k]
    by_cases q : k = J
    · rw [if_pos q]; exact gi
    · rw [if_neg q, if_neg (by omega)]; exact h6 k (by omega) b
def own_Fin (xs : List Int32) (n r : Nat) : Prop := (∀ a, a < r → own_g xs a ≤ own_g xs r) ∧ (∀ b, r ≤ b → b < n → own_g xs r ≤ own_g xs b)
theorem own_Gl_l {os xs : List Int32} {n l r : Nat} {pv : Int} {i J : Nat} (h : own_Gl os xs n l r) (hI : own_In xs l r pv i (J + 1)) (hij : J + 1 ≤ i) : own_Gl os xs n l J := by
  obtain ⟨h1, h2, h3, h4, h5⟩ := h
  obtain ⟨q1, q2, q3, q4, q5, q6, q7⟩ := hI
  refine ⟨h1, h2, h3, h4, fun a b ha hb hbn => ?_⟩
  by_cases x : a < l
  · exact h4 a b x (by omega) hbn
  · have ga := q5 a (by omega) (by omega)
    by_cases y : b ≤ r
    · have := q6 b (by omega) y; omega
    · exact h5 a b (by omega) (by omega) hbn
theorem own_Gl_r {os xs : List Int32} {n l r : Nat} {pv : Int} {i J : Nat} (h : own_Gl os xs n l r) (hI : own_In xs l r pv i J) (hij : J ≤ i) : own_Gl os xs n i r := by
  obtain ⟨h1, h2, h3, h4, h5⟩ := h
  obtain ⟨q1, q2, q3, q4, q5, q6, q7⟩ := hI
  refine ⟨h1, h2, h3, fun a b ha hb hbn => ?_, h5⟩
  by_cases x : a < l
  · exact h4 a b x (by omega) hbn
  · have ga := q5 a (by omega) (by omega)
    by_cases y : b ≤ r
    · have := q6 b (by omega) y; omega
    · exact h5 a b (by omega) (by omega) hbn
theorem own_In_gap {xs : List Int32} {l r : Nat} {pv : Int} {i J : Nat} (hI : own_In xs l r pv i J) (hij : J ≤ i) : l < i ∧ J ≤ r := by
  obtain ⟨q1, q2, q3, q4, q5, q6, ⟨k, a, b, e⟩ | q⟩ := hI
  · omega
  · exact q
theorem own_Fin_mid {os xs : List Int32} {n l r : Nat} {pv : Int} {i J k : Nat} (h : own_Gl os xs n l r) (hI : own_In xs l r pv i J) (hl : l ≤ k) (hr : k ≤ r) (hJ : J ≤ k) (hi : k < i) (hkn : k < n) : own_Fin xs n k := by
  obtain ⟨h1, h2, h3, h4, h5⟩ := h
  obtain ⟨q1, q2, q3, q4, q5, q6, q7⟩ := hI
  have e1 := q5 k hl hi
  have e2 := q6 k hJ hr
  refine ⟨fun a ha => ?_, fun b hb hbn => ?_⟩
  · by_cases x : a < l
    · exact h4 a k x hl hkn
    · have := q5 a (by omega) (by omega); omega
  · by_cases y : b ≤ r
    · have := q6 b (by omega) y; omega
    · exact h5 k b hr (by omega) hbn
theorem own_Fin_end {os xs : List Int32} {n k : Nat} (h : own_Gl os xs n k k) (hk : k < n) : own_Fin xs n k := by
  obtain ⟨h1, h2, h3, h4, h5⟩ := h
  refine ⟨fun a ha => h4 a k ha (Nat.le_refl _) hk, fun b hb hbn => ?_⟩
  by_cases q : b = k
  · rw [q]; exact Int.le_refl _
  · exact h5 k b (Nat.le_refl _) (by omega) hbn
theorem own_less {os xs : List Int32} {n r : Nat} (hp : ∀ P, own_cn P xs n = own_cn P os n) (h : own_Fin xs n r) (hr : r < n) : own_cn (fun z => decide (z < xs.getD r 0)) os n ≤ r ∧ r < own_cn (fun z => decide (¬ xs.getD r 0 < z)) os n := by
  rw [← hp, ← hp]
  constructor
  · refine own_s_le (fun k => by dsimp only; split <;> omega) n r fun b h1 h2 => ?_
    have := h.2 b h1 h2
    have q : ¬ (xs.getD b 0 < xs.getD r 0) := by rw [Int32.lt_iff_toInt_lt]; unfold own_g at this; omega
    show (if decide (xs.getD b 0 < xs.getD r 0) = true then 1 else 0) = 0
    rw [decide_eq_false q]; rfl
  · refine own_s_ge n (r + 1) (by omega) fun a ha => ?_
    have q : ¬ (xs.getD r 0 < xs.getD a 0) := by
      rw [Int32.lt_iff_toInt_lt]
      by_cases e : a = r
      · rw [e]; omega
      · have := h.1 a (by omega); unfold own_g at this; omega
    show (if decide (¬ xs.getD r 0 < xs.getD a 0) = true then 1 else 0) = 1
    rw [decide_eq_true q]; rfl
theorem own_sum5 (n : Nat) (hn : n ≤ 5) (b : Nat → Bool) : (((((if 0 < n ∧ b 0 = true then (1 : Int32) else 0) + (if 1 < n ∧ b 1 = true then (1 : Int32) else 0)) + (if 2 < n ∧ b 2 = true then (1 : Int32) else 0)) + (if 3 < n ∧ b 3 = true then (1 : Int32) else 0)) + (if 4 < n ∧ b 4 = true then (1 : Int32) else 0)).toInt = ((own_s (fun k => if b k = true then 1 else 0) n : Nat) : Int) := by
  generalize h0 : b 0 = b0
  generalize h1 : b 1 = b1
  generalize h2 : b 2 = b2
  generalize h3 : b 3 = b3
  generalize h4 : b 4 = b4
  match n, hn with
  | 0, _ =>
    simp only [own_s]
    clear h0 h1 h2 h3 h4
    cases b0 <;> cases b1 <;> cases b2 <;> cases b3 <;> cases b4 <;> decide
  | 1, _ =>
    simp only [own_s, h0]
    clear h0 h1 h2 h3 h4
    cases b0 <;> cases b1 <;> cases b2 <;> cases b3 <;> cases b4 <;> decide
  | 2, _ =>
    simp only [own_s, h0, h1]
    clear h0 h1 h2 h3 h4
    cases b0 <;> cases b1 <;> cases b2 <;> cases b3 <;> cases b4 <;> decide
  | 3, _ =>
    simp only [own_s, h0, h1, h2]
    clear h0 h1 h2 h3 h4
    cases b0 <;> cases b1 <;> cases b2 <;> cases b3 <;> cases b4 <;> decide
  | 4, _ =>
    simp only [own_s, h0, h1, h2, h3]
    clear h0 h1 h2 h3 h4
    cases b0 <;> cases b1 <;> cases b2 <;> cases b3 <;> cases b4 <;> decide
  | 5, _ =>
    simp only [own_s, h0, h1, h2, h3, h4]
    clear h0 h1 h2 h3 h4
    cases b0 <;> cases b1 <;> cases b2 <;> cases b3 <;> cases b4 <;> decide
theorem own_half {x : Int32} {v : Nat} (h : x.toInt = (v : Int)) : ((x.toUInt32 >>> ((1 : Int32) &&& 31).toUInt32).toInt32).toInt = ((v / 2 : Nat) : Int) := by
  have r := rng32 x
  have e : x.toBitVec.toNat = v := by
    have h1 : x.toInt = x.toBitVec.toInt := rfl
    rw [h1, BitVec.toInt_eq_toNat_cond] at h
    have := x.toBitVec.isLt
    split at h <;> omega
  have e2 : ((x.toUInt32 >>> ((1 : Int32) &&& 31).toUInt32).toInt32).toBitVec = x.toBitVec >>> 1 := rfl
  have h3 : ((x.toUInt32 >>> ((1 : Int32) &&& 31).toUInt32).toInt32).toInt = ((x.toUInt32 >>> ((1 : Int32) &&& 31).toUInt32).toInt32).toBitVec.toInt := rfl
  rw [h3, e2, BitVec.toInt_eq_toNat_cond, BitVec.toNat_ushiftRight, e, Nat.shiftRight_eq_div_pow]
  rw [if_pos (by omega)]
theorem own_inc1 {x : Int32} {i : Nat} (h : x.toInt = (i : Int)) (hs : i < 1000) : (x + (1 : Int32)).toInt = ((i + 1 : Nat) : Int) := by
  have q := c_iadd x 1
  have r := rng32 (x + 1)
  have z : (1 : Int32).toInt = 1 := by decide
  omega
theorem own_m1 : (-1 : Int32).toInt = -1 := by decide
theorem own_dec1 {x : Int32} {i : Nat} (h : x.toInt = (i : Int)) : (x + (-1 : Int32)).toInt = (i : Int) - 1 := by
  have q := c_iadd x (-1)
  have r := rng32 (x + (-1))
  have r2 := rng32 x
  rw [own_m1] at q
  omega
theorem own_sub1 {x : Int32} {i : Nat} (h : x.toInt = (i : Int)) (hi : 1 ≤ i) : (x - (1 : Int32)).toInt = ((i - 1 : Nat) : Int) := by
  have q := c_isub x 1
  have r := rng32 (x - 1)
  have r2 := rng32 x
  have z : (1 : Int32).toInt = 1 := by decide
  omega
theorem own_add2 {x y : Int32} {i j : Nat} (h : x.toInt = (i : Int)) (h' : y.toInt = (j : Int)) (hs : i < 1000) (hs' : j < 1000) : (x + y).toInt = ((i + j : Nat) : Int) := by
  have q := c_iadd x y
  have r := rng32 (x + y)
  omega
theorem own_gd {xs : List Int32} {i : Nat} (h : i < xs.length) : (xs.map own_dv)[i]? = some (.double (FP.i2d (xs.getD i 0))) := by
  rw [List.getElem?_map, List.getD_eq_getElem?_getD, List.getElem?_eq_getElem h]; rfl
theorem own_swm (xs : List Int32) (i j : Nat) : ((xs.map own_dv).set i (.double (FP.i2d (xs.getD j 0)))).set j (.double (FP.i2d (xs.getD i 0))) = (own_sw xs i j).map own_dv := by
  unfold own_sw; rw [List.map_set, List.map_set]; rfl
/-! slots that a first turn finds unset -/
def own_P1 (s : Slot) : Prop := s = .unset ∨ ∃ z : Int32, s = .val (.int z)
def own_P2 (s t : Slot) : Prop := (s = .unset ∧ t = .unset) ∨ ∃ z : UInt64, s = .val (.double z) ∧ t = .second
theorem own_st5 {z0 z1 z2 z3 z4 : Value} {s5 s6 s7 s8 s9 s10 : Slot} {v : UInt64} (h : own_P2 s5 s6) : storeLocals #[.val z0, .val z1, .val z2, .val z3, .val z4, s5, s6, s7, s8, s9, s10] 5 (.double v) = some #[.val z0, .val z1, .val z2, .val z3, .val z4, .val (.double v), .second, s7, s8, s9, s10] := by
  rcases h with ⟨rfl, rfl⟩ | ⟨w, rfl, rfl⟩ <;> rfl
theorem own_st7 {z0 z1 z2 z3 z4 : Value} {s7 s8 s9 s10 : Slot} {u : UInt64} {v : Int32} (h : own_P1 s7) : storeLocals #[.val z0, .val z1, .val z2, .val z3, .val z4, .val (.double u), .second, s7, s8, s9, s10] 7 (.int v) = some #[.val z0, .val z1, .val z2, .val z3, .val z4, .val (.double u), .second, .val (.int v), s8, s9, s10] := by
  rcases h with rfl | ⟨w, rfl⟩ <;> rfl
theorem own_st8 {z0 z1 z2 z3 z4 : Value} {s8 s9 s10 : Slot} {u : UInt64} {v y : Int32} (h : own_P1 s8) : storeLocals #[.val z0, .val z1, .val z2, .val z3, .val z4, .val (.double u), .second, .val (.int y), s8, s9, s10] 8 (.int v) = some #[.val z0, .val z1, .val z2, .val z3, .val z4, .val (.double u), .second, .val (.int y), .val (.int v), s9, s10] := by
  rcases h with rfl | ⟨w, rfl⟩ <;> rfl
theorem own_st9 {z0 z1 z2 z3 z4 : Value} {s9 s10 : Slot} {u w : UInt64} {v y : Int32} (h : own_P2 s9 s10) : storeLocals #[.val z0, .val z1, .val z2, .val z3, .val z4, .val (.double u), .second, .val (.int y), .val (.int v), s9, s10] 9 (.double w) = some #[.val z0, .val z1, .val z2, .val z3, .val z4, .val (.double u), .second, .val (.int y), .val (.int v), .val (.double w), .second] := by
  rcases h with ⟨rfl, rfl⟩ | ⟨w, rfl, rfl⟩ <;> rfl
theorem own_oN {i : Nat} (h : i < 2147483648) : (Int32.ofNat i).toInt = (i : Int) := Int32.toInt_ofNat_of_lt (by omega)
theorem own_ltN {i n : Nat} (h : i < 2147483648) (h' : n < 2147483648) : Int32.ofNat i < Int32.ofNat n ↔ i < n := by rw [Int32.lt_iff_toInt_lt, own_oN h, own_oN h']; omega
theorem own_gD {xs : List Int32} {i : Nat} (h : i < xs.length) : xs[i]? = some (xs.getD i 0) := by rw [List.getD_eq_getElem?_getD, List.getElem?_eq_getElem h]; rfl
theorem own_len {c : Nat} {ks : List Int32} (hl : ks.length = c) : ((ks.map Value.int).length : Int) = (c : Int) := by rw [List.length_map, hl]
def own_fl (xs : List Int32) (v : Int32) : Nat → List Int32
  | 0 => xs
  | k + 1 => (own_fl xs v k).set k v
theorem own_fl_len (xs : List Int32) (v : Int32) : ∀ k, (own_fl xs v k).length = xs.length
  | 0 => rfl
  | k + 1 => by show ((own_fl xs v k).set k v).length = _; rw [List.length_set, own_fl_len]
theorem own_fl_get (xs : List Int32) (v : Int32) (j : Nat) (hj : j < xs.length) : ∀ k, (own_fl xs v k)[j]? = if j < k then some v else xs[j]?
  | 0 => by rw [if_neg (Nat.not_lt_zero _)]; rfl
  | k + 1 => by
    show ((own_fl xs v k).set k v)[j]? = _
    rw [List.getElem?_set, own_fl_len, own_fl_get xs v j hj k]
    by_cases q : k = j
    · subst q; rw [if_pos rfl, if_pos hj, if_pos (by omega)]
    · rw [if_neg q]
      by_cases r : j < k
      · rw [if_pos r, if_pos (by omega)]
      · rw [if_neg r, if_neg (by omega)]
theorem own_fl_all (xs : List Int32) (v : Int32) : own_fl xs v xs.length = List.replicate xs.length v := by
  apply List.ext_getElem?
  intro j
  by_cases h : j < xs.length
  · rw [own_fl_get xs v j h, if_pos h, List.getElem?_replicate, if_pos h]
  · rw [List.getElem?_eq_none (by rw [own_fl_len]; omega), List.getElem?_eq_none (by rw [List.length_replicate]; omega)]
theorem own_inc32 (z : Nat) : Int32.ofNat z + (1 : Int32) = Int32.ofNat (z + 1) := (Int32.ofNat_add z 1).symm

theorem ef_dd (m : MethodId) (u v : UInt64) (i n : Int32) : entryFrame m #[(.double u), (.double v), (.int i), (.int n)] 6 = mkF m 0 #[.val (.double u), .second, .val (.double v), .second, .val (.int i), .val (.int n)] [] := by first | (simp [entryFrame, mkF, argsToLocals, Value.category]; done) | rfl
theorem own_lt32 {a b : Int32} {i j : Nat} (ha : a.toInt = (i : Int)) (hb : b.toInt = (j : Int)) : a < b ↔ i < j := by rw [Int32.lt_iff_toInt_lt, ha, hb]; omega
theorem own_y {P : Prop} [Decidable P] (h : P) : (1 : Int32) = if P then (1 : Int32) else 0 := (if_pos h).symm
theorem own_n {P : Prop} [Decidable P] (h : ¬ P) : (0 : Int32) = if P then (1 : Int32) else 0 := (if_neg h).symm
theorem d_MatchesSelectPinLaw_below_0 : decode method_3_code 0 = .ok (.iload 4, 2) := by decide +kernel
theorem d_MatchesSelectPinLaw_below_2 : decode method_3_code 2 = .ok (.iload 5, 2) := by decide +kernel
theorem d_MatchesSelectPinLaw_below_4 : decode method_3_code 4 = .ok (.if_icmp .ge 13, 3) := by decide +kernel
theorem d_MatchesSelectPinLaw_below_7 : decode method_3_code 7 = .ok (.dload_n 0, 1) := by decide +kernel
theorem d_MatchesSelectPinLaw_below_8 : decode method_3_code 8 = .ok (.dload_n 2, 1) := by decide +kernel
theorem d_MatchesSelectPinLaw_below_9 : decode method_3_code 9 = .ok (.dcmp .g, 1) := by decide +kernel
theorem d_MatchesSelectPinLaw_below_10 : decode method_3_code 10 = .ok (.ifCond .ge 7, 3) := by decide +kernel
theorem d_MatchesSelectPinLaw_below_13 : decode method_3_code 13 = .ok (.iconst 1, 1) := by decide +kernel
theorem d_MatchesSelectPinLaw_below_14 : decode method_3_code 14 = .ok (.goto 4, 3) := by decide +kernel
theorem d_MatchesSelectPinLaw_below_17 : decode method_3_code 17 = .ok (.iconst 0, 1) := by decide +kernel
theorem d_MatchesSelectPinLaw_below_18 : decode method_3_code 18 = .ok (.ireturn, 1) := by decide +kernel
theorem pn_MatchesSelectPinLaw_below : plainFor (⟨"com/example/quern/quern/MatchesSelectPinLaw", "below", "(DDII)I"⟩ : MethodName) = true := plainFor_of_name (by first | (simp [plainName, overriddenIn, x]; done) | decide +kernel)
theorem pd_MatchesSelectPinLaw_below : parseMethodDescriptor "(DDII)I" = some ⟨[.double, .double, .int, .int], (some .int)⟩ := by decide +kernel
set_option maxRecDepth 65536 in
set_option maxHeartbeats 40000000 in
theorem rm_below (l : Launch) (Z : State) (a0 : Array Value) (hw : ∀ d ∈ tables_1, d.before a0 Z = true) (x w : Int32) (i n : Int32) (ii nn : Nat) (h0 : Heap) (hi : i.toInt = (ii : Int)) (hn : n.toInt = (nn : Int)) : Wk.Met l (⟨"com/example/quern/quern/MatchesSelectPinLaw", "below", "(DDII)I"⟩ : MethodName) method_3_code 6 (some .int) ({ frames := 0, cells := 0, slots := 0, locals := 0 } : Room) #[(.double (FP.i2d x)), (.double (FP.i2d w)), (.int i), (.int n)] Z h0 (fun r h L => r = some (.int (if ii < nn ∧ decide (x < w) = true then (1 : Int32) else 0)) ∧ h = h0 ∧ L = []) [] := by
  refine Wk.enter pn_MatchesSelectPinLaw_below (fun p e s m below meth c T0 k X0 e0 => ?_)
  refine (Wk.Ends.cast (ef_dd m (FP.i2d x) (FP.i2d w) i n) ?_)
  refine Wk.iload k X0 d_MatchesSelectPinLaw_below_0 rfl 2 rfl ?_
  refine Wk.iload k X0 d_MatchesSelectPinLaw_below_2 rfl 4 rfl ?_
  refine Wk.icmp_ge k X0 d_MatchesSelectPinLaw_below_4 (by decide) 17 7 (by decide) rfl (fun hc4 => ?_) (fun hc4 => ?_)
  · refine Wk.iconst k X0 d_MatchesSelectPinLaw_below_17 (0 : Int32) rfl 18 rfl ?_
    exact Wk.ret_int k X0 rfl d_MatchesSelectPinLaw_below_18 (by decide) (by decide) ⟨congrArg (fun z => some (Value.int z)) (own_n fun z => hc4 ((own_lt32 hi hn).mpr z.1)), e0, rfl⟩
  · refine Wk.dload_n k X0 d_MatchesSelectPinLaw_below_7 rfl 8 rfl ?_
    refine Wk.dload_n k X0 d_MatchesSelectPinLaw_below_8 rfl 9 rfl ?_
    refine Wk.dcmp_ge k X0 d_MatchesSelectPinLaw_below_9 10 rfl d_MatchesSelectPinLaw_below_10 (by decide) 17 13 (by decide) rfl (fun hc10 => ?_) (fun hc10 => ?_)
    · refine Wk.iconst k X0 d_MatchesSelectPinLaw_below_17 (0 : Int32) rfl 18 rfl ?_
      exact Wk.ret_int k X0 rfl d_MatchesSelectPinLaw_below_18 (by decide) (by decide) ⟨congrArg (fun z => some (Value.int z)) (own_n fun z => hc10 (of_decide_eq_true z.2)), e0, rfl⟩
    · refine Wk.iconst k X0 d_MatchesSelectPinLaw_below_13 (1 : Int32) rfl 14 rfl ?_
      refine Wk.goto k X0 d_MatchesSelectPinLaw_below_14 (by decide) 18 (by decide) ?_
      exact Wk.ret_int k X0 rfl d_MatchesSelectPinLaw_below_18 (by decide) (by decide) ⟨congrArg (fun z => some (Value.int z)) (own_y ⟨(own_lt32 hi hn).mp hc4, decide_eq_true hc10⟩), e0, rfl⟩
theorem d_MatchesSelectPinLaw_atMost_0 : decode method_4_code 0 = .ok (.iload 4, 2) := by decide +kernel
theorem d_MatchesSelectPinLaw_atMost_2 : decode method_4_code 2 = .ok (.iload 5, 2) := by decide +kernel
theorem d_MatchesSelectPinLaw_atMost_4 : decode method_4_code 4 = .ok (.if_icmp .ge 13, 3) := by decide +kernel
theorem d_MatchesSelectPinLaw_atMost_7 : decode method_4_code 7 = .ok (.dload_n 0, 1) := by decide +kernel
theorem d_MatchesSelectPinLaw_atMost_8 : decode method_4_code 8 = .ok (.dload_n 2, 1) := by decide +kernel
theorem d_MatchesSelectPinLaw_atMost_9 : decode method_4_code 9 = .ok (.dcmp .g, 1) := by decide +kernel
theorem d_MatchesSelectPinLaw_atMost_10 : decode method_4_code 10 = .ok (.ifCond .gt 7, 3) := by decide +kernel
theorem d_MatchesSelectPinLaw_atMost_13 : decode method_4_code 13 = .ok (.iconst 1, 1) := by decide +kernel
theorem d_MatchesSelectPinLaw_atMost_14 : decode method_4_code 14 = .ok (.goto 4, 3) := by decide +kernel
theorem d_MatchesSelectPinLaw_atMost_17 : decode method_4_code 17 = .ok (.iconst 0, 1) := by decide +kernel
theorem d_MatchesSelectPinLaw_atMost_18 : decode method_4_code 18 = .ok (.ireturn, 1) := by decide +kernel
theorem pn_MatchesSelectPinLaw_atMost : plainFor (⟨"com/example/quern/quern/MatchesSelectPinLaw", "atMost", "(DDII)I"⟩ : MethodName) = true := plainFor_of_name (by first | (simp [plainName, overriddenIn, x]; done) | decide +kernel)
theorem pd_MatchesSelectPinLaw_atMost : parseMethodDescriptor "(DDII)I" = some ⟨[.double, .double, .int, .int], (some .int)⟩ := by decide +kernel
set_option maxRecDepth 65536 in
set_option maxHeartbeats 40000000 in
theorem rm_atMost (l : Launch) (Z : State) (a0 : Array Value) (hw : ∀ d ∈ tables_1, d.before a0 Z = true) (x w : Int32) (i n : Int32) (ii nn : Nat) (h0 : Heap) (hi : i.toInt = (ii : Int)) (hn : n.toInt = (nn : Int)) : Wk.Met l (⟨"com/example/quern/quern/MatchesSelectPinLaw", "atMost", "(DDII)I"⟩ : MethodName) method_4_code 6 (some .int) ({ frames := 0, cells := 0, slots := 0, locals := 0 } : Room) #[(.double (FP.i2d x)), (.double (FP.i2d w)), (.int i), (.int n)] Z h0 (fun r h L => r = some (.int (if ii < nn ∧ decide (¬ w < x) = true then (1 : Int32) else 0)) ∧ h = h0 ∧ L = []) [] := by
  refine Wk.enter pn_MatchesSelectPinLaw_atMost (fun p e s m below meth c T0 k X0 e0 => ?_)
  refine (Wk.Ends.cast (ef_dd m (FP.i2d x) (FP.i2d w) i n) ?_)
  refine Wk.iload k X0 d_MatchesSelectPinLaw_atMost_0 rfl 2 rfl ?_
  refine Wk.iload k X0 d_MatchesSelectPinLaw_atMost_2 rfl 4 rfl ?_
  refine Wk.icmp_ge k X0 d_MatchesSelectPinLaw_atMost_4 (by decide) 17 7 (by decide) rfl (fun hc4 => ?_) (fun hc4 => ?_)
  · refine Wk.iconst k X0 d_MatchesSelectPinLaw_atMost_17 (0 : Int32) rfl 18 rfl ?_
    exact Wk.ret_int k X0 rfl d_MatchesSelectPinLaw_atMost_18 (by decide) (by decide) ⟨congrArg (fun z => some (Value.int z)) (own_n fun z => hc4 ((own_lt32 hi hn).mpr z.1)), e0, rfl⟩
  · refine Wk.dload_n k X0 d_MatchesSelectPinLaw_atMost_7 rfl 8 rfl ?_
    refine Wk.dload_n k X0 d_MatchesSelectPinLaw_atMost_8 rfl 9 rfl ?_
    refine Wk.dcmp_gt k X0 d_MatchesSelectPinLaw_atMost_9 10 rfl d_MatchesSelectPinLaw_atMost_10 (by decide) 17 13 (by decide) rfl (fun hc10 => ?_) (fun hc10 => ?_)
    · refine Wk.iconst k X0 d_MatchesSelectPinLaw_atMost_17 (0 : Int32) rfl 18 rfl ?_
      exact Wk.ret_int k X0 rfl d_MatchesSelectPinLaw_atMost_18 (by decide) (by decide) ⟨congrArg (fun z => some (Value.int z)) (own_n fun z => (of_decide_eq_true z.2) hc10), e0, rfl⟩
    · refine Wk.iconst k X0 d_MatchesSelectPinLaw_atMost_13 (1 : Int32) rfl 14 rfl ?_
      refine Wk.goto k X0 d_MatchesSelectPinLaw_atMost_14 (by decide) 18 (by decide) ?_
      exact Wk.ret_int k X0 rfl d_MatchesSelectPinLaw_atMost_18 (by decide) (by decide) ⟨congrArg (fun z => some (Value.int z)) (own_y ⟨(own_lt32 hi hn).mp hc4, decide_eq_true hc10⟩), e0, rfl⟩
theorem d_MatchesSelectPinLaw_kept_0 : decode method_5_code 0 = .ok (.iload 4, 2) := by decide +kernel
theorem d_MatchesSelectPinLaw_kept_2 : decode method_5_code 2 = .ok (.iload 5, 2) := by decide +kernel
theorem d_MatchesSelectPinLaw_kept_4 : decode method_5_code 4 = .ok (.if_icmp .lt 9, 3) := by decide +kernel
theorem d_MatchesSelectPinLaw_kept_7 : decode method_5_code 7 = .ok (.dload_n 0, 1) := by decide +kernel
theorem d_MatchesSelectPinLaw_kept_8 : decode method_5_code 8 = .ok (.dload_n 2, 1) := by decide +kernel
theorem d_MatchesSelectPinLaw_kept_9 : decode method_5_code 9 = .ok (.dcmp .l, 1) := by decide +kernel
theorem d_MatchesSelectPinLaw_kept_10 : decode method_5_code 10 = .ok (.ifCond .ne 7, 3) := by decide +kernel
theorem d_MatchesSelectPinLaw_kept_13 : decode method_5_code 13 = .ok (.iconst 1, 1) := by decide +kernel
theorem d_MatchesSelectPinLaw_kept_14 : decode method_5_code 14 = .ok (.goto 4, 3) := by decide +kernel
theorem d_MatchesSelectPinLaw_kept_18 : decode method_5_code 18 = .ok (.ireturn, 1) := by decide +kernel
theorem pn_MatchesSelectPinLaw_kept : plainFor (⟨"com/example/quern/quern/MatchesSelectPinLaw", "kept", "(DDII)Z"⟩ : MethodName) = true := plainFor_of_name (by first | (simp [plainName, overriddenIn, x]; done) | decide +kernel)
theorem pd_MatchesSelectPinLaw_kept : parseMethodDescriptor "(DDII)Z" = some ⟨[.double, .double, .int, .int], (some .boolean)⟩ := by decide +kernel
set_option maxRecDepth 65536 in
set_option maxHeartbeats 40000000 in
theorem rm_kept (l : Launch) (Z : State) (a0 : Array Value) (hw : ∀ d ∈ tables_1, d.before a0 Z = true) (x w : Int32) (i n : Int32) (ii nn : Nat) (h0 : Heap) (hi : i.toInt = (ii : Int)) (hn : n.toInt = (nn : Int)) (hk : ii < nn ∨ x = w) : Wk.Met l (⟨"com/example/quern/quern/MatchesSelectPinLaw", "kept", "(DDII)Z"⟩ : MethodName) method_5_code 6 (some .boolean) ({ frames := 0, cells := 0, slots := 0, locals := 0 } : Room) #[(.double (FP.i2d x)), (.double (FP.i2d w)), (.int i), (.int n)] Z h0 (fun r h L => r = some (.int 1) ∧ h = h0 ∧ L = []) [] := by
  refine Wk.enter pn_MatchesSelectPinLaw_kept (fun p e s m below meth c T0 k X0 e0 => ?_)
  refine (Wk.Ends.cast (ef_dd m (FP.i2d x) (FP.i2d w) i n) ?_)
  refine Wk.iload k X0 d_MatchesSelectPinLaw_kept_0 rfl 2 rfl ?_
  refine Wk.iload k X0 d_MatchesSelectPinLaw_kept_2 rfl 4 rfl ?_
  refine Wk.icmp_lt k X0 d_MatchesSelectPinLaw_kept_4 (by decide) 13 7 (by decide) rfl (fun hc4 => ?_) (fun hc4 => ?_)
  · refine Wk.iconst k X0 d_MatchesSelectPinLaw_kept_13 (1 : Int32) rfl 14 rfl ?_
    refine Wk.goto k X0 d_MatchesSelectPinLaw_kept_14 (by decide) 18 (by decide) ?_
    exact Wk.ret_bool k X0 rfl d_MatchesSelectPinLaw_kept_18 (by decide) (by decide) (by decide) ⟨rfl, e0, rfl⟩
  · refine Wk.dload_n k X0 d_MatchesSelectPinLaw_kept_7 rfl 8 rfl ?_
    refine Wk.dload_n k X0 d_MatchesSelectPinLaw_kept_8 rfl 9 rfl ?_
    refine Wk.dcmp_ne k X0 d_MatchesSelectPinLaw_kept_9 10 rfl d_MatchesSelectPinLaw_kept_10 (by decide) 17 13 (by decide) rfl (fun hc10 => ?_) (fun hc10 => ?_)
    · exact absurd (hk.resolve_left (fun z => hc4 ((own_lt32 hi hn).mpr z))) hc10
    · refine Wk.iconst k X0 d_MatchesSelectPinLaw_kept_13 (1 : Int32) rfl 14 rfl ?_
      refine Wk.goto k X0 d_MatchesSelectPinLaw_kept_14 (by decide) 18 (by decide) ?_
      exact Wk.ret_bool k X0 rfl d_MatchesSelectPinLaw_kept_18 (by decide) (by decide) (by decide) ⟨rfl, e0, rfl⟩
theorem d_Matches_select_0 : decode prog_59_method_8_code 0 = .ok (.iconst 0, 1) := by decide +kernel
theorem d_Matches_select_1 : decode prog_59_method_8_code 1 = .ok (.istore_n 3, 1) := by decide +kernel
theorem d_Matches_select_2 : decode prog_59_method_8_code 2 = .ok (.iload_n 1, 1) := by decide +kernel
theorem d_Matches_select_3 : decode prog_59_method_8_code 3 = .ok (.iconst 1, 1) := by decide +kernel
theorem d_Matches_select_4 : decode prog_59_method_8_code 4 = .ok (.isub, 1) := by decide +kernel
theorem d_Matches_select_5 : decode prog_59_method_8_code 5 = .ok (.istore 4, 2) := by decide +kernel
theorem d_Matches_select_7 : decode prog_59_method_8_code 7 = .ok (.iload_n 3, 1) := by decide +kernel
theorem d_Matches_select_8 : decode prog_59_method_8_code 8 = .ok (.iload 4, 2) := by decide +kernel
theorem d_Matches_select_10 : decode prog_59_method_8_code 10 = .ok (.if_icmp .ge 120, 3) := by decide +kernel
theorem d_Matches_select_13 : decode prog_59_method_8_code 13 = .ok (.aload_n 0, 1) := by decide +kernel
theorem d_Matches_select_14 : decode prog_59_method_8_code 14 = .ok (.iload_n 3, 1) := by decide +kernel
theorem d_Matches_select_15 : decode prog_59_method_8_code 15 = .ok (.iload 4, 2) := by decide +kernel
theorem d_Matches_select_17 : decode prog_59_method_8_code 17 = .ok (.iadd, 1) := by decide +kernel
theorem d_Matches_select_18 : decode prog_59_method_8_code 18 = .ok (.iconst 1, 1) := by decide +kernel
theorem d_Matches_select_19 : decode prog_59_method_8_code 19 = .ok (.iushr, 1) := by decide +kernel
theorem d_Matches_select_20 : decode prog_59_method_8_code 20 = .ok (.daload, 1) := by decide +kernel
theorem d_Matches_select_21 : decode prog_59_method_8_code 21 = .ok (.dstore 5, 2) := by decide +kernel
theorem d_Matches_select_23 : decode prog_59_method_8_code 23 = .ok (.iload_n 3, 1) := by decide +kernel
theorem d_Matches_select_24 : decode prog_59_method_8_code 24 = .ok (.istore 7, 2) := by decide +kernel
theorem d_Matches_select_26 : decode prog_59_method_8_code 26 = .ok (.iload 4, 2) := by decide +kernel
theorem d_Matches_select_28 : decode prog_59_method_8_code 28 = .ok (.istore 8, 2) := by decide +kernel
theorem d_Matches_select_30 : decode prog_59_method_8_code 30 = .ok (.iload 7, 2) := by decide +kernel
theorem d_Matches_select_32 : decode prog_59_method_8_code 32 = .ok (.iload 8, 2) := by decide +kernel
theorem d_Matches_select_34 : decode prog_59_method_8_code 34 = .ok (.if_icmp .gt 71, 3) := by decide +kernel
theorem d_Matches_select_37 : decode prog_59_method_8_code 37 = .ok (.aload_n 0, 1) := by decide +kernel
theorem d_Matches_select_38 : decode prog_59_method_8_code 38 = .ok (.iload 7, 2) := by decide +kernel
theorem d_Matches_select_40 : decode prog_59_method_8_code 40 = .ok (.daload, 1) := by decide +kernel
theorem d_Matches_select_41 : decode prog_59_method_8_code 41 = .ok (.dload 5, 2) := by decide +kernel
theorem d_Matches_select_43 : decode prog_59_method_8_code 43 = .ok (.dcmp .g, 1) := by decide +kernel
theorem d_Matches_select_44 : decode prog_59_method_8_code 44 = .ok (.ifCond .ge 9, 3) := by decide +kernel
theorem d_Matches_select_47 : decode prog_59_method_8_code 47 = .ok (.iinc 7 1, 3) := by decide +kernel
theorem d_Matches_select_50 : decode prog_59_method_8_code 50 = .ok (.goto (-13), 3) := by decide +kernel
theorem d_Matches_select_53 : decode prog_59_method_8_code 53 = .ok (.aload_n 0, 1) := by decide +kernel
theorem d_Matches_select_54 : decode prog_59_method_8_code 54 = .ok (.iload 8, 2) := by decide +kernel
theorem d_Matches_select_56 : decode prog_59_method_8_code 56 = .ok (.daload, 1) := by decide +kernel
theorem d_Matches_select_57 : decode prog_59_method_8_code 57 = .ok (.dload 5, 2) := by decide +kernel
theorem d_Matches_select_59 : decode prog_59_method_8_code 59 = .ok (.dcmp .l, 1) := by decide +kernel
theorem d_Matches_select_60 : decode prog_59_method_8_code 60 = .ok (.ifCond .le 9, 3) := by decide +kernel
theorem d_Matches_select_63 : decode prog_59_method_8_code 63 = .ok (.iinc 8 (-1), 3) := by decide +kernel
theorem d_Matches_select_66 : decode prog_59_method_8_code 66 = .ok (.goto (-13), 3) := by decide +kernel
theorem d_Matches_select_69 : decode prog_59_method_8_code 69 = .ok (.iload 7, 2) := by decide +kernel
theorem d_Matches_select_71 : decode prog_59_method_8_code 71 = .ok (.iload 8, 2) := by decide +kernel
theorem d_Matches_select_73 : decode prog_59_method_8_code 73 = .ok (.if_icmp .gt (-43), 3) := by decide +kernel
theorem d_Matches_select_76 : decode prog_59_method_8_code 76 = .ok (.aload_n 0, 1) := by decide +kernel
theorem d_Matches_select_77 : decode prog_59_method_8_code 77 = .ok (.iload 7, 2) := by decide +kernel
theorem d_Matches_select_79 : decode prog_59_method_8_code 79 = .ok (.daload, 1) := by decide +kernel
theorem d_Matches_select_80 : decode prog_59_method_8_code 80 = .ok (.dstore 9, 2) := by decide +kernel
theorem d_Matches_select_82 : decode prog_59_method_8_code 82 = .ok (.aload_n 0, 1) := by decide +kernel
theorem d_Matches_select_83 : decode prog_59_method_8_code 83 = .ok (.iload 7, 2) := by decide +kernel
theorem d_Matches_select_85 : decode prog_59_method_8_code 85 = .ok (.iinc 7 1, 3) := by decide +kernel
theorem d_Matches_select_88 : decode prog_59_method_8_code 88 = .ok (.aload_n 0, 1) := by decide +kernel
theorem d_Matches_select_89 : decode prog_59_method_8_code 89 = .ok (.iload 8, 2) := by decide +kernel
theorem d_Matches_select_91 : decode prog_59_method_8_code 91 = .ok (.daload, 1) := by decide +kernel
theorem d_Matches_select_92 : decode prog_59_method_8_code 92 = .ok (.dastore, 1) := by decide +kernel
theorem d_Matches_select_93 : decode prog_59_method_8_code 93 = .ok (.aload_n 0, 1) := by decide +kernel
theorem d_Matches_select_94 : decode prog_59_method_8_code 94 = .ok (.iload 8, 2) := by decide +kernel
theorem d_Matches_select_96 : decode prog_59_method_8_code 96 = .ok (.iinc 8 (-1), 3) := by decide +kernel
theorem d_Matches_select_99 : decode prog_59_method_8_code 99 = .ok (.dload 9, 2) := by decide +kernel
theorem d_Matches_select_101 : decode prog_59_method_8_code 101 = .ok (.dastore, 1) := by decide +kernel
theorem d_Matches_select_102 : decode prog_59_method_8_code 102 = .ok (.goto (-72), 3) := by decide +kernel
theorem d_Matches_select_105 : decode prog_59_method_8_code 105 = .ok (.iload_n 2, 1) := by decide +kernel
theorem d_Matches_select_106 : decode prog_59_method_8_code 106 = .ok (.iload 8, 2) := by decide +kernel
theorem d_Matches_select_108 : decode prog_59_method_8_code 108 = .ok (.if_icmp .gt 10, 3) := by decide +kernel
theorem d_Matches_select_111 : decode prog_59_method_8_code 111 = .ok (.iload 8, 2) := by decide +kernel
theorem d_Matches_select_113 : decode prog_59_method_8_code 113 = .ok (.istore 4, 2) := by decide +kernel
theorem d_Matches_select_115 : decode prog_59_method_8_code 115 = .ok (.goto 12, 3) := by decide +kernel
theorem d_Matches_select_118 : decode prog_59_method_8_code 118 = .ok (.iload_n 2, 1) := by decide +kernel
theorem d_Matches_select_119 : decode prog_59_method_8_code 119 = .ok (.iload 7, 2) := by decide +kernel
theorem d_Matches_select_121 : decode prog_59_method_8_code 121 = .ok (.if_icmp .lt 9, 3) := by decide +kernel
theorem d_Matches_select_124 : decode prog_59_method_8_code 124 = .ok (.iload 7, 2) := by decide +kernel
theorem d_Matches_select_126 : decode prog_59_method_8_code 126 = .ok (.istore_n 3, 1) := by decide +kernel
theorem d_Matches_select_127 : decode prog_59_method_8_code 127 = .ok (.goto (-120), 3) := by decide +kernel
theorem d_Matches_select_130 : decode prog_59_method_8_code 130 = .ok (.aload_n 0, 1) := by decide +kernel
theorem d_Matches_select_131 : decode prog_59_method_8_code 131 = .ok (.iload_n 2, 1) := by decide +kernel
theorem d_Matches_select_132 : decode prog_59_method_8_code 132 = .ok (.daload, 1) := by decide +kernel
theorem d_Matches_select_133 : decode prog_59_method_8_code 133 = .ok (.dreturn, 1) := by decide +kernel
theorem pn_Matches_select : plainFor (⟨"com/example/quern/quern/Matches", "select", "([DII)D"⟩ : MethodName) = true := plainFor_of_name (by first | (simp [plainName, overriddenIn, x]; done) | decide +kernel)
theorem pd_Matches_select : parseMethodDescriptor "([DII)D" = some ⟨[(.array .double), .int, .int], (some .double)⟩ := by decide +kernel
set_option maxRecDepth 65536 in
set_option maxHeartbeats 40000000 in
theorem sel_130 {p : Program} {l : Launch} {e : Env} {s : State} {m : MethodId} {args : Array Value} {below : List Frame} {meth : Method} {c : Code} {Z : State} {a0 : Array Value} {h0 : Heap} {n0 : Nat} (hw : ∀ d ∈ tables_1, d.before a0 Z = true) (k : Wk.K p s m meth c Z (⟨"com/example/quern/quern/Matches", "select", "([DII)D"⟩ : MethodName) prog_59_method_8_code 11 (some .double)) (a : Addr) (os : List Int32) (n rk : Nat) (nI rI : Int32) (hn : nI.toInt = (n : Int)) (hrk : rI.toInt = (rk : Int)) (hn5 : n ≤ 5) (hrn : rk < n) (g1 : n0 ≤ a) (lI tI : Int32) (s5 s6 s7 s8 s9 s10 : Slot) (xs : List Int32) (lf rt : Nat) (hG : own_Gl os xs n lf rt) (hF : own_Fin xs n rk) : ∀ (T0 : State) (h1 : Heap) (locs : List Loc), Stand p l e ({ frames := 0, cells := 0, slots := 0, locals := 0 } : Room) s m args below meth c T0 locs 0 0 → T0.heap = h1 → Keep h0 h1 [a] → Fr n0 locs → Wk.Arl Z h1 a .double (xs.map own_dv) → Wk.Ends p e s below ({ frames := 0, cells := 0, slots := 0, locals := 0 } : Room) (fun r h L => ∃ xs : List Int32, r = some (.double (FP.i2d (xs.getD rk 0))) ∧ xs.length = 5 ∧ Wk.Arl Z h a .double (xs.map own_dv) ∧ (∀ k, n ≤ k → xs.getD k 0 = os.getD k 0) ∧ own_cn (fun z => decide (z < xs.getD rk 0)) os n ≤ rk ∧ rk < own_cn (fun z => decide (¬ xs.getD rk 0 < z)) os n ∧ Fr n0 L ∧ Keep h0 h [a]) T0 (mkF m 130 #[.val (.ref a), .val (.int nI), .val (.int rI), .val (.int lI), .val (.int tI), s5, s6, s7, s8, s9, s10] []) := by
  intro T0 h1 locs X0 e0 K1 N1 A1
  have hxl := hG.1
  refine Wk.aload_n k X0 d_Matches_select_130 rfl rfl 131 rfl ?_
  refine Wk.iload_n k X0 d_Matches_select_131 rfl 132 rfl ?_
  refine Wk.daload k X0 d_Matches_select_132 e0 A1 rk hrk (.double (FP.i2d (xs.getD rk 0))) (own_gd (by omega)) 133 rfl ?_
  refine Wk.ret_dbl k X0 rfl d_Matches_select_133 (by decide) (by decide) ?_
  rw [e0]
  have hle := own_less hG.2.1 hF hrn
  exact ⟨xs, rfl, hG.1, A1, hG.2.2.1, hle.1, hle.2, N1, K1⟩
set_option maxRecDepth 65536 in
set_option maxHeartbeats 40000000 in
theorem sel_37 {p : Program} {l : Launch} {e : Env} {s : State} {m : MethodId} {args : Array Value} {below : List Frame} {meth : Method} {c : Code} {Z : State} {a0 : Array Value} {h0 : Heap} {n0 : Nat} {h1 : Heap} {locs : List Loc} (hw : ∀ d ∈ tables_1, d.before a0 Z = true) (k : Wk.K p s m meth c Z (⟨"com/example/quern/quern/Matches", "select", "([DII)D"⟩ : MethodName) prog_59_method_8_code 11 (some .double)) (a : Addr) (os : List Int32) (n rk : Nat) (nI rI : Int32) (hn : nI.toInt = (n : Int)) (hrk : rI.toInt = (rk : Int)) (hn5 : n ≤ 5) (hrn : rk < n) (g1 : n0 ≤ a) (lf rt : Nat) (lI tI pz : Int32) (xs : List Int32) (hxl : xs.length = 5) (hrt : rt < n) (md J : Nat) (jI : Int32) (s9 s10 : Slot) (A1 : Wk.Arl Z h1 a .double (xs.map own_dv)) (cont : ∀ (i : Nat) (iI : Int32), iI.toInt = (i : Int) → own_Sc xs lf rt pz.toInt i J → J - i ≤ md → pz.toInt ≤ own_g xs i → ∀ T0 : State, Stand p l e ({ frames := 0, cells := 0, slots := 0, locals := 0 } : Room) s m args below meth c T0 locs 0 0 → T0.heap = h1 → Wk.Ends p e s below ({ frames := 0, cells := 0, slots := 0, locals := 0 } : Room) (fun r h L => ∃ xs : List Int32, r = some (.double (FP.i2d (xs.getD rk 0))) ∧ xs.length = 5 ∧ Wk.Arl Z h a .double (xs.map own_dv) ∧ (∀ k, n ≤ k → xs.getD k 0 = os.getD k 0) ∧ own_cn (fun z => decide (z < xs.getD rk 0)) os n ≤ rk ∧ rk < own_cn (fun z => decide (¬ xs.getD rk 0 < z)) os n ∧ Fr n0 L ∧ Keep h0 h [a]) T0 (mkF m 53 #[.val (.ref a), .val (.int nI), .val (.int rI), .val (.int lI), .val (.int tI), .val (.double (FP.i2d pz)), .second, .val (.int iI), .val (.int jI), s9, s10] [])) :
    ∀ (d i : Nat) (iI : Int32), rt + 1 - i ≤ d → iI.toInt = (i : Int) → own_Sc xs lf rt pz.toInt i J → J - i ≤ md → ∀ T0 : State, Stand p l e ({ frames := 0, cells := 0, slots := 0, locals := 0 } : Room) s m args below meth c T0 locs 0 0 → T0.heap = h1 → Wk.Ends p e s below ({ frames := 0, cells := 0, slots := 0, locals := 0 } : Room) (fun r h L => ∃ xs : List Int32, r = some (.double (FP.i2d (xs.getD rk 0))) ∧ xs.length = 5 ∧ Wk.Arl Z h a .double (xs.map own_dv) ∧ (∀ k, n ≤ k → xs.getD k 0 = os.getD k 0) ∧ own_cn (fun z => decide (z < xs.getD rk 0)) os n ≤ rk ∧ rk < own_cn (fun z => decide (¬ xs.getD rk 0 < z)) os n ∧ Fr n0 L ∧ Keep h0 h [a]) T0 (mkF m 37 #[.val (.ref a), .val (.int nI), .val (.int rI), .val (.int lI), .val (.int tI), .val (.double (FP.i2d pz)), .second, .val (.int iI), .val (.int jI), s9, s10] []) := by
  intro d
  induction d with
  | zero =>
    intro i iI hd hi hS
    exact absurd hS.2.1 (by omega)
  | succ d ih =>
    intro i iI hd hi hS hm T0 X0 e0
    have hir := hS.2.1
    refine Wk.aload_n k X0 d_Matches_select_37 rfl rfl 38 rfl ?_
    refine Wk.iload k X0 d_Matches_select_38 rfl 40 rfl ?_
    refine Wk.daload k X0 d_Matches_select_40 e0 A1 i hi (.double (FP.i2d (xs.getD i 0))) (own_gd (by omega)) 41 rfl ?_
    refine Wk.dload k X0 d_Matches_select_41 rfl 43 rfl ?_
    refine Wk.dcmp_ge k X0 d_Matches_select_43 44 rfl d_Matches_select_44 (by decide) 53 47 (by decide) rfl (fun hc44 => ?_) (fun hc44 => ?_)
    · exact cont i iI hi hS hm (by rw [Int32.lt_iff_toInt_lt] at hc44; unfold own_g; omega) _ X0 e0
    · refine Wk.iinc k X0 d_Matches_select_47 rfl #[.val (.ref a), .val (.int nI), .val (.int rI), .val (.int lI), .val (.int tI), .val (.double (FP.i2d pz)), .second, .val (.int (iI + (1 : Int32))), .val (.int jI), s9, s10] rfl 50 rfl ?_
      refine Wk.goto k X0 d_Matches_select_50 (by decide) 37 (by decide) ?_
      exact ih (i + 1) _ (by omega) (own_inc1 hi (by omega)) (own_Sc_i hS (by rw [Int32.lt_iff_toInt_lt] at hc44; exact hc44)) (by omega) _ X0 e0
set_option maxRecDepth 65536 in
set_option maxHeartbeats 40000000 in
theorem sel_53 {p : Program} {l : Launch} {e : Env} {s : State} {m : MethodId} {args : Array Value} {below : List Frame} {meth : Method} {c : Code} {Z : State} {a0 : Array Value} {h0 : Heap} {n0 : Nat} {h1 : Heap} {locs : List Loc} (hw : ∀ d ∈ tables_1, d.before a0 Z = true) (k : Wk.K p s m meth c Z (⟨"com/example/quern/quern/Matches", "select", "([DII)D"⟩ : MethodName) prog_59_method_8_code 11 (some .double)) (a : Addr) (os : List Int32) (n rk : Nat) (nI rI : Int32) (hn : nI.toInt = (n : Int)) (hrk : rI.toInt = (rk : Int)) (hn5 : n ≤ 5) (hrn : rk < n) (g1 : n0 ≤ a) (lf rt : Nat) (lI tI pz : Int32) (xs : List Int32) (hxl : xs.length = 5) (hrt : rt < n) (md i : Nat) (iI : Int32) (s9 s10 : Slot) (A1 : Wk.Arl Z h1 a .double (xs.map own_dv)) (cont : ∀ (J : Nat) (jI : Int32), jI.toInt = (J : Int) → own_Sc xs lf rt pz.toInt i (J + 1) → (J + 1) - i ≤ md → own_g xs J ≤ pz.toInt → ∀ T0 : State, Stand p l e ({ frames := 0, cells := 0, slots := 0, locals := 0 } : Room) s m args below meth c T0 locs 0 0 → T0.heap = h1 → Wk.Ends p e s below ({ frames := 0, cells := 0, slots := 0, locals := 0 } : Room) (fun r h L => ∃ xs : List Int32, r = some (.double (FP.i2d (xs.getD rk 0))) ∧ xs.length = 5 ∧ Wk.Arl Z h a .double (xs.map own_dv) ∧ (∀ k, n ≤ k → xs.getD k 0 = os.getD k 0) ∧ own_cn (fun z => decide (z < xs.getD rk 0)) os n ≤ rk ∧ rk < own_cn (fun z => decide (¬ xs.getD rk 0 < z)) os n ∧ Fr n0 L ∧ Keep h0 h [a]) T0 (mkF m 69 #[.val (.ref a), .val (.int nI), .val (.int rI), .val (.int lI), .val (.int tI), .val (.double (FP.i2d pz)), .second, .val (.int iI), .val (.int jI), s9, s10] [])) :
    ∀ (d J : Nat) (jI : Int32), J ≤ d → jI.toInt = (J : Int) - 1 → own_Sc xs lf rt pz.toInt i J → J - i ≤ md → ∀ T0 : State, Stand p l e ({ frames := 0, cells := 0, slots := 0, locals := 0 } : Room) s m args below meth c T0 locs 0 0 → T0.heap = h1 → Wk.Ends p e s below ({ frames := 0, cells := 0, slots := 0, locals := 0 } : Room) (fun r h L => ∃ xs : List Int32, r = some (.double (FP.i2d (xs.getD rk 0))) ∧ xs.length = 5 ∧ Wk.Arl Z h a .double (xs.map own_dv) ∧ (∀ k, n ≤ k → xs.getD k 0 = os.getD k 0) ∧ own_cn (fun z => decide (z < xs.getD rk 0)) os n ≤ rk ∧ rk < own_cn (fun z => decide (¬ xs.getD rk 0 < z)) os n ∧ Fr n0 L ∧ Keep h0 h [a]) T0 (mkF m 53 #[.val (.ref a), .val (.int nI), .val (.int rI), .val (.int lI), .val (.int tI), .val (.double (FP.i2d pz)), .second, .val (.int iI), .val (.int jI), s9, s10] []) := by
  intro d
  induction d with
  | zero =>
    intro J jI hd hj hS
    exact absurd hS.2.2.1 (by omega)
  | succ d ih =>
    intro J0 jI hd hj hS hm T0 X0 e0
    obtain ⟨J, rfl⟩ : ∃ J, J0 = J + 1 := ⟨J0 - 1, by have := hS.2.2.1; omega⟩
    have hj : jI.toInt = (J : Int) := by omega
    have hJr := hS.2.2.2.1
    refine Wk.aload_n k X0 d_Matches_select_53 rfl rfl 54 rfl ?_
    refine Wk.iload k X0 d_Matches_select_54 rfl 56 rfl ?_
    refine Wk.daload k X0 d_Matches_select_56 e0 A1 J hj (.double (FP.i2d (xs.getD J 0))) (own_gd (by omega)) 57 rfl ?_
    refine Wk.dload k X0 d_Matches_select_57 rfl 59 rfl ?_
    refine Wk.dcmp_le k X0 d_Matches_select_59 60 rfl d_Matches_select_60 (by decide) 69 63 (by decide) rfl (fun hc60 => ?_) (fun hc60 => ?_)
    · exact cont J jI hj hS hm (by rw [Int32.lt_iff_toInt_lt] at hc60; unfold own_g; omega) _ X0 e0
    · refine Wk.iinc k X0 d_Matches_select_63 rfl #[.val (.ref a), .val (.int nI), .val (.int rI), .val (.int lI), .val (.int tI), .val (.double (FP.i2d pz)), .second, .val (.int iI), .val (.int (jI + (-1 : Int32))), s9, s10] rfl 66 rfl ?_
      refine Wk.goto k X0 d_Matches_select_66 (by decide) 53 (by decide) ?_
      exact ih J _ (by omega) (own_dec1 hj) (own_Sc_j hS (by rw [Int32.lt_iff_toInt_lt] at hc60; exact hc60)) (by omega) _ X0 e0
set_option maxRecDepth 65536 in
set_option maxHeartbeats 40000000 in
theorem sel_69 {p : Program} {l : Launch} {e : Env} {s : State} {m : MethodId} {args : Array Value} {below : List Frame} {meth : Method} {c : Code} {Z : State} {a0 : Array Value} {h0 : Heap} {n0 : Nat} (hw : ∀ d ∈ tables_1, d.before a0 Z = true) (k : Wk.K p s m meth c Z (⟨"com/example/quern/quern/Matches", "select", "([DII)D"⟩ : MethodName) prog_59_method_8_code 11 (some .double)) (a : Addr) (os : List Int32) (n rk : Nat) (nI rI : Int32) (hn : nI.toInt = (n : Int)) (hrk : rI.toInt = (rk : Int)) (hn5 : n ≤ 5) (hrn : rk < n) (g1 : n0 ≤ a) (lf rt : Nat) (lI tI pz : Int32) (xs : List Int32) (hxl : xs.length = 5) (hrt : rt < n) (hG : own_Gl os xs n lf rt) (d : Nat) (i J : Nat) (iI jI : Int32) (s9 s10 : Slot) (hP9 : own_P2 s9 s10) (hi : iI.toInt = (i : Int)) (hj : jI.toInt = (J : Int)) (hS : own_Sc xs lf rt pz.toInt i (J + 1)) (hm : (J + 1) - i ≤ d + 1) (gi : pz.toInt ≤ own_g xs i) (gj : own_g xs J ≤ pz.toInt) (cont : ∀ (xs : List Int32) (i J : Nat) (iI jI : Int32) (s9 s10 : Slot), J - i ≤ d → iI.toInt = (i : Int) → jI.toInt = (J : Int) - 1 → own_Gl os xs n lf rt → own_In xs lf rt pz.toInt i J → own_P2 s9 s10 → ∀ (T0 : State) (h1 : Heap) (locs : List Loc), Stand p l e ({ frames := 0, cells := 0, slots := 0, locals := 0 } : Room) s m args below meth c T0 locs 0 0 → T0.heap = h1 → Keep h0 h1 [a] → Fr n0 locs → Wk.Arl Z h1 a .double (xs.map own_dv) → Wk.Ends p e s below ({ frames := 0, cells := 0, slots := 0, locals := 0 } : Room) (fun r h L => ∃ xs : List Int32, r = some (.double (FP.i2d (xs.getD rk 0))) ∧ xs.length = 5 ∧ Wk.Arl Z h a .double (xs.map own_dv) ∧ (∀ k, n ≤ k → xs.getD k 0 = os.getD k 0) ∧ own_cn (fun z => decide (z < xs.getD rk 0)) os n ≤ rk ∧ rk < own_cn (fun z => decide (¬ xs.getD rk 0 < z)) os n ∧ Fr n0 L ∧ Keep h0 h [a]) T0 (mkF m 30 #[.val (.ref a), .val (.int nI), .val (.int rI), .val (.int lI), .val (.int tI), .val (.double (FP.i2d pz)), .second, .val (.int iI), .val (.int jI), s9, s10] [])) : ∀ (T0 : State) (h1 : Heap) (locs : List Loc), Stand p l e ({ frames := 0, cells := 0, slots := 0, locals := 0 } : Room) s m args below meth c T0 locs 0 0 → T0.heap = h1 → Keep h0 h1 [a] → Fr n0 locs → Wk.Arl Z h1 a .double (xs.map own_dv) → Wk.Ends p e s below ({ frames := 0, cells := 0, slots := 0, locals := 0 } : Room) (fun r h L => ∃ xs : List Int32, r = some (.double (FP.i2d (xs.getD rk 0))) ∧ xs.length = 5 ∧ Wk.Arl Z h a .double (xs.map own_dv) ∧ (∀ k, n ≤ k → xs.getD k 0 = os.getD k 0) ∧ own_cn (fun z => decide (z < xs.getD rk 0)) os n ≤ rk ∧ rk < own_cn (fun z => decide (¬ xs.getD rk 0 < z)) os n ∧ Fr n0 L ∧ Keep h0 h [a]) T0 (mkF m 69 #[.val (.ref a), .val (.int nI), .val (.int rI), .val (.int lI), .val (.int tI), .val (.double (FP.i2d pz)), .second, .val (.int iI), .val (.int jI), s9, s10] []) := by
  intro T0 h1 locs X0 e0 K1 N1 A1
  have hir := hS.2.1
  have hJr := hS.2.2.2.1
  refine Wk.iload k X0 d_Matches_select_69 rfl 71 rfl ?_
  refine Wk.iload k X0 d_Matches_select_71 rfl 73 rfl ?_
  refine Wk.icmp_gt k X0 d_Matches_select_73 (by decide) 30 76 (by decide) rfl (fun hc73 => ?_) (fun hc73 => ?_)
  · exact cont xs i (J + 1) _ _ _ _ (by rw [Int32.lt_iff_toInt_lt] at hc73; omega) hi (by omega) hG (own_Sc_In hS (by rw [Int32.lt_iff_toInt_lt] at hc73; omega)) hP9 _ _ _ X0 e0 K1 N1 A1
  · have hiJ : i ≤ J := by rw [Int32.lt_iff_toInt_lt] at hc73; omega
    refine Wk.aload_n k X0 d_Matches_select_76 rfl rfl 77 rfl ?_
    refine Wk.iload k X0 d_Matches_select_77 rfl 79 rfl ?_
    refine Wk.daload k X0 d_Matches_select_79 e0 A1 i hi (.double (FP.i2d (xs.getD i 0))) (own_gd (by omega)) 80 rfl ?_
    refine Wk.dstore k X0 d_Matches_select_80 #[.val (.ref a), .val (.int nI), .val (.int rI), .val (.int lI), .val (.int tI), .val (.double (FP.i2d pz)), .second, .val (.int iI), .val (.int jI), .val (.double (FP.i2d (xs.getD i 0))), .second] (own_st9 hP9) 82 rfl ?_
    refine Wk.aload_n k X0 d_Matches_select_82 rfl rfl 83 rfl ?_
    refine Wk.iload k X0 d_Matches_select_83 rfl 85 rfl ?_
    refine Wk.iinc k X0 d_Matches_select_85 rfl #[.val (.ref a), .val (.int nI), .val (.int rI), .val (.int lI), .val (.int tI), .val (.double (FP.i2d pz)), .second, .val (.int (iI + (1 : Int32))), .val (.int jI), .val (.double (FP.i2d (xs.getD i 0))), .second] rfl 88 rfl ?_
    refine Wk.aload_n k X0 d_Matches_select_88 rfl rfl 89 rfl ?_
    refine Wk.iload k X0 d_Matches_select_89 rfl 91 rfl ?_
    refine Wk.daload k X0 d_Matches_select_91 e0 A1 J hj (.double (FP.i2d (xs.getD J 0))) (own_gd (by omega)) 92 rfl ?_
    refine Wk.dastore k X0 (x := (FP.i2d (xs.getD J 0))) d_Matches_select_92 e0 A1 i hi (by simp only [List.length_map, List.length_set]; omega) 93 rfl fun T101 h101 X101 e101 W101 A101 => ?_
    have N102 := Fr.snoc X101 N1 g1
    have K103 := K1.wr W101 (Or.inl (List.mem_of_getElem? (i := 0) rfl))
    refine Wk.aload_n k X101 d_Matches_select_93 rfl rfl 94 rfl ?_
    refine Wk.iload k X101 d_Matches_select_94 rfl 96 rfl ?_
    refine Wk.iinc k X101 d_Matches_select_96 rfl #[.val (.ref a), .val (.int nI), .val (.int rI), .val (.int lI), .val (.int tI), .val (.double (FP.i2d pz)), .second, .val (.int (iI + (1 : Int32))), .val (.int (jI + (-1 : Int32))), .val (.double (FP.i2d (xs.getD i 0))), .second] rfl 99 rfl ?_
    refine Wk.dload k X101 d_Matches_select_99 rfl 101 rfl ?_
    refine Wk.dastore k X101 (x := (FP.i2d (xs.getD i 0))) d_Matches_select_101 e101 A101 J hj (by simp only [List.length_map, List.length_set]; omega) 102 rfl fun T104 h104 X104 e104 W104 A104 => ?_
    have N105 := Fr.snoc X104 N102 g1
    have K106 := K103.wr W104 (Or.inl (List.mem_of_getElem? (i := 0) rfl))
    refine Wk.goto k X104 d_Matches_select_102 (by decide) 30 (by decide) ?_
    have AZ := A104
    rw [own_swm] at AZ
    exact cont _ (i + 1) J _ _ _ _ (by omega) (own_inc1 hi (by omega)) (own_dec1 hj) (own_Gl_sw hG hS.1 (by omega) (by omega) hrt hn5) (own_In_sw hS (by omega) (by omega) gi gj) (Or.inr ⟨_, rfl, rfl⟩) _ _ _ X104 e104 K106 N105 AZ
set_option maxRecDepth 65536 in
set_option maxHeartbeats 40000000 in
theorem sel_30 {p : Program} {l : Launch} {e : Env} {s : State} {m : MethodId} {args : Array Value} {below : List Frame} {meth : Method} {c : Code} {Z : State} {a0 : Array Value} {h0 : Heap} {n0 : Nat} (hw : ∀ d ∈ tables_1, d.before a0 Z = true) (k : Wk.K p s m meth c Z (⟨"com/example/quern/quern/Matches", "select", "([DII)D"⟩ : MethodName) prog_59_method_8_code 11 (some .double)) (a : Addr) (os : List Int32) (n rk : Nat) (nI rI : Int32) (hn : nI.toInt = (n : Int)) (hrk : rI.toInt = (rk : Int)) (hn5 : n ≤ 5) (hrn : rk < n) (g1 : n0 ≤ a) (lf rt : Nat) (lI tI pz : Int32) (hrt : rt < n) (cont : ∀ (xs : List Int32) (i J : Nat) (iI jI : Int32) (s9 s10 : Slot), J ≤ i → iI.toInt = (i : Int) → jI.toInt = (J : Int) - 1 → own_Gl os xs n lf rt → own_In xs lf rt pz.toInt i J → own_P2 s9 s10 → ∀ (T0 : State) (h1 : Heap) (locs : List Loc), Stand p l e ({ frames := 0, cells := 0, slots := 0, locals := 0 } : Room) s m args below meth c T0 locs 0 0 → T0.heap = h1 → Keep h0 h1 [a] → Fr n0 locs → Wk.Arl Z h1 a .double (xs.map own_dv) → Wk.Ends p e s below ({ frames := 0, cells := 0, slots := 0, locals := 0 } : Room) (fun r h L => ∃ xs : List Int32, r = some (.double (FP.i2d (xs.getD rk 0))) ∧ xs.length = 5 ∧ Wk.Arl Z h a .double (xs.map own_dv) ∧ (∀ k, n ≤ k → xs.getD k 0 = os.getD k 0) ∧ own_cn (fun z => decide (z < xs.getD rk 0)) os n ≤ rk ∧ rk < own_cn (fun z => decide (¬ xs.getD rk 0 < z)) os n ∧ Fr n0 L ∧ Keep h0 h [a]) T0 (mkF m 105 #[.val (.ref a), .val (.int nI), .val (.int rI), .val (.int lI), .val (.int tI), .val (.double (FP.i2d pz)), .second, .val (.int iI), .val (.int jI), s9, s10] [])) :
    ∀ d : Nat, ∀ (xs : List Int32) (i J : Nat) (iI jI : Int32) (s9 s10 : Slot), J - i ≤ d → iI.toInt = (i : Int) → jI.toInt = (J : Int) - 1 → own_Gl os xs n lf rt → own_In xs lf rt pz.toInt i J → own_P2 s9 s10 → ∀ (T0 : State) (h1 : Heap) (locs : List Loc), Stand p l e ({ frames := 0, cells := 0, slots := 0, locals := 0 } : Room) s m args below meth c T0 locs 0 0 → T0.heap = h1 → Keep h0 h1 [a] → Fr n0 locs → Wk.Arl Z h1 a .double (xs.map own_dv) → Wk.Ends p e s below ({ frames := 0, cells := 0, slots := 0, locals := 0 } : Room) (fun r h L => ∃ xs : List Int32, r = some (.double (FP.i2d (xs.getD rk 0))) ∧ xs.length = 5 ∧ Wk.Arl Z h a .double (xs.map own_dv) ∧ (∀ k, n ≤ k → xs.getD k 0 = os.getD k 0) ∧ own_cn (fun z => decide (z < xs.getD rk 0)) os n ≤ rk ∧ rk < own_cn (fun z => decide (¬ xs.getD rk 0 < z)) os n ∧ Fr n0 L ∧ Keep h0 h [a]) T0 (mkF m 30 #[.val (.ref a), .val (.int nI), .val (.int rI), .val (.int lI), .val (.int tI), .val (.double (FP.i2d pz)), .second, .val (.int iI), .val (.int jI), s9, s10] []) := by
  intro d
  induction d with
  | zero =>
    intro xs i J iI jI s9 s10 hd hi hj hG hIn hP9 T0 h1 locs X0 e0 K1 N1 A1
    refine Wk.iload k X0 d_Matches_select_30 rfl 32 rfl ?_
    refine Wk.iload k X0 d_Matches_select_32 rfl 34 rfl ?_
    refine Wk.icmp_gt k X0 d_Matches_select_34 (by decide) 105 37 (by decide) rfl (fun hc34 => ?_) (fun hc34 => ?_)
    · exact cont xs i J _ _ _ _ (by rw [Int32.lt_iff_toInt_lt] at hc34; omega) hi hj hG hIn hP9 _ _ _ X0 e0 K1 N1 A1
    · exact absurd (by rw [Int32.lt_iff_toInt_lt]; omega) hc34
  | succ d ih =>
    intro xs i J iI jI s9 s10 hd hi hj hG hIn hP9 T0 h1 locs X0 e0 K1 N1 A1
    refine Wk.iload k X0 d_Matches_select_30 rfl 32 rfl ?_
    refine Wk.iload k X0 d_Matches_select_32 rfl 34 rfl ?_
    refine Wk.icmp_gt k X0 d_Matches_select_34 (by decide) 105 37 (by decide) rfl (fun hc34 => ?_) (fun hc34 => ?_)
    · exact cont xs i J _ _ _ _ (by rw [Int32.lt_iff_toInt_lt] at hc34; omega) hi hj hG hIn hP9 _ _ _ X0 e0 K1 N1 A1
    · have hS := own_In_Sc hIn (by rw [Int32.lt_iff_toInt_lt] at hc34; omega)
      exact sel_37 hw k a os n rk nI rI hn hrk hn5 hrn g1 lf rt lI tI pz xs hG.1 hrt (d + 1) J jI s9 s10 A1 (fun i' iI' hi' hS' hm' gi T1 X1 e1 => sel_53 hw k a os n rk nI rI hn hrk hn5 hrn g1 lf rt lI tI pz xs hG.1 hrt (d + 1) i' iI' s9 s10 A1 (fun J' jI' hj' hS2 hm2 gj T2 X2 e2 => sel_69 hw k a os n rk nI rI hn hrk hn5 hrn g1 lf rt lI tI pz xs hG.1 hrt hG d i' J' iI' jI' s9 s10 hP9 hi' hj' hS2 hm2 gi gj ih T2 h1 locs X2 e2 K1 N1 A1) _ J jI (Nat.le_refl _) hj hS' hm' T1 X1 e1) _ i iI (Nat.le_refl _) hi hS hd _ X0 e0
set_option maxRecDepth 65536 in
set_option maxHeartbeats 40000000 in
theorem sel_7 {p : Program} {l : Launch} {e : Env} {s : State} {m : MethodId} {args : Array Value} {below : List Frame} {meth : Method} {c : Code} {Z : State} {a0 : Array Value} {h0 : Heap} {n0 : Nat} (hw : ∀ d ∈ tables_1, d.before a0 Z = true) (k : Wk.K p s m meth c Z (⟨"com/example/quern/quern/Matches", "select", "([DII)D"⟩ : MethodName) prog_59_method_8_code 11 (some .double)) (a : Addr) (os : List Int32) (n rk : Nat) (nI rI : Int32) (hn : nI.toInt = (n : Int)) (hrk : rI.toInt = (rk : Int)) (hn5 : n ≤ 5) (hrn : rk < n) (g1 : n0 ≤ a) :
    ∀ (d lf rt : Nat) (lI tI : Int32) (xs : List Int32) (s5 s6 s7 s8 s9 s10 : Slot), rt - lf ≤ d → lf ≤ rk → rk ≤ rt → rt < n → lI.toInt = (lf : Int) → tI.toInt = (rt : Int) → own_Gl os xs n lf rt → own_P2 s5 s6 → own_P1 s7 → own_P1 s8 → own_P2 s9 s10 → ∀ (T0 : State) (h1 : Heap) (locs : List Loc), Stand p l e ({ frames := 0, cells := 0, slots := 0, locals := 0 } : Room) s m args below meth c T0 locs 0 0 → T0.heap = h1 → Keep h0 h1 [a] → Fr n0 locs → Wk.Arl Z h1 a .double (xs.map own_dv) → Wk.Ends p e s below ({ frames := 0, cells := 0, slots := 0, locals := 0 } : Room) (fun r h L => ∃ xs : List Int32, r = some (.double (FP.i2d (xs.getD rk 0))) ∧ xs.length = 5 ∧ Wk.Arl Z h a .double (xs.map own_dv) ∧ (∀ k, n ≤ k → xs.getD k 0 = os.getD k 0) ∧ own_cn (fun z => decide (z < xs.getD rk 0)) os n ≤ rk ∧ rk < own_cn (fun z => decide (¬ xs.getD rk 0 < z)) os n ∧ Fr n0 L ∧ Keep h0 h [a]) T0 (mkF m 7 #[.val (.ref a), .val (.int nI), .val (.int rI), .val (.int lI), .val (.int tI), s5, s6, s7, s8, s9, s10] []) := by
  intro d
  induction d with
  | zero =>
    intro lf rt lI tI xs s5 s6 s7 s8 s9 s10 hd hlk hkr hrn2 hl ht hG hP5 hP7 hP8 hP9 T0 h1 locs X0 e0 K1 N1 A1
    have hxl := hG.1
    refine Wk.iload_n k X0 d_Matches_select_7 rfl 8 rfl ?_
    refine Wk.iload k X0 d_Matches_select_8 rfl 10 rfl ?_
    refine Wk.icmp_ge k X0 d_Matches_select_10 (by decide) 130 13 (by decide) rfl (fun hc10 => ?_) (fun hc10 => ?_)
    · obtain rfl : lf = rt := by rw [Int32.lt_iff_toInt_lt] at hc10; omega
      obtain rfl : rk = lf := by omega
      exact sel_130 hw k a os n rk nI rI hn hrk hn5 hrn g1 _ _ _ _ _ _ _ _ xs _ _ hG (own_Fin_end hG hrn) _ _ _ X0 e0 K1 N1 A1
    · exact absurd hc10 (by rw [Int32.lt_iff_toInt_lt]; omega)
  | succ d ih =>
    intro lf rt lI tI xs s5 s6 s7 s8 s9 s10 hd hlk hkr hrn2 hl ht hG hP5 hP7 hP8 hP9 T0 h1 locs X0 e0 K1 N1 A1
    have hxl := hG.1
    refine Wk.iload_n k X0 d_Matches_select_7 rfl 8 rfl ?_
    refine Wk.iload k X0 d_Matches_select_8 rfl 10 rfl ?_
    refine Wk.icmp_ge k X0 d_Matches_select_10 (by decide) 130 13 (by decide) rfl (fun hc10 => ?_) (fun hc10 => ?_)
    · obtain rfl : lf = rt := by rw [Int32.lt_iff_toInt_lt] at hc10; omega
      obtain rfl : rk = lf := by omega
      exact sel_130 hw k a os n rk nI rI hn hrk hn5 hrn g1 _ _ _ _ _ _ _ _ xs _ _ hG (own_Fin_end hG hrn) _ _ _ X0 e0 K1 N1 A1
    · refine Wk.aload_n k X0 d_Matches_select_13 rfl rfl 14 rfl ?_
      refine Wk.iload_n k X0 d_Matches_select_14 rfl 15 rfl ?_
      refine Wk.iload k X0 d_Matches_select_15 rfl 17 rfl ?_
      refine Wk.iadd k X0 d_Matches_select_17 18 rfl ?_
      refine Wk.iconst k X0 d_Matches_select_18 (1 : Int32) rfl 19 rfl ?_
      refine Wk.iushr k X0 d_Matches_select_19 20 rfl ?_
      have hlr : lf < rt := by rw [Int32.lt_iff_toInt_lt] at hc10; omega
      refine Wk.daload k X0 d_Matches_select_20 e0 A1 ((lf + rt) / 2) (own_half (own_add2 hl ht (by omega) (by omega))) (.double (FP.i2d (xs.getD ((lf + rt) / 2) 0))) (own_gd (by omega)) 21 rfl ?_
      refine Wk.dstore k X0 d_Matches_select_21 #[.val (.ref a), .val (.int nI), .val (.int rI), .val (.int lI), .val (.int tI), .val (.double (FP.i2d (xs.getD ((lf + rt) / 2) 0))), .second, s7, s8, s9, s10] (own_st5 hP5) 23 rfl ?_
      refine Wk.iload_n k X0 d_Matches_select_23 rfl 24 rfl ?_
      refine Wk.istore k X0 d_Matches_select_24 #[.val (.ref a), .val (.int nI), .val (.int rI), .val (.int lI), .val (.int tI), .val (.double (FP.i2d (xs.getD ((lf + rt) / 2) 0))), .second, .val (.int lI), s8, s9, s10] (own_st7 hP7) 26 rfl ?_
      refine Wk.iload k X0 d_Matches_select_26 rfl 28 rfl ?_
      refine Wk.istore k X0 d_Matches_select_28 #[.val (.ref a), .val (.int nI), .val (.int rI), .val (.int lI), .val (.int tI), .val (.double (FP.i2d (xs.getD ((lf + rt) / 2) 0))), .second, .val (.int lI), .val (.int tI), s9, s10] (own_st8 hP8) 30 rfl ?_
      refine sel_30 hw k a os n rk nI rI hn hrk hn5 hrn g1 lf rt lI tI (xs.getD ((lf + rt) / 2) 0) hrn2 (fun xs' i J iI jI s9 s10 hij hi hj hG' hIn hP9 T9 h9 locs9 X9 e9 K9 N9 A9 => ?_) _ xs lf (rt + 1) lI tI _ _ (Nat.le_refl _) hl (by omega) hG (own_In0 (by omega) (by omega)) hP9 _ _ _ X0 e0 K1 N1 A1
      have hgap := own_In_gap hIn hij
      refine Wk.iload_n k X9 d_Matches_select_105 rfl 106 rfl ?_
      refine Wk.iload k X9 d_Matches_select_106 rfl 108 rfl ?_
      refine Wk.icmp_gt k X9 d_Matches_select_108 (by decide) 118 111 (by decide) rfl (fun hc108 => ?_) (fun hc108 => ?_)
      · refine Wk.iload_n k X9 d_Matches_select_118 rfl 119 rfl ?_
        refine Wk.iload k X9 d_Matches_select_119 rfl 121 rfl ?_
        refine Wk.icmp_lt k X9 d_Matches_select_121 (by decide) 130 124 (by decide) rfl (fun hc121 => ?_) (fun hc121 => ?_)
        · exact sel_130 hw k a os n rk nI rI hn hrk hn5 hrn g1 _ _ _ _ _ _ _ _ xs' _ _ hG' (own_Fin_mid hG' hIn hlk hkr (by rw [Int32.lt_iff_toInt_lt] at hc108; omega) (by rw [Int32.lt_iff_toInt_lt] at hc121; omega) hrn) _ _ _ X9 e9 K9 N9 A9
        · refine Wk.iload k X9 d_Matches_select_124 rfl 126 rfl ?_
          refine Wk.istore_n k X9 d_Matches_select_126 #[.val (.ref a), .val (.int nI), .val (.int rI), .val (.int iI), .val (.int tI), .val (.double (FP.i2d (xs.getD ((lf + rt) / 2) 0))), .second, .val (.int iI), .val (.int jI), s9, s10] rfl 127 rfl ?_
          refine Wk.goto k X9 d_Matches_select_127 (by decide) 7 (by decide) ?_
          exact ih i rt _ _ xs' _ _ _ _ _ _ (by omega) (by rw [Int32.lt_iff_toInt_lt] at hc121; omega) hkr hrn2 hi ht (own_Gl_r hG' hIn hij) (Or.inr ⟨_, rfl, rfl⟩) (Or.inr ⟨_, rfl⟩) (Or.inr ⟨_, rfl⟩) hP9 _ _ _ X9 e9 K9 N9 A9
      · refine Wk.iload k X9 d_Matches_select_111 rfl 113 rfl ?_
        refine Wk.istore k X9 d_Matches_select_113 #[.val (.ref a), .val (.int nI), .val (.int rI), .val (.int lI), .val (.int jI), .val (.double (FP.i2d (xs.getD ((lf + rt) / 2) 0))), .second, .val (.int iI), .val (.int jI), s9, s10] rfl 115 rfl ?_
        refine Wk.goto k X9 d_Matches_select_115 (by decide) 127 (by decide) ?_
        refine Wk.goto k X9 d_Matches_select_127 (by decide) 7 (by decide) ?_
        obtain ⟨J, rfl⟩ : ∃ J', J = J' + 1 := ⟨J - 1, by rw [Int32.lt_iff_toInt_lt] at hc108; omega⟩
        exact ih lf J _ _ xs' _ _ _ _ _ _ (by omega) hlk (by rw [Int32.lt_iff_toInt_lt] at hc108; omega) (by omega) hl (by omega) (own_Gl_l hG' hIn hij) (Or.inr ⟨_, rfl, rfl⟩) (Or.inr ⟨_, rfl⟩) (Or.inr ⟨_, rfl⟩) hP9 _ _ _ X9 e9 K9 N9 A9
theorem ef_sel (m : MethodId) (a : Addr) (nI rI : Int32) : entryFrame m #[(.ref a), (.int nI), (.int rI)] 11 = mkF m 0 #[.val (.ref a), .val (.int nI), .val (.int rI), .unset, .unset, .unset, .unset, .unset, .unset, .unset, .unset] [] := by first | (simp [entryFrame, mkF, argsToLocals, Value.category]; done) | rfl
set_option maxRecDepth 65536 in
set_option maxHeartbeats 40000000 in
theorem rm_sel (l : Launch) (Z : State) (a0 : Array Value) (hw : ∀ d ∈ tables_1, d.before a0 Z = true) (a : Addr) (nI rI : Int32) (os : List Int32) (n rk : Nat) (h0 : Heap) (n0 : Nat) (hn : nI.toInt = (n : Int)) (hrk : rI.toInt = (rk : Int)) (hn5 : n ≤ 5) (hrn : rk < n) (g1 : n0 ≤ a) (hos : os.length = 5) (A1 : Wk.Arl Z h0 a .double (os.map own_dv)) : Wk.Met l (⟨"com/example/quern/quern/Matches", "select", "([DII)D"⟩ : MethodName) prog_59_method_8_code 11 (some .double) ({ frames := 0, cells := 0, slots := 0, locals := 0 } : Room) #[(.ref a), (.int nI), (.int rI)] Z h0 (fun r h L => ∃ xs : List Int32, r = some (.double (FP.i2d (xs.getD rk 0))) ∧ xs.length = 5 ∧ Wk.Arl Z h a .double (xs.map own_dv) ∧ (∀ k, n ≤ k → xs.getD k 0 = os.getD k 0) ∧ own_cn (fun z => decide (z < xs.getD rk 0)) os n ≤ rk ∧ rk < own_cn (fun z => decide (¬ xs.getD rk 0 < z)) os n ∧ Fr n0 L ∧ Keep h0 h [a]) [] := by
  refine Wk.enter pn_Matches_select (fun p e s m below meth c T0 k X0 e0 => ?_)
  refine (Wk.Ends.cast (ef_sel m a nI rI) ?_)
  refine Wk.iconst k X0 d_Matches_select_0 (0 : Int32) rfl 1 rfl ?_
  refine Wk.istore_n k X0 d_Matches_select_1 #[.val (.ref a), .val (.int nI), .val (.int rI), .val (.int (0 : Int32)), .unset, .unset, .unset, .unset, .unset, .unset, .unset] rfl 2 rfl ?_
  refine Wk.iload_n k X0 d_Matches_select_2 rfl 3 rfl ?_
  refine Wk.iconst k X0 d_Matches_select_3 (1 : Int32) rfl 4 rfl ?_
  refine Wk.isub k X0 d_Matches_select_4 5 rfl ?_
  refine Wk.istore k X0 d_Matches_select_5 #[.val (.ref a), .val (.int nI), .val (.int rI), .val (.int (0 : Int32)), .val (.int (nI - (1 : Int32))), .unset, .unset, .unset, .unset, .unset, .unset] rfl 7 rfl ?_
  exact sel_7 hw k a os n rk nI rI hn hrk hn5 hrn g1 _ 0 (n - 1) _ _ os _ _ _ _ _ _ (Nat.le_refl _) (by omega) (by omega) (by omega) rfl (own_sub1 hn (by omega)) (own_Gl0 hos) (Or.inl ⟨rfl, rfl⟩) (Or.inl rfl) (Or.inl rfl) (Or.inl ⟨rfl, rfl⟩) _ _ _ X0 e0 (Keep.refl _ _) (Fr.nil _) A1
theorem own_orlt {i n : Nat} {P : Prop} (h : n ≤ i → P) : i < n ∨ P := (Nat.lt_or_ge i n).imp_right h
theorem own_ct (x : Int32) : ∃ n : Nat, (((x &&& (2147483647 : Int32)) % (5 : Int32)) + (1 : Int32)).toInt = (n : Int) ∧ 1 ≤ n ∧ n ≤ 5 := by
  have h1 := c_mask x 2147483647 31 (by decide) (by decide)
  have h2 := (c_irem (x &&& (2147483647 : Int32)) 5 5 (by decide)).1 (by omega)
  have q := c_iadd ((x &&& (2147483647 : Int32)) % (5 : Int32)) 1
  have r := rng32 (((x &&& (2147483647 : Int32)) % (5 : Int32)) + 1)
  have z : (1 : Int32).toInt = 1 := by decide
  exact ⟨(((x &&& (2147483647 : Int32)) % (5 : Int32)) + (1 : Int32)).toInt.toNat, by omega, by omega, by omega⟩
theorem own_cnz (x : Int32) : (((x &&& (2147483647 : Int32)) % (5 : Int32)) + (1 : Int32)) ≠ 0 := fun h => by
  obtain ⟨n, h1, h2, -⟩ := own_ct x
  rw [h] at h1
  have z : (0 : Int32).toInt = 0 := by decide
  omega
theorem own_rkx (x : Int32) {c : Int32} {n : Nat} (hc : c.toInt = (n : Int)) (h1 : 1 ≤ n) : ∃ r : Nat, ((x &&& (2147483647 : Int32)) % c).toInt = (r : Int) ∧ r < n := by
  have h2 := c_mask x 2147483647 31 (by decide) (by decide)
  have h3 := (c_iremV (x &&& (2147483647 : Int32)) c).1 (by omega) (by omega)
  exact ⟨((x &&& (2147483647 : Int32)) % c).toInt.toNat, by omega, by omega⟩
theorem pn_MatchesSelectPinLaw_law : plainFor x = true := plainFor_of_name (by first | (simp [plainName, overriddenIn, x]; done) | decide +kernel)
set_option maxRecDepth 65536 in
set_option maxHeartbeats 40000000 in
theorem law_102 {p : Program} {l : Launch} {e : Env} {s : State} {m : MethodId} {args : Array Value} {below : List Frame} {meth : Method} {c : Code} {Z : State} {a0 : Array Value} {h0 : Heap} {n0 : Nat} {T0 : State} {locs : List Loc} (hw : ∀ d ∈ tables_1, d.before a0 Z = true) (k : Wk.K p s m meth c Z x code maxLocals ret) (X0 : Stand p l e room_1 s m args below meth c T0 locs 1 5) (q0 : Int64) (p2 p3 : Int32) (cI rI o0 o1 o2 o3 o4 w : Int32) (a : Addr) (n rk : Nat) (xs : List Int32) (e0 : T0.heap = h0) (N0 : Fr n0 locs) (hn : cI.toInt = (n : Int)) (hr : rI.toInt = (rk : Int)) (hn5 : n ≤ 5) (hxl : xs.length = 5) (hk : ∀ k, n ≤ k → xs.getD k 0 = ([o0, o1, o2, o3, o4] : List Int32).getD k 0) (h1 : own_cn (fun z => decide (z < w)) ([o0, o1, o2, o3, o4] : List Int32) n ≤ rk) (h2 : rk < own_cn (fun z => decide (¬ w < z)) ([o0, o1, o2, o3, o4] : List Int32) n) (A0 : Wk.Arl Z h0 a .double (xs.map own_dv)) : Wk.Ends p e s below room_1 (fun v _ L => v = some (.int 1) ∧ Fr n0 L) T0 (mkF m 102 #[.val (.long q0), .second, .val (.int p2), .val (.int p3), .val (.int cI), .val (.int rI), .val (.double (FP.i2d o0)), .second, .val (.double (FP.i2d o1)), .second, .val (.double (FP.i2d o2)), .second, .val (.double (FP.i2d o3)), .second, .val (.double (FP.i2d o4)), .second, .val (.ref a), .val (.double (FP.i2d w)), .second, .unset, .unset, .unset] []) := by
  have hs1 : ((((((if 0 < n ∧ decide (o0 < w) = true then (1 : Int32) else 0) + (if 1 < n ∧ decide (o1 < w) = true then (1 : Int32) else 0)) + (if 2 < n ∧ decide (o2 < w) = true then (1 : Int32) else 0)) + (if 3 < n ∧ decide (o3 < w) = true then (1 : Int32) else 0)) + (if 4 < n ∧ decide (o4 < w) = true then (1 : Int32) else 0))).toInt = ((own_cn (fun z => decide (z < w)) ([o0, o1, o2, o3, o4] : List Int32) n : Nat) : Int) := own_sum5 n hn5 (fun k => decide (([o0, o1, o2, o3, o4] : List Int32).getD k 0 < w))
  have hs2 : ((((((if 0 < n ∧ decide (¬ w < o0) = true then (1 : Int32) else 0) + (if 1 < n ∧ decide (¬ w < o1) = true then (1 : Int32) else 0)) + (if 2 < n ∧ decide (¬ w < o2) = true then (1 : Int32) else 0)) + (if 3 < n ∧ decide (¬ w < o3) = true then (1 : Int32) else 0)) + (if 4 < n ∧ decide (¬ w < o4) = true then (1 : Int32) else 0))).toInt = ((own_cn (fun z => decide (¬ w < z)) ([o0, o1, o2, o3, o4] : List Int32) n : Nat) : Int) := own_sum5 n hn5 (fun k => decide (¬ w < ([o0, o1, o2, o3, o4] : List Int32).getD k 0))
  refine Wk.dload k X0 at_102 rfl 104 rfl ?_
  refine Wk.dload k X0 at_104 rfl 106 rfl ?_
  refine Wk.iconst k X0 at_106 (0 : Int32) rfl 107 rfl ?_
  refine Wk.iload k X0 at_107 rfl 109 rfl ?_
  refine Wk.callS k X0 [(.double (FP.i2d o0)), (.double (FP.i2d w)), (.int (0 : Int32)), (.int cI)] [] at_109 (rm_below l Z a0 hw o0 w (0 : Int32) cI 0 n _ rfl hn) e0 (Wk.w hw 6 rfl) (Wk.w hw 7 rfl) (Wk.w hw 8 rfl) (Wk.w hw 9 rfl) (by decide) rfl pd_MatchesSelectPinLaw_below rfl rfl (Nat.le_of_ble_eq_true rfl) (Nat.le_of_ble_eq_true rfl) (Nat.le_of_ble_eq_true rfl) (Nat.le_of_ble_eq_true rfl) 112 rfl fun T101 v101 L101 X101 hQ101 => ?_
  obtain ⟨rfl, e101, rfl⟩ := hQ101
  rw [List.append_nil] at X101
  show Wk.Ends _ _ _ _ _ _ _ (mkF m 112 _ [(.int (if 0 < n ∧ decide (o0 < w) = true then (1 : Int32) else 0))])
  refine Wk.dload k X101 at_112 rfl 114 rfl ?_
  refine Wk.dload k X101 at_114 rfl 116 rfl ?_
  refine Wk.iconst k X101 at_116 (1 : Int32) rfl 117 rfl ?_
  refine Wk.iload k X101 at_117 rfl 119 rfl ?_
  refine Wk.callS k X101 [(.double (FP.i2d o1)), (.double (FP.i2d w)), (.int (1 : Int32)), (.int cI)] [(.int (if 0 < n ∧ decide (o0 < w) = true then (1 : Int32) else 0))] at_119 (rm_below l Z a0 hw o1 w (1 : Int32) cI 1 n _ rfl hn) e101 (Wk.w hw 6 rfl) (Wk.w hw 7 rfl) (Wk.w hw 8 rfl) (Wk.w hw 9 rfl) (by decide) rfl pd_MatchesSelectPinLaw_below rfl rfl (Nat.le_of_ble_eq_true rfl) (Nat.le_of_ble_eq_true rfl) (Nat.le_of_ble_eq_true rfl) (Nat.le_of_ble_eq_true rfl) 122 rfl fun T102 v102 L102 X102 hQ102 => ?_
  obtain ⟨rfl, e102, rfl⟩ := hQ102
  rw [List.append_nil] at X102
  show Wk.Ends _ _ _ _ _ _ _ (mkF m 122 _ [(.int (if 1 < n ∧ decide (o1 < w) = true then (1 : Int32) else 0)), (.int (if 0 < n ∧ decide (o0 < w) = true then (1 : Int32) else 0))])
  refine Wk.iadd k X102 at_122 123 rfl ?_
  refine Wk.dload k X102 at_123 rfl 125 rfl ?_
  refine Wk.dload k X102 at_125 rfl 127 rfl ?_
  refine Wk.iconst k X102 at_127 (2 : Int32) rfl 128 rfl ?_
  refine Wk.iload k X102 at_128 rfl 130 rfl ?_
  refine Wk.callS k X102 [(.double (FP.i2d o2)), (.double (FP.i2d w)), (.int (2 : Int32)), (.int cI)] [(.int ((if 0 < n ∧ decide (o0 < w) = true then (1 : Int32) else 0) + (if 1 < n ∧ decide (o1 < w) = true then (1 : Int32) else 0)))] at_130 (rm_below l Z a0 hw o2 w (2 : Int32) cI 2 n _ rfl hn) e102 (Wk.w hw 6 rfl) (Wk.w hw 7 rfl) (Wk.w hw 8 rfl) (Wk.w hw 9 rfl) (by decide) rfl pd_MatchesSelectPinLaw_below rfl rfl (Nat.le_of_ble_eq_true rfl) (Nat.le_of_ble_eq_true rfl) (Nat.le_of_ble_eq_true rfl) (Nat.le_of_ble_eq_true rfl) 133 rfl fun T103 v103 L103 X103 hQ103 => ?_
  obtain ⟨rfl, e103, rfl⟩ := hQ103
  rw [List.append_nil] at X103
  show Wk.Ends _ _ _ _ _ _ _ (mkF m 133 _ [(.int (if 2 < n ∧ decide (o2 < w) = true then (1 : Int32) else 0)), (.int ((if 0 < n ∧ decide (o0 < w) = true then (1 : Int32) else 0) + (if 1 < n ∧ decide (o1 < w) = true then (1 : Int32) else 0)))])
  refine Wk.iadd k X103 at_133 134 rfl ?_
  refine Wk.dload k X103 at_134 rfl 136 rfl ?_
  refine Wk.dload k X103 at_136 rfl 138 rfl ?_
  refine Wk.iconst k X103 at_138 (3 : Int32) rfl 139 rfl ?_
  refine Wk.iload k X103 at_139 rfl 141 rfl ?_
  refine Wk.callS k X103 [(.double (FP.i2d o3)), (.double (FP.i2d w)), (.int (3 : Int32)), (.int cI)] [(.int (((if 0 < n ∧ decide (o0 < w) = true then (1 : Int32) else 0) + (if 1 < n ∧ decide (o1 < w) = true then (1 : Int32) else 0)) + (if 2 < n ∧ decide (o2 < w) = true then (1 : Int32) else 0)))] at_141 (rm_below l Z a0 hw o3 w (3 : Int32) cI 3 n _ rfl hn) e103 (Wk.w hw 6 rfl) (Wk.w hw 7 rfl) (Wk.w hw 8 rfl) (Wk.w hw 9 rfl) (by decide) rfl pd_MatchesSelectPinLaw_below rfl rfl (Nat.le_of_ble_eq_true rfl) (Nat.le_of_ble_eq_true rfl) (Nat.le_of_ble_eq_true rfl) (Nat.le_of_ble_eq_true rfl) 144 rfl fun T104 v104 L104 X104 hQ104 => ?_
  obtain ⟨rfl, e104, rfl⟩ := hQ104
  rw [List.append_nil] at X104
  show Wk.Ends _ _ _ _ _ _ _ (mkF m 144 _ [(.int (if 3 < n ∧ decide (o3 < w) = true then (1 : Int32) else 0)), (.int (((if 0 < n ∧ decide (o0 < w) = true then (1 : Int32) else 0) + (if 1 < n ∧ decide (o1 < w) = true then (1 : Int32) else 0)) + (if 2 < n ∧ decide (o2 < w) = true then (1 : Int32) else 0)))])
  refine Wk.iadd k X104 at_144 145 rfl ?_
  refine Wk.dload k X104 at_145 rfl 147 rfl ?_
  refine Wk.dload k X104 at_147 rfl 149 rfl ?_
  refine Wk.iconst k X104 at_149 (4 : Int32) rfl 150 rfl ?_
  refine Wk.iload k X104 at_150 rfl 152 rfl ?_
  refine Wk.callS k X104 [(.double (FP.i2d o4)), (.double (FP.i2d w)), (.int (4 : Int32)), (.int cI)] [(.int ((((if 0 < n ∧ decide (o0 < w) = true then (1 : Int32) else 0) + (if 1 < n ∧ decide (o1 < w) = true then (1 : Int32) else 0)) + (if 2 < n ∧ decide (o2 < w) = true then (1 : Int32) else 0)) + (if 3 < n ∧ decide (o3 < w) = true then (1 : Int32) else 0)))] at_152 (rm_below l Z a0 hw o4 w (4 : Int32) cI 4 n _ rfl hn) e104 (Wk.w hw 6 rfl) (Wk.w hw 7 rfl) (Wk.w hw 8 rfl) (Wk.w hw 9 rfl) (by decide) rfl pd_MatchesSelectPinLaw_below rfl rfl (Nat.le_of_ble_eq_true rfl) (Nat.le_of_ble_eq_true rfl) (Nat.le_of_ble_eq_true rfl) (Nat.le_of_ble_eq_true rfl) 155 rfl fun T105 v105 L105 X105 hQ105 => ?_
  obtain ⟨rfl, e105, rfl⟩ := hQ105
  rw [List.append_nil] at X105
  show Wk.Ends _ _ _ _ _ _ _ (mkF m 155 _ [(.int (if 4 < n ∧ decide (o4 < w) = true then (1 : Int32) else 0)), (.int ((((if 0 < n ∧ decide (o0 < w) = true then (1 : Int32) else 0) + (if 1 < n ∧ decide (o1 < w) = true then (1 : Int32) else 0)) + (if 2 < n ∧ decide (o2 < w) = true then (1 : Int32) else 0)) + (if 3 < n ∧ decide (o3 < w) = true then (1 : Int32) else 0)))])
  refine Wk.iadd k X105 at_155 156 rfl ?_
  refine Wk.istore k X105 at_156 #[.val (.long q0), .second, .val (.int p2), .val (.int p3), .val (.int cI), .val (.int rI), .val (.double (FP.i2d o0)), .second, .val (.double (FP.i2d o1)), .second, .val (.double (FP.i2d o2)), .second, .val (.double (FP.i2d o3)), .second, .val (.double (FP.i2d o4)), .second, .val (.ref a), .val (.double (FP.i2d w)), .second, .val (.int (((((if 0 < n ∧ decide (o0 < w) = true then (1 : Int32) else 0) + (if 1 < n ∧ decide (o1 < w) = true then (1 : Int32) else 0)) + (if 2 < n ∧ decide (o2 < w) = true then (1 : Int32) else 0)) + (if 3 < n ∧ decide (o3 < w) = true then (1 : Int32) else 0)) + (if 4 < n ∧ decide (o4 < w) = true then (1 : Int32) else 0))), .unset, .unset] rfl 158 rfl ?_
  refine Wk.dload k X105 at_158 rfl 160 rfl ?_
  refine Wk.dload k X105 at_160 rfl 162 rfl ?_
  refine Wk.iconst k X105 at_162 (0 : Int32) rfl 163 rfl ?_
  refine Wk.iload k X105 at_163 rfl 165 rfl ?_
  refine Wk.callS k X105 [(.double (FP.i2d o0)), (.double (FP.i2d w)), (.int (0 : Int32)), (.int cI)] [] at_165 (rm_atMost l Z a0 hw o0 w (0 : Int32) cI 0 n _ rfl hn) e105 (Wk.w hw 10 rfl) (Wk.w hw 11 rfl) (Wk.w hw 8 rfl) (Wk.w hw 12 rfl) (by decide) rfl pd_MatchesSelectPinLaw_atMost rfl rfl (Nat.le_of_ble_eq_true rfl) (Nat.le_of_ble_eq_true rfl) (Nat.le_of_ble_eq_true rfl) (Nat.le_of_ble_eq_true rfl) 168 rfl fun T106 v106 L106 X106 hQ106 => ?_
  obtain ⟨rfl, e106, rfl⟩ := hQ106
  rw [List.append_nil] at X106
  show Wk.Ends _ _ _ _ _ _ _ (mkF m 168 _ [(.int (if 0 < n ∧ decide (¬ w < o0) = true then (1 : Int32) else 0))])
  refine Wk.dload k X106 at_168 rfl 170 rfl ?_
  refine Wk.dload k X106 at_170 rfl 172 rfl ?_
  refine Wk.iconst k X106 at_172 (1 : Int32) rfl 173 rfl ?_
  refine Wk.iload k X106 at_173 rfl 175 rfl ?_
  refine Wk.callS k X106 [(.double (FP.i2d o1)), (.double (FP.i2d w)), (.int (1 : Int32)), (.int cI)] [(.int (if 0 < n ∧ decide (¬ w < o0) = true then (1 : Int32) else 0))] at_175 (rm_atMost l Z a0 hw o1 w (1 : Int32) cI 1 n _ rfl hn) e106 (Wk.w hw 10 rfl) (Wk.w hw 11 rfl) (Wk.w hw 8 rfl) (Wk.w hw 12 rfl) (by decide) rfl pd_MatchesSelectPinLaw_atMost rfl rfl (Nat.le_of_ble_eq_true rfl) (Nat.le_of_ble_eq_true rfl) (Nat.le_of_ble_eq_true rfl) (Nat.le_of_ble_eq_true rfl) 178 rfl fun T107 v107 L107 X107 hQ107 => ?_
  obtain ⟨rfl, e107, rfl⟩ := hQ107
  rw [List.append_nil] at X107
  show Wk.Ends _ _ _ _ _ _ _ (mkF m 178 _ [(.int (if 1 < n ∧ decide (¬ w < o1) = true then (1 : Int32) else 0)), (.int (if 0 < n ∧ decide (¬ w < o0) = true then (1 : Int32) else 0))])
  refine Wk.iadd k X107 at_178 179 rfl ?_
  refine Wk.dload k X107 at_179 rfl 181 rfl ?_
  refine Wk.dload k X107 at_181 rfl 183 rfl ?_
  refine Wk.iconst k X107 at_183 (2 : Int32) rfl 184 rfl ?_
  refine Wk.iload k X107 at_184 rfl 186 rfl ?_
  refine Wk.callS k X107 [(.double (FP.i2d o2)), (.double (FP.i2d w)), (.int (2 : Int32)), (.int cI)] [(.int ((if 0 < n ∧ decide (¬ w < o0) = true then (1 : Int32) else 0) + (if 1 < n ∧ decide (¬ w < o1) = true then (1 : Int32) else 0)))] at_186 (rm_atMost l Z a0 hw o2 w (2 : Int32) cI 2 n _ rfl hn) e107 (Wk.w hw 10 rfl) (Wk.w hw 11 rfl) (Wk.w hw 8 rfl) (Wk.w hw 12 rfl) (by decide) rfl pd_MatchesSelectPinLaw_atMost rfl rfl (Nat.le_of_ble_eq_true rfl) (Nat.le_of_ble_eq_true rfl) (Nat.le_of_ble_eq_true rfl) (Nat.le_of_ble_eq_true rfl) 189 rfl fun T108 v108 L108 X108 hQ108 => ?_
  obtain ⟨rfl, e108, rfl⟩ := hQ108
  rw [List.append_nil] at X108
  show Wk.Ends _ _ _ _ _ _ _ (mkF m 189 _ [(.int (if 2 < n ∧ decide (¬ w < o2) = true then (1 : Int32) else 0)), (.int ((if 0 < n ∧ decide (¬ w < o0) = true then (1 : Int32) else 0) + (if 1 < n ∧ decide (¬ w < o1) = true then (1 : Int32) else 0)))])
  refine Wk.iadd k X108 at_189 190 rfl ?_
  refine Wk.dload k X108 at_190 rfl 192 rfl ?_
  refine Wk.dload k X108 at_192 rfl 194 rfl ?_
  refine Wk.iconst k X108 at_194 (3 : Int32) rfl 195 rfl ?_
  refine Wk.iload k X108 at_195 rfl 197 rfl ?_
  refine Wk.callS k X108 [(.double (FP.i2d o3)), (.double (FP.i2d w)), (.int (3 : Int32)), (.int cI)] [(.int (((if 0 < n ∧ decide (¬ w < o0) = true then (1 : Int32) else 0) + (if 1 < n ∧ decide (¬ w < o1) = true then (1 : Int32) else 0)) + (if 2 < n ∧ decide (¬ w < o2) = true then (1 : Int32) else 0)))] at_197 (rm_atMost l Z a0 hw o3 w (3 : Int32) cI 3 n _ rfl hn) e108 (Wk.w hw 10 rfl) (Wk.w hw 11 rfl) (Wk.w hw 8 rfl) (Wk.w hw 12 rfl) (by decide) rfl pd_MatchesSelectPinLaw_atMost rfl rfl (Nat.le_of_ble_eq_true rfl) (Nat.le_of_ble_eq_true rfl) (Nat.le_of_ble_eq_true rfl) (Nat.le_of_ble_eq_true rfl) 200 rfl fun T109 v109 L109 X109 hQ109 => ?_
  obtain ⟨rfl, e109, rfl⟩ := hQ109
  rw [List.append_nil] at X109
  show Wk.Ends _ _ _ _ _ _ _ (mkF m 200 _ [(.int (if 3 < n ∧ decide (¬ w < o3) = true then (1 : Int32) else 0)), (.int (((if 0 < n ∧ decide (¬ w < o0) = true then (1 : Int32) else 0) + (if 1 < n ∧ decide (¬ w < o1) = true then (1 : Int32) else 0)) + (if 2 < n ∧ decide (¬ w < o2) = true then (1 : Int32) else 0)))])
  refine Wk.iadd k X109 at_200 201 rfl ?_
  refine Wk.dload k X109 at_201 rfl 203 rfl ?_
  refine Wk.dload k X109 at_203 rfl 205 rfl ?_
  refine Wk.iconst k X109 at_205 (4 : Int32) rfl 206 rfl ?_
  refine Wk.iload k X109 at_206 rfl 208 rfl ?_
  refine Wk.callS k X109 [(.double (FP.i2d o4)), (.double (FP.i2d w)), (.int (4 : Int32)), (.int cI)] [(.int ((((if 0 < n ∧ decide (¬ w < o0) = true then (1 : Int32) else 0) + (if 1 < n ∧ decide (¬ w < o1) = true then (1 : Int32) else 0)) + (if 2 < n ∧ decide (¬ w < o2) = true then (1 : Int32) else 0)) + (if 3 < n ∧ decide (¬ w < o3) = true then (1 : Int32) else 0)))] at_208 (rm_atMost l Z a0 hw o4 w (4 : Int32) cI 4 n _ rfl hn) e109 (Wk.w hw 10 rfl) (Wk.w hw 11 rfl) (Wk.w hw 8 rfl) (Wk.w hw 12 rfl) (by decide) rfl pd_MatchesSelectPinLaw_atMost rfl rfl (Nat.le_of_ble_eq_true rfl) (Nat.le_of_ble_eq_true rfl) (Nat.le_of_ble_eq_true rfl) (Nat.le_of_ble_eq_true rfl) 211 rfl fun T110 v110 L110 X110 hQ110 => ?_
  obtain ⟨rfl, e110, rfl⟩ := hQ110
  rw [List.append_nil] at X110
  show Wk.Ends _ _ _ _ _ _ _ (mkF m 211 _ [(.int (if 4 < n ∧ decide (¬ w < o4) = true then (1 : Int32) else 0)), (.int ((((if 0 < n ∧ decide (¬ w < o0) = true then (1 : Int32) else 0) + (if 1 < n ∧ decide (¬ w < o1) = true then (1 : Int32) else 0)) + (if 2 < n ∧ decide (¬ w < o2) = true then (1 : Int32) else 0)) + (if 3 < n ∧ decide (¬ w < o3) = true then (1 : Int32) else 0)))])
  refine Wk.iadd k X110 at_211 212 rfl ?_
  refine Wk.istore k X110 at_212 #[.val (.long q0), .second, .val (.int p2), .val (.int p3), .val (.int cI), .val (.int rI), .val (.double (FP.i2d o0)), .second, .val (.double (FP.i2d o1)), .second, .val (.double (FP.i2d o2)), .second, .val (.double (FP.i2d o3)), .second, .val (.double (FP.i2d o4)), .second, .val (.ref a), .val (.double (FP.i2d w)), .second, .val (.int (((((if 0 < n ∧ decide (o0 < w) = true then (1 : Int32) else 0) + (if 1 < n ∧ decide (o1 < w) = true then (1 : Int32) else 0)) + (if 2 < n ∧ decide (o2 < w) = true then (1 : Int32) else 0)) + (if 3 < n ∧ decide (o3 < w) = true then (1 : Int32) else 0)) + (if 4 < n ∧ decide (o4 < w) = true then (1 : Int32) else 0))), .val (.int (((((if 0 < n ∧ decide (¬ w < o0) = true then (1 : Int32) else 0) + (if 1 < n ∧ decide (¬ w < o1) = true then (1 : Int32) else 0)) + (if 2 < n ∧ decide (¬ w < o2) = true then (1 : Int32) else 0)) + (if 3 < n ∧ decide (¬ w < o3) = true then (1 : Int32) else 0)) + (if 4 < n ∧ decide (¬ w < o4) = true then (1 : Int32) else 0))), .unset] rfl 214 rfl ?_
  refine Wk.aload k X110 at_214 rfl rfl 216 rfl ?_
  refine Wk.iconst k X110 at_216 (0 : Int32) rfl 217 rfl ?_
  refine Wk.daload k X110 at_217 e110 A0 0 rfl (.double (FP.i2d (xs.getD 0 0))) (own_gd (by omega)) 218 rfl ?_
  refine Wk.dload k X110 at_218 rfl 220 rfl ?_
  refine Wk.iconst k X110 at_220 (0 : Int32) rfl 221 rfl ?_
  refine Wk.iload k X110 at_221 rfl 223 rfl ?_
  refine Wk.callS k X110 [(.double (FP.i2d (xs.getD 0 0))), (.double (FP.i2d o0)), (.int (0 : Int32)), (.int cI)] [] at_223 (rm_kept l Z a0 hw (xs.getD 0 0) o0 (0 : Int32) cI 0 n _ rfl hn (own_orlt (fun z => hk 0 z))) e110 (Wk.w hw 13 rfl) (Wk.w hw 14 rfl) (Wk.w hw 8 rfl) (Wk.w hw 15 rfl) (by decide) rfl pd_MatchesSelectPinLaw_kept rfl rfl (Nat.le_of_ble_eq_true rfl) (Nat.le_of_ble_eq_true rfl) (Nat.le_of_ble_eq_true rfl) (Nat.le_of_ble_eq_true rfl) 226 rfl fun T111 v111 L111 X111 hQ111 => ?_
  obtain ⟨rfl, e111, rfl⟩ := hQ111
  rw [List.append_nil] at X111
  show Wk.Ends _ _ _ _ _ _ _ (mkF m 226 _ [(.int (1 : Int32))])
  refine Wk.if_eq k X111 at_226 (by decide) 293 229 (by decide) rfl (fun hc226 => ?_) (fun hc226 => ?_)
  · exact absurd hc226 (by decide)
  · refine Wk.aload k X111 at_229 rfl rfl 231 rfl ?_
    refine Wk.iconst k X111 at_231 (1 : Int32) rfl 232 rfl ?_
    refine Wk.daload k X111 at_232 e111 A0 1 rfl (.double (FP.i2d (xs.getD 1 0))) (own_gd (by omega)) 233 rfl ?_
    refine Wk.dload k X111 at_233 rfl 235 rfl ?_
    refine Wk.iconst k X111 at_235 (1 : Int32) rfl 236 rfl ?_
    refine Wk.iload k X111 at_236 rfl 238 rfl ?_
    refine Wk.callS k X111 [(.double (FP.i2d (xs.getD 1 0))), (.double (FP.i2d o1)), (.int (1 : Int32)), (.int cI)] [] at_238 (rm_kept l Z a0 hw (xs.getD 1 0) o1 (1 : Int32) cI 1 n _ rfl hn (own_orlt (fun z => hk 1 z))) e111 (Wk.w hw 13 rfl) (Wk.w hw 14 rfl) (Wk.w hw 8 rfl) (Wk.w hw 15 rfl) (by decide) rfl pd_MatchesSelectPinLaw_kept rfl rfl (Nat.le_of_ble_eq_true rfl) (Nat.le_of_ble_eq_true rfl) (Nat.le_of_ble_eq_true rfl) (Nat.le_of_ble_eq_true rfl) 241 rfl fun T112 v112 L112 X112 hQ112 => ?_
    obtain ⟨rfl, e112, rfl⟩ := hQ112
    rw [List.append_nil] at X112
    show Wk.Ends _ _ _ _ _ _ _ (mkF m 241 _ [(.int (1 : Int32))])
    refine Wk.if_eq k X112 at_241 (by decide) 293 244 (by decide) rfl (fun hc241 => ?_) (fun hc241 => ?_)
    · exact absurd hc241 (by decide)
    · refine Wk.aload k X112 at_244 rfl rfl 246 rfl ?_
      refine Wk.iconst k X112 at_246 (2 : Int32) rfl 247 rfl ?_
      refine Wk.daload k X112 at_247 e112 A0 2 rfl (.double (FP.i2d (xs.getD 2 0))) (own_gd (by omega)) 248 rfl ?_
      refine Wk.dload k X112 at_248 rfl 250 rfl ?_
      refine Wk.iconst k X112 at_250 (2 : Int32) rfl 251 rfl ?_
      refine Wk.iload k X112 at_251 rfl 253 rfl ?_
      refine Wk.callS k X112 [(.double (FP.i2d (xs.getD 2 0))), (.double (FP.i2d o2)), (.int (2 : Int32)), (.int cI)] [] at_253 (rm_kept l Z a0 hw (xs.getD 2 0) o2 (2 : Int32) cI 2 n _ rfl hn (own_orlt (fun z => hk 2 z))) e112 (Wk.w hw 13 rfl) (Wk.w hw 14 rfl) (Wk.w hw 8 rfl) (Wk.w hw 15 rfl) (by decide) rfl pd_MatchesSelectPinLaw_kept rfl rfl (Nat.le_of_ble_eq_true rfl) (Nat.le_of_ble_eq_true rfl) (Nat.le_of_ble_eq_true rfl) (Nat.le_of_ble_eq_true rfl) 256 rfl fun T113 v113 L113 X113 hQ113 => ?_
      obtain ⟨rfl, e113, rfl⟩ := hQ113
      rw [List.append_nil] at X113
      show Wk.Ends _ _ _ _ _ _ _ (mkF m 256 _ [(.int (1 : Int32))])
      refine Wk.if_eq k X113 at_256 (by decide) 293 259 (by decide) rfl (fun hc256 => ?_) (fun hc256 => ?_)
      · exact absurd hc256 (by decide)
      · refine Wk.aload k X113 at_259 rfl rfl 261 rfl ?_
        refine Wk.iconst k X113 at_261 (3 : Int32) rfl 262 rfl ?_
        refine Wk.daload k X113 at_262 e113 A0 3 rfl (.double (FP.i2d (xs.getD 3 0))) (own_gd (by omega)) 263 rfl ?_
        refine Wk.dload k X113 at_263 rfl 265 rfl ?_
        refine Wk.iconst k X113 at_265 (3 : Int32) rfl 266 rfl ?_
        refine Wk.iload k X113 at_266 rfl 268 rfl ?_
        refine Wk.callS k X113 [(.double (FP.i2d (xs.getD 3 0))), (.double (FP.i2d o3)), (.int (3 : Int32)), (.int cI)] [] at_268 (rm_kept l Z a0 hw (xs.getD 3 0) o3 (3 : Int32) cI 3 n _ rfl hn (own_orlt (fun z => hk 3 z))) e113 (Wk.w hw 13 rfl) (Wk.w hw 14 rfl) (Wk.w hw 8 rfl) (Wk.w hw 15 rfl) (by decide) rfl pd_MatchesSelectPinLaw_kept rfl rfl (Nat.le_of_ble_eq_true rfl) (Nat.le_of_ble_eq_true rfl) (Nat.le_of_ble_eq_true rfl) (Nat.le_of_ble_eq_true rfl) 271 rfl fun T114 v114 L114 X114 hQ114 => ?_
        obtain ⟨rfl, e114, rfl⟩ := hQ114
        rw [List.append_nil] at X114
        show Wk.Ends _ _ _ _ _ _ _ (mkF m 271 _ [(.int (1 : Int32))])
        refine Wk.if_eq k X114 at_271 (by decide) 293 274 (by decide) rfl (fun hc271 => ?_) (fun hc271 => ?_)
        · exact absurd hc271 (by decide)
        · refine Wk.aload k X114 at_274 rfl rfl 276 rfl ?_
          refine Wk.iconst k X114 at_276 (4 : Int32) rfl 277 rfl ?_
          refine Wk.daload k X114 at_277 e114 A0 4 rfl (.double (FP.i2d (xs.getD 4 0))) (own_gd (by omega)) 278 rfl ?_
          refine Wk.dload k X114 at_278 rfl 280 rfl ?_
          refine Wk.iconst k X114 at_280 (4 : Int32) rfl 281 rfl ?_
          refine Wk.iload k X114 at_281 rfl 283 rfl ?_
          refine Wk.callS k X114 [(.double (FP.i2d (xs.getD 4 0))), (.double (FP.i2d o4)), (.int (4 : Int32)), (.int cI)] [] at_283 (rm_kept l Z a0 hw (xs.getD 4 0) o4 (4 : Int32) cI 4 n _ rfl hn (own_orlt (fun z => hk 4 z))) e114 (Wk.w hw 13 rfl) (Wk.w hw 14 rfl) (Wk.w hw 8 rfl) (Wk.w hw 15 rfl) (by decide) rfl pd_MatchesSelectPinLaw_kept rfl rfl (Nat.le_of_ble_eq_true rfl) (Nat.le_of_ble_eq_true rfl) (Nat.le_of_ble_eq_true rfl) (Nat.le_of_ble_eq_true rfl) 286 rfl fun T115 v115 L115 X115 hQ115 => ?_
          obtain ⟨rfl, e115, rfl⟩ := hQ115
          rw [List.append_nil] at X115
          show Wk.Ends _ _ _ _ _ _ _ (mkF m 286 _ [(.int (1 : Int32))])
          refine Wk.if_eq k X115 at_286 (by decide) 293 289 (by decide) rfl (fun hc286 => ?_) (fun hc286 => ?_)
          · exact absurd hc286 (by decide)
          · refine Wk.iconst k X115 at_289 (1 : Int32) rfl 290 rfl ?_
            refine Wk.goto k X115 at_290 (by decide) 294 (by decide) ?_
            refine Wk.istore k X115 at_294 #[.val (.long q0), .second, .val (.int p2), .val (.int p3), .val (.int cI), .val (.int rI), .val (.double (FP.i2d o0)), .second, .val (.double (FP.i2d o1)), .second, .val (.double (FP.i2d o2)), .second, .val (.double (FP.i2d o3)), .second, .val (.double (FP.i2d o4)), .second, .val (.ref a), .val (.double (FP.i2d w)), .second, .val (.int (((((if 0 < n ∧ decide (o0 < w) = true then (1 : Int32) else 0) + (if 1 < n ∧ decide (o1 < w) = true then (1 : Int32) else 0)) + (if 2 < n ∧ decide (o2 < w) = true then (1 : Int32) else 0)) + (if 3 < n ∧ decide (o3 < w) = true then (1 : Int32) else 0)) + (if 4 < n ∧ decide (o4 < w) = true then (1 : Int32) else 0))), .val (.int (((((if 0 < n ∧ decide (¬ w < o0) = true then (1 : Int32) else 0) + (if 1 < n ∧ decide (¬ w < o1) = true then (1 : Int32) else 0)) + (if 2 < n ∧ decide (¬ w < o2) = true then (1 : Int32) else 0)) + (if 3 < n ∧ decide (¬ w < o3) = true then (1 : Int32) else 0)) + (if 4 < n ∧ decide (¬ w < o4) = true then (1 : Int32) else 0))), .val (.int (1 : Int32))] rfl 296 rfl ?_
            refine Wk.iload k X115 at_296 rfl 298 rfl ?_
            refine Wk.iload k X115 at_298 rfl 300 rfl ?_
            refine Wk.icmp_gt k X115 at_300 (by decide) 319 303 (by decide) rfl (fun hc300 => ?_) (fun hc300 => ?_)
            · exact absurd hc300 (by rw [Int32.lt_iff_toInt_lt, hr, hs1]; omega)
            · refine Wk.iload k X115 at_303 rfl 305 rfl ?_
              refine Wk.iload k X115 at_305 rfl 307 rfl ?_
              refine Wk.icmp_ge k X115 at_307 (by decide) 319 310 (by decide) rfl (fun hc307 => ?_) (fun hc307 => ?_)
              · exact absurd (by rw [Int32.lt_iff_toInt_lt, hr, hs2]; omega) hc307
              · refine Wk.iload k X115 at_310 rfl 312 rfl ?_
                refine Wk.if_eq k X115 at_312 (by decide) 319 315 (by decide) rfl (fun hc312 => ?_) (fun hc312 => ?_)
                · exact absurd hc312 (by decide)
                · refine Wk.iconst k X115 at_315 (1 : Int32) rfl 316 rfl ?_
                  refine Wk.goto k X115 at_316 (by decide) 320 (by decide) ?_
                  exact Wk.ret_bool k X115 rfl at_320 (by decide) (by decide) (by decide) ⟨rfl, N0⟩
set_option maxRecDepth 65536 in
set_option maxHeartbeats 40000000 in
theorem law_61 {p : Program} {l : Launch} {e : Env} {s : State} {m : MethodId} {args : Array Value} {below : List Frame} {meth : Method} {c : Code} {Z : State} {a0 : Array Value} {h0 : Heap} {n0 : Nat} {T0 : State} (hw : ∀ d ∈ tables_1, d.before a0 Z = true) (k : Wk.K p s m meth c Z x code maxLocals ret) (X0 : Stand p l e room_1 s m args below meth c T0 [] 0 0) (q0 : Int64) (p2 p3 : Int32) (cI rI o0 o1 o2 o3 o4 : Int32) (n rk : Nat) (e0 : T0.heap = h0) (Z0 : n0 ≤ h0.size) (N0 : Fr n0 []) (hn : cI.toInt = (n : Int)) (hr : rI.toInt = (rk : Int)) (hn5 : n ≤ 5) (hrn : rk < n) : Wk.Ends p e s below room_1 (fun v _ L => v = some (.int 1) ∧ Fr n0 L) T0 (mkF m 61 #[.val (.long q0), .second, .val (.int p2), .val (.int p3), .val (.int cI), .val (.int rI), .val (.double (FP.i2d o0)), .second, .val (.double (FP.i2d o1)), .second, .val (.double (FP.i2d o2)), .second, .val (.double (FP.i2d o3)), .second, .val (.double (FP.i2d o4)), .second, .unset, .unset, .unset, .unset, .unset, .unset] []) := by
  refine Wk.iconst k X0 at_61 (5 : Int32) rfl 62 rfl ?_
  refine Wk.newarray k X0 at_62 (Wk.w hw 1 rfl) e0 5 rfl 5 (by decide) (by decide) (by decide) (by decide) 64 rfl fun T1 h1 a q1 X1 e1 E1 A1 => ?_
  have g1 : n0 ≤ a := by rw [q1]; exact Z0
  have sz1 := Nat.le_trans Z0 E1.1
  refine Wk.dup k X1 at_64 rfl 65 rfl ?_
  refine Wk.iconst k X1 at_65 (0 : Int32) rfl 66 rfl ?_
  refine Wk.dload k X1 at_66 rfl 68 rfl ?_
  have AD : Wk.Arl Z h1 a .double [defaultValue .double, defaultValue .double, defaultValue .double, defaultValue .double, defaultValue .double] := A1
  refine Wk.dastore k X1 (x := (FP.i2d o0)) at_68 e1 AD 0 rfl (Nat.le_of_ble_eq_true rfl) 69 rfl fun T2 h2 X2 e2 W2 A2 => ?_
  have sz2 : n0 ≤ h2.size := by rw [W2.size]; exact sz1
  have N3 := Fr.snoc X2 N0 g1
  refine Wk.dup k X2 at_69 rfl 70 rfl ?_
  refine Wk.iconst k X2 at_70 (1 : Int32) rfl 71 rfl ?_
  refine Wk.dload k X2 at_71 rfl 73 rfl ?_
  refine Wk.dastore k X2 (x := (FP.i2d o1)) at_73 e2 A2 1 rfl (Nat.le_of_ble_eq_true rfl) 74 rfl fun T4 h4 X4 e4 W4 A4 => ?_
  have sz4 : n0 ≤ h4.size := by rw [W4.size]; exact sz2
  have N5 := Fr.snoc X4 N3 g1
  refine Wk.dup k X4 at_74 rfl 75 rfl ?_
  refine Wk.iconst k X4 at_75 (2 : Int32) rfl 76 rfl ?_
  refine Wk.dload k X4 at_76 rfl 78 rfl ?_
  refine Wk.dastore k X4 (x := (FP.i2d o2)) at_78 e4 A4 2 rfl (Nat.le_of_ble_eq_true rfl) 79 rfl fun T6 h6 X6 e6 W6 A6 => ?_
  have sz6 : n0 ≤ h6.size := by rw [W6.size]; exact sz4
  have N7 := Fr.snoc X6 N5 g1
  refine Wk.dup k X6 at_79 rfl 80 rfl ?_
  refine Wk.iconst k X6 at_80 (3 : Int32) rfl 81 rfl ?_
  refine Wk.dload k X6 at_81 rfl 83 rfl ?_
  refine Wk.dastore k X6 (x := (FP.i2d o3)) at_83 e6 A6 3 rfl (Nat.le_of_ble_eq_true rfl) 84 rfl fun T8 h8 X8 e8 W8 A8 => ?_
  have sz8 : n0 ≤ h8.size := by rw [W8.size]; exact sz6
  have N9 := Fr.snoc X8 N7 g1
  refine Wk.dup k X8 at_84 rfl 85 rfl ?_
  refine Wk.iconst k X8 at_85 (4 : Int32) rfl 86 rfl ?_
  refine Wk.dload k X8 at_86 rfl 88 rfl ?_
  refine Wk.dastore k X8 (x := (FP.i2d o4)) at_88 e8 A8 4 rfl (Nat.le_of_ble_eq_true rfl) 89 rfl fun T10 h10 X10 e10 W10 A10 => ?_
  have sz10 : n0 ≤ h10.size := by rw [W10.size]; exact sz8
  have N11 := Fr.snoc X10 N9 g1
  refine Wk.astore k X10 at_89 rfl #[.val (.long q0), .second, .val (.int p2), .val (.int p3), .val (.int cI), .val (.int rI), .val (.double (FP.i2d o0)), .second, .val (.double (FP.i2d o1)), .second, .val (.double (FP.i2d o2)), .second, .val (.double (FP.i2d o3)), .second, .val (.double (FP.i2d o4)), .second, .val (.ref a), .unset, .unset, .unset, .unset, .unset] rfl 91 rfl ?_
  refine Wk.aload k X10 at_91 rfl rfl 93 rfl ?_
  refine Wk.iload k X10 at_93 rfl 95 rfl ?_
  refine Wk.iload k X10 at_95 rfl 97 rfl ?_
  have AO : Wk.Arl Z h10 a .double (([o0, o1, o2, o3, o4] : List Int32).map own_dv) := A10
  refine Wk.callS k X10 [(.ref a), (.int cI), (.int rI)] [] at_97 (rm_sel l Z a0 hw a cI rI ([o0, o1, o2, o3, o4] : List Int32) n rk h10 n0 hn hr hn5 hrn g1 rfl AO) e10 (Wk.w hw 2 rfl) (Wk.w hw 3 rfl) (Wk.w hw 4 rfl) (Wk.w hw 5 rfl) (by decide) rfl pd_Matches_select rfl rfl (Nat.le_of_ble_eq_true rfl) (Nat.le_of_ble_eq_true rfl) (Nat.le_of_ble_eq_true rfl) (Nat.le_of_ble_eq_true rfl) 100 rfl fun T12 v12 L12 X12 hQ12 => ?_
  obtain ⟨xs, rfl, hxl, A12, hk, hle, hlt, N12q, K12⟩ := hQ12
  show Wk.Ends _ _ _ _ _ _ _ (mkF m 100 _ [(.double (FP.i2d (xs.getD rk 0)))])
  have N12 := Fr.app N11 N12q
  refine Wk.dstore k X12 at_100 #[.val (.long q0), .second, .val (.int p2), .val (.int p3), .val (.int cI), .val (.int rI), .val (.double (FP.i2d o0)), .second, .val (.double (FP.i2d o1)), .second, .val (.double (FP.i2d o2)), .second, .val (.double (FP.i2d o3)), .second, .val (.double (FP.i2d o4)), .second, .val (.ref a), .val (.double (FP.i2d (xs.getD rk 0))), .second, .unset, .unset, .unset] rfl 102 rfl ?_
  exact law_102 hw k X12 q0 p2 p3 cI rI o0 o1 o2 o3 o4 _ a n rk xs (rfl : T12.heap = T12.heap) N12 hn hr hn5 hxl hk hle hlt A12
theorem ef_law (m : MethodId) (q0 : Int64) (p2 p3 : Int32) : entryFrame m #[(.long q0), (.int p2), (.int p3)] maxLocals = mkF m 0 #[.val (.long q0), .second, .val (.int p2), .val (.int p3), .unset, .unset, .unset, .unset, .unset, .unset, .unset, .unset, .unset, .unset, .unset, .unset, .unset, .unset, .unset, .unset, .unset, .unset] [] := by first | (simp [entryFrame, mkF, argsToLocals, Value.category, maxLocals]; done) | rfl
set_option maxRecDepth 65536 in
set_option maxHeartbeats 40000000 in
theorem rm0 (l : Launch) (Z : State) (a0 : Array Value) (hw : ∀ d ∈ tables_1, d.before a0 Z = true) (ws : List Jvm.Cond) (q0 : Int64) (p2 p3 : Int32) (h0 : Heap) (n0 : Nat) (Z0 : n0 ≤ h0.size) : Wk.Met l x code maxLocals ret room_1 #[(.long q0), (.int p2), (.int p3)] Z h0 (fun v _ L => v = some (.int 1) ∧ Fr n0 L) ws := by
  refine Wk.enter pn_MatchesSelectPinLaw_law (fun p e s m below meth c T0 k X0 e0 => ?_)
  refine (Wk.Ends.cast (ef_law m q0 p2 p3) ?_)
  refine Wk.iload_n k X0 at_0 rfl 1 rfl ?_
  refine Wk.ldc k X0 (z := (2147483647 : Int32)) at_1 (Wk.w hw 0 rfl) 3 rfl ?_
  refine Wk.iand k X0 at_3 4 rfl ?_
  refine Wk.iconst k X0 at_4 (5 : Int32) rfl 5 rfl ?_
  refine Wk.irem k X0 at_5 (by decide) 6 rfl ?_
  refine Wk.iconst k X0 at_6 (1 : Int32) rfl 7 rfl ?_
  refine Wk.iadd k X0 at_7 8 rfl ?_
  refine Wk.istore k X0 at_8 #[.val (.long q0), .second, .val (.int p2), .val (.int p3), .val (.int (((p2 &&& (2147483647 : Int32)) % (5 : Int32)) + (1 : Int32))), .unset, .unset, .unset, .unset, .unset, .unset, .unset, .unset, .unset, .unset, .unset, .unset, .unset, .unset, .unset, .unset, .unset] rfl 10 rfl ?_
  refine Wk.iload_n k X0 at_10 rfl 11 rfl ?_
  refine Wk.ldc k X0 (z := (2147483647 : Int32)) at_11 (Wk.w hw 0 rfl) 13 rfl ?_
  refine Wk.iand k X0 at_13 14 rfl ?_
  refine Wk.iload k X0 at_14 rfl 16 rfl ?_
  refine Wk.irem k X0 at_16 (own_cnz p2) 17 rfl ?_
  refine Wk.istore k X0 at_17 #[.val (.long q0), .second, .val (.int p2), .val (.int p3), .val (.int (((p2 &&& (2147483647 : Int32)) % (5 : Int32)) + (1 : Int32))), .val (.int ((p3 &&& (2147483647 : Int32)) % (((p2 &&& (2147483647 : Int32)) % (5 : Int32)) + (1 : Int32)))), .unset, .unset, .unset, .unset, .unset, .unset, .unset, .unset, .unset, .unset, .unset, .unset, .unset, .unset, .unset, .unset] rfl 19 rfl ?_
  refine Wk.lload_n k X0 at_19 rfl 20 rfl ?_
  refine Wk.l2i k X0 at_20 21 rfl ?_
  refine Wk.i2b k X0 at_21 22 rfl ?_
  refine Wk.i2d k X0 at_22 23 rfl ?_
  refine Wk.dstore k X0 at_23 #[.val (.long q0), .second, .val (.int p2), .val (.int p3), .val (.int (((p2 &&& (2147483647 : Int32)) % (5 : Int32)) + (1 : Int32))), .val (.int ((p3 &&& (2147483647 : Int32)) % (((p2 &&& (2147483647 : Int32)) % (5 : Int32)) + (1 : Int32)))), .val (.double (FP.i2d ((((q0).toInt32)).toInt8.toInt32))), .second, .unset, .unset, .unset, .unset, .unset, .unset, .unset, .unset, .unset, .unset, .unset, .unset, .unset, .unset] rfl 25 rfl ?_
  refine Wk.lload_n k X0 at_25 rfl 26 rfl ?_
  refine Wk.bipush k X0 at_26 (8 : Int32) rfl 28 rfl ?_
  refine Wk.lushr k X0 at_28 29 rfl ?_
  refine Wk.l2i k X0 at_29 30 rfl ?_
  refine Wk.i2b k X0 at_30 31 rfl ?_
  refine Wk.i2d k X0 at_31 32 rfl ?_
  refine Wk.dstore k X0 at_32 #[.val (.long q0), .second, .val (.int p2), .val (.int p3), .val (.int (((p2 &&& (2147483647 : Int32)) % (5 : Int32)) + (1 : Int32))), .val (.int ((p3 &&& (2147483647 : Int32)) % (((p2 &&& (2147483647 : Int32)) % (5 : Int32)) + (1 : Int32)))), .val (.double (FP.i2d ((((q0).toInt32)).toInt8.toInt32))), .second, .val (.double (FP.i2d (((((((q0).toUInt64 >>> ((8 : Int32) &&& 0x3f).toInt64.toUInt64).toInt64)).toInt32)).toInt8.toInt32))), .second, .unset, .unset, .unset, .unset, .unset, .unset, .unset, .unset, .unset, .unset, .unset, .unset] rfl 34 rfl ?_
  refine Wk.lload_n k X0 at_34 rfl 35 rfl ?_
  refine Wk.bipush k X0 at_35 (16 : Int32) rfl 37 rfl ?_
  refine Wk.lushr k X0 at_37 38 rfl ?_
  refine Wk.l2i k X0 at_38 39 rfl ?_
  refine Wk.i2b k X0 at_39 40 rfl ?_
  refine Wk.i2d k X0 at_40 41 rfl ?_
  refine Wk.dstore k X0 at_41 #[.val (.long q0), .second, .val (.int p2), .val (.int p3), .val (.int (((p2 &&& (2147483647 : Int32)) % (5 : Int32)) + (1 : Int32))), .val (.int ((p3 &&& (2147483647 : Int32)) % (((p2 &&& (2147483647 : Int32)) % (5 : Int32)) + (1 : Int32)))), .val (.double (FP.i2d ((((q0).toInt32)).toInt8.toInt32))), .second, .val (.double (FP.i2d (((((((q0).toUInt64 >>> ((8 : Int32) &&& 0x3f).toInt64.toUInt64).toInt64)).toInt32)).toInt8.toInt32))), .second, .val (.double (FP.i2d (((((((q0).toUInt64 >>> ((16 : Int32) &&& 0x3f).toInt64.toUInt64).toInt64)).toInt32)).toInt8.toInt32))), .second, .unset, .unset, .unset, .unset, .unset, .unset, .unset, .unset, .unset, .unset] rfl 43 rfl ?_
  refine Wk.lload_n k X0 at_43 rfl 44 rfl ?_
  refine Wk.bipush k X0 at_44 (24 : Int32) rfl 46 rfl ?_
  refine Wk.lushr k X0 at_46 47 rfl ?_
  refine Wk.l2i k X0 at_47 48 rfl ?_
  refine Wk.i2b k X0 at_48 49 rfl ?_
  refine Wk.i2d k X0 at_49 50 rfl ?_
  refine Wk.dstore k X0 at_50 #[.val (.long q0), .second, .val (.int p2), .val (.int p3), .val (.int (((p2 &&& (2147483647 : Int32)) % (5 : Int32)) + (1 : Int32))), .val (.int ((p3 &&& (2147483647 : Int32)) % (((p2 &&& (2147483647 : Int32)) % (5 : Int32)) + (1 : Int32)))), .val (.double (FP.i2d ((((q0).toInt32)).toInt8.toInt32))), .second, .val (.double (FP.i2d (((((((q0).toUInt64 >>> ((8 : Int32) &&& 0x3f).toInt64.toUInt64).toInt64)).toInt32)).toInt8.toInt32))), .second, .val (.double (FP.i2d (((((((q0).toUInt64 >>> ((16 : Int32) &&& 0x3f).toInt64.toUInt64).toInt64)).toInt32)).toInt8.toInt32))), .second, .val (.double (FP.i2d (((((((q0).toUInt64 >>> ((24 : Int32) &&& 0x3f).toInt64.toUInt64).toInt64)).toInt32)).toInt8.toInt32))), .second, .unset, .unset, .unset, .unset, .unset, .unset, .unset, .unset] rfl 52 rfl ?_
  refine Wk.lload_n k X0 at_52 rfl 53 rfl ?_
  refine Wk.bipush k X0 at_53 (32 : Int32) rfl 55 rfl ?_
  refine Wk.lushr k X0 at_55 56 rfl ?_
  refine Wk.l2i k X0 at_56 57 rfl ?_
  refine Wk.i2b k X0 at_57 58 rfl ?_
  refine Wk.i2d k X0 at_58 59 rfl ?_
  refine Wk.dstore k X0 at_59 #[.val (.long q0), .second, .val (.int p2), .val (.int p3), .val (.int (((p2 &&& (2147483647 : Int32)) % (5 : Int32)) + (1 : Int32))), .val (.int ((p3 &&& (2147483647 : Int32)) % (((p2 &&& (2147483647 : Int32)) % (5 : Int32)) + (1 : Int32)))), .val (.double (FP.i2d ((((q0).toInt32)).toInt8.toInt32))), .second, .val (.double (FP.i2d (((((((q0).toUInt64 >>> ((8 : Int32) &&& 0x3f).toInt64.toUInt64).toInt64)).toInt32)).toInt8.toInt32))), .second, .val (.double (FP.i2d (((((((q0).toUInt64 >>> ((16 : Int32) &&& 0x3f).toInt64.toUInt64).toInt64)).toInt32)).toInt8.toInt32))), .second, .val (.double (FP.i2d (((((((q0).toUInt64 >>> ((24 : Int32) &&& 0x3f).toInt64.toUInt64).toInt64)).toInt32)).toInt8.toInt32))), .second, .val (.double (FP.i2d (((((((q0).toUInt64 >>> ((32 : Int32) &&& 0x3f).toInt64.toUInt64).toInt64)).toInt32)).toInt8.toInt32))), .second, .unset, .unset, .unset, .unset, .unset, .unset] rfl 61 rfl ?_
  obtain ⟨n, hn, h1n, hn5⟩ := own_ct p2
  obtain ⟨rk, hr, hrn⟩ := own_rkx p3 hn h1n
  exact law_61 hw k X0 q0 p2 p3 _ _ _ _ _ _ _ n rk e0 Z0 (Fr.nil _) hn hr hn5 hrn
set_option maxRecDepth 65536 in
set_option maxHeartbeats 40000000 in
theorem comes_1 {Post : Tables → Env → Array Value → State → Outcome → State → Prop} (hpost : ∀ tb e args s v u, (limb_1_1.after args s (.returned v) u = true ∧ limb_1_2.after args s (.returned v) u = true) → FrameEnd s (.returned v) u (Jvm.fieldLocs frame_1_writes args s ++ Jvm.arrayLocs frame_1_arrays args s ++ Jvm.staticLocs frame_1_statics s) 16 128 → Post tb e args s (.returned v) u) :
    ArmFor flags0 classFile x code maxLocals ret World_1 tables_1 room_1 Calls_1 rest_1 Pre_1 Post := by
  intro l hfl _ _ p e ha hc hk s m args below hf hA hF happ hP
  obtain ⟨hcalls, hrest, hpre⟩ := hP
  obtain ⟨-, -, -, hnamed, -, -, -, hat⟩ := (Spec.applies_iff hf).mp happ
  obtain ⟨hg, hn⟩ := and_e (Cond.before_iff.mp (show (Jvm.Cond.and given_1 narrow_1).before args s = true from hpre))
  obtain ⟨gc, g0⟩ := and_e hg
  obtain ⟨q0, g1⟩ := and_e g0
  obtain ⟨q1, g2⟩ := and_e g1
  have q2 := g2
  obtain ⟨w0, w1, w2, rfl⟩ : ∃ w0 w1 w2 : Value, args = #[w0, w1, w2] := by
    have hs : args.size = 3 := by simpa [Cond.value, given_1] using gc
    obtain ⟨L⟩ := args
    match L, hs with
    | [w0, w1, w2], _ => exact ⟨w0, w1, w2, rfl⟩
  have hw := fun d (hd : d ∈ tables_1) => atoms_spec (ws := Jvm.Cond.code x code maxLocals ret :: tables_1) hat d (List.mem_cons_of_mem _ hd)
  have hfit : Fit s := fun {y c} hc i hi => by
    obtain ⟨ha, rfl⟩ := Array.getElem?_eq_some_iff.mp hc
    have q := List.all_eq_true.mp ((Array.all_eq_true_iff_forall_mem.mp hF) _ (Array.getElem_mem ha)) i (List.mem_range.mpr hi)
    simpa [Array.getElem?_eq_getElem hi] using q
  obtain ⟨i0, ei0⟩ := isL_v q0
  obtain rfl : w0 = (.long i0) := Option.some.inj ei0
  obtain ⟨i1, ei1⟩ := is_v q1
  obtain rfl : w1 = (.int i1) := Option.some.inj ei1
  obtain ⟨i2, ei2⟩ := is_v q2
  obtain rfl : w2 = (.int i2) := Option.some.inj ei2
  obtain ⟨n, o, h1, h2, h3, _, L, rfl, ⟨rfl, N⟩, hq⟩ := rm0 l s _ hw tables_1 i0 i1 i2 s.heap s.heap.size (Nat.le_refl _) p e ha hc hk s m _ below hf ((Spec.applies_iff_loose hf).mp happ).1 ⟨rfl, State.Warmed39.refl s, rfl⟩ trivial
  exact ⟨n, _, h1, h2, h3, hpost _ _ _ _ _ _ ⟨Cond.after_iff.mpr rfl, Cond.after_iff.mpr (eq_i res_at (Term.int_eval (1)) rfl)⟩ ⟨hq.1, hq.2.1, (hq.2.2.sift fun y hy => Or.inr (N y hy)).mono (by decide) (by decide)⟩⟩
theorem main_1_1 : Claimed_1_1 := comes_1 fun _ _ _ _ _ _ h hF => ⟨h.1, hF⟩
theorem main_1_2 : Claimed_1_2 := comes_1 fun _ _ _ _ _ _ h hF => ⟨h.2, hF⟩
end Jvm.Pilot.@@N@@
namespace Jvm.Pilot.@@N@@
open Jvm Jvm.ClassFile Sem Op Lib Jvm.Free Jvm.Stand Jvm.Pilot.@@N@@.Jvm.D
/-! MADE BY PROGRAM (witnessworld.py) out of the Statement's table words and the real class files: 11 classes; the members and pool entries that the words name. The judged class is class 1, her method 1. -/
namespace start1
open Jvm.ClassFile
def u (s : String) : CpInfo := .utf8 (stringToUtf16 s)
/-- a pool by its gaps: so many unusable entries, then the entry; so many at the end -/
def gap : Nat → List CpInfo → List CpInfo
  | 0, r => r
  | n + 1, r => .unusable :: gap n r
def poolList (es : List (Nat × CpInfo)) (last : Nat) : List CpInfo := es.foldr (fun e r => gap e.1 (e.2 :: r)) (gap last [])
def pool (es : List (Nat × CpInfo)) (last : Nat) : Array CpInfo := ⟨poolList es last⟩
def fileOf (pool : Array CpInfo) (this : Nat) (attrs : Array Attribute := #[]) (ms : Array MethodInfo := #[]) (fl : Nat := 33) (sup : Nat := 0) (ifs : Array Nat := #[]) (fds : Array FieldInfo := #[]) : ClassFile where
  minorVersion := 0
  majorVersion := 65
  constantPool := pool
  accessFlags := fl
  thisClass := this
  superClass := sup
  interfaces := ifs
  fields := fds
  methods := ms
  attributes := attrs
def plain (name : String) (sup : Option ClassId) : Class where
  name := name
  kind := .ordinary
  loader := none
  accessFlags := 33
  super := sup
  interfaces := #[]
  cf := none
  fields := #[]
  methods := #[]
  instanceTypes := #[]
  staticTypes := #[]
  resolved := #[]
  callSites := []
  init := .initialized
  statics := none
  mirror := none

def pool0 : Array CpInfo := pool [(5, u "<init>"), (0, u "()V"), (1, .class_ 10), (1, u "java/lang/Object")] 113

def k0m0 : Method := { name := "<init>", desc := "()V", sig := { parameters := [], returnType := none }, accessFlags := 1, code := none }
/-- java/lang/Object -/
def k0 : Class := { plain "java/lang/Object" none with
  accessFlags := 33
  interfaces := #[]
  cf := some (fileOf pool0 8 #[] #[{ accessFlags := 1, nameIndex := 5, descriptorIndex := 6, attributes := #[] }] 33 0 #[] #[])
  fields := #[]
  methods := #[k0m0]
  instanceTypes := #[]
  staticTypes := #[]
  resolved := Array.replicate 124 none
  statics := none }

def pool1 : Array CpInfo := pool [(2, .class_ 4), (1, u "java/lang/Object"), (0, u "<init>"), (0, u "()V"), (0, .integer 2147483647), (0, .methodref 9 10), (0, .class_ 11), (0, .nameAndType 12 13), (0, u "com/example/quern/quern/Matches"), (0, u "select"), (0, u "([DII)D"), (0, .methodref 15 16), (0, .class_ 17), (0, .nameAndType 18 19), (0, u "com/example/quern/quern/MatchesSelectPinLaw"), (0, u "below"), (0, u "(DDII)I"), (0, .methodref 15 21), (0, .nameAndType 22 19), (0, u "atMost"), (0, .methodref 15 24), (0, .nameAndType 25 26), (0, u "kept"), (0, u "(DDII)Z"), (2, u "law"), (0, u "(JII)Z")] 5

def k1m0 : Method := { name := "<init>", desc := "()V", sig := { parameters := [], returnType := none }, accessFlags := 1, code := none }
def k1c1 : Code := { maxStack := 7, maxLocals := 22, code := code, exceptionTable := #[], attributes := #[] }
def k1m1 : Method := { name := "law", desc := "(JII)Z", sig := { parameters := [.long, .int, .int], returnType := some .boolean }, accessFlags := 9, code := some k1c1 }
def k1c2 : Code := { maxStack := 4, maxLocals := 6, code := method_3_code, exceptionTable := #[], attributes := #[] }
def k1m2 : Method := { name := "below", desc := "(DDII)I", sig := { parameters := [.double, .double, .int, .int], returnType := some .int }, accessFlags := 10, code := some k1c2 }
def k1c3 : Code := { maxStack := 4, maxLocals := 6, code := method_4_code, exceptionTable := #[], attributes := #[] }
def k1m3 : Method := { name := "atMost", desc := "(DDII)I", sig := { parameters := [.double, .double, .int, .int], returnType := some .int }, accessFlags := 10, code := some k1c3 }
def k1c4 : Code := { maxStack := 4, maxLocals := 6, code := method_5_code, exceptionTable := #[], attributes := #[] }
def k1m4 : Method := { name := "kept", desc := "(DDII)Z", sig := { parameters := [.double, .double, .int, .int], returnType := some .boolean }, accessFlags := 10, code := some k1c4 }
/-- com/example/quern/quern/MatchesSelectPinLaw -/
def k1 : Class := { plain "com/example/quern/quern/MatchesSelectPinLaw" (some 0) with
  accessFlags := 49
  interfaces := #[]
  cf := some (fileOf pool1 15 #[] #[{ accessFlags := 1, nameIndex := 5, descriptorIndex := 6, attributes := #[] }, { accessFlags := 9, nameIndex := 29, descriptorIndex := 30, attributes := #[] }, { accessFlags := 10, nameIndex := 18, descriptorIndex := 19, attributes := #[] }, { accessFlags := 10, nameIndex := 22, descriptorIndex := 19, attributes := #[] }, { accessFlags := 10, nameIndex := 25, descriptorIndex := 26, attributes := #[] }] 49 2 #[] #[])
  fields := #[]
  methods := #[k1m0, k1m1, k1m2, k1m3, k1m4]
  instanceTypes := #[]
  staticTypes := #[]
  resolved := Array.replicate 36 none
  statics := none }

def pool2 : Array CpInfo := pool [(2, .class_ 4), (1, u "java/lang/Object"), (3, .class_ 10), (1, u "com/example/quern/quern/Matches"), (0, u "segment"), (0, u "Lcom/example/quern/quern/SegmentReader;"), (2, u "deleted"), (0, u "Lcom/example/quern/quern/DeletedDocuments;"), (7, u "excluded"), (0, u "Lcom/example/quern/quern/ExcludedClauses;"), (6, u "weights"), (0, u "[Lcom/example/quern/quern/Bm25$Weight;"), (14, u "lengths"), (0, u "[Lcom/example/quern/quern/FieldLengths;"), (2, u "costRatios"), (0, u "[D"), (49, u "oneField"), (0, u "Z"), (125, u "documentsScored"), (0, u "J"), (2, u "select"), (0, u "([DII)D"), (2, u "minimum"), (0, u "D"), (4, u "roundedMinimum"), (64, u "ROUNDING_ROOM"), (1, u "QUOTIENT_ROOM"), (0, u "LEFT_OUT")] 45

def k2c0 : Code := { maxStack := 4, maxLocals := 11, code := prog_59_method_8_code, exceptionTable := #[], attributes := #[] }
def k2m0 : Method := { name := "select", desc := "([DII)D", sig := { parameters := [(.array .double), .int, .int], returnType := some .double }, accessFlags := 8, code := some k2c0 }
/-- com/example/quern/quern/Matches -/
def k2 : Class := { plain "com/example/quern/quern/Matches" (some 0) with
  accessFlags := 1056
  interfaces := #[]
  cf := some (fileOf pool2 8 #[] #[{ accessFlags := 8, nameIndex := 234, descriptorIndex := 235, attributes := #[] }] 1056 2 #[] #[{ accessFlags := 26, nameIndex := 309, descriptorIndex := 239, attributes := #[] }, { accessFlags := 26, nameIndex := 311, descriptorIndex := 239, attributes := #[] }, { accessFlags := 24, nameIndex := 312, descriptorIndex := 239, attributes := #[] }, { accessFlags := 16, nameIndex := 11, descriptorIndex := 12, attributes := #[] }, { accessFlags := 16, nameIndex := 15, descriptorIndex := 16, attributes := #[] }, { accessFlags := 16, nameIndex := 24, descriptorIndex := 25, attributes := #[] }, { accessFlags := 16, nameIndex := 32, descriptorIndex := 33, attributes := #[] }, { accessFlags := 16, nameIndex := 48, descriptorIndex := 49, attributes := #[] }, { accessFlags := 18, nameIndex := 52, descriptorIndex := 53, attributes := #[] }, { accessFlags := 18, nameIndex := 103, descriptorIndex := 104, attributes := #[] }, { accessFlags := 2, nameIndex := 238, descriptorIndex := 239, attributes := #[] }, { accessFlags := 2, nameIndex := 244, descriptorIndex := 239, attributes := #[] }, { accessFlags := 0, nameIndex := 230, descriptorIndex := 231, attributes := #[] }])
  fields := #[{ name := "ROUNDING_ROOM", type := .double, accessFlags := 26, slot := 0, constantValue := 0 }, { name := "QUOTIENT_ROOM", type := .double, accessFlags := 26, slot := 1, constantValue := 0 }, { name := "LEFT_OUT", type := .double, accessFlags := 24, slot := 2, constantValue := 0 }, { name := "segment", type := (.object "com/example/quern/quern/SegmentReader"), accessFlags := 16, slot := 0, constantValue := 0 }, { name := "deleted", type := (.object "com/example/quern/quern/DeletedDocuments"), accessFlags := 16, slot := 1, constantValue := 0 }, { name := "excluded", type := (.object "com/example/quern/quern/ExcludedClauses"), accessFlags := 16, slot := 2, constantValue := 0 }, { name := "weights", type := (.array (.object "com/example/quern/quern/Bm25$Weight")), accessFlags := 16, slot := 3, constantValue := 0 }, { name := "lengths", type := (.array (.object "com/example/quern/quern/FieldLengths")), accessFlags := 16, slot := 4, constantValue := 0 }, { name := "costRatios", type := (.array .double), accessFlags := 18, slot := 5, constantValue := 0 }, { name := "oneField", type := .boolean, accessFlags := 18, slot := 6, constantValue := 0 }, { name := "minimum", type := .double, accessFlags := 2, slot := 7, constantValue := 0 }, { name := "roundedMinimum", type := .double, accessFlags := 2, slot := 8, constantValue := 0 }, { name := "documentsScored", type := .long, accessFlags := 0, slot := 9, constantValue := 0 }]
  methods := #[k2m0]
  instanceTypes := #[(.object "com/example/quern/quern/SegmentReader"), (.object "com/example/quern/quern/DeletedDocuments"), (.object "com/example/quern/quern/ExcludedClauses"), (.array (.object "com/example/quern/quern/Bm25$Weight")), (.array (.object "com/example/quern/quern/FieldLengths")), (.array .double), .boolean, .double, .double, .long]
  staticTypes := #[.double, .double, .double]
  resolved := Array.replicate 358 none
  statics := none }

def pool3 : Array CpInfo := pool [(1, u "java/lang/Cloneable"), (0, .class_ 1), (0, u "java/lang/Object"), (0, .class_ 3)] 3

/-- java/lang/Cloneable -/
def k3 : Class := { plain "java/lang/Cloneable" (some 0) with
  accessFlags := 1537
  interfaces := #[]
  cf := some (fileOf pool3 2 #[] #[] 1537 4 #[] #[])
  fields := #[]
  methods := #[]
  instanceTypes := #[]
  staticTypes := #[]
  resolved := Array.replicate 8 none
  statics := none }

def pool4 : Array CpInfo := pool [(1, u "java/io/Serializable"), (0, .class_ 1), (0, u "java/lang/Object"), (0, .class_ 3)] 3

/-- java/io/Serializable -/
def k4 : Class := { plain "java/io/Serializable" (some 0) with
  accessFlags := 1537
  interfaces := #[]
  cf := some (fileOf pool4 2 #[] #[] 1537 4 #[] #[])
  fields := #[]
  methods := #[]
  instanceTypes := #[]
  staticTypes := #[]
  resolved := Array.replicate 8 none
  statics := none }

/-- the primitive byte -/
def k5 : Class := { plain "byte" none with kind := .primitive 'B', accessFlags := 0x411 }
/-- [B -/
def k6 : Class := { plain "[B" (some 0) with kind := .array 5 .byte, interfaces := #[3, 4], accessFlags := 1041 }

/-- the primitive double -/
def k7 : Class := { plain "double" none with kind := .primitive 'D', accessFlags := 0x411 }
/-- [D -/
def k8 : Class := { plain "[D" (some 0) with kind := .array 7 .double, interfaces := #[3, 4], accessFlags := 1041 }

/-- the primitive int -/
def k9 : Class := { plain "int" none with kind := .primitive 'I', accessFlags := 0x411 }
/-- [I -/
def k10 : Class := { plain "[I" (some 0) with kind := .array 9 .int, interfaces := #[3, 4], accessFlags := 1041 }

def heap : Heap := #[]
def classes : Array Class := #[k0, k1, k2, k3, k4, k5, k6, k7, k8, k9, k10]
def interned : List (Array UInt16 × Addr) := []
def slotsUsed : Nat := 0
def theMethod : MethodId := ⟨1, 1⟩
def args0 : Array Value := #[.long 8589936641, .int 3, .int 1]
def aboutOver (below : List Frame) : State where
  vm := { classes := classes, interned := interned.toArray }
  heap := heap
  slotsUsed := slotsUsed
  threads := #[{ frames := .invoking theMethod args0 :: below }]
def below0 : List Frame := [.native { method := ⟨0, 0⟩, args := #[] }]
def about1 : State := aboutOver below0
def p0 : Program := .bare "" "" ""
def e0 : Env := launch0.env 0 0 0
theorem w_frames : about1.frames = Frame.invoking theMethod args0 :: below0 := rfl
set_option maxRecDepth 65536 in
theorem w_args : argsFit about1.vm theMethod args0 = true := by decide +kernel
set_option maxRecDepth 65536 in
theorem w_heap : heapFits about1 = true := by decide +kernel
set_option maxRecDepth 65536 in
theorem w_runnable : about1.curStatus? = some .runnable := by decide +kernel
set_option maxRecDepth 65536 in
theorem w_alone : about1.alone = true := by decide +kernel
set_option maxRecDepth 65536 in
theorem w_named : about1.methodNamed? x = some theMethod := by decide +kernel
set_option maxRecDepth 65536 in
theorem w_hears : about1.hears theMethod below0 = true := by decide +kernel
set_option maxRecDepth 65536 in
theorem w_ripe : about1.ripe theMethod args0 below0 = true := by decide +kernel
theorem w_running : about1.status = .running := rfl
set_option maxRecDepth 65536 in
theorem w_room : about1.hasRoom e0.platform room_1 = true :=
  launch0.hasRoom_least _ room_1 (by decide +kernel) (by decide +kernel) (by decide +kernel) (by decide +kernel) (by decide +kernel) (by decide +kernel)
theorem allAtoms_all (ts : List Jvm.Cond) (a : Array Jvm.Value) (st : Jvm.State) : (allAtoms ts).before a st = ts.all (fun c => c.before a st) := by
  induction ts with
  | nil => rfl
  | cons c t ih =>
    show (Jvm.Cond.and c (allAtoms t)).before a st = _
    rw [Jvm.Cond.before_and, ih, List.all_cons]
def words1 : List Jvm.Cond := Jvm.Cond.code x code maxLocals ret :: tables_1
/-- a 'code' word, met by the world's own term for the bytes: nothing is compared byte by byte -/
theorem code_word {y : MethodName} {bytes : ByteArray} {mx : Nat} {rt : Option FieldType} {a : Array Value} {s : State} {m : MethodId} {meth : Method} {c : Code} (h1 : s.methodNamed? y = some m) (h2 : s.vm.method? m = some meth) (h3 : meth.code = some c) (h4 : c.code = bytes)
    (h5 : (c.maxLocals == mx && c.exceptionTable.isEmpty && decide (c.maxStack ≤ mostOperands) && decide (meth.sig.returnType = rt) && !meth.locks && decide (parseMethodDescriptor y.desc = some meth.sig)) = true) : (Jvm.Cond.code y bytes mx rt).before a s = true := by
  simp only [Bool.and_eq_true, beq_iff_eq, Bool.not_eq_true', decide_eq_true_eq] at h5
  obtain ⟨⟨⟨⟨⟨g1, g2⟩, g3⟩, g4⟩, g5⟩, g6⟩ := h5
  simp [Cond.before, Cond.holds, Cond.value, h1, h2, h3, h4, g1, g2, g3, g4, g5, g6]
def isCode : Jvm.Cond → Bool
  | .code _ _ _ _ => true
  | _ => false
theorem all_split {L : List Jvm.Cond} {P : Jvm.Cond → Bool} (h1 : L.all (fun c => isCode c || P c) = true) (h2 : ∀ c ∈ L.filter isCode, P c = true) : L.all P = true := by
  refine List.all_eq_true.mpr fun c hc => ?_
  have h := List.all_eq_true.mp h1 c hc
  rcases Bool.eq_false_or_eq_true (isCode c) with hi | hi
  · exact h2 c (List.mem_filter.mpr ⟨hc, hi⟩)
  · simpa [hi] using h
set_option maxRecDepth 65536 in
theorem w_c0 : (Jvm.Cond.code x code maxLocals ret).before args0 about1 = true := code_word (m := ⟨1, 1⟩) (meth := k1m1) (c := k1c1) (by decide +kernel) rfl rfl rfl (by decide +kernel)
set_option maxRecDepth 65536 in
theorem w_c1 : (Jvm.Cond.code ({ cls := "com/example/quern/quern/Matches", name := "select", desc := "([DII)D" } : Jvm.MethodName) prog_59_method_8_code (11 : Nat) (Option.some Jvm.ClassFile.FieldType.double)).before args0 about1 = true := code_word (m := ⟨2, 0⟩) (meth := k2m0) (c := k2c0) (by decide +kernel) rfl rfl rfl (by decide +kernel)
set_option maxRecDepth 65536 in
theorem w_c2 : (Jvm.Cond.code ({ cls := "com/example/quern/quern/MatchesSelectPinLaw", name := "below", desc := "(DDII)I" } : Jvm.MethodName) method_3_code (6 : Nat) (Option.some Jvm.ClassFile.FieldType.int)).before args0 about1 = true := code_word (m := ⟨1, 2⟩) (meth := k1m2) (c := k1c2) (by decide +kernel) rfl rfl rfl (by decide +kernel)
set_option maxRecDepth 65536 in
theorem w_c3 : (Jvm.Cond.code ({ cls := "com/example/quern/quern/MatchesSelectPinLaw", name := "atMost", desc := "(DDII)I" } : Jvm.MethodName) method_4_code (6 : Nat) (Option.some Jvm.ClassFile.FieldType.int)).before args0 about1 = true := code_word (m := ⟨1, 3⟩) (meth := k1m3) (c := k1c3) (by decide +kernel) rfl rfl rfl (by decide +kernel)
set_option maxRecDepth 65536 in
theorem w_c4 : (Jvm.Cond.code ({ cls := "com/example/quern/quern/MatchesSelectPinLaw", name := "kept", desc := "(DDII)Z" } : Jvm.MethodName) method_5_code (6 : Nat) (Option.some Jvm.ClassFile.FieldType.boolean)).before args0 about1 = true := code_word (m := ⟨1, 4⟩) (meth := k1m4) (c := k1c4) (by decide +kernel) rfl rfl rfl (by decide +kernel)
def codes1 : List Jvm.Cond := [Jvm.Cond.code x code maxLocals ret, Jvm.Cond.code ({ cls := "com/example/quern/quern/Matches", name := "select", desc := "([DII)D" } : Jvm.MethodName) prog_59_method_8_code (11 : Nat) (Option.some Jvm.ClassFile.FieldType.double), Jvm.Cond.code ({ cls := "com/example/quern/quern/MatchesSelectPinLaw", name := "below", desc := "(DDII)I" } : Jvm.MethodName) method_3_code (6 : Nat) (Option.some Jvm.ClassFile.FieldType.int), Jvm.Cond.code ({ cls := "com/example/quern/quern/MatchesSelectPinLaw", name := "atMost", desc := "(DDII)I" } : Jvm.MethodName) method_4_code (6 : Nat) (Option.some Jvm.ClassFile.FieldType.int), Jvm.Cond.code ({ cls := "com/example/quern/quern/MatchesSelectPinLaw", name := "kept", desc := "(DDII)Z" } : Jvm.MethodName) method_5_code (6 : Nat) (Option.some Jvm.ClassFile.FieldType.boolean)]
set_option maxRecDepth 65536 in
theorem codes_eq : words1.filter isCode = codes1 := rfl
theorem w_codes : ∀ c ∈ words1.filter isCode, c.before args0 about1 = true := by
  rw [codes_eq]
  intro c hc
  simp only [codes1, List.mem_cons, List.not_mem_nil, or_false] at hc
  rcases hc with rfl | rfl | rfl | rfl | rfl
  · exact w_c0
  · exact w_c1
  · exact w_c2
  · exact w_c3
  · exact w_c4
set_option maxRecDepth 65536 in
theorem w_t1 : words1.all (fun c => isCode c || c.before args0 about1) = true := by decide +kernel
theorem w_tables : (allAtoms (Jvm.Cond.code x code maxLocals ret :: tables_1)).before args0 about1 = true := by
  rw [allAtoms_all]
  show words1.all (fun c => c.before args0 about1) = true
  refine all_split ?_ w_codes
  rw [w_t1]
set_option maxRecDepth 65536 in
theorem w_case : (Jvm.Cond.and given_1 narrow_1).before args0 about1 = true := by decide +kernel
theorem w_applies : (headSpec (Jvm.Cond.code x code maxLocals ret :: tables_1) room_1).applies x e0.platform about1 = true :=
  (Spec.applies_iff w_frames).mpr ⟨w_running, w_runnable, w_alone, w_named, w_hears, w_ripe, w_room, w_tables⟩
theorem atStart : AtStart classFile x code maxLocals ret World_1 tables_1 room_1 Calls_1 rest_1 Pre_1 launch0 p0 e0 about1 theMethod args0 below0 :=
  ⟨lists_1, trivial, launch0.admits_env _ _ _, launch0.least_env, fairChoices_fair.cas, fairChoices_fair.clock, w_frames, w_args, w_heap, w_applies, trivial, trivial, w_case⟩
end start1
theorem witness_1 : WitnessClaimed_1 := ⟨start1.p0, start1.e0, start1.about1, start1.theMethod, start1.args0, start1.below0, start1.atStart⟩
end Jvm.Pilot.@@N@@
