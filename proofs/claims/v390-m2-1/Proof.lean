import JvmDerived
import JvmDerived.Pilot.@@N@@Statement
import JvmDerived.Pilot.@@N@@Code
set_option linter.unusedVariables false
set_option linter.unusedSimpArgs false
namespace Jvm.Pilot.@@N@@
open Jvm Jvm.ClassFile Sem Op Lib Jvm.Free Jvm.Stand Jvm.LawKit Jvm.RoadKit Bundle Jvm.Pilot.@@N@@.Jvm.D
/-! own_: a walk in backward style: 'Ends': from here the body comes to its end and Q holds there. One law an instruction, over frames written mkF. -/
namespace Wk
section
variable {p : Program} {l : Launch} {e : Env} {R : Room} {s : State} {m : MethodId} {args : Array Value} {below : List Frame} {meth : Method} {c : Code} {T : State} {locs : List Loc} {cells slots : Nat} {Z : State} {a0 : Array Value} {h : Heap} {y : MethodName} {cd : ByteArray} {ml : Nat} {ret : Option FieldType} {Q : Option Value → Heap → List Loc → Prop} {pc pc' : Nat} {ls : Array Slot} {st : List Value}
/-- the run from T with the frame f comes to the body's end, and Q holds there -/
def Ends (p : Program) (e : Env) (s : State) (below : List Frame) (R : Room) (Q : Option Value → Heap → List Loc → Prop) (T : State) (f : JFrame) : Prop :=
  ∃ s₂ o, Steps p.tables e below (T.setTop f) s₂ ∧ s₂.status = .running ∧ Ended s₂ below o ∧ ∃ v L, o = .returned v ∧ Q v s₂.heap L ∧ FrameEnd s o s₂ L R.cells R.slots
/-- what stands still while one body is walked -/
def K (p : Program) (s : State) (m : MethodId) (meth : Method) (c : Code) (Z : State) (y : MethodName) (cd : ByteArray) (ml : Nat) (ret : Option FieldType) : Prop :=
  p.tables.exec = Jvm.exec ∧ Z.Warmed39 s.vm ∧ c.code = cd ∧ c.maxLocals = ml ∧ s.vm.findClass y.cls = some m.cls ∧ meth.sig.returnType = ret ∧ meth.locks = false ∧ meth.name = y.name
/-- a body's contract: called with as' over the heap h it returns, and Q holds -/
def Met (l : Launch) (y : MethodName) (cd : ByteArray) (ml : Nat) (ret : Option FieldType) (rm : Room) (as' : Array Value) (Z : State) (h : Heap) (Q : Option Value → Heap → List Loc → Prop) (ws : List Jvm.Cond) : Prop :=
  MetFree l y (head1 (Jvm.Cond.code y cd ml ret :: ws) rm) (fun a U => a = as' ∧ Z.Warmed39 U.vm ∧ U.heap = h) (fun _ _ _ _ _ => True) (fun _ U o U' => ∃ v L, o = .returned v ∧ Q v U'.heap L ∧ FrameEnd U o U' L rm.cells rm.slots)
theorem enter {rm : Room} {as' : Array Value} {ws : List Jvm.Cond} (hpl : plainFor y = true)
    (body : ∀ (p : Program) (e : Env) (s : State) (m : MethodId) (below : List Frame) (meth : Method) (c : Code) (T : State), K p s m meth c Z y cd ml ret → Stand p l e rm s m as' below meth c T [] 0 0 → T.heap = h → Ends p e s below rm Q T (entryFrame m as' ml)) :
    Met l y cd ml ret rm as' Z h Q ws := by
  refine MetFree.of_bodySF hpl hisR ?_
  intro p e s m args below meth c s₁ Bd hml0 hP hK
  obtain ⟨rfl, hZ, hh⟩ := hP
  exact body p e s m below meth c s₁ ⟨Bd.exec, hZ, Bd.bytes, hml0, findClass_of_methodNamed Bd.named, Bd.returns, Bd.notSynchronized, (name_of_methodNamed Bd.named Bd.method).1⟩ (Stand.of_body Bd) (by rw [← hh, Bd.state]; rfl)
theorem Ends.map {T' : State} {f f' : JFrame} (st : ∀ target, Steps p.tables e below (T'.setTop f') target → Steps p.tables e below (T.setTop f) target) (h : Ends p e s below R Q T' f') : Ends p e s below R Q T f := by
  obtain ⟨s₂, o, h1, h2⟩ := h
  exact ⟨s₂, o, st _ h1, h2⟩
theorem Ends.cast {f f' : JFrame} (q : f = f') (h : Ends p e s below R Q T f') : Ends p e s below R Q T f := q ▸ h
theorem w {ws : List Jvm.Cond} (hw : ∀ d ∈ ws, d.before a0 Z = true) (i : Nat) {d : Jvm.Cond} (q : ws[i]? = some d) : d.before a0 Z = true := hw d (List.mem_of_getElem? q)
/-! loads, stores, constants -/
theorem iload_n (k : K p s m meth c Z y cd ml ret) (X : Stand p l e R s m args below meth c T locs cells slots) {i : Fin 4} {v : Int32} (hd : decode cd pc = .ok (.iload_n i, 1)) (hl : ls[i.val]? = some (.val (.int v))) (pc' : Nat) (hp : pc + 1 = pc') (h : Ends p e s below R Q T (mkF m pc' ls (.int v :: st))) : Ends p e s below R Q T (mkF m pc ls st) := by
  subst hp; exact h.map fun _ q => XS.iloadN X.here k.1 rfl (hb k.2.2.1 hd) hl q
theorem iload (k : K p s m meth c Z y cd ml ret) (X : Stand p l e R s m args below meth c T locs cells slots) {i : Nat} {v : Int32} (hd : decode cd pc = .ok (.iload i, 2)) (hl : ls[i]? = some (.val (.int v))) (pc' : Nat) (hp : pc + 2 = pc') (h : Ends p e s below R Q T (mkF m pc' ls (.int v :: st))) : Ends p e s below R Q T (mkF m pc ls st) := by
  subst hp; exact h.map fun _ q => XS.iload X.here k.1 rfl (hb k.2.2.1 hd) hl q
theorem lload_n (k : K p s m meth c Z y cd ml ret) (X : Stand p l e R s m args below meth c T locs cells slots) {i : Fin 4} {v : Int64} (hd : decode cd pc = .ok (.lload_n i, 1)) (hl : ls[i.val]? = some (.val (.long v))) (pc' : Nat) (hp : pc + 1 = pc') (h : Ends p e s below R Q T (mkF m pc' ls (.long v :: st))) : Ends p e s below R Q T (mkF m pc ls st) := by
  subst hp; exact h.map fun _ q => XS.lloadN X.here k.1 rfl (hb k.2.2.1 hd) hl q
theorem lload (k : K p s m meth c Z y cd ml ret) (X : Stand p l e R s m args below meth c T locs cells slots) {i : Nat} {v : Int64} (hd : decode cd pc = .ok (.lload i, 2)) (hl : ls[i]? = some (.val (.long v))) (pc' : Nat) (hp : pc + 2 = pc') (h : Ends p e s below R Q T (mkF m pc' ls (.long v :: st))) : Ends p e s below R Q T (mkF m pc ls st) := by
  subst hp; exact h.map fun _ q => XS.lload X.here k.1 rfl (hb k.2.2.1 hd) hl q
theorem aload_n (k : K p s m meth c Z y cd ml ret) (X : Stand p l e R s m args below meth c T locs cells slots) {i : Fin 4} {v : Value} (hd : decode cd pc = .ok (.aload_n i, 1)) (hl : ls[i.val]? = some (.val v)) (hv : v.isRef = true) (pc' : Nat) (hp : pc + 1 = pc') (h : Ends p e s below R Q T (mkF m pc' ls (v :: st))) : Ends p e s below R Q T (mkF m pc ls st) := by
  subst hp; exact h.map fun _ q => XS.aloadN X.here k.1 rfl (hb k.2.2.1 hd) hl hv q
theorem aload (k : K p s m meth c Z y cd ml ret) (X : Stand p l e R s m args below meth c T locs cells slots) {i : Nat} {v : Value} (hd : decode cd pc = .ok (.aload i, 2)) (hl : ls[i]? = some (.val v)) (hv : v.isRef = true) (pc' : Nat) (hp : pc + 2 = pc') (h : Ends p e s below R Q T (mkF m pc' ls (v :: st))) : Ends p e s below R Q T (mkF m pc ls st) := by
  subst hp; exact h.map fun _ q => XS.aload X.here k.1 rfl (hb k.2.2.1 hd) hl hv q
theorem istore_n (k : K p s m meth c Z y cd ml ret) (X : Stand p l e R s m args below meth c T locs cells slots) {i : Fin 4} {v : Int32} (hd : decode cd pc = .ok (.istore_n i, 1)) (ls' : Array Slot) (hl : storeLocals ls i.val (.int v) = some ls') (pc' : Nat) (hp : pc + 1 = pc') (h : Ends p e s below R Q T (mkF m pc' ls' st)) : Ends p e s below R Q T (mkF m pc ls (.int v :: st)) := by
  subst hp; exact h.map fun _ q => XS.istoreN X.here k.1 rfl (hb k.2.2.1 hd) rfl hl q
theorem istore (k : K p s m meth c Z y cd ml ret) (X : Stand p l e R s m args below meth c T locs cells slots) {i : Nat} {v : Int32} (hd : decode cd pc = .ok (.istore i, 2)) (ls' : Array Slot) (hl : storeLocals ls i (.int v) = some ls') (pc' : Nat) (hp : pc + 2 = pc') (h : Ends p e s below R Q T (mkF m pc' ls' st)) : Ends p e s below R Q T (mkF m pc ls (.int v :: st)) := by
  subst hp; exact h.map fun _ q => XS.istore X.here k.1 rfl (hb k.2.2.1 hd) rfl hl q
theorem lstore_n (k : K p s m meth c Z y cd ml ret) (X : Stand p l e R s m args below meth c T locs cells slots) {i : Fin 4} {v : Int64} (hd : decode cd pc = .ok (.lstore_n i, 1)) (ls' : Array Slot) (hl : storeLocals ls i.val (.long v) = some ls') (pc' : Nat) (hp : pc + 1 = pc') (h : Ends p e s below R Q T (mkF m pc' ls' st)) : Ends p e s below R Q T (mkF m pc ls (.long v :: st)) := by
  subst hp; exact h.map fun _ q => XS.lstoreN X.here k.1 rfl (hb k.2.2.1 hd) rfl hl q
theorem lstore (k : K p s m meth c Z y cd ml ret) (X : Stand p l e R s m args below meth c T locs cells slots) {i : Nat} {v : Int64} (hd : decode cd pc = .ok (.lstore i, 2)) (ls' : Array Slot) (hl : storeLocals ls i (.long v) = some ls') (pc' : Nat) (hp : pc + 2 = pc') (h : Ends p e s below R Q T (mkF m pc' ls' st)) : Ends p e s below R Q T (mkF m pc ls (.long v :: st)) := by
  subst hp; exact h.map fun _ q => XS.lstore X.here k.1 rfl (hb k.2.2.1 hd) rfl hl q
theorem astore_n (k : K p s m meth c Z y cd ml ret) (X : Stand p l e R s m args below meth c T locs cells slots) {i : Fin 4} {v : Value} (hd : decode cd pc = .ok (.astore_n i, 1)) (hv : v.isRef = true) (ls' : Array Slot) (hl : storeLocals ls i.val v = some ls') (pc' : Nat) (hp : pc + 1 = pc') (h : Ends p e s below R Q T (mkF m pc' ls' st)) : Ends p e s below R Q T (mkF m pc ls (v :: st)) := by
  subst hp; exact h.map fun _ q => XS.astoreN X.here k.1 rfl (hb k.2.2.1 hd) rfl hv hl q
theorem astore (k : K p s m meth c Z y cd ml ret) (X : Stand p l e R s m args below meth c T locs cells slots) {i : Nat} {v : Value} (hd : decode cd pc = .ok (.astore i, 2)) (hv : v.isRef = true) (ls' : Array Slot) (hl : storeLocals ls i v = some ls') (pc' : Nat) (hp : pc + 2 = pc') (h : Ends p e s below R Q T (mkF m pc' ls' st)) : Ends p e s below R Q T (mkF m pc ls (v :: st)) := by
  subst hp; exact h.map fun _ q => XS.astore X.here k.1 rfl (hb k.2.2.1 hd) rfl hv hl q
theorem iinc (k : K p s m meth c Z y cd ml ret) (X : Stand p l e R s m args below meth c T locs cells slots) {i : Nat} {n : Int} {v : Int32} (hd : decode cd pc = .ok (.iinc i n, 3)) (hl : ls[i]? = some (.val (.int v))) (ls' : Array Slot) (hl' : storeLocals ls i (.int (v + Int32.ofInt n)) = some ls') (pc' : Nat) (hp : pc + 3 = pc') (h : Ends p e s below R Q T (mkF m pc' ls' st)) : Ends p e s below R Q T (mkF m pc ls st) := by
  subst hp; exact h.map fun _ q => XS.iinc X.here k.1 rfl (hb k.2.2.1 hd) hl hl' q
theorem iconst (k : K p s m meth c Z y cd ml ret) (X : Stand p l e R s m args below meth c T locs cells slots) {i : Int} (hd : decode cd pc = .ok (.iconst i, 1)) (z : Int32) (hz : Int32.ofInt i = z) (pc' : Nat) (hp : pc + 1 = pc') (h : Ends p e s below R Q T (mkF m pc' ls (.int z :: st))) : Ends p e s below R Q T (mkF m pc ls st) := by
  subst hp hz; exact h.map fun _ q => XS.iconst X.here k.1 rfl (hb k.2.2.1 hd) q
theorem bipush (k : K p s m meth c Z y cd ml ret) (X : Stand p l e R s m args below meth c T locs cells slots) {i : Int} (hd : decode cd pc = .ok (.bipush i, 2)) (z : Int32) (hz : (Int8.ofInt i).toInt32 = z) (pc' : Nat) (hp : pc + 2 = pc') (h : Ends p e s below R Q T (mkF m pc' ls (.int z :: st))) : Ends p e s below R Q T (mkF m pc ls st) := by
  subst hp hz; exact h.map fun _ q => XS.bipush X.here k.1 rfl (hb k.2.2.1 hd) q
theorem sipush (k : K p s m meth c Z y cd ml ret) (X : Stand p l e R s m args below meth c T locs cells slots) {i : Int} (hd : decode cd pc = .ok (.sipush i, 3)) (z : Int32) (hz : (Int16.ofInt i).toInt32 = z) (pc' : Nat) (hp : pc + 3 = pc') (h : Ends p e s below R Q T (mkF m pc' ls (.int z :: st))) : Ends p e s below R Q T (mkF m pc ls st) := by
  subst hp hz; exact h.map fun _ q => XS.sipush X.here k.1 rfl (hb k.2.2.1 hd) q
theorem lconst (k : K p s m meth c Z y cd ml ret) (X : Stand p l e R s m args below meth c T locs cells slots) {i : Fin 2} (hd : decode cd pc = .ok (.lconst i, 1)) (z : Int64) (hz : Int64.ofNat i = z) (pc' : Nat) (hp : pc + 1 = pc') (h : Ends p e s below R Q T (mkF m pc' ls (.long z :: st))) : Ends p e s below R Q T (mkF m pc ls st) := by
  subst hp hz; exact h.map fun _ q => XS.lconst X.here k.1 rfl (hb k.2.2.1 hd) q
theorem aconst_null (k : K p s m meth c Z y cd ml ret) (X : Stand p l e R s m args below meth c T locs cells slots) (hd : decode cd pc = .ok (.aconst_null, 1)) (pc' : Nat) (hp : pc + 1 = pc') (h : Ends p e s below R Q T (mkF m pc' ls (.null :: st))) : Ends p e s below R Q T (mkF m pc ls st) := by
  subst hp; exact h.map fun _ q => XS.aconstNull X.here k.1 rfl (hb k.2.2.1 hd) q
theorem ldc (k : K p s m meth c Z y cd ml ret) (X : Stand p l e R s m args below meth c T locs cells slots) {i : Nat} {z : Int32} (hd : decode cd pc = .ok (.ldc i, 2)) (hc : (Jvm.Cond.constant y.cls i z).before a0 Z = true) (pc' : Nat) (hp : pc + 2 = pc') (h : Ends p e s below R Q T (mkF m pc' ls (.int z :: st))) : Ends p e s below R Q T (mkF m pc ls st) := by
  subst hp; exact h.map (X.ldcInt k.1 k.2.2.2.2.1 (mvT k.2.1 hc) rfl (hb k.2.2.1 hd))
theorem ldc2_w (k : K p s m meth c Z y cd ml ret) (X : Stand p l e R s m args below meth c T locs cells slots) {i : Nat} {z : Int64} (hd : decode cd pc = .ok (.ldc2_w i, 3)) (hc : (Jvm.Cond.constantLong y.cls i z).before a0 Z = true) (pc' : Nat) (hp : pc + 3 = pc') (h : Ends p e s below R Q T (mkF m pc' ls (.long z :: st))) : Ends p e s below R Q T (mkF m pc ls st) := by
  subst hp; exact h.map (X.ldc2Long k.1 k.2.2.2.2.1 (mvT k.2.1 hc) rfl (hb k.2.2.1 hd))
theorem ldcF (k : K p s m meth c Z y cd ml ret) (X : Stand p l e R s m args below meth c T locs cells slots) {i : Nat} {z : UInt32} (hd : decode cd pc = .ok (.ldc i, 2)) (hc : (Jvm.Cond.constantFloat y.cls i z).before a0 Z = true) (pc' : Nat) (hp : pc + 2 = pc') (h : Ends p e s below R Q T (mkF m pc' ls (.float z :: st))) : Ends p e s below R Q T (mkF m pc ls st) := by
  subst hp; exact h.map (X.ldcFloatC k.1 k.2.2.2.2.1 (mvT k.2.1 hc) rfl (hb k.2.2.1 hd))
/-! arithmetic -/
theorem iadd (k : K p s m meth c Z y cd ml ret) (X : Stand p l e R s m args below meth c T locs cells slots) {a : Int32} {b : Int32} (hd : decode cd pc = .ok (.iadd, 1)) (pc' : Nat) (hp : pc + 1 = pc') (h : Ends p e s below R Q T (mkF m pc' ls (.int (a + b) :: st))) : Ends p e s below R Q T (mkF m pc ls (.int b :: .int a :: st)) := by
  subst hp; exact h.map fun _ q => XS.iadd X.here k.1 rfl (hb k.2.2.1 hd) rfl q
theorem ladd (k : K p s m meth c Z y cd ml ret) (X : Stand p l e R s m args below meth c T locs cells slots) {a : Int64} {b : Int64} (hd : decode cd pc = .ok (.ladd, 1)) (pc' : Nat) (hp : pc + 1 = pc') (h : Ends p e s below R Q T (mkF m pc' ls (.long (a + b) :: st))) : Ends p e s below R Q T (mkF m pc ls (.long b :: .long a :: st)) := by
  subst hp; exact h.map fun _ q => XS.ladd X.here k.1 rfl (hb k.2.2.1 hd) rfl q
theorem isub (k : K p s m meth c Z y cd ml ret) (X : Stand p l e R s m args below meth c T locs cells slots) {a : Int32} {b : Int32} (hd : decode cd pc = .ok (.isub, 1)) (pc' : Nat) (hp : pc + 1 = pc') (h : Ends p e s below R Q T (mkF m pc' ls (.int (a - b) :: st))) : Ends p e s below R Q T (mkF m pc ls (.int b :: .int a :: st)) := by
  subst hp; exact h.map fun _ q => XS.isub X.here k.1 rfl (hb k.2.2.1 hd) rfl q
theorem lsub (k : K p s m meth c Z y cd ml ret) (X : Stand p l e R s m args below meth c T locs cells slots) {a : Int64} {b : Int64} (hd : decode cd pc = .ok (.lsub, 1)) (pc' : Nat) (hp : pc + 1 = pc') (h : Ends p e s below R Q T (mkF m pc' ls (.long (a - b) :: st))) : Ends p e s below R Q T (mkF m pc ls (.long b :: .long a :: st)) := by
  subst hp; exact h.map fun _ q => XS.lsub X.here k.1 rfl (hb k.2.2.1 hd) rfl q
theorem imul (k : K p s m meth c Z y cd ml ret) (X : Stand p l e R s m args below meth c T locs cells slots) {a : Int32} {b : Int32} (hd : decode cd pc = .ok (.imul, 1)) (pc' : Nat) (hp : pc + 1 = pc') (h : Ends p e s below R Q T (mkF m pc' ls (.int (a * b) :: st))) : Ends p e s below R Q T (mkF m pc ls (.int b :: .int a :: st)) := by
  subst hp; exact h.map fun _ q => XS.imul X.here k.1 rfl (hb k.2.2.1 hd) rfl q
theorem lmul (k : K p s m meth c Z y cd ml ret) (X : Stand p l e R s m args below meth c T locs cells slots) {a : Int64} {b : Int64} (hd : decode cd pc = .ok (.lmul, 1)) (pc' : Nat) (hp : pc + 1 = pc') (h : Ends p e s below R Q T (mkF m pc' ls (.long (a * b) :: st))) : Ends p e s below R Q T (mkF m pc ls (.long b :: .long a :: st)) := by
  subst hp; exact h.map fun _ q => XS.lmul X.here k.1 rfl (hb k.2.2.1 hd) rfl q
theorem iand (k : K p s m meth c Z y cd ml ret) (X : Stand p l e R s m args below meth c T locs cells slots) {a : Int32} {b : Int32} (hd : decode cd pc = .ok (.iand, 1)) (pc' : Nat) (hp : pc + 1 = pc') (h : Ends p e s below R Q T (mkF m pc' ls (.int (a &&& b) :: st))) : Ends p e s below R Q T (mkF m pc ls (.int b :: .int a :: st)) := by
  subst hp; exact h.map fun _ q => XS.iand X.here k.1 rfl (hb k.2.2.1 hd) rfl q
theorem land (k : K p s m meth c Z y cd ml ret) (X : Stand p l e R s m args below meth c T locs cells slots) {a : Int64} {b : Int64} (hd : decode cd pc = .ok (.land, 1)) (pc' : Nat) (hp : pc + 1 = pc') (h : Ends p e s below R Q T (mkF m pc' ls (.long (a &&& b) :: st))) : Ends p e s below R Q T (mkF m pc ls (.long b :: .long a :: st)) := by
  subst hp; exact h.map fun _ q => XS.land X.here k.1 rfl (hb k.2.2.1 hd) rfl q
theorem ior (k : K p s m meth c Z y cd ml ret) (X : Stand p l e R s m args below meth c T locs cells slots) {a : Int32} {b : Int32} (hd : decode cd pc = .ok (.ior, 1)) (pc' : Nat) (hp : pc + 1 = pc') (h : Ends p e s below R Q T (mkF m pc' ls (.int (a ||| b) :: st))) : Ends p e s below R Q T (mkF m pc ls (.int b :: .int a :: st)) := by
  subst hp; exact h.map fun _ q => XS.ior X.here k.1 rfl (hb k.2.2.1 hd) rfl q
theorem lor (k : K p s m meth c Z y cd ml ret) (X : Stand p l e R s m args below meth c T locs cells slots) {a : Int64} {b : Int64} (hd : decode cd pc = .ok (.lor, 1)) (pc' : Nat) (hp : pc + 1 = pc') (h : Ends p e s below R Q T (mkF m pc' ls (.long (a ||| b) :: st))) : Ends p e s below R Q T (mkF m pc ls (.long b :: .long a :: st)) := by
  subst hp; exact h.map fun _ q => XS.lor X.here k.1 rfl (hb k.2.2.1 hd) rfl q
theorem ixor (k : K p s m meth c Z y cd ml ret) (X : Stand p l e R s m args below meth c T locs cells slots) {a : Int32} {b : Int32} (hd : decode cd pc = .ok (.ixor, 1)) (pc' : Nat) (hp : pc + 1 = pc') (h : Ends p e s below R Q T (mkF m pc' ls (.int (a ^^^ b) :: st))) : Ends p e s below R Q T (mkF m pc ls (.int b :: .int a :: st)) := by
  subst hp; exact h.map fun _ q => XS.ixor X.here k.1 rfl (hb k.2.2.1 hd) rfl q
theorem lxor (k : K p s m meth c Z y cd ml ret) (X : Stand p l e R s m args below meth c T locs cells slots) {a : Int64} {b : Int64} (hd : decode cd pc = .ok (.lxor, 1)) (pc' : Nat) (hp : pc + 1 = pc') (h : Ends p e s below R Q T (mkF m pc' ls (.long (a ^^^ b) :: st))) : Ends p e s below R Q T (mkF m pc ls (.long b :: .long a :: st)) := by
  subst hp; exact h.map fun _ q => XS.lxor X.here k.1 rfl (hb k.2.2.1 hd) rfl q
theorem idiv (k : K p s m meth c Z y cd ml ret) (X : Stand p l e R s m args below meth c T locs cells slots) {a : Int32} {b : Int32} (hd : decode cd pc = .ok (.idiv, 1)) (hy : b ≠ 0) (pc' : Nat) (hp : pc + 1 = pc') (h : Ends p e s below R Q T (mkF m pc' ls (.int (a / b) :: st))) : Ends p e s below R Q T (mkF m pc ls (.int b :: .int a :: st)) := by
  subst hp; exact h.map fun _ q => XS.idiv X.here k.1 rfl (hb k.2.2.1 hd) rfl hy q
theorem ldiv (k : K p s m meth c Z y cd ml ret) (X : Stand p l e R s m args below meth c T locs cells slots) {a : Int64} {b : Int64} (hd : decode cd pc = .ok (.ldiv, 1)) (hy : b ≠ 0) (pc' : Nat) (hp : pc + 1 = pc') (h : Ends p e s below R Q T (mkF m pc' ls (.long (a / b) :: st))) : Ends p e s below R Q T (mkF m pc ls (.long b :: .long a :: st)) := by
  subst hp; exact h.map fun _ q => XS.ldiv X.here k.1 rfl (hb k.2.2.1 hd) rfl hy q
theorem ishl (k : K p s m meth c Z y cd ml ret) (X : Stand p l e R s m args below meth c T locs cells slots) {a : Int32} {b : Int32} (hd : decode cd pc = .ok (.ishl, 1)) (pc' : Nat) (hp : pc + 1 = pc') (h : Ends p e s below R Q T (mkF m pc' ls (.int (a <<< (b &&& 31)) :: st))) : Ends p e s below R Q T (mkF m pc ls (.int b :: .int a :: st)) := by
  subst hp; exact h.map fun _ q => XS.ishl X.here k.1 rfl (hb k.2.2.1 hd) rfl q
theorem ishr (k : K p s m meth c Z y cd ml ret) (X : Stand p l e R s m args below meth c T locs cells slots) {a : Int32} {b : Int32} (hd : decode cd pc = .ok (.ishr, 1)) (pc' : Nat) (hp : pc + 1 = pc') (h : Ends p e s below R Q T (mkF m pc' ls (.int (a >>> (b &&& 31)) :: st))) : Ends p e s below R Q T (mkF m pc ls (.int b :: .int a :: st)) := by
  subst hp; exact h.map fun _ q => XS.ishr X.here k.1 rfl (hb k.2.2.1 hd) rfl q
theorem iushr (k : K p s m meth c Z y cd ml ret) (X : Stand p l e R s m args below meth c T locs cells slots) {a : Int32} {b : Int32} (hd : decode cd pc = .ok (.iushr, 1)) (pc' : Nat) (hp : pc + 1 = pc') (h : Ends p e s below R Q T (mkF m pc' ls (.int ((a.toUInt32 >>> (b &&& 31).toUInt32).toInt32) :: st))) : Ends p e s below R Q T (mkF m pc ls (.int b :: .int a :: st)) := by
  subst hp; exact h.map fun _ q => XS.iushr X.here k.1 rfl (hb k.2.2.1 hd) rfl q
theorem lshl (k : K p s m meth c Z y cd ml ret) (X : Stand p l e R s m args below meth c T locs cells slots) {a : Int64} {b : Int32} (hd : decode cd pc = .ok (.lshl, 1)) (pc' : Nat) (hp : pc + 1 = pc') (h : Ends p e s below R Q T (mkF m pc' ls (.long (a <<< (b &&& 0x3f).toInt64) :: st))) : Ends p e s below R Q T (mkF m pc ls (.int b :: .long a :: st)) := by
  subst hp; exact h.map fun _ q => XS.lshl X.here k.1 rfl (hb k.2.2.1 hd) rfl q
theorem lshr (k : K p s m meth c Z y cd ml ret) (X : Stand p l e R s m args below meth c T locs cells slots) {a : Int64} {b : Int32} (hd : decode cd pc = .ok (.lshr, 1)) (pc' : Nat) (hp : pc + 1 = pc') (h : Ends p e s below R Q T (mkF m pc' ls (.long (a >>> (b &&& 0x3f).toInt64) :: st))) : Ends p e s below R Q T (mkF m pc ls (.int b :: .long a :: st)) := by
  subst hp; exact h.map fun _ q => XS.lshr X.here k.1 rfl (hb k.2.2.1 hd) rfl q
theorem lushr (k : K p s m meth c Z y cd ml ret) (X : Stand p l e R s m args below meth c T locs cells slots) {a : Int64} {b : Int32} (hd : decode cd pc = .ok (.lushr, 1)) (pc' : Nat) (hp : pc + 1 = pc') (h : Ends p e s below R Q T (mkF m pc' ls (.long ((a.toUInt64 >>> (b &&& 0x3f).toInt64.toUInt64).toInt64) :: st))) : Ends p e s below R Q T (mkF m pc ls (.int b :: .long a :: st)) := by
  subst hp; exact h.map fun _ q => XS.lushr X.here k.1 rfl (hb k.2.2.1 hd) rfl q
theorem irem (k : K p s m meth c Z y cd ml ret) (X : Stand p l e R s m args below meth c T locs cells slots) {a b : Int32} (hd : decode cd pc = .ok (.irem, 1)) (hy : b ≠ 0) (pc' : Nat) (hp : pc + 1 = pc') (h : Ends p e s below R Q T (mkF m pc' ls (.int (a % b) :: st))) : Ends p e s below R Q T (mkF m pc ls (.int b :: .int a :: st)) := by
  subst hp; exact h.map fun _ q => iremM X k.1 rfl (hb k.2.2.1 hd) rfl hy q
theorem ineg (k : K p s m meth c Z y cd ml ret) (X : Stand p l e R s m args below meth c T locs cells slots) {a : Int32} (hd : decode cd pc = .ok (.ineg, 1)) (pc' : Nat) (hp : pc + 1 = pc') (h : Ends p e s below R Q T (mkF m pc' ls (.int (-a) :: st))) : Ends p e s below R Q T (mkF m pc ls (.int a :: st)) := by
  subst hp; exact h.map fun _ q => XS.ineg X.here k.1 rfl (hb k.2.2.1 hd) rfl q
theorem lneg (k : K p s m meth c Z y cd ml ret) (X : Stand p l e R s m args below meth c T locs cells slots) {a : Int64} (hd : decode cd pc = .ok (.lneg, 1)) (pc' : Nat) (hp : pc + 1 = pc') (h : Ends p e s below R Q T (mkF m pc' ls (.long (-a) :: st))) : Ends p e s below R Q T (mkF m pc ls (.long a :: st)) := by
  subst hp; exact h.map fun _ q => XS.lneg X.here k.1 rfl (hb k.2.2.1 hd) rfl q
theorem i2l (k : K p s m meth c Z y cd ml ret) (X : Stand p l e R s m args below meth c T locs cells slots) {a : Int32} (hd : decode cd pc = .ok (.i2l, 1)) (pc' : Nat) (hp : pc + 1 = pc') (h : Ends p e s below R Q T (mkF m pc' ls (.long (a.toInt64) :: st))) : Ends p e s below R Q T (mkF m pc ls (.int a :: st)) := by
  subst hp; exact h.map fun _ q => XS.i2l X.here k.1 rfl (hb k.2.2.1 hd) rfl q
theorem l2i (k : K p s m meth c Z y cd ml ret) (X : Stand p l e R s m args below meth c T locs cells slots) {a : Int64} (hd : decode cd pc = .ok (.l2i, 1)) (pc' : Nat) (hp : pc + 1 = pc') (h : Ends p e s below R Q T (mkF m pc' ls (.int (a.toInt32) :: st))) : Ends p e s below R Q T (mkF m pc ls (.long a :: st)) := by
  subst hp; exact h.map fun _ q => XS.l2i X.here k.1 rfl (hb k.2.2.1 hd) rfl q
theorem i2b (k : K p s m meth c Z y cd ml ret) (X : Stand p l e R s m args below meth c T locs cells slots) {a : Int32} (hd : decode cd pc = .ok (.i2b, 1)) (pc' : Nat) (hp : pc + 1 = pc') (h : Ends p e s below R Q T (mkF m pc' ls (.int (a.toInt8.toInt32) :: st))) : Ends p e s below R Q T (mkF m pc ls (.int a :: st)) := by
  subst hp; exact h.map fun _ q => XS.i2b X.here k.1 rfl (hb k.2.2.1 hd) rfl q
theorem i2s (k : K p s m meth c Z y cd ml ret) (X : Stand p l e R s m args below meth c T locs cells slots) {a : Int32} (hd : decode cd pc = .ok (.i2s, 1)) (pc' : Nat) (hp : pc + 1 = pc') (h : Ends p e s below R Q T (mkF m pc' ls (.int (a.toInt16.toInt32) :: st))) : Ends p e s below R Q T (mkF m pc ls (.int a :: st)) := by
  subst hp; exact h.map fun _ q => XS.i2s X.here k.1 rfl (hb k.2.2.1 hd) rfl q
theorem i2c (k : K p s m meth c Z y cd ml ret) (X : Stand p l e R s m args below meth c T locs cells slots) {a : Int32} (hd : decode cd pc = .ok (.i2c, 1)) (pc' : Nat) (hp : pc + 1 = pc') (h : Ends p e s below R Q T (mkF m pc' ls (.int (a.toUInt32.toUInt16.toUInt32.toInt32) :: st))) : Ends p e s below R Q T (mkF m pc ls (.int a :: st)) := by
  subst hp; exact h.map fun _ q => XS.i2c X.here k.1 rfl (hb k.2.2.1 hd) rfl q
/-! stack, jumps -/
theorem dup (k : K p s m meth c Z y cd ml ret) (X : Stand p l e R s m args below meth c T locs cells slots) {v : Value} (hd : decode cd pc = .ok (.dup, 1)) (hc : v.category = 1) (pc' : Nat) (hp : pc + 1 = pc') (h : Ends p e s below R Q T (mkF m pc' ls (v :: v :: st))) : Ends p e s below R Q T (mkF m pc ls (v :: st)) := by
  subst hp; exact h.map fun _ q => XS.dup X.here k.1 rfl (hb k.2.2.1 hd) rfl hc q
theorem pop (k : K p s m meth c Z y cd ml ret) (X : Stand p l e R s m args below meth c T locs cells slots) {v : Value} (hd : decode cd pc = .ok (.pop, 1)) (hc : v.category = 1) (pc' : Nat) (hp : pc + 1 = pc') (h : Ends p e s below R Q T (mkF m pc' ls st)) : Ends p e s below R Q T (mkF m pc ls (v :: st)) := by
  subst hp; exact h.map fun _ q => XS.pop X.here k.1 rfl (hb k.2.2.1 hd) rfl hc q
theorem dup_x1 (k : K p s m meth c Z y cd ml ret) (X : Stand p l e R s m args below meth c T locs cells slots) {v v' : Value} (hd : decode cd pc = .ok (.dup_x1, 1)) (hc : v.category = 1) (hc' : v'.category = 1) (pc' : Nat) (hp : pc + 1 = pc') (h : Ends p e s below R Q T (mkF m pc' ls (v :: v' :: v :: st))) : Ends p e s below R Q T (mkF m pc ls (v :: v' :: st)) := by
  subst hp; exact h.map fun _ q => XS.dupX1 X.here k.1 rfl (hb k.2.2.1 hd) rfl hc hc' q
theorem dup2 (k : K p s m meth c Z y cd ml ret) (X : Stand p l e R s m args below meth c T locs cells slots) {v v' : Value} (hd : decode cd pc = .ok (.dup2, 1)) (hc : v.category = 1) (hc' : v'.category = 1) (pc' : Nat) (hp : pc + 1 = pc') (h : Ends p e s below R Q T (mkF m pc' ls (v :: v' :: v :: v' :: st))) : Ends p e s below R Q T (mkF m pc ls (v :: v' :: st)) := by
  subst hp; exact h.map fun _ q => Jvm.Free.XT.dup2 X.here k.1 rfl (hb k.2.2.1 hd) rfl hc hc' q
theorem goto (k : K p s m meth c Z y cd ml ret) (X : Stand p l e R s m args below meth c T locs cells slots) {o : Int} (hd : decode cd pc = .ok (.goto o, 3)) (ho : 0 ≤ (pc : Int) + o) (pc' : Nat) (hp : ((pc : Int) + o).toNat = pc') (h : Ends p e s below R Q T (mkF m pc' ls st)) : Ends p e s below R Q T (mkF m pc ls st) := by
  exact h.map fun _ q => XS.goto X.here k.1 rfl rfl (hb k.2.2.1 hd) ho hp q
theorem icmp_lt (k : K p s m meth c Z y cd ml ret) (X : Stand p l e R s m args below meth c T locs cells slots) {a b : Int32} {o : Int} (hd : decode cd pc = .ok (.if_icmp .lt o, 3)) (ho : 0 ≤ (pc : Int) + o) (py pn : Nat) (hy : ((pc : Int) + o).toNat = py) (hn : pc + 3 = pn) (h1 : a < b → Ends p e s below R Q T (mkF m py ls st)) (h2 : ¬ a < b → Ends p e s below R Q T (mkF m pn ls st)) : Ends p e s below R Q T (mkF m pc ls (.int b :: .int a :: st)) := by
  subst hn
  by_cases q : a < b
  · exact (h1 q).map fun _ r => XS.icmpYes X.here k.1 rfl rfl (hb k.2.2.1 hd) rfl (tlt q).1 ho hy r
  · exact (h2 q).map fun _ r => XS.icmpNo X.here k.1 rfl (hb k.2.2.1 hd) rfl (flt q).1 r
theorem if_lt (k : K p s m meth c Z y cd ml ret) (X : Stand p l e R s m args below meth c T locs cells slots) {a : Int32} {o : Int} (hd : decode cd pc = .ok (.ifCond .lt o, 3)) (ho : 0 ≤ (pc : Int) + o) (py pn : Nat) (hy : ((pc : Int) + o).toNat = py) (hn : pc + 3 = pn) (h1 : a < 0 → Ends p e s below R Q T (mkF m py ls st)) (h2 : ¬ a < 0 → Ends p e s below R Q T (mkF m pn ls st)) : Ends p e s below R Q T (mkF m pc ls (.int a :: st)) := by
  subst hn
  by_cases q : a < 0
  · exact (h1 q).map fun _ r => XS.ifYes X.here k.1 rfl rfl (hb k.2.2.1 hd) rfl ((if0 _ _).trans (tlt q).1) ho hy r
  · exact (h2 q).map fun _ r => XS.ifNo X.here k.1 rfl (hb k.2.2.1 hd) rfl ((if0 _ _).trans (flt q).1) r
theorem icmp_ge (k : K p s m meth c Z y cd ml ret) (X : Stand p l e R s m args below meth c T locs cells slots) {a b : Int32} {o : Int} (hd : decode cd pc = .ok (.if_icmp .ge o, 3)) (ho : 0 ≤ (pc : Int) + o) (py pn : Nat) (hy : ((pc : Int) + o).toNat = py) (hn : pc + 3 = pn) (h1 : ¬ a < b → Ends p e s below R Q T (mkF m py ls st)) (h2 : a < b → Ends p e s below R Q T (mkF m pn ls st)) : Ends p e s below R Q T (mkF m pc ls (.int b :: .int a :: st)) := by
  subst hn
  by_cases q : a < b
  · exact (h2 q).map fun _ r => XS.icmpNo X.here k.1 rfl (hb k.2.2.1 hd) rfl (tlt q).2.1 r
  · exact (h1 q).map fun _ r => XS.icmpYes X.here k.1 rfl rfl (hb k.2.2.1 hd) rfl (flt q).2.1 ho hy r
theorem if_ge (k : K p s m meth c Z y cd ml ret) (X : Stand p l e R s m args below meth c T locs cells slots) {a : Int32} {o : Int} (hd : decode cd pc = .ok (.ifCond .ge o, 3)) (ho : 0 ≤ (pc : Int) + o) (py pn : Nat) (hy : ((pc : Int) + o).toNat = py) (hn : pc + 3 = pn) (h1 : ¬ a < 0 → Ends p e s below R Q T (mkF m py ls st)) (h2 : a < 0 → Ends p e s below R Q T (mkF m pn ls st)) : Ends p e s below R Q T (mkF m pc ls (.int a :: st)) := by
  subst hn
  by_cases q : a < 0
  · exact (h2 q).map fun _ r => XS.ifNo X.here k.1 rfl (hb k.2.2.1 hd) rfl ((if0 _ _).trans (tlt q).2.1) r
  · exact (h1 q).map fun _ r => XS.ifYes X.here k.1 rfl rfl (hb k.2.2.1 hd) rfl ((if0 _ _).trans (flt q).2.1) ho hy r
theorem icmp_gt (k : K p s m meth c Z y cd ml ret) (X : Stand p l e R s m args below meth c T locs cells slots) {a b : Int32} {o : Int} (hd : decode cd pc = .ok (.if_icmp .gt o, 3)) (ho : 0 ≤ (pc : Int) + o) (py pn : Nat) (hy : ((pc : Int) + o).toNat = py) (hn : pc + 3 = pn) (h1 : b < a → Ends p e s below R Q T (mkF m py ls st)) (h2 : ¬ b < a → Ends p e s below R Q T (mkF m pn ls st)) : Ends p e s below R Q T (mkF m pc ls (.int b :: .int a :: st)) := by
  subst hn
  by_cases q : b < a
  · exact (h1 q).map fun _ r => XS.icmpYes X.here k.1 rfl rfl (hb k.2.2.1 hd) rfl (tlt q).2.2.1 ho hy r
  · exact (h2 q).map fun _ r => XS.icmpNo X.here k.1 rfl (hb k.2.2.1 hd) rfl (flt q).2.2.1 r
theorem if_gt (k : K p s m meth c Z y cd ml ret) (X : Stand p l e R s m args below meth c T locs cells slots) {a : Int32} {o : Int} (hd : decode cd pc = .ok (.ifCond .gt o, 3)) (ho : 0 ≤ (pc : Int) + o) (py pn : Nat) (hy : ((pc : Int) + o).toNat = py) (hn : pc + 3 = pn) (h1 : 0 < a → Ends p e s below R Q T (mkF m py ls st)) (h2 : ¬ 0 < a → Ends p e s below R Q T (mkF m pn ls st)) : Ends p e s below R Q T (mkF m pc ls (.int a :: st)) := by
  subst hn
  by_cases q : 0 < a
  · exact (h1 q).map fun _ r => XS.ifYes X.here k.1 rfl rfl (hb k.2.2.1 hd) rfl ((if0 _ _).trans (tlt q).2.2.1) ho hy r
  · exact (h2 q).map fun _ r => XS.ifNo X.here k.1 rfl (hb k.2.2.1 hd) rfl ((if0 _ _).trans (flt q).2.2.1) r
theorem icmp_le (k : K p s m meth c Z y cd ml ret) (X : Stand p l e R s m args below meth c T locs cells slots) {a b : Int32} {o : Int} (hd : decode cd pc = .ok (.if_icmp .le o, 3)) (ho : 0 ≤ (pc : Int) + o) (py pn : Nat) (hy : ((pc : Int) + o).toNat = py) (hn : pc + 3 = pn) (h1 : ¬ b < a → Ends p e s below R Q T (mkF m py ls st)) (h2 : b < a → Ends p e s below R Q T (mkF m pn ls st)) : Ends p e s below R Q T (mkF m pc ls (.int b :: .int a :: st)) := by
  subst hn
  by_cases q : b < a
  · exact (h2 q).map fun _ r => XS.icmpNo X.here k.1 rfl (hb k.2.2.1 hd) rfl (tlt q).2.2.2 r
  · exact (h1 q).map fun _ r => XS.icmpYes X.here k.1 rfl rfl (hb k.2.2.1 hd) rfl (flt q).2.2.2 ho hy r
theorem if_le (k : K p s m meth c Z y cd ml ret) (X : Stand p l e R s m args below meth c T locs cells slots) {a : Int32} {o : Int} (hd : decode cd pc = .ok (.ifCond .le o, 3)) (ho : 0 ≤ (pc : Int) + o) (py pn : Nat) (hy : ((pc : Int) + o).toNat = py) (hn : pc + 3 = pn) (h1 : ¬ 0 < a → Ends p e s below R Q T (mkF m py ls st)) (h2 : 0 < a → Ends p e s below R Q T (mkF m pn ls st)) : Ends p e s below R Q T (mkF m pc ls (.int a :: st)) := by
  subst hn
  by_cases q : 0 < a
  · exact (h2 q).map fun _ r => XS.ifNo X.here k.1 rfl (hb k.2.2.1 hd) rfl ((if0 _ _).trans (tlt q).2.2.2) r
  · exact (h1 q).map fun _ r => XS.ifYes X.here k.1 rfl rfl (hb k.2.2.1 hd) rfl ((if0 _ _).trans (flt q).2.2.2) ho hy r
theorem icmp_eq (k : K p s m meth c Z y cd ml ret) (X : Stand p l e R s m args below meth c T locs cells slots) {a b : Int32} {o : Int} (hd : decode cd pc = .ok (.if_icmp .eq o, 3)) (ho : 0 ≤ (pc : Int) + o) (py pn : Nat) (hy : ((pc : Int) + o).toNat = py) (hn : pc + 3 = pn) (h1 : a = b → Ends p e s below R Q T (mkF m py ls st)) (h2 : ¬ a = b → Ends p e s below R Q T (mkF m pn ls st)) : Ends p e s below R Q T (mkF m pc ls (.int b :: .int a :: st)) := by
  subst hn
  by_cases q : a = b
  · exact (h1 q).map fun _ r => XS.icmpYes X.here k.1 rfl rfl (hb k.2.2.1 hd) rfl (teq q).1 ho hy r
  · exact (h2 q).map fun _ r => XS.icmpNo X.here k.1 rfl (hb k.2.2.1 hd) rfl (feq q).1 r
theorem if_eq (k : K p s m meth c Z y cd ml ret) (X : Stand p l e R s m args below meth c T locs cells slots) {a : Int32} {o : Int} (hd : decode cd pc = .ok (.ifCond .eq o, 3)) (ho : 0 ≤ (pc : Int) + o) (py pn : Nat) (hy : ((pc : Int) + o).toNat = py) (hn : pc + 3 = pn) (h1 : a = 0 → Ends p e s below R Q T (mkF m py ls st)) (h2 : ¬ a = 0 → Ends p e s below R Q T (mkF m pn ls st)) : Ends p e s below R Q T (mkF m pc ls (.int a :: st)) := by
  subst hn
  by_cases q : a = 0
  · exact (h1 q).map fun _ r => XS.ifYes X.here k.1 rfl rfl (hb k.2.2.1 hd) rfl ((if0 _ _).trans (teq q).1) ho hy r
  · exact (h2 q).map fun _ r => XS.ifNo X.here k.1 rfl (hb k.2.2.1 hd) rfl ((if0 _ _).trans (feq q).1) r
theorem icmp_ne (k : K p s m meth c Z y cd ml ret) (X : Stand p l e R s m args below meth c T locs cells slots) {a b : Int32} {o : Int} (hd : decode cd pc = .ok (.if_icmp .ne o, 3)) (ho : 0 ≤ (pc : Int) + o) (py pn : Nat) (hy : ((pc : Int) + o).toNat = py) (hn : pc + 3 = pn) (h1 : ¬ a = b → Ends p e s below R Q T (mkF m py ls st)) (h2 : a = b → Ends p e s below R Q T (mkF m pn ls st)) : Ends p e s below R Q T (mkF m pc ls (.int b :: .int a :: st)) := by
  subst hn
  by_cases q : a = b
  · exact (h2 q).map fun _ r => XS.icmpNo X.here k.1 rfl (hb k.2.2.1 hd) rfl (teq q).2 r
  · exact (h1 q).map fun _ r => XS.icmpYes X.here k.1 rfl rfl (hb k.2.2.1 hd) rfl (feq q).2 ho hy r
theorem if_ne (k : K p s m meth c Z y cd ml ret) (X : Stand p l e R s m args below meth c T locs cells slots) {a : Int32} {o : Int} (hd : decode cd pc = .ok (.ifCond .ne o, 3)) (ho : 0 ≤ (pc : Int) + o) (py pn : Nat) (hy : ((pc : Int) + o).toNat = py) (hn : pc + 3 = pn) (h1 : ¬ a = 0 → Ends p e s below R Q T (mkF m py ls st)) (h2 : a = 0 → Ends p e s below R Q T (mkF m pn ls st)) : Ends p e s below R Q T (mkF m pc ls (.int a :: st)) := by
  subst hn
  by_cases q : a = 0
  · exact (h2 q).map fun _ r => XS.ifNo X.here k.1 rfl (hb k.2.2.1 hd) rfl ((if0 _ _).trans (teq q).2) r
  · exact (h1 q).map fun _ r => XS.ifYes X.here k.1 rfl rfl (hb k.2.2.1 hd) rfl ((if0 _ _).trans (feq q).2) ho hy r
theorem lcmp_lt (k : K p s m meth c Z y cd ml ret) (X : Stand p l e R s m args below meth c T locs cells slots) {a b : Int64} {o : Int} (hd0 : decode cd pc = .ok (.lcmp, 1)) (pc1 : Nat) (hp1 : pc + 1 = pc1) (hd : decode cd pc1 = .ok (.ifCond .lt o, 3)) (ho : 0 ≤ (pc1 : Int) + o) (py pn : Nat) (hy : ((pc1 : Int) + o).toNat = py) (hn : pc1 + 3 = pn) (h1 : a < b → Ends p e s below R Q T (mkF m py ls st)) (h2 : ¬ a < b → Ends p e s below R Q T (mkF m pn ls st)) : Ends p e s below R Q T (mkF m pc ls (.long b :: .long a :: st)) := by
  subst hp1
  refine Ends.map (T' := T) (f' := mkF m (pc + 1) ls (.int (lcmpW a b) :: st)) (fun _ q => XS.lcmp X.here k.1 rfl (hb k.2.2.1 hd0) rfl q) ?_
  exact if_lt k X hd ho py pn hy hn (fun q => h1 ((lw_lt a b).mp q)) (fun q => h2 (mt (lw_lt a b).mpr q))
theorem lcmp_ge (k : K p s m meth c Z y cd ml ret) (X : Stand p l e R s m args below meth c T locs cells slots) {a b : Int64} {o : Int} (hd0 : decode cd pc = .ok (.lcmp, 1)) (pc1 : Nat) (hp1 : pc + 1 = pc1) (hd : decode cd pc1 = .ok (.ifCond .ge o, 3)) (ho : 0 ≤ (pc1 : Int) + o) (py pn : Nat) (hy : ((pc1 : Int) + o).toNat = py) (hn : pc1 + 3 = pn) (h1 : ¬ a < b → Ends p e s below R Q T (mkF m py ls st)) (h2 : a < b → Ends p e s below R Q T (mkF m pn ls st)) : Ends p e s below R Q T (mkF m pc ls (.long b :: .long a :: st)) := by
  subst hp1
  refine Ends.map (T' := T) (f' := mkF m (pc + 1) ls (.int (lcmpW a b) :: st)) (fun _ q => XS.lcmp X.here k.1 rfl (hb k.2.2.1 hd0) rfl q) ?_
  exact if_ge k X hd ho py pn hy hn (fun q => h1 (mt (lw_lt a b).mpr q)) (fun q => h2 ((lw_lt a b).mp q))
theorem lcmp_gt (k : K p s m meth c Z y cd ml ret) (X : Stand p l e R s m args below meth c T locs cells slots) {a b : Int64} {o : Int} (hd0 : decode cd pc = .ok (.lcmp, 1)) (pc1 : Nat) (hp1 : pc + 1 = pc1) (hd : decode cd pc1 = .ok (.ifCond .gt o, 3)) (ho : 0 ≤ (pc1 : Int) + o) (py pn : Nat) (hy : ((pc1 : Int) + o).toNat = py) (hn : pc1 + 3 = pn) (h1 : b < a → Ends p e s below R Q T (mkF m py ls st)) (h2 : ¬ b < a → Ends p e s below R Q T (mkF m pn ls st)) : Ends p e s below R Q T (mkF m pc ls (.long b :: .long a :: st)) := by
  subst hp1
  refine Ends.map (T' := T) (f' := mkF m (pc + 1) ls (.int (lcmpW a b) :: st)) (fun _ q => XS.lcmp X.here k.1 rfl (hb k.2.2.1 hd0) rfl q) ?_
  exact if_gt k X hd ho py pn hy hn (fun q => h1 ((lw_gt a b).mp q)) (fun q => h2 (mt (lw_gt a b).mpr q))
theorem lcmp_le (k : K p s m meth c Z y cd ml ret) (X : Stand p l e R s m args below meth c T locs cells slots) {a b : Int64} {o : Int} (hd0 : decode cd pc = .ok (.lcmp, 1)) (pc1 : Nat) (hp1 : pc + 1 = pc1) (hd : decode cd pc1 = .ok (.ifCond .le o, 3)) (ho : 0 ≤ (pc1 : Int) + o) (py pn : Nat) (hy : ((pc1 : Int) + o).toNat = py) (hn : pc1 + 3 = pn) (h1 : ¬ b < a → Ends p e s below R Q T (mkF m py ls st)) (h2 : b < a → Ends p e s below R Q T (mkF m pn ls st)) : Ends p e s below R Q T (mkF m pc ls (.long b :: .long a :: st)) := by
  subst hp1
  refine Ends.map (T' := T) (f' := mkF m (pc + 1) ls (.int (lcmpW a b) :: st)) (fun _ q => XS.lcmp X.here k.1 rfl (hb k.2.2.1 hd0) rfl q) ?_
  exact if_le k X hd ho py pn hy hn (fun q => h1 (mt (lw_gt a b).mpr q)) (fun q => h2 ((lw_gt a b).mp q))
theorem lcmp_eq (k : K p s m meth c Z y cd ml ret) (X : Stand p l e R s m args below meth c T locs cells slots) {a b : Int64} {o : Int} (hd0 : decode cd pc = .ok (.lcmp, 1)) (pc1 : Nat) (hp1 : pc + 1 = pc1) (hd : decode cd pc1 = .ok (.ifCond .eq o, 3)) (ho : 0 ≤ (pc1 : Int) + o) (py pn : Nat) (hy : ((pc1 : Int) + o).toNat = py) (hn : pc1 + 3 = pn) (h1 : a = b → Ends p e s below R Q T (mkF m py ls st)) (h2 : ¬ a = b → Ends p e s below R Q T (mkF m pn ls st)) : Ends p e s below R Q T (mkF m pc ls (.long b :: .long a :: st)) := by
  subst hp1
  refine Ends.map (T' := T) (f' := mkF m (pc + 1) ls (.int (lcmpW a b) :: st)) (fun _ q => XS.lcmp X.here k.1 rfl (hb k.2.2.1 hd0) rfl q) ?_
  exact if_eq k X hd ho py pn hy hn (fun q => h1 ((lw_eq a b).mp q)) (fun q => h2 (mt (lw_eq a b).mpr q))
theorem lcmp_ne (k : K p s m meth c Z y cd ml ret) (X : Stand p l e R s m args below meth c T locs cells slots) {a b : Int64} {o : Int} (hd0 : decode cd pc = .ok (.lcmp, 1)) (pc1 : Nat) (hp1 : pc + 1 = pc1) (hd : decode cd pc1 = .ok (.ifCond .ne o, 3)) (ho : 0 ≤ (pc1 : Int) + o) (py pn : Nat) (hy : ((pc1 : Int) + o).toNat = py) (hn : pc1 + 3 = pn) (h1 : ¬ a = b → Ends p e s below R Q T (mkF m py ls st)) (h2 : a = b → Ends p e s below R Q T (mkF m pn ls st)) : Ends p e s below R Q T (mkF m pc ls (.long b :: .long a :: st)) := by
  subst hp1
  refine Ends.map (T' := T) (f' := mkF m (pc + 1) ls (.int (lcmpW a b) :: st)) (fun _ q => XS.lcmp X.here k.1 rfl (hb k.2.2.1 hd0) rfl q) ?_
  exact if_ne k X hd ho py pn hy hn (fun q => h1 (mt (lw_eq a b).mpr q)) (fun q => h2 ((lw_eq a b).mp q))
/-! references -/
theorem ifnull_y (k : K p s m meth c Z y cd ml ret) (X : Stand p l e R s m args below meth c T locs cells slots) {o : Int} (hd : decode cd pc = .ok (.ifnull o, 3)) (ho : 0 ≤ (pc : Int) + o) (pc' : Nat) (hp : ((pc : Int) + o).toNat = pc') (h : Ends p e s below R Q T (mkF m pc' ls st)) : Ends p e s below R Q T (mkF m pc ls (.null :: st)) := by
  exact h.map fun _ q => XS.ifnullYes X.here k.1 rfl rfl (hb k.2.2.1 hd) rfl ho hp q
theorem ifnull_n (k : K p s m meth c Z y cd ml ret) (X : Stand p l e R s m args below meth c T locs cells slots) {o : Int} {a : Addr} (hd : decode cd pc = .ok (.ifnull o, 3)) (pc' : Nat) (hp : pc + 3 = pc') (h : Ends p e s below R Q T (mkF m pc' ls st)) : Ends p e s below R Q T (mkF m pc ls (.ref a :: st)) := by
  subst hp; exact h.map fun _ q => XS.ifnullNo X.here k.1 rfl (hb k.2.2.1 hd) rfl q
theorem ifnonnull_y (k : K p s m meth c Z y cd ml ret) (X : Stand p l e R s m args below meth c T locs cells slots) {o : Int} {a : Addr} (hd : decode cd pc = .ok (.ifnonnull o, 3)) (ho : 0 ≤ (pc : Int) + o) (pc' : Nat) (hp : ((pc : Int) + o).toNat = pc') (h : Ends p e s below R Q T (mkF m pc' ls st)) : Ends p e s below R Q T (mkF m pc ls (.ref a :: st)) := by
  exact h.map fun _ q => XS.ifnonnullYes X.here k.1 rfl rfl (hb k.2.2.1 hd) rfl ho hp q
theorem ifnonnull_n (k : K p s m meth c Z y cd ml ret) (X : Stand p l e R s m args below meth c T locs cells slots) {o : Int} (hd : decode cd pc = .ok (.ifnonnull o, 3)) (pc' : Nat) (hp : pc + 3 = pc') (h : Ends p e s below R Q T (mkF m pc' ls st)) : Ends p e s below R Q T (mkF m pc ls (.null :: st)) := by
  subst hp; exact h.map fun _ q => XS.ifnonnullNo X.here k.1 rfl (hb k.2.2.1 hd) rfl q
/-! returns -/
theorem ret_int (k : K p s m meth c Z y cd ml ret) (X : Stand p l e R s m args below meth c T locs cells slots) (hret : ret = some .int) {z : Int32} (hd : decode cd pc = .ok (.ireturn, 1)) (hc : cells ≤ R.cells) (hs : slots ≤ R.slots) (h : Q (some (.int z)) T.heap locs) : Ends p e s below R Q T (mkF m pc ls (.int z :: st)) := by
  have hl := k.2.2.2.2.2.2.1
  obtain ⟨fs, hr, hrun, hended, hW, hsame⟩ := X.leave (v := some (.int z)) (fun q => by rw [k.2.2.2.2.2.1, hret] at q; cases q)
  exact ⟨_, _, retOut X k.1 (t := .int) (k.2.2.2.2.2.1.trans hret) rfl (Or.inl ⟨rfl, Or.inl rfl, _, rfl⟩) (hb k.2.2.1 hd) hr, hrun, hended, _, _, rfl, h, ⟨_, rfl⟩, hW, hsame.mono hc hs⟩
theorem ret_bool (k : K p s m meth c Z y cd ml ret) (X : Stand p l e R s m args below meth c T locs cells slots) (hret : ret = some .boolean) {z : Int32} (hd : decode cd pc = .ok (.ireturn, 1)) (hc : cells ≤ R.cells) (hs : slots ≤ R.slots) (hz : z = 0 ∨ z = 1) (h : Q (some (.int z)) T.heap locs) : Ends p e s below R Q T (mkF m pc ls (.int z :: st)) := by
  have hl := k.2.2.2.2.2.2.1
  obtain ⟨fs, hr, hrun, hended, hW, hsame⟩ := X.leave (v := some (.int z)) (fun q => by rw [k.2.2.2.2.2.1, hret] at q; cases q)
  exact ⟨_, _, retOut X k.1 (t := .boolean) (k.2.2.2.2.2.1.trans hret) (by rcases hz with rfl | rfl <;> rfl) (Or.inl ⟨rfl, Or.inr (Or.inl rfl), _, rfl⟩) (hb k.2.2.1 hd) hr, hrun, hended, _, _, rfl, h, ⟨_, rfl⟩, hW, hsame.mono hc hs⟩
theorem ret_long (k : K p s m meth c Z y cd ml ret) (X : Stand p l e R s m args below meth c T locs cells slots) (hret : ret = some .long) {z : Int64} (hd : decode cd pc = .ok (.lreturn, 1)) (hc : cells ≤ R.cells) (hs : slots ≤ R.slots) (h : Q (some (.long z)) T.heap locs) : Ends p e s below R Q T (mkF m pc ls (.long z :: st)) := by
  have hl := k.2.2.2.2.2.2.1
  obtain ⟨fs, hr, hrun, hended, hW, hsame⟩ := X.leave (v := some (.long z)) (fun q => by rw [k.2.2.2.2.2.1, hret] at q; cases q)
  exact ⟨_, _, retOut X k.1 (t := .long) (k.2.2.2.2.2.1.trans hret) rfl (Or.inr (Or.inl ⟨rfl, rfl, _, rfl⟩)) (hb k.2.2.1 hd) hr, hrun, hended, _, _, rfl, h, ⟨_, rfl⟩, hW, hsame.mono hc hs⟩
theorem ret_ref (k : K p s m meth c Z y cd ml ret) (X : Stand p l e R s m args below meth c T locs cells slots) {t : FieldType} (hret : ret = some t) (ht : t.isReference = true) {z : Value} (hz : z.isRef = true) (hn : narrow t z = z) (hd : decode cd pc = .ok (.areturn, 1)) (hc : cells ≤ R.cells) (hs : slots ≤ R.slots) (h : Q (some z) T.heap locs) : Ends p e s below R Q T (mkF m pc ls (z :: st)) := by
  have hl := k.2.2.2.2.2.2.1
  obtain ⟨fs, hr, hrun, hended, hW, hsame⟩ := X.leave (v := some z) (fun q => by rw [k.2.2.2.2.2.1, hret] at q; cases q)
  exact ⟨_, _, retOut X k.1 (t := t) (k.2.2.2.2.2.1.trans hret) hn (Or.inr (Or.inr (Or.inr (Or.inr ⟨rfl, ht, hz⟩)))) (hb k.2.2.1 hd) hr, hrun, hended, _, _, rfl, h, ⟨_, rfl⟩, hW, hsame.mono hc hs⟩
theorem ret_void (k : K p s m meth c Z y cd ml ret) (X : Stand p l e R s m args below meth c T locs cells slots) (hret : ret = none) (hd : decode cd pc = .ok (.return_, 1)) (hc : cells ≤ R.cells) (hs : slots ≤ R.slots) (h : Q none T.heap locs) : Ends p e s below R Q T (mkF m pc ls []) := by
  have hl := k.2.2.2.2.2.2.1
  obtain ⟨fs, hr, hrun, hended, hW, hsame⟩ := X.leave (v := none) (fun _ => rfl)
  exact ⟨_, _, X.returnOut k.1 (k.2.2.2.2.2.1.trans hret) (hb k.2.2.1 hd) hr, hrun, hended, _, _, rfl, h, ⟨_, rfl⟩, hW, hsame.mono hc hs⟩
/-! the heap -/
theorem getfield (k : K p s m meth c Z y cd ml ret) (X : Stand p l e R s m args below meth c T locs cells slots) {R0 O n d host : String} {idx : Nat} {a : Addr} {v : Value} (hd : decode cd pc = .ok (.getfield idx, 3)) (wl : (Jvm.Cond.fieldLink y.cls idx R0 n d).before a0 Z = true ∨ (Jvm.Cond.fieldLinkNest y.cls idx R0 n d host).before a0 Z = true) (via : Via Z R0 O n d) (e0 : T.heap = h) (F : Fld Z h a O n d v) (pc' : Nat) (hp : pc + 3 = pc')
    (g : ∀ T' : State, Stand p l e R s m args below meth c T' locs cells slots → T'.heap = h → Ends p e s below R Q T' (mkF m pc' ls (v :: st))) : Ends p e s below R Q T (mkF m pc ls (.ref a :: st)) := by
  subst hp
  obtain ⟨T', X', e', q⟩ := getF X k.1 k.2.1 k.2.2.2.2.1 wl via e0 F (g := mkF m pc ls (.ref a :: st)) rfl rfl (hb k.2.2.1 hd)
  exact (g T' X' e').map q
theorem getstatic (k : K p s m meth c Z y cd ml ret) (X : Stand p l e R s m args below meth c T locs cells slots) {O n d host : String} {idx : Nat} {v : Value} (hd : decode cd pc = .ok (.getstatic idx, 3)) (wl : (Jvm.Cond.fieldLink y.cls idx O n d).before a0 Z = true ∨ (Jvm.Cond.fieldLinkNest y.cls idx O n d host).before a0 Z = true) (e0 : T.heap = h) (F : Sta Z h O n d v) (pc' : Nat) (hp : pc + 3 = pc')
    (g : ∀ T' : State, Stand p l e R s m args below meth c T' locs cells slots → T'.heap = h → Ends p e s below R Q T' (mkF m pc' ls (v :: st))) : Ends p e s below R Q T (mkF m pc ls st) := by
  subst hp
  obtain ⟨T', X', e', q⟩ := getS2 X k.1 k.2.1 k.2.2.2.2.1 wl Via.refl e0 F (g := mkF m pc ls st) rfl (hb k.2.2.1 hd)
  exact (g T' X' e').map q
theorem putfield (k : K p s m meth c Z y cd ml ret) (X : Stand p l e R s m args below meth c T locs cells slots) {R0 O n d host C : String} {idx kk : Nat} {ty : FieldType} {a : Addr} {v old : Value} (hd : decode cd pc = .ok (.putfield idx, 3)) (wl : (Jvm.Cond.fieldLink y.cls idx R0 n d).before a0 Z = true ∨ (Jvm.Cond.fieldLinkNest y.cls idx R0 n d host).before a0 Z = true) (via : Via Z R0 O n d) (e0 : T.heap = h) (F : Fld Z h a O n d old) (E : Exa Z h a C)
    (L : (Jvm.Cond.lays C O n d).before a0 Z = true ∨ ((Jvm.Cond.laysFinal C O n d).before a0 Z = true ∧ y.cls = O ∧ y.name = "<init>")) (wi : (Jvm.Cond.instantiable C kk).before a0 Z = true) (hty : parseFieldDescriptor d = some ty) (hn : narrow ty v = v) (hf : fits ty v = true) (pc' : Nat) (hp : pc + 3 = pc')
    (g : ∀ (T' : State) (h' : Heap), Stand p l e R s m args below meth c T' (locs ++ [⟨a, Jvm.RoadKit.slotOf Z O n d⟩]) cells slots → T'.heap = h' → Wr h h' a (Jvm.RoadKit.slotOf Z O n d) v → Ends p e s below R Q T' (mkF m pc' ls st)) : Ends p e s below R Q T (mkF m pc ls (v :: .ref a :: st)) := by
  subst hp
  obtain ⟨T', h', X', e', W', q⟩ := putF X k.1 k.2.1 k.2.2.2.2.1 wl via e0 F E (L.imp id fun q => ⟨q.1, q.2.1, k.2.2.2.2.2.2.2.trans q.2.2⟩) wi hty hn hf (g := mkF m pc ls (v :: .ref a :: st)) rfl rfl (hb k.2.2.1 hd)
  exact (g T' h' X' e' W').map q
theorem initObj (k : K p s m meth c Z y cd ml ret) (X : Stand p l e R s m args below meth c T locs cells slots) {idx : Nat} {a : Addr} {W : Nat} (hd : decode cd pc = .ok (.invokespecial idx, 3)) (w1 : (Jvm.Cond.methodLink y.cls idx Lib.objectInit).before a0 Z = true) (w2 : (Jvm.Cond.instanceMethod Lib.objectInit).before a0 Z = true) (w3 : (Jvm.Cond.code Lib.objectInit ⟨#[0xb1]⟩ 1 none).before a0 Z = true) (e0 : T.heap = h) (hsz : ls.size = ml) (hf : 1 ≤ R.frames) (hW : (st.map fun v => v.category).sum + 12 ≤ R.locals) (pc' : Nat) (hp : pc + 3 = pc')
    (g : ∀ T' : State, Stand p l e R s m args below meth c T' locs cells slots → T'.heap = h → Ends p e s below R Q T' (mkF m pc' ls st)) : Ends p e s below R Q T (mkF m pc ls (.ref a :: st)) := by
  subst hp
  obtain ⟨T', X', e', q⟩ := initO X k.1 k.2.1 k.2.2.2.2.1 w1 w2 w3 e0 (g := mkF m pc ls (.ref a :: st)) rfl (hsz.trans k.2.2.2.1.symm) rfl (hb k.2.2.1 hd) hf (W := (st.map fun v => v.category).sum) (by show 2 * 0 + _ ≤ _; rw [Nat.mul_zero, Nat.zero_add]; exact Nat.le_refl _) hW
  exact (g T' X' e').map q
theorem new (k : K p s m meth c Z y cd ml ret) (X : Stand p l e R s m args below meth c T locs cells slots) {C : String} {idx n : Nat} (hd : decode cd pc = .ok (.new idx, 3)) (wl : (Jvm.Cond.classLink y.cls idx C).before a0 Z = true) (wi : (Jvm.Cond.instantiable C n).before a0 Z = true) (wz : (Jvm.Cond.initialized C).before a0 Z = true) (e0 : T.heap = h) (hc : cells + 1 ≤ R.cells) (hs : slots + n ≤ R.slots) (pc' : Nat) (hp : pc + 3 = pc')
    (g : ∀ (T' : State) (h' : Heap) (a : Addr), a = h.size → Stand p l e R s m args below meth c T' locs (cells + 1) (slots + n) → T'.heap = h' → Ext h h' → Exa Z h' a C → (∀ {O nm d : String} {ty : FieldType}, Laid Z a0 C O nm d → parseFieldDescriptor d = some ty → Fld Z h' a O nm d (defaultValue ty)) → Ends p e s below R Q T' (mkF m pc' ls (.ref a :: st))) : Ends p e s below R Q T (mkF m pc ls st) := by
  subst hp
  obtain ⟨T', h', X', e', E', A', D', -, q⟩ := newO X k.1 k.2.1 k.2.2.2.2.1 wl wi wz e0 (g := mkF m pc ls st) rfl (hb k.2.2.1 hd) hc hs
  exact (g T' h' h.size rfl X' e' E' A' D').map q
theorem checkcast (k : K p s m meth c Z y cd ml ret) (X : Stand p l e R s m args below meth c T locs cells slots) {C : String} {idx : Nat} {a : Addr} (hd : decode cd pc = .ok (.checkcast idx, 3)) (wl : (Jvm.Cond.classLink y.cls idx C).before a0 Z = true) (e0 : T.heap = h) (F : Ins Z h a C true) (pc' : Nat) (hp : pc + 3 = pc')
    (g : ∀ T' : State, Stand p l e R s m args below meth c T' locs cells slots → T'.heap = h → Ends p e s below R Q T' (mkF m pc' ls (.ref a :: st))) : Ends p e s below R Q T (mkF m pc ls (.ref a :: st)) := by
  subst hp
  obtain ⟨T', X', e', q⟩ := castY X k.1 k.2.1 k.2.2.2.2.1 wl e0 F (g := mkF m pc ls (.ref a :: st)) rfl rfl (hb k.2.2.1 hd)
  exact (g T' X' e').map q
theorem inst_y (k : K p s m meth c Z y cd ml ret) (X : Stand p l e R s m args below meth c T locs cells slots) {C : String} {idx : Nat} {a : Addr} (hd : decode cd pc = .ok (.instanceof idx, 3)) (wl : (Jvm.Cond.classLink y.cls idx C).before a0 Z = true) (e0 : T.heap = h) (F : Ins Z h a C true) (pc' : Nat) (hp : pc + 3 = pc')
    (g : ∀ T' : State, Stand p l e R s m args below meth c T' locs cells slots → T'.heap = h → Ends p e s below R Q T' (mkF m pc' ls (.int 1 :: st))) : Ends p e s below R Q T (mkF m pc ls (.ref a :: st)) := by
  subst hp
  obtain ⟨T', X', e', q⟩ := instY X k.1 k.2.1 k.2.2.2.2.1 wl e0 F (g := mkF m pc ls (.ref a :: st)) rfl rfl (hb k.2.2.1 hd)
  exact (g T' X' e').map q
theorem acmp_same (k : K p s m meth c Z y cd ml ret) (X : Stand p l e R s m args below meth c T locs cells slots) {cnd : ACond} {o : Int} {a : Addr} (hd : decode cd pc = .ok (.if_acmp cnd o, 3)) (ho : 0 ≤ (pc : Int) + o) (pc' : Nat) (hp : pc' = if acV cnd true = true then ((pc : Int) + o).toNat else pc + 3) (h : Ends p e s below R Q T (mkF m pc' ls st)) : Ends p e s below R Q T (mkF m pc ls (.ref a :: .ref a :: st)) := by
  exact h.map fun _ q => Jvm.RoadKit.acmp (g := mkF m pc ls (.ref a :: .ref a :: st)) X k.1 rfl rfl rfl rfl (hb k.2.2.1 hd) rfl (decide_eq_true rfl) ho hp q
theorem acmp_diff (k : K p s m meth c Z y cd ml ret) (X : Stand p l e R s m args below meth c T locs cells slots) {cnd : ACond} {o : Int} {a : Addr} {v : Value} (hd : decode cd pc = .ok (.if_acmp cnd o, 3)) (hv : v.isRef = true) (hne : Value.ref a ≠ v) (ho : 0 ≤ (pc : Int) + o) (pc' : Nat) (hp : pc' = if acV cnd false = true then ((pc : Int) + o).toNat else pc + 3) (h : Ends p e s below R Q T (mkF m pc' ls st)) : Ends p e s below R Q T (mkF m pc ls (v :: .ref a :: st)) := by
  exact h.map fun _ q => Jvm.RoadKit.acmp (g := mkF m pc ls (v :: .ref a :: st)) X k.1 rfl rfl hv rfl (hb k.2.2.1 hd) rfl (decide_eq_false hne) ho hp q
theorem inst_null (k : K p s m meth c Z y cd ml ret) (X : Stand p l e R s m args below meth c T locs cells slots) {idx : Nat} (hd : decode cd pc = .ok (.instanceof idx, 3)) (pc' : Nat) (hp : pc + 3 = pc') (h : Ends p e s below R Q T (mkF m pc' ls (.int 0 :: st))) : Ends p e s below R Q T (mkF m pc ls (.null :: st)) := by
  subst hp; exact h.map fun _ q => X.instanceofNull k.1 (g := mkF m pc ls (.null :: st)) rfl rfl (hb k.2.2.1 hd) _ q
theorem inst_n (k : K p s m meth c Z y cd ml ret) (X : Stand p l e R s m args below meth c T locs cells slots) {C : String} {idx : Nat} {a : Addr} (hd : decode cd pc = .ok (.instanceof idx, 3)) (wl : (Jvm.Cond.classLink y.cls idx C).before a0 Z = true) (e0 : T.heap = h) (F : Ins Z h a C false) {C' : String} (E : Exa Z h a C') (pc' : Nat) (hp : pc + 3 = pc')
    (g : ∀ T' : State, Stand p l e R s m args below meth c T' locs cells slots → T'.heap = h → Ends p e s below R Q T' (mkF m pc' ls (.int 0 :: st))) : Ends p e s below R Q T (mkF m pc ls (.ref a :: st)) := by
  subst hp
  obtain ⟨cell, cT, h1, h2, h3⟩ := F
  obtain ⟨cell', kc, e1, -, e3, e4, -⟩ := E
  cases h1.symm.trans e1
  obtain ⟨k', q, -⟩ := k.2.1.alike.2.2 _ _ e3
  obtain ⟨vm', X', st'⟩ := Jvm.Sym.instanceofNoAt X k.1 k.2.2.2.2.1 (mvT k.2.1 wl) (by rw [e0]; exact h1) e4 q (by rw [k.2.1.alike.findClass]; exact h2) (by rw [k.2.1.alike.assignable]; simpa [e4] using h3) (g := mkF m pc ls (.ref a :: st)) rfl rfl (hb k.2.2.1 hd)
  exact (g _ X' e0).map st'
end
/-! arrays: the list of what they hold -/
def Arl (Z : State) (h : Heap) (a : Addr) (ty : FieldType) (vs : List Value) : Prop := ∃ c : Cell, Arr Z h a c ty ∧ c.slots.toList = vs ∧ vs.length < 2147483648
section
variable {Z : State} {h h' : Heap} {a b : Addr} {ty : FieldType} {vs : List Value} {sl : Nat} {v : Value} {ws : List Addr}
theorem Arl.lt (F : Arl Z h a ty vs) : a < h.size := by obtain ⟨c, A, -⟩ := F; exact A.lt
theorem Arl.ext (F : Arl Z h a ty vs) (E : Ext h h') : Arl Z h' a ty vs := by obtain ⟨c, A, r⟩ := F; exact ⟨c, A.ext E, r⟩
theorem Arl.other (F : Arl Z h b ty vs) (W : Wr h h' a sl v) (q : b ≠ a) : Arl Z h' b ty vs := by obtain ⟨c, A, r⟩ := F; exact ⟨c, A.other W q, r⟩
theorem Arl.keep (F : Arl Z h a ty vs) (K : Keep h h' ws) (q : a ∉ ws) : Arl Z h' a ty vs := by obtain ⟨c, A, r⟩ := F; exact ⟨c, ⟨K.2.1 a c A.1 q, A.2⟩, r⟩
theorem Arl.same (F : Arl Z h a ty vs) (W : Wr h h' a sl v) : Arl Z h' a ty (vs.set sl v) := by
  obtain ⟨c, A, rfl, hl⟩ := F
  refine ⟨c.setSlot sl v, A.same W, ?_, by rw [List.length_set]; exact hl⟩
  simp [Cell.setSlot]
theorem tnc {j : Int32} {i : Nat} (hj : j.toInt = i) : j.toNatClampNeg = i := by simp only [Int32.toNatClampNeg, hj]; rfl
theorem inb {j : Int32} {i n : Nat} (hj : j.toInt = i) (hi : i < n) : ¬ (j < 0 ∨ n ≤ j.toNatClampNeg) := by
  rw [tnc hj]; intro q
  rcases q with q | q
  · rw [Int32.lt_iff_toInt_lt] at q; have e0 : (0 : Int32).toInt = 0 := rfl; omega
  · omega
theorem lt_of_get {xs : List Int32} {i : Nat} {x : Int32} (q : xs[i]? = some x) : i < xs.length := (List.getElem?_eq_some_iff.mp q).1
end
section
variable {p : Program} {l : Launch} {e : Env} {R : Room} {s : State} {m : MethodId} {args : Array Value} {below : List Frame} {meth : Method} {c : Code} {T : State} {locs : List Loc} {cells slots : Nat} {Z : State} {a0 : Array Value} {h : Heap} {y : MethodName} {cd : ByteArray} {ml : Nat} {ret : Option FieldType} {Q : Option Value → Heap → List Loc → Prop} {pc pc' : Nat} {ls : Array Slot} {st : List Value}
theorem arraylength (k : K p s m meth c Z y cd ml ret) (X : Stand p l e R s m args below meth c T locs cells slots) {ty : FieldType} {vs : List Value} {a : Addr} (hd : decode cd pc = .ok (.arraylength, 1)) (e0 : T.heap = h) (A : Arl Z h a ty vs) (n : Int32) (hn : n.toInt = vs.length) (pc' : Nat) (hp : pc + 1 = pc') (g : Ends p e s below R Q T (mkF m pc' ls (.int n :: st))) : Ends p e s below R Q T (mkF m pc ls (.ref a :: st)) := by
  subst hp
  obtain ⟨cl, Ar, rfl, hl⟩ := A
  have q : cl.slots.size.toInt32 = n := by
    apply Int32.toInt_inj.mp
    rw [len_toInt (by simpa using hl), hn]; simp
  refine g.map fun _ r => X.arraylength k.1 (by rw [e0]; exact Ar.1) (State.isArrayOf_alike k.2.1.alike Ar.2.1) (g := mkF m pc ls (.ref a :: st)) rfl rfl (hb k.2.2.1 hd) _ ?_
  rw [q]; exact r
theorem iaload (k : K p s m meth c Z y cd ml ret) (X : Stand p l e R s m args below meth c T locs cells slots) {xs : List Int32} {a : Addr} {j : Int32} (hd : decode cd pc = .ok (.iaload, 1)) (e0 : T.heap = h) (A : Arl Z h a .int (xs.map .int)) (i : Nat) (hj : j.toInt = i) (x : Int32) (hx : xs[i]? = some x) (pc' : Nat) (hp : pc + 1 = pc') (g : Ends p e s below R Q T (mkF m pc' ls (.int x :: st))) : Ends p e s below R Q T (mkF m pc ls (.int j :: .ref a :: st)) := by
  subst hp
  obtain ⟨cl, Ar, hs, hl⟩ := A
  have hz : cl.slots.size = xs.length := by rw [← Array.length_toList, hs, List.length_map]
  refine g.map fun _ r => X.iaload k.1 (j := j) (v := .int x) (by rw [e0]; exact Ar.1) (State.isArrayOf_alike k.2.1.alike Ar.2.1) Ar.2.2 (inb hj (hz ▸ lt_of_get hx)) ?_ (g := mkF m pc ls (.int j :: .ref a :: st)) rfl rfl (hb k.2.2.1 hd) _ r
  rw [tnc hj, ← Array.getElem?_toList, hs, List.getElem?_map, hx]; rfl
theorem baload (k : K p s m meth c Z y cd ml ret) (X : Stand p l e R s m args below meth c T locs cells slots) {xs : List Int32} {a : Addr} {j : Int32} (hd : decode cd pc = .ok (.baload, 1)) (e0 : T.heap = h) (A : Arl Z h a .byte (xs.map .int)) (i : Nat) (hj : j.toInt = i) (x : Int32) (hx : xs[i]? = some x) (pc' : Nat) (hp : pc + 1 = pc') (g : Ends p e s below R Q T (mkF m pc' ls (.int x :: st))) : Ends p e s below R Q T (mkF m pc ls (.int j :: .ref a :: st)) := by
  subst hp
  obtain ⟨cl, Ar, hs, hl⟩ := A
  have hz : cl.slots.size = xs.length := by rw [← Array.length_toList, hs, List.length_map]
  refine g.map fun _ r => X.baloadBytes k.1 (j := j) (v := .int x) (by rw [e0]; exact Ar.1) (State.isArrayOf_alike k.2.1.alike Ar.2.1) Ar.2.2 (inb hj (hz ▸ lt_of_get hx)) ?_ (g := mkF m pc ls (.int j :: .ref a :: st)) rfl rfl (hb k.2.2.1 hd) _ r
  rw [tnc hj, ← Array.getElem?_toList, hs, List.getElem?_map, hx]; rfl
theorem iastore (k : K p s m meth c Z y cd ml ret) (X : Stand p l e R s m args below meth c T locs cells slots) {xs : List Int32} {a : Addr} {j x : Int32} (hd : decode cd pc = .ok (.iastore, 1)) (e0 : T.heap = h) (A : Arl Z h a .int (xs.map .int)) (i : Nat) (hj : j.toInt = i) (hi : i < xs.length) (pc' : Nat) (hp : pc + 1 = pc')
    (g : ∀ (T' : State) (h' : Heap), Stand p l e R s m args below meth c T' (locs ++ [⟨a, i⟩]) cells slots → T'.heap = h' → Wr h h' a i (.int x) → Arl Z h' a .int ((xs.set i x).map .int) → Ends p e s below R Q T' (mkF m pc' ls st)) : Ends p e s below R Q T (mkF m pc ls (.int x :: .int j :: .ref a :: st)) := by
  subst hp
  have A' := A
  obtain ⟨cl, Ar, hs, hl⟩ := A
  have hz : cl.slots.size = xs.length := by rw [← Array.length_toList, hs, List.length_map]
  obtain ⟨T', h', X', e', W', q⟩ := stI X k.1 k.2.1 e0 Ar (j := j) (x := x) (inb hj (hz ▸ hi)) (g := mkF m pc ls (.int x :: .int j :: .ref a :: st)) rfl rfl (hb k.2.2.1 hd)
  rw [tnc hj] at X' W'
  exact (g T' h' X' e' W' (by rw [List.map_set]; exact A'.same W')).map q
theorem bastore (k : K p s m meth c Z y cd ml ret) (X : Stand p l e R s m args below meth c T locs cells slots) {xs : List Int32} {a : Addr} {j x : Int32} (hd : decode cd pc = .ok (.bastore, 1)) (e0 : T.heap = h) (A : Arl Z h a .byte (xs.map .int)) (i : Nat) (hj : j.toInt = i) (hi : i < xs.length) (x' : Int32) (hx' : x.toInt8.toInt32 = x') (pc' : Nat) (hp : pc + 1 = pc')
    (g : ∀ (T' : State) (h' : Heap), Stand p l e R s m args below meth c T' (locs ++ [⟨a, i⟩]) cells slots → T'.heap = h' → Wr h h' a i (.int x') → Arl Z h' a .byte ((xs.set i x').map .int) → Ends p e s below R Q T' (mkF m pc' ls st)) : Ends p e s below R Q T (mkF m pc ls (.int x :: .int j :: .ref a :: st)) := by
  subst hp hx'
  have A' := A
  obtain ⟨cl, Ar, hs, hl⟩ := A
  have hz : cl.slots.size = xs.length := by rw [← Array.length_toList, hs, List.length_map]
  obtain ⟨T', h', X', e', W', q⟩ := stB X k.1 k.2.1 e0 Ar (j := j) (x := x) (inb hj (hz ▸ hi)) (g := mkF m pc ls (.int x :: .int j :: .ref a :: st)) rfl rfl (hb k.2.2.1 hd)
  rw [tnc hj] at X' W'
  exact (g T' h' X' e' W' (by rw [List.map_set]; exact A'.same W')).map q
theorem newarray (k : K p s m meth c Z y cd ml ret) (X : Stand p l e R s m args below meth c T locs cells slots) {aty : ArrayType} {n : Int32} (hd : decode cd pc = .ok (.newarray aty, 2)) (wa : (Jvm.Cond.arrayClass (newarray.typeOf aty)).before a0 Z = true) (e0 : T.heap = h) (i : Nat) (hn : n.toInt = i) (cap : Nat) (hcap : i ≤ cap) (hb8 : cap * 8 ≤ 536870912) (hc : cells + 1 ≤ R.cells) (hs : slots + cap ≤ R.slots) (pc' : Nat) (hp : pc + 2 = pc')
    (g : ∀ (T' : State) (h' : Heap) (a : Addr), a = h.size → Stand p l e R s m args below meth c T' locs (cells + 1) (slots + cap) → T'.heap = h' → Ext h h' → Arl Z h' a (newarray.typeOf aty) (List.replicate i (defaultValue (newarray.typeOf aty))) → Ends p e s below R Q T' (mkF m pc' ls (.ref a :: st))) : Ends p e s below R Q T (mkF m pc ls (.int n :: st)) := by
  subst hp
  have h0 : ¬ n < 0 := by rw [Int32.lt_iff_toInt_lt]; have e0 : (0 : Int32).toInt = 0 := rfl; omega
  obtain ⟨T', h', cA, X', e', E', A', q⟩ := newP X k.1 k.2.1 wa e0 (g := mkF m pc ls (.int n :: st)) rfl (hb k.2.2.1 hd) rfl h0 (cap := cap) (by rw [tnc hn]; exact hcap) hb8 hc hs
  refine (g T' h' h.size rfl X' e' E' ⟨_, A', ?_, ?_⟩).map q
  · simp [newA, tnc hn]
  · rw [List.length_replicate]; omega
/-! calls, by the callee's contract -/
theorem callS (k : K p s m meth c Z y cd ml ret) (X : Stand p l e R s m args below meth c T locs cells slots) {y' : MethodName} {cd' : ByteArray} {ml' : Nat} {ret' : Option FieldType} {rm' : Room} {Qc : Option Value → Heap → List Loc → Prop} {idx : Nat} {ps : List FieldType} {rt : Option FieldType} (as : List Value) (rest : List Value) (hd : decode cd pc = .ok (.invokestatic idx, 3)) (M : Met l y' cd' ml' ret' rm' as.toArray Z h Qc []) (e0 : T.heap = h)
    (w1 : (Jvm.Cond.methodLink y.cls idx y').before a0 Z = true) (w2 : (Jvm.Cond.static y').before a0 Z = true) (w3 : (Jvm.Cond.initialized y'.cls).before a0 Z = true) (w4 : (Jvm.Cond.code y' cd' ml' ret').before a0 Z = true) (hy : y'.cls ≠ "java/lang/invoke/MethodHandle" ∧ y'.cls ≠ "java/lang/invoke/VarHandle") (hsz : ls.size = ml) (hlen : parseMethodDescriptor y'.desc = some ⟨ps, rt⟩) (hl2 : as.length = ps.length) (hst : st = as.reverse ++ rest)
    (hf : rm'.frames + 1 ≤ R.frames) (hlo : (rest.map fun v => v.category).sum + (ml' + 11) + rm'.locals ≤ R.locals) (hc : cells + rm'.cells ≤ R.cells) (hs : slots + rm'.slots ≤ R.slots) (pc' : Nat) (hp : pc + 3 = pc')
    (g : ∀ (T' : State) (v : Option Value) (L : List Loc), Stand p l e R s m args below meth c T' (locs ++ L) (cells + rm'.cells) (slots + rm'.slots) → Qc v T'.heap L → Ends p e s below R Q T' (mkF m pc' ls (v.toList ++ rest))) : Ends p e s below R Q T (mkF m pc ls st) := by
  subst hp hst
  obtain ⟨v, _, ⟨T', L', c', n'⟩, -, X', ⟨Lc, hQ, q1, q2, q3⟩, q⟩ := Jvm.LawKit.callS X k.1 (y := y') k.2.2.2.2.1 (mvT k.2.1 w1) (mvT k.2.1 w2) (mvT k.2.1 w3) (mvT k.2.1 w4) hy (backOf (W := (rest.map fun v => v.category).sum) M k.2.1 w4 w3 hf hlo) (g := mkF m pc ls (as.reverse ++ rest)) rfl (hsz.trans k.2.2.2.1.symm) (argsL := as) (rest := rest) (lenOf hlen hl2) rfl (by show 2 * 0 + _ ≤ _; rw [Nat.mul_zero, Nat.zero_add]; exact Nat.le_refl _) (hb k.2.2.1 hd) (fun _ _ => ⟨rfl, e0, hc, hs⟩)
  dsimp only [Pt.U, Pt.locs, Pt.cells, Pt.slots] at X' q1 q2 q3 q hQ
  subst q1 q2 q3
  exact (g T' v Lc X' hQ).map q
theorem callI (k : K p s m meth c Z y cd ml ret) (X : Stand p l e R s m args below meth c T locs cells slots) {y' : MethodName} {cd' : ByteArray} {ml' : Nat} {rm' : Room} {Qc : Option Value → Heap → List Loc → Prop} {idx : Nat} {ps : List FieldType} {rt : Option FieldType} {a : Addr} (as : List Value) (rest : List Value) (hd : decode cd pc = .ok (.invokespecial idx, 3)) (M : Met l y' cd' ml' none rm' (.ref a :: as).toArray Z h Qc []) (e0 : T.heap = h) (hin : y'.name = "<init>")
    (w1 : (Jvm.Cond.methodLink y.cls idx y').before a0 Z = true) (w2 : (Jvm.Cond.instanceMethod y').before a0 Z = true) (w3 : (Jvm.Cond.initialized y'.cls).before a0 Z = true) (w4 : (Jvm.Cond.code y' cd' ml' none).before a0 Z = true) (hy : y'.cls ≠ "java/lang/invoke/MethodHandle" ∧ y'.cls ≠ "java/lang/invoke/VarHandle") (hsz : ls.size = ml) (hlen : parseMethodDescriptor y'.desc = some ⟨ps, rt⟩) (hl2 : as.length = ps.length) (hst : st = as.reverse ++ .ref a :: rest)
    (hf : rm'.frames + 1 ≤ R.frames) (hlo : (rest.map fun v => v.category).sum + (ml' + 11) + rm'.locals ≤ R.locals) (hc : cells + rm'.cells ≤ R.cells) (hs : slots + rm'.slots ≤ R.slots) (pc' : Nat) (hp : pc + 3 = pc')
    (g : ∀ (T' : State) (v : Option Value) (L : List Loc), Stand p l e R s m args below meth c T' (locs ++ L) (cells + rm'.cells) (slots + rm'.slots) → Qc v T'.heap L → Ends p e s below R Q T' (mkF m pc' ls (v.toList ++ rest))) : Ends p e s below R Q T (mkF m pc ls st) := by
  subst hp hst
  obtain ⟨v, _, ⟨T', L', c', n'⟩, -, X', ⟨Lc, hQ, q1, q2, q3⟩, q⟩ := X.specialBack k.1 (y := y') hin k.2.2.2.2.1 (mvT k.2.1 w1) (mvT k.2.1 w2) (mvT k.2.1 w4) hy (backOf (W := (rest.map fun v => v.category).sum) M k.2.1 w4 w3 hf hlo) (g := mkF m pc ls (as.reverse ++ .ref a :: rest)) rfl (hsz.trans k.2.2.2.1.symm) (Steps.refl _) (a := a) (argsL := as) (rest := rest) (lenOf hlen hl2) rfl (by show 2 * 0 + _ ≤ _; rw [Nat.mul_zero, Nat.zero_add]; exact Nat.le_refl _) (hb k.2.2.1 hd) (fun _ _ => ⟨rfl, e0, hc, hs⟩)
  dsimp only [Pt.U, Pt.locs, Pt.cells, Pt.slots] at X' q1 q2 q3 q hQ
  subst q1 q2 q3
  exact (g T' v Lc X' hQ).map fun _ r => q.trans r
theorem callV (k : K p s m meth c Z y cd ml ret) (X : Stand p l e R s m args below meth c T locs cells slots) {y' : MethodName} {cd' : ByteArray} {ml' : Nat} {ret' : Option FieldType} {rm' : Room} {Qc : Option Value → Heap → List Loc → Prop} {idx : Nat} {ps : List FieldType} {rt : Option FieldType} {a : Addr} (as : List Value) (rest : List Value) (hd : decode cd pc = .ok (.invokevirtual idx, 3)) (M : Met l y' cd' ml' ret' rm' (.ref a :: as).toArray Z h Qc []) (e0 : T.heap = h) (E : Exa Z h a y'.cls)
    (w1 : (Jvm.Cond.methodLink y.cls idx y').before a0 Z = true) (w0 : (Jvm.Cond.declares y').before a0 Z = true) (ws : (Jvm.Cond.selects y'.cls y' y').before a0 Z = true) (w2 : (Jvm.Cond.instanceMethod y').before a0 Z = true) (w3 : (Jvm.Cond.initialized y'.cls).before a0 Z = true) (w4 : (Jvm.Cond.code y' cd' ml' ret').before a0 Z = true) (hy : y'.cls ≠ "java/lang/invoke/MethodHandle" ∧ y'.cls ≠ "java/lang/invoke/VarHandle") (hsz : ls.size = ml) (hlen : parseMethodDescriptor y'.desc = some ⟨ps, rt⟩) (hl2 : as.length = ps.length) (hst : st = as.reverse ++ .ref a :: rest)
    (hf : rm'.frames + 1 ≤ R.frames) (hlo : (rest.map fun v => v.category).sum + (ml' + 11) + rm'.locals ≤ R.locals) (hc : cells + rm'.cells ≤ R.cells) (hs : slots + rm'.slots ≤ R.slots) (pc' : Nat) (hp : pc + 3 = pc')
    (g : ∀ (T' : State) (v : Option Value) (L : List Loc), Stand p l e R s m args below meth c T' (locs ++ L) (cells + rm'.cells) (slots + rm'.slots) → Qc v T'.heap L → Ends p e s below R Q T' (mkF m pc' ls (v.toList ++ rest))) : Ends p e s below R Q T (mkF m pc ls st) := by
  subst hp hst
  obtain ⟨cq, kq, qa, qb, qc⟩ := isOf k.2.1 e0 E
  obtain ⟨v, _, ⟨T', L', c', n'⟩, -, X', ⟨Lc, hQ, q1, q2, q3⟩, q⟩ := X.virtualBack k.1 (y := y') (z := y') k.2.2.2.2.1 (mvT k.2.1 w1) (mvT k.2.1 w0) (notFace_of_selects (args := #[]) (mvT k.2.1 ws)) (mvT k.2.1 ws) (mvT k.2.1 w2) hy (backOf (W := (rest.map fun v => v.category).sum) M k.2.1 w4 w3 hf hlo) qa qc (g := mkF m pc ls (as.reverse ++ .ref a :: rest)) rfl (hsz.trans k.2.2.2.1.symm) (Steps.refl _) (argsL := as) (rest := rest) (lenOf hlen hl2) rfl (by show 2 * 0 + _ ≤ _; rw [Nat.mul_zero, Nat.zero_add]; exact Nat.le_refl _) (hb k.2.2.1 hd) (fun _ _ => ⟨rfl, e0, hc, hs⟩)
  dsimp only [Pt.U, Pt.locs, Pt.cells, Pt.slots] at X' q1 q2 q3 q hQ
  subst q1 q2 q3
  exact (g T' v Lc X' hQ).map fun _ r => q.trans r
theorem callP (k : K p s m meth c Z y cd ml ret) (X : Stand p l e R s m args below meth c T locs cells slots) {y' : MethodName} {cd' : ByteArray} {ml' : Nat} {ret' : Option FieldType} {rm' : Room} {Qc : Option Value → Heap → List Loc → Prop} {idx : Nat} {ps : List FieldType} {rt : Option FieldType} {a : Addr} {C : String} {ni : Nat} (as : List Value) (rest : List Value) (hd : decode cd pc = .ok (.invokevirtual idx, 3)) (M : Met l y' cd' ml' ret' rm' (.ref a :: as).toArray Z h Qc []) (e0 : T.heap = h) (E : Exa Z h a C)
    (w1 : (Jvm.Cond.methodLink y.cls idx y').before a0 Z = true) (w0 : (Jvm.Cond.privateMethod y').before a0 Z = true) (wi : (Jvm.Cond.instantiable y'.cls ni).before a0 Z = true) (w2 : (Jvm.Cond.instanceMethod y').before a0 Z = true) (w3 : (Jvm.Cond.initialized y'.cls).before a0 Z = true) (w4 : (Jvm.Cond.code y' cd' ml' ret').before a0 Z = true) (hy : y'.cls ≠ "java/lang/invoke/MethodHandle" ∧ y'.cls ≠ "java/lang/invoke/VarHandle") (hsz : ls.size = ml) (hlen : parseMethodDescriptor y'.desc = some ⟨ps, rt⟩) (hl2 : as.length = ps.length) (hst : st = as.reverse ++ .ref a :: rest)
    (hf : rm'.frames + 1 ≤ R.frames) (hlo : (rest.map fun v => v.category).sum + (ml' + 11) + rm'.locals ≤ R.locals) (hc : cells + rm'.cells ≤ R.cells) (hs : slots + rm'.slots ≤ R.slots) (pc' : Nat) (hp : pc + 3 = pc')
    (g : ∀ (T' : State) (v : Option Value) (L : List Loc), Stand p l e R s m args below meth c T' (locs ++ L) (cells + rm'.cells) (slots + rm'.slots) → Qc v T'.heap L → Ends p e s below R Q T' (mkF m pc' ls (v.toList ++ rest))) : Ends p e s below R Q T (mkF m pc ls st) := by
  subst hp hst
  obtain ⟨cq, qa, qb⟩ := E.cell
  obtain ⟨ci, ki, i1, i2, -, i4, -, -⟩ := Cond.instantiable_spec wi
  have ws := Jvm.Stand.selects_self_of_private (args := a0) i1 i2 (Bool.or_eq_false_iff.mp i4).1 (Cond.privateMethod_at w0) w2 hy
  obtain ⟨v, _, ⟨T', L', c', n'⟩, -, X', ⟨Lc, hQ, q1, q2, q3⟩, q⟩ := X.privateBack k.1 (y := y') k.2.2.2.2.1 (mvT k.2.1 w1) (mvT k.2.1 w2) (mvT k.2.1 ws) (Cond.privateMethod_at (mvP k.2.1 w0 (args := #[]))) (mvT k.2.1 w4) hy (backOf (W := (rest.map fun v => v.category).sum) M k.2.1 w4 w3 hf hlo) (g := mkF m pc ls (as.reverse ++ .ref a :: rest)) rfl (hsz.trans k.2.2.2.1.symm) (Steps.refl _) (a := a) (by rw [e0]; exact qa) qb (argsL := as) (rest := rest) (lenOf hlen hl2) rfl (by show 2 * 0 + _ ≤ _; rw [Nat.mul_zero, Nat.zero_add]; exact Nat.le_refl _) (hb k.2.2.1 hd) (fun _ _ => ⟨rfl, e0, hc, hs⟩)
  dsimp only [Pt.U, Pt.locs, Pt.cells, Pt.slots] at X' q1 q2 q3 q hQ
  subst q1 q2 q3
  exact (g T' v Lc X' hQ).map fun _ r => q.trans r
end
end Wk
/-! own_: the order of the blocks; plain facts -/
def own_uI (U : List Int32) (i : Nat) : Int := (U.getD i 0).toInt
def own_lt (U : List Int32) (i j : Nat) : Prop := own_uI U i < own_uI U j ∨ (own_uI U i = own_uI U j ∧ i < j)
instance own_ltD (U : List Int32) (i j : Nat) : Decidable (own_lt U i j) := by unfold own_lt; exact inferInstance
def own_c (p : Nat → Bool) : Nat → Nat
  | 0 => 0
  | n + 1 => own_c p n + (if p n then 1 else 0)
theorem own_c_le (p : Nat → Bool) : ∀ n, own_c p n ≤ n
  | 0 => Nat.le_refl 0
  | n + 1 => by show own_c p n + _ ≤ n + 1; have := own_c_le p n; split <;> omega
theorem own_c_mono {p q : Nat → Bool} : ∀ n, (∀ j, j < n → p j = true → q j = true) → own_c p n ≤ own_c q n
  | 0, _ => Nat.le_refl 0
  | n + 1, h => by
    show own_c p n + (if p n then 1 else 0) ≤ own_c q n + (if q n then 1 else 0)
    have i1 := own_c_mono n fun j hj => h j (by omega)
    by_cases e : p n = true
    · rw [if_pos e, if_pos (h n (by omega) e)]; omega
    · rw [if_neg e]; omega
theorem own_c_congr {p q : Nat → Bool} {n : Nat} (h : ∀ j, j < n → p j = q j) : own_c p n = own_c q n :=
  Nat.le_antisymm (own_c_mono n fun j hj e => by rw [← h j hj]; exact e) (own_c_mono n fun j hj e => by rw [h j hj]; exact e)
theorem own_c_add {p : Nat → Bool} {x : Nat} (hx : p x = false) : ∀ n, own_c (fun j => p j || j == x) n = own_c p n + (if x < n then 1 else 0)
  | 0 => by rw [if_neg (by omega)]; rfl
  | n + 1 => by
    have q : own_c (fun j => p j || j == x) (n + 1) = own_c (fun j => p j || j == x) n + (if (p n || n == x) = true then 1 else 0) := rfl
    have r : own_c p (n + 1) = own_c p n + (if p n = true then 1 else 0) := rfl
    rw [q, r, own_c_add hx n]
    by_cases e : n = x
    · subst e
      rw [hx, if_neg (show ¬ n < n from Nat.lt_irrefl n), if_pos (show n < n + 1 from Nat.lt_succ_self n)]; simp
    · have e2 : (n == x) = false := by simpa using e
      rw [e2, Bool.or_false]
      by_cases s : x < n
      · rw [if_pos s, if_pos (show x < n + 1 by omega)]; omega
      · rw [if_neg s, if_neg (show ¬ x < n + 1 by omega)]; omega
def own_rk (U : List Int32) (n i : Nat) : Nat := own_c (fun j => decide (own_lt U j i)) n
theorem own_lt_irr (U : List Int32) (i : Nat) : ¬ own_lt U i i := by unfold own_lt; omega
theorem own_lt_tot {U : List Int32} {i j : Nat} (h : i ≠ j) : own_lt U i j ∨ own_lt U j i := by unfold own_lt; omega
theorem own_lt_tr {U : List Int32} {i j k : Nat} (h1 : own_lt U i j) (h2 : own_lt U j k) : own_lt U i k := by unfold own_lt at *; omega
theorem own_rk_lt {U : List Int32} {n i j : Nat} (hi : i < n) (h : own_lt U i j) : own_rk U n i < own_rk U n j := by
  have q := own_c_add (p := fun k => decide (own_lt U k i)) (x := i) (decide_eq_false (own_lt_irr U i)) n
  rw [if_pos hi] at q
  have r : own_c (fun k => decide (own_lt U k i) || k == i) n ≤ own_c (fun k => decide (own_lt U k j)) n := own_c_mono n fun k _ e => by
    rw [Bool.or_eq_true] at e
    rcases e with e | e
    · exact decide_eq_true (own_lt_tr (of_decide_eq_true e) h)
    · have e' : k = i := by simpa using e
      rw [e']; exact decide_eq_true h
  unfold own_rk; omega
theorem own_rk_n {U : List Int32} {n i : Nat} (hi : i < n) : own_rk U n i < n := by
  have q := own_c_add (p := fun k => decide (own_lt U k i)) (x := i) (decide_eq_false (own_lt_irr U i)) n
  rw [if_pos hi] at q
  have := own_c_le (fun k => decide (own_lt U k i) || k == i) n
  unfold own_rk; omega
theorem own_rk_inj {U : List Int32} {n i j : Nat} (hi : i < n) (hj : j < n) (h : own_rk U n i = own_rk U n j) : i = j := by
  apply Classical.byContradiction
  intro e
  rcases own_lt_tot (U := U) e with q | q
  · have := own_rk_lt hi q; omega
  · have := own_rk_lt hj q; omega
/-- the first index from b on whose value is c, or -1 -/
def own_first (U : List Int32) (n : Nat) (c : Int) (b : Nat) (r : Int) : Prop := (r = -1 ∧ ∀ i, b ≤ i → i < n → own_uI U i ≠ c) ∨ (∃ k : Nat, r = k ∧ b ≤ k ∧ k < n ∧ own_uI U k = c ∧ ∀ i, b ≤ i → i < k → own_uI U i ≠ c)
def own_Got (U : List Int32) (n k : Nat) (r : Int) : Prop := (r = -1 ∧ n ≤ k) ∨ ∃ i : Nat, i < n ∧ r = i ∧ own_rk U n i = k
/-- k blocks are returned; p the list, x the next block -/
def own_Inv (U : List Int32) (n : Nat) (L : Int) (k : Nat) (p x : Int) : Prop := ∃ Rem : Nat → Bool, own_c (fun i => !Rem i) n = min k n ∧
  ((x = -1 ∧ ∀ i, i < n → (Rem i = true ↔ L + p < own_uI U i)) ∨ (∃ y : Nat, x = y ∧ y < n ∧ own_uI U y = L + p ∧ ∀ i, i < n → (Rem i = true ↔ i = y ∨ own_lt U y i)))
theorem own_adv {U : List Int32} {n : Nat} {L : Int} {k : Nat} {p x : Int} (I : own_Inv U n L k p (-1)) (h : own_first U n (L + (p + 1)) 0 x) : own_Inv U n L k (p + 1) x := by
  obtain ⟨Rem, hc, h1 | ⟨y, hy, -⟩⟩ := I
  · refine ⟨Rem, hc, ?_⟩
    rcases h with ⟨hx, hf⟩ | ⟨y, hx, -, hy, hu, hf⟩
    · refine Or.inl ⟨hx, fun i hi => ?_⟩
      rw [h1.2 i hi]
      have := hf i (Nat.zero_le _) hi
      omega
    · refine Or.inr ⟨y, hx, hy, hu, fun i hi => ?_⟩
      rw [h1.2 i hi]
      unfold own_lt
      by_cases q : i < y
      · have := hf i (Nat.zero_le _) q
        constructor
        · intro _; right; omega
        · intro _; omega
      · constructor
        · intro _; omega
        · rintro (r | r)
          · rw [r]; omega
          · omega
  · omega
theorem own_end {U : List Int32} {n : Nat} {L : Int} {k : Nat} {p : Int} (I : own_Inv U n L k p (-1)) (h : ∀ i, i < n → own_uI U i ≤ L + p) : own_Got U n k (-1) ∧ own_Inv U n L (k + 1) p (-1) := by
  obtain ⟨Rem, hc, h1 | ⟨y, hy, -⟩⟩ := I
  · have hall : own_c (fun i => !Rem i) n = n := by
      have q : own_c (fun _ => true) n = n := by
        induction n with
        | zero => rfl
        | succ n ih => 
          have : ∀ m, own_c (fun _ => true) m = m := fun m => by
            induction m with
            | zero => rfl
            | succ m ihm => show own_c _ m + (if true then 1 else 0) = m + 1; rw [ihm]; rfl
          exact this (n + 1)
      refine (own_c_congr fun j hj => ?_).trans q
      have : ¬ (Rem j = true) := by rw [h1.2 j hj]; have := h j hj; omega
      simpa using this
    have hk : n ≤ k := by omega
    exact ⟨Or.inl ⟨rfl, hk⟩, Rem, by omega, Or.inl h1⟩
  · omega
theorem own_take {U : List Int32} {n : Nat} {L : Int} {k : Nat} {p y' : Int} {y : Nat} (I : own_Inv U n L k p (y : Int)) (h : own_first U n (own_uI U y) (y + 1) y') : own_Got U n k (y : Int) ∧ own_Inv U n L (k + 1) p y' ∧ y < n := by
  obtain ⟨Rem, hc, ⟨hx, -⟩ | ⟨z, hz, hzn, hu, h1⟩⟩ := I
  · omega
  · obtain rfl : y = z := by omega
    have hRy : Rem y = true := (h1 y hzn).mpr (Or.inl rfl)
    have hrk : own_rk U n y = own_c (fun i => !Rem i) n := own_c_congr fun j hj => by
      by_cases q : own_lt U j y
      · have : ¬ (Rem j = true) := by
          rw [h1 j hj]; intro r
          rcases r with r | r
          · rw [r] at q; exact own_lt_irr U y q
          · exact own_lt_irr U j (own_lt_tr q r)
        simp [q, this]
      · have : Rem j = true := by
          rw [h1 j hj]
          by_cases r : j = y
          · exact Or.inl r
          · exact Or.inr ((own_lt_tot r).resolve_left q)
        simp [q, this]
    have hlt := own_rk_n (U := U) hzn
    have hk : own_rk U n y = k := by omega
    refine ⟨Or.inr ⟨y, hzn, rfl, hk⟩, ⟨fun i => Rem i && !(i == y), ?_, ?_⟩, hzn⟩
    · have q := own_c_add (p := fun i => !Rem i) (x := y) (by simp [hRy]) n
      rw [if_pos hzn] at q
      have e : own_c (fun i => !(Rem i && !(i == y))) n = own_c (fun j => !Rem j || j == y) n := own_c_congr fun j _ => by simp
      rw [e, q]; omega
    · have h2 : ∀ i, i < n → ((Rem i && !(i == y)) = true ↔ own_lt U y i) := fun i hi => by
        rw [Bool.and_eq_true, h1 i hi]
        constructor
        · rintro ⟨r | r, s⟩
          · simp [r] at s
          · exact r
        · intro r
          refine ⟨Or.inr r, ?_⟩
          have : i ≠ y := fun e => own_lt_irr U y (by rw [e] at r; exact r)
          simpa using this
      rcases h with ⟨hx, hf⟩ | ⟨w, hx, hb, hw, hu', hf⟩
      · refine Or.inl ⟨hx, fun i hi => ?_⟩
        rw [h2 i hi, ← hu]
        unfold own_lt
        by_cases q : y < i
        · have := hf i (by omega) hi; omega
        · omega
      · refine Or.inr ⟨w, hx, hw, by omega, fun i hi => ?_⟩
        rw [h2 i hi]
        unfold own_lt
        by_cases q : y < i ∧ i < w
        · have := hf i (by omega) q.2
          constructor
          · intro _; right; omega
          · rintro (r | r) <;> omega
        · constructor
          · intro _; omega
          · rintro (r | r)
            · rw [r]; omega
            · omega
theorem own_inv0 {U : List Int32} {n : Nat} {L : Int} (h : ∀ i, i < n → L ≤ own_uI U i) : own_Inv U n L 0 (-1) (-1) := by
  refine ⟨fun _ => true, ?_, Or.inl ⟨rfl, fun i hi => ?_⟩⟩
  · have : ∀ m, own_c (fun i => !true) m = 0 := fun m => by
      induction m with
      | zero => rfl
      | succ m ih => show own_c _ m + (if (!true) = true then 1 else 0) = 0; rw [ih]; rfl
    rw [this]; omega
  · have := h i hi
    constructor
    · intro _; omega
    · intro _; rfl
/-! the law's own table -/
def own_pl (E U : List Int32) (n i : Nat) : List Int32 := if i < n then E.set (own_rk U n i) (Int32.ofNat i) else E
def own_E (U : List Int32) (n : Nat) : Nat → List Int32
  | 0 => [-1, -1, -1, -1, -1, -1]
  | m + 1 => own_pl (own_E U n m) U n m
theorem own_E_len (U : List Int32) (n : Nat) : ∀ m, (own_E U n m).length = 6
  | 0 => rfl
  | m + 1 => by show (own_pl (own_E U n m) U n m).length = 6; unfold own_pl; split <;> simp [own_E_len U n m]
theorem own_sg {ks : List Int32} {s : Nat} {a : Int32} (h : s < ks.length) (x : Nat) : (ks.set s a).getD x 0 = if x = s then a else ks.getD x 0 := by
  rw [List.getD_eq_getElem?_getD, List.getElem?_set]
  by_cases q : s = x
  · subst q; rw [if_pos rfl, if_pos h, if_pos rfl]; rfl
  · rw [if_neg q, if_neg (fun r => q r.symm), List.getD_eq_getElem?_getD]
theorem own_E_get {U : List Int32} {n k : Nat} (hn : n ≤ 4) (hk : k < 6) : ∀ m, ((∀ i, i < m → i < n → own_rk U n i ≠ k) → (own_E U n m).getD k 0 = -1) ∧ (∀ i, i < m → i < n → own_rk U n i = k → (own_E U n m).getD k 0 = Int32.ofNat i)
  | 0 => by
    refine ⟨fun _ => ?_, fun i hi => absurd hi (Nat.not_lt_zero _)⟩
    match k, hk with
    | 0, _ => rfl
    | 1, _ => rfl
    | 2, _ => rfl
    | 3, _ => rfl
    | 4, _ => rfl
    | 5, _ => rfl
  | m + 1 => by
    obtain ⟨h1, h2⟩ := own_E_get (U := U) hn hk m
    show (_ → (own_pl (own_E U n m) U n m).getD k 0 = -1) ∧ (∀ i, _ → _ → _ → (own_pl (own_E U n m) U n m).getD k 0 = _)
    unfold own_pl
    by_cases q : m < n
    · rw [if_pos q, own_sg (by rw [own_E_len]; have := own_rk_n (U := U) q; omega)]
      refine ⟨fun h => ?_, fun i hi hin e => ?_⟩
      · rw [if_neg (fun r => h m (by omega) q r.symm)]; exact h1 fun i hi => h i (by omega)
      · by_cases r : i = m
        · subst r; rw [if_pos e.symm]
        · rw [if_neg (fun s => r (own_rk_inj hin q (e.trans s)))]; exact h2 i (by omega) hin e
    · rw [if_neg q]
      exact ⟨fun h => h1 fun i hi => h i (by omega), fun i hi hin e => h2 i (by omega) hin e⟩
theorem own_same {U : List Int32} {n k : Nat} {r : Int32} (hn : n ≤ 4) (hk : k < 6) (h : own_Got U n k r.toInt) : r = (own_E U n 4).getD k 0 := by
  obtain ⟨h1, h2⟩ := own_E_get (U := U) hn hk 4
  rcases h with ⟨hr, hl⟩ | ⟨i, hi, hr, e⟩
  · rw [h1 fun i _ hi => by have := own_rk_n (U := U) hi; omega]
    exact Int32.toInt_inj.mp hr
  · rw [h2 i (by omega) hi e]
    apply Int32.toInt_inj.mp
    rw [hr, Int32.toInt_ofNat_of_lt (by omega)]
theorem own_b01 (P : Prop) [Decidable P] : (if P then (1 : Int32) else 0).toInt = if P then 1 else 0 := by split <;> rfl
theorem own_cst (P : Prop) [Decidable P] : ((if P then (1 : Nat) else 0 : Nat) : Int) = if P then 1 else 0 := by split <;> rfl
theorem own_rank4 {U : List Int32} {n i : Nat} (hn : n ≤ 4) : ((((if 0 < n ∧ own_lt U 0 i then (1 : Int32) else 0) + (if 1 < n ∧ own_lt U 1 i then (1 : Int32) else 0)) + (if 2 < n ∧ own_lt U 2 i then (1 : Int32) else 0)) + (if 3 < n ∧ own_lt U 3 i then (1 : Int32) else 0)).toInt = (own_rk U n i : Int) := by
  have b0 := own_b01 (0 < n ∧ own_lt U 0 i)
  have b1 := own_b01 (1 < n ∧ own_lt U 1 i)
  have b2 := own_b01 (2 < n ∧ own_lt U 2 i)
  have b3 := own_b01 (3 < n ∧ own_lt U 3 i)
  have r : (own_rk U n i : Int) = (if 0 < n ∧ own_lt U 0 i then 1 else 0) + (if 1 < n ∧ own_lt U 1 i then 1 else 0) + (if 2 < n ∧ own_lt U 2 i then 1 else 0) + (if 3 < n ∧ own_lt U 3 i then 1 else 0) := by
    unfold own_rk
    match n, hn with
    | 0, _ => simp [own_c]
    | 1, _ => simp [own_c, own_cst]
    | 2, _ => simp [own_c, own_cst]
    | 3, _ => simp [own_c, own_cst]
    | 4, _ => simp [own_c, own_cst]
  have c1 := c_iadd (if 0 < n ∧ own_lt U 0 i then (1 : Int32) else 0) (if 1 < n ∧ own_lt U 1 i then (1 : Int32) else 0)
  have c2 := c_iadd ((if 0 < n ∧ own_lt U 0 i then (1 : Int32) else 0) + (if 1 < n ∧ own_lt U 1 i then (1 : Int32) else 0)) (if 2 < n ∧ own_lt U 2 i then (1 : Int32) else 0)
  have c3 := c_iadd (((if 0 < n ∧ own_lt U 0 i then (1 : Int32) else 0) + (if 1 < n ∧ own_lt U 1 i then (1 : Int32) else 0)) + (if 2 < n ∧ own_lt U 2 i then (1 : Int32) else 0)) (if 3 < n ∧ own_lt U 3 i then (1 : Int32) else 0)
  have d1 := rng32 ((if 0 < n ∧ own_lt U 0 i then (1 : Int32) else 0) + (if 1 < n ∧ own_lt U 1 i then (1 : Int32) else 0))
  have d2 := rng32 (((if 0 < n ∧ own_lt U 0 i then (1 : Int32) else 0) + (if 1 < n ∧ own_lt U 1 i then (1 : Int32) else 0)) + (if 2 < n ∧ own_lt U 2 i then (1 : Int32) else 0))
  have d3 := rng32 ((((if 0 < n ∧ own_lt U 0 i then (1 : Int32) else 0) + (if 1 < n ∧ own_lt U 1 i then (1 : Int32) else 0)) + (if 2 < n ∧ own_lt U 2 i then (1 : Int32) else 0)) + (if 3 < n ∧ own_lt U 3 i then (1 : Int32) else 0))
  have e0 : (0 : Int) ≤ (if 0 < n ∧ own_lt U 0 i then 1 else 0) ∧ (if 0 < n ∧ own_lt U 0 i then (1 : Int) else 0) ≤ 1 := by split <;> omega
  have e1 : (0 : Int) ≤ (if 1 < n ∧ own_lt U 1 i then 1 else 0) ∧ (if 1 < n ∧ own_lt U 1 i then (1 : Int) else 0) ≤ 1 := by split <;> omega
  have e2 : (0 : Int) ≤ (if 2 < n ∧ own_lt U 2 i then 1 else 0) ∧ (if 2 < n ∧ own_lt U 2 i then (1 : Int) else 0) ≤ 1 := by split <;> omega
  have e3 : (0 : Int) ≤ (if 3 < n ∧ own_lt U 3 i then 1 else 0) ∧ (if 3 < n ∧ own_lt U 3 i then (1 : Int) else 0) ≤ 1 := by split <;> omega
  rw [b0, b1] at c1
  rw [b2] at c2
  rw [b3] at c3
  rw [r]
  omega
/-! what the constructor builds -/
def own_Good (U : List Int32) (n : Nat) (lo : Int) (W : Nat) (fs xs : List Int32) : Prop := fs.length = W ∧ xs.length = n ∧ W ≤ 256 ∧ 0 ≤ lo ∧ lo ≤ 256 ∧ (∀ c : Nat, c < W → own_first U n (lo + c) 0 (fs.getD c 0).toInt) ∧ (∀ i, i < n → own_first U n (own_uI U i) (i + 1) (xs.getD i 0).toInt) ∧ (∀ i, i < n → own_uI U i < lo + W)
def own_LG (U : List Int32) (kk : Nat) (lo hi : Int32) : Prop := 0 ≤ lo.toInt ∧ lo.toInt ≤ 256 ∧ -1 ≤ hi.toInt ∧ hi.toInt ≤ 255 ∧ ∀ i, i < kk → lo.toInt ≤ own_uI U i ∧ own_uI U i ≤ hi.toInt
theorem own_LG0 (U : List Int32) : own_LG U 0 256 (-1) := ⟨by decide, by decide, by decide, by decide, fun i hi => absurd hi (Nat.not_lt_zero _)⟩
theorem own_m255 (x : Int32) : 0 ≤ (x &&& (255 : Int32)).toInt ∧ (x &&& (255 : Int32)).toInt ≤ 255 := by
  have := c_mask x 255 8 (by decide) (by decide)
  omega
theorem own_LGs {U : List Int32} {kk : Nat} {lo hi lo' hi' x : Int32} (h : own_LG U kk lo hi) (hw : (x &&& (255 : Int32)) = U.getD kk 0) (h1 : lo'.toInt = min lo.toInt (x &&& (255 : Int32)).toInt) (h2 : hi'.toInt = max hi.toInt (x &&& (255 : Int32)).toInt) : own_LG U (kk + 1) lo' hi' := by
  have hb := own_m255 x
  have e : own_uI U kk = (x &&& (255 : Int32)).toInt := by rw [hw]; rfl
  obtain ⟨a1, a2, a3, a4, a5⟩ := h
  refine ⟨by omega, by omega, by omega, by omega, fun i hi => ?_⟩
  by_cases q : i = kk
  · rw [q, e]; omega
  · have := a5 i (by omega); omega
def own_Fill (U : List Int32) (n : Nat) (lo : Int) (W b : Nat) (fs xs : List Int32) : Prop := fs.length = W ∧ xs.length = n ∧ (∀ c : Nat, c < W → own_first U n (lo + c) b (fs.getD c 0).toInt) ∧ (∀ i, b ≤ i → i < n → own_first U n (own_uI U i) (i + 1) (xs.getD i 0).toInt)
theorem own_rep1 (W c : Nat) (h : c < W) : ((List.replicate W (-1 : Int32)).getD c 0).toInt = -1 := by
  rw [List.getD_eq_getElem?_getD, List.getElem?_replicate, if_pos h]; rfl
theorem own_Fill0 (U : List Int32) (n : Nat) (lo : Int) (W : Nat) : own_Fill U n lo W n (List.replicate W (-1)) (List.replicate n 0) :=
  ⟨by simp, by simp, fun c hc => Or.inl ⟨own_rep1 W c hc, fun i h1 h2 => absurd h1 (by omega)⟩, fun i h1 h2 => absurd h1 (by omega)⟩
theorem own_Fills {U : List Int32} {n : Nat} {lo : Int} {W b c0 : Nat} {fs xs : List Int32} {blk : Int32} (h : own_Fill U n lo W (b + 1) fs xs) (hb : b < n) (hc : c0 < W) (hu : own_uI U b = lo + c0) (hblk : blk.toInt = b) : own_Fill U n lo W b (fs.set c0 blk) (xs.set b (fs.getD c0 0)) := by
  obtain ⟨a1, a2, a3, a4⟩ := h
  refine ⟨by simp [a1], by simp [a2], fun c hcW => ?_, fun i h1 h2 => ?_⟩
  · rw [own_sg (by omega)]
    by_cases q : c = c0
    · rw [if_pos q, hblk, q]
      exact Or.inr ⟨b, rfl, Nat.le_refl _, hb, hu, fun i h1 h2 => absurd h1 (by omega)⟩
    · rw [if_neg q]
      have hne : own_uI U b ≠ lo + c := by omega
      rcases a3 c hcW with ⟨r, f⟩ | ⟨k, r, k1, k2, k3, f⟩
      · refine Or.inl ⟨r, fun i h1 h2 => ?_⟩
        by_cases z : i = b
        · rw [z]; exact hne
        · exact f i (by omega) h2
      · refine Or.inr ⟨k, r, by omega, k2, k3, fun i h1 h2 => ?_⟩
        by_cases z : i = b
        · rw [z]; exact hne
        · exact f i (by omega) h2
  · rw [own_sg (by omega)]
    by_cases q : i = b
    · rw [if_pos q, q, hu]
      exact a3 c0 hc
    · rw [if_neg q]; exact a4 i (by omega) h2
theorem own_Good_of {U : List Int32} {n : Nat} {lo : Int} {W : Nat} {fs xs : List Int32} (h : own_Fill U n lo W 0 fs xs) (h1 : W ≤ 256) (h2 : 0 ≤ lo) (h3 : lo ≤ 256) (h4 : ∀ i, i < n → own_uI U i < lo + W) : own_Good U n lo W fs xs :=
  ⟨h.1, h.2.1, h1, h2, h3, h.2.2.1, fun i hi => h.2.2.2 i (Nat.zero_le _) hi, h4⟩
theorem own_of {U : List Int32} {n W b : Nat} {lo hi x : Int32} (h : own_LG U n lo hi) (hb : b < n) (hx : (x &&& (255 : Int32)) = U.getD b 0) (hW : ∀ i, i < n → own_uI U i < lo.toInt + W) : ∃ c0 : Nat, ((x &&& (255 : Int32)) - lo).toInt = (c0 : Int) ∧ c0 < W ∧ own_uI U b = lo.toInt + c0 := by
  have e : own_uI U b = (x &&& (255 : Int32)).toInt := by rw [hx]; rfl
  have := h.2.2.2.2 b hb
  have := hW b hb
  have hb := own_m255 x
  have q := c_isub (x &&& (255 : Int32)) lo
  have r := rng32 ((x &&& (255 : Int32)) - lo)
  obtain ⟨a1, a2, -⟩ := h
  refine ⟨((x &&& (255 : Int32)).toInt - lo.toInt).toNat, by omega, by omega, by omega⟩
theorem own_W {U : List Int32} {n : Nat} {lo hi wz : Int32} (h : own_LG U n lo hi) (hw : wz.toInt = max (0 : Int32).toInt ((hi - lo) + (1 : Int32)).toInt) : ∃ W : Nat, wz.toInt = (W : Int) ∧ W ≤ 256 ∧ ∀ i, i < n → own_uI U i < lo.toInt + W := by
  obtain ⟨a1, a2, a3, a4, a5⟩ := h
  have z0 : (0 : Int32).toInt = 0 := rfl
  have z1 : (1 : Int32).toInt = 1 := rfl
  have q := c_isub hi lo
  have r := rng32 (hi - lo)
  have q2 := c_iadd (hi - lo) 1
  have r2 := rng32 ((hi - lo) + 1)
  refine ⟨wz.toInt.toNat, by omega, by omega, fun i hi => ?_⟩
  have := a5 i hi
  omega
theorem own_neg {U : List Int32} {n : Nat} {L : Int} {k : Nat} {p x : Int} (I : own_Inv U n L k p x) (h : x < 0) : x = -1 := by
  obtain ⟨R, -, ⟨e, -⟩ | ⟨y, e, -⟩⟩ := I
  · exact e
  · omega
theorem own_pos {U : List Int32} {n : Nat} {L : Int} {k : Nat} {p x : Int} (I : own_Inv U n L k p x) (h : ¬ x < 0) : ∃ y : Nat, x = y ∧ y < n := by
  obtain ⟨R, -, ⟨e, -⟩ | ⟨y, e, hy, -⟩⟩ := I
  · omega
  · exact ⟨y, e, hy⟩
theorem own_k5 (x : Int32) : (x &&& (2147483647 : Int32)) % (5 : Int32) = 0 ∨ (x &&& (2147483647 : Int32)) % (5 : Int32) = 1 ∨ (x &&& (2147483647 : Int32)) % (5 : Int32) = 2 ∨ (x &&& (2147483647 : Int32)) % (5 : Int32) = 3 ∨ (x &&& (2147483647 : Int32)) % (5 : Int32) = 4 := by
  have h1 := c_mask x 2147483647 31 (by decide) (by decide)
  have h2 := (c_irem (x &&& (2147483647 : Int32)) 5 5 (by decide)).1 (by omega)
  have h3 : ((x &&& (2147483647 : Int32)) % (5 : Int32)).toInt = 0 ∨ ((x &&& (2147483647 : Int32)) % (5 : Int32)).toInt = 1 ∨ ((x &&& (2147483647 : Int32)) % (5 : Int32)).toInt = 2 ∨ ((x &&& (2147483647 : Int32)) % (5 : Int32)).toInt = 3 ∨ ((x &&& (2147483647 : Int32)) % (5 : Int32)).toInt = 4 := by omega
  rcases h3 with q | q | q | q | q
  · exact Or.inl (Int32.toInt_inj.mp q)
  · exact Or.inr (Or.inl (Int32.toInt_inj.mp q))
  · exact Or.inr (Or.inr (Or.inl (Int32.toInt_inj.mp q)))
  · exact Or.inr (Or.inr (Or.inr (Or.inl (Int32.toInt_inj.mp q))))
  · exact Or.inr (Or.inr (Or.inr (Or.inr (Int32.toInt_inj.mp q))))
theorem own_b255 (x : Int32) : (x.toInt8.toInt32 &&& (255 : Int32)) = (x &&& (255 : Int32)) := by
  apply Int32.toBitVec_inj.mp
  show ((x.toBitVec.signExtend 8).signExtend 32 &&& 255#32) = (x.toBitVec &&& 255#32)
  apply BitVec.eq_of_getElem_eq
  intro i hi
  rw [BitVec.getElem_and, BitVec.getElem_and]
  by_cases q : i < 8
  · rw [BitVec.getElem_signExtend, dif_pos q, BitVec.getElem_signExtend, dif_pos (show i < 32 from hi)]
  · have e : (255#32)[i] = false := by
      rw [← BitVec.getLsbD_eq_getElem, show (255#32) = BitVec.ofNat 32 (2 ^ 8 - 1) from rfl, BitVec.getLsbD_ofNat, Nat.testBit_two_pow_sub_one]
      simp [q]
    rw [e, Bool.and_false, Bool.and_false]
theorem own_lt32 {a b : Int32} {i j : Nat} (ha : a.toInt = (i : Int)) (hb : b.toInt = (j : Int)) : a < b ↔ i < j := by rw [Int32.lt_iff_toInt_lt, ha, hb]; omega
theorem own_eq32 {a b : Int32} {i j : Nat} (ha : a.toInt = (i : Int)) (hb : b.toInt = (j : Int)) : a = b ↔ i = j := by
  constructor
  · intro h; rw [h] at ha; omega
  · intro h; exact Int32.toInt_inj.mp (by rw [ha, hb, h])
theorem own_bf0 {U : List Int32} {nn ii jj : Nat} (h : ¬ (jj < nn ∧ own_lt U jj ii)) : (0 : Int32) = if jj < nn ∧ own_lt U jj ii then (1 : Int32) else 0 := (if_neg h).symm
theorem own_bf1 {U : List Int32} {nn ii jj : Nat} (h : jj < nn ∧ own_lt U jj ii) : (1 : Int32) = if jj < nn ∧ own_lt U jj ii then (1 : Int32) else 0 := (if_pos h).symm
theorem own_ult {U : List Int32} {i j : Nat} : (U.getD i 0 < U.getD j 0) ↔ own_uI U i < own_uI U j := Int32.lt_iff_toInt_lt
theorem own_ueq {U : List Int32} {i j : Nat} : (U.getD i 0 = U.getD j 0) ↔ own_uI U i = own_uI U j := Int32.toInt_inj.symm
theorem own_m1 : (-1 : Int32).toInt = -1 := by decide
theorem own_dec {blk : Int32} {b : Nat} (h : blk.toInt = (b : Int)) : (blk + (-1 : Int32)).toInt = (b : Int) - 1 := by
  have q := c_iadd blk (-1)
  have r := rng32 (blk + (-1))
  have r2 := rng32 blk
  rw [own_m1] at q
  omega
theorem own_b8 (y : Int32) : (y.toInt8.toInt32).toInt8.toInt32 = y.toInt8.toInt32 := by rw [Int8.toInt8_toInt32]
theorem own_oN {i : Nat} (h : i < 2147483648) : (Int32.ofNat i).toInt = (i : Int) := Int32.toInt_ofNat_of_lt (by omega)
theorem own_ltN {i n : Nat} (h : i < 2147483648) (h' : n < 2147483648) : Int32.ofNat i < Int32.ofNat n ↔ i < n := by rw [Int32.lt_iff_toInt_lt, own_oN h, own_oN h']; omega
theorem own_gD {xs : List Int32} {i : Nat} (h : i < xs.length) : xs[i]? = some (xs.getD i 0) := by rw [List.getD_eq_getElem?_getD, List.getElem?_eq_getElem h]; rfl
theorem own_len {c : Nat} {ks : List Int32} (hl : ks.length = c) : ((ks.map Value.int).length : Int) = (c : Int) := by rw [List.length_map, hl]
def own_fl (xs : List Int32) (v : Int32) : Nat → List Int32
  | 0 => xs
  | k + 1 => (own_fl xs v k).set k v
theorem own_fl_len (xs : List Int32) (v : Int32) : ∀ k, (own_fl xs v k).length = xs.length
  | 0 => rfl
  | k + 1 => by show ((own_fl xs v k).set k v).length = _; rw [List.length_set, own_fl_len]
theorem own_fl_get (xs : List Int32) (v : Int32) (j : Nat) (hj : j < xs.length) : ∀ k, (own_fl xs v k)[j]? = if j < k then some v else xs[j]?
  | 0 => by rw [if_neg (Nat.not_lt_zero _)]; rfl
  | k + 1 => by
    show ((own_fl xs v k).set k v)[j]? = _
    rw [List.getElem?_set, own_fl_len, own_fl_get xs v j hj k]
    by_cases q : k = j
    · subst q; rw [if_pos rfl, if_pos hj, if_pos (by omega)]
    · rw [if_neg q]
      by_cases r : j < k
      · rw [if_pos r, if_pos (by omega)]
      · rw [if_neg r, if_neg (by omega)]
theorem own_fl_all (xs : List Int32) (v : Int32) : own_fl xs v xs.length = List.replicate xs.length v := by
  apply List.ext_getElem?
  intro j
  by_cases h : j < xs.length
  · rw [own_fl_get xs v j h, if_pos h, List.getElem?_replicate, if_pos h]
  · rw [List.getElem?_eq_none (by rw [own_fl_len]; omega), List.getElem?_eq_none (by rw [List.length_replicate]; omega)]
theorem own_inc32 (z : Nat) : Int32.ofNat z + (1 : Int32) = Int32.ofNat (z + 1) := (Int32.ofNat_add z 1).symm

def own_BB (Z : State) (h : Heap) (n0 : Nat) (o fA xA : Addr) (U : List Int32) (n : Nat) (lo : Int) (W : Nat) (fs xs : List Int32) (k : Nat) : Prop := ∃ p x : Int32, Exa Z h o "com/example/quern/quern/Postings$BestBlocks" ∧ Fld Z h o "com/example/quern/quern/Postings$BestBlocks" "list" "I" (.int p) ∧ Fld Z h o "com/example/quern/quern/Postings$BestBlocks" "next" "I" (.int x) ∧ Fld Z h o "com/example/quern/quern/Postings$BestBlocks" "firsts" "[I" (.ref fA) ∧ Fld Z h o "com/example/quern/quern/Postings$BestBlocks" "nexts" "[I" (.ref xA) ∧ Wk.Arl Z h fA .int (fs.map Value.int) ∧ Wk.Arl Z h xA .int (xs.map Value.int) ∧ o ≠ fA ∧ o ≠ xA ∧ n0 ≤ o ∧ -1 ≤ p.toInt ∧ p.toInt < W ∧ own_Inv U n lo k p.toInt x.toInt ∧ own_Good U n lo W fs xs
theorem d_Math_min_0 : decode jdk_29_method_69_code 0 = .ok (.iload_n 0, 1) := by decide +kernel
theorem d_Math_min_1 : decode jdk_29_method_69_code 1 = .ok (.iload_n 1, 1) := by decide +kernel
theorem d_Math_min_2 : decode jdk_29_method_69_code 2 = .ok (.if_icmp .gt 7, 3) := by decide +kernel
theorem d_Math_min_5 : decode jdk_29_method_69_code 5 = .ok (.iload_n 0, 1) := by decide +kernel
theorem d_Math_min_6 : decode jdk_29_method_69_code 6 = .ok (.goto 4, 3) := by decide +kernel
theorem d_Math_min_9 : decode jdk_29_method_69_code 9 = .ok (.iload_n 1, 1) := by decide +kernel
theorem d_Math_min_10 : decode jdk_29_method_69_code 10 = .ok (.ireturn, 1) := by decide +kernel
theorem pn_Math_min : plainFor (⟨"java/lang/Math", "min", "(II)I"⟩ : MethodName) = true := Jvm.Free.JP.mathPlain rfl (by decide +kernel)
theorem pd_Math_min : parseMethodDescriptor "(II)I" = some ⟨[.int, .int], (some .int)⟩ := by decide +kernel
theorem ef_min (m : MethodId) (a b : Int32) : entryFrame m #[(.int a), (.int b)] 2 = mkF m 0 #[.val (.int a), .val (.int b)] [] := by first | (simp [entryFrame, mkF, argsToLocals, Value.category]; done) | rfl
set_option maxRecDepth 65536 in
set_option maxHeartbeats 40000000 in
theorem rm_min (l : Launch) (Z : State) (a0 : Array Value) (hw : ∀ d ∈ tables_1, d.before a0 Z = true) (a b : Int32) (h0 : Heap) : Wk.Met l (⟨"java/lang/Math", "min", "(II)I"⟩ : MethodName) jdk_29_method_69_code 2 (some .int) ({ frames := 0, cells := 0, slots := 0, locals := 0 } : Room) #[(.int a), (.int b)] Z h0 (fun r h L => ∃ z : Int32, r = some (.int z) ∧ z.toInt = min a.toInt b.toInt ∧ h = h0 ∧ L = []) [] := by
  refine Wk.enter pn_Math_min (fun p e s m below meth c T0 k X0 e0 => ?_)
  refine (Wk.Ends.cast (ef_min m a b) ?_)
  refine Wk.iload_n k X0 d_Math_min_0 rfl 1 rfl ?_
  refine Wk.iload_n k X0 d_Math_min_1 rfl 2 rfl ?_
  refine Wk.icmp_gt k X0 d_Math_min_2 (by decide) 9 5 (by decide) rfl (fun hc2 => ?_) (fun hc2 => ?_)
  · refine Wk.iload_n k X0 d_Math_min_9 rfl 10 rfl ?_
    exact Wk.ret_int k X0 rfl d_Math_min_10 (by decide) (by decide) ⟨_, rfl, by rw [Int32.lt_iff_toInt_lt] at hc2; omega, e0, rfl⟩
  · refine Wk.iload_n k X0 d_Math_min_5 rfl 6 rfl ?_
    refine Wk.goto k X0 d_Math_min_6 (by decide) 10 (by decide) ?_
    exact Wk.ret_int k X0 rfl d_Math_min_10 (by decide) (by decide) ⟨_, rfl, by rw [Int32.lt_iff_toInt_lt] at hc2; omega, e0, rfl⟩
theorem d_Math_max_0 : decode jdk_29_method_65_code 0 = .ok (.iload_n 0, 1) := by decide +kernel
theorem d_Math_max_1 : decode jdk_29_method_65_code 1 = .ok (.iload_n 1, 1) := by decide +kernel
theorem d_Math_max_2 : decode jdk_29_method_65_code 2 = .ok (.if_icmp .lt 7, 3) := by decide +kernel
theorem d_Math_max_5 : decode jdk_29_method_65_code 5 = .ok (.iload_n 0, 1) := by decide +kernel
theorem d_Math_max_6 : decode jdk_29_method_65_code 6 = .ok (.goto 4, 3) := by decide +kernel
theorem d_Math_max_9 : decode jdk_29_method_65_code 9 = .ok (.iload_n 1, 1) := by decide +kernel
theorem d_Math_max_10 : decode jdk_29_method_65_code 10 = .ok (.ireturn, 1) := by decide +kernel
theorem pn_Math_max : plainFor (⟨"java/lang/Math", "max", "(II)I"⟩ : MethodName) = true := Jvm.Free.JP.mathPlain rfl (by decide +kernel)
theorem pd_Math_max : parseMethodDescriptor "(II)I" = some ⟨[.int, .int], (some .int)⟩ := by decide +kernel
theorem ef_max (m : MethodId) (a b : Int32) : entryFrame m #[(.int a), (.int b)] 2 = mkF m 0 #[.val (.int a), .val (.int b)] [] := by first | (simp [entryFrame, mkF, argsToLocals, Value.category]; done) | rfl
set_option maxRecDepth 65536 in
set_option maxHeartbeats 40000000 in
theorem rm_max (l : Launch) (Z : State) (a0 : Array Value) (hw : ∀ d ∈ tables_1, d.before a0 Z = true) (a b : Int32) (h0 : Heap) : Wk.Met l (⟨"java/lang/Math", "max", "(II)I"⟩ : MethodName) jdk_29_method_65_code 2 (some .int) ({ frames := 0, cells := 0, slots := 0, locals := 0 } : Room) #[(.int a), (.int b)] Z h0 (fun r h L => ∃ z : Int32, r = some (.int z) ∧ z.toInt = max a.toInt b.toInt ∧ h = h0 ∧ L = []) [] := by
  refine Wk.enter pn_Math_max (fun p e s m below meth c T0 k X0 e0 => ?_)
  refine (Wk.Ends.cast (ef_max m a b) ?_)
  refine Wk.iload_n k X0 d_Math_max_0 rfl 1 rfl ?_
  refine Wk.iload_n k X0 d_Math_max_1 rfl 2 rfl ?_
  refine Wk.icmp_lt k X0 d_Math_max_2 (by decide) 9 5 (by decide) rfl (fun hc2 => ?_) (fun hc2 => ?_)
  · refine Wk.iload_n k X0 d_Math_max_9 rfl 10 rfl ?_
    exact Wk.ret_int k X0 rfl d_Math_max_10 (by decide) (by decide) ⟨_, rfl, by rw [Int32.lt_iff_toInt_lt] at hc2; omega, e0, rfl⟩
  · refine Wk.iload_n k X0 d_Math_max_5 rfl 6 rfl ?_
    refine Wk.goto k X0 d_Math_max_6 (by decide) 10 (by decide) ?_
    exact Wk.ret_int k X0 rfl d_Math_max_10 (by decide) (by decide) ⟨_, rfl, by rw [Int32.lt_iff_toInt_lt] at hc2; omega, e0, rfl⟩
theorem d_Arrays_fill_0 : decode jdk_65_method_103_code 0 = .ok (.iconst 0, 1) := by decide +kernel
theorem d_Arrays_fill_1 : decode jdk_65_method_103_code 1 = .ok (.istore_n 2, 1) := by decide +kernel
theorem d_Arrays_fill_2 : decode jdk_65_method_103_code 2 = .ok (.aload_n 0, 1) := by decide +kernel
theorem d_Arrays_fill_3 : decode jdk_65_method_103_code 3 = .ok (.arraylength, 1) := by decide +kernel
theorem d_Arrays_fill_4 : decode jdk_65_method_103_code 4 = .ok (.istore_n 3, 1) := by decide +kernel
theorem d_Arrays_fill_5 : decode jdk_65_method_103_code 5 = .ok (.iload_n 2, 1) := by decide +kernel
theorem d_Arrays_fill_6 : decode jdk_65_method_103_code 6 = .ok (.iload_n 3, 1) := by decide +kernel
theorem d_Arrays_fill_7 : decode jdk_65_method_103_code 7 = .ok (.if_icmp .ge 13, 3) := by decide +kernel
theorem d_Arrays_fill_10 : decode jdk_65_method_103_code 10 = .ok (.aload_n 0, 1) := by decide +kernel
theorem d_Arrays_fill_11 : decode jdk_65_method_103_code 11 = .ok (.iload_n 2, 1) := by decide +kernel
theorem d_Arrays_fill_12 : decode jdk_65_method_103_code 12 = .ok (.iload_n 1, 1) := by decide +kernel
theorem d_Arrays_fill_13 : decode jdk_65_method_103_code 13 = .ok (.iastore, 1) := by decide +kernel
theorem d_Arrays_fill_14 : decode jdk_65_method_103_code 14 = .ok (.iinc 2 1, 3) := by decide +kernel
theorem d_Arrays_fill_17 : decode jdk_65_method_103_code 17 = .ok (.goto (-12), 3) := by decide +kernel
theorem d_Arrays_fill_20 : decode jdk_65_method_103_code 20 = .ok (.return_, 1) := by decide +kernel
theorem pn_Arrays_fill : plainFor (⟨"java/util/Arrays", "fill", "([II)V"⟩ : MethodName) = true := plainFor_of_name (by first | (simp [plainName, overriddenIn, x]; done) | decide +kernel)
theorem pd_Arrays_fill : parseMethodDescriptor "([II)V" = some ⟨[(.array .int), .int], none⟩ := by decide +kernel
set_option maxRecDepth 65536 in
set_option maxHeartbeats 40000000 in
theorem fill_5 {p : Program} {l : Launch} {e : Env} {s : State} {m : MethodId} {args : Array Value} {below : List Frame} {meth : Method} {c : Code} {Z : State} {a0 : Array Value} {h0 : Heap} {n0 : Nat} (hw : ∀ d ∈ tables_1, d.before a0 Z = true) (k : Wk.K p s m meth c Z (⟨"java/util/Arrays", "fill", "([II)V"⟩ : MethodName) jdk_65_method_103_code 4 none) (a : Addr) (w : Int32) (n : Nat) (xs : List Int32) (hl : xs.length = n) (hn : n < 1000) (g1 : n0 ≤ a) :
    ∀ (d i : Nat), i + d = n → ∀ (T0 : State) (h1 : Heap) (locs : List Loc), Stand p l e ({ frames := 0, cells := 0, slots := 0, locals := 0 } : Room) s m args below meth c T0 locs 0 0 → T0.heap = h1 → Keep h0 h1 [a] → Fr n0 locs → Wk.Arl Z h1 a .int ((own_fl xs w i).map Value.int) → Wk.Ends p e s below ({ frames := 0, cells := 0, slots := 0, locals := 0 } : Room) (fun r h L => r = none ∧ Fr n0 L ∧ Keep h0 h [a] ∧ Wk.Arl Z h a .int ((own_fl xs w n).map Value.int)) T0 (mkF m 5 #[.val (.ref a), .val (.int w), .val (.int (Int32.ofNat i)), .val (.int (Int32.ofNat n))] []) := by
  intro d
  induction d with
  | zero =>
    intro i hd T0 h1 locs X0 e0 K1 N1 A1
    obtain rfl : i = n := by omega
    refine Wk.iload_n k X0 d_Arrays_fill_5 rfl 6 rfl ?_
    refine Wk.iload_n k X0 d_Arrays_fill_6 rfl 7 rfl ?_
    refine Wk.icmp_ge k X0 d_Arrays_fill_7 (by decide) 20 10 (by decide) rfl (fun hc7 => ?_) (fun hc7 => ?_)
    · refine Wk.ret_void k X0 rfl d_Arrays_fill_20 (by decide) (by decide) ?_
      rw [e0]
      exact ⟨rfl, N1, K1, A1⟩
    · exact absurd hc7 Int32.lt_irrefl
  | succ d ih =>
    intro i hd T0 h1 locs X0 e0 K1 N1 A1
    refine Wk.iload_n k X0 d_Arrays_fill_5 rfl 6 rfl ?_
    refine Wk.iload_n k X0 d_Arrays_fill_6 rfl 7 rfl ?_
    refine Wk.icmp_ge k X0 d_Arrays_fill_7 (by decide) 20 10 (by decide) rfl (fun hc7 => ?_) (fun hc7 => ?_)
    · exact absurd ((own_ltN (by omega) (by omega)).mpr (by omega)) hc7
    · refine Wk.aload_n k X0 d_Arrays_fill_10 rfl rfl 11 rfl ?_
      refine Wk.iload_n k X0 d_Arrays_fill_11 rfl 12 rfl ?_
      refine Wk.iload_n k X0 d_Arrays_fill_12 rfl 13 rfl ?_
      refine Wk.iastore k X0 (x := w) d_Arrays_fill_13 e0 A1 i (own_oN (by omega)) (by rw [own_fl_len]; omega) 14 rfl fun T101 h101 X101 e101 W101 A101 => ?_
      have N102 := Fr.snoc X101 N1 g1
      have K103 := K1.wr W101 (Or.inl (List.mem_of_getElem? (i := 0) rfl))
      refine Wk.iinc k X101 d_Arrays_fill_14 rfl #[.val (.ref a), .val (.int w), .val (.int ((Int32.ofNat i) + (1 : Int32))), .val (.int (Int32.ofNat n))] rfl 17 rfl ?_
      refine Wk.goto k X101 d_Arrays_fill_17 (by decide) 5 (by decide) ?_
      rw [own_inc32]
      exact ih (i + 1) (by omega) _ _ _ X101 e101 K103 N102 A101
theorem ef_fill (m : MethodId) (a : Addr) (w : Int32) : entryFrame m #[(.ref a), (.int w)] 4 = mkF m 0 #[.val (.ref a), .val (.int w), .unset, .unset] [] := by first | (simp [entryFrame, mkF, argsToLocals, Value.category]; done) | rfl
set_option maxRecDepth 65536 in
set_option maxHeartbeats 40000000 in
theorem rm_fill (l : Launch) (Z : State) (a0 : Array Value) (hw : ∀ d ∈ tables_1, d.before a0 Z = true) (a : Addr) (w : Int32) (xs : List Int32) (h0 : Heap) (n0 : Nat) (hn : xs.length < 1000) (g1 : n0 ≤ a) (A1 : Wk.Arl Z h0 a .int (xs.map Value.int)) : Wk.Met l (⟨"java/util/Arrays", "fill", "([II)V"⟩ : MethodName) jdk_65_method_103_code 4 none ({ frames := 0, cells := 0, slots := 0, locals := 0 } : Room) #[(.ref a), (.int w)] Z h0 (fun r h L => r = none ∧ Fr n0 L ∧ Keep h0 h [a] ∧ Wk.Arl Z h a .int ((List.replicate xs.length w).map Value.int)) [] := by
  refine Wk.enter pn_Arrays_fill (fun p e s m below meth c T0 k X0 e0 => ?_)
  refine (Wk.Ends.cast (ef_fill m a w) ?_)
  refine Wk.iconst k X0 d_Arrays_fill_0 (0 : Int32) rfl 1 rfl ?_
  refine Wk.istore_n k X0 d_Arrays_fill_1 #[.val (.ref a), .val (.int w), .val (.int (0 : Int32)), .unset] rfl 2 rfl ?_
  refine Wk.aload_n k X0 d_Arrays_fill_2 rfl rfl 3 rfl ?_
  refine Wk.arraylength k X0 d_Arrays_fill_3 e0 A1 (Int32.ofNat xs.length) (by rw [List.length_map]; exact own_oN (by omega)) 4 rfl ?_
  refine Wk.istore_n k X0 d_Arrays_fill_4 #[.val (.ref a), .val (.int w), .val (.int (0 : Int32)), .val (.int (Int32.ofNat xs.length))] rfl 5 rfl ?_
  have q := fill_5 hw k a w xs.length xs rfl hn g1 xs.length 0 (by omega) _ _ _ X0 e0 (Keep.refl _ _) (Fr.nil _) A1
  rw [own_fl_all] at q
  exact q
theorem d_BestBlocksNextPinLaw_before_0 : decode method_2_code 0 = .ok (.iload_n 3, 1) := by decide +kernel
theorem d_BestBlocksNextPinLaw_before_1 : decode method_2_code 1 = .ok (.iload_n 1, 1) := by decide +kernel
theorem d_BestBlocksNextPinLaw_before_2 : decode method_2_code 2 = .ok (.if_icmp .ge 8, 3) := by decide +kernel
theorem d_BestBlocksNextPinLaw_before_5 : decode method_2_code 5 = .ok (.iload_n 3, 1) := by decide +kernel
theorem d_BestBlocksNextPinLaw_before_6 : decode method_2_code 6 = .ok (.iload_n 2, 1) := by decide +kernel
theorem d_BestBlocksNextPinLaw_before_7 : decode method_2_code 7 = .ok (.if_icmp .ne 5, 3) := by decide +kernel
theorem d_BestBlocksNextPinLaw_before_10 : decode method_2_code 10 = .ok (.iconst 0, 1) := by decide +kernel
theorem d_BestBlocksNextPinLaw_before_11 : decode method_2_code 11 = .ok (.ireturn, 1) := by decide +kernel
theorem d_BestBlocksNextPinLaw_before_12 : decode method_2_code 12 = .ok (.aload_n 0, 1) := by decide +kernel
theorem d_BestBlocksNextPinLaw_before_13 : decode method_2_code 13 = .ok (.iload_n 3, 1) := by decide +kernel
theorem d_BestBlocksNextPinLaw_before_14 : decode method_2_code 14 = .ok (.iaload, 1) := by decide +kernel
theorem d_BestBlocksNextPinLaw_before_15 : decode method_2_code 15 = .ok (.aload_n 0, 1) := by decide +kernel
theorem d_BestBlocksNextPinLaw_before_16 : decode method_2_code 16 = .ok (.iload_n 2, 1) := by decide +kernel
theorem d_BestBlocksNextPinLaw_before_17 : decode method_2_code 17 = .ok (.iaload, 1) := by decide +kernel
theorem d_BestBlocksNextPinLaw_before_18 : decode method_2_code 18 = .ok (.if_icmp .ge 5, 3) := by decide +kernel
theorem d_BestBlocksNextPinLaw_before_21 : decode method_2_code 21 = .ok (.iconst 1, 1) := by decide +kernel
theorem d_BestBlocksNextPinLaw_before_22 : decode method_2_code 22 = .ok (.ireturn, 1) := by decide +kernel
theorem d_BestBlocksNextPinLaw_before_23 : decode method_2_code 23 = .ok (.aload_n 0, 1) := by decide +kernel
theorem d_BestBlocksNextPinLaw_before_24 : decode method_2_code 24 = .ok (.iload_n 3, 1) := by decide +kernel
theorem d_BestBlocksNextPinLaw_before_25 : decode method_2_code 25 = .ok (.iaload, 1) := by decide +kernel
theorem d_BestBlocksNextPinLaw_before_26 : decode method_2_code 26 = .ok (.aload_n 0, 1) := by decide +kernel
theorem d_BestBlocksNextPinLaw_before_27 : decode method_2_code 27 = .ok (.iload_n 2, 1) := by decide +kernel
theorem d_BestBlocksNextPinLaw_before_28 : decode method_2_code 28 = .ok (.iaload, 1) := by decide +kernel
theorem d_BestBlocksNextPinLaw_before_29 : decode method_2_code 29 = .ok (.if_icmp .ne 10, 3) := by decide +kernel
theorem d_BestBlocksNextPinLaw_before_32 : decode method_2_code 32 = .ok (.iload_n 3, 1) := by decide +kernel
theorem d_BestBlocksNextPinLaw_before_33 : decode method_2_code 33 = .ok (.iload_n 2, 1) := by decide +kernel
theorem d_BestBlocksNextPinLaw_before_34 : decode method_2_code 34 = .ok (.if_icmp .ge 5, 3) := by decide +kernel
theorem d_BestBlocksNextPinLaw_before_37 : decode method_2_code 37 = .ok (.iconst 1, 1) := by decide +kernel
theorem d_BestBlocksNextPinLaw_before_38 : decode method_2_code 38 = .ok (.ireturn, 1) := by decide +kernel
theorem d_BestBlocksNextPinLaw_before_39 : decode method_2_code 39 = .ok (.iconst 0, 1) := by decide +kernel
theorem d_BestBlocksNextPinLaw_before_40 : decode method_2_code 40 = .ok (.ireturn, 1) := by decide +kernel
theorem pn_BestBlocksNextPinLaw_before : plainFor (⟨"com/example/quern/quern/BestBlocksNextPinLaw", "before", "([IIII)I"⟩ : MethodName) = true := plainFor_of_name (by first | (simp [plainName, overriddenIn, x]; done) | decide +kernel)
theorem pd_BestBlocksNextPinLaw_before : parseMethodDescriptor "([IIII)I" = some ⟨[(.array .int), .int, .int, .int], (some .int)⟩ := by decide +kernel
theorem ef_bef (m : MethodId) (u : Addr) (n i j : Int32) : entryFrame m #[(.ref u), (.int n), (.int i), (.int j)] 4 = mkF m 0 #[.val (.ref u), .val (.int n), .val (.int i), .val (.int j)] [] := by first | (simp [entryFrame, mkF, argsToLocals, Value.category]; done) | rfl
set_option maxRecDepth 65536 in
set_option maxHeartbeats 40000000 in
theorem rm_bef (l : Launch) (Z : State) (a0 : Array Value) (hw : ∀ d ∈ tables_1, d.before a0 Z = true) (u : Addr) (n i j : Int32) (U : List Int32) (nn ii jj : Nat) (h0 : Heap) (hU : U.length = 4) (hn : n.toInt = (nn : Int)) (hi : i.toInt = (ii : Int)) (hj : j.toInt = (jj : Int)) (hii : ii < 4) (hjj : jj < 4) (A0 : Wk.Arl Z h0 u .int (U.map Value.int)) : Wk.Met l (⟨"com/example/quern/quern/BestBlocksNextPinLaw", "before", "([IIII)I"⟩ : MethodName) method_2_code 4 (some .int) ({ frames := 0, cells := 0, slots := 0, locals := 0 } : Room) #[(.ref u), (.int n), (.int i), (.int j)] Z h0 (fun r h L => r = some (.int (if jj < nn ∧ own_lt U jj ii then (1 : Int32) else 0)) ∧ h = h0 ∧ L = []) [] := by
  refine Wk.enter pn_BestBlocksNextPinLaw_before (fun p e s m below meth c T0 k X0 e0 => ?_)
  refine (Wk.Ends.cast (ef_bef m u n i j) ?_)
  refine Wk.iload_n k X0 d_BestBlocksNextPinLaw_before_0 rfl 1 rfl ?_
  refine Wk.iload_n k X0 d_BestBlocksNextPinLaw_before_1 rfl 2 rfl ?_
  refine Wk.icmp_ge k X0 d_BestBlocksNextPinLaw_before_2 (by decide) 10 5 (by decide) rfl (fun hc2 => ?_) (fun hc2 => ?_)
  · refine Wk.iconst k X0 d_BestBlocksNextPinLaw_before_10 (0 : Int32) rfl 11 rfl ?_
    exact Wk.ret_int k X0 rfl d_BestBlocksNextPinLaw_before_11 (by decide) (by decide) ⟨(congrArg (fun z => some (Value.int z)) (own_bf0 fun z => hc2 ((own_lt32 hj hn).mpr z.1))), e0, rfl⟩
  · refine Wk.iload_n k X0 d_BestBlocksNextPinLaw_before_5 rfl 6 rfl ?_
    refine Wk.iload_n k X0 d_BestBlocksNextPinLaw_before_6 rfl 7 rfl ?_
    refine Wk.icmp_ne k X0 d_BestBlocksNextPinLaw_before_7 (by decide) 12 10 (by decide) rfl (fun hc7 => ?_) (fun hc7 => ?_)
    · refine Wk.aload_n k X0 d_BestBlocksNextPinLaw_before_12 rfl rfl 13 rfl ?_
      refine Wk.iload_n k X0 d_BestBlocksNextPinLaw_before_13 rfl 14 rfl ?_
      refine Wk.iaload k X0 d_BestBlocksNextPinLaw_before_14 e0 A0 jj hj (U.getD jj 0) (own_gD (by omega)) 15 rfl ?_
      refine Wk.aload_n k X0 d_BestBlocksNextPinLaw_before_15 rfl rfl 16 rfl ?_
      refine Wk.iload_n k X0 d_BestBlocksNextPinLaw_before_16 rfl 17 rfl ?_
      refine Wk.iaload k X0 d_BestBlocksNextPinLaw_before_17 e0 A0 ii hi (U.getD ii 0) (own_gD (by omega)) 18 rfl ?_
      refine Wk.icmp_ge k X0 d_BestBlocksNextPinLaw_before_18 (by decide) 23 21 (by decide) rfl (fun hc18 => ?_) (fun hc18 => ?_)
      · refine Wk.aload_n k X0 d_BestBlocksNextPinLaw_before_23 rfl rfl 24 rfl ?_
        refine Wk.iload_n k X0 d_BestBlocksNextPinLaw_before_24 rfl 25 rfl ?_
        refine Wk.iaload k X0 d_BestBlocksNextPinLaw_before_25 e0 A0 jj hj (U.getD jj 0) (own_gD (by omega)) 26 rfl ?_
        refine Wk.aload_n k X0 d_BestBlocksNextPinLaw_before_26 rfl rfl 27 rfl ?_
        refine Wk.iload_n k X0 d_BestBlocksNextPinLaw_before_27 rfl 28 rfl ?_
        refine Wk.iaload k X0 d_BestBlocksNextPinLaw_before_28 e0 A0 ii hi (U.getD ii 0) (own_gD (by omega)) 29 rfl ?_
        refine Wk.icmp_ne k X0 d_BestBlocksNextPinLaw_before_29 (by decide) 39 32 (by decide) rfl (fun hc29 => ?_) (fun hc29 => ?_)
        · refine Wk.iconst k X0 d_BestBlocksNextPinLaw_before_39 (0 : Int32) rfl 40 rfl ?_
          exact Wk.ret_int k X0 rfl d_BestBlocksNextPinLaw_before_40 (by decide) (by decide) ⟨(congrArg (fun z => some (Value.int z)) (own_bf0 fun z => z.2.elim (fun q => hc18 (own_ult.mpr q)) fun q => hc29 (own_ueq.mpr q.1))), e0, rfl⟩
        · refine Wk.iload_n k X0 d_BestBlocksNextPinLaw_before_32 rfl 33 rfl ?_
          refine Wk.iload_n k X0 d_BestBlocksNextPinLaw_before_33 rfl 34 rfl ?_
          refine Wk.icmp_ge k X0 d_BestBlocksNextPinLaw_before_34 (by decide) 39 37 (by decide) rfl (fun hc34 => ?_) (fun hc34 => ?_)
          · refine Wk.iconst k X0 d_BestBlocksNextPinLaw_before_39 (0 : Int32) rfl 40 rfl ?_
            exact Wk.ret_int k X0 rfl d_BestBlocksNextPinLaw_before_40 (by decide) (by decide) ⟨(congrArg (fun z => some (Value.int z)) (own_bf0 fun z => z.2.elim (fun q => hc18 (own_ult.mpr q)) fun q => hc34 ((own_lt32 hj hi).mpr q.2))), e0, rfl⟩
          · refine Wk.iconst k X0 d_BestBlocksNextPinLaw_before_37 (1 : Int32) rfl 38 rfl ?_
            exact Wk.ret_int k X0 rfl d_BestBlocksNextPinLaw_before_38 (by decide) (by decide) ⟨(congrArg (fun z => some (Value.int z)) (own_bf1 ⟨(own_lt32 hj hn).mp hc2, Or.inr ⟨own_ueq.mp hc29, (own_lt32 hj hi).mp hc34⟩⟩)), e0, rfl⟩
      · refine Wk.iconst k X0 d_BestBlocksNextPinLaw_before_21 (1 : Int32) rfl 22 rfl ?_
        exact Wk.ret_int k X0 rfl d_BestBlocksNextPinLaw_before_22 (by decide) (by decide) ⟨(congrArg (fun z => some (Value.int z)) (own_bf1 ⟨(own_lt32 hj hn).mp hc2, Or.inl (own_ult.mp hc18)⟩)), e0, rfl⟩
    · refine Wk.iconst k X0 d_BestBlocksNextPinLaw_before_10 (0 : Int32) rfl 11 rfl ?_
      exact Wk.ret_int k X0 rfl d_BestBlocksNextPinLaw_before_11 (by decide) (by decide) ⟨(congrArg (fun z => some (Value.int z)) (own_bf0 fun z => own_lt_irr U ii (by have q := z.2; rw [(own_eq32 hj hi).mp hc7] at q; exact q))), e0, rfl⟩
theorem d_BestBlocksNextPinLaw_rank_0 : decode method_3_code 0 = .ok (.aload_n 0, 1) := by decide +kernel
theorem d_BestBlocksNextPinLaw_rank_1 : decode method_3_code 1 = .ok (.iload_n 1, 1) := by decide +kernel
theorem d_BestBlocksNextPinLaw_rank_2 : decode method_3_code 2 = .ok (.iload_n 2, 1) := by decide +kernel
theorem d_BestBlocksNextPinLaw_rank_3 : decode method_3_code 3 = .ok (.iconst 0, 1) := by decide +kernel
theorem d_BestBlocksNextPinLaw_rank_4 : decode method_3_code 4 = .ok (.invokestatic 7, 3) := by decide +kernel
theorem d_BestBlocksNextPinLaw_rank_7 : decode method_3_code 7 = .ok (.aload_n 0, 1) := by decide +kernel
theorem d_BestBlocksNextPinLaw_rank_8 : decode method_3_code 8 = .ok (.iload_n 1, 1) := by decide +kernel
theorem d_BestBlocksNextPinLaw_rank_9 : decode method_3_code 9 = .ok (.iload_n 2, 1) := by decide +kernel
theorem d_BestBlocksNextPinLaw_rank_10 : decode method_3_code 10 = .ok (.iconst 1, 1) := by decide +kernel
theorem d_BestBlocksNextPinLaw_rank_11 : decode method_3_code 11 = .ok (.invokestatic 7, 3) := by decide +kernel
theorem d_BestBlocksNextPinLaw_rank_14 : decode method_3_code 14 = .ok (.iadd, 1) := by decide +kernel
theorem d_BestBlocksNextPinLaw_rank_15 : decode method_3_code 15 = .ok (.aload_n 0, 1) := by decide +kernel
theorem d_BestBlocksNextPinLaw_rank_16 : decode method_3_code 16 = .ok (.iload_n 1, 1) := by decide +kernel
theorem d_BestBlocksNextPinLaw_rank_17 : decode method_3_code 17 = .ok (.iload_n 2, 1) := by decide +kernel
theorem d_BestBlocksNextPinLaw_rank_18 : decode method_3_code 18 = .ok (.iconst 2, 1) := by decide +kernel
theorem d_BestBlocksNextPinLaw_rank_19 : decode method_3_code 19 = .ok (.invokestatic 7, 3) := by decide +kernel
theorem d_BestBlocksNextPinLaw_rank_22 : decode method_3_code 22 = .ok (.iadd, 1) := by decide +kernel
theorem d_BestBlocksNextPinLaw_rank_23 : decode method_3_code 23 = .ok (.aload_n 0, 1) := by decide +kernel
theorem d_BestBlocksNextPinLaw_rank_24 : decode method_3_code 24 = .ok (.iload_n 1, 1) := by decide +kernel
theorem d_BestBlocksNextPinLaw_rank_25 : decode method_3_code 25 = .ok (.iload_n 2, 1) := by decide +kernel
theorem d_BestBlocksNextPinLaw_rank_26 : decode method_3_code 26 = .ok (.iconst 3, 1) := by decide +kernel
theorem d_BestBlocksNextPinLaw_rank_27 : decode method_3_code 27 = .ok (.invokestatic 7, 3) := by decide +kernel
theorem d_BestBlocksNextPinLaw_rank_30 : decode method_3_code 30 = .ok (.iadd, 1) := by decide +kernel
theorem d_BestBlocksNextPinLaw_rank_31 : decode method_3_code 31 = .ok (.ireturn, 1) := by decide +kernel
theorem pn_BestBlocksNextPinLaw_rank : plainFor (⟨"com/example/quern/quern/BestBlocksNextPinLaw", "rank", "([III)I"⟩ : MethodName) = true := plainFor_of_name (by first | (simp [plainName, overriddenIn, x]; done) | decide +kernel)
theorem pd_BestBlocksNextPinLaw_rank : parseMethodDescriptor "([III)I" = some ⟨[(.array .int), .int, .int], (some .int)⟩ := by decide +kernel
theorem ef_rnk (m : MethodId) (u : Addr) (n i : Int32) : entryFrame m #[(.ref u), (.int n), (.int i)] 3 = mkF m 0 #[.val (.ref u), .val (.int n), .val (.int i)] [] := by first | (simp [entryFrame, mkF, argsToLocals, Value.category]; done) | rfl
set_option maxRecDepth 65536 in
set_option maxHeartbeats 40000000 in
theorem rm_rnk (l : Launch) (Z : State) (a0 : Array Value) (hw : ∀ d ∈ tables_1, d.before a0 Z = true) (u : Addr) (n i : Int32) (U : List Int32) (nn ii : Nat) (h0 : Heap) (hU : U.length = 4) (hnn : nn ≤ 4) (hn : n.toInt = (nn : Int)) (hi : i.toInt = (ii : Int)) (hii : ii < 4) (A0 : Wk.Arl Z h0 u .int (U.map Value.int)) : Wk.Met l (⟨"com/example/quern/quern/BestBlocksNextPinLaw", "rank", "([III)I"⟩ : MethodName) method_3_code 3 (some .int) ({ frames := 1, cells := 0, slots := 0, locals := 16 } : Room) #[(.ref u), (.int n), (.int i)] Z h0 (fun r h L => ∃ z : Int32, r = some (.int z) ∧ z.toInt = (own_rk U nn ii : Int) ∧ h = h0 ∧ L = []) [] := by
  refine Wk.enter pn_BestBlocksNextPinLaw_rank (fun p e s m below meth c T0 k X0 e0 => ?_)
  refine (Wk.Ends.cast (ef_rnk m u n i) ?_)
  refine Wk.aload_n k X0 d_BestBlocksNextPinLaw_rank_0 rfl rfl 1 rfl ?_
  refine Wk.iload_n k X0 d_BestBlocksNextPinLaw_rank_1 rfl 2 rfl ?_
  refine Wk.iload_n k X0 d_BestBlocksNextPinLaw_rank_2 rfl 3 rfl ?_
  refine Wk.iconst k X0 d_BestBlocksNextPinLaw_rank_3 (0 : Int32) rfl 4 rfl ?_
  refine Wk.callS k X0 [(.ref u), (.int n), (.int i), (.int (0 : Int32))] [] d_BestBlocksNextPinLaw_rank_4 (rm_bef l Z a0 hw u n i (0 : Int32) U nn ii 0 _ hU hn hi rfl hii (by decide) A0) e0 (Wk.w hw 40 rfl) (Wk.w hw 41 rfl) (Wk.w hw 5 rfl) (Wk.w hw 42 rfl) (by decide) rfl pd_BestBlocksNextPinLaw_before rfl rfl (Nat.le_of_ble_eq_true rfl) (Nat.le_of_ble_eq_true rfl) (Nat.le_of_ble_eq_true rfl) (Nat.le_of_ble_eq_true rfl) 7 rfl fun T1 v1 L1 X1 hQ1 => ?_
  obtain ⟨rfl, e1, rfl⟩ := hQ1
  rw [List.append_nil] at X1
  show Wk.Ends _ _ _ _ _ _ _ (mkF m 7 _ [(.int (if 0 < nn ∧ own_lt U 0 ii then (1 : Int32) else 0))])
  refine Wk.aload_n k X1 d_BestBlocksNextPinLaw_rank_7 rfl rfl 8 rfl ?_
  refine Wk.iload_n k X1 d_BestBlocksNextPinLaw_rank_8 rfl 9 rfl ?_
  refine Wk.iload_n k X1 d_BestBlocksNextPinLaw_rank_9 rfl 10 rfl ?_
  refine Wk.iconst k X1 d_BestBlocksNextPinLaw_rank_10 (1 : Int32) rfl 11 rfl ?_
  refine Wk.callS k X1 [(.ref u), (.int n), (.int i), (.int (1 : Int32))] [(.int (if 0 < nn ∧ own_lt U 0 ii then (1 : Int32) else 0))] d_BestBlocksNextPinLaw_rank_11 (rm_bef l Z a0 hw u n i (1 : Int32) U nn ii 1 _ hU hn hi rfl hii (by decide) A0) e1 (Wk.w hw 40 rfl) (Wk.w hw 41 rfl) (Wk.w hw 5 rfl) (Wk.w hw 42 rfl) (by decide) rfl pd_BestBlocksNextPinLaw_before rfl rfl (Nat.le_of_ble_eq_true rfl) (Nat.le_of_ble_eq_true rfl) (Nat.le_of_ble_eq_true rfl) (Nat.le_of_ble_eq_true rfl) 14 rfl fun T2 v2 L2 X2 hQ2 => ?_
  obtain ⟨rfl, e2, rfl⟩ := hQ2
  rw [List.append_nil] at X2
  show Wk.Ends _ _ _ _ _ _ _ (mkF m 14 _ [(.int (if 1 < nn ∧ own_lt U 1 ii then (1 : Int32) else 0)), (.int (if 0 < nn ∧ own_lt U 0 ii then (1 : Int32) else 0))])
  refine Wk.iadd k X2 d_BestBlocksNextPinLaw_rank_14 15 rfl ?_
  refine Wk.aload_n k X2 d_BestBlocksNextPinLaw_rank_15 rfl rfl 16 rfl ?_
  refine Wk.iload_n k X2 d_BestBlocksNextPinLaw_rank_16 rfl 17 rfl ?_
  refine Wk.iload_n k X2 d_BestBlocksNextPinLaw_rank_17 rfl 18 rfl ?_
  refine Wk.iconst k X2 d_BestBlocksNextPinLaw_rank_18 (2 : Int32) rfl 19 rfl ?_
  refine Wk.callS k X2 [(.ref u), (.int n), (.int i), (.int (2 : Int32))] [(.int ((if 0 < nn ∧ own_lt U 0 ii then (1 : Int32) else 0) + (if 1 < nn ∧ own_lt U 1 ii then (1 : Int32) else 0)))] d_BestBlocksNextPinLaw_rank_19 (rm_bef l Z a0 hw u n i (2 : Int32) U nn ii 2 _ hU hn hi rfl hii (by decide) A0) e2 (Wk.w hw 40 rfl) (Wk.w hw 41 rfl) (Wk.w hw 5 rfl) (Wk.w hw 42 rfl) (by decide) rfl pd_BestBlocksNextPinLaw_before rfl rfl (Nat.le_of_ble_eq_true rfl) (Nat.le_of_ble_eq_true rfl) (Nat.le_of_ble_eq_true rfl) (Nat.le_of_ble_eq_true rfl) 22 rfl fun T3 v3 L3 X3 hQ3 => ?_
  obtain ⟨rfl, e3, rfl⟩ := hQ3
  rw [List.append_nil] at X3
  show Wk.Ends _ _ _ _ _ _ _ (mkF m 22 _ [(.int (if 2 < nn ∧ own_lt U 2 ii then (1 : Int32) else 0)), (.int ((if 0 < nn ∧ own_lt U 0 ii then (1 : Int32) else 0) + (if 1 < nn ∧ own_lt U 1 ii then (1 : Int32) else 0)))])
  refine Wk.iadd k X3 d_BestBlocksNextPinLaw_rank_22 23 rfl ?_
  refine Wk.aload_n k X3 d_BestBlocksNextPinLaw_rank_23 rfl rfl 24 rfl ?_
  refine Wk.iload_n k X3 d_BestBlocksNextPinLaw_rank_24 rfl 25 rfl ?_
  refine Wk.iload_n k X3 d_BestBlocksNextPinLaw_rank_25 rfl 26 rfl ?_
  refine Wk.iconst k X3 d_BestBlocksNextPinLaw_rank_26 (3 : Int32) rfl 27 rfl ?_
  refine Wk.callS k X3 [(.ref u), (.int n), (.int i), (.int (3 : Int32))] [(.int (((if 0 < nn ∧ own_lt U 0 ii then (1 : Int32) else 0) + (if 1 < nn ∧ own_lt U 1 ii then (1 : Int32) else 0)) + (if 2 < nn ∧ own_lt U 2 ii then (1 : Int32) else 0)))] d_BestBlocksNextPinLaw_rank_27 (rm_bef l Z a0 hw u n i (3 : Int32) U nn ii 3 _ hU hn hi rfl hii (by decide) A0) e3 (Wk.w hw 40 rfl) (Wk.w hw 41 rfl) (Wk.w hw 5 rfl) (Wk.w hw 42 rfl) (by decide) rfl pd_BestBlocksNextPinLaw_before rfl rfl (Nat.le_of_ble_eq_true rfl) (Nat.le_of_ble_eq_true rfl) (Nat.le_of_ble_eq_true rfl) (Nat.le_of_ble_eq_true rfl) 30 rfl fun T4 v4 L4 X4 hQ4 => ?_
  obtain ⟨rfl, e4, rfl⟩ := hQ4
  rw [List.append_nil] at X4
  show Wk.Ends _ _ _ _ _ _ _ (mkF m 30 _ [(.int (if 3 < nn ∧ own_lt U 3 ii then (1 : Int32) else 0)), (.int (((if 0 < nn ∧ own_lt U 0 ii then (1 : Int32) else 0) + (if 1 < nn ∧ own_lt U 1 ii then (1 : Int32) else 0)) + (if 2 < nn ∧ own_lt U 2 ii then (1 : Int32) else 0)))])
  refine Wk.iadd k X4 d_BestBlocksNextPinLaw_rank_30 31 rfl ?_
  exact Wk.ret_int k X4 rfl d_BestBlocksNextPinLaw_rank_31 (by decide) (by decide) ⟨_, rfl, own_rank4 hnn, e4, rfl⟩
theorem d_BestBlocksNextPinLaw_place_0 : decode method_4_code 0 = .ok (.iload_n 3, 1) := by decide +kernel
theorem d_BestBlocksNextPinLaw_place_1 : decode method_4_code 1 = .ok (.iload_n 2, 1) := by decide +kernel
theorem d_BestBlocksNextPinLaw_place_2 : decode method_4_code 2 = .ok (.if_icmp .ge 12, 3) := by decide +kernel
theorem d_BestBlocksNextPinLaw_place_5 : decode method_4_code 5 = .ok (.aload_n 0, 1) := by decide +kernel
theorem d_BestBlocksNextPinLaw_place_6 : decode method_4_code 6 = .ok (.aload_n 1, 1) := by decide +kernel
theorem d_BestBlocksNextPinLaw_place_7 : decode method_4_code 7 = .ok (.iload_n 2, 1) := by decide +kernel
theorem d_BestBlocksNextPinLaw_place_8 : decode method_4_code 8 = .ok (.iload_n 3, 1) := by decide +kernel
theorem d_BestBlocksNextPinLaw_place_9 : decode method_4_code 9 = .ok (.invokestatic 13, 3) := by decide +kernel
theorem d_BestBlocksNextPinLaw_place_12 : decode method_4_code 12 = .ok (.iload_n 3, 1) := by decide +kernel
theorem d_BestBlocksNextPinLaw_place_13 : decode method_4_code 13 = .ok (.iastore, 1) := by decide +kernel
theorem d_BestBlocksNextPinLaw_place_14 : decode method_4_code 14 = .ok (.return_, 1) := by decide +kernel
theorem pn_BestBlocksNextPinLaw_place : plainFor (⟨"com/example/quern/quern/BestBlocksNextPinLaw", "place", "([I[III)V"⟩ : MethodName) = true := plainFor_of_name (by first | (simp [plainName, overriddenIn, x]; done) | decide +kernel)
theorem pd_BestBlocksNextPinLaw_place : parseMethodDescriptor "([I[III)V" = some ⟨[(.array .int), (.array .int), .int, .int], none⟩ := by decide +kernel
theorem ef_pla (m : MethodId) (ea u : Addr) (n i : Int32) : entryFrame m #[(.ref ea), (.ref u), (.int n), (.int i)] 4 = mkF m 0 #[.val (.ref ea), .val (.ref u), .val (.int n), .val (.int i)] [] := by first | (simp [entryFrame, mkF, argsToLocals, Value.category]; done) | rfl
set_option maxRecDepth 65536 in
set_option maxHeartbeats 40000000 in
theorem rm_pla (l : Launch) (Z : State) (a0 : Array Value) (hw : ∀ d ∈ tables_1, d.before a0 Z = true) (ea u : Addr) (n : Int32) (U E : List Int32) (nn ii : Nat) (h0 : Heap) (n0 : Nat) (hU : U.length = 4) (hE : E.length = 6) (hnn : nn ≤ 4) (hn : n.toInt = (nn : Int)) (hii : ii < 4) (hne : ea ≠ u) (g1 : n0 ≤ ea) (A0 : Wk.Arl Z h0 u .int (U.map Value.int)) (A1 : Wk.Arl Z h0 ea .int (E.map Value.int)) : Wk.Met l (⟨"com/example/quern/quern/BestBlocksNextPinLaw", "place", "([I[III)V"⟩ : MethodName) method_4_code 4 none ({ frames := 2, cells := 0, slots := 0, locals := 31 } : Room) #[(.ref ea), (.ref u), (.int n), (.int (Int32.ofNat ii))] Z h0 (fun r h L => r = none ∧ Fr n0 L ∧ Keep h0 h [ea] ∧ Wk.Arl Z h ea .int ((own_pl E U nn ii).map Value.int)) [] := by
  refine Wk.enter pn_BestBlocksNextPinLaw_place (fun p e s m below meth c T0 k X0 e0 => ?_)
  refine (Wk.Ends.cast (ef_pla m ea u n _) ?_)
  have hi : (Int32.ofNat ii).toInt = (ii : Int) := own_oN (by omega)
  refine Wk.iload_n k X0 d_BestBlocksNextPinLaw_place_0 rfl 1 rfl ?_
  refine Wk.iload_n k X0 d_BestBlocksNextPinLaw_place_1 rfl 2 rfl ?_
  refine Wk.icmp_ge k X0 d_BestBlocksNextPinLaw_place_2 (by decide) 14 5 (by decide) rfl (fun hc2 => ?_) (fun hc2 => ?_)
  · refine Wk.ret_void k X0 rfl d_BestBlocksNextPinLaw_place_14 (by decide) (by decide) ?_
    rw [e0]
    exact ⟨rfl, (Fr.nil n0), (Keep.refl h0 [ea]), by unfold own_pl; rw [if_neg (fun q => hc2 ((own_lt32 hi hn).mpr q))]; exact A1⟩
  · refine Wk.aload_n k X0 d_BestBlocksNextPinLaw_place_5 rfl rfl 6 rfl ?_
    refine Wk.aload_n k X0 d_BestBlocksNextPinLaw_place_6 rfl rfl 7 rfl ?_
    refine Wk.iload_n k X0 d_BestBlocksNextPinLaw_place_7 rfl 8 rfl ?_
    refine Wk.iload_n k X0 d_BestBlocksNextPinLaw_place_8 rfl 9 rfl ?_
    refine Wk.callS k X0 [(.ref u), (.int n), (.int (Int32.ofNat ii))] [(.ref ea)] d_BestBlocksNextPinLaw_place_9 (rm_rnk l Z a0 hw u n _ U nn ii _ hU hnn hn hi hii A0) e0 (Wk.w hw 37 rfl) (Wk.w hw 38 rfl) (Wk.w hw 5 rfl) (Wk.w hw 39 rfl) (by decide) rfl pd_BestBlocksNextPinLaw_rank rfl rfl (Nat.le_of_ble_eq_true rfl) (Nat.le_of_ble_eq_true rfl) (Nat.le_of_ble_eq_true rfl) (Nat.le_of_ble_eq_true rfl) 12 rfl fun T101 v101 L101 X101 hQ101 => ?_
    obtain ⟨z, rfl, hz, e101, rfl⟩ := hQ101
    rw [List.append_nil] at X101
    show Wk.Ends _ _ _ _ _ _ _ (mkF m 12 _ [(.int z), (.ref ea)])
    refine Wk.iload_n k X101 d_BestBlocksNextPinLaw_place_12 rfl 13 rfl ?_
    refine Wk.iastore k X101 (x := (Int32.ofNat ii)) d_BestBlocksNextPinLaw_place_13 e101 A1 (own_rk U nn ii) hz (by have := own_rk_n (U := U) ((own_lt32 hi hn).mp hc2); omega) 14 rfl fun T102 h102 X102 e102 W102 A102 => ?_
    have N103 := Fr.snoc X102 (Fr.nil n0) g1
    have K104 := (Keep.refl h0 [ea]).wr W102 (Or.inl (List.mem_of_getElem? (i := 0) rfl))
    have f105 := A0.other W102 (Ne.symm hne)
    refine Wk.ret_void k X102 rfl d_BestBlocksNextPinLaw_place_14 (by decide) (by decide) ?_
    rw [e102]
    exact ⟨rfl, N103, K104, by unfold own_pl; rw [if_pos ((own_lt32 hi hn).mp hc2)]; exact A102⟩
theorem own_os7 {z0 z1 z2 z3 z4 z5 z6 : Value} {s7 : Slot} {v : Int32} (h : One s7) : storeLocals #[.val z0, .val z1, .val z2, .val z3, .val z4, .val z5, .val z6, s7] 7 (.int v) = some #[.val z0, .val z1, .val z2, .val z3, .val z4, .val z5, .val z6, .val (.int v)] := by
  rcases h with rfl | ⟨w, rfl, hw⟩
  · rfl
  · cases w <;> first | rfl | (simp [Value.category] at hw)
theorem d_BestBlocks_init_0 : decode prog_65_method_1_code 0 = .ok (.aload_n 0, 1) := by decide +kernel
theorem d_BestBlocks_init_1 : decode prog_65_method_1_code 1 = .ok (.invokespecial 1, 3) := by decide +kernel
theorem d_BestBlocks_init_4 : decode prog_65_method_1_code 4 = .ok (.aload_n 0, 1) := by decide +kernel
theorem d_BestBlocks_init_5 : decode prog_65_method_1_code 5 = .ok (.iconst (-1), 1) := by decide +kernel
theorem d_BestBlocks_init_6 : decode prog_65_method_1_code 6 = .ok (.putfield 7, 3) := by decide +kernel
theorem d_BestBlocks_init_9 : decode prog_65_method_1_code 9 = .ok (.aload_n 0, 1) := by decide +kernel
theorem d_BestBlocks_init_10 : decode prog_65_method_1_code 10 = .ok (.iconst (-1), 1) := by decide +kernel
theorem d_BestBlocks_init_11 : decode prog_65_method_1_code 11 = .ok (.putfield 13, 3) := by decide +kernel
theorem d_BestBlocks_init_14 : decode prog_65_method_1_code 14 = .ok (.sipush 256, 3) := by decide +kernel
theorem d_BestBlocks_init_17 : decode prog_65_method_1_code 17 = .ok (.istore_n 2, 1) := by decide +kernel
theorem d_BestBlocks_init_18 : decode prog_65_method_1_code 18 = .ok (.iconst (-1), 1) := by decide +kernel
theorem d_BestBlocks_init_19 : decode prog_65_method_1_code 19 = .ok (.istore_n 3, 1) := by decide +kernel
theorem d_BestBlocks_init_20 : decode prog_65_method_1_code 20 = .ok (.aload_n 1, 1) := by decide +kernel
theorem d_BestBlocks_init_21 : decode prog_65_method_1_code 21 = .ok (.astore 4, 2) := by decide +kernel
theorem d_BestBlocks_init_23 : decode prog_65_method_1_code 23 = .ok (.aload 4, 2) := by decide +kernel
theorem d_BestBlocks_init_25 : decode prog_65_method_1_code 25 = .ok (.arraylength, 1) := by decide +kernel
theorem d_BestBlocks_init_26 : decode prog_65_method_1_code 26 = .ok (.istore 5, 2) := by decide +kernel
theorem d_BestBlocks_init_28 : decode prog_65_method_1_code 28 = .ok (.iconst 0, 1) := by decide +kernel
theorem d_BestBlocks_init_29 : decode prog_65_method_1_code 29 = .ok (.istore 6, 2) := by decide +kernel
theorem d_BestBlocks_init_31 : decode prog_65_method_1_code 31 = .ok (.iload 6, 2) := by decide +kernel
theorem d_BestBlocks_init_33 : decode prog_65_method_1_code 33 = .ok (.iload 5, 2) := by decide +kernel
theorem d_BestBlocks_init_35 : decode prog_65_method_1_code 35 = .ok (.if_icmp .ge 38, 3) := by decide +kernel
theorem d_BestBlocks_init_38 : decode prog_65_method_1_code 38 = .ok (.aload 4, 2) := by decide +kernel
theorem d_BestBlocks_init_40 : decode prog_65_method_1_code 40 = .ok (.iload 6, 2) := by decide +kernel
theorem d_BestBlocks_init_42 : decode prog_65_method_1_code 42 = .ok (.baload, 1) := by decide +kernel
theorem d_BestBlocks_init_43 : decode prog_65_method_1_code 43 = .ok (.istore 7, 2) := by decide +kernel
theorem d_BestBlocks_init_45 : decode prog_65_method_1_code 45 = .ok (.iload_n 2, 1) := by decide +kernel
theorem d_BestBlocks_init_46 : decode prog_65_method_1_code 46 = .ok (.iload 7, 2) := by decide +kernel
theorem d_BestBlocks_init_48 : decode prog_65_method_1_code 48 = .ok (.sipush 255, 3) := by decide +kernel
theorem d_BestBlocks_init_51 : decode prog_65_method_1_code 51 = .ok (.iand, 1) := by decide +kernel
theorem d_BestBlocks_init_52 : decode prog_65_method_1_code 52 = .ok (.invokestatic 18, 3) := by decide +kernel
theorem d_BestBlocks_init_55 : decode prog_65_method_1_code 55 = .ok (.istore_n 2, 1) := by decide +kernel
theorem d_BestBlocks_init_56 : decode prog_65_method_1_code 56 = .ok (.iload_n 3, 1) := by decide +kernel
theorem d_BestBlocks_init_57 : decode prog_65_method_1_code 57 = .ok (.iload 7, 2) := by decide +kernel
theorem d_BestBlocks_init_59 : decode prog_65_method_1_code 59 = .ok (.sipush 255, 3) := by decide +kernel
theorem d_BestBlocks_init_62 : decode prog_65_method_1_code 62 = .ok (.iand, 1) := by decide +kernel
theorem d_BestBlocks_init_63 : decode prog_65_method_1_code 63 = .ok (.invokestatic 24, 3) := by decide +kernel
theorem d_BestBlocks_init_66 : decode prog_65_method_1_code 66 = .ok (.istore_n 3, 1) := by decide +kernel
theorem d_BestBlocks_init_67 : decode prog_65_method_1_code 67 = .ok (.iinc 6 1, 3) := by decide +kernel
theorem d_BestBlocks_init_70 : decode prog_65_method_1_code 70 = .ok (.goto (-39), 3) := by decide +kernel
theorem d_BestBlocks_init_73 : decode prog_65_method_1_code 73 = .ok (.aload_n 0, 1) := by decide +kernel
theorem d_BestBlocks_init_74 : decode prog_65_method_1_code 74 = .ok (.iconst 0, 1) := by decide +kernel
theorem d_BestBlocks_init_75 : decode prog_65_method_1_code 75 = .ok (.iload_n 3, 1) := by decide +kernel
theorem d_BestBlocks_init_76 : decode prog_65_method_1_code 76 = .ok (.iload_n 2, 1) := by decide +kernel
theorem d_BestBlocks_init_77 : decode prog_65_method_1_code 77 = .ok (.isub, 1) := by decide +kernel
theorem d_BestBlocks_init_78 : decode prog_65_method_1_code 78 = .ok (.iconst 1, 1) := by decide +kernel
theorem d_BestBlocks_init_79 : decode prog_65_method_1_code 79 = .ok (.iadd, 1) := by decide +kernel
theorem d_BestBlocks_init_80 : decode prog_65_method_1_code 80 = .ok (.invokestatic 24, 3) := by decide +kernel
theorem d_BestBlocks_init_83 : decode prog_65_method_1_code 83 = .ok (.newarray .int, 2) := by decide +kernel
theorem d_BestBlocks_init_85 : decode prog_65_method_1_code 85 = .ok (.putfield 27, 3) := by decide +kernel
theorem d_BestBlocks_init_88 : decode prog_65_method_1_code 88 = .ok (.aload_n 0, 1) := by decide +kernel
theorem d_BestBlocks_init_89 : decode prog_65_method_1_code 89 = .ok (.getfield 27, 3) := by decide +kernel
theorem d_BestBlocks_init_92 : decode prog_65_method_1_code 92 = .ok (.iconst (-1), 1) := by decide +kernel
theorem d_BestBlocks_init_93 : decode prog_65_method_1_code 93 = .ok (.invokestatic 31, 3) := by decide +kernel
theorem d_BestBlocks_init_96 : decode prog_65_method_1_code 96 = .ok (.aload_n 0, 1) := by decide +kernel
theorem d_BestBlocks_init_97 : decode prog_65_method_1_code 97 = .ok (.aload_n 1, 1) := by decide +kernel
theorem d_BestBlocks_init_98 : decode prog_65_method_1_code 98 = .ok (.arraylength, 1) := by decide +kernel
theorem d_BestBlocks_init_99 : decode prog_65_method_1_code 99 = .ok (.newarray .int, 2) := by decide +kernel
theorem d_BestBlocks_init_101 : decode prog_65_method_1_code 101 = .ok (.putfield 37, 3) := by decide +kernel
theorem d_BestBlocks_init_104 : decode prog_65_method_1_code 104 = .ok (.aload_n 1, 1) := by decide +kernel
theorem d_BestBlocks_init_105 : decode prog_65_method_1_code 105 = .ok (.arraylength, 1) := by decide +kernel
theorem d_BestBlocks_init_106 : decode prog_65_method_1_code 106 = .ok (.iconst 1, 1) := by decide +kernel
theorem d_BestBlocks_init_107 : decode prog_65_method_1_code 107 = .ok (.isub, 1) := by decide +kernel
theorem d_BestBlocks_init_108 : decode prog_65_method_1_code 108 = .ok (.istore 4, 2) := by decide +kernel
theorem d_BestBlocks_init_110 : decode prog_65_method_1_code 110 = .ok (.iload 4, 2) := by decide +kernel
theorem d_BestBlocks_init_112 : decode prog_65_method_1_code 112 = .ok (.ifCond .lt 44, 3) := by decide +kernel
theorem d_BestBlocks_init_115 : decode prog_65_method_1_code 115 = .ok (.aload_n 1, 1) := by decide +kernel
theorem d_BestBlocks_init_116 : decode prog_65_method_1_code 116 = .ok (.iload 4, 2) := by decide +kernel
theorem d_BestBlocks_init_118 : decode prog_65_method_1_code 118 = .ok (.baload, 1) := by decide +kernel
theorem d_BestBlocks_init_119 : decode prog_65_method_1_code 119 = .ok (.sipush 255, 3) := by decide +kernel
theorem d_BestBlocks_init_122 : decode prog_65_method_1_code 122 = .ok (.iand, 1) := by decide +kernel
theorem d_BestBlocks_init_123 : decode prog_65_method_1_code 123 = .ok (.iload_n 2, 1) := by decide +kernel
theorem d_BestBlocks_init_124 : decode prog_65_method_1_code 124 = .ok (.isub, 1) := by decide +kernel
theorem d_BestBlocks_init_125 : decode prog_65_method_1_code 125 = .ok (.istore 5, 2) := by decide +kernel
theorem d_BestBlocks_init_127 : decode prog_65_method_1_code 127 = .ok (.aload_n 0, 1) := by decide +kernel
theorem d_BestBlocks_init_128 : decode prog_65_method_1_code 128 = .ok (.getfield 37, 3) := by decide +kernel
theorem d_BestBlocks_init_131 : decode prog_65_method_1_code 131 = .ok (.iload 4, 2) := by decide +kernel
theorem d_BestBlocks_init_133 : decode prog_65_method_1_code 133 = .ok (.aload_n 0, 1) := by decide +kernel
theorem d_BestBlocks_init_134 : decode prog_65_method_1_code 134 = .ok (.getfield 27, 3) := by decide +kernel
theorem d_BestBlocks_init_137 : decode prog_65_method_1_code 137 = .ok (.iload 5, 2) := by decide +kernel
theorem d_BestBlocks_init_139 : decode prog_65_method_1_code 139 = .ok (.iaload, 1) := by decide +kernel
theorem d_BestBlocks_init_140 : decode prog_65_method_1_code 140 = .ok (.iastore, 1) := by decide +kernel
theorem d_BestBlocks_init_141 : decode prog_65_method_1_code 141 = .ok (.aload_n 0, 1) := by decide +kernel
theorem d_BestBlocks_init_142 : decode prog_65_method_1_code 142 = .ok (.getfield 27, 3) := by decide +kernel
theorem d_BestBlocks_init_145 : decode prog_65_method_1_code 145 = .ok (.iload 5, 2) := by decide +kernel
theorem d_BestBlocks_init_147 : decode prog_65_method_1_code 147 = .ok (.iload 4, 2) := by decide +kernel
theorem d_BestBlocks_init_149 : decode prog_65_method_1_code 149 = .ok (.iastore, 1) := by decide +kernel
theorem d_BestBlocks_init_150 : decode prog_65_method_1_code 150 = .ok (.iinc 4 (-1), 3) := by decide +kernel
theorem d_BestBlocks_init_153 : decode prog_65_method_1_code 153 = .ok (.goto (-43), 3) := by decide +kernel
theorem d_BestBlocks_init_156 : decode prog_65_method_1_code 156 = .ok (.return_, 1) := by decide +kernel
theorem pn_BestBlocks_init : plainFor (⟨"com/example/quern/quern/Postings$BestBlocks", "<init>", "([B)V"⟩ : MethodName) = true := plainFor_of_name (by first | (simp [plainName, overriddenIn, x]; done) | decide +kernel)
theorem pd_BestBlocks_init : parseMethodDescriptor "([B)V" = some ⟨[(.array .byte)], none⟩ := by decide +kernel
set_option maxRecDepth 65536 in
set_option maxHeartbeats 40000000 in
theorem ini_110 {p : Program} {l : Launch} {e : Env} {s : State} {m : MethodId} {args : Array Value} {below : List Frame} {meth : Method} {c : Code} {Z : State} {a0 : Array Value} {h0 : Heap} {n0 : Nat} (hw : ∀ d ∈ tables_1, d.before a0 Z = true) (k : Wk.K p s m meth c Z (⟨"com/example/quern/quern/Postings$BestBlocks", "<init>", "([B)V"⟩ : MethodName) prog_65_method_1_code 8 none) (o cA : Addr) (U cs : List Int32) (n : Nat) (hnn : n ≤ 4) (hcl : cs.length = n) (hcs : ∀ i, i < n → (cs.getD i 0 &&& (255 : Int32)) = U.getD i 0) (g0 : n0 ≤ o) (fA xA : Addr) (lo hi o6 : Int32) (s7 : Slot) (hs7 : One s7) (W : Nat) (hW2 : W ≤ 256) (hLG : own_LG U n lo hi) (hWu : ∀ i, i < n → own_uI U i < lo.toInt + W) (n1 : o ≠ fA) (n2 : o ≠ xA) (n3 : fA ≠ xA) (n4 : cA ≠ fA) (n5 : cA ≠ xA) (g1 : n0 ≤ fA) (g2 : n0 ≤ xA) (s1 : h0.size ≤ fA) (s2 : h0.size ≤ xA) :
    ∀ (b : Nat) (blk o5 : Int32) (fs xs : List Int32), b ≤ n → blk.toInt = (b : Int) - 1 → own_Fill U n lo.toInt W b fs xs → ∀ (T0 : State) (h1 : Heap) (locs : List Loc), Stand p l e ({ frames := 1, cells := 2, slots := 260, locals := 15 } : Room) s m args below meth c T0 locs 2 260 → T0.heap = h1 → Keep h0 h1 [o] → Fr n0 locs → Exa Z h1 o "com/example/quern/quern/Postings$BestBlocks" → Fld Z h1 o "com/example/quern/quern/Postings$BestBlocks" "list" "I" (.int (-1 : Int32)) → Fld Z h1 o "com/example/quern/quern/Postings$BestBlocks" "next" "I" (.int (-1 : Int32)) → Fld Z h1 o "com/example/quern/quern/Postings$BestBlocks" "firsts" "[I" (.ref fA) → Fld Z h1 o "com/example/quern/quern/Postings$BestBlocks" "nexts" "[I" (.ref xA) → Wk.Arl Z h1 fA .int (fs.map Value.int) → Wk.Arl Z h1 xA .int (xs.map Value.int) → Wk.Arl Z h1 cA .byte (cs.map Value.int) → Wk.Ends p e s below ({ frames := 1, cells := 2, slots := 260, locals := 15 } : Room) (fun r h L => r = none ∧ Fr n0 L ∧ Keep h0 h [o] ∧ ∃ (fA xA : Addr) (lo : Int) (W : Nat) (fs xs : List Int32), own_BB Z h n0 o fA xA U n lo W fs xs 0) T0 (mkF m 110 #[.val (.ref o), .val (.ref cA), .val (.int lo), .val (.int hi), .val (.int blk), .val (.int o5), .val (.int o6), s7] []) := by
  intro b
  induction b with
  | zero =>
    intro blk o5 fs xs hbn hblk hF T0 h1 locs X0 e0 K1 N1 E1 F1 F2 F3 F4 A1 A2 A3
    refine Wk.iload k X0 d_BestBlocks_init_110 rfl 112 rfl ?_
    refine Wk.if_lt k X0 d_BestBlocks_init_112 (by decide) 156 115 (by decide) rfl (fun hc112 => ?_) (fun hc112 => ?_)
    · refine Wk.ret_void k X0 rfl d_BestBlocks_init_156 (by decide) (by decide) ?_
      rw [e0]
      exact ⟨rfl, N1, K1, fA, xA, lo.toInt, W, fs, xs, (-1), (-1), E1, F1, F2, F3, F4, A1, A2, n1, n2, g0, by decide, by show (-1 : Int) < _; omega, own_inv0 (fun i hi => (hLG.2.2.2.2 i hi).1), own_Good_of hF hW2 hLG.1 hLG.2.1 hWu⟩
    · exact absurd (by rw [Int32.lt_iff_toInt_lt]; have z0 : (0 : Int32).toInt = 0 := rfl; omega) hc112
  | succ b ih =>
    intro blk o5 fs xs hbn hblk hF T0 h1 locs X0 e0 K1 N1 E1 F1 F2 F3 F4 A1 A2 A3
    have hbb : blk.toInt = (b : Int) := by omega
    have hfl := hF.1
    have hxl := hF.2.1
    refine Wk.iload k X0 d_BestBlocks_init_110 rfl 112 rfl ?_
    refine Wk.if_lt k X0 d_BestBlocks_init_112 (by decide) 156 115 (by decide) rfl (fun hc112 => ?_) (fun hc112 => ?_)
    · exact absurd hc112 (by rw [Int32.lt_iff_toInt_lt]; have z0 : (0 : Int32).toInt = 0 := rfl; omega)
    · refine Wk.aload_n k X0 d_BestBlocks_init_115 rfl rfl 116 rfl ?_
      refine Wk.iload k X0 d_BestBlocks_init_116 rfl 118 rfl ?_
      refine Wk.baload k X0 d_BestBlocks_init_118 e0 A3 b hbb (cs.getD b 0) (own_gD (by omega)) 119 rfl ?_
      refine Wk.sipush k X0 d_BestBlocks_init_119 (255 : Int32) rfl 122 rfl ?_
      refine Wk.iand k X0 d_BestBlocks_init_122 123 rfl ?_
      refine Wk.iload_n k X0 d_BestBlocks_init_123 rfl 124 rfl ?_
      refine Wk.isub k X0 d_BestBlocks_init_124 125 rfl ?_
      refine Wk.istore k X0 d_BestBlocks_init_125 #[.val (.ref o), .val (.ref cA), .val (.int lo), .val (.int hi), .val (.int blk), .val (.int (((cs.getD b 0) &&& (255 : Int32)) - lo)), .val (.int o6), s7] rfl 127 rfl ?_
      obtain ⟨c0, hc0, hcW, hcu⟩ := own_of hLG (show b < n by omega) (hcs b (by omega)) hWu
      refine Wk.aload_n k X0 d_BestBlocks_init_127 rfl rfl 128 rfl ?_
      refine Wk.getfield k X0 d_BestBlocks_init_128 (host := "") (Or.inl (Wk.w hw 30 rfl)) Via.refl e0 F4 131 rfl fun T201 X201 e201 => ?_
      refine Wk.iload k X201 d_BestBlocks_init_131 rfl 133 rfl ?_
      refine Wk.aload_n k X201 d_BestBlocks_init_133 rfl rfl 134 rfl ?_
      refine Wk.getfield k X201 d_BestBlocks_init_134 (host := "") (Or.inl (Wk.w hw 24 rfl)) Via.refl e201 F3 137 rfl fun T202 X202 e202 => ?_
      refine Wk.iload k X202 d_BestBlocks_init_137 rfl 139 rfl ?_
      refine Wk.iaload k X202 d_BestBlocks_init_139 e202 A1 c0 hc0 (fs.getD c0 0) (own_gD (by omega)) 140 rfl ?_
      refine Wk.iastore k X202 (x := (fs.getD c0 0)) d_BestBlocks_init_140 e202 A2 b hbb (by omega) 141 rfl fun T203 h203 X203 e203 W203 A203 => ?_
      have N204 := Fr.snoc X203 N1 g2
      have K205 := K1.wr W203 (Or.inr s2)
      have f206 := Exa.wr W203 E1
      have f207 := Fld.other W203 F1 (Or.inl n2)
      have f208 := Fld.other W203 F2 (Or.inl n2)
      have f209 := Fld.other W203 F3 (Or.inl n2)
      have f210 := Fld.other W203 F4 (Or.inl n2)
      have f211 := A1.other W203 n3
      have f212 := A3.other W203 n5
      refine Wk.aload_n k X203 d_BestBlocks_init_141 rfl rfl 142 rfl ?_
      refine Wk.getfield k X203 d_BestBlocks_init_142 (host := "") (Or.inl (Wk.w hw 24 rfl)) Via.refl e203 f209 145 rfl fun T213 X213 e213 => ?_
      refine Wk.iload k X213 d_BestBlocks_init_145 rfl 147 rfl ?_
      refine Wk.iload k X213 d_BestBlocks_init_147 rfl 149 rfl ?_
      refine Wk.iastore k X213 (x := blk) d_BestBlocks_init_149 e213 f211 c0 hc0 (by omega) 150 rfl fun T214 h214 X214 e214 W214 A214 => ?_
      have N215 := Fr.snoc X214 N204 g1
      have K216 := K205.wr W214 (Or.inr s1)
      have f217 := Exa.wr W214 f206
      have f218 := Fld.other W214 f207 (Or.inl n1)
      have f219 := Fld.other W214 f208 (Or.inl n1)
      have f220 := Fld.other W214 f209 (Or.inl n1)
      have f221 := Fld.other W214 f210 (Or.inl n1)
      have f222 := A203.other W214 (Ne.symm n3)
      have f223 := f212.other W214 n4
      refine Wk.iinc k X214 d_BestBlocks_init_150 rfl #[.val (.ref o), .val (.ref cA), .val (.int lo), .val (.int hi), .val (.int (blk + (-1 : Int32))), .val (.int (((cs.getD b 0) &&& (255 : Int32)) - lo)), .val (.int o6), s7] rfl 153 rfl ?_
      refine Wk.goto k X214 d_BestBlocks_init_153 (by decide) 110 (by decide) ?_
      exact ih _ _ _ _ (by omega) (own_dec hbb) (own_Fills hF (by omega) hcW hcu hbb) _ _ _ X214 e214 K216 N215 f217 f218 f219 f220 f221 A214 f222 f223
set_option maxRecDepth 65536 in
set_option maxHeartbeats 40000000 in
theorem ini_73 {p : Program} {l : Launch} {e : Env} {s : State} {m : MethodId} {args : Array Value} {below : List Frame} {meth : Method} {c : Code} {Z : State} {a0 : Array Value} {h0 : Heap} {n0 : Nat} {T0 : State} {locs : List Loc} (hw : ∀ d ∈ tables_1, d.before a0 Z = true) (k : Wk.K p s m meth c Z (⟨"com/example/quern/quern/Postings$BestBlocks", "<init>", "([B)V"⟩ : MethodName) prog_65_method_1_code 8 none) (X0 : Stand p l e ({ frames := 1, cells := 2, slots := 260, locals := 15 } : Room) s m args below meth c T0 locs 0 0) (o cA : Addr) (U cs : List Int32) (n : Nat) (hnn : n ≤ 4) (hcl : cs.length = n) (hcs : ∀ i, i < n → (cs.getD i 0 &&& (255 : Int32)) = U.getD i 0) (g0 : n0 ≤ o) (lo hi o5 o6 : Int32) (s7 : Slot) (hs7 : One s7) (hLG : own_LG U n lo hi) (u1 u2 : Value) (h1 : Heap) (e0 : T0.heap = h1) (K1 : Keep h0 h1 [o]) (N1 : Fr n0 locs) (Z1 : n0 ≤ h1.size) (n0c : o ≠ cA) (E1 : Exa Z h1 o "com/example/quern/quern/Postings$BestBlocks") (F1 : Fld Z h1 o "com/example/quern/quern/Postings$BestBlocks" "list" "I" (.int (-1 : Int32))) (F2 : Fld Z h1 o "com/example/quern/quern/Postings$BestBlocks" "next" "I" (.int (-1 : Int32))) (F3 : Fld Z h1 o "com/example/quern/quern/Postings$BestBlocks" "firsts" "[I" u1) (F4 : Fld Z h1 o "com/example/quern/quern/Postings$BestBlocks" "nexts" "[I" u2) (A3 : Wk.Arl Z h1 cA .byte (cs.map Value.int)) : Wk.Ends p e s below ({ frames := 1, cells := 2, slots := 260, locals := 15 } : Room) (fun r h L => r = none ∧ Fr n0 L ∧ Keep h0 h [o] ∧ ∃ (fA xA : Addr) (lo : Int) (W : Nat) (fs xs : List Int32), own_BB Z h n0 o fA xA U n lo W fs xs 0) T0 (mkF m 73 #[.val (.ref o), .val (.ref cA), .val (.int lo), .val (.int hi), .val (.ref cA), .val (.int o5), .val (.int o6), s7] []) := by
  refine Wk.aload_n k X0 d_BestBlocks_init_73 rfl rfl 74 rfl ?_
  refine Wk.iconst k X0 d_BestBlocks_init_74 (0 : Int32) rfl 75 rfl ?_
  refine Wk.iload_n k X0 d_BestBlocks_init_75 rfl 76 rfl ?_
  refine Wk.iload_n k X0 d_BestBlocks_init_76 rfl 77 rfl ?_
  refine Wk.isub k X0 d_BestBlocks_init_77 78 rfl ?_
  refine Wk.iconst k X0 d_BestBlocks_init_78 (1 : Int32) rfl 79 rfl ?_
  refine Wk.iadd k X0 d_BestBlocks_init_79 80 rfl ?_
  refine Wk.callS k X0 [(.int (0 : Int32)), (.int ((hi - lo) + (1 : Int32)))] [(.ref o)] d_BestBlocks_init_80 (rm_max l Z a0 hw _ _ _) e0 (Wk.w hw 20 rfl) (Wk.w hw 21 rfl) (Wk.w hw 22 rfl) (Wk.w hw 23 rfl) (by decide) rfl pd_Math_max rfl rfl (Nat.le_of_ble_eq_true rfl) (Nat.le_of_ble_eq_true rfl) (Nat.le_of_ble_eq_true rfl) (Nat.le_of_ble_eq_true rfl) 83 rfl fun T201 v201 L201 X201 hQ201 => ?_
  obtain ⟨wz, rfl, hwz, e201, rfl⟩ := hQ201
  rw [List.append_nil] at X201
  show Wk.Ends _ _ _ _ _ _ _ (mkF m 83 _ [(.int wz), (.ref o)])
  obtain ⟨W, hW1, hW2, hWu⟩ := own_W hLG hwz
  refine Wk.newarray k X201 d_BestBlocks_init_83 (Wk.w hw 2 rfl) e201 W hW1 256 hW2 (by decide) (by decide) (by decide) 85 rfl fun T202 h202 fA q202 X202 e202 E202 A202 => ?_
  have g202 : n0 ≤ fA := by rw [q202]; exact Z1
  have hs203 : h0.size ≤ fA := by rw [q202]; exact K1.1
  have ne204 : o ≠ fA := by rw [q202]; exact Nat.ne_of_lt E1.lt
  have ne205 : cA ≠ fA := by rw [q202]; exact Nat.ne_of_lt A3.lt
  have sz202 := Nat.le_trans Z1 E202.1
  have K206 := K1.ext E202
  have f207 := Exa.ext E202 E1
  have f208 := Fld.ext E202 F1
  have f209 := Fld.ext E202 F2
  have f210 := Fld.ext E202 F3
  have f211 := Fld.ext E202 F4
  have f212 := A3.ext E202
  have A202' : Wk.Arl Z h202 fA .int (((List.replicate W (0 : Int32)) : List Int32).map Value.int) := by rw [List.map_replicate]; exact A202
  refine Wk.putfield k X202 d_BestBlocks_init_85 (host := "") (Or.inl (Wk.w hw 24 rfl)) Via.refl e202 f210 f207 (Or.inr ⟨(Wk.w hw 25 rfl), rfl, rfl⟩) (Wk.w hw 8 rfl) (ty := (.array .int)) (by decide) rfl rfl 88 rfl fun T213 h213 X213 e213 W213 => ?_
  have sz213 : n0 ≤ h213.size := by rw [W213.size]; exact sz202
  have N214 := Fr.snoc X213 N1 g0
  have K215 := K206.wr W213 (Or.inl (List.mem_of_getElem? (i := 0) rfl))
  have f216 := Exa.wr W213 f207
  have f217 := Fld.other W213 f208 (Or.inr (slot_ne (Or.inl (Wk.w hw 17 rfl)) (Or.inr (Wk.w hw 25 rfl)) (by decide) (t := .int) (t' := (.array .int)) (by decide) (by decide)))
  have f218 := Fld.other W213 f209 (Or.inr (slot_ne (Or.inl (Wk.w hw 19 rfl)) (Or.inr (Wk.w hw 25 rfl)) (by decide) (t := .int) (t' := (.array .int)) (by decide) (by decide)))
  have f219 := Fld.other W213 f211 (Or.inr (slot_ne (Or.inr (Wk.w hw 31 rfl)) (Or.inr (Wk.w hw 25 rfl)) (by decide) (t := (.array .int)) (t' := (.array .int)) (by decide) (by decide)))
  have f220 := f212.other W213 (Ne.symm n0c)
  have f221 := A202'.other W213 (Ne.symm ne204)
  have f222 := Fld.same W213 f210
  refine Wk.aload_n k X213 d_BestBlocks_init_88 rfl rfl 89 rfl ?_
  refine Wk.getfield k X213 d_BestBlocks_init_89 (host := "") (Or.inl (Wk.w hw 24 rfl)) Via.refl e213 f222 92 rfl fun T223 X223 e223 => ?_
  refine Wk.iconst k X223 d_BestBlocks_init_92 (-1 : Int32) rfl 93 rfl ?_
  refine Wk.callS k X223 [(.ref fA), (.int (-1 : Int32))] [] d_BestBlocks_init_93 (rm_fill l Z a0 hw fA (-1 : Int32) _ h213 n0 (by rw [List.length_replicate]; omega) g202 f221) e223 (Wk.w hw 26 rfl) (Wk.w hw 27 rfl) (Wk.w hw 28 rfl) (Wk.w hw 29 rfl) (by decide) rfl pd_Arrays_fill rfl rfl (Nat.le_of_ble_eq_true rfl) (Nat.le_of_ble_eq_true rfl) (Nat.le_of_ble_eq_true rfl) (Nat.le_of_ble_eq_true rfl) 96 rfl fun T224 v224 L224 X224 hQ224 => ?_
  obtain ⟨rfl, N224q, K224q, A224⟩ := hQ224
  show Wk.Ends _ _ _ _ _ _ _ (mkF m 96 _ [])
  rw [List.length_replicate] at A224
  have N224 := Fr.app N214 N224q
  have K225 := K215.trans K224q (allS (Or.inr hs203) all0)
  have f226 := f216.keep K224q
  have f227 := f217.keep K224q (ninS ne204 nin0)
  have f228 := f218.keep K224q (ninS ne204 nin0)
  have f229 := f222.keep K224q (ninS ne204 nin0)
  have f230 := f219.keep K224q (ninS ne204 nin0)
  have f231 := f220.keep K224q (ninS ne205 nin0)
  have sz224 := Nat.le_trans sz213 K224q.1
  refine Wk.aload_n k X224 d_BestBlocks_init_96 rfl rfl 97 rfl ?_
  refine Wk.aload_n k X224 d_BestBlocks_init_97 rfl rfl 98 rfl ?_
  refine Wk.arraylength k X224 d_BestBlocks_init_98 (rfl : T224.heap = T224.heap) f231 (Int32.ofNat n) (by rw [own_len hcl]; exact own_oN (by omega)) 99 rfl ?_
  refine Wk.newarray k X224 d_BestBlocks_init_99 (Wk.w hw 2 rfl) (rfl : T224.heap = T224.heap) n (own_oN (by omega)) 4 hnn (by decide) (by decide) (by decide) 101 rfl fun T232 h232 xA q232 X232 e232 E232 A232 => ?_
  have g232 : n0 ≤ xA := by rw [q232]; exact sz224
  have hs233 : h0.size ≤ xA := by rw [q232]; exact K225.1
  have ne234 : o ≠ xA := by rw [q232]; exact Nat.ne_of_lt f226.lt
  have ne235 : cA ≠ xA := by rw [q232]; exact Nat.ne_of_lt f231.lt
  have ne236 : fA ≠ xA := by rw [q232]; exact Nat.ne_of_lt A224.lt
  have sz232 := Nat.le_trans sz224 E232.1
  have K237 := K225.ext E232
  have f238 := Exa.ext E232 f226
  have f239 := Fld.ext E232 f227
  have f240 := Fld.ext E232 f228
  have f241 := Fld.ext E232 f229
  have f242 := Fld.ext E232 f230
  have f243 := f231.ext E232
  have f244 := A224.ext E232
  have A232' : Wk.Arl Z h232 xA .int (((List.replicate n (0 : Int32)) : List Int32).map Value.int) := by rw [List.map_replicate]; exact A232
  refine Wk.putfield k X232 d_BestBlocks_init_101 (host := "") (Or.inl (Wk.w hw 30 rfl)) Via.refl e232 f242 f238 (Or.inr ⟨(Wk.w hw 31 rfl), rfl, rfl⟩) (Wk.w hw 8 rfl) (ty := (.array .int)) (by decide) rfl rfl 104 rfl fun T245 h245 X245 e245 W245 => ?_
  have sz245 : n0 ≤ h245.size := by rw [W245.size]; exact sz232
  have N246 := Fr.snoc X245 N224 g0
  have K247 := K237.wr W245 (Or.inl (List.mem_of_getElem? (i := 0) rfl))
  have f248 := Exa.wr W245 f238
  have f249 := Fld.other W245 f239 (Or.inr (slot_ne (Or.inl (Wk.w hw 17 rfl)) (Or.inr (Wk.w hw 31 rfl)) (by decide) (t := .int) (t' := (.array .int)) (by decide) (by decide)))
  have f250 := Fld.other W245 f240 (Or.inr (slot_ne (Or.inl (Wk.w hw 19 rfl)) (Or.inr (Wk.w hw 31 rfl)) (by decide) (t := .int) (t' := (.array .int)) (by decide) (by decide)))
  have f251 := Fld.other W245 f241 (Or.inr (slot_ne (Or.inr (Wk.w hw 25 rfl)) (Or.inr (Wk.w hw 31 rfl)) (by decide) (t := (.array .int)) (t' := (.array .int)) (by decide) (by decide)))
  have f252 := f243.other W245 (Ne.symm n0c)
  have f253 := f244.other W245 (Ne.symm ne204)
  have f254 := A232'.other W245 (Ne.symm ne234)
  have f255 := Fld.same W245 f242
  refine Wk.aload_n k X245 d_BestBlocks_init_104 rfl rfl 105 rfl ?_
  refine Wk.arraylength k X245 d_BestBlocks_init_105 e245 f252 (Int32.ofNat n) (by rw [own_len hcl]; exact own_oN (by omega)) 106 rfl ?_
  refine Wk.iconst k X245 d_BestBlocks_init_106 (1 : Int32) rfl 107 rfl ?_
  refine Wk.isub k X245 d_BestBlocks_init_107 108 rfl ?_
  refine Wk.istore k X245 d_BestBlocks_init_108 #[.val (.ref o), .val (.ref cA), .val (.int lo), .val (.int hi), .val (.int ((Int32.ofNat n) - (1 : Int32))), .val (.int o5), .val (.int o6), s7] rfl 110 rfl ?_
  exact ini_110 hw k o cA U cs n hnn hcl hcs g0 fA xA lo hi o6 s7 hs7 W hW2 hLG hWu ne204 ne234 ne236 ne205 ne235 g202 g232 hs203 hs233 n _ _ _ _ (Nat.le_refl _) (by have q := c_isub (Int32.ofNat n) 1; have r := rng32 (Int32.ofNat n - 1); have z : (1 : Int32).toInt = 1 := rfl; rw [own_oN (by omega)] at q; omega) (own_Fill0 U n _ W) _ _ _ X245 e245 K247 N246 f248 f249 f250 f251 f255 f253 f254 f252
set_option maxRecDepth 65536 in
set_option maxHeartbeats 40000000 in
theorem ini_31 {p : Program} {l : Launch} {e : Env} {s : State} {m : MethodId} {args : Array Value} {below : List Frame} {meth : Method} {c : Code} {Z : State} {a0 : Array Value} {h0 : Heap} {n0 : Nat} {locs : List Loc} (hw : ∀ d ∈ tables_1, d.before a0 Z = true) (k : Wk.K p s m meth c Z (⟨"com/example/quern/quern/Postings$BestBlocks", "<init>", "([B)V"⟩ : MethodName) prog_65_method_1_code 8 none) (o cA : Addr) (U cs : List Int32) (n : Nat) (hnn : n ≤ 4) (hcl : cs.length = n) (hcs : ∀ i, i < n → (cs.getD i 0 &&& (255 : Int32)) = U.getD i 0) (g0 : n0 ≤ o) (u1 u2 : Value) (h1 : Heap) (K1 : Keep h0 h1 [o]) (N1 : Fr n0 locs) (Z1 : n0 ≤ h1.size) (n0c : o ≠ cA) (E1 : Exa Z h1 o "com/example/quern/quern/Postings$BestBlocks") (F1 : Fld Z h1 o "com/example/quern/quern/Postings$BestBlocks" "list" "I" (.int (-1 : Int32))) (F2 : Fld Z h1 o "com/example/quern/quern/Postings$BestBlocks" "next" "I" (.int (-1 : Int32))) (F3 : Fld Z h1 o "com/example/quern/quern/Postings$BestBlocks" "firsts" "[I" u1) (F4 : Fld Z h1 o "com/example/quern/quern/Postings$BestBlocks" "nexts" "[I" u2) (A3 : Wk.Arl Z h1 cA .byte (cs.map Value.int)) :
    ∀ (d kk : Nat) (lo hi : Int32) (s7 : Slot), kk + d = n → One s7 → own_LG U kk lo hi → ∀ (T0 : State), Stand p l e ({ frames := 1, cells := 2, slots := 260, locals := 15 } : Room) s m args below meth c T0 locs 0 0 → T0.heap = h1 → Wk.Ends p e s below ({ frames := 1, cells := 2, slots := 260, locals := 15 } : Room) (fun r h L => r = none ∧ Fr n0 L ∧ Keep h0 h [o] ∧ ∃ (fA xA : Addr) (lo : Int) (W : Nat) (fs xs : List Int32), own_BB Z h n0 o fA xA U n lo W fs xs 0) T0 (mkF m 31 #[.val (.ref o), .val (.ref cA), .val (.int lo), .val (.int hi), .val (.ref cA), .val (.int (Int32.ofNat n)), .val (.int (Int32.ofNat kk)), s7] []) := by
  intro d
  induction d with
  | zero =>
    intro kk lo hi s7 hd hs7 hLG T0 X0 e0
    obtain rfl : kk = n := by omega
    refine Wk.iload k X0 d_BestBlocks_init_31 rfl 33 rfl ?_
    refine Wk.iload k X0 d_BestBlocks_init_33 rfl 35 rfl ?_
    refine Wk.icmp_ge k X0 d_BestBlocks_init_35 (by decide) 73 38 (by decide) rfl (fun hc35 => ?_) (fun hc35 => ?_)
    · exact ini_73 hw k X0 o cA U cs kk hnn hcl hcs g0 lo hi _ _ _ hs7 hLG u1 u2 h1 e0 K1 N1 Z1 n0c E1 F1 F2 F3 F4 A3
    · exact absurd hc35 Int32.lt_irrefl
  | succ d ih =>
    intro kk lo hi s7 hd hs7 hLG T0 X0 e0
    refine Wk.iload k X0 d_BestBlocks_init_31 rfl 33 rfl ?_
    refine Wk.iload k X0 d_BestBlocks_init_33 rfl 35 rfl ?_
    refine Wk.icmp_ge k X0 d_BestBlocks_init_35 (by decide) 73 38 (by decide) rfl (fun hc35 => ?_) (fun hc35 => ?_)
    · exact absurd ((own_ltN (by omega) (by omega)).mpr (by omega)) hc35
    · refine Wk.aload k X0 d_BestBlocks_init_38 rfl rfl 40 rfl ?_
      refine Wk.iload k X0 d_BestBlocks_init_40 rfl 42 rfl ?_
      refine Wk.baload k X0 d_BestBlocks_init_42 e0 A3 kk (own_oN (by omega)) (cs.getD kk 0) (own_gD (by omega)) 43 rfl ?_
      refine Wk.istore k X0 d_BestBlocks_init_43 #[.val (.ref o), .val (.ref cA), .val (.int lo), .val (.int hi), .val (.ref cA), .val (.int (Int32.ofNat n)), .val (.int (Int32.ofNat kk)), .val (.int (cs.getD kk 0))] (own_os7 hs7) 45 rfl ?_
      refine Wk.iload_n k X0 d_BestBlocks_init_45 rfl 46 rfl ?_
      refine Wk.iload k X0 d_BestBlocks_init_46 rfl 48 rfl ?_
      refine Wk.sipush k X0 d_BestBlocks_init_48 (255 : Int32) rfl 51 rfl ?_
      refine Wk.iand k X0 d_BestBlocks_init_51 52 rfl ?_
      refine Wk.callS k X0 [(.int lo), (.int ((cs.getD kk 0) &&& (255 : Int32)))] [] d_BestBlocks_init_52 (rm_min l Z a0 hw _ _ _) e0 (Wk.w hw 43 rfl) (Wk.w hw 44 rfl) (Wk.w hw 22 rfl) (Wk.w hw 45 rfl) (by decide) rfl pd_Math_min rfl rfl (Nat.le_of_ble_eq_true rfl) (Nat.le_of_ble_eq_true rfl) (Nat.le_of_ble_eq_true rfl) (Nat.le_of_ble_eq_true rfl) 55 rfl fun T301 v301 L301 X301 hQ301 => ?_
      obtain ⟨mi, rfl, hmi, e301, rfl⟩ := hQ301
      rw [List.append_nil] at X301
      show Wk.Ends _ _ _ _ _ _ _ (mkF m 55 _ [(.int mi)])
      refine Wk.istore_n k X301 d_BestBlocks_init_55 #[.val (.ref o), .val (.ref cA), .val (.int mi), .val (.int hi), .val (.ref cA), .val (.int (Int32.ofNat n)), .val (.int (Int32.ofNat kk)), .val (.int (cs.getD kk 0))] rfl 56 rfl ?_
      refine Wk.iload_n k X301 d_BestBlocks_init_56 rfl 57 rfl ?_
      refine Wk.iload k X301 d_BestBlocks_init_57 rfl 59 rfl ?_
      refine Wk.sipush k X301 d_BestBlocks_init_59 (255 : Int32) rfl 62 rfl ?_
      refine Wk.iand k X301 d_BestBlocks_init_62 63 rfl ?_
      refine Wk.callS k X301 [(.int hi), (.int ((cs.getD kk 0) &&& (255 : Int32)))] [] d_BestBlocks_init_63 (rm_max l Z a0 hw _ _ _) e301 (Wk.w hw 20 rfl) (Wk.w hw 21 rfl) (Wk.w hw 22 rfl) (Wk.w hw 23 rfl) (by decide) rfl pd_Math_max rfl rfl (Nat.le_of_ble_eq_true rfl) (Nat.le_of_ble_eq_true rfl) (Nat.le_of_ble_eq_true rfl) (Nat.le_of_ble_eq_true rfl) 66 rfl fun T302 v302 L302 X302 hQ302 => ?_
      obtain ⟨ma, rfl, hma, e302, rfl⟩ := hQ302
      rw [List.append_nil] at X302
      show Wk.Ends _ _ _ _ _ _ _ (mkF m 66 _ [(.int ma)])
      refine Wk.istore_n k X302 d_BestBlocks_init_66 #[.val (.ref o), .val (.ref cA), .val (.int mi), .val (.int ma), .val (.ref cA), .val (.int (Int32.ofNat n)), .val (.int (Int32.ofNat kk)), .val (.int (cs.getD kk 0))] rfl 67 rfl ?_
      refine Wk.iinc k X302 d_BestBlocks_init_67 rfl #[.val (.ref o), .val (.ref cA), .val (.int mi), .val (.int ma), .val (.ref cA), .val (.int (Int32.ofNat n)), .val (.int ((Int32.ofNat kk) + (1 : Int32))), .val (.int (cs.getD kk 0))] rfl 70 rfl ?_
      refine Wk.goto k X302 d_BestBlocks_init_70 (by decide) 31 (by decide) ?_
      rw [own_inc32]
      exact ih (kk + 1) _ _ _ (by omega) (One.val rfl) (own_LGs hLG (hcs kk (by omega)) hmi hma) _ X302 e302
theorem ef_ini (m : MethodId) (o cA : Addr) : entryFrame m #[(.ref o), (.ref cA)] 8 = mkF m 0 #[.val (.ref o), .val (.ref cA), .unset, .unset, .unset, .unset, .unset, .unset] [] := by first | (simp [entryFrame, mkF, argsToLocals, Value.category]; done) | rfl
set_option maxRecDepth 65536 in
set_option maxHeartbeats 40000000 in
theorem rm_ini (l : Launch) (Z : State) (a0 : Array Value) (hw : ∀ d ∈ tables_1, d.before a0 Z = true) (o cA : Addr) (h0 : Heap) (n0 : Nat) (U cs : List Int32) (n : Nat) (hnn : n ≤ 4) (hcl : cs.length = n) (hcs : ∀ i, i < n → (cs.getD i 0 &&& (255 : Int32)) = U.getD i 0) (g0 : n0 ≤ o) (Z1 : n0 ≤ h0.size) (n0c : o ≠ cA) (v1 v2 u1 u2 : Value) (E1 : Exa Z h0 o "com/example/quern/quern/Postings$BestBlocks") (F1 : Fld Z h0 o "com/example/quern/quern/Postings$BestBlocks" "list" "I" v1) (F2 : Fld Z h0 o "com/example/quern/quern/Postings$BestBlocks" "next" "I" v2) (F3 : Fld Z h0 o "com/example/quern/quern/Postings$BestBlocks" "firsts" "[I" u1) (F4 : Fld Z h0 o "com/example/quern/quern/Postings$BestBlocks" "nexts" "[I" u2) (A3 : Wk.Arl Z h0 cA .byte (cs.map Value.int)) : Wk.Met l (⟨"com/example/quern/quern/Postings$BestBlocks", "<init>", "([B)V"⟩ : MethodName) prog_65_method_1_code 8 none ({ frames := 1, cells := 2, slots := 260, locals := 15 } : Room) #[(.ref o), (.ref cA)] Z h0 (fun r h L => r = none ∧ Fr n0 L ∧ Keep h0 h [o] ∧ ∃ (fA xA : Addr) (lo : Int) (W : Nat) (fs xs : List Int32), own_BB Z h n0 o fA xA U n lo W fs xs 0) [] := by
  refine Wk.enter pn_BestBlocks_init (fun p e s m below meth c T0 k X0 e0 => ?_)
  refine (Wk.Ends.cast (ef_ini m o cA) ?_)
  refine Wk.aload_n k X0 d_BestBlocks_init_0 rfl rfl 1 rfl ?_
  refine Wk.initObj (W := 0) k X0 d_BestBlocks_init_1 (Wk.w hw 13 rfl) (Wk.w hw 14 rfl) (Wk.w hw 15 rfl) e0 rfl (Nat.le_of_ble_eq_true rfl) (Nat.le_of_ble_eq_true rfl) 4 rfl fun T1 X1 e1 => ?_
  refine Wk.aload_n k X1 d_BestBlocks_init_4 rfl rfl 5 rfl ?_
  refine Wk.iconst k X1 d_BestBlocks_init_5 (-1 : Int32) rfl 6 rfl ?_
  refine Wk.putfield k X1 d_BestBlocks_init_6 (host := "") (Or.inl (Wk.w hw 16 rfl)) Via.refl e1 F1 E1 (Or.inl (Wk.w hw 17 rfl)) (Wk.w hw 8 rfl) (ty := .int) (by decide) rfl rfl 9 rfl fun T2 h2 X2 e2 W2 => ?_
  have sz2 : n0 ≤ h2.size := by rw [W2.size]; exact Z1
  have N3 := Fr.snoc X2 (Fr.nil n0) g0
  have K4 := (Keep.refl h0 [o]).wr W2 (Or.inl (List.mem_of_getElem? (i := 0) rfl))
  have f5 := Exa.wr W2 E1
  have f6 := Fld.other W2 F2 (Or.inr (slot_ne (Or.inl (Wk.w hw 19 rfl)) (Or.inl (Wk.w hw 17 rfl)) (by decide) (t := .int) (t' := .int) (by decide) (by decide)))
  have f7 := Fld.other W2 F3 (Or.inr (slot_ne (Or.inr (Wk.w hw 25 rfl)) (Or.inl (Wk.w hw 17 rfl)) (by decide) (t := (.array .int)) (t' := .int) (by decide) (by decide)))
  have f8 := Fld.other W2 F4 (Or.inr (slot_ne (Or.inr (Wk.w hw 31 rfl)) (Or.inl (Wk.w hw 17 rfl)) (by decide) (t := (.array .int)) (t' := .int) (by decide) (by decide)))
  have f9 := A3.other W2 (Ne.symm n0c)
  have f10 := Fld.same W2 F1
  refine Wk.aload_n k X2 d_BestBlocks_init_9 rfl rfl 10 rfl ?_
  refine Wk.iconst k X2 d_BestBlocks_init_10 (-1 : Int32) rfl 11 rfl ?_
  refine Wk.putfield k X2 d_BestBlocks_init_11 (host := "") (Or.inl (Wk.w hw 18 rfl)) Via.refl e2 f6 f5 (Or.inl (Wk.w hw 19 rfl)) (Wk.w hw 8 rfl) (ty := .int) (by decide) rfl rfl 14 rfl fun T11 h11 X11 e11 W11 => ?_
  have sz11 : n0 ≤ h11.size := by rw [W11.size]; exact sz2
  have N12 := Fr.snoc X11 N3 g0
  have K13 := K4.wr W11 (Or.inl (List.mem_of_getElem? (i := 0) rfl))
  have f14 := Exa.wr W11 f5
  have f15 := Fld.other W11 f10 (Or.inr (slot_ne (Or.inl (Wk.w hw 17 rfl)) (Or.inl (Wk.w hw 19 rfl)) (by decide) (t := .int) (t' := .int) (by decide) (by decide)))
  have f16 := Fld.other W11 f7 (Or.inr (slot_ne (Or.inr (Wk.w hw 25 rfl)) (Or.inl (Wk.w hw 19 rfl)) (by decide) (t := (.array .int)) (t' := .int) (by decide) (by decide)))
  have f17 := Fld.other W11 f8 (Or.inr (slot_ne (Or.inr (Wk.w hw 31 rfl)) (Or.inl (Wk.w hw 19 rfl)) (by decide) (t := (.array .int)) (t' := .int) (by decide) (by decide)))
  have f18 := f9.other W11 (Ne.symm n0c)
  have f19 := Fld.same W11 f6
  refine Wk.sipush k X11 d_BestBlocks_init_14 (256 : Int32) rfl 17 rfl ?_
  refine Wk.istore_n k X11 d_BestBlocks_init_17 #[.val (.ref o), .val (.ref cA), .val (.int (256 : Int32)), .unset, .unset, .unset, .unset, .unset] rfl 18 rfl ?_
  refine Wk.iconst k X11 d_BestBlocks_init_18 (-1 : Int32) rfl 19 rfl ?_
  refine Wk.istore_n k X11 d_BestBlocks_init_19 #[.val (.ref o), .val (.ref cA), .val (.int (256 : Int32)), .val (.int (-1 : Int32)), .unset, .unset, .unset, .unset] rfl 20 rfl ?_
  refine Wk.aload_n k X11 d_BestBlocks_init_20 rfl rfl 21 rfl ?_
  refine Wk.astore k X11 d_BestBlocks_init_21 rfl #[.val (.ref o), .val (.ref cA), .val (.int (256 : Int32)), .val (.int (-1 : Int32)), .val (.ref cA), .unset, .unset, .unset] rfl 23 rfl ?_
  refine Wk.aload k X11 d_BestBlocks_init_23 rfl rfl 25 rfl ?_
  refine Wk.arraylength k X11 d_BestBlocks_init_25 e11 f18 (Int32.ofNat n) (by rw [own_len hcl]; exact own_oN (by omega)) 26 rfl ?_
  refine Wk.istore k X11 d_BestBlocks_init_26 #[.val (.ref o), .val (.ref cA), .val (.int (256 : Int32)), .val (.int (-1 : Int32)), .val (.ref cA), .val (.int (Int32.ofNat n)), .unset, .unset] rfl 28 rfl ?_
  refine Wk.iconst k X11 d_BestBlocks_init_28 (0 : Int32) rfl 29 rfl ?_
  refine Wk.istore k X11 d_BestBlocks_init_29 #[.val (.ref o), .val (.ref cA), .val (.int (256 : Int32)), .val (.int (-1 : Int32)), .val (.ref cA), .val (.int (Int32.ofNat n)), .val (.int (0 : Int32)), .unset] rfl 31 rfl ?_
  exact ini_31 hw k o cA U cs n hnn hcl hcs g0 _ _ h11 K13 N12 sz11 n0c f14 f15 f19 f16 f17 f18 n 0 _ _ _ (by omega) One.u (own_LG0 U) _ X11 e11
theorem d_BestBlocks_next_0 : decode prog_65_method_2_code 0 = .ok (.aload_n 0, 1) := by decide +kernel
theorem d_BestBlocks_next_1 : decode prog_65_method_2_code 1 = .ok (.getfield 13, 3) := by decide +kernel
theorem d_BestBlocks_next_4 : decode prog_65_method_2_code 4 = .ok (.ifCond .ge 40, 3) := by decide +kernel
theorem d_BestBlocks_next_7 : decode prog_65_method_2_code 7 = .ok (.aload_n 0, 1) := by decide +kernel
theorem d_BestBlocks_next_8 : decode prog_65_method_2_code 8 = .ok (.getfield 7, 3) := by decide +kernel
theorem d_BestBlocks_next_11 : decode prog_65_method_2_code 11 = .ok (.iconst 1, 1) := by decide +kernel
theorem d_BestBlocks_next_12 : decode prog_65_method_2_code 12 = .ok (.iadd, 1) := by decide +kernel
theorem d_BestBlocks_next_13 : decode prog_65_method_2_code 13 = .ok (.aload_n 0, 1) := by decide +kernel
theorem d_BestBlocks_next_14 : decode prog_65_method_2_code 14 = .ok (.getfield 27, 3) := by decide +kernel
theorem d_BestBlocks_next_17 : decode prog_65_method_2_code 17 = .ok (.arraylength, 1) := by decide +kernel
theorem d_BestBlocks_next_18 : decode prog_65_method_2_code 18 = .ok (.if_icmp .ge 26, 3) := by decide +kernel
theorem d_BestBlocks_next_21 : decode prog_65_method_2_code 21 = .ok (.aload_n 0, 1) := by decide +kernel
theorem d_BestBlocks_next_22 : decode prog_65_method_2_code 22 = .ok (.aload_n 0, 1) := by decide +kernel
theorem d_BestBlocks_next_23 : decode prog_65_method_2_code 23 = .ok (.getfield 27, 3) := by decide +kernel
theorem d_BestBlocks_next_26 : decode prog_65_method_2_code 26 = .ok (.aload_n 0, 1) := by decide +kernel
theorem d_BestBlocks_next_27 : decode prog_65_method_2_code 27 = .ok (.dup, 1) := by decide +kernel
theorem d_BestBlocks_next_28 : decode prog_65_method_2_code 28 = .ok (.getfield 7, 3) := by decide +kernel
theorem d_BestBlocks_next_31 : decode prog_65_method_2_code 31 = .ok (.iconst 1, 1) := by decide +kernel
theorem d_BestBlocks_next_32 : decode prog_65_method_2_code 32 = .ok (.iadd, 1) := by decide +kernel
theorem d_BestBlocks_next_33 : decode prog_65_method_2_code 33 = .ok (.dup_x1, 1) := by decide +kernel
theorem d_BestBlocks_next_34 : decode prog_65_method_2_code 34 = .ok (.putfield 7, 3) := by decide +kernel
theorem d_BestBlocks_next_37 : decode prog_65_method_2_code 37 = .ok (.iaload, 1) := by decide +kernel
theorem d_BestBlocks_next_38 : decode prog_65_method_2_code 38 = .ok (.putfield 13, 3) := by decide +kernel
theorem d_BestBlocks_next_41 : decode prog_65_method_2_code 41 = .ok (.goto (-41), 3) := by decide +kernel
theorem d_BestBlocks_next_44 : decode prog_65_method_2_code 44 = .ok (.aload_n 0, 1) := by decide +kernel
theorem d_BestBlocks_next_45 : decode prog_65_method_2_code 45 = .ok (.getfield 13, 3) := by decide +kernel
theorem d_BestBlocks_next_48 : decode prog_65_method_2_code 48 = .ok (.istore_n 1, 1) := by decide +kernel
theorem d_BestBlocks_next_49 : decode prog_65_method_2_code 49 = .ok (.iload_n 1, 1) := by decide +kernel
theorem d_BestBlocks_next_50 : decode prog_65_method_2_code 50 = .ok (.ifCond .lt 13, 3) := by decide +kernel
theorem d_BestBlocks_next_53 : decode prog_65_method_2_code 53 = .ok (.aload_n 0, 1) := by decide +kernel
theorem d_BestBlocks_next_54 : decode prog_65_method_2_code 54 = .ok (.aload_n 0, 1) := by decide +kernel
theorem d_BestBlocks_next_55 : decode prog_65_method_2_code 55 = .ok (.getfield 37, 3) := by decide +kernel
theorem d_BestBlocks_next_58 : decode prog_65_method_2_code 58 = .ok (.iload_n 1, 1) := by decide +kernel
theorem d_BestBlocks_next_59 : decode prog_65_method_2_code 59 = .ok (.iaload, 1) := by decide +kernel
theorem d_BestBlocks_next_60 : decode prog_65_method_2_code 60 = .ok (.putfield 13, 3) := by decide +kernel
theorem d_BestBlocks_next_63 : decode prog_65_method_2_code 63 = .ok (.iload_n 1, 1) := by decide +kernel
theorem d_BestBlocks_next_64 : decode prog_65_method_2_code 64 = .ok (.ireturn, 1) := by decide +kernel
theorem pn_BestBlocks_next : plainFor (⟨"com/example/quern/quern/Postings$BestBlocks", "next", "()I"⟩ : MethodName) = true := plainFor_of_name (by first | (simp [plainName, overriddenIn, x]; done) | decide +kernel)
theorem pd_BestBlocks_next : parseMethodDescriptor "()I" = some ⟨[], (some .int)⟩ := by decide +kernel
set_option maxRecDepth 65536 in
set_option maxHeartbeats 40000000 in
theorem next_44 {p : Program} {l : Launch} {e : Env} {s : State} {m : MethodId} {args : Array Value} {below : List Frame} {meth : Method} {c : Code} {Z : State} {a0 : Array Value} {h0 : Heap} {n0 : Nat} {T0 : State} {locs : List Loc} (hw : ∀ d ∈ tables_1, d.before a0 Z = true) (k : Wk.K p s m meth c Z (⟨"com/example/quern/quern/Postings$BestBlocks", "next", "()I"⟩ : MethodName) prog_65_method_2_code 2 (some .int)) (X0 : Stand p l e ({ frames := 0, cells := 0, slots := 0, locals := 0 } : Room) s m args below meth c T0 locs 0 0) (o fA xA : Addr) (U : List Int32) (n : Nat) (lo : Int) (W : Nat) (fs xs : List Int32) (kq : Nat) (hG : own_Good U n lo W fs xs) (n1 : o ≠ fA) (n2 : o ≠ xA) (g0 : n0 ≤ o) (pp xx : Int32) (hp1 : -1 ≤ pp.toInt) (hp2 : pp.toInt < W) (hI : own_Inv U n lo kq pp.toInt xx.toInt) (hor : ¬ xx < 0 ∨ (xx < 0 ∧ pp.toInt + 1 = W)) (h1 : Heap) (e0 : T0.heap = h1) (K1 : Keep h0 h1 [o]) (N1 : Fr n0 locs) (E1 : Exa Z h1 o "com/example/quern/quern/Postings$BestBlocks") (F1 : Fld Z h1 o "com/example/quern/quern/Postings$BestBlocks" "list" "I" (.int pp)) (F2 : Fld Z h1 o "com/example/quern/quern/Postings$BestBlocks" "next" "I" (.int xx)) (F3 : Fld Z h1 o "com/example/quern/quern/Postings$BestBlocks" "firsts" "[I" (.ref fA)) (F4 : Fld Z h1 o "com/example/quern/quern/Postings$BestBlocks" "nexts" "[I" (.ref xA)) (A1 : Wk.Arl Z h1 fA .int (fs.map Value.int)) (A2 : Wk.Arl Z h1 xA .int (xs.map Value.int)) : Wk.Ends p e s below ({ frames := 0, cells := 0, slots := 0, locals := 0 } : Room) (fun r h L => ∃ z : Int32, r = some (.int z) ∧ own_Got U n kq z.toInt ∧ Fr n0 L ∧ Keep h0 h [o] ∧ own_BB Z h n0 o fA xA U n lo W fs xs (kq + 1)) T0 (mkF m 44 #[.val (.ref o), .unset] []) := by
  refine Wk.aload_n k X0 d_BestBlocks_next_44 rfl rfl 45 rfl ?_
  refine Wk.getfield k X0 d_BestBlocks_next_45 (host := "") (Or.inl (Wk.w hw 18 rfl)) Via.refl e0 F2 48 rfl fun T101 X101 e101 => ?_
  refine Wk.istore_n k X101 d_BestBlocks_next_48 #[.val (.ref o), .val (.int xx)] rfl 49 rfl ?_
  refine Wk.iload_n k X101 d_BestBlocks_next_49 rfl 50 rfl ?_
  refine Wk.if_lt k X101 d_BestBlocks_next_50 (by decide) 63 53 (by decide) rfl (fun hc50 => ?_) (fun hc50 => ?_)
  · refine Wk.iload_n k X101 d_BestBlocks_next_63 rfl 64 rfl ?_
    have hxx : ¬ ¬ xx < 0 := fun q => q hc50
    have hpe := (hor.resolve_left hxx).2
    have hm1 : xx.toInt = -1 := own_neg hI (by rw [Int32.lt_iff_toInt_lt] at hc50; exact hc50)
    have hIm := hI
    rw [hm1] at hIm
    obtain ⟨hg1, hg2⟩ := own_end hIm (fun i hi => by have := hG.2.2.2.2.2.2.2 i hi; omega)
    rw [← hm1] at hg1 hg2
    refine Wk.ret_int k X101 rfl d_BestBlocks_next_64 (by decide) (by decide) ?_
    rw [e101]
    exact ⟨xx, rfl, hg1, N1, K1, pp, _, E1, F1, F2, F3, F4, A1, A2, n1, n2, g0, hp1, hp2, hg2, hG⟩
  · obtain ⟨y, hy, hyn⟩ := own_pos hI (by rw [Int32.lt_iff_toInt_lt] at hc50; exact hc50)
    refine Wk.aload_n k X101 d_BestBlocks_next_53 rfl rfl 54 rfl ?_
    refine Wk.aload_n k X101 d_BestBlocks_next_54 rfl rfl 55 rfl ?_
    refine Wk.getfield k X101 d_BestBlocks_next_55 (host := "") (Or.inl (Wk.w hw 30 rfl)) Via.refl e101 F4 58 rfl fun T102 X102 e102 => ?_
    refine Wk.iload_n k X102 d_BestBlocks_next_58 rfl 59 rfl ?_
    refine Wk.iaload k X102 d_BestBlocks_next_59 e102 A2 y hy (xs.getD y 0) (own_gD (by have := hG.2.1; omega)) 60 rfl ?_
    refine Wk.putfield k X102 d_BestBlocks_next_60 (host := "") (Or.inl (Wk.w hw 18 rfl)) Via.refl e102 F2 E1 (Or.inl (Wk.w hw 19 rfl)) (Wk.w hw 8 rfl) (ty := .int) (by decide) rfl rfl 63 rfl fun T103 h103 X103 e103 W103 => ?_
    have N104 := Fr.snoc X103 N1 g0
    have K105 := K1.wr W103 (Or.inl (List.mem_of_getElem? (i := 0) rfl))
    have f106 := Exa.wr W103 E1
    have f107 := Fld.other W103 F1 (Or.inr (slot_ne (Or.inl (Wk.w hw 17 rfl)) (Or.inl (Wk.w hw 19 rfl)) (by decide) (t := .int) (t' := .int) (by decide) (by decide)))
    have f108 := Fld.other W103 F3 (Or.inr (slot_ne (Or.inr (Wk.w hw 25 rfl)) (Or.inl (Wk.w hw 19 rfl)) (by decide) (t := (.array .int)) (t' := .int) (by decide) (by decide)))
    have f109 := Fld.other W103 F4 (Or.inr (slot_ne (Or.inr (Wk.w hw 31 rfl)) (Or.inl (Wk.w hw 19 rfl)) (by decide) (t := (.array .int)) (t' := .int) (by decide) (by decide)))
    have f110 := A1.other W103 (Ne.symm n1)
    have f111 := A2.other W103 (Ne.symm n2)
    have f112 := Fld.same W103 F2
    refine Wk.iload_n k X103 d_BestBlocks_next_63 rfl 64 rfl ?_
    have hIy := hI
    rw [hy] at hIy
    obtain ⟨hg1, hg2, -⟩ := own_take hIy (hG.2.2.2.2.2.2.1 y hyn)
    rw [← hy] at hg1
    refine Wk.ret_int k X103 rfl d_BestBlocks_next_64 (by decide) (by decide) ?_
    rw [e103]
    exact ⟨xx, rfl, hg1, N104, K105, pp, _, f106, f107, f112, f108, f109, f110, f111, n1, n2, g0, hp1, hp2, hg2, hG⟩
set_option maxRecDepth 65536 in
set_option maxHeartbeats 40000000 in
theorem next_0 {p : Program} {l : Launch} {e : Env} {s : State} {m : MethodId} {args : Array Value} {below : List Frame} {meth : Method} {c : Code} {Z : State} {a0 : Array Value} {h0 : Heap} {n0 : Nat} (hw : ∀ d ∈ tables_1, d.before a0 Z = true) (k : Wk.K p s m meth c Z (⟨"com/example/quern/quern/Postings$BestBlocks", "next", "()I"⟩ : MethodName) prog_65_method_2_code 2 (some .int)) (o fA xA : Addr) (U : List Int32) (n : Nat) (lo : Int) (W : Nat) (fs xs : List Int32) (kq : Nat) (hG : own_Good U n lo W fs xs) (n1 : o ≠ fA) (n2 : o ≠ xA) (g0 : n0 ≤ o) :
    ∀ (d : Nat) (pp xx : Int32), pp.toInt + 1 + d = W → -1 ≤ pp.toInt → pp.toInt < W → own_Inv U n lo kq pp.toInt xx.toInt → ∀ (T0 : State) (h1 : Heap) (locs : List Loc), Stand p l e ({ frames := 0, cells := 0, slots := 0, locals := 0 } : Room) s m args below meth c T0 locs 0 0 → T0.heap = h1 → Keep h0 h1 [o] → Fr n0 locs → Exa Z h1 o "com/example/quern/quern/Postings$BestBlocks" → Fld Z h1 o "com/example/quern/quern/Postings$BestBlocks" "list" "I" (.int pp) → Fld Z h1 o "com/example/quern/quern/Postings$BestBlocks" "next" "I" (.int xx) → Fld Z h1 o "com/example/quern/quern/Postings$BestBlocks" "firsts" "[I" (.ref fA) → Fld Z h1 o "com/example/quern/quern/Postings$BestBlocks" "nexts" "[I" (.ref xA) → Wk.Arl Z h1 fA .int (fs.map Value.int) → Wk.Arl Z h1 xA .int (xs.map Value.int) → Wk.Ends p e s below ({ frames := 0, cells := 0, slots := 0, locals := 0 } : Room) (fun r h L => ∃ z : Int32, r = some (.int z) ∧ own_Got U n kq z.toInt ∧ Fr n0 L ∧ Keep h0 h [o] ∧ own_BB Z h n0 o fA xA U n lo W fs xs (kq + 1)) T0 (mkF m 0 #[.val (.ref o), .unset] []) := by
  intro d
  induction d with
  | zero =>
    intro pp xx hd hp1 hp2 hI T0 h1 locs X0 e0 K1 N1 E1 F1 F2 F3 F4 A1 A2
    have hW := hG.2.2.1
    have hpq : (pp + (1 : Int32)).toInt = pp.toInt + 1 := by have q := c_iadd pp 1; have r := rng32 (pp + 1); have z : (1 : Int32).toInt = 1 := rfl; omega
    refine Wk.aload_n k X0 d_BestBlocks_next_0 rfl rfl 1 rfl ?_
    refine Wk.getfield k X0 d_BestBlocks_next_1 (host := "") (Or.inl (Wk.w hw 18 rfl)) Via.refl e0 F2 4 rfl fun T101 X101 e101 => ?_
    refine Wk.if_ge k X101 d_BestBlocks_next_4 (by decide) 44 7 (by decide) rfl (fun hc4 => ?_) (fun hc4 => ?_)
    · exact next_44 hw k X101 o fA xA U n lo W fs xs kq hG n1 n2 g0 pp xx hp1 hp2 hI (Or.inl hc4) _ e101 K1 N1 E1 F1 F2 F3 F4 A1 A2
    · refine Wk.aload_n k X101 d_BestBlocks_next_7 rfl rfl 8 rfl ?_
      refine Wk.getfield k X101 d_BestBlocks_next_8 (host := "") (Or.inl (Wk.w hw 16 rfl)) Via.refl e101 F1 11 rfl fun T102 X102 e102 => ?_
      refine Wk.iconst k X102 d_BestBlocks_next_11 (1 : Int32) rfl 12 rfl ?_
      refine Wk.iadd k X102 d_BestBlocks_next_12 13 rfl ?_
      refine Wk.aload_n k X102 d_BestBlocks_next_13 rfl rfl 14 rfl ?_
      refine Wk.getfield k X102 d_BestBlocks_next_14 (host := "") (Or.inl (Wk.w hw 24 rfl)) Via.refl e102 F3 17 rfl fun T103 X103 e103 => ?_
      refine Wk.arraylength k X103 d_BestBlocks_next_17 e103 A1 (Int32.ofNat W) (by rw [own_len hG.1]; exact own_oN (by have := hG.2.2.1; omega)) 18 rfl ?_
      refine Wk.icmp_ge k X103 d_BestBlocks_next_18 (by decide) 44 21 (by decide) rfl (fun hc18 => ?_) (fun hc18 => ?_)
      · exact next_44 hw k X103 o fA xA U n lo W fs xs kq hG n1 n2 g0 pp xx hp1 hp2 hI (Or.inr ⟨hc4, by omega⟩) _ e103 K1 N1 E1 F1 F2 F3 F4 A1 A2
      · exact absurd hc18 (by rw [Int32.lt_iff_toInt_lt, own_oN (by have := hG.2.2.1; omega), hpq]; omega)
  | succ d ih =>
    intro pp xx hd hp1 hp2 hI T0 h1 locs X0 e0 K1 N1 E1 F1 F2 F3 F4 A1 A2
    have hW := hG.2.2.1
    have hpq : (pp + (1 : Int32)).toInt = pp.toInt + 1 := by have q := c_iadd pp 1; have r := rng32 (pp + 1); have z : (1 : Int32).toInt = 1 := rfl; omega
    obtain ⟨q, hq, hqW⟩ : ∃ q : Nat, (pp + (1 : Int32)).toInt = (q : Int) ∧ q < W := ⟨(pp + (1 : Int32)).toInt.toNat, by omega, by omega⟩
    refine Wk.aload_n k X0 d_BestBlocks_next_0 rfl rfl 1 rfl ?_
    refine Wk.getfield k X0 d_BestBlocks_next_1 (host := "") (Or.inl (Wk.w hw 18 rfl)) Via.refl e0 F2 4 rfl fun T101 X101 e101 => ?_
    refine Wk.if_ge k X101 d_BestBlocks_next_4 (by decide) 44 7 (by decide) rfl (fun hc4 => ?_) (fun hc4 => ?_)
    · exact next_44 hw k X101 o fA xA U n lo W fs xs kq hG n1 n2 g0 pp xx hp1 hp2 hI (Or.inl hc4) _ e101 K1 N1 E1 F1 F2 F3 F4 A1 A2
    · refine Wk.aload_n k X101 d_BestBlocks_next_7 rfl rfl 8 rfl ?_
      refine Wk.getfield k X101 d_BestBlocks_next_8 (host := "") (Or.inl (Wk.w hw 16 rfl)) Via.refl e101 F1 11 rfl fun T102 X102 e102 => ?_
      refine Wk.iconst k X102 d_BestBlocks_next_11 (1 : Int32) rfl 12 rfl ?_
      refine Wk.iadd k X102 d_BestBlocks_next_12 13 rfl ?_
      refine Wk.aload_n k X102 d_BestBlocks_next_13 rfl rfl 14 rfl ?_
      refine Wk.getfield k X102 d_BestBlocks_next_14 (host := "") (Or.inl (Wk.w hw 24 rfl)) Via.refl e102 F3 17 rfl fun T103 X103 e103 => ?_
      refine Wk.arraylength k X103 d_BestBlocks_next_17 e103 A1 (Int32.ofNat W) (by rw [own_len hG.1]; exact own_oN (by have := hG.2.2.1; omega)) 18 rfl ?_
      refine Wk.icmp_ge k X103 d_BestBlocks_next_18 (by decide) 44 21 (by decide) rfl (fun hc18 => ?_) (fun hc18 => ?_)
      · exact absurd (by rw [Int32.lt_iff_toInt_lt, own_oN (by have := hG.2.2.1; omega), hpq]; omega) hc18
      · refine Wk.aload_n k X103 d_BestBlocks_next_21 rfl rfl 22 rfl ?_
        refine Wk.aload_n k X103 d_BestBlocks_next_22 rfl rfl 23 rfl ?_
        refine Wk.getfield k X103 d_BestBlocks_next_23 (host := "") (Or.inl (Wk.w hw 24 rfl)) Via.refl e103 F3 26 rfl fun T104 X104 e104 => ?_
        refine Wk.aload_n k X104 d_BestBlocks_next_26 rfl rfl 27 rfl ?_
        refine Wk.dup k X104 d_BestBlocks_next_27 rfl 28 rfl ?_
        refine Wk.getfield k X104 d_BestBlocks_next_28 (host := "") (Or.inl (Wk.w hw 16 rfl)) Via.refl e104 F1 31 rfl fun T105 X105 e105 => ?_
        refine Wk.iconst k X105 d_BestBlocks_next_31 (1 : Int32) rfl 32 rfl ?_
        refine Wk.iadd k X105 d_BestBlocks_next_32 33 rfl ?_
        refine Wk.dup_x1 k X105 d_BestBlocks_next_33 rfl rfl 34 rfl ?_
        refine Wk.putfield k X105 d_BestBlocks_next_34 (host := "") (Or.inl (Wk.w hw 16 rfl)) Via.refl e105 F1 E1 (Or.inl (Wk.w hw 17 rfl)) (Wk.w hw 8 rfl) (ty := .int) (by decide) rfl rfl 37 rfl fun T106 h106 X106 e106 W106 => ?_
        have N107 := Fr.snoc X106 N1 g0
        have K108 := K1.wr W106 (Or.inl (List.mem_of_getElem? (i := 0) rfl))
        have f109 := Exa.wr W106 E1
        have f110 := Fld.other W106 F2 (Or.inr (slot_ne (Or.inl (Wk.w hw 19 rfl)) (Or.inl (Wk.w hw 17 rfl)) (by decide) (t := .int) (t' := .int) (by decide) (by decide)))
        have f111 := Fld.other W106 F3 (Or.inr (slot_ne (Or.inr (Wk.w hw 25 rfl)) (Or.inl (Wk.w hw 17 rfl)) (by decide) (t := (.array .int)) (t' := .int) (by decide) (by decide)))
        have f112 := Fld.other W106 F4 (Or.inr (slot_ne (Or.inr (Wk.w hw 31 rfl)) (Or.inl (Wk.w hw 17 rfl)) (by decide) (t := (.array .int)) (t' := .int) (by decide) (by decide)))
        have f113 := A1.other W106 (Ne.symm n1)
        have f114 := A2.other W106 (Ne.symm n2)
        have f115 := Fld.same W106 F1
        refine Wk.iaload k X106 d_BestBlocks_next_37 e106 f113 q hq (fs.getD q 0) (own_gD (by have := hG.1; omega)) 38 rfl ?_
        refine Wk.putfield k X106 d_BestBlocks_next_38 (host := "") (Or.inl (Wk.w hw 18 rfl)) Via.refl e106 f110 f109 (Or.inl (Wk.w hw 19 rfl)) (Wk.w hw 8 rfl) (ty := .int) (by decide) rfl rfl 41 rfl fun T116 h116 X116 e116 W116 => ?_
        have N117 := Fr.snoc X116 N107 g0
        have K118 := K108.wr W116 (Or.inl (List.mem_of_getElem? (i := 0) rfl))
        have f119 := Exa.wr W116 f109
        have f120 := Fld.other W116 f115 (Or.inr (slot_ne (Or.inl (Wk.w hw 17 rfl)) (Or.inl (Wk.w hw 19 rfl)) (by decide) (t := .int) (t' := .int) (by decide) (by decide)))
        have f121 := Fld.other W116 f111 (Or.inr (slot_ne (Or.inr (Wk.w hw 25 rfl)) (Or.inl (Wk.w hw 19 rfl)) (by decide) (t := (.array .int)) (t' := .int) (by decide) (by decide)))
        have f122 := Fld.other W116 f112 (Or.inr (slot_ne (Or.inr (Wk.w hw 31 rfl)) (Or.inl (Wk.w hw 19 rfl)) (by decide) (t := (.array .int)) (t' := .int) (by decide) (by decide)))
        have f123 := f113.other W116 (Ne.symm n1)
        have f124 := f114.other W116 (Ne.symm n2)
        have f125 := Fld.same W116 f110
        refine Wk.goto k X116 d_BestBlocks_next_41 (by decide) 0 (by decide) ?_
        have hm1 : xx.toInt = -1 := own_neg hI (by rw [Int32.lt_iff_toInt_lt] at hc4; exact hc4)
        have hIm := hI
        rw [hm1] at hIm
        have hfq := hG.2.2.2.2.2.1 q (by omega)
        rw [show (lo + (q : Int)) = lo + (pp.toInt + 1) by omega] at hfq
        have had := own_adv hIm hfq
        rw [← hpq] at had
        exact ih _ _ (by omega) (by omega) (by omega) had _ _ _ X116 e116 K118 N117 f119 f120 f125 f121 f122 f123 f124
theorem ef_nxt (m : MethodId) (o : Addr) : entryFrame m #[(.ref o)] 2 = mkF m 0 #[.val (.ref o), .unset] [] := by first | (simp [entryFrame, mkF, argsToLocals, Value.category]; done) | rfl
set_option maxRecDepth 65536 in
set_option maxHeartbeats 40000000 in
theorem rm_nxt (l : Launch) (Z : State) (a0 : Array Value) (hw : ∀ d ∈ tables_1, d.before a0 Z = true) (o : Addr) (fA xA : Addr) (U : List Int32) (n : Nat) (lo : Int) (W : Nat) (fs xs : List Int32) (kq : Nat) (h0 : Heap) (n0 : Nat) (B0 : own_BB Z h0 n0 o fA xA U n lo W fs xs kq) : Wk.Met l (⟨"com/example/quern/quern/Postings$BestBlocks", "next", "()I"⟩ : MethodName) prog_65_method_2_code 2 (some .int) ({ frames := 0, cells := 0, slots := 0, locals := 0 } : Room) #[(.ref o)] Z h0 (fun r h L => ∃ z : Int32, r = some (.int z) ∧ own_Got U n kq z.toInt ∧ Fr n0 L ∧ Keep h0 h [o] ∧ own_BB Z h n0 o fA xA U n lo W fs xs (kq + 1)) [] := by
  refine Wk.enter pn_BestBlocks_next (fun p e s m below meth c T0 k X0 e0 => ?_)
  refine (Wk.Ends.cast (ef_nxt m o) ?_)
  obtain ⟨pp, xx, E1, F1, F2, F3, F4, A1, A2, n1, n2, g0, hp1, hp2, hI, hG⟩ := B0
  exact next_0 hw k o fA xA U n lo W fs xs kq hG n1 n2 g0 (W - 1 - pp.toInt).toNat pp xx (by omega) hp1 hp2 hI _ _ _ X0 e0 (Keep.refl _ _) (Fr.nil _) E1 F1 F2 F3 F4 A1 A2
theorem pn_BestBlocksNextPinLaw_law : plainFor x = true := plainFor_of_name (by first | (simp [plainName, overriddenIn, x]; done) | decide +kernel)
set_option maxRecDepth 65536 in
set_option maxHeartbeats 40000000 in
theorem law_8_0 {p : Program} {l : Launch} {e : Env} {s : State} {m : MethodId} {args : Array Value} {below : List Frame} {meth : Method} {c : Code} {Z : State} {a0 : Array Value} {h0 : Heap} {n0 : Nat} {T0 : State} (hw : ∀ d ∈ tables_1, d.before a0 Z = true) (k : Wk.K p s m meth c Z x code maxLocals ret) (X0 : Stand p l e room_1 s m args below meth c T0 [] 0 0) (p0 p1 p2 p3 p4 : Int32) (e0 : T0.heap = h0) (Z0 : n0 ≤ h0.size) (N0 : Fr n0 []) : Wk.Ends p e s below room_1 (fun v _ L => v = some (.int 1) ∧ Fr n0 L) T0 (mkF m 8 #[.val (.int p0), .val (.int p1), .val (.int p2), .val (.int p3), .val (.int p4), .val (.int (0 : Int32)), .unset, .unset, .unset, .unset, .unset, .unset, .unset, .unset, .unset, .unset] []) := by
  have hcs : ∀ i, i < 0 → (([] : List Int32).getD i 0 &&& (255 : Int32)) = ([(p1 &&& (255 : Int32)), (p2 &&& (255 : Int32)), (p3 &&& (255 : Int32)), (p4 &&& (255 : Int32))] : List Int32).getD i 0 := fun i hi => by
    exact absurd hi (Nat.not_lt_zero _)
  refine Wk.iload k X0 at_8 rfl 10 rfl ?_
  refine Wk.newarray k X0 at_10 (Wk.w hw 1 rfl) e0 0 rfl 0 (by decide) (by decide) (by decide) (by decide) 12 rfl fun T1 h1 b1 q1 X1 e1 E1 A1 => ?_
  have g1 : n0 ≤ b1 := by rw [q1]; exact Z0
  have sz1 := Nat.le_trans Z0 E1.1
  have A1' : Wk.Arl Z h1 b1 .byte (([] : List Int32).map Value.int) := A1
  refine Wk.astore k X1 at_12 rfl #[.val (.int p0), .val (.int p1), .val (.int p2), .val (.int p3), .val (.int p4), .val (.int (0 : Int32)), .val (.ref b1), .unset, .unset, .unset, .unset, .unset, .unset, .unset, .unset, .unset] rfl 14 rfl ?_
  refine Wk.iload k X1 at_14 rfl 16 rfl ?_
  refine Wk.if_le k X1 at_16 (by decide) 25 19 (by decide) rfl (fun hc16 => ?_) (fun hc16 => ?_)
  · refine Wk.iload k X1 at_25 rfl 27 rfl ?_
    refine Wk.iconst k X1 at_27 (1 : Int32) rfl 28 rfl ?_
    refine Wk.icmp_le k X1 at_28 (by decide) 37 31 (by decide) rfl (fun hc28 => ?_) (fun hc28 => ?_)
    · refine Wk.iload k X1 at_37 rfl 39 rfl ?_
      refine Wk.iconst k X1 at_39 (2 : Int32) rfl 40 rfl ?_
      refine Wk.icmp_le k X1 at_40 (by decide) 49 43 (by decide) rfl (fun hc40 => ?_) (fun hc40 => ?_)
      · refine Wk.iload k X1 at_49 rfl 51 rfl ?_
        refine Wk.iconst k X1 at_51 (3 : Int32) rfl 52 rfl ?_
        refine Wk.icmp_le k X1 at_52 (by decide) 62 55 (by decide) rfl (fun hc52 => ?_) (fun hc52 => ?_)
        · refine Wk.iconst k X1 at_62 (4 : Int32) rfl 63 rfl ?_
          refine Wk.newarray k X1 at_63 (Wk.w hw 2 rfl) e1 4 rfl 4 (by decide) (by decide) (by decide) (by decide) 65 rfl fun T2 h2 b2 q2 X2 e2 E2 A2 => ?_
          have g2 : n0 ≤ b2 := by rw [q2]; exact sz1
          have ne3 : b1 ≠ b2 := by rw [q2]; exact Nat.ne_of_lt A1'.lt
          have sz2 := Nat.le_trans sz1 E2.1
          have f4 := A1'.ext E2
          have A2' : Wk.Arl Z h2 b2 .int (([(0 : Int32), (0 : Int32), (0 : Int32), (0 : Int32)] : List Int32).map Value.int) := A2
          refine Wk.dup k X2 at_65 rfl 66 rfl ?_
          refine Wk.iconst k X2 at_66 (0 : Int32) rfl 67 rfl ?_
          refine Wk.iload_n k X2 at_67 rfl 68 rfl ?_
          refine Wk.sipush k X2 at_68 (255 : Int32) rfl 71 rfl ?_
          refine Wk.iand k X2 at_71 72 rfl ?_
          refine Wk.iastore k X2 (x := (p1 &&& (255 : Int32))) at_72 e2 A2' 0 rfl (show 0 < 4 from by decide) 73 rfl fun T5 h5 X5 e5 W5 A5 => ?_
          have sz5 : n0 ≤ h5.size := by rw [W5.size]; exact sz2
          have N6 := Fr.snoc X5 N0 g2
          have f7 := f4.other W5 ne3
          have A5' : Wk.Arl Z h5 b2 .int (([(p1 &&& (255 : Int32)), (0 : Int32), (0 : Int32), (0 : Int32)] : List Int32).map Value.int) := A5
          refine Wk.dup k X5 at_73 rfl 74 rfl ?_
          refine Wk.iconst k X5 at_74 (1 : Int32) rfl 75 rfl ?_
          refine Wk.iload_n k X5 at_75 rfl 76 rfl ?_
          refine Wk.sipush k X5 at_76 (255 : Int32) rfl 79 rfl ?_
          refine Wk.iand k X5 at_79 80 rfl ?_
          refine Wk.iastore k X5 (x := (p2 &&& (255 : Int32))) at_80 e5 A5' 1 rfl (show 1 < 4 from by decide) 81 rfl fun T8 h8 X8 e8 W8 A8 => ?_
          have sz8 : n0 ≤ h8.size := by rw [W8.size]; exact sz5
          have N9 := Fr.snoc X8 N6 g2
          have f10 := f7.other W8 ne3
          have A8' : Wk.Arl Z h8 b2 .int (([(p1 &&& (255 : Int32)), (p2 &&& (255 : Int32)), (0 : Int32), (0 : Int32)] : List Int32).map Value.int) := A8
          refine Wk.dup k X8 at_81 rfl 82 rfl ?_
          refine Wk.iconst k X8 at_82 (2 : Int32) rfl 83 rfl ?_
          refine Wk.iload_n k X8 at_83 rfl 84 rfl ?_
          refine Wk.sipush k X8 at_84 (255 : Int32) rfl 87 rfl ?_
          refine Wk.iand k X8 at_87 88 rfl ?_
          refine Wk.iastore k X8 (x := (p3 &&& (255 : Int32))) at_88 e8 A8' 2 rfl (show 2 < 4 from by decide) 89 rfl fun T11 h11 X11 e11 W11 A11 => ?_
          have sz11 : n0 ≤ h11.size := by rw [W11.size]; exact sz8
          have N12 := Fr.snoc X11 N9 g2
          have f13 := f10.other W11 ne3
          have A11' : Wk.Arl Z h11 b2 .int (([(p1 &&& (255 : Int32)), (p2 &&& (255 : Int32)), (p3 &&& (255 : Int32)), (0 : Int32)] : List Int32).map Value.int) := A11
          refine Wk.dup k X11 at_89 rfl 90 rfl ?_
          refine Wk.iconst k X11 at_90 (3 : Int32) rfl 91 rfl ?_
          refine Wk.iload k X11 at_91 rfl 93 rfl ?_
          refine Wk.sipush k X11 at_93 (255 : Int32) rfl 96 rfl ?_
          refine Wk.iand k X11 at_96 97 rfl ?_
          refine Wk.iastore k X11 (x := (p4 &&& (255 : Int32))) at_97 e11 A11' 3 rfl (show 3 < 4 from by decide) 98 rfl fun T14 h14 X14 e14 W14 A14 => ?_
          have sz14 : n0 ≤ h14.size := by rw [W14.size]; exact sz11
          have N15 := Fr.snoc X14 N12 g2
          have f16 := f13.other W14 ne3
          have A14' : Wk.Arl Z h14 b2 .int (([(p1 &&& (255 : Int32)), (p2 &&& (255 : Int32)), (p3 &&& (255 : Int32)), (p4 &&& (255 : Int32))] : List Int32).map Value.int) := A14
          refine Wk.astore k X14 at_98 rfl #[.val (.int p0), .val (.int p1), .val (.int p2), .val (.int p3), .val (.int p4), .val (.int (0 : Int32)), .val (.ref b1), .val (.ref b2), .unset, .unset, .unset, .unset, .unset, .unset, .unset, .unset] rfl 100 rfl ?_
          refine Wk.bipush k X14 at_100 (6 : Int32) rfl 102 rfl ?_
          refine Wk.newarray k X14 at_102 (Wk.w hw 2 rfl) e14 6 rfl 6 (by decide) (by decide) (by decide) (by decide) 104 rfl fun T17 h17 b17 q17 X17 e17 E17 A17 => ?_
          have g17 : n0 ≤ b17 := by rw [q17]; exact sz14
          have ne18 : b1 ≠ b17 := by rw [q17]; exact Nat.ne_of_lt f16.lt
          have ne19 : b2 ≠ b17 := by rw [q17]; exact Nat.ne_of_lt A14'.lt
          have sz17 := Nat.le_trans sz14 E17.1
          have f20 := f16.ext E17
          have f21 := A14'.ext E17
          have A17' : Wk.Arl Z h17 b17 .int (([(0 : Int32), (0 : Int32), (0 : Int32), (0 : Int32), (0 : Int32), (0 : Int32)] : List Int32).map Value.int) := A17
          refine Wk.dup k X17 at_104 rfl 105 rfl ?_
          refine Wk.iconst k X17 at_105 (0 : Int32) rfl 106 rfl ?_
          refine Wk.iconst k X17 at_106 (-1 : Int32) rfl 107 rfl ?_
          refine Wk.iastore k X17 (x := (-1 : Int32)) at_107 e17 A17' 0 rfl (show 0 < 6 from by decide) 108 rfl fun T22 h22 X22 e22 W22 A22 => ?_
          have sz22 : n0 ≤ h22.size := by rw [W22.size]; exact sz17
          have N23 := Fr.snoc X22 N15 g17
          have f24 := f20.other W22 ne18
          have f25 := f21.other W22 ne19
          have A22' : Wk.Arl Z h22 b17 .int (([(-1 : Int32), (0 : Int32), (0 : Int32), (0 : Int32), (0 : Int32), (0 : Int32)] : List Int32).map Value.int) := A22
          refine Wk.dup k X22 at_108 rfl 109 rfl ?_
          refine Wk.iconst k X22 at_109 (1 : Int32) rfl 110 rfl ?_
          refine Wk.iconst k X22 at_110 (-1 : Int32) rfl 111 rfl ?_
          refine Wk.iastore k X22 (x := (-1 : Int32)) at_111 e22 A22' 1 rfl (show 1 < 6 from by decide) 112 rfl fun T26 h26 X26 e26 W26 A26 => ?_
          have sz26 : n0 ≤ h26.size := by rw [W26.size]; exact sz22
          have N27 := Fr.snoc X26 N23 g17
          have f28 := f24.other W26 ne18
          have f29 := f25.other W26 ne19
          have A26' : Wk.Arl Z h26 b17 .int (([(-1 : Int32), (-1 : Int32), (0 : Int32), (0 : Int32), (0 : Int32), (0 : Int32)] : List Int32).map Value.int) := A26
          refine Wk.dup k X26 at_112 rfl 113 rfl ?_
          refine Wk.iconst k X26 at_113 (2 : Int32) rfl 114 rfl ?_
          refine Wk.iconst k X26 at_114 (-1 : Int32) rfl 115 rfl ?_
          refine Wk.iastore k X26 (x := (-1 : Int32)) at_115 e26 A26' 2 rfl (show 2 < 6 from by decide) 116 rfl fun T30 h30 X30 e30 W30 A30 => ?_
          have sz30 : n0 ≤ h30.size := by rw [W30.size]; exact sz26
          have N31 := Fr.snoc X30 N27 g17
          have f32 := f28.other W30 ne18
          have f33 := f29.other W30 ne19
          have A30' : Wk.Arl Z h30 b17 .int (([(-1 : Int32), (-1 : Int32), (-1 : Int32), (0 : Int32), (0 : Int32), (0 : Int32)] : List Int32).map Value.int) := A30
          refine Wk.dup k X30 at_116 rfl 117 rfl ?_
          refine Wk.iconst k X30 at_117 (3 : Int32) rfl 118 rfl ?_
          refine Wk.iconst k X30 at_118 (-1 : Int32) rfl 119 rfl ?_
          refine Wk.iastore k X30 (x := (-1 : Int32)) at_119 e30 A30' 3 rfl (show 3 < 6 from by decide) 120 rfl fun T34 h34 X34 e34 W34 A34 => ?_
          have sz34 : n0 ≤ h34.size := by rw [W34.size]; exact sz30
          have N35 := Fr.snoc X34 N31 g17
          have f36 := f32.other W34 ne18
          have f37 := f33.other W34 ne19
          have A34' : Wk.Arl Z h34 b17 .int (([(-1 : Int32), (-1 : Int32), (-1 : Int32), (-1 : Int32), (0 : Int32), (0 : Int32)] : List Int32).map Value.int) := A34
          refine Wk.dup k X34 at_120 rfl 121 rfl ?_
          refine Wk.iconst k X34 at_121 (4 : Int32) rfl 122 rfl ?_
          refine Wk.iconst k X34 at_122 (-1 : Int32) rfl 123 rfl ?_
          refine Wk.iastore k X34 (x := (-1 : Int32)) at_123 e34 A34' 4 rfl (show 4 < 6 from by decide) 124 rfl fun T38 h38 X38 e38 W38 A38 => ?_
          have sz38 : n0 ≤ h38.size := by rw [W38.size]; exact sz34
          have N39 := Fr.snoc X38 N35 g17
          have f40 := f36.other W38 ne18
          have f41 := f37.other W38 ne19
          have A38' : Wk.Arl Z h38 b17 .int (([(-1 : Int32), (-1 : Int32), (-1 : Int32), (-1 : Int32), (-1 : Int32), (0 : Int32)] : List Int32).map Value.int) := A38
          refine Wk.dup k X38 at_124 rfl 125 rfl ?_
          refine Wk.iconst k X38 at_125 (5 : Int32) rfl 126 rfl ?_
          refine Wk.iconst k X38 at_126 (-1 : Int32) rfl 127 rfl ?_
          refine Wk.iastore k X38 (x := (-1 : Int32)) at_127 e38 A38' 5 rfl (show 5 < 6 from by decide) 128 rfl fun T42 h42 X42 e42 W42 A42 => ?_
          have sz42 : n0 ≤ h42.size := by rw [W42.size]; exact sz38
          have N43 := Fr.snoc X42 N39 g17
          have f44 := f40.other W42 ne18
          have f45 := f41.other W42 ne19
          have A42' : Wk.Arl Z h42 b17 .int (([(-1 : Int32), (-1 : Int32), (-1 : Int32), (-1 : Int32), (-1 : Int32), (-1 : Int32)] : List Int32).map Value.int) := A42
          refine Wk.astore k X42 at_128 rfl #[.val (.int p0), .val (.int p1), .val (.int p2), .val (.int p3), .val (.int p4), .val (.int (0 : Int32)), .val (.ref b1), .val (.ref b2), .val (.ref b17), .unset, .unset, .unset, .unset, .unset, .unset, .unset] rfl 130 rfl ?_
          refine Wk.aload k X42 at_130 rfl rfl 132 rfl ?_
          refine Wk.aload k X42 at_132 rfl rfl 134 rfl ?_
          refine Wk.iload k X42 at_134 rfl 136 rfl ?_
          refine Wk.iconst k X42 at_136 (0 : Int32) rfl 137 rfl ?_
          have AE : Wk.Arl Z h42 b17 .int ((own_E ([(p1 &&& (255 : Int32)), (p2 &&& (255 : Int32)), (p3 &&& (255 : Int32)), (p4 &&& (255 : Int32))] : List Int32) 0 0).map Value.int) := A42'
          refine Wk.callS k X42 [(.ref b17), (.ref b2), (.int (0 : Int32)), (.int (0 : Int32))] [] at_137 (rm_pla l Z a0 hw b17 b2 (0 : Int32) ([(p1 &&& (255 : Int32)), (p2 &&& (255 : Int32)), (p3 &&& (255 : Int32)), (p4 &&& (255 : Int32))] : List Int32) (own_E ([(p1 &&& (255 : Int32)), (p2 &&& (255 : Int32)), (p3 &&& (255 : Int32)), (p4 &&& (255 : Int32))] : List Int32) 0 0) 0 0 h42 n0 rfl (own_E_len _ _ _) (by decide) rfl (by decide) (Ne.symm ne19) g17 f45 AE) e42 (Wk.w hw 3 rfl) (Wk.w hw 4 rfl) (Wk.w hw 5 rfl) (Wk.w hw 6 rfl) (by decide) rfl pd_BestBlocksNextPinLaw_place rfl rfl (Nat.le_of_ble_eq_true rfl) (Nat.le_of_ble_eq_true rfl) (Nat.le_of_ble_eq_true rfl) (Nat.le_of_ble_eq_true rfl) 140 rfl fun T46 v46 L46 X46 hQ46 => ?_
          obtain ⟨rfl, N46q, K46q, A46q⟩ := hQ46
          show Wk.Ends _ _ _ _ _ _ _ (mkF m 140 _ [])
          have A46 : Wk.Arl Z T46.heap b17 .int ((own_E ([(p1 &&& (255 : Int32)), (p2 &&& (255 : Int32)), (p3 &&& (255 : Int32)), (p4 &&& (255 : Int32))] : List Int32) 0 1).map Value.int) := A46q
          have N46 := Fr.app N43 N46q
          have f47 := f44.keep K46q (ninS ne18 nin0)
          have f48 := f45.keep K46q (ninS ne19 nin0)
          have sz46 := Nat.le_trans sz42 K46q.1
          refine Wk.aload k X46 at_140 rfl rfl 142 rfl ?_
          refine Wk.aload k X46 at_142 rfl rfl 144 rfl ?_
          refine Wk.iload k X46 at_144 rfl 146 rfl ?_
          refine Wk.iconst k X46 at_146 (1 : Int32) rfl 147 rfl ?_
          refine Wk.callS k X46 [(.ref b17), (.ref b2), (.int (0 : Int32)), (.int (1 : Int32))] [] at_147 (rm_pla l Z a0 hw b17 b2 (0 : Int32) ([(p1 &&& (255 : Int32)), (p2 &&& (255 : Int32)), (p3 &&& (255 : Int32)), (p4 &&& (255 : Int32))] : List Int32) (own_E ([(p1 &&& (255 : Int32)), (p2 &&& (255 : Int32)), (p3 &&& (255 : Int32)), (p4 &&& (255 : Int32))] : List Int32) 0 1) 0 1 T46.heap n0 rfl (own_E_len _ _ _) (by decide) rfl (by decide) (Ne.symm ne19) g17 f48 A46) (rfl : T46.heap = T46.heap) (Wk.w hw 3 rfl) (Wk.w hw 4 rfl) (Wk.w hw 5 rfl) (Wk.w hw 6 rfl) (by decide) rfl pd_BestBlocksNextPinLaw_place rfl rfl (Nat.le_of_ble_eq_true rfl) (Nat.le_of_ble_eq_true rfl) (Nat.le_of_ble_eq_true rfl) (Nat.le_of_ble_eq_true rfl) 150 rfl fun T49 v49 L49 X49 hQ49 => ?_
          obtain ⟨rfl, N49q, K49q, A49q⟩ := hQ49
          show Wk.Ends _ _ _ _ _ _ _ (mkF m 150 _ [])
          have A49 : Wk.Arl Z T49.heap b17 .int ((own_E ([(p1 &&& (255 : Int32)), (p2 &&& (255 : Int32)), (p3 &&& (255 : Int32)), (p4 &&& (255 : Int32))] : List Int32) 0 2).map Value.int) := A49q
          have N49 := Fr.app N46 N49q
          have f50 := f47.keep K49q (ninS ne18 nin0)
          have f51 := f48.keep K49q (ninS ne19 nin0)
          have sz49 := Nat.le_trans sz46 K49q.1
          refine Wk.aload k X49 at_150 rfl rfl 152 rfl ?_
          refine Wk.aload k X49 at_152 rfl rfl 154 rfl ?_
          refine Wk.iload k X49 at_154 rfl 156 rfl ?_
          refine Wk.iconst k X49 at_156 (2 : Int32) rfl 157 rfl ?_
          refine Wk.callS k X49 [(.ref b17), (.ref b2), (.int (0 : Int32)), (.int (2 : Int32))] [] at_157 (rm_pla l Z a0 hw b17 b2 (0 : Int32) ([(p1 &&& (255 : Int32)), (p2 &&& (255 : Int32)), (p3 &&& (255 : Int32)), (p4 &&& (255 : Int32))] : List Int32) (own_E ([(p1 &&& (255 : Int32)), (p2 &&& (255 : Int32)), (p3 &&& (255 : Int32)), (p4 &&& (255 : Int32))] : List Int32) 0 2) 0 2 T49.heap n0 rfl (own_E_len _ _ _) (by decide) rfl (by decide) (Ne.symm ne19) g17 f51 A49) (rfl : T49.heap = T49.heap) (Wk.w hw 3 rfl) (Wk.w hw 4 rfl) (Wk.w hw 5 rfl) (Wk.w hw 6 rfl) (by decide) rfl pd_BestBlocksNextPinLaw_place rfl rfl (Nat.le_of_ble_eq_true rfl) (Nat.le_of_ble_eq_true rfl) (Nat.le_of_ble_eq_true rfl) (Nat.le_of_ble_eq_true rfl) 160 rfl fun T52 v52 L52 X52 hQ52 => ?_
          obtain ⟨rfl, N52q, K52q, A52q⟩ := hQ52
          show Wk.Ends _ _ _ _ _ _ _ (mkF m 160 _ [])
          have A52 : Wk.Arl Z T52.heap b17 .int ((own_E ([(p1 &&& (255 : Int32)), (p2 &&& (255 : Int32)), (p3 &&& (255 : Int32)), (p4 &&& (255 : Int32))] : List Int32) 0 3).map Value.int) := A52q
          have N52 := Fr.app N49 N52q
          have f53 := f50.keep K52q (ninS ne18 nin0)
          have f54 := f51.keep K52q (ninS ne19 nin0)
          have sz52 := Nat.le_trans sz49 K52q.1
          refine Wk.aload k X52 at_160 rfl rfl 162 rfl ?_
          refine Wk.aload k X52 at_162 rfl rfl 164 rfl ?_
          refine Wk.iload k X52 at_164 rfl 166 rfl ?_
          refine Wk.iconst k X52 at_166 (3 : Int32) rfl 167 rfl ?_
          refine Wk.callS k X52 [(.ref b17), (.ref b2), (.int (0 : Int32)), (.int (3 : Int32))] [] at_167 (rm_pla l Z a0 hw b17 b2 (0 : Int32) ([(p1 &&& (255 : Int32)), (p2 &&& (255 : Int32)), (p3 &&& (255 : Int32)), (p4 &&& (255 : Int32))] : List Int32) (own_E ([(p1 &&& (255 : Int32)), (p2 &&& (255 : Int32)), (p3 &&& (255 : Int32)), (p4 &&& (255 : Int32))] : List Int32) 0 3) 0 3 T52.heap n0 rfl (own_E_len _ _ _) (by decide) rfl (by decide) (Ne.symm ne19) g17 f54 A52) (rfl : T52.heap = T52.heap) (Wk.w hw 3 rfl) (Wk.w hw 4 rfl) (Wk.w hw 5 rfl) (Wk.w hw 6 rfl) (by decide) rfl pd_BestBlocksNextPinLaw_place rfl rfl (Nat.le_of_ble_eq_true rfl) (Nat.le_of_ble_eq_true rfl) (Nat.le_of_ble_eq_true rfl) (Nat.le_of_ble_eq_true rfl) 170 rfl fun T55 v55 L55 X55 hQ55 => ?_
          obtain ⟨rfl, N55q, K55q, A55q⟩ := hQ55
          show Wk.Ends _ _ _ _ _ _ _ (mkF m 170 _ [])
          have A55 : Wk.Arl Z T55.heap b17 .int ((own_E ([(p1 &&& (255 : Int32)), (p2 &&& (255 : Int32)), (p3 &&& (255 : Int32)), (p4 &&& (255 : Int32))] : List Int32) 0 4).map Value.int) := A55q
          have N55 := Fr.app N52 N55q
          have f56 := f53.keep K55q (ninS ne18 nin0)
          have f57 := f54.keep K55q (ninS ne19 nin0)
          have sz55 := Nat.le_trans sz52 K55q.1
          refine Wk.new k X55 at_170 (Wk.w hw 7 rfl) (Wk.w hw 8 rfl) (Wk.w hw 9 rfl) (rfl : T55.heap = T55.heap) (by decide) (by decide) 173 rfl fun T58 h58 b58 q58 X58 e58 E58 A58 D58 => ?_
          have g58 : n0 ≤ b58 := by rw [q58]; exact sz55
          have ne59 : b1 ≠ b58 := by rw [q58]; exact Nat.ne_of_lt f56.lt
          have ne60 : b2 ≠ b58 := by rw [q58]; exact Nat.ne_of_lt f57.lt
          have ne61 : b17 ≠ b58 := by rw [q58]; exact Nat.ne_of_lt A55.lt
          have sz58 := Nat.le_trans sz55 E58.1
          have f62 := f56.ext E58
          have f63 := f57.ext E58
          have f64 := A55.ext E58
          have f65 : Fld Z h58 b58 "com/example/quern/quern/Postings$BestBlocks" "list" "I" (.int (0 : Int32)) := D58 (Or.inl (Wk.w hw 17 rfl)) (ty := .int) (by decide)
          have f66 : Fld Z h58 b58 "com/example/quern/quern/Postings$BestBlocks" "next" "I" (.int (0 : Int32)) := D58 (Or.inl (Wk.w hw 19 rfl)) (ty := .int) (by decide)
          have f67 : Fld Z h58 b58 "com/example/quern/quern/Postings$BestBlocks" "firsts" "[I" .null := D58 (Or.inr (Wk.w hw 25 rfl)) (ty := (.array .int)) (by decide)
          have f68 : Fld Z h58 b58 "com/example/quern/quern/Postings$BestBlocks" "nexts" "[I" .null := D58 (Or.inr (Wk.w hw 31 rfl)) (ty := (.array .int)) (by decide)
          refine Wk.dup k X58 at_173 rfl 174 rfl ?_
          refine Wk.aload k X58 at_174 rfl rfl 176 rfl ?_
          refine Wk.callI k X58 [(.ref b1)] [(.ref b58)] at_176 (rm_ini l Z a0 hw b58 b1 h58 n0 ([(p1 &&& (255 : Int32)), (p2 &&& (255 : Int32)), (p3 &&& (255 : Int32)), (p4 &&& (255 : Int32))] : List Int32) ([] : List Int32) 0 (by decide) rfl hcs g58 sz58 (Ne.symm ne59) _ _ _ _ A58 f65 f66 f67 f68 f62) e58 rfl (Wk.w hw 10 rfl) (Wk.w hw 11 rfl) (Wk.w hw 9 rfl) (Wk.w hw 12 rfl) (by decide) rfl pd_BestBlocks_init rfl rfl (Nat.le_of_ble_eq_true rfl) (Nat.le_of_ble_eq_true rfl) (Nat.le_of_ble_eq_true rfl) (Nat.le_of_ble_eq_true rfl) 179 rfl fun T69 v69 L69 X69 hQ69 => ?_
          obtain ⟨rfl, N69q, K69q, fA, xA, lo, W, fs, xs, B0⟩ := hQ69
          show Wk.Ends _ _ _ _ _ _ _ (mkF m 179 _ [(.ref b58)])
          have N69 := Fr.app N55 N69q
          have f70 := f62.keep K69q (ninS ne59 nin0)
          have f71 := f63.keep K69q (ninS ne60 nin0)
          have f72 := f64.keep K69q (ninS ne61 nin0)
          have f73 := A58.keep K69q
          refine Wk.astore k X69 at_179 rfl #[.val (.int p0), .val (.int p1), .val (.int p2), .val (.int p3), .val (.int p4), .val (.int (0 : Int32)), .val (.ref b1), .val (.ref b2), .val (.ref b17), .val (.ref b58), .unset, .unset, .unset, .unset, .unset, .unset] rfl 181 rfl ?_
          refine Wk.aload k X69 at_181 rfl rfl 183 rfl ?_
          refine Wk.callV k X69 [] [] at_183 (rm_nxt l Z a0 hw b58 fA xA _ _ lo W fs xs 0 T69.heap n0 B0) (rfl : T69.heap = T69.heap) f73 (Wk.w hw 32 rfl) (Wk.w hw 33 rfl) (Wk.w hw 35 rfl) (Wk.w hw 34 rfl) (Wk.w hw 9 rfl) (Wk.w hw 36 rfl) (by decide) rfl pd_BestBlocks_next rfl rfl (Nat.le_of_ble_eq_true rfl) (Nat.le_of_ble_eq_true rfl) (Nat.le_of_ble_eq_true rfl) (Nat.le_of_ble_eq_true rfl) 186 rfl fun T74 v74 L74 X74 hQ74 => ?_
          obtain ⟨r0, rfl, G0, N74q, K74q, B1⟩ := hQ74
          show Wk.Ends _ _ _ _ _ _ _ (mkF m 186 _ [(.int r0)])
          have N74 := Fr.app N69 N74q
          have f75 := f70.keep K74q (ninS ne59 nin0)
          have f76 := f71.keep K74q (ninS ne60 nin0)
          have f77 := f72.keep K74q (ninS ne61 nin0)
          have f78 := f73.keep K74q
          refine Wk.istore k X74 at_186 #[.val (.int p0), .val (.int p1), .val (.int p2), .val (.int p3), .val (.int p4), .val (.int (0 : Int32)), .val (.ref b1), .val (.ref b2), .val (.ref b17), .val (.ref b58), .val (.int r0), .unset, .unset, .unset, .unset, .unset] rfl 188 rfl ?_
          refine Wk.aload k X74 at_188 rfl rfl 190 rfl ?_
          refine Wk.callV k X74 [] [] at_190 (rm_nxt l Z a0 hw b58 fA xA _ _ lo W fs xs 1 T74.heap n0 B1) (rfl : T74.heap = T74.heap) f78 (Wk.w hw 32 rfl) (Wk.w hw 33 rfl) (Wk.w hw 35 rfl) (Wk.w hw 34 rfl) (Wk.w hw 9 rfl) (Wk.w hw 36 rfl) (by decide) rfl pd_BestBlocks_next rfl rfl (Nat.le_of_ble_eq_true rfl) (Nat.le_of_ble_eq_true rfl) (Nat.le_of_ble_eq_true rfl) (Nat.le_of_ble_eq_true rfl) 193 rfl fun T79 v79 L79 X79 hQ79 => ?_
          obtain ⟨r1, rfl, G1, N79q, K79q, B2⟩ := hQ79
          show Wk.Ends _ _ _ _ _ _ _ (mkF m 193 _ [(.int r1)])
          have N79 := Fr.app N74 N79q
          have f80 := f75.keep K79q (ninS ne59 nin0)
          have f81 := f76.keep K79q (ninS ne60 nin0)
          have f82 := f77.keep K79q (ninS ne61 nin0)
          have f83 := f78.keep K79q
          refine Wk.istore k X79 at_193 #[.val (.int p0), .val (.int p1), .val (.int p2), .val (.int p3), .val (.int p4), .val (.int (0 : Int32)), .val (.ref b1), .val (.ref b2), .val (.ref b17), .val (.ref b58), .val (.int r0), .val (.int r1), .unset, .unset, .unset, .unset] rfl 195 rfl ?_
          refine Wk.aload k X79 at_195 rfl rfl 197 rfl ?_
          refine Wk.callV k X79 [] [] at_197 (rm_nxt l Z a0 hw b58 fA xA _ _ lo W fs xs 2 T79.heap n0 B2) (rfl : T79.heap = T79.heap) f83 (Wk.w hw 32 rfl) (Wk.w hw 33 rfl) (Wk.w hw 35 rfl) (Wk.w hw 34 rfl) (Wk.w hw 9 rfl) (Wk.w hw 36 rfl) (by decide) rfl pd_BestBlocks_next rfl rfl (Nat.le_of_ble_eq_true rfl) (Nat.le_of_ble_eq_true rfl) (Nat.le_of_ble_eq_true rfl) (Nat.le_of_ble_eq_true rfl) 200 rfl fun T84 v84 L84 X84 hQ84 => ?_
          obtain ⟨r2, rfl, G2, N84q, K84q, B3⟩ := hQ84
          show Wk.Ends _ _ _ _ _ _ _ (mkF m 200 _ [(.int r2)])
          have N84 := Fr.app N79 N84q
          have f85 := f80.keep K84q (ninS ne59 nin0)
          have f86 := f81.keep K84q (ninS ne60 nin0)
          have f87 := f82.keep K84q (ninS ne61 nin0)
          have f88 := f83.keep K84q
          refine Wk.istore k X84 at_200 #[.val (.int p0), .val (.int p1), .val (.int p2), .val (.int p3), .val (.int p4), .val (.int (0 : Int32)), .val (.ref b1), .val (.ref b2), .val (.ref b17), .val (.ref b58), .val (.int r0), .val (.int r1), .val (.int r2), .unset, .unset, .unset] rfl 202 rfl ?_
          refine Wk.aload k X84 at_202 rfl rfl 204 rfl ?_
          refine Wk.callV k X84 [] [] at_204 (rm_nxt l Z a0 hw b58 fA xA _ _ lo W fs xs 3 T84.heap n0 B3) (rfl : T84.heap = T84.heap) f88 (Wk.w hw 32 rfl) (Wk.w hw 33 rfl) (Wk.w hw 35 rfl) (Wk.w hw 34 rfl) (Wk.w hw 9 rfl) (Wk.w hw 36 rfl) (by decide) rfl pd_BestBlocks_next rfl rfl (Nat.le_of_ble_eq_true rfl) (Nat.le_of_ble_eq_true rfl) (Nat.le_of_ble_eq_true rfl) (Nat.le_of_ble_eq_true rfl) 207 rfl fun T89 v89 L89 X89 hQ89 => ?_
          obtain ⟨r3, rfl, G3, N89q, K89q, B4⟩ := hQ89
          show Wk.Ends _ _ _ _ _ _ _ (mkF m 207 _ [(.int r3)])
          have N89 := Fr.app N84 N89q
          have f90 := f85.keep K89q (ninS ne59 nin0)
          have f91 := f86.keep K89q (ninS ne60 nin0)
          have f92 := f87.keep K89q (ninS ne61 nin0)
          have f93 := f88.keep K89q
          refine Wk.istore k X89 at_207 #[.val (.int p0), .val (.int p1), .val (.int p2), .val (.int p3), .val (.int p4), .val (.int (0 : Int32)), .val (.ref b1), .val (.ref b2), .val (.ref b17), .val (.ref b58), .val (.int r0), .val (.int r1), .val (.int r2), .val (.int r3), .unset, .unset] rfl 209 rfl ?_
          refine Wk.aload k X89 at_209 rfl rfl 211 rfl ?_
          refine Wk.callV k X89 [] [] at_211 (rm_nxt l Z a0 hw b58 fA xA _ _ lo W fs xs 4 T89.heap n0 B4) (rfl : T89.heap = T89.heap) f93 (Wk.w hw 32 rfl) (Wk.w hw 33 rfl) (Wk.w hw 35 rfl) (Wk.w hw 34 rfl) (Wk.w hw 9 rfl) (Wk.w hw 36 rfl) (by decide) rfl pd_BestBlocks_next rfl rfl (Nat.le_of_ble_eq_true rfl) (Nat.le_of_ble_eq_true rfl) (Nat.le_of_ble_eq_true rfl) (Nat.le_of_ble_eq_true rfl) 214 rfl fun T94 v94 L94 X94 hQ94 => ?_
          obtain ⟨r4, rfl, G4, N94q, K94q, B5⟩ := hQ94
          show Wk.Ends _ _ _ _ _ _ _ (mkF m 214 _ [(.int r4)])
          have N94 := Fr.app N89 N94q
          have f95 := f90.keep K94q (ninS ne59 nin0)
          have f96 := f91.keep K94q (ninS ne60 nin0)
          have f97 := f92.keep K94q (ninS ne61 nin0)
          have f98 := f93.keep K94q
          refine Wk.istore k X94 at_214 #[.val (.int p0), .val (.int p1), .val (.int p2), .val (.int p3), .val (.int p4), .val (.int (0 : Int32)), .val (.ref b1), .val (.ref b2), .val (.ref b17), .val (.ref b58), .val (.int r0), .val (.int r1), .val (.int r2), .val (.int r3), .val (.int r4), .unset] rfl 216 rfl ?_
          refine Wk.aload k X94 at_216 rfl rfl 218 rfl ?_
          refine Wk.callV k X94 [] [] at_218 (rm_nxt l Z a0 hw b58 fA xA _ _ lo W fs xs 5 T94.heap n0 B5) (rfl : T94.heap = T94.heap) f98 (Wk.w hw 32 rfl) (Wk.w hw 33 rfl) (Wk.w hw 35 rfl) (Wk.w hw 34 rfl) (Wk.w hw 9 rfl) (Wk.w hw 36 rfl) (by decide) rfl pd_BestBlocks_next rfl rfl (Nat.le_of_ble_eq_true rfl) (Nat.le_of_ble_eq_true rfl) (Nat.le_of_ble_eq_true rfl) (Nat.le_of_ble_eq_true rfl) 221 rfl fun T99 v99 L99 X99 hQ99 => ?_
          obtain ⟨r5, rfl, G5, N99q, K99q, B6⟩ := hQ99
          show Wk.Ends _ _ _ _ _ _ _ (mkF m 221 _ [(.int r5)])
          have N99 := Fr.app N94 N99q
          have f100 := f95.keep K99q (ninS ne59 nin0)
          have f101 := f96.keep K99q (ninS ne60 nin0)
          have f102 := f97.keep K99q (ninS ne61 nin0)
          have f103 := f98.keep K99q
          refine Wk.istore k X99 at_221 #[.val (.int p0), .val (.int p1), .val (.int p2), .val (.int p3), .val (.int p4), .val (.int (0 : Int32)), .val (.ref b1), .val (.ref b2), .val (.ref b17), .val (.ref b58), .val (.int r0), .val (.int r1), .val (.int r2), .val (.int r3), .val (.int r4), .val (.int r5)] rfl 223 rfl ?_
          refine Wk.iload k X99 at_223 rfl 225 rfl ?_
          refine Wk.aload k X99 at_225 rfl rfl 227 rfl ?_
          refine Wk.iconst k X99 at_227 (0 : Int32) rfl 228 rfl ?_
          refine Wk.iaload k X99 at_228 (rfl : T99.heap = T99.heap) f102 0 rfl ((own_E ([(p1 &&& (255 : Int32)), (p2 &&& (255 : Int32)), (p3 &&& (255 : Int32)), (p4 &&& (255 : Int32))] : List Int32) 0 4).getD 0 0) (own_gD (by rw [own_E_len]; decide)) 229 rfl ?_
          refine Wk.icmp_ne k X99 at_229 (by decide) 281 232 (by decide) rfl (fun hc229 => ?_) (fun hc229 => ?_)
          · exact absurd (own_same (by decide) (by decide) G0) hc229
          · refine Wk.iload k X99 at_232 rfl 234 rfl ?_
            refine Wk.aload k X99 at_234 rfl rfl 236 rfl ?_
            refine Wk.iconst k X99 at_236 (1 : Int32) rfl 237 rfl ?_
            refine Wk.iaload k X99 at_237 (rfl : T99.heap = T99.heap) f102 1 rfl ((own_E ([(p1 &&& (255 : Int32)), (p2 &&& (255 : Int32)), (p3 &&& (255 : Int32)), (p4 &&& (255 : Int32))] : List Int32) 0 4).getD 1 0) (own_gD (by rw [own_E_len]; decide)) 238 rfl ?_
            refine Wk.icmp_ne k X99 at_238 (by decide) 281 241 (by decide) rfl (fun hc238 => ?_) (fun hc238 => ?_)
            · exact absurd (own_same (by decide) (by decide) G1) hc238
            · refine Wk.iload k X99 at_241 rfl 243 rfl ?_
              refine Wk.aload k X99 at_243 rfl rfl 245 rfl ?_
              refine Wk.iconst k X99 at_245 (2 : Int32) rfl 246 rfl ?_
              refine Wk.iaload k X99 at_246 (rfl : T99.heap = T99.heap) f102 2 rfl ((own_E ([(p1 &&& (255 : Int32)), (p2 &&& (255 : Int32)), (p3 &&& (255 : Int32)), (p4 &&& (255 : Int32))] : List Int32) 0 4).getD 2 0) (own_gD (by rw [own_E_len]; decide)) 247 rfl ?_
              refine Wk.icmp_ne k X99 at_247 (by decide) 281 250 (by decide) rfl (fun hc247 => ?_) (fun hc247 => ?_)
              · exact absurd (own_same (by decide) (by decide) G2) hc247
              · refine Wk.iload k X99 at_250 rfl 252 rfl ?_
                refine Wk.aload k X99 at_252 rfl rfl 254 rfl ?_
                refine Wk.iconst k X99 at_254 (3 : Int32) rfl 255 rfl ?_
                refine Wk.iaload k X99 at_255 (rfl : T99.heap = T99.heap) f102 3 rfl ((own_E ([(p1 &&& (255 : Int32)), (p2 &&& (255 : Int32)), (p3 &&& (255 : Int32)), (p4 &&& (255 : Int32))] : List Int32) 0 4).getD 3 0) (own_gD (by rw [own_E_len]; decide)) 256 rfl ?_
                refine Wk.icmp_ne k X99 at_256 (by decide) 281 259 (by decide) rfl (fun hc256 => ?_) (fun hc256 => ?_)
                · exact absurd (own_same (by decide) (by decide) G3) hc256
                · refine Wk.iload k X99 at_259 rfl 261 rfl ?_
                  refine Wk.aload k X99 at_261 rfl rfl 263 rfl ?_
                  refine Wk.iconst k X99 at_263 (4 : Int32) rfl 264 rfl ?_
                  refine Wk.iaload k X99 at_264 (rfl : T99.heap = T99.heap) f102 4 rfl ((own_E ([(p1 &&& (255 : Int32)), (p2 &&& (255 : Int32)), (p3 &&& (255 : Int32)), (p4 &&& (255 : Int32))] : List Int32) 0 4).getD 4 0) (own_gD (by rw [own_E_len]; decide)) 265 rfl ?_
                  refine Wk.icmp_ne k X99 at_265 (by decide) 281 268 (by decide) rfl (fun hc265 => ?_) (fun hc265 => ?_)
                  · exact absurd (own_same (by decide) (by decide) G4) hc265
                  · refine Wk.iload k X99 at_268 rfl 270 rfl ?_
                    refine Wk.aload k X99 at_270 rfl rfl 272 rfl ?_
                    refine Wk.iconst k X99 at_272 (5 : Int32) rfl 273 rfl ?_
                    refine Wk.iaload k X99 at_273 (rfl : T99.heap = T99.heap) f102 5 rfl ((own_E ([(p1 &&& (255 : Int32)), (p2 &&& (255 : Int32)), (p3 &&& (255 : Int32)), (p4 &&& (255 : Int32))] : List Int32) 0 4).getD 5 0) (own_gD (by rw [own_E_len]; decide)) 274 rfl ?_
                    refine Wk.icmp_ne k X99 at_274 (by decide) 281 277 (by decide) rfl (fun hc274 => ?_) (fun hc274 => ?_)
                    · exact absurd (own_same (by decide) (by decide) G5) hc274
                    · refine Wk.iconst k X99 at_277 (1 : Int32) rfl 278 rfl ?_
                      refine Wk.goto k X99 at_278 (by decide) 282 (by decide) ?_
                      exact Wk.ret_bool k X99 rfl at_282 (by decide) (by decide) (by decide) ⟨rfl, N99⟩
        · first | exact absurd hc52 (by decide) | exact absurd (by decide) hc52
      · first | exact absurd hc40 (by decide) | exact absurd (by decide) hc40
    · first | exact absurd hc28 (by decide) | exact absurd (by decide) hc28
  · first | exact absurd hc16 (by decide) | exact absurd (by decide) hc16
set_option maxRecDepth 65536 in
set_option maxHeartbeats 40000000 in
theorem law_8_1 {p : Program} {l : Launch} {e : Env} {s : State} {m : MethodId} {args : Array Value} {below : List Frame} {meth : Method} {c : Code} {Z : State} {a0 : Array Value} {h0 : Heap} {n0 : Nat} {T0 : State} (hw : ∀ d ∈ tables_1, d.before a0 Z = true) (k : Wk.K p s m meth c Z x code maxLocals ret) (X0 : Stand p l e room_1 s m args below meth c T0 [] 0 0) (p0 p1 p2 p3 p4 : Int32) (e0 : T0.heap = h0) (Z0 : n0 ≤ h0.size) (N0 : Fr n0 []) : Wk.Ends p e s below room_1 (fun v _ L => v = some (.int 1) ∧ Fr n0 L) T0 (mkF m 8 #[.val (.int p0), .val (.int p1), .val (.int p2), .val (.int p3), .val (.int p4), .val (.int (1 : Int32)), .unset, .unset, .unset, .unset, .unset, .unset, .unset, .unset, .unset, .unset] []) := by
  have hcs : ∀ i, i < 1 → (([(p1).toInt8.toInt32] : List Int32).getD i 0 &&& (255 : Int32)) = ([(p1 &&& (255 : Int32)), (p2 &&& (255 : Int32)), (p3 &&& (255 : Int32)), (p4 &&& (255 : Int32))] : List Int32).getD i 0 := fun i hi => by
    match i, hi with
    | 0, _ => exact own_b255 p1
  refine Wk.iload k X0 at_8 rfl 10 rfl ?_
  refine Wk.newarray k X0 at_10 (Wk.w hw 1 rfl) e0 1 rfl 1 (by decide) (by decide) (by decide) (by decide) 12 rfl fun T1 h1 b1 q1 X1 e1 E1 A1 => ?_
  have g1 : n0 ≤ b1 := by rw [q1]; exact Z0
  have sz1 := Nat.le_trans Z0 E1.1
  have A1' : Wk.Arl Z h1 b1 .byte (([(0 : Int32)] : List Int32).map Value.int) := A1
  refine Wk.astore k X1 at_12 rfl #[.val (.int p0), .val (.int p1), .val (.int p2), .val (.int p3), .val (.int p4), .val (.int (1 : Int32)), .val (.ref b1), .unset, .unset, .unset, .unset, .unset, .unset, .unset, .unset, .unset] rfl 14 rfl ?_
  refine Wk.iload k X1 at_14 rfl 16 rfl ?_
  refine Wk.if_le k X1 at_16 (by decide) 25 19 (by decide) rfl (fun hc16 => ?_) (fun hc16 => ?_)
  · first | exact absurd hc16 (by decide) | exact absurd (by decide) hc16
  · refine Wk.aload k X1 at_19 rfl rfl 21 rfl ?_
    refine Wk.iconst k X1 at_21 (0 : Int32) rfl 22 rfl ?_
    refine Wk.iload_n k X1 at_22 rfl 23 rfl ?_
    refine Wk.i2b k X1 at_23 24 rfl ?_
    refine Wk.bastore k X1 (x := ((p1).toInt8.toInt32)) at_24 e1 A1' 0 rfl (show 0 < 1 from by decide) ((p1).toInt8.toInt32) (own_b8 _) 25 rfl fun T2 h2 X2 e2 W2 A2 => ?_
    have sz2 : n0 ≤ h2.size := by rw [W2.size]; exact sz1
    have N3 := Fr.snoc X2 N0 g1
    have A2' : Wk.Arl Z h2 b1 .byte (([((p1).toInt8.toInt32)] : List Int32).map Value.int) := A2
    refine Wk.iload k X2 at_25 rfl 27 rfl ?_
    refine Wk.iconst k X2 at_27 (1 : Int32) rfl 28 rfl ?_
    refine Wk.icmp_le k X2 at_28 (by decide) 37 31 (by decide) rfl (fun hc28 => ?_) (fun hc28 => ?_)
    · refine Wk.iload k X2 at_37 rfl 39 rfl ?_
      refine Wk.iconst k X2 at_39 (2 : Int32) rfl 40 rfl ?_
      refine Wk.icmp_le k X2 at_40 (by decide) 49 43 (by decide) rfl (fun hc40 => ?_) (fun hc40 => ?_)
      · refine Wk.iload k X2 at_49 rfl 51 rfl ?_
        refine Wk.iconst k X2 at_51 (3 : Int32) rfl 52 rfl ?_
        refine Wk.icmp_le k X2 at_52 (by decide) 62 55 (by decide) rfl (fun hc52 => ?_) (fun hc52 => ?_)
        · refine Wk.iconst k X2 at_62 (4 : Int32) rfl 63 rfl ?_
          refine Wk.newarray k X2 at_63 (Wk.w hw 2 rfl) e2 4 rfl 4 (by decide) (by decide) (by decide) (by decide) 65 rfl fun T4 h4 b4 q4 X4 e4 E4 A4 => ?_
          have g4 : n0 ≤ b4 := by rw [q4]; exact sz2
          have ne5 : b1 ≠ b4 := by rw [q4]; exact Nat.ne_of_lt A2'.lt
          have sz4 := Nat.le_trans sz2 E4.1
          have f6 := A2'.ext E4
          have A4' : Wk.Arl Z h4 b4 .int (([(0 : Int32), (0 : Int32), (0 : Int32), (0 : Int32)] : List Int32).map Value.int) := A4
          refine Wk.dup k X4 at_65 rfl 66 rfl ?_
          refine Wk.iconst k X4 at_66 (0 : Int32) rfl 67 rfl ?_
          refine Wk.iload_n k X4 at_67 rfl 68 rfl ?_
          refine Wk.sipush k X4 at_68 (255 : Int32) rfl 71 rfl ?_
          refine Wk.iand k X4 at_71 72 rfl ?_
          refine Wk.iastore k X4 (x := (p1 &&& (255 : Int32))) at_72 e4 A4' 0 rfl (show 0 < 4 from by decide) 73 rfl fun T7 h7 X7 e7 W7 A7 => ?_
          have sz7 : n0 ≤ h7.size := by rw [W7.size]; exact sz4
          have N8 := Fr.snoc X7 N3 g4
          have f9 := f6.other W7 ne5
          have A7' : Wk.Arl Z h7 b4 .int (([(p1 &&& (255 : Int32)), (0 : Int32), (0 : Int32), (0 : Int32)] : List Int32).map Value.int) := A7
          refine Wk.dup k X7 at_73 rfl 74 rfl ?_
          refine Wk.iconst k X7 at_74 (1 : Int32) rfl 75 rfl ?_
          refine Wk.iload_n k X7 at_75 rfl 76 rfl ?_
          refine Wk.sipush k X7 at_76 (255 : Int32) rfl 79 rfl ?_
          refine Wk.iand k X7 at_79 80 rfl ?_
          refine Wk.iastore k X7 (x := (p2 &&& (255 : Int32))) at_80 e7 A7' 1 rfl (show 1 < 4 from by decide) 81 rfl fun T10 h10 X10 e10 W10 A10 => ?_
          have sz10 : n0 ≤ h10.size := by rw [W10.size]; exact sz7
          have N11 := Fr.snoc X10 N8 g4
          have f12 := f9.other W10 ne5
          have A10' : Wk.Arl Z h10 b4 .int (([(p1 &&& (255 : Int32)), (p2 &&& (255 : Int32)), (0 : Int32), (0 : Int32)] : List Int32).map Value.int) := A10
          refine Wk.dup k X10 at_81 rfl 82 rfl ?_
          refine Wk.iconst k X10 at_82 (2 : Int32) rfl 83 rfl ?_
          refine Wk.iload_n k X10 at_83 rfl 84 rfl ?_
          refine Wk.sipush k X10 at_84 (255 : Int32) rfl 87 rfl ?_
          refine Wk.iand k X10 at_87 88 rfl ?_
          refine Wk.iastore k X10 (x := (p3 &&& (255 : Int32))) at_88 e10 A10' 2 rfl (show 2 < 4 from by decide) 89 rfl fun T13 h13 X13 e13 W13 A13 => ?_
          have sz13 : n0 ≤ h13.size := by rw [W13.size]; exact sz10
          have N14 := Fr.snoc X13 N11 g4
          have f15 := f12.other W13 ne5
          have A13' : Wk.Arl Z h13 b4 .int (([(p1 &&& (255 : Int32)), (p2 &&& (255 : Int32)), (p3 &&& (255 : Int32)), (0 : Int32)] : List Int32).map Value.int) := A13
          refine Wk.dup k X13 at_89 rfl 90 rfl ?_
          refine Wk.iconst k X13 at_90 (3 : Int32) rfl 91 rfl ?_
          refine Wk.iload k X13 at_91 rfl 93 rfl ?_
          refine Wk.sipush k X13 at_93 (255 : Int32) rfl 96 rfl ?_
          refine Wk.iand k X13 at_96 97 rfl ?_
          refine Wk.iastore k X13 (x := (p4 &&& (255 : Int32))) at_97 e13 A13' 3 rfl (show 3 < 4 from by decide) 98 rfl fun T16 h16 X16 e16 W16 A16 => ?_
          have sz16 : n0 ≤ h16.size := by rw [W16.size]; exact sz13
          have N17 := Fr.snoc X16 N14 g4
          have f18 := f15.other W16 ne5
          have A16' : Wk.Arl Z h16 b4 .int (([(p1 &&& (255 : Int32)), (p2 &&& (255 : Int32)), (p3 &&& (255 : Int32)), (p4 &&& (255 : Int32))] : List Int32).map Value.int) := A16
          refine Wk.astore k X16 at_98 rfl #[.val (.int p0), .val (.int p1), .val (.int p2), .val (.int p3), .val (.int p4), .val (.int (1 : Int32)), .val (.ref b1), .val (.ref b4), .unset, .unset, .unset, .unset, .unset, .unset, .unset, .unset] rfl 100 rfl ?_
          refine Wk.bipush k X16 at_100 (6 : Int32) rfl 102 rfl ?_
          refine Wk.newarray k X16 at_102 (Wk.w hw 2 rfl) e16 6 rfl 6 (by decide) (by decide) (by decide) (by decide) 104 rfl fun T19 h19 b19 q19 X19 e19 E19 A19 => ?_
          have g19 : n0 ≤ b19 := by rw [q19]; exact sz16
          have ne20 : b1 ≠ b19 := by rw [q19]; exact Nat.ne_of_lt f18.lt
          have ne21 : b4 ≠ b19 := by rw [q19]; exact Nat.ne_of_lt A16'.lt
          have sz19 := Nat.le_trans sz16 E19.1
          have f22 := f18.ext E19
          have f23 := A16'.ext E19
          have A19' : Wk.Arl Z h19 b19 .int (([(0 : Int32), (0 : Int32), (0 : Int32), (0 : Int32), (0 : Int32), (0 : Int32)] : List Int32).map Value.int) := A19
          refine Wk.dup k X19 at_104 rfl 105 rfl ?_
          refine Wk.iconst k X19 at_105 (0 : Int32) rfl 106 rfl ?_
          refine Wk.iconst k X19 at_106 (-1 : Int32) rfl 107 rfl ?_
          refine Wk.iastore k X19 (x := (-1 : Int32)) at_107 e19 A19' 0 rfl (show 0 < 6 from by decide) 108 rfl fun T24 h24 X24 e24 W24 A24 => ?_
          have sz24 : n0 ≤ h24.size := by rw [W24.size]; exact sz19
          have N25 := Fr.snoc X24 N17 g19
          have f26 := f22.other W24 ne20
          have f27 := f23.other W24 ne21
          have A24' : Wk.Arl Z h24 b19 .int (([(-1 : Int32), (0 : Int32), (0 : Int32), (0 : Int32), (0 : Int32), (0 : Int32)] : List Int32).map Value.int) := A24
          refine Wk.dup k X24 at_108 rfl 109 rfl ?_
          refine Wk.iconst k X24 at_109 (1 : Int32) rfl 110 rfl ?_
          refine Wk.iconst k X24 at_110 (-1 : Int32) rfl 111 rfl ?_
          refine Wk.iastore k X24 (x := (-1 : Int32)) at_111 e24 A24' 1 rfl (show 1 < 6 from by decide) 112 rfl fun T28 h28 X28 e28 W28 A28 => ?_
          have sz28 : n0 ≤ h28.size := by rw [W28.size]; exact sz24
          have N29 := Fr.snoc X28 N25 g19
          have f30 := f26.other W28 ne20
          have f31 := f27.other W28 ne21
          have A28' : Wk.Arl Z h28 b19 .int (([(-1 : Int32), (-1 : Int32), (0 : Int32), (0 : Int32), (0 : Int32), (0 : Int32)] : List Int32).map Value.int) := A28
          refine Wk.dup k X28 at_112 rfl 113 rfl ?_
          refine Wk.iconst k X28 at_113 (2 : Int32) rfl 114 rfl ?_
          refine Wk.iconst k X28 at_114 (-1 : Int32) rfl 115 rfl ?_
          refine Wk.iastore k X28 (x := (-1 : Int32)) at_115 e28 A28' 2 rfl (show 2 < 6 from by decide) 116 rfl fun T32 h32 X32 e32 W32 A32 => ?_
          have sz32 : n0 ≤ h32.size := by rw [W32.size]; exact sz28
          have N33 := Fr.snoc X32 N29 g19
          have f34 := f30.other W32 ne20
          have f35 := f31.other W32 ne21
          have A32' : Wk.Arl Z h32 b19 .int (([(-1 : Int32), (-1 : Int32), (-1 : Int32), (0 : Int32), (0 : Int32), (0 : Int32)] : List Int32).map Value.int) := A32
          refine Wk.dup k X32 at_116 rfl 117 rfl ?_
          refine Wk.iconst k X32 at_117 (3 : Int32) rfl 118 rfl ?_
          refine Wk.iconst k X32 at_118 (-1 : Int32) rfl 119 rfl ?_
          refine Wk.iastore k X32 (x := (-1 : Int32)) at_119 e32 A32' 3 rfl (show 3 < 6 from by decide) 120 rfl fun T36 h36 X36 e36 W36 A36 => ?_
          have sz36 : n0 ≤ h36.size := by rw [W36.size]; exact sz32
          have N37 := Fr.snoc X36 N33 g19
          have f38 := f34.other W36 ne20
          have f39 := f35.other W36 ne21
          have A36' : Wk.Arl Z h36 b19 .int (([(-1 : Int32), (-1 : Int32), (-1 : Int32), (-1 : Int32), (0 : Int32), (0 : Int32)] : List Int32).map Value.int) := A36
          refine Wk.dup k X36 at_120 rfl 121 rfl ?_
          refine Wk.iconst k X36 at_121 (4 : Int32) rfl 122 rfl ?_
          refine Wk.iconst k X36 at_122 (-1 : Int32) rfl 123 rfl ?_
          refine Wk.iastore k X36 (x := (-1 : Int32)) at_123 e36 A36' 4 rfl (show 4 < 6 from by decide) 124 rfl fun T40 h40 X40 e40 W40 A40 => ?_
          have sz40 : n0 ≤ h40.size := by rw [W40.size]; exact sz36
          have N41 := Fr.snoc X40 N37 g19
          have f42 := f38.other W40 ne20
          have f43 := f39.other W40 ne21
          have A40' : Wk.Arl Z h40 b19 .int (([(-1 : Int32), (-1 : Int32), (-1 : Int32), (-1 : Int32), (-1 : Int32), (0 : Int32)] : List Int32).map Value.int) := A40
          refine Wk.dup k X40 at_124 rfl 125 rfl ?_
          refine Wk.iconst k X40 at_125 (5 : Int32) rfl 126 rfl ?_
          refine Wk.iconst k X40 at_126 (-1 : Int32) rfl 127 rfl ?_
          refine Wk.iastore k X40 (x := (-1 : Int32)) at_127 e40 A40' 5 rfl (show 5 < 6 from by decide) 128 rfl fun T44 h44 X44 e44 W44 A44 => ?_
          have sz44 : n0 ≤ h44.size := by rw [W44.size]; exact sz40
          have N45 := Fr.snoc X44 N41 g19
          have f46 := f42.other W44 ne20
          have f47 := f43.other W44 ne21
          have A44' : Wk.Arl Z h44 b19 .int (([(-1 : Int32), (-1 : Int32), (-1 : Int32), (-1 : Int32), (-1 : Int32), (-1 : Int32)] : List Int32).map Value.int) := A44
          refine Wk.astore k X44 at_128 rfl #[.val (.int p0), .val (.int p1), .val (.int p2), .val (.int p3), .val (.int p4), .val (.int (1 : Int32)), .val (.ref b1), .val (.ref b4), .val (.ref b19), .unset, .unset, .unset, .unset, .unset, .unset, .unset] rfl 130 rfl ?_
          refine Wk.aload k X44 at_130 rfl rfl 132 rfl ?_
          refine Wk.aload k X44 at_132 rfl rfl 134 rfl ?_
          refine Wk.iload k X44 at_134 rfl 136 rfl ?_
          refine Wk.iconst k X44 at_136 (0 : Int32) rfl 137 rfl ?_
          have AE : Wk.Arl Z h44 b19 .int ((own_E ([(p1 &&& (255 : Int32)), (p2 &&& (255 : Int32)), (p3 &&& (255 : Int32)), (p4 &&& (255 : Int32))] : List Int32) 1 0).map Value.int) := A44'
          refine Wk.callS k X44 [(.ref b19), (.ref b4), (.int (1 : Int32)), (.int (0 : Int32))] [] at_137 (rm_pla l Z a0 hw b19 b4 (1 : Int32) ([(p1 &&& (255 : Int32)), (p2 &&& (255 : Int32)), (p3 &&& (255 : Int32)), (p4 &&& (255 : Int32))] : List Int32) (own_E ([(p1 &&& (255 : Int32)), (p2 &&& (255 : Int32)), (p3 &&& (255 : Int32)), (p4 &&& (255 : Int32))] : List Int32) 1 0) 1 0 h44 n0 rfl (own_E_len _ _ _) (by decide) rfl (by decide) (Ne.symm ne21) g19 f47 AE) e44 (Wk.w hw 3 rfl) (Wk.w hw 4 rfl) (Wk.w hw 5 rfl) (Wk.w hw 6 rfl) (by decide) rfl pd_BestBlocksNextPinLaw_place rfl rfl (Nat.le_of_ble_eq_true rfl) (Nat.le_of_ble_eq_true rfl) (Nat.le_of_ble_eq_true rfl) (Nat.le_of_ble_eq_true rfl) 140 rfl fun T48 v48 L48 X48 hQ48 => ?_
          obtain ⟨rfl, N48q, K48q, A48q⟩ := hQ48
          show Wk.Ends _ _ _ _ _ _ _ (mkF m 140 _ [])
          have A48 : Wk.Arl Z T48.heap b19 .int ((own_E ([(p1 &&& (255 : Int32)), (p2 &&& (255 : Int32)), (p3 &&& (255 : Int32)), (p4 &&& (255 : Int32))] : List Int32) 1 1).map Value.int) := A48q
          have N48 := Fr.app N45 N48q
          have f49 := f46.keep K48q (ninS ne20 nin0)
          have f50 := f47.keep K48q (ninS ne21 nin0)
          have sz48 := Nat.le_trans sz44 K48q.1
          refine Wk.aload k X48 at_140 rfl rfl 142 rfl ?_
          refine Wk.aload k X48 at_142 rfl rfl 144 rfl ?_
          refine Wk.iload k X48 at_144 rfl 146 rfl ?_
          refine Wk.iconst k X48 at_146 (1 : Int32) rfl 147 rfl ?_
          refine Wk.callS k X48 [(.ref b19), (.ref b4), (.int (1 : Int32)), (.int (1 : Int32))] [] at_147 (rm_pla l Z a0 hw b19 b4 (1 : Int32) ([(p1 &&& (255 : Int32)), (p2 &&& (255 : Int32)), (p3 &&& (255 : Int32)), (p4 &&& (255 : Int32))] : List Int32) (own_E ([(p1 &&& (255 : Int32)), (p2 &&& (255 : Int32)), (p3 &&& (255 : Int32)), (p4 &&& (255 : Int32))] : List Int32) 1 1) 1 1 T48.heap n0 rfl (own_E_len _ _ _) (by decide) rfl (by decide) (Ne.symm ne21) g19 f50 A48) (rfl : T48.heap = T48.heap) (Wk.w hw 3 rfl) (Wk.w hw 4 rfl) (Wk.w hw 5 rfl) (Wk.w hw 6 rfl) (by decide) rfl pd_BestBlocksNextPinLaw_place rfl rfl (Nat.le_of_ble_eq_true rfl) (Nat.le_of_ble_eq_true rfl) (Nat.le_of_ble_eq_true rfl) (Nat.le_of_ble_eq_true rfl) 150 rfl fun T51 v51 L51 X51 hQ51 => ?_
          obtain ⟨rfl, N51q, K51q, A51q⟩ := hQ51
          show Wk.Ends _ _ _ _ _ _ _ (mkF m 150 _ [])
          have A51 : Wk.Arl Z T51.heap b19 .int ((own_E ([(p1 &&& (255 : Int32)), (p2 &&& (255 : Int32)), (p3 &&& (255 : Int32)), (p4 &&& (255 : Int32))] : List Int32) 1 2).map Value.int) := A51q
          have N51 := Fr.app N48 N51q
          have f52 := f49.keep K51q (ninS ne20 nin0)
          have f53 := f50.keep K51q (ninS ne21 nin0)
          have sz51 := Nat.le_trans sz48 K51q.1
          refine Wk.aload k X51 at_150 rfl rfl 152 rfl ?_
          refine Wk.aload k X51 at_152 rfl rfl 154 rfl ?_
          refine Wk.iload k X51 at_154 rfl 156 rfl ?_
          refine Wk.iconst k X51 at_156 (2 : Int32) rfl 157 rfl ?_
          refine Wk.callS k X51 [(.ref b19), (.ref b4), (.int (1 : Int32)), (.int (2 : Int32))] [] at_157 (rm_pla l Z a0 hw b19 b4 (1 : Int32) ([(p1 &&& (255 : Int32)), (p2 &&& (255 : Int32)), (p3 &&& (255 : Int32)), (p4 &&& (255 : Int32))] : List Int32) (own_E ([(p1 &&& (255 : Int32)), (p2 &&& (255 : Int32)), (p3 &&& (255 : Int32)), (p4 &&& (255 : Int32))] : List Int32) 1 2) 1 2 T51.heap n0 rfl (own_E_len _ _ _) (by decide) rfl (by decide) (Ne.symm ne21) g19 f53 A51) (rfl : T51.heap = T51.heap) (Wk.w hw 3 rfl) (Wk.w hw 4 rfl) (Wk.w hw 5 rfl) (Wk.w hw 6 rfl) (by decide) rfl pd_BestBlocksNextPinLaw_place rfl rfl (Nat.le_of_ble_eq_true rfl) (Nat.le_of_ble_eq_true rfl) (Nat.le_of_ble_eq_true rfl) (Nat.le_of_ble_eq_true rfl) 160 rfl fun T54 v54 L54 X54 hQ54 => ?_
          obtain ⟨rfl, N54q, K54q, A54q⟩ := hQ54
          show Wk.Ends _ _ _ _ _ _ _ (mkF m 160 _ [])
          have A54 : Wk.Arl Z T54.heap b19 .int ((own_E ([(p1 &&& (255 : Int32)), (p2 &&& (255 : Int32)), (p3 &&& (255 : Int32)), (p4 &&& (255 : Int32))] : List Int32) 1 3).map Value.int) := A54q
          have N54 := Fr.app N51 N54q
          have f55 := f52.keep K54q (ninS ne20 nin0)
          have f56 := f53.keep K54q (ninS ne21 nin0)
          have sz54 := Nat.le_trans sz51 K54q.1
          refine Wk.aload k X54 at_160 rfl rfl 162 rfl ?_
          refine Wk.aload k X54 at_162 rfl rfl 164 rfl ?_
          refine Wk.iload k X54 at_164 rfl 166 rfl ?_
          refine Wk.iconst k X54 at_166 (3 : Int32) rfl 167 rfl ?_
          refine Wk.callS k X54 [(.ref b19), (.ref b4), (.int (1 : Int32)), (.int (3 : Int32))] [] at_167 (rm_pla l Z a0 hw b19 b4 (1 : Int32) ([(p1 &&& (255 : Int32)), (p2 &&& (255 : Int32)), (p3 &&& (255 : Int32)), (p4 &&& (255 : Int32))] : List Int32) (own_E ([(p1 &&& (255 : Int32)), (p2 &&& (255 : Int32)), (p3 &&& (255 : Int32)), (p4 &&& (255 : Int32))] : List Int32) 1 3) 1 3 T54.heap n0 rfl (own_E_len _ _ _) (by decide) rfl (by decide) (Ne.symm ne21) g19 f56 A54) (rfl : T54.heap = T54.heap) (Wk.w hw 3 rfl) (Wk.w hw 4 rfl) (Wk.w hw 5 rfl) (Wk.w hw 6 rfl) (by decide) rfl pd_BestBlocksNextPinLaw_place rfl rfl (Nat.le_of_ble_eq_true rfl) (Nat.le_of_ble_eq_true rfl) (Nat.le_of_ble_eq_true rfl) (Nat.le_of_ble_eq_true rfl) 170 rfl fun T57 v57 L57 X57 hQ57 => ?_
          obtain ⟨rfl, N57q, K57q, A57q⟩ := hQ57
          show Wk.Ends _ _ _ _ _ _ _ (mkF m 170 _ [])
          have A57 : Wk.Arl Z T57.heap b19 .int ((own_E ([(p1 &&& (255 : Int32)), (p2 &&& (255 : Int32)), (p3 &&& (255 : Int32)), (p4 &&& (255 : Int32))] : List Int32) 1 4).map Value.int) := A57q
          have N57 := Fr.app N54 N57q
          have f58 := f55.keep K57q (ninS ne20 nin0)
          have f59 := f56.keep K57q (ninS ne21 nin0)
          have sz57 := Nat.le_trans sz54 K57q.1
          refine Wk.new k X57 at_170 (Wk.w hw 7 rfl) (Wk.w hw 8 rfl) (Wk.w hw 9 rfl) (rfl : T57.heap = T57.heap) (by decide) (by decide) 173 rfl fun T60 h60 b60 q60 X60 e60 E60 A60 D60 => ?_
          have g60 : n0 ≤ b60 := by rw [q60]; exact sz57
          have ne61 : b1 ≠ b60 := by rw [q60]; exact Nat.ne_of_lt f58.lt
          have ne62 : b4 ≠ b60 := by rw [q60]; exact Nat.ne_of_lt f59.lt
          have ne63 : b19 ≠ b60 := by rw [q60]; exact Nat.ne_of_lt A57.lt
          have sz60 := Nat.le_trans sz57 E60.1
          have f64 := f58.ext E60
          have f65 := f59.ext E60
          have f66 := A57.ext E60
          have f67 : Fld Z h60 b60 "com/example/quern/quern/Postings$BestBlocks" "list" "I" (.int (0 : Int32)) := D60 (Or.inl (Wk.w hw 17 rfl)) (ty := .int) (by decide)
          have f68 : Fld Z h60 b60 "com/example/quern/quern/Postings$BestBlocks" "next" "I" (.int (0 : Int32)) := D60 (Or.inl (Wk.w hw 19 rfl)) (ty := .int) (by decide)
          have f69 : Fld Z h60 b60 "com/example/quern/quern/Postings$BestBlocks" "firsts" "[I" .null := D60 (Or.inr (Wk.w hw 25 rfl)) (ty := (.array .int)) (by decide)
          have f70 : Fld Z h60 b60 "com/example/quern/quern/Postings$BestBlocks" "nexts" "[I" .null := D60 (Or.inr (Wk.w hw 31 rfl)) (ty := (.array .int)) (by decide)
          refine Wk.dup k X60 at_173 rfl 174 rfl ?_
          refine Wk.aload k X60 at_174 rfl rfl 176 rfl ?_
          refine Wk.callI k X60 [(.ref b1)] [(.ref b60)] at_176 (rm_ini l Z a0 hw b60 b1 h60 n0 ([(p1 &&& (255 : Int32)), (p2 &&& (255 : Int32)), (p3 &&& (255 : Int32)), (p4 &&& (255 : Int32))] : List Int32) ([((p1).toInt8.toInt32)] : List Int32) 1 (by decide) rfl hcs g60 sz60 (Ne.symm ne61) _ _ _ _ A60 f67 f68 f69 f70 f64) e60 rfl (Wk.w hw 10 rfl) (Wk.w hw 11 rfl) (Wk.w hw 9 rfl) (Wk.w hw 12 rfl) (by decide) rfl pd_BestBlocks_init rfl rfl (Nat.le_of_ble_eq_true rfl) (Nat.le_of_ble_eq_true rfl) (Nat.le_of_ble_eq_true rfl) (Nat.le_of_ble_eq_true rfl) 179 rfl fun T71 v71 L71 X71 hQ71 => ?_
          obtain ⟨rfl, N71q, K71q, fA, xA, lo, W, fs, xs, B0⟩ := hQ71
          show Wk.Ends _ _ _ _ _ _ _ (mkF m 179 _ [(.ref b60)])
          have N71 := Fr.app N57 N71q
          have f72 := f64.keep K71q (ninS ne61 nin0)
          have f73 := f65.keep K71q (ninS ne62 nin0)
          have f74 := f66.keep K71q (ninS ne63 nin0)
          have f75 := A60.keep K71q
          refine Wk.astore k X71 at_179 rfl #[.val (.int p0), .val (.int p1), .val (.int p2), .val (.int p3), .val (.int p4), .val (.int (1 : Int32)), .val (.ref b1), .val (.ref b4), .val (.ref b19), .val (.ref b60), .unset, .unset, .unset, .unset, .unset, .unset] rfl 181 rfl ?_
          refine Wk.aload k X71 at_181 rfl rfl 183 rfl ?_
          refine Wk.callV k X71 [] [] at_183 (rm_nxt l Z a0 hw b60 fA xA _ _ lo W fs xs 0 T71.heap n0 B0) (rfl : T71.heap = T71.heap) f75 (Wk.w hw 32 rfl) (Wk.w hw 33 rfl) (Wk.w hw 35 rfl) (Wk.w hw 34 rfl) (Wk.w hw 9 rfl) (Wk.w hw 36 rfl) (by decide) rfl pd_BestBlocks_next rfl rfl (Nat.le_of_ble_eq_true rfl) (Nat.le_of_ble_eq_true rfl) (Nat.le_of_ble_eq_true rfl) (Nat.le_of_ble_eq_true rfl) 186 rfl fun T76 v76 L76 X76 hQ76 => ?_
          obtain ⟨r0, rfl, G0, N76q, K76q, B1⟩ := hQ76
          show Wk.Ends _ _ _ _ _ _ _ (mkF m 186 _ [(.int r0)])
          have N76 := Fr.app N71 N76q
          have f77 := f72.keep K76q (ninS ne61 nin0)
          have f78 := f73.keep K76q (ninS ne62 nin0)
          have f79 := f74.keep K76q (ninS ne63 nin0)
          have f80 := f75.keep K76q
          refine Wk.istore k X76 at_186 #[.val (.int p0), .val (.int p1), .val (.int p2), .val (.int p3), .val (.int p4), .val (.int (1 : Int32)), .val (.ref b1), .val (.ref b4), .val (.ref b19), .val (.ref b60), .val (.int r0), .unset, .unset, .unset, .unset, .unset] rfl 188 rfl ?_
          refine Wk.aload k X76 at_188 rfl rfl 190 rfl ?_
          refine Wk.callV k X76 [] [] at_190 (rm_nxt l Z a0 hw b60 fA xA _ _ lo W fs xs 1 T76.heap n0 B1) (rfl : T76.heap = T76.heap) f80 (Wk.w hw 32 rfl) (Wk.w hw 33 rfl) (Wk.w hw 35 rfl) (Wk.w hw 34 rfl) (Wk.w hw 9 rfl) (Wk.w hw 36 rfl) (by decide) rfl pd_BestBlocks_next rfl rfl (Nat.le_of_ble_eq_true rfl) (Nat.le_of_ble_eq_true rfl) (Nat.le_of_ble_eq_true rfl) (Nat.le_of_ble_eq_true rfl) 193 rfl fun T81 v81 L81 X81 hQ81 => ?_
          obtain ⟨r1, rfl, G1, N81q, K81q, B2⟩ := hQ81
          show Wk.Ends _ _ _ _ _ _ _ (mkF m 193 _ [(.int r1)])
          have N81 := Fr.app N76 N81q
          have f82 := f77.keep K81q (ninS ne61 nin0)
          have f83 := f78.keep K81q (ninS ne62 nin0)
          have f84 := f79.keep K81q (ninS ne63 nin0)
          have f85 := f80.keep K81q
          refine Wk.istore k X81 at_193 #[.val (.int p0), .val (.int p1), .val (.int p2), .val (.int p3), .val (.int p4), .val (.int (1 : Int32)), .val (.ref b1), .val (.ref b4), .val (.ref b19), .val (.ref b60), .val (.int r0), .val (.int r1), .unset, .unset, .unset, .unset] rfl 195 rfl ?_
          refine Wk.aload k X81 at_195 rfl rfl 197 rfl ?_
          refine Wk.callV k X81 [] [] at_197 (rm_nxt l Z a0 hw b60 fA xA _ _ lo W fs xs 2 T81.heap n0 B2) (rfl : T81.heap = T81.heap) f85 (Wk.w hw 32 rfl) (Wk.w hw 33 rfl) (Wk.w hw 35 rfl) (Wk.w hw 34 rfl) (Wk.w hw 9 rfl) (Wk.w hw 36 rfl) (by decide) rfl pd_BestBlocks_next rfl rfl (Nat.le_of_ble_eq_true rfl) (Nat.le_of_ble_eq_true rfl) (Nat.le_of_ble_eq_true rfl) (Nat.le_of_ble_eq_true rfl) 200 rfl fun T86 v86 L86 X86 hQ86 => ?_
          obtain ⟨r2, rfl, G2, N86q, K86q, B3⟩ := hQ86
          show Wk.Ends _ _ _ _ _ _ _ (mkF m 200 _ [(.int r2)])
          have N86 := Fr.app N81 N86q
          have f87 := f82.keep K86q (ninS ne61 nin0)
          have f88 := f83.keep K86q (ninS ne62 nin0)
          have f89 := f84.keep K86q (ninS ne63 nin0)
          have f90 := f85.keep K86q
          refine Wk.istore k X86 at_200 #[.val (.int p0), .val (.int p1), .val (.int p2), .val (.int p3), .val (.int p4), .val (.int (1 : Int32)), .val (.ref b1), .val (.ref b4), .val (.ref b19), .val (.ref b60), .val (.int r0), .val (.int r1), .val (.int r2), .unset, .unset, .unset] rfl 202 rfl ?_
          refine Wk.aload k X86 at_202 rfl rfl 204 rfl ?_
          refine Wk.callV k X86 [] [] at_204 (rm_nxt l Z a0 hw b60 fA xA _ _ lo W fs xs 3 T86.heap n0 B3) (rfl : T86.heap = T86.heap) f90 (Wk.w hw 32 rfl) (Wk.w hw 33 rfl) (Wk.w hw 35 rfl) (Wk.w hw 34 rfl) (Wk.w hw 9 rfl) (Wk.w hw 36 rfl) (by decide) rfl pd_BestBlocks_next rfl rfl (Nat.le_of_ble_eq_true rfl) (Nat.le_of_ble_eq_true rfl) (Nat.le_of_ble_eq_true rfl) (Nat.le_of_ble_eq_true rfl) 207 rfl fun T91 v91 L91 X91 hQ91 => ?_
          obtain ⟨r3, rfl, G3, N91q, K91q, B4⟩ := hQ91
          show Wk.Ends _ _ _ _ _ _ _ (mkF m 207 _ [(.int r3)])
          have N91 := Fr.app N86 N91q
          have f92 := f87.keep K91q (ninS ne61 nin0)
          have f93 := f88.keep K91q (ninS ne62 nin0)
          have f94 := f89.keep K91q (ninS ne63 nin0)
          have f95 := f90.keep K91q
          refine Wk.istore k X91 at_207 #[.val (.int p0), .val (.int p1), .val (.int p2), .val (.int p3), .val (.int p4), .val (.int (1 : Int32)), .val (.ref b1), .val (.ref b4), .val (.ref b19), .val (.ref b60), .val (.int r0), .val (.int r1), .val (.int r2), .val (.int r3), .unset, .unset] rfl 209 rfl ?_
          refine Wk.aload k X91 at_209 rfl rfl 211 rfl ?_
          refine Wk.callV k X91 [] [] at_211 (rm_nxt l Z a0 hw b60 fA xA _ _ lo W fs xs 4 T91.heap n0 B4) (rfl : T91.heap = T91.heap) f95 (Wk.w hw 32 rfl) (Wk.w hw 33 rfl) (Wk.w hw 35 rfl) (Wk.w hw 34 rfl) (Wk.w hw 9 rfl) (Wk.w hw 36 rfl) (by decide) rfl pd_BestBlocks_next rfl rfl (Nat.le_of_ble_eq_true rfl) (Nat.le_of_ble_eq_true rfl) (Nat.le_of_ble_eq_true rfl) (Nat.le_of_ble_eq_true rfl) 214 rfl fun T96 v96 L96 X96 hQ96 => ?_
          obtain ⟨r4, rfl, G4, N96q, K96q, B5⟩ := hQ96
          show Wk.Ends _ _ _ _ _ _ _ (mkF m 214 _ [(.int r4)])
          have N96 := Fr.app N91 N96q
          have f97 := f92.keep K96q (ninS ne61 nin0)
          have f98 := f93.keep K96q (ninS ne62 nin0)
          have f99 := f94.keep K96q (ninS ne63 nin0)
          have f100 := f95.keep K96q
          refine Wk.istore k X96 at_214 #[.val (.int p0), .val (.int p1), .val (.int p2), .val (.int p3), .val (.int p4), .val (.int (1 : Int32)), .val (.ref b1), .val (.ref b4), .val (.ref b19), .val (.ref b60), .val (.int r0), .val (.int r1), .val (.int r2), .val (.int r3), .val (.int r4), .unset] rfl 216 rfl ?_
          refine Wk.aload k X96 at_216 rfl rfl 218 rfl ?_
          refine Wk.callV k X96 [] [] at_218 (rm_nxt l Z a0 hw b60 fA xA _ _ lo W fs xs 5 T96.heap n0 B5) (rfl : T96.heap = T96.heap) f100 (Wk.w hw 32 rfl) (Wk.w hw 33 rfl) (Wk.w hw 35 rfl) (Wk.w hw 34 rfl) (Wk.w hw 9 rfl) (Wk.w hw 36 rfl) (by decide) rfl pd_BestBlocks_next rfl rfl (Nat.le_of_ble_eq_true rfl) (Nat.le_of_ble_eq_true rfl) (Nat.le_of_ble_eq_true rfl) (Nat.le_of_ble_eq_true rfl) 221 rfl fun T101 v101 L101 X101 hQ101 => ?_
          obtain ⟨r5, rfl, G5, N101q, K101q, B6⟩ := hQ101
          show Wk.Ends _ _ _ _ _ _ _ (mkF m 221 _ [(.int r5)])
          have N101 := Fr.app N96 N101q
          have f102 := f97.keep K101q (ninS ne61 nin0)
          have f103 := f98.keep K101q (ninS ne62 nin0)
          have f104 := f99.keep K101q (ninS ne63 nin0)
          have f105 := f100.keep K101q
          refine Wk.istore k X101 at_221 #[.val (.int p0), .val (.int p1), .val (.int p2), .val (.int p3), .val (.int p4), .val (.int (1 : Int32)), .val (.ref b1), .val (.ref b4), .val (.ref b19), .val (.ref b60), .val (.int r0), .val (.int r1), .val (.int r2), .val (.int r3), .val (.int r4), .val (.int r5)] rfl 223 rfl ?_
          refine Wk.iload k X101 at_223 rfl 225 rfl ?_
          refine Wk.aload k X101 at_225 rfl rfl 227 rfl ?_
          refine Wk.iconst k X101 at_227 (0 : Int32) rfl 228 rfl ?_
          refine Wk.iaload k X101 at_228 (rfl : T101.heap = T101.heap) f104 0 rfl ((own_E ([(p1 &&& (255 : Int32)), (p2 &&& (255 : Int32)), (p3 &&& (255 : Int32)), (p4 &&& (255 : Int32))] : List Int32) 1 4).getD 0 0) (own_gD (by rw [own_E_len]; decide)) 229 rfl ?_
          refine Wk.icmp_ne k X101 at_229 (by decide) 281 232 (by decide) rfl (fun hc229 => ?_) (fun hc229 => ?_)
          · exact absurd (own_same (by decide) (by decide) G0) hc229
          · refine Wk.iload k X101 at_232 rfl 234 rfl ?_
            refine Wk.aload k X101 at_234 rfl rfl 236 rfl ?_
            refine Wk.iconst k X101 at_236 (1 : Int32) rfl 237 rfl ?_
            refine Wk.iaload k X101 at_237 (rfl : T101.heap = T101.heap) f104 1 rfl ((own_E ([(p1 &&& (255 : Int32)), (p2 &&& (255 : Int32)), (p3 &&& (255 : Int32)), (p4 &&& (255 : Int32))] : List Int32) 1 4).getD 1 0) (own_gD (by rw [own_E_len]; decide)) 238 rfl ?_
            refine Wk.icmp_ne k X101 at_238 (by decide) 281 241 (by decide) rfl (fun hc238 => ?_) (fun hc238 => ?_)
            · exact absurd (own_same (by decide) (by decide) G1) hc238
            · refine Wk.iload k X101 at_241 rfl 243 rfl ?_
              refine Wk.aload k X101 at_243 rfl rfl 245 rfl ?_
              refine Wk.iconst k X101 at_245 (2 : Int32) rfl 246 rfl ?_
              refine Wk.iaload k X101 at_246 (rfl : T101.heap = T101.heap) f104 2 rfl ((own_E ([(p1 &&& (255 : Int32)), (p2 &&& (255 : Int32)), (p3 &&& (255 : Int32)), (p4 &&& (255 : Int32))] : List Int32) 1 4).getD 2 0) (own_gD (by rw [own_E_len]; decide)) 247 rfl ?_
              refine Wk.icmp_ne k X101 at_247 (by decide) 281 250 (by decide) rfl (fun hc247 => ?_) (fun hc247 => ?_)
              · exact absurd (own_same (by decide) (by decide) G2) hc247
              · refine Wk.iload k X101 at_250 rfl 252 rfl ?_
                refine Wk.aload k X101 at_252 rfl rfl 254 rfl ?_
                refine Wk.iconst k X101 at_254 (3 : Int32) rfl 255 rfl ?_
                refine Wk.iaload k X101 at_255 (rfl : T101.heap = T101.heap) f104 3 rfl ((own_E ([(p1 &&& (255 : Int32)), (p2 &&& (255 : Int32)), (p3 &&& (255 : Int32)), (p4 &&& (255 : Int32))] : List Int32) 1 4).getD 3 0) (own_gD (by rw [own_E_len]; decide)) 256 rfl ?_
                refine Wk.icmp_ne k X101 at_256 (by decide) 281 259 (by decide) rfl (fun hc256 => ?_) (fun hc256 => ?_)
                · exact absurd (own_same (by decide) (by decide) G3) hc256
                · refine Wk.iload k X101 at_259 rfl 261 rfl ?_
                  refine Wk.aload k X101 at_261 rfl rfl 263 rfl ?_
                  refine Wk.iconst k X101 at_263 (4 : Int32) rfl 264 rfl ?_
                  refine Wk.iaload k X101 at_264 (rfl : T101.heap = T101.heap) f104 4 rfl ((own_E ([(p1 &&& (255 : Int32)), (p2 &&& (255 : Int32)), (p3 &&& (255 : Int32)), (p4 &&& (255 : Int32))] : List Int32) 1 4).getD 4 0) (own_gD (by rw [own_E_len]; decide)) 265 rfl ?_
                  refine Wk.icmp_ne k X101 at_265 (by decide) 281 268 (by decide) rfl (fun hc265 => ?_) (fun hc265 => ?_)
                  · exact absurd (own_same (by decide) (by decide) G4) hc265
                  · refine Wk.iload k X101 at_268 rfl 270 rfl ?_
                    refine Wk.aload k X101 at_270 rfl rfl 272 rfl ?_
                    refine Wk.iconst k X101 at_272 (5 : Int32) rfl 273 rfl ?_
                    refine Wk.iaload k X101 at_273 (rfl : T101.heap = T101.heap) f104 5 rfl ((own_E ([(p1 &&& (255 : Int32)), (p2 &&& (255 : Int32)), (p3 &&& (255 : Int32)), (p4 &&& (255 : Int32))] : List Int32) 1 4).getD 5 0) (own_gD (by rw [own_E_len]; decide)) 274 rfl ?_
                    refine Wk.icmp_ne k X101 at_274 (by decide) 281 277 (by decide) rfl (fun hc274 => ?_) (fun hc274 => ?_)
                    · exact absurd (own_same (by decide) (by decide) G5) hc274
                    · refine Wk.iconst k X101 at_277 (1 : Int32) rfl 278 rfl ?_
                      refine Wk.goto k X101 at_278 (by decide) 282 (by decide) ?_
                      exact Wk.ret_bool k X101 rfl at_282 (by decide) (by decide) (by decide) ⟨rfl, N101⟩
        · first | exact absurd hc52 (by decide) | exact absurd (by decide) hc52
      · first | exact absurd hc40 (by decide) | exact absurd (by decide) hc40
    · first | exact absurd hc28 (by decide) | exact absurd (by decide) hc28
set_option maxRecDepth 65536 in
set_option maxHeartbeats 40000000 in
theorem law_8_2 {p : Program} {l : Launch} {e : Env} {s : State} {m : MethodId} {args : Array Value} {below : List Frame} {meth : Method} {c : Code} {Z : State} {a0 : Array Value} {h0 : Heap} {n0 : Nat} {T0 : State} (hw : ∀ d ∈ tables_1, d.before a0 Z = true) (k : Wk.K p s m meth c Z x code maxLocals ret) (X0 : Stand p l e room_1 s m args below meth c T0 [] 0 0) (p0 p1 p2 p3 p4 : Int32) (e0 : T0.heap = h0) (Z0 : n0 ≤ h0.size) (N0 : Fr n0 []) : Wk.Ends p e s below room_1 (fun v _ L => v = some (.int 1) ∧ Fr n0 L) T0 (mkF m 8 #[.val (.int p0), .val (.int p1), .val (.int p2), .val (.int p3), .val (.int p4), .val (.int (2 : Int32)), .unset, .unset, .unset, .unset, .unset, .unset, .unset, .unset, .unset, .unset] []) := by
  have hcs : ∀ i, i < 2 → (([(p1).toInt8.toInt32, (p2).toInt8.toInt32] : List Int32).getD i 0 &&& (255 : Int32)) = ([(p1 &&& (255 : Int32)), (p2 &&& (255 : Int32)), (p3 &&& (255 : Int32)), (p4 &&& (255 : Int32))] : List Int32).getD i 0 := fun i hi => by
    match i, hi with
    | 0, _ => exact own_b255 p1
    | 1, _ => exact own_b255 p2
  refine Wk.iload k X0 at_8 rfl 10 rfl ?_
  refine Wk.newarray k X0 at_10 (Wk.w hw 1 rfl) e0 2 rfl 2 (by decide) (by decide) (by decide) (by decide) 12 rfl fun T1 h1 b1 q1 X1 e1 E1 A1 => ?_
  have g1 : n0 ≤ b1 := by rw [q1]; exact Z0
  have sz1 := Nat.le_trans Z0 E1.1
  have A1' : Wk.Arl Z h1 b1 .byte (([(0 : Int32), (0 : Int32)] : List Int32).map Value.int) := A1
  refine Wk.astore k X1 at_12 rfl #[.val (.int p0), .val (.int p1), .val (.int p2), .val (.int p3), .val (.int p4), .val (.int (2 : Int32)), .val (.ref b1), .unset, .unset, .unset, .unset, .unset, .unset, .unset, .unset, .unset] rfl 14 rfl ?_
  refine Wk.iload k X1 at_14 rfl 16 rfl ?_
  refine Wk.if_le k X1 at_16 (by decide) 25 19 (by decide) rfl (fun hc16 => ?_) (fun hc16 => ?_)
  · first | exact absurd hc16 (by decide) | exact absurd (by decide) hc16
  · refine Wk.aload k X1 at_19 rfl rfl 21 rfl ?_
    refine Wk.iconst k X1 at_21 (0 : Int32) rfl 22 rfl ?_
    refine Wk.iload_n k X1 at_22 rfl 23 rfl ?_
    refine Wk.i2b k X1 at_23 24 rfl ?_
    refine Wk.bastore k X1 (x := ((p1).toInt8.toInt32)) at_24 e1 A1' 0 rfl (show 0 < 2 from by decide) ((p1).toInt8.toInt32) (own_b8 _) 25 rfl fun T2 h2 X2 e2 W2 A2 => ?_
    have sz2 : n0 ≤ h2.size := by rw [W2.size]; exact sz1
    have N3 := Fr.snoc X2 N0 g1
    have A2' : Wk.Arl Z h2 b1 .byte (([((p1).toInt8.toInt32), (0 : Int32)] : List Int32).map Value.int) := A2
    refine Wk.iload k X2 at_25 rfl 27 rfl ?_
    refine Wk.iconst k X2 at_27 (1 : Int32) rfl 28 rfl ?_
    refine Wk.icmp_le k X2 at_28 (by decide) 37 31 (by decide) rfl (fun hc28 => ?_) (fun hc28 => ?_)
    · first | exact absurd hc28 (by decide) | exact absurd (by decide) hc28
    · refine Wk.aload k X2 at_31 rfl rfl 33 rfl ?_
      refine Wk.iconst k X2 at_33 (1 : Int32) rfl 34 rfl ?_
      refine Wk.iload_n k X2 at_34 rfl 35 rfl ?_
      refine Wk.i2b k X2 at_35 36 rfl ?_
      refine Wk.bastore k X2 (x := ((p2).toInt8.toInt32)) at_36 e2 A2' 1 rfl (show 1 < 2 from by decide) ((p2).toInt8.toInt32) (own_b8 _) 37 rfl fun T4 h4 X4 e4 W4 A4 => ?_
      have sz4 : n0 ≤ h4.size := by rw [W4.size]; exact sz2
      have N5 := Fr.snoc X4 N3 g1
      have A4' : Wk.Arl Z h4 b1 .byte (([((p1).toInt8.toInt32), ((p2).toInt8.toInt32)] : List Int32).map Value.int) := A4
      refine Wk.iload k X4 at_37 rfl 39 rfl ?_
      refine Wk.iconst k X4 at_39 (2 : Int32) rfl 40 rfl ?_
      refine Wk.icmp_le k X4 at_40 (by decide) 49 43 (by decide) rfl (fun hc40 => ?_) (fun hc40 => ?_)
      · refine Wk.iload k X4 at_49 rfl 51 rfl ?_
        refine Wk.iconst k X4 at_51 (3 : Int32) rfl 52 rfl ?_
        refine Wk.icmp_le k X4 at_52 (by decide) 62 55 (by decide) rfl (fun hc52 => ?_) (fun hc52 => ?_)
        · refine Wk.iconst k X4 at_62 (4 : Int32) rfl 63 rfl ?_
          refine Wk.newarray k X4 at_63 (Wk.w hw 2 rfl) e4 4 rfl 4 (by decide) (by decide) (by decide) (by decide) 65 rfl fun T6 h6 b6 q6 X6 e6 E6 A6 => ?_
          have g6 : n0 ≤ b6 := by rw [q6]; exact sz4
          have ne7 : b1 ≠ b6 := by rw [q6]; exact Nat.ne_of_lt A4'.lt
          have sz6 := Nat.le_trans sz4 E6.1
          have f8 := A4'.ext E6
          have A6' : Wk.Arl Z h6 b6 .int (([(0 : Int32), (0 : Int32), (0 : Int32), (0 : Int32)] : List Int32).map Value.int) := A6
          refine Wk.dup k X6 at_65 rfl 66 rfl ?_
          refine Wk.iconst k X6 at_66 (0 : Int32) rfl 67 rfl ?_
          refine Wk.iload_n k X6 at_67 rfl 68 rfl ?_
          refine Wk.sipush k X6 at_68 (255 : Int32) rfl 71 rfl ?_
          refine Wk.iand k X6 at_71 72 rfl ?_
          refine Wk.iastore k X6 (x := (p1 &&& (255 : Int32))) at_72 e6 A6' 0 rfl (show 0 < 4 from by decide) 73 rfl fun T9 h9 X9 e9 W9 A9 => ?_
          have sz9 : n0 ≤ h9.size := by rw [W9.size]; exact sz6
          have N10 := Fr.snoc X9 N5 g6
          have f11 := f8.other W9 ne7
          have A9' : Wk.Arl Z h9 b6 .int (([(p1 &&& (255 : Int32)), (0 : Int32), (0 : Int32), (0 : Int32)] : List Int32).map Value.int) := A9
          refine Wk.dup k X9 at_73 rfl 74 rfl ?_
          refine Wk.iconst k X9 at_74 (1 : Int32) rfl 75 rfl ?_
          refine Wk.iload_n k X9 at_75 rfl 76 rfl ?_
          refine Wk.sipush k X9 at_76 (255 : Int32) rfl 79 rfl ?_
          refine Wk.iand k X9 at_79 80 rfl ?_
          refine Wk.iastore k X9 (x := (p2 &&& (255 : Int32))) at_80 e9 A9' 1 rfl (show 1 < 4 from by decide) 81 rfl fun T12 h12 X12 e12 W12 A12 => ?_
          have sz12 : n0 ≤ h12.size := by rw [W12.size]; exact sz9
          have N13 := Fr.snoc X12 N10 g6
          have f14 := f11.other W12 ne7
          have A12' : Wk.Arl Z h12 b6 .int (([(p1 &&& (255 : Int32)), (p2 &&& (255 : Int32)), (0 : Int32), (0 : Int32)] : List Int32).map Value.int) := A12
          refine Wk.dup k X12 at_81 rfl 82 rfl ?_
          refine Wk.iconst k X12 at_82 (2 : Int32) rfl 83 rfl ?_
          refine Wk.iload_n k X12 at_83 rfl 84 rfl ?_
          refine Wk.sipush k X12 at_84 (255 : Int32) rfl 87 rfl ?_
          refine Wk.iand k X12 at_87 88 rfl ?_
          refine Wk.iastore k X12 (x := (p3 &&& (255 : Int32))) at_88 e12 A12' 2 rfl (show 2 < 4 from by decide) 89 rfl fun T15 h15 X15 e15 W15 A15 => ?_
          have sz15 : n0 ≤ h15.size := by rw [W15.size]; exact sz12
          have N16 := Fr.snoc X15 N13 g6
          have f17 := f14.other W15 ne7
          have A15' : Wk.Arl Z h15 b6 .int (([(p1 &&& (255 : Int32)), (p2 &&& (255 : Int32)), (p3 &&& (255 : Int32)), (0 : Int32)] : List Int32).map Value.int) := A15
          refine Wk.dup k X15 at_89 rfl 90 rfl ?_
          refine Wk.iconst k X15 at_90 (3 : Int32) rfl 91 rfl ?_
          refine Wk.iload k X15 at_91 rfl 93 rfl ?_
          refine Wk.sipush k X15 at_93 (255 : Int32) rfl 96 rfl ?_
          refine Wk.iand k X15 at_96 97 rfl ?_
          refine Wk.iastore k X15 (x := (p4 &&& (255 : Int32))) at_97 e15 A15' 3 rfl (show 3 < 4 from by decide) 98 rfl fun T18 h18 X18 e18 W18 A18 => ?_
          have sz18 : n0 ≤ h18.size := by rw [W18.size]; exact sz15
          have N19 := Fr.snoc X18 N16 g6
          have f20 := f17.other W18 ne7
          have A18' : Wk.Arl Z h18 b6 .int (([(p1 &&& (255 : Int32)), (p2 &&& (255 : Int32)), (p3 &&& (255 : Int32)), (p4 &&& (255 : Int32))] : List Int32).map Value.int) := A18
          refine Wk.astore k X18 at_98 rfl #[.val (.int p0), .val (.int p1), .val (.int p2), .val (.int p3), .val (.int p4), .val (.int (2 : Int32)), .val (.ref b1), .val (.ref b6), .unset, .unset, .unset, .unset, .unset, .unset, .unset, .unset] rfl 100 rfl ?_
          refine Wk.bipush k X18 at_100 (6 : Int32) rfl 102 rfl ?_
          refine Wk.newarray k X18 at_102 (Wk.w hw 2 rfl) e18 6 rfl 6 (by decide) (by decide) (by decide) (by decide) 104 rfl fun T21 h21 b21 q21 X21 e21 E21 A21 => ?_
          have g21 : n0 ≤ b21 := by rw [q21]; exact sz18
          have ne22 : b1 ≠ b21 := by rw [q21]; exact Nat.ne_of_lt f20.lt
          have ne23 : b6 ≠ b21 := by rw [q21]; exact Nat.ne_of_lt A18'.lt
          have sz21 := Nat.le_trans sz18 E21.1
          have f24 := f20.ext E21
          have f25 := A18'.ext E21
          have A21' : Wk.Arl Z h21 b21 .int (([(0 : Int32), (0 : Int32), (0 : Int32), (0 : Int32), (0 : Int32), (0 : Int32)] : List Int32).map Value.int) := A21
          refine Wk.dup k X21 at_104 rfl 105 rfl ?_
          refine Wk.iconst k X21 at_105 (0 : Int32) rfl 106 rfl ?_
          refine Wk.iconst k X21 at_106 (-1 : Int32) rfl 107 rfl ?_
          refine Wk.iastore k X21 (x := (-1 : Int32)) at_107 e21 A21' 0 rfl (show 0 < 6 from by decide) 108 rfl fun T26 h26 X26 e26 W26 A26 => ?_
          have sz26 : n0 ≤ h26.size := by rw [W26.size]; exact sz21
          have N27 := Fr.snoc X26 N19 g21
          have f28 := f24.other W26 ne22
          have f29 := f25.other W26 ne23
          have A26' : Wk.Arl Z h26 b21 .int (([(-1 : Int32), (0 : Int32), (0 : Int32), (0 : Int32), (0 : Int32), (0 : Int32)] : List Int32).map Value.int) := A26
          refine Wk.dup k X26 at_108 rfl 109 rfl ?_
          refine Wk.iconst k X26 at_109 (1 : Int32) rfl 110 rfl ?_
          refine Wk.iconst k X26 at_110 (-1 : Int32) rfl 111 rfl ?_
          refine Wk.iastore k X26 (x := (-1 : Int32)) at_111 e26 A26' 1 rfl (show 1 < 6 from by decide) 112 rfl fun T30 h30 X30 e30 W30 A30 => ?_
          have sz30 : n0 ≤ h30.size := by rw [W30.size]; exact sz26
          have N31 := Fr.snoc X30 N27 g21
          have f32 := f28.other W30 ne22
          have f33 := f29.other W30 ne23
          have A30' : Wk.Arl Z h30 b21 .int (([(-1 : Int32), (-1 : Int32), (0 : Int32), (0 : Int32), (0 : Int32), (0 : Int32)] : List Int32).map Value.int) := A30
          refine Wk.dup k X30 at_112 rfl 113 rfl ?_
          refine Wk.iconst k X30 at_113 (2 : Int32) rfl 114 rfl ?_
          refine Wk.iconst k X30 at_114 (-1 : Int32) rfl 115 rfl ?_
          refine Wk.iastore k X30 (x := (-1 : Int32)) at_115 e30 A30' 2 rfl (show 2 < 6 from by decide) 116 rfl fun T34 h34 X34 e34 W34 A34 => ?_
          have sz34 : n0 ≤ h34.size := by rw [W34.size]; exact sz30
          have N35 := Fr.snoc X34 N31 g21
          have f36 := f32.other W34 ne22
          have f37 := f33.other W34 ne23
          have A34' : Wk.Arl Z h34 b21 .int (([(-1 : Int32), (-1 : Int32), (-1 : Int32), (0 : Int32), (0 : Int32), (0 : Int32)] : List Int32).map Value.int) := A34
          refine Wk.dup k X34 at_116 rfl 117 rfl ?_
          refine Wk.iconst k X34 at_117 (3 : Int32) rfl 118 rfl ?_
          refine Wk.iconst k X34 at_118 (-1 : Int32) rfl 119 rfl ?_
          refine Wk.iastore k X34 (x := (-1 : Int32)) at_119 e34 A34' 3 rfl (show 3 < 6 from by decide) 120 rfl fun T38 h38 X38 e38 W38 A38 => ?_
          have sz38 : n0 ≤ h38.size := by rw [W38.size]; exact sz34
          have N39 := Fr.snoc X38 N35 g21
          have f40 := f36.other W38 ne22
          have f41 := f37.other W38 ne23
          have A38' : Wk.Arl Z h38 b21 .int (([(-1 : Int32), (-1 : Int32), (-1 : Int32), (-1 : Int32), (0 : Int32), (0 : Int32)] : List Int32).map Value.int) := A38
          refine Wk.dup k X38 at_120 rfl 121 rfl ?_
          refine Wk.iconst k X38 at_121 (4 : Int32) rfl 122 rfl ?_
          refine Wk.iconst k X38 at_122 (-1 : Int32) rfl 123 rfl ?_
          refine Wk.iastore k X38 (x := (-1 : Int32)) at_123 e38 A38' 4 rfl (show 4 < 6 from by decide) 124 rfl fun T42 h42 X42 e42 W42 A42 => ?_
          have sz42 : n0 ≤ h42.size := by rw [W42.size]; exact sz38
          have N43 := Fr.snoc X42 N39 g21
          have f44 := f40.other W42 ne22
          have f45 := f41.other W42 ne23
          have A42' : Wk.Arl Z h42 b21 .int (([(-1 : Int32), (-1 : Int32), (-1 : Int32), (-1 : Int32), (-1 : Int32), (0 : Int32)] : List Int32).map Value.int) := A42
          refine Wk.dup k X42 at_124 rfl 125 rfl ?_
          refine Wk.iconst k X42 at_125 (5 : Int32) rfl 126 rfl ?_
          refine Wk.iconst k X42 at_126 (-1 : Int32) rfl 127 rfl ?_
          refine Wk.iastore k X42 (x := (-1 : Int32)) at_127 e42 A42' 5 rfl (show 5 < 6 from by decide) 128 rfl fun T46 h46 X46 e46 W46 A46 => ?_
          have sz46 : n0 ≤ h46.size := by rw [W46.size]; exact sz42
          have N47 := Fr.snoc X46 N43 g21
          have f48 := f44.other W46 ne22
          have f49 := f45.other W46 ne23
          have A46' : Wk.Arl Z h46 b21 .int (([(-1 : Int32), (-1 : Int32), (-1 : Int32), (-1 : Int32), (-1 : Int32), (-1 : Int32)] : List Int32).map Value.int) := A46
          refine Wk.astore k X46 at_128 rfl #[.val (.int p0), .val (.int p1), .val (.int p2), .val (.int p3), .val (.int p4), .val (.int (2 : Int32)), .val (.ref b1), .val (.ref b6), .val (.ref b21), .unset, .unset, .unset, .unset, .unset, .unset, .unset] rfl 130 rfl ?_
          refine Wk.aload k X46 at_130 rfl rfl 132 rfl ?_
          refine Wk.aload k X46 at_132 rfl rfl 134 rfl ?_
          refine Wk.iload k X46 at_134 rfl 136 rfl ?_
          refine Wk.iconst k X46 at_136 (0 : Int32) rfl 137 rfl ?_
          have AE : Wk.Arl Z h46 b21 .int ((own_E ([(p1 &&& (255 : Int32)), (p2 &&& (255 : Int32)), (p3 &&& (255 : Int32)), (p4 &&& (255 : Int32))] : List Int32) 2 0).map Value.int) := A46'
          refine Wk.callS k X46 [(.ref b21), (.ref b6), (.int (2 : Int32)), (.int (0 : Int32))] [] at_137 (rm_pla l Z a0 hw b21 b6 (2 : Int32) ([(p1 &&& (255 : Int32)), (p2 &&& (255 : Int32)), (p3 &&& (255 : Int32)), (p4 &&& (255 : Int32))] : List Int32) (own_E ([(p1 &&& (255 : Int32)), (p2 &&& (255 : Int32)), (p3 &&& (255 : Int32)), (p4 &&& (255 : Int32))] : List Int32) 2 0) 2 0 h46 n0 rfl (own_E_len _ _ _) (by decide) rfl (by decide) (Ne.symm ne23) g21 f49 AE) e46 (Wk.w hw 3 rfl) (Wk.w hw 4 rfl) (Wk.w hw 5 rfl) (Wk.w hw 6 rfl) (by decide) rfl pd_BestBlocksNextPinLaw_place rfl rfl (Nat.le_of_ble_eq_true rfl) (Nat.le_of_ble_eq_true rfl) (Nat.le_of_ble_eq_true rfl) (Nat.le_of_ble_eq_true rfl) 140 rfl fun T50 v50 L50 X50 hQ50 => ?_
          obtain ⟨rfl, N50q, K50q, A50q⟩ := hQ50
          show Wk.Ends _ _ _ _ _ _ _ (mkF m 140 _ [])
          have A50 : Wk.Arl Z T50.heap b21 .int ((own_E ([(p1 &&& (255 : Int32)), (p2 &&& (255 : Int32)), (p3 &&& (255 : Int32)), (p4 &&& (255 : Int32))] : List Int32) 2 1).map Value.int) := A50q
          have N50 := Fr.app N47 N50q
          have f51 := f48.keep K50q (ninS ne22 nin0)
          have f52 := f49.keep K50q (ninS ne23 nin0)
          have sz50 := Nat.le_trans sz46 K50q.1
          refine Wk.aload k X50 at_140 rfl rfl 142 rfl ?_
          refine Wk.aload k X50 at_142 rfl rfl 144 rfl ?_
          refine Wk.iload k X50 at_144 rfl 146 rfl ?_
          refine Wk.iconst k X50 at_146 (1 : Int32) rfl 147 rfl ?_
          refine Wk.callS k X50 [(.ref b21), (.ref b6), (.int (2 : Int32)), (.int (1 : Int32))] [] at_147 (rm_pla l Z a0 hw b21 b6 (2 : Int32) ([(p1 &&& (255 : Int32)), (p2 &&& (255 : Int32)), (p3 &&& (255 : Int32)), (p4 &&& (255 : Int32))] : List Int32) (own_E ([(p1 &&& (255 : Int32)), (p2 &&& (255 : Int32)), (p3 &&& (255 : Int32)), (p4 &&& (255 : Int32))] : List Int32) 2 1) 2 1 T50.heap n0 rfl (own_E_len _ _ _) (by decide) rfl (by decide) (Ne.symm ne23) g21 f52 A50) (rfl : T50.heap = T50.heap) (Wk.w hw 3 rfl) (Wk.w hw 4 rfl) (Wk.w hw 5 rfl) (Wk.w hw 6 rfl) (by decide) rfl pd_BestBlocksNextPinLaw_place rfl rfl (Nat.le_of_ble_eq_true rfl) (Nat.le_of_ble_eq_true rfl) (Nat.le_of_ble_eq_true rfl) (Nat.le_of_ble_eq_true rfl) 150 rfl fun T53 v53 L53 X53 hQ53 => ?_
          obtain ⟨rfl, N53q, K53q, A53q⟩ := hQ53
          show Wk.Ends _ _ _ _ _ _ _ (mkF m 150 _ [])
          have A53 : Wk.Arl Z T53.heap b21 .int ((own_E ([(p1 &&& (255 : Int32)), (p2 &&& (255 : Int32)), (p3 &&& (255 : Int32)), (p4 &&& (255 : Int32))] : List Int32) 2 2).map Value.int) := A53q
          have N53 := Fr.app N50 N53q
          have f54 := f51.keep K53q (ninS ne22 nin0)
          have f55 := f52.keep K53q (ninS ne23 nin0)
          have sz53 := Nat.le_trans sz50 K53q.1
          refine Wk.aload k X53 at_150 rfl rfl 152 rfl ?_
          refine Wk.aload k X53 at_152 rfl rfl 154 rfl ?_
          refine Wk.iload k X53 at_154 rfl 156 rfl ?_
          refine Wk.iconst k X53 at_156 (2 : Int32) rfl 157 rfl ?_
          refine Wk.callS k X53 [(.ref b21), (.ref b6), (.int (2 : Int32)), (.int (2 : Int32))] [] at_157 (rm_pla l Z a0 hw b21 b6 (2 : Int32) ([(p1 &&& (255 : Int32)), (p2 &&& (255 : Int32)), (p3 &&& (255 : Int32)), (p4 &&& (255 : Int32))] : List Int32) (own_E ([(p1 &&& (255 : Int32)), (p2 &&& (255 : Int32)), (p3 &&& (255 : Int32)), (p4 &&& (255 : Int32))] : List Int32) 2 2) 2 2 T53.heap n0 rfl (own_E_len _ _ _) (by decide) rfl (by decide) (Ne.symm ne23) g21 f55 A53) (rfl : T53.heap = T53.heap) (Wk.w hw 3 rfl) (Wk.w hw 4 rfl) (Wk.w hw 5 rfl) (Wk.w hw 6 rfl) (by decide) rfl pd_BestBlocksNextPinLaw_place rfl rfl (Nat.le_of_ble_eq_true rfl) (Nat.le_of_ble_eq_true rfl) (Nat.le_of_ble_eq_true rfl) (Nat.le_of_ble_eq_true rfl) 160 rfl fun T56 v56 L56 X56 hQ56 => ?_
          obtain ⟨rfl, N56q, K56q, A56q⟩ := hQ56
          show Wk.Ends _ _ _ _ _ _ _ (mkF m 160 _ [])
          have A56 : Wk.Arl Z T56.heap b21 .int ((own_E ([(p1 &&& (255 : Int32)), (p2 &&& (255 : Int32)), (p3 &&& (255 : Int32)), (p4 &&& (255 : Int32))] : List Int32) 2 3).map Value.int) := A56q
          have N56 := Fr.app N53 N56q
          have f57 := f54.keep K56q (ninS ne22 nin0)
          have f58 := f55.keep K56q (ninS ne23 nin0)
          have sz56 := Nat.le_trans sz53 K56q.1
          refine Wk.aload k X56 at_160 rfl rfl 162 rfl ?_
          refine Wk.aload k X56 at_162 rfl rfl 164 rfl ?_
          refine Wk.iload k X56 at_164 rfl 166 rfl ?_
          refine Wk.iconst k X56 at_166 (3 : Int32) rfl 167 rfl ?_
          refine Wk.callS k X56 [(.ref b21), (.ref b6), (.int (2 : Int32)), (.int (3 : Int32))] [] at_167 (rm_pla l Z a0 hw b21 b6 (2 : Int32) ([(p1 &&& (255 : Int32)), (p2 &&& (255 : Int32)), (p3 &&& (255 : Int32)), (p4 &&& (255 : Int32))] : List Int32) (own_E ([(p1 &&& (255 : Int32)), (p2 &&& (255 : Int32)), (p3 &&& (255 : Int32)), (p4 &&& (255 : Int32))] : List Int32) 2 3) 2 3 T56.heap n0 rfl (own_E_len _ _ _) (by decide) rfl (by decide) (Ne.symm ne23) g21 f58 A56) (rfl : T56.heap = T56.heap) (Wk.w hw 3 rfl) (Wk.w hw 4 rfl) (Wk.w hw 5 rfl) (Wk.w hw 6 rfl) (by decide) rfl pd_BestBlocksNextPinLaw_place rfl rfl (Nat.le_of_ble_eq_true rfl) (Nat.le_of_ble_eq_true rfl) (Nat.le_of_ble_eq_true rfl) (Nat.le_of_ble_eq_true rfl) 170 rfl fun T59 v59 L59 X59 hQ59 => ?_
          obtain ⟨rfl, N59q, K59q, A59q⟩ := hQ59
          show Wk.Ends _ _ _ _ _ _ _ (mkF m 170 _ [])
          have A59 : Wk.Arl Z T59.heap b21 .int ((own_E ([(p1 &&& (255 : Int32)), (p2 &&& (255 : Int32)), (p3 &&& (255 : Int32)), (p4 &&& (255 : Int32))] : List Int32) 2 4).map Value.int) := A59q
          have N59 := Fr.app N56 N59q
          have f60 := f57.keep K59q (ninS ne22 nin0)
          have f61 := f58.keep K59q (ninS ne23 nin0)
          have sz59 := Nat.le_trans sz56 K59q.1
          refine Wk.new k X59 at_170 (Wk.w hw 7 rfl) (Wk.w hw 8 rfl) (Wk.w hw 9 rfl) (rfl : T59.heap = T59.heap) (by decide) (by decide) 173 rfl fun T62 h62 b62 q62 X62 e62 E62 A62 D62 => ?_
          have g62 : n0 ≤ b62 := by rw [q62]; exact sz59
          have ne63 : b1 ≠ b62 := by rw [q62]; exact Nat.ne_of_lt f60.lt
          have ne64 : b6 ≠ b62 := by rw [q62]; exact Nat.ne_of_lt f61.lt
          have ne65 : b21 ≠ b62 := by rw [q62]; exact Nat.ne_of_lt A59.lt
          have sz62 := Nat.le_trans sz59 E62.1
          have f66 := f60.ext E62
          have f67 := f61.ext E62
          have f68 := A59.ext E62
          have f69 : Fld Z h62 b62 "com/example/quern/quern/Postings$BestBlocks" "list" "I" (.int (0 : Int32)) := D62 (Or.inl (Wk.w hw 17 rfl)) (ty := .int) (by decide)
          have f70 : Fld Z h62 b62 "com/example/quern/quern/Postings$BestBlocks" "next" "I" (.int (0 : Int32)) := D62 (Or.inl (Wk.w hw 19 rfl)) (ty := .int) (by decide)
          have f71 : Fld Z h62 b62 "com/example/quern/quern/Postings$BestBlocks" "firsts" "[I" .null := D62 (Or.inr (Wk.w hw 25 rfl)) (ty := (.array .int)) (by decide)
          have f72 : Fld Z h62 b62 "com/example/quern/quern/Postings$BestBlocks" "nexts" "[I" .null := D62 (Or.inr (Wk.w hw 31 rfl)) (ty := (.array .int)) (by decide)
          refine Wk.dup k X62 at_173 rfl 174 rfl ?_
          refine Wk.aload k X62 at_174 rfl rfl 176 rfl ?_
          refine Wk.callI k X62 [(.ref b1)] [(.ref b62)] at_176 (rm_ini l Z a0 hw b62 b1 h62 n0 ([(p1 &&& (255 : Int32)), (p2 &&& (255 : Int32)), (p3 &&& (255 : Int32)), (p4 &&& (255 : Int32))] : List Int32) ([((p1).toInt8.toInt32), ((p2).toInt8.toInt32)] : List Int32) 2 (by decide) rfl hcs g62 sz62 (Ne.symm ne63) _ _ _ _ A62 f69 f70 f71 f72 f66) e62 rfl (Wk.w hw 10 rfl) (Wk.w hw 11 rfl) (Wk.w hw 9 rfl) (Wk.w hw 12 rfl) (by decide) rfl pd_BestBlocks_init rfl rfl (Nat.le_of_ble_eq_true rfl) (Nat.le_of_ble_eq_true rfl) (Nat.le_of_ble_eq_true rfl) (Nat.le_of_ble_eq_true rfl) 179 rfl fun T73 v73 L73 X73 hQ73 => ?_
          obtain ⟨rfl, N73q, K73q, fA, xA, lo, W, fs, xs, B0⟩ := hQ73
          show Wk.Ends _ _ _ _ _ _ _ (mkF m 179 _ [(.ref b62)])
          have N73 := Fr.app N59 N73q
          have f74 := f66.keep K73q (ninS ne63 nin0)
          have f75 := f67.keep K73q (ninS ne64 nin0)
          have f76 := f68.keep K73q (ninS ne65 nin0)
          have f77 := A62.keep K73q
          refine Wk.astore k X73 at_179 rfl #[.val (.int p0), .val (.int p1), .val (.int p2), .val (.int p3), .val (.int p4), .val (.int (2 : Int32)), .val (.ref b1), .val (.ref b6), .val (.ref b21), .val (.ref b62), .unset, .unset, .unset, .unset, .unset, .unset] rfl 181 rfl ?_
          refine Wk.aload k X73 at_181 rfl rfl 183 rfl ?_
          refine Wk.callV k X73 [] [] at_183 (rm_nxt l Z a0 hw b62 fA xA _ _ lo W fs xs 0 T73.heap n0 B0) (rfl : T73.heap = T73.heap) f77 (Wk.w hw 32 rfl) (Wk.w hw 33 rfl) (Wk.w hw 35 rfl) (Wk.w hw 34 rfl) (Wk.w hw 9 rfl) (Wk.w hw 36 rfl) (by decide) rfl pd_BestBlocks_next rfl rfl (Nat.le_of_ble_eq_true rfl) (Nat.le_of_ble_eq_true rfl) (Nat.le_of_ble_eq_true rfl) (Nat.le_of_ble_eq_true rfl) 186 rfl fun T78 v78 L78 X78 hQ78 => ?_
          obtain ⟨r0, rfl, G0, N78q, K78q, B1⟩ := hQ78
          show Wk.Ends _ _ _ _ _ _ _ (mkF m 186 _ [(.int r0)])
          have N78 := Fr.app N73 N78q
          have f79 := f74.keep K78q (ninS ne63 nin0)
          have f80 := f75.keep K78q (ninS ne64 nin0)
          have f81 := f76.keep K78q (ninS ne65 nin0)
          have f82 := f77.keep K78q
          refine Wk.istore k X78 at_186 #[.val (.int p0), .val (.int p1), .val (.int p2), .val (.int p3), .val (.int p4), .val (.int (2 : Int32)), .val (.ref b1), .val (.ref b6), .val (.ref b21), .val (.ref b62), .val (.int r0), .unset, .unset, .unset, .unset, .unset] rfl 188 rfl ?_
          refine Wk.aload k X78 at_188 rfl rfl 190 rfl ?_
          refine Wk.callV k X78 [] [] at_190 (rm_nxt l Z a0 hw b62 fA xA _ _ lo W fs xs 1 T78.heap n0 B1) (rfl : T78.heap = T78.heap) f82 (Wk.w hw 32 rfl) (Wk.w hw 33 rfl) (Wk.w hw 35 rfl) (Wk.w hw 34 rfl) (Wk.w hw 9 rfl) (Wk.w hw 36 rfl) (by decide) rfl pd_BestBlocks_next rfl rfl (Nat.le_of_ble_eq_true rfl) (Nat.le_of_ble_eq_true rfl) (Nat.le_of_ble_eq_true rfl) (Nat.le_of_ble_eq_true rfl) 193 rfl fun T83 v83 L83 X83 hQ83 => ?_
          obtain ⟨r1, rfl, G1, N83q, K83q, B2⟩ := hQ83
          show Wk.Ends _ _ _ _ _ _ _ (mkF m 193 _ [(.int r1)])
          have N83 := Fr.app N78 N83q
          have f84 := f79.keep K83q (ninS ne63 nin0)
          have f85 := f80.keep K83q (ninS ne64 nin0)
          have f86 := f81.keep K83q (ninS ne65 nin0)
          have f87 := f82.keep K83q
          refine Wk.istore k X83 at_193 #[.val (.int p0), .val (.int p1), .val (.int p2), .val (.int p3), .val (.int p4), .val (.int (2 : Int32)), .val (.ref b1), .val (.ref b6), .val (.ref b21), .val (.ref b62), .val (.int r0), .val (.int r1), .unset, .unset, .unset, .unset] rfl 195 rfl ?_
          refine Wk.aload k X83 at_195 rfl rfl 197 rfl ?_
          refine Wk.callV k X83 [] [] at_197 (rm_nxt l Z a0 hw b62 fA xA _ _ lo W fs xs 2 T83.heap n0 B2) (rfl : T83.heap = T83.heap) f87 (Wk.w hw 32 rfl) (Wk.w hw 33 rfl) (Wk.w hw 35 rfl) (Wk.w hw 34 rfl) (Wk.w hw 9 rfl) (Wk.w hw 36 rfl) (by decide) rfl pd_BestBlocks_next rfl rfl (Nat.le_of_ble_eq_true rfl) (Nat.le_of_ble_eq_true rfl) (Nat.le_of_ble_eq_true rfl) (Nat.le_of_ble_eq_true rfl) 200 rfl fun T88 v88 L88 X88 hQ88 => ?_
          obtain ⟨r2, rfl, G2, N88q, K88q, B3⟩ := hQ88
          show Wk.Ends _ _ _ _ _ _ _ (mkF m 200 _ [(.int r2)])
          have N88 := Fr.app N83 N88q
          have f89 := f84.keep K88q (ninS ne63 nin0)
          have f90 := f85.keep K88q (ninS ne64 nin0)
          have f91 := f86.keep K88q (ninS ne65 nin0)
          have f92 := f87.keep K88q
          refine Wk.istore k X88 at_200 #[.val (.int p0), .val (.int p1), .val (.int p2), .val (.int p3), .val (.int p4), .val (.int (2 : Int32)), .val (.ref b1), .val (.ref b6), .val (.ref b21), .val (.ref b62), .val (.int r0), .val (.int r1), .val (.int r2), .unset, .unset, .unset] rfl 202 rfl ?_
          refine Wk.aload k X88 at_202 rfl rfl 204 rfl ?_
          refine Wk.callV k X88 [] [] at_204 (rm_nxt l Z a0 hw b62 fA xA _ _ lo W fs xs 3 T88.heap n0 B3) (rfl : T88.heap = T88.heap) f92 (Wk.w hw 32 rfl) (Wk.w hw 33 rfl) (Wk.w hw 35 rfl) (Wk.w hw 34 rfl) (Wk.w hw 9 rfl) (Wk.w hw 36 rfl) (by decide) rfl pd_BestBlocks_next rfl rfl (Nat.le_of_ble_eq_true rfl) (Nat.le_of_ble_eq_true rfl) (Nat.le_of_ble_eq_true rfl) (Nat.le_of_ble_eq_true rfl) 207 rfl fun T93 v93 L93 X93 hQ93 => ?_
          obtain ⟨r3, rfl, G3, N93q, K93q, B4⟩ := hQ93
          show Wk.Ends _ _ _ _ _ _ _ (mkF m 207 _ [(.int r3)])
          have N93 := Fr.app N88 N93q
          have f94 := f89.keep K93q (ninS ne63 nin0)
          have f95 := f90.keep K93q (ninS ne64 nin0)
          have f96 := f91.keep K93q (ninS ne65 nin0)
          have f97 := f92.keep K93q
          refine Wk.istore k X93 at_207 #[.val (.int p0), .val (.int p1), .val (.int p2), .val (.int p3), .val (.int p4), .val (.int (2 : Int32)), .val (.ref b1), .val (.ref b6), .val (.ref b21), .val (.ref b62), .val (.int r0), .val (.int r1), .val (.int r2), .val (.int r3), .unset, .unset] rfl 209 rfl ?_
          refine Wk.aload k X93 at_209 rfl rfl 211 rfl ?_
          refine Wk.callV k X93 [] [] at_211 (rm_nxt l Z a0 hw b62 fA xA _ _ lo W fs xs 4 T93.heap n0 B4) (rfl : T93.heap = T93.heap) f97 (Wk.w hw 32 rfl) (Wk.w hw 33 rfl) (Wk.w hw 35 rfl) (Wk.w hw 34 rfl) (Wk.w hw 9 rfl) (Wk.w hw 36 rfl) (by decide) rfl pd_BestBlocks_next rfl rfl (Nat.le_of_ble_eq_true rfl) (Nat.le_of_ble_eq_true rfl) (Nat.le_of_ble_eq_true rfl) (Nat.le_of_ble_eq_true rfl) 214 rfl fun T98 v98 L98 X98 hQ98 => ?_
          obtain ⟨r4, rfl, G4, N98q, K98q, B5⟩ := hQ98
          show Wk.Ends _ _ _ _ _ _ _ (mkF m 214 _ [(.int r4)])
          have N98 := Fr.app N93 N98q
          have f99 := f94.keep K98q (ninS ne63 nin0)
          have f100 := f95.keep K98q (ninS ne64 nin0)
          have f101 := f96.keep K98q (ninS ne65 nin0)
          have f102 := f97.keep K98q
          refine Wk.istore k X98 at_214 #[.val (.int p0), .val (.int p1), .val (.int p2), .val (.int p3), .val (.int p4), .val (.int (2 : Int32)), .val (.ref b1), .val (.ref b6), .val (.ref b21), .val (.ref b62), .val (.int r0), .val (.int r1), .val (.int r2), .val (.int r3), .val (.int r4), .unset] rfl 216 rfl ?_
          refine Wk.aload k X98 at_216 rfl rfl 218 rfl ?_
          refine Wk.callV k X98 [] [] at_218 (rm_nxt l Z a0 hw b62 fA xA _ _ lo W fs xs 5 T98.heap n0 B5) (rfl : T98.heap = T98.heap) f102 (Wk.w hw 32 rfl) (Wk.w hw 33 rfl) (Wk.w hw 35 rfl) (Wk.w hw 34 rfl) (Wk.w hw 9 rfl) (Wk.w hw 36 rfl) (by decide) rfl pd_BestBlocks_next rfl rfl (Nat.le_of_ble_eq_true rfl) (Nat.le_of_ble_eq_true rfl) (Nat.le_of_ble_eq_true rfl) (Nat.le_of_ble_eq_true rfl) 221 rfl fun T103 v103 L103 X103 hQ103 => ?_
          obtain ⟨r5, rfl, G5, N103q, K103q, B6⟩ := hQ103
          show Wk.Ends _ _ _ _ _ _ _ (mkF m 221 _ [(.int r5)])
          have N103 := Fr.app N98 N103q
          have f104 := f99.keep K103q (ninS ne63 nin0)
          have f105 := f100.keep K103q (ninS ne64 nin0)
          have f106 := f101.keep K103q (ninS ne65 nin0)
          have f107 := f102.keep K103q
          refine Wk.istore k X103 at_221 #[.val (.int p0), .val (.int p1), .val (.int p2), .val (.int p3), .val (.int p4), .val (.int (2 : Int32)), .val (.ref b1), .val (.ref b6), .val (.ref b21), .val (.ref b62), .val (.int r0), .val (.int r1), .val (.int r2), .val (.int r3), .val (.int r4), .val (.int r5)] rfl 223 rfl ?_
          refine Wk.iload k X103 at_223 rfl 225 rfl ?_
          refine Wk.aload k X103 at_225 rfl rfl 227 rfl ?_
          refine Wk.iconst k X103 at_227 (0 : Int32) rfl 228 rfl ?_
          refine Wk.iaload k X103 at_228 (rfl : T103.heap = T103.heap) f106 0 rfl ((own_E ([(p1 &&& (255 : Int32)), (p2 &&& (255 : Int32)), (p3 &&& (255 : Int32)), (p4 &&& (255 : Int32))] : List Int32) 2 4).getD 0 0) (own_gD (by rw [own_E_len]; decide)) 229 rfl ?_
          refine Wk.icmp_ne k X103 at_229 (by decide) 281 232 (by decide) rfl (fun hc229 => ?_) (fun hc229 => ?_)
          · exact absurd (own_same (by decide) (by decide) G0) hc229
          · refine Wk.iload k X103 at_232 rfl 234 rfl ?_
            refine Wk.aload k X103 at_234 rfl rfl 236 rfl ?_
            refine Wk.iconst k X103 at_236 (1 : Int32) rfl 237 rfl ?_
            refine Wk.iaload k X103 at_237 (rfl : T103.heap = T103.heap) f106 1 rfl ((own_E ([(p1 &&& (255 : Int32)), (p2 &&& (255 : Int32)), (p3 &&& (255 : Int32)), (p4 &&& (255 : Int32))] : List Int32) 2 4).getD 1 0) (own_gD (by rw [own_E_len]; decide)) 238 rfl ?_
            refine Wk.icmp_ne k X103 at_238 (by decide) 281 241 (by decide) rfl (fun hc238 => ?_) (fun hc238 => ?_)
            · exact absurd (own_same (by decide) (by decide) G1) hc238
            · refine Wk.iload k X103 at_241 rfl 243 rfl ?_
              refine Wk.aload k X103 at_243 rfl rfl 245 rfl ?_
              refine Wk.iconst k X103 at_245 (2 : Int32) rfl 246 rfl ?_
              refine Wk.iaload k X103 at_246 (rfl : T103.heap = T103.heap) f106 2 rfl ((own_E ([(p1 &&& (255 : Int32)), (p2 &&& (255 : Int32)), (p3 &&& (255 : Int32)), (p4 &&& (255 : Int32))] : List Int32) 2 4).getD 2 0) (own_gD (by rw [own_E_len]; decide)) 247 rfl ?_
              refine Wk.icmp_ne k X103 at_247 (by decide) 281 250 (by decide) rfl (fun hc247 => ?_) (fun hc247 => ?_)
              · exact absurd (own_same (by decide) (by decide) G2) hc247
              · refine Wk.iload k X103 at_250 rfl 252 rfl ?_
                refine Wk.aload k X103 at_252 rfl rfl 254 rfl ?_
                refine Wk.iconst k X103 at_254 (3 : Int32) rfl 255 rfl ?_
                refine Wk.iaload k X103 at_255 (rfl : T103.heap = T103.heap) f106 3 rfl ((own_E ([(p1 &&& (255 : Int32)), (p2 &&& (255 : Int32)), (p3 &&& (255 : Int32)), (p4 &&& (255 : Int32))] : List Int32) 2 4).getD 3 0) (own_gD (by rw [own_E_len]; decide)) 256 rfl ?_
                refine Wk.icmp_ne k X103 at_256 (by decide) 281 259 (by decide) rfl (fun hc256 => ?_) (fun hc256 => ?_)
                · exact absurd (own_same (by decide) (by decide) G3) hc256
                · refine Wk.iload k X103 at_259 rfl 261 rfl ?_
                  refine Wk.aload k X103 at_261 rfl rfl 263 rfl ?_
                  refine Wk.iconst k X103 at_263 (4 : Int32) rfl 264 rfl ?_
                  refine Wk.iaload k X103 at_264 (rfl : T103.heap = T103.heap) f106 4 rfl ((own_E ([(p1 &&& (255 : Int32)), (p2 &&& (255 : Int32)), (p3 &&& (255 : Int32)), (p4 &&& (255 : Int32))] : List Int32) 2 4).getD 4 0) (own_gD (by rw [own_E_len]; decide)) 265 rfl ?_
                  refine Wk.icmp_ne k X103 at_265 (by decide) 281 268 (by decide) rfl (fun hc265 => ?_) (fun hc265 => ?_)
                  · exact absurd (own_same (by decide) (by decide) G4) hc265
                  · refine Wk.iload k X103 at_268 rfl 270 rfl ?_
                    refine Wk.aload k X103 at_270 rfl rfl 272 rfl ?_
                    refine Wk.iconst k X103 at_272 (5 : Int32) rfl 273 rfl ?_
                    refine Wk.iaload k X103 at_273 (rfl : T103.heap = T103.heap) f106 5 rfl ((own_E ([(p1 &&& (255 : Int32)), (p2 &&& (255 : Int32)), (p3 &&& (255 : Int32)), (p4 &&& (255 : Int32))] : List Int32) 2 4).getD 5 0) (own_gD (by rw [own_E_len]; decide)) 274 rfl ?_
                    refine Wk.icmp_ne k X103 at_274 (by decide) 281 277 (by decide) rfl (fun hc274 => ?_) (fun hc274 => ?_)
                    · exact absurd (own_same (by decide) (by decide) G5) hc274
                    · refine Wk.iconst k X103 at_277 (1 : Int32) rfl 278 rfl ?_
                      refine Wk.goto k X103 at_278 (by decide) 282 (by decide) ?_
                      exact Wk.ret_bool k X103 rfl at_282 (by decide) (by decide) (by decide) ⟨rfl, N103⟩
        · first | exact absurd hc52 (by decide) | exact absurd (by decide) hc52
      · first | exact absurd hc40 (by decide) | exact absurd (by decide) hc40
set_option maxRecDepth 65536 in
set_option maxHeartbeats 40000000 in
theorem law_8_3 {p : Program} {l : Launch} {e : Env} {s : State} {m : MethodId} {args : Array Value} {below : List Frame} {meth : Method} {c : Code} {Z : State} {a0 : Array Value} {h0 : Heap} {n0 : Nat} {T0 : State} (hw : ∀ d ∈ tables_1, d.before a0 Z = true) (k : Wk.K p s m meth c Z x code maxLocals ret) (X0 : Stand p l e room_1 s m args below meth c T0 [] 0 0) (p0 p1 p2 p3 p4 : Int32) (e0 : T0.heap = h0) (Z0 : n0 ≤ h0.size) (N0 : Fr n0 []) : Wk.Ends p e s below room_1 (fun v _ L => v = some (.int 1) ∧ Fr n0 L) T0 (mkF m 8 #[.val (.int p0), .val (.int p1), .val (.int p2), .val (.int p3), .val (.int p4), .val (.int (3 : Int32)), .unset, .unset, .unset, .unset, .unset, .unset, .unset, .unset, .unset, .unset] []) := by
  have hcs : ∀ i, i < 3 → (([(p1).toInt8.toInt32, (p2).toInt8.toInt32, (p3).toInt8.toInt32] : List Int32).getD i 0 &&& (255 : Int32)) = ([(p1 &&& (255 : Int32)), (p2 &&& (255 : Int32)), (p3 &&& (255 : Int32)), (p4 &&& (255 : Int32))] : List Int32).getD i 0 := fun i hi => by
    match i, hi with
    | 0, _ => exact own_b255 p1
    | 1, _ => exact own_b255 p2
    | 2, _ => exact own_b255 p3
  refine Wk.iload k X0 at_8 rfl 10 rfl ?_
  refine Wk.newarray k X0 at_10 (Wk.w hw 1 rfl) e0 3 rfl 3 (by decide) (by decide) (by decide) (by decide) 12 rfl fun T1 h1 b1 q1 X1 e1 E1 A1 => ?_
  have g1 : n0 ≤ b1 := by rw [q1]; exact Z0
  have sz1 := Nat.le_trans Z0 E1.1
  have A1' : Wk.Arl Z h1 b1 .byte (([(0 : Int32), (0 : Int32), (0 : Int32)] : List Int32).map Value.int) := A1
  refine Wk.astore k X1 at_12 rfl #[.val (.int p0), .val (.int p1), .val (.int p2), .val (.int p3), .val (.int p4), .val (.int (3 : Int32)), .val (.ref b1), .unset, .unset, .unset, .unset, .unset, .unset, .unset, .unset, .unset] rfl 14 rfl ?_
  refine Wk.iload k X1 at_14 rfl 16 rfl ?_
  refine Wk.if_le k X1 at_16 (by decide) 25 19 (by decide) rfl (fun hc16 => ?_) (fun hc16 => ?_)
  · first | exact absurd hc16 (by decide) | exact absurd (by decide) hc16
  · refine Wk.aload k X1 at_19 rfl rfl 21 rfl ?_
    refine Wk.iconst k X1 at_21 (0 : Int32) rfl 22 rfl ?_
    refine Wk.iload_n k X1 at_22 rfl 23 rfl ?_
    refine Wk.i2b k X1 at_23 24 rfl ?_
    refine Wk.bastore k X1 (x := ((p1).toInt8.toInt32)) at_24 e1 A1' 0 rfl (show 0 < 3 from by decide) ((p1).toInt8.toInt32) (own_b8 _) 25 rfl fun T2 h2 X2 e2 W2 A2 => ?_
    have sz2 : n0 ≤ h2.size := by rw [W2.size]; exact sz1
    have N3 := Fr.snoc X2 N0 g1
    have A2' : Wk.Arl Z h2 b1 .byte (([((p1).toInt8.toInt32), (0 : Int32), (0 : Int32)] : List Int32).map Value.int) := A2
    refine Wk.iload k X2 at_25 rfl 27 rfl ?_
    refine Wk.iconst k X2 at_27 (1 : Int32) rfl 28 rfl ?_
    refine Wk.icmp_le k X2 at_28 (by decide) 37 31 (by decide) rfl (fun hc28 => ?_) (fun hc28 => ?_)
    · first | exact absurd hc28 (by decide) | exact absurd (by decide) hc28
    · refine Wk.aload k X2 at_31 rfl rfl 33 rfl ?_
      refine Wk.iconst k X2 at_33 (1 : Int32) rfl 34 rfl ?_
      refine Wk.iload_n k X2 at_34 rfl 35 rfl ?_
      refine Wk.i2b k X2 at_35 36 rfl ?_
      refine Wk.bastore k X2 (x := ((p2).toInt8.toInt32)) at_36 e2 A2' 1 rfl (show 1 < 3 from by decide) ((p2).toInt8.toInt32) (own_b8 _) 37 rfl fun T4 h4 X4 e4 W4 A4 => ?_
      have sz4 : n0 ≤ h4.size := by rw [W4.size]; exact sz2
      have N5 := Fr.snoc X4 N3 g1
      have A4' : Wk.Arl Z h4 b1 .byte (([((p1).toInt8.toInt32), ((p2).toInt8.toInt32), (0 : Int32)] : List Int32).map Value.int) := A4
      refine Wk.iload k X4 at_37 rfl 39 rfl ?_
      refine Wk.iconst k X4 at_39 (2 : Int32) rfl 40 rfl ?_
      refine Wk.icmp_le k X4 at_40 (by decide) 49 43 (by decide) rfl (fun hc40 => ?_) (fun hc40 => ?_)
      · first | exact absurd hc40 (by decide) | exact absurd (by decide) hc40
      · refine Wk.aload k X4 at_43 rfl rfl 45 rfl ?_
        refine Wk.iconst k X4 at_45 (2 : Int32) rfl 46 rfl ?_
        refine Wk.iload_n k X4 at_46 rfl 47 rfl ?_
        refine Wk.i2b k X4 at_47 48 rfl ?_
        refine Wk.bastore k X4 (x := ((p3).toInt8.toInt32)) at_48 e4 A4' 2 rfl (show 2 < 3 from by decide) ((p3).toInt8.toInt32) (own_b8 _) 49 rfl fun T6 h6 X6 e6 W6 A6 => ?_
        have sz6 : n0 ≤ h6.size := by rw [W6.size]; exact sz4
        have N7 := Fr.snoc X6 N5 g1
        have A6' : Wk.Arl Z h6 b1 .byte (([((p1).toInt8.toInt32), ((p2).toInt8.toInt32), ((p3).toInt8.toInt32)] : List Int32).map Value.int) := A6
        refine Wk.iload k X6 at_49 rfl 51 rfl ?_
        refine Wk.iconst k X6 at_51 (3 : Int32) rfl 52 rfl ?_
        refine Wk.icmp_le k X6 at_52 (by decide) 62 55 (by decide) rfl (fun hc52 => ?_) (fun hc52 => ?_)
        · refine Wk.iconst k X6 at_62 (4 : Int32) rfl 63 rfl ?_
          refine Wk.newarray k X6 at_63 (Wk.w hw 2 rfl) e6 4 rfl 4 (by decide) (by decide) (by decide) (by decide) 65 rfl fun T8 h8 b8 q8 X8 e8 E8 A8 => ?_
          have g8 : n0 ≤ b8 := by rw [q8]; exact sz6
          have ne9 : b1 ≠ b8 := by rw [q8]; exact Nat.ne_of_lt A6'.lt
          have sz8 := Nat.le_trans sz6 E8.1
          have f10 := A6'.ext E8
          have A8' : Wk.Arl Z h8 b8 .int (([(0 : Int32), (0 : Int32), (0 : Int32), (0 : Int32)] : List Int32).map Value.int) := A8
          refine Wk.dup k X8 at_65 rfl 66 rfl ?_
          refine Wk.iconst k X8 at_66 (0 : Int32) rfl 67 rfl ?_
          refine Wk.iload_n k X8 at_67 rfl 68 rfl ?_
          refine Wk.sipush k X8 at_68 (255 : Int32) rfl 71 rfl ?_
          refine Wk.iand k X8 at_71 72 rfl ?_
          refine Wk.iastore k X8 (x := (p1 &&& (255 : Int32))) at_72 e8 A8' 0 rfl (show 0 < 4 from by decide) 73 rfl fun T11 h11 X11 e11 W11 A11 => ?_
          have sz11 : n0 ≤ h11.size := by rw [W11.size]; exact sz8
          have N12 := Fr.snoc X11 N7 g8
          have f13 := f10.other W11 ne9
          have A11' : Wk.Arl Z h11 b8 .int (([(p1 &&& (255 : Int32)), (0 : Int32), (0 : Int32), (0 : Int32)] : List Int32).map Value.int) := A11
          refine Wk.dup k X11 at_73 rfl 74 rfl ?_
          refine Wk.iconst k X11 at_74 (1 : Int32) rfl 75 rfl ?_
          refine Wk.iload_n k X11 at_75 rfl 76 rfl ?_
          refine Wk.sipush k X11 at_76 (255 : Int32) rfl 79 rfl ?_
          refine Wk.iand k X11 at_79 80 rfl ?_
          refine Wk.iastore k X11 (x := (p2 &&& (255 : Int32))) at_80 e11 A11' 1 rfl (show 1 < 4 from by decide) 81 rfl fun T14 h14 X14 e14 W14 A14 => ?_
          have sz14 : n0 ≤ h14.size := by rw [W14.size]; exact sz11
          have N15 := Fr.snoc X14 N12 g8
          have f16 := f13.other W14 ne9
          have A14' : Wk.Arl Z h14 b8 .int (([(p1 &&& (255 : Int32)), (p2 &&& (255 : Int32)), (0 : Int32), (0 : Int32)] : List Int32).map Value.int) := A14
          refine Wk.dup k X14 at_81 rfl 82 rfl ?_
          refine Wk.iconst k X14 at_82 (2 : Int32) rfl 83 rfl ?_
          refine Wk.iload_n k X14 at_83 rfl 84 rfl ?_
          refine Wk.sipush k X14 at_84 (255 : Int32) rfl 87 rfl ?_
          refine Wk.iand k X14 at_87 88 rfl ?_
          refine Wk.iastore k X14 (x := (p3 &&& (255 : Int32))) at_88 e14 A14' 2 rfl (show 2 < 4 from by decide) 89 rfl fun T17 h17 X17 e17 W17 A17 => ?_
          have sz17 : n0 ≤ h17.size := by rw [W17.size]; exact sz14
          have N18 := Fr.snoc X17 N15 g8
          have f19 := f16.other W17 ne9
          have A17' : Wk.Arl Z h17 b8 .int (([(p1 &&& (255 : Int32)), (p2 &&& (255 : Int32)), (p3 &&& (255 : Int32)), (0 : Int32)] : List Int32).map Value.int) := A17
          refine Wk.dup k X17 at_89 rfl 90 rfl ?_
          refine Wk.iconst k X17 at_90 (3 : Int32) rfl 91 rfl ?_
          refine Wk.iload k X17 at_91 rfl 93 rfl ?_
          refine Wk.sipush k X17 at_93 (255 : Int32) rfl 96 rfl ?_
          refine Wk.iand k X17 at_96 97 rfl ?_
          refine Wk.iastore k X17 (x := (p4 &&& (255 : Int32))) at_97 e17 A17' 3 rfl (show 3 < 4 from by decide) 98 rfl fun T20 h20 X20 e20 W20 A20 => ?_
          have sz20 : n0 ≤ h20.size := by rw [W20.size]; exact sz17
          have N21 := Fr.snoc X20 N18 g8
          have f22 := f19.other W20 ne9
          have A20' : Wk.Arl Z h20 b8 .int (([(p1 &&& (255 : Int32)), (p2 &&& (255 : Int32)), (p3 &&& (255 : Int32)), (p4 &&& (255 : Int32))] : List Int32).map Value.int) := A20
          refine Wk.astore k X20 at_98 rfl #[.val (.int p0), .val (.int p1), .val (.int p2), .val (.int p3), .val (.int p4), .val (.int (3 : Int32)), .val (.ref b1), .val (.ref b8), .unset, .unset, .unset, .unset, .unset, .unset, .unset, .unset] rfl 100 rfl ?_
          refine Wk.bipush k X20 at_100 (6 : Int32) rfl 102 rfl ?_
          refine Wk.newarray k X20 at_102 (Wk.w hw 2 rfl) e20 6 rfl 6 (by decide) (by decide) (by decide) (by decide) 104 rfl fun T23 h23 b23 q23 X23 e23 E23 A23 => ?_
          have g23 : n0 ≤ b23 := by rw [q23]; exact sz20
          have ne24 : b1 ≠ b23 := by rw [q23]; exact Nat.ne_of_lt f22.lt
          have ne25 : b8 ≠ b23 := by rw [q23]; exact Nat.ne_of_lt A20'.lt
          have sz23 := Nat.le_trans sz20 E23.1
          have f26 := f22.ext E23
          have f27 := A20'.ext E23
          have A23' : Wk.Arl Z h23 b23 .int (([(0 : Int32), (0 : Int32), (0 : Int32), (0 : Int32), (0 : Int32), (0 : Int32)] : List Int32).map Value.int) := A23
          refine Wk.dup k X23 at_104 rfl 105 rfl ?_
          refine Wk.iconst k X23 at_105 (0 : Int32) rfl 106 rfl ?_
          refine Wk.iconst k X23 at_106 (-1 : Int32) rfl 107 rfl ?_
          refine Wk.iastore k X23 (x := (-1 : Int32)) at_107 e23 A23' 0 rfl (show 0 < 6 from by decide) 108 rfl fun T28 h28 X28 e28 W28 A28 => ?_
          have sz28 : n0 ≤ h28.size := by rw [W28.size]; exact sz23
          have N29 := Fr.snoc X28 N21 g23
          have f30 := f26.other W28 ne24
          have f31 := f27.other W28 ne25
          have A28' : Wk.Arl Z h28 b23 .int (([(-1 : Int32), (0 : Int32), (0 : Int32), (0 : Int32), (0 : Int32), (0 : Int32)] : List Int32).map Value.int) := A28
          refine Wk.dup k X28 at_108 rfl 109 rfl ?_
          refine Wk.iconst k X28 at_109 (1 : Int32) rfl 110 rfl ?_
          refine Wk.iconst k X28 at_110 (-1 : Int32) rfl 111 rfl ?_
          refine Wk.iastore k X28 (x := (-1 : Int32)) at_111 e28 A28' 1 rfl (show 1 < 6 from by decide) 112 rfl fun T32 h32 X32 e32 W32 A32 => ?_
          have sz32 : n0 ≤ h32.size := by rw [W32.size]; exact sz28
          have N33 := Fr.snoc X32 N29 g23
          have f34 := f30.other W32 ne24
          have f35 := f31.other W32 ne25
          have A32' : Wk.Arl Z h32 b23 .int (([(-1 : Int32), (-1 : Int32), (0 : Int32), (0 : Int32), (0 : Int32), (0 : Int32)] : List Int32).map Value.int) := A32
          refine Wk.dup k X32 at_112 rfl 113 rfl ?_
          refine Wk.iconst k X32 at_113 (2 : Int32) rfl 114 rfl ?_
          refine Wk.iconst k X32 at_114 (-1 : Int32) rfl 115 rfl ?_
          refine Wk.iastore k X32 (x := (-1 : Int32)) at_115 e32 A32' 2 rfl (show 2 < 6 from by decide) 116 rfl fun T36 h36 X36 e36 W36 A36 => ?_
          have sz36 : n0 ≤ h36.size := by rw [W36.size]; exact sz32
          have N37 := Fr.snoc X36 N33 g23
          have f38 := f34.other W36 ne24
          have f39 := f35.other W36 ne25
          have A36' : Wk.Arl Z h36 b23 .int (([(-1 : Int32), (-1 : Int32), (-1 : Int32), (0 : Int32), (0 : Int32), (0 : Int32)] : List Int32).map Value.int) := A36
          refine Wk.dup k X36 at_116 rfl 117 rfl ?_
          refine Wk.iconst k X36 at_117 (3 : Int32) rfl 118 rfl ?_
          refine Wk.iconst k X36 at_118 (-1 : Int32) rfl 119 rfl ?_
          refine Wk.iastore k X36 (x := (-1 : Int32)) at_119 e36 A36' 3 rfl (show 3 < 6 from by decide) 120 rfl fun T40 h40 X40 e40 W40 A40 => ?_
          have sz40 : n0 ≤ h40.size := by rw [W40.size]; exact sz36
          have N41 := Fr.snoc X40 N37 g23
          have f42 := f38.other W40 ne24
          have f43 := f39.other W40 ne25
          have A40' : Wk.Arl Z h40 b23 .int (([(-1 : Int32), (-1 : Int32), (-1 : Int32), (-1 : Int32), (0 : Int32), (0 : Int32)] : List Int32).map Value.int) := A40
          refine Wk.dup k X40 at_120 rfl 121 rfl ?_
          refine Wk.iconst k X40 at_121 (4 : Int32) rfl 122 rfl ?_
          refine Wk.iconst k X40 at_122 (-1 : Int32) rfl 123 rfl ?_
          refine Wk.iastore k X40 (x := (-1 : Int32)) at_123 e40 A40' 4 rfl (show 4 < 6 from by decide) 124 rfl fun T44 h44 X44 e44 W44 A44 => ?_
          have sz44 : n0 ≤ h44.size := by rw [W44.size]; exact sz40
          have N45 := Fr.snoc X44 N41 g23
          have f46 := f42.other W44 ne24
          have f47 := f43.other W44 ne25
          have A44' : Wk.Arl Z h44 b23 .int (([(-1 : Int32), (-1 : Int32), (-1 : Int32), (-1 : Int32), (-1 : Int32), (0 : Int32)] : List Int32).map Value.int) := A44
          refine Wk.dup k X44 at_124 rfl 125 rfl ?_
          refine Wk.iconst k X44 at_125 (5 : Int32) rfl 126 rfl ?_
          refine Wk.iconst k X44 at_126 (-1 : Int32) rfl 127 rfl ?_
          refine Wk.iastore k X44 (x := (-1 : Int32)) at_127 e44 A44' 5 rfl (show 5 < 6 from by decide) 128 rfl fun T48 h48 X48 e48 W48 A48 => ?_
          have sz48 : n0 ≤ h48.size := by rw [W48.size]; exact sz44
          have N49 := Fr.snoc X48 N45 g23
          have f50 := f46.other W48 ne24
          have f51 := f47.other W48 ne25
          have A48' : Wk.Arl Z h48 b23 .int (([(-1 : Int32), (-1 : Int32), (-1 : Int32), (-1 : Int32), (-1 : Int32), (-1 : Int32)] : List Int32).map Value.int) := A48
          refine Wk.astore k X48 at_128 rfl #[.val (.int p0), .val (.int p1), .val (.int p2), .val (.int p3), .val (.int p4), .val (.int (3 : Int32)), .val (.ref b1), .val (.ref b8), .val (.ref b23), .unset, .unset, .unset, .unset, .unset, .unset, .unset] rfl 130 rfl ?_
          refine Wk.aload k X48 at_130 rfl rfl 132 rfl ?_
          refine Wk.aload k X48 at_132 rfl rfl 134 rfl ?_
          refine Wk.iload k X48 at_134 rfl 136 rfl ?_
          refine Wk.iconst k X48 at_136 (0 : Int32) rfl 137 rfl ?_
          have AE : Wk.Arl Z h48 b23 .int ((own_E ([(p1 &&& (255 : Int32)), (p2 &&& (255 : Int32)), (p3 &&& (255 : Int32)), (p4 &&& (255 : Int32))] : List Int32) 3 0).map Value.int) := A48'
          refine Wk.callS k X48 [(.ref b23), (.ref b8), (.int (3 : Int32)), (.int (0 : Int32))] [] at_137 (rm_pla l Z a0 hw b23 b8 (3 : Int32) ([(p1 &&& (255 : Int32)), (p2 &&& (255 : Int32)), (p3 &&& (255 : Int32)), (p4 &&& (255 : Int32))] : List Int32) (own_E ([(p1 &&& (255 : Int32)), (p2 &&& (255 : Int32)), (p3 &&& (255 : Int32)), (p4 &&& (255 : Int32))] : List Int32) 3 0) 3 0 h48 n0 rfl (own_E_len _ _ _) (by decide) rfl (by decide) (Ne.symm ne25) g23 f51 AE) e48 (Wk.w hw 3 rfl) (Wk.w hw 4 rfl) (Wk.w hw 5 rfl) (Wk.w hw 6 rfl) (by decide) rfl pd_BestBlocksNextPinLaw_place rfl rfl (Nat.le_of_ble_eq_true rfl) (Nat.le_of_ble_eq_true rfl) (Nat.le_of_ble_eq_true rfl) (Nat.le_of_ble_eq_true rfl) 140 rfl fun T52 v52 L52 X52 hQ52 => ?_
          obtain ⟨rfl, N52q, K52q, A52q⟩ := hQ52
          show Wk.Ends _ _ _ _ _ _ _ (mkF m 140 _ [])
          have A52 : Wk.Arl Z T52.heap b23 .int ((own_E ([(p1 &&& (255 : Int32)), (p2 &&& (255 : Int32)), (p3 &&& (255 : Int32)), (p4 &&& (255 : Int32))] : List Int32) 3 1).map Value.int) := A52q
          have N52 := Fr.app N49 N52q
          have f53 := f50.keep K52q (ninS ne24 nin0)
          have f54 := f51.keep K52q (ninS ne25 nin0)
          have sz52 := Nat.le_trans sz48 K52q.1
          refine Wk.aload k X52 at_140 rfl rfl 142 rfl ?_
          refine Wk.aload k X52 at_142 rfl rfl 144 rfl ?_
          refine Wk.iload k X52 at_144 rfl 146 rfl ?_
          refine Wk.iconst k X52 at_146 (1 : Int32) rfl 147 rfl ?_
          refine Wk.callS k X52 [(.ref b23), (.ref b8), (.int (3 : Int32)), (.int (1 : Int32))] [] at_147 (rm_pla l Z a0 hw b23 b8 (3 : Int32) ([(p1 &&& (255 : Int32)), (p2 &&& (255 : Int32)), (p3 &&& (255 : Int32)), (p4 &&& (255 : Int32))] : List Int32) (own_E ([(p1 &&& (255 : Int32)), (p2 &&& (255 : Int32)), (p3 &&& (255 : Int32)), (p4 &&& (255 : Int32))] : List Int32) 3 1) 3 1 T52.heap n0 rfl (own_E_len _ _ _) (by decide) rfl (by decide) (Ne.symm ne25) g23 f54 A52) (rfl : T52.heap = T52.heap) (Wk.w hw 3 rfl) (Wk.w hw 4 rfl) (Wk.w hw 5 rfl) (Wk.w hw 6 rfl) (by decide) rfl pd_BestBlocksNextPinLaw_place rfl rfl (Nat.le_of_ble_eq_true rfl) (Nat.le_of_ble_eq_true rfl) (Nat.le_of_ble_eq_true rfl) (Nat.le_of_ble_eq_true rfl) 150 rfl fun T55 v55 L55 X55 hQ55 => ?_
          obtain ⟨rfl, N55q, K55q, A55q⟩ := hQ55
          show Wk.Ends _ _ _ _ _ _ _ (mkF m 150 _ [])
          have A55 : Wk.Arl Z T55.heap b23 .int ((own_E ([(p1 &&& (255 : Int32)), (p2 &&& (255 : Int32)), (p3 &&& (255 : Int32)), (p4 &&& (255 : Int32))] : List Int32) 3 2).map Value.int) := A55q
          have N55 := Fr.app N52 N55q
          have f56 := f53.keep K55q (ninS ne24 nin0)
          have f57 := f54.keep K55q (ninS ne25 nin0)
          have sz55 := Nat.le_trans sz52 K55q.1
          refine Wk.aload k X55 at_150 rfl rfl 152 rfl ?_
          refine Wk.aload k X55 at_152 rfl rfl 154 rfl ?_
          refine Wk.iload k X55 at_154 rfl 156 rfl ?_
          refine Wk.iconst k X55 at_156 (2 : Int32) rfl 157 rfl ?_
          refine Wk.callS k X55 [(.ref b23), (.ref b8), (.int (3 : Int32)), (.int (2 : Int32))] [] at_157 (rm_pla l Z a0 hw b23 b8 (3 : Int32) ([(p1 &&& (255 : Int32)), (p2 &&& (255 : Int32)), (p3 &&& (255 : Int32)), (p4 &&& (255 : Int32))] : List Int32) (own_E ([(p1 &&& (255 : Int32)), (p2 &&& (255 : Int32)), (p3 &&& (255 : Int32)), (p4 &&& (255 : Int32))] : List Int32) 3 2) 3 2 T55.heap n0 rfl (own_E_len _ _ _) (by decide) rfl (by decide) (Ne.symm ne25) g23 f57 A55) (rfl : T55.heap = T55.heap) (Wk.w hw 3 rfl) (Wk.w hw 4 rfl) (Wk.w hw 5 rfl) (Wk.w hw 6 rfl) (by decide) rfl pd_BestBlocksNextPinLaw_place rfl rfl (Nat.le_of_ble_eq_true rfl) (Nat.le_of_ble_eq_true rfl) (Nat.le_of_ble_eq_true rfl) (Nat.le_of_ble_eq_true rfl) 160 rfl fun T58 v58 L58 X58 hQ58 => ?_
          obtain ⟨rfl, N58q, K58q, A58q⟩ := hQ58
          show Wk.Ends _ _ _ _ _ _ _ (mkF m 160 _ [])
          have A58 : Wk.Arl Z T58.heap b23 .int ((own_E ([(p1 &&& (255 : Int32)), (p2 &&& (255 : Int32)), (p3 &&& (255 : Int32)), (p4 &&& (255 : Int32))] : List Int32) 3 3).map Value.int) := A58q
          have N58 := Fr.app N55 N58q
          have f59 := f56.keep K58q (ninS ne24 nin0)
          have f60 := f57.keep K58q (ninS ne25 nin0)
          have sz58 := Nat.le_trans sz55 K58q.1
          refine Wk.aload k X58 at_160 rfl rfl 162 rfl ?_
          refine Wk.aload k X58 at_162 rfl rfl 164 rfl ?_
          refine Wk.iload k X58 at_164 rfl 166 rfl ?_
          refine Wk.iconst k X58 at_166 (3 : Int32) rfl 167 rfl ?_
          refine Wk.callS k X58 [(.ref b23), (.ref b8), (.int (3 : Int32)), (.int (3 : Int32))] [] at_167 (rm_pla l Z a0 hw b23 b8 (3 : Int32) ([(p1 &&& (255 : Int32)), (p2 &&& (255 : Int32)), (p3 &&& (255 : Int32)), (p4 &&& (255 : Int32))] : List Int32) (own_E ([(p1 &&& (255 : Int32)), (p2 &&& (255 : Int32)), (p3 &&& (255 : Int32)), (p4 &&& (255 : Int32))] : List Int32) 3 3) 3 3 T58.heap n0 rfl (own_E_len _ _ _) (by decide) rfl (by decide) (Ne.symm ne25) g23 f60 A58) (rfl : T58.heap = T58.heap) (Wk.w hw 3 rfl) (Wk.w hw 4 rfl) (Wk.w hw 5 rfl) (Wk.w hw 6 rfl) (by decide) rfl pd_BestBlocksNextPinLaw_place rfl rfl (Nat.le_of_ble_eq_true rfl) (Nat.le_of_ble_eq_true rfl) (Nat.le_of_ble_eq_true rfl) (Nat.le_of_ble_eq_true rfl) 170 rfl fun T61 v61 L61 X61 hQ61 => ?_
          obtain ⟨rfl, N61q, K61q, A61q⟩ := hQ61
          show Wk.Ends _ _ _ _ _ _ _ (mkF m 170 _ [])
          have A61 : Wk.Arl Z T61.heap b23 .int ((own_E ([(p1 &&& (255 : Int32)), (p2 &&& (255 : Int32)), (p3 &&& (255 : Int32)), (p4 &&& (255 : Int32))] : List Int32) 3 4).map Value.int) := A61q
          have N61 := Fr.app N58 N61q
          have f62 := f59.keep K61q (ninS ne24 nin0)
          have f63 := f60.keep K61q (ninS ne25 nin0)
          have sz61 := Nat.le_trans sz58 K61q.1
          refine Wk.new k X61 at_170 (Wk.w hw 7 rfl) (Wk.w hw 8 rfl) (Wk.w hw 9 rfl) (rfl : T61.heap = T61.heap) (by decide) (by decide) 173 rfl fun T64 h64 b64 q64 X64 e64 E64 A64 D64 => ?_
          have g64 : n0 ≤ b64 := by rw [q64]; exact sz61
          have ne65 : b1 ≠ b64 := by rw [q64]; exact Nat.ne_of_lt f62.lt
          have ne66 : b8 ≠ b64 := by rw [q64]; exact Nat.ne_of_lt f63.lt
          have ne67 : b23 ≠ b64 := by rw [q64]; exact Nat.ne_of_lt A61.lt
          have sz64 := Nat.le_trans sz61 E64.1
          have f68 := f62.ext E64
          have f69 := f63.ext E64
          have f70 := A61.ext E64
          have f71 : Fld Z h64 b64 "com/example/quern/quern/Postings$BestBlocks" "list" "I" (.int (0 : Int32)) := D64 (Or.inl (Wk.w hw 17 rfl)) (ty := .int) (by decide)
          have f72 : Fld Z h64 b64 "com/example/quern/quern/Postings$BestBlocks" "next" "I" (.int (0 : Int32)) := D64 (Or.inl (Wk.w hw 19 rfl)) (ty := .int) (by decide)
          have f73 : Fld Z h64 b64 "com/example/quern/quern/Postings$BestBlocks" "firsts" "[I" .null := D64 (Or.inr (Wk.w hw 25 rfl)) (ty := (.array .int)) (by decide)
          have f74 : Fld Z h64 b64 "com/example/quern/quern/Postings$BestBlocks" "nexts" "[I" .null := D64 (Or.inr (Wk.w hw 31 rfl)) (ty := (.array .int)) (by decide)
          refine Wk.dup k X64 at_173 rfl 174 rfl ?_
          refine Wk.aload k X64 at_174 rfl rfl 176 rfl ?_
          refine Wk.callI k X64 [(.ref b1)] [(.ref b64)] at_176 (rm_ini l Z a0 hw b64 b1 h64 n0 ([(p1 &&& (255 : Int32)), (p2 &&& (255 : Int32)), (p3 &&& (255 : Int32)), (p4 &&& (255 : Int32))] : List Int32) ([((p1).toInt8.toInt32), ((p2).toInt8.toInt32), ((p3).toInt8.toInt32)] : List Int32) 3 (by decide) rfl hcs g64 sz64 (Ne.symm ne65) _ _ _ _ A64 f71 f72 f73 f74 f68) e64 rfl (Wk.w hw 10 rfl) (Wk.w hw 11 rfl) (Wk.w hw 9 rfl) (Wk.w hw 12 rfl) (by decide) rfl pd_BestBlocks_init rfl rfl (Nat.le_of_ble_eq_true rfl) (Nat.le_of_ble_eq_true rfl) (Nat.le_of_ble_eq_true rfl) (Nat.le_of_ble_eq_true rfl) 179 rfl fun T75 v75 L75 X75 hQ75 => ?_
          obtain ⟨rfl, N75q, K75q, fA, xA, lo, W, fs, xs, B0⟩ := hQ75
          show Wk.Ends _ _ _ _ _ _ _ (mkF m 179 _ [(.ref b64)])
          have N75 := Fr.app N61 N75q
          have f76 := f68.keep K75q (ninS ne65 nin0)
          have f77 := f69.keep K75q (ninS ne66 nin0)
          have f78 := f70.keep K75q (ninS ne67 nin0)
          have f79 := A64.keep K75q
          refine Wk.astore k X75 at_179 rfl #[.val (.int p0), .val (.int p1), .val (.int p2), .val (.int p3), .val (.int p4), .val (.int (3 : Int32)), .val (.ref b1), .val (.ref b8), .val (.ref b23), .val (.ref b64), .unset, .unset, .unset, .unset, .unset, .unset] rfl 181 rfl ?_
          refine Wk.aload k X75 at_181 rfl rfl 183 rfl ?_
          refine Wk.callV k X75 [] [] at_183 (rm_nxt l Z a0 hw b64 fA xA _ _ lo W fs xs 0 T75.heap n0 B0) (rfl : T75.heap = T75.heap) f79 (Wk.w hw 32 rfl) (Wk.w hw 33 rfl) (Wk.w hw 35 rfl) (Wk.w hw 34 rfl) (Wk.w hw 9 rfl) (Wk.w hw 36 rfl) (by decide) rfl pd_BestBlocks_next rfl rfl (Nat.le_of_ble_eq_true rfl) (Nat.le_of_ble_eq_true rfl) (Nat.le_of_ble_eq_true rfl) (Nat.le_of_ble_eq_true rfl) 186 rfl fun T80 v80 L80 X80 hQ80 => ?_
          obtain ⟨r0, rfl, G0, N80q, K80q, B1⟩ := hQ80
          show Wk.Ends _ _ _ _ _ _ _ (mkF m 186 _ [(.int r0)])
          have N80 := Fr.app N75 N80q
          have f81 := f76.keep K80q (ninS ne65 nin0)
          have f82 := f77.keep K80q (ninS ne66 nin0)
          have f83 := f78.keep K80q (ninS ne67 nin0)
          have f84 := f79.keep K80q
          refine Wk.istore k X80 at_186 #[.val (.int p0), .val (.int p1), .val (.int p2), .val (.int p3), .val (.int p4), .val (.int (3 : Int32)), .val (.ref b1), .val (.ref b8), .val (.ref b23), .val (.ref b64), .val (.int r0), .unset, .unset, .unset, .unset, .unset] rfl 188 rfl ?_
          refine Wk.aload k X80 at_188 rfl rfl 190 rfl ?_
          refine Wk.callV k X80 [] [] at_190 (rm_nxt l Z a0 hw b64 fA xA _ _ lo W fs xs 1 T80.heap n0 B1) (rfl : T80.heap = T80.heap) f84 (Wk.w hw 32 rfl) (Wk.w hw 33 rfl) (Wk.w hw 35 rfl) (Wk.w hw 34 rfl) (Wk.w hw 9 rfl) (Wk.w hw 36 rfl) (by decide) rfl pd_BestBlocks_next rfl rfl (Nat.le_of_ble_eq_true rfl) (Nat.le_of_ble_eq_true rfl) (Nat.le_of_ble_eq_true rfl) (Nat.le_of_ble_eq_true rfl) 193 rfl fun T85 v85 L85 X85 hQ85 => ?_
          obtain ⟨r1, rfl, G1, N85q, K85q, B2⟩ := hQ85
          show Wk.Ends _ _ _ _ _ _ _ (mkF m 193 _ [(.int r1)])
          have N85 := Fr.app N80 N85q
          have f86 := f81.keep K85q (ninS ne65 nin0)
          have f87 := f82.keep K85q (ninS ne66 nin0)
          have f88 := f83.keep K85q (ninS ne67 nin0)
          have f89 := f84.keep K85q
          refine Wk.istore k X85 at_193 #[.val (.int p0), .val (.int p1), .val (.int p2), .val (.int p3), .val (.int p4), .val (.int (3 : Int32)), .val (.ref b1), .val (.ref b8), .val (.ref b23), .val (.ref b64), .val (.int r0), .val (.int r1), .unset, .unset, .unset, .unset] rfl 195 rfl ?_
          refine Wk.aload k X85 at_195 rfl rfl 197 rfl ?_
          refine Wk.callV k X85 [] [] at_197 (rm_nxt l Z a0 hw b64 fA xA _ _ lo W fs xs 2 T85.heap n0 B2) (rfl : T85.heap = T85.heap) f89 (Wk.w hw 32 rfl) (Wk.w hw 33 rfl) (Wk.w hw 35 rfl) (Wk.w hw 34 rfl) (Wk.w hw 9 rfl) (Wk.w hw 36 rfl) (by decide) rfl pd_BestBlocks_next rfl rfl (Nat.le_of_ble_eq_true rfl) (Nat.le_of_ble_eq_true rfl) (Nat.le_of_ble_eq_true rfl) (Nat.le_of_ble_eq_true rfl) 200 rfl fun T90 v90 L90 X90 hQ90 => ?_
          obtain ⟨r2, rfl, G2, N90q, K90q, B3⟩ := hQ90
          show Wk.Ends _ _ _ _ _ _ _ (mkF m 200 _ [(.int r2)])
          have N90 := Fr.app N85 N90q
          have f91 := f86.keep K90q (ninS ne65 nin0)
          have f92 := f87.keep K90q (ninS ne66 nin0)
          have f93 := f88.keep K90q (ninS ne67 nin0)
          have f94 := f89.keep K90q
          refine Wk.istore k X90 at_200 #[.val (.int p0), .val (.int p1), .val (.int p2), .val (.int p3), .val (.int p4), .val (.int (3 : Int32)), .val (.ref b1), .val (.ref b8), .val (.ref b23), .val (.ref b64), .val (.int r0), .val (.int r1), .val (.int r2), .unset, .unset, .unset] rfl 202 rfl ?_
          refine Wk.aload k X90 at_202 rfl rfl 204 rfl ?_
          refine Wk.callV k X90 [] [] at_204 (rm_nxt l Z a0 hw b64 fA xA _ _ lo W fs xs 3 T90.heap n0 B3) (rfl : T90.heap = T90.heap) f94 (Wk.w hw 32 rfl) (Wk.w hw 33 rfl) (Wk.w hw 35 rfl) (Wk.w hw 34 rfl) (Wk.w hw 9 rfl) (Wk.w hw 36 rfl) (by decide) rfl pd_BestBlocks_next rfl rfl (Nat.le_of_ble_eq_true rfl) (Nat.le_of_ble_eq_true rfl) (Nat.le_of_ble_eq_true rfl) (Nat.le_of_ble_eq_true rfl) 207 rfl fun T95 v95 L95 X95 hQ95 => ?_
          obtain ⟨r3, rfl, G3, N95q, K95q, B4⟩ := hQ95
          show Wk.Ends _ _ _ _ _ _ _ (mkF m 207 _ [(.int r3)])
          have N95 := Fr.app N90 N95q
          have f96 := f91.keep K95q (ninS ne65 nin0)
          have f97 := f92.keep K95q (ninS ne66 nin0)
          have f98 := f93.keep K95q (ninS ne67 nin0)
          have f99 := f94.keep K95q
          refine Wk.istore k X95 at_207 #[.val (.int p0), .val (.int p1), .val (.int p2), .val (.int p3), .val (.int p4), .val (.int (3 : Int32)), .val (.ref b1), .val (.ref b8), .val (.ref b23), .val (.ref b64), .val (.int r0), .val (.int r1), .val (.int r2), .val (.int r3), .unset, .unset] rfl 209 rfl ?_
          refine Wk.aload k X95 at_209 rfl rfl 211 rfl ?_
          refine Wk.callV k X95 [] [] at_211 (rm_nxt l Z a0 hw b64 fA xA _ _ lo W fs xs 4 T95.heap n0 B4) (rfl : T95.heap = T95.heap) f99 (Wk.w hw 32 rfl) (Wk.w hw 33 rfl) (Wk.w hw 35 rfl) (Wk.w hw 34 rfl) (Wk.w hw 9 rfl) (Wk.w hw 36 rfl) (by decide) rfl pd_BestBlocks_next rfl rfl (Nat.le_of_ble_eq_true rfl) (Nat.le_of_ble_eq_true rfl) (Nat.le_of_ble_eq_true rfl) (Nat.le_of_ble_eq_true rfl) 214 rfl fun T100 v100 L100 X100 hQ100 => ?_
          obtain ⟨r4, rfl, G4, N100q, K100q, B5⟩ := hQ100
          show Wk.Ends _ _ _ _ _ _ _ (mkF m 214 _ [(.int r4)])
          have N100 := Fr.app N95 N100q
          have f101 := f96.keep K100q (ninS ne65 nin0)
          have f102 := f97.keep K100q (ninS ne66 nin0)
          have f103 := f98.keep K100q (ninS ne67 nin0)
          have f104 := f99.keep K100q
          refine Wk.istore k X100 at_214 #[.val (.int p0), .val (.int p1), .val (.int p2), .val (.int p3), .val (.int p4), .val (.int (3 : Int32)), .val (.ref b1), .val (.ref b8), .val (.ref b23), .val (.ref b64), .val (.int r0), .val (.int r1), .val (.int r2), .val (.int r3), .val (.int r4), .unset] rfl 216 rfl ?_
          refine Wk.aload k X100 at_216 rfl rfl 218 rfl ?_
          refine Wk.callV k X100 [] [] at_218 (rm_nxt l Z a0 hw b64 fA xA _ _ lo W fs xs 5 T100.heap n0 B5) (rfl : T100.heap = T100.heap) f104 (Wk.w hw 32 rfl) (Wk.w hw 33 rfl) (Wk.w hw 35 rfl) (Wk.w hw 34 rfl) (Wk.w hw 9 rfl) (Wk.w hw 36 rfl) (by decide) rfl pd_BestBlocks_next rfl rfl (Nat.le_of_ble_eq_true rfl) (Nat.le_of_ble_eq_true rfl) (Nat.le_of_ble_eq_true rfl) (Nat.le_of_ble_eq_true rfl) 221 rfl fun T105 v105 L105 X105 hQ105 => ?_
          obtain ⟨r5, rfl, G5, N105q, K105q, B6⟩ := hQ105
          show Wk.Ends _ _ _ _ _ _ _ (mkF m 221 _ [(.int r5)])
          have N105 := Fr.app N100 N105q
          have f106 := f101.keep K105q (ninS ne65 nin0)
          have f107 := f102.keep K105q (ninS ne66 nin0)
          have f108 := f103.keep K105q (ninS ne67 nin0)
          have f109 := f104.keep K105q
          refine Wk.istore k X105 at_221 #[.val (.int p0), .val (.int p1), .val (.int p2), .val (.int p3), .val (.int p4), .val (.int (3 : Int32)), .val (.ref b1), .val (.ref b8), .val (.ref b23), .val (.ref b64), .val (.int r0), .val (.int r1), .val (.int r2), .val (.int r3), .val (.int r4), .val (.int r5)] rfl 223 rfl ?_
          refine Wk.iload k X105 at_223 rfl 225 rfl ?_
          refine Wk.aload k X105 at_225 rfl rfl 227 rfl ?_
          refine Wk.iconst k X105 at_227 (0 : Int32) rfl 228 rfl ?_
          refine Wk.iaload k X105 at_228 (rfl : T105.heap = T105.heap) f108 0 rfl ((own_E ([(p1 &&& (255 : Int32)), (p2 &&& (255 : Int32)), (p3 &&& (255 : Int32)), (p4 &&& (255 : Int32))] : List Int32) 3 4).getD 0 0) (own_gD (by rw [own_E_len]; decide)) 229 rfl ?_
          refine Wk.icmp_ne k X105 at_229 (by decide) 281 232 (by decide) rfl (fun hc229 => ?_) (fun hc229 => ?_)
          · exact absurd (own_same (by decide) (by decide) G0) hc229
          · refine Wk.iload k X105 at_232 rfl 234 rfl ?_
            refine Wk.aload k X105 at_234 rfl rfl 236 rfl ?_
            refine Wk.iconst k X105 at_236 (1 : Int32) rfl 237 rfl ?_
            refine Wk.iaload k X105 at_237 (rfl : T105.heap = T105.heap) f108 1 rfl ((own_E ([(p1 &&& (255 : Int32)), (p2 &&& (255 : Int32)), (p3 &&& (255 : Int32)), (p4 &&& (255 : Int32))] : List Int32) 3 4).getD 1 0) (own_gD (by rw [own_E_len]; decide)) 238 rfl ?_
            refine Wk.icmp_ne k X105 at_238 (by decide) 281 241 (by decide) rfl (fun hc238 => ?_) (fun hc238 => ?_)
            · exact absurd (own_same (by decide) (by decide) G1) hc238
            · refine Wk.iload k X105 at_241 rfl 243 rfl ?_
              refine Wk.aload k X105 at_243 rfl rfl 245 rfl ?_
              refine Wk.iconst k X105 at_245 (2 : Int32) rfl 246 rfl ?_
              refine Wk.iaload k X105 at_246 (rfl : T105.heap = T105.heap) f108 2 rfl ((own_E ([(p1 &&& (255 : Int32)), (p2 &&& (255 : Int32)), (p3 &&& (255 : Int32)), (p4 &&& (255 : Int32))] : List Int32) 3 4).getD 2 0) (own_gD (by rw [own_E_len]; decide)) 247 rfl ?_
              refine Wk.icmp_ne k X105 at_247 (by decide) 281 250 (by decide) rfl (fun hc247 => ?_) (fun hc247 => ?_)
              · exact absurd (own_same (by decide) (by decide) G2) hc247
              · refine Wk.iload k X105 at_250 rfl 252 rfl ?_
                refine Wk.aload k X105 at_252 rfl rfl 254 rfl ?_
                refine Wk.iconst k X105 at_254 (3 : Int32) rfl 255 rfl ?_
                refine Wk.iaload k X105 at_255 (rfl : T105.heap = T105.heap) f108 3 rfl ((own_E ([(p1 &&& (255 : Int32)), (p2 &&& (255 : Int32)), (p3 &&& (255 : Int32)), (p4 &&& (255 : Int32))] : List Int32) 3 4).getD 3 0) (own_gD (by rw [own_E_len]; decide)) 256 rfl ?_
                refine Wk.icmp_ne k X105 at_256 (by decide) 281 259 (by decide) rfl (fun hc256 => ?_) (fun hc256 => ?_)
                · exact absurd (own_same (by decide) (by decide) G3) hc256
                · refine Wk.iload k X105 at_259 rfl 261 rfl ?_
                  refine Wk.aload k X105 at_261 rfl rfl 263 rfl ?_
                  refine Wk.iconst k X105 at_263 (4 : Int32) rfl 264 rfl ?_
                  refine Wk.iaload k X105 at_264 (rfl : T105.heap = T105.heap) f108 4 rfl ((own_E ([(p1 &&& (255 : Int32)), (p2 &&& (255 : Int32)), (p3 &&& (255 : Int32)), (p4 &&& (255 : Int32))] : List Int32) 3 4).getD 4 0) (own_gD (by rw [own_E_len]; decide)) 265 rfl ?_
                  refine Wk.icmp_ne k X105 at_265 (by decide) 281 268 (by decide) rfl (fun hc265 => ?_) (fun hc265 => ?_)
                  · exact absurd (own_same (by decide) (by decide) G4) hc265
                  · refine Wk.iload k X105 at_268 rfl 270 rfl ?_
                    refine Wk.aload k X105 at_270 rfl rfl 272 rfl ?_
                    refine Wk.iconst k X105 at_272 (5 : Int32) rfl 273 rfl ?_
                    refine Wk.iaload k X105 at_273 (rfl : T105.heap = T105.heap) f108 5 rfl ((own_E ([(p1 &&& (255 : Int32)), (p2 &&& (255 : Int32)), (p3 &&& (255 : Int32)), (p4 &&& (255 : Int32))] : List Int32) 3 4).getD 5 0) (own_gD (by rw [own_E_len]; decide)) 274 rfl ?_
                    refine Wk.icmp_ne k X105 at_274 (by decide) 281 277 (by decide) rfl (fun hc274 => ?_) (fun hc274 => ?_)
                    · exact absurd (own_same (by decide) (by decide) G5) hc274
                    · refine Wk.iconst k X105 at_277 (1 : Int32) rfl 278 rfl ?_
                      refine Wk.goto k X105 at_278 (by decide) 282 (by decide) ?_
                      exact Wk.ret_bool k X105 rfl at_282 (by decide) (by decide) (by decide) ⟨rfl, N105⟩
        · first | exact absurd hc52 (by decide) | exact absurd (by decide) hc52
set_option maxRecDepth 65536 in
set_option maxHeartbeats 40000000 in
theorem law_8_4 {p : Program} {l : Launch} {e : Env} {s : State} {m : MethodId} {args : Array Value} {below : List Frame} {meth : Method} {c : Code} {Z : State} {a0 : Array Value} {h0 : Heap} {n0 : Nat} {T0 : State} (hw : ∀ d ∈ tables_1, d.before a0 Z = true) (k : Wk.K p s m meth c Z x code maxLocals ret) (X0 : Stand p l e room_1 s m args below meth c T0 [] 0 0) (p0 p1 p2 p3 p4 : Int32) (e0 : T0.heap = h0) (Z0 : n0 ≤ h0.size) (N0 : Fr n0 []) : Wk.Ends p e s below room_1 (fun v _ L => v = some (.int 1) ∧ Fr n0 L) T0 (mkF m 8 #[.val (.int p0), .val (.int p1), .val (.int p2), .val (.int p3), .val (.int p4), .val (.int (4 : Int32)), .unset, .unset, .unset, .unset, .unset, .unset, .unset, .unset, .unset, .unset] []) := by
  have hcs : ∀ i, i < 4 → (([(p1).toInt8.toInt32, (p2).toInt8.toInt32, (p3).toInt8.toInt32, (p4).toInt8.toInt32] : List Int32).getD i 0 &&& (255 : Int32)) = ([(p1 &&& (255 : Int32)), (p2 &&& (255 : Int32)), (p3 &&& (255 : Int32)), (p4 &&& (255 : Int32))] : List Int32).getD i 0 := fun i hi => by
    match i, hi with
    | 0, _ => exact own_b255 p1
    | 1, _ => exact own_b255 p2
    | 2, _ => exact own_b255 p3
    | 3, _ => exact own_b255 p4
  refine Wk.iload k X0 at_8 rfl 10 rfl ?_
  refine Wk.newarray k X0 at_10 (Wk.w hw 1 rfl) e0 4 rfl 4 (by decide) (by decide) (by decide) (by decide) 12 rfl fun T1 h1 b1 q1 X1 e1 E1 A1 => ?_
  have g1 : n0 ≤ b1 := by rw [q1]; exact Z0
  have sz1 := Nat.le_trans Z0 E1.1
  have A1' : Wk.Arl Z h1 b1 .byte (([(0 : Int32), (0 : Int32), (0 : Int32), (0 : Int32)] : List Int32).map Value.int) := A1
  refine Wk.astore k X1 at_12 rfl #[.val (.int p0), .val (.int p1), .val (.int p2), .val (.int p3), .val (.int p4), .val (.int (4 : Int32)), .val (.ref b1), .unset, .unset, .unset, .unset, .unset, .unset, .unset, .unset, .unset] rfl 14 rfl ?_
  refine Wk.iload k X1 at_14 rfl 16 rfl ?_
  refine Wk.if_le k X1 at_16 (by decide) 25 19 (by decide) rfl (fun hc16 => ?_) (fun hc16 => ?_)
  · first | exact absurd hc16 (by decide) | exact absurd (by decide) hc16
  · refine Wk.aload k X1 at_19 rfl rfl 21 rfl ?_
    refine Wk.iconst k X1 at_21 (0 : Int32) rfl 22 rfl ?_
    refine Wk.iload_n k X1 at_22 rfl 23 rfl ?_
    refine Wk.i2b k X1 at_23 24 rfl ?_
    refine Wk.bastore k X1 (x := ((p1).toInt8.toInt32)) at_24 e1 A1' 0 rfl (show 0 < 4 from by decide) ((p1).toInt8.toInt32) (own_b8 _) 25 rfl fun T2 h2 X2 e2 W2 A2 => ?_
    have sz2 : n0 ≤ h2.size := by rw [W2.size]; exact sz1
    have N3 := Fr.snoc X2 N0 g1
    have A2' : Wk.Arl Z h2 b1 .byte (([((p1).toInt8.toInt32), (0 : Int32), (0 : Int32), (0 : Int32)] : List Int32).map Value.int) := A2
    refine Wk.iload k X2 at_25 rfl 27 rfl ?_
    refine Wk.iconst k X2 at_27 (1 : Int32) rfl 28 rfl ?_
    refine Wk.icmp_le k X2 at_28 (by decide) 37 31 (by decide) rfl (fun hc28 => ?_) (fun hc28 => ?_)
    · first | exact absurd hc28 (by decide) | exact absurd (by decide) hc28
    · refine Wk.aload k X2 at_31 rfl rfl 33 rfl ?_
      refine Wk.iconst k X2 at_33 (1 : Int32) rfl 34 rfl ?_
      refine Wk.iload_n k X2 at_34 rfl 35 rfl ?_
      refine Wk.i2b k X2 at_35 36 rfl ?_
      refine Wk.bastore k X2 (x := ((p2).toInt8.toInt32)) at_36 e2 A2' 1 rfl (show 1 < 4 from by decide) ((p2).toInt8.toInt32) (own_b8 _) 37 rfl fun T4 h4 X4 e4 W4 A4 => ?_
      have sz4 : n0 ≤ h4.size := by rw [W4.size]; exact sz2
      have N5 := Fr.snoc X4 N3 g1
      have A4' : Wk.Arl Z h4 b1 .byte (([((p1).toInt8.toInt32), ((p2).toInt8.toInt32), (0 : Int32), (0 : Int32)] : List Int32).map Value.int) := A4
      refine Wk.iload k X4 at_37 rfl 39 rfl ?_
      refine Wk.iconst k X4 at_39 (2 : Int32) rfl 40 rfl ?_
      refine Wk.icmp_le k X4 at_40 (by decide) 49 43 (by decide) rfl (fun hc40 => ?_) (fun hc40 => ?_)
      · first | exact absurd hc40 (by decide) | exact absurd (by decide) hc40
      · refine Wk.aload k X4 at_43 rfl rfl 45 rfl ?_
        refine Wk.iconst k X4 at_45 (2 : Int32) rfl 46 rfl ?_
        refine Wk.iload_n k X4 at_46 rfl 47 rfl ?_
        refine Wk.i2b k X4 at_47 48 rfl ?_
        refine Wk.bastore k X4 (x := ((p3).toInt8.toInt32)) at_48 e4 A4' 2 rfl (show 2 < 4 from by decide) ((p3).toInt8.toInt32) (own_b8 _) 49 rfl fun T6 h6 X6 e6 W6 A6 => ?_
        have sz6 : n0 ≤ h6.size := by rw [W6.size]; exact sz4
        have N7 := Fr.snoc X6 N5 g1
        have A6' : Wk.Arl Z h6 b1 .byte (([((p1).toInt8.toInt32), ((p2).toInt8.toInt32), ((p3).toInt8.toInt32), (0 : Int32)] : List Int32).map Value.int) := A6
        refine Wk.iload k X6 at_49 rfl 51 rfl ?_
        refine Wk.iconst k X6 at_51 (3 : Int32) rfl 52 rfl ?_
        refine Wk.icmp_le k X6 at_52 (by decide) 62 55 (by decide) rfl (fun hc52 => ?_) (fun hc52 => ?_)
        · first | exact absurd hc52 (by decide) | exact absurd (by decide) hc52
        · refine Wk.aload k X6 at_55 rfl rfl 57 rfl ?_
          refine Wk.iconst k X6 at_57 (3 : Int32) rfl 58 rfl ?_
          refine Wk.iload k X6 at_58 rfl 60 rfl ?_
          refine Wk.i2b k X6 at_60 61 rfl ?_
          refine Wk.bastore k X6 (x := ((p4).toInt8.toInt32)) at_61 e6 A6' 3 rfl (show 3 < 4 from by decide) ((p4).toInt8.toInt32) (own_b8 _) 62 rfl fun T8 h8 X8 e8 W8 A8 => ?_
          have sz8 : n0 ≤ h8.size := by rw [W8.size]; exact sz6
          have N9 := Fr.snoc X8 N7 g1
          have A8' : Wk.Arl Z h8 b1 .byte (([((p1).toInt8.toInt32), ((p2).toInt8.toInt32), ((p3).toInt8.toInt32), ((p4).toInt8.toInt32)] : List Int32).map Value.int) := A8
          refine Wk.iconst k X8 at_62 (4 : Int32) rfl 63 rfl ?_
          refine Wk.newarray k X8 at_63 (Wk.w hw 2 rfl) e8 4 rfl 4 (by decide) (by decide) (by decide) (by decide) 65 rfl fun T10 h10 b10 q10 X10 e10 E10 A10 => ?_
          have g10 : n0 ≤ b10 := by rw [q10]; exact sz8
          have ne11 : b1 ≠ b10 := by rw [q10]; exact Nat.ne_of_lt A8'.lt
          have sz10 := Nat.le_trans sz8 E10.1
          have f12 := A8'.ext E10
          have A10' : Wk.Arl Z h10 b10 .int (([(0 : Int32), (0 : Int32), (0 : Int32), (0 : Int32)] : List Int32).map Value.int) := A10
          refine Wk.dup k X10 at_65 rfl 66 rfl ?_
          refine Wk.iconst k X10 at_66 (0 : Int32) rfl 67 rfl ?_
          refine Wk.iload_n k X10 at_67 rfl 68 rfl ?_
          refine Wk.sipush k X10 at_68 (255 : Int32) rfl 71 rfl ?_
          refine Wk.iand k X10 at_71 72 rfl ?_
          refine Wk.iastore k X10 (x := (p1 &&& (255 : Int32))) at_72 e10 A10' 0 rfl (show 0 < 4 from by decide) 73 rfl fun T13 h13 X13 e13 W13 A13 => ?_
          have sz13 : n0 ≤ h13.size := by rw [W13.size]; exact sz10
          have N14 := Fr.snoc X13 N9 g10
          have f15 := f12.other W13 ne11
          have A13' : Wk.Arl Z h13 b10 .int (([(p1 &&& (255 : Int32)), (0 : Int32), (0 : Int32), (0 : Int32)] : List Int32).map Value.int) := A13
          refine Wk.dup k X13 at_73 rfl 74 rfl ?_
          refine Wk.iconst k X13 at_74 (1 : Int32) rfl 75 rfl ?_
          refine Wk.iload_n k X13 at_75 rfl 76 rfl ?_
          refine Wk.sipush k X13 at_76 (255 : Int32) rfl 79 rfl ?_
          refine Wk.iand k X13 at_79 80 rfl ?_
          refine Wk.iastore k X13 (x := (p2 &&& (255 : Int32))) at_80 e13 A13' 1 rfl (show 1 < 4 from by decide) 81 rfl fun T16 h16 X16 e16 W16 A16 => ?_
          have sz16 : n0 ≤ h16.size := by rw [W16.size]; exact sz13
          have N17 := Fr.snoc X16 N14 g10
          have f18 := f15.other W16 ne11
          have A16' : Wk.Arl Z h16 b10 .int (([(p1 &&& (255 : Int32)), (p2 &&& (255 : Int32)), (0 : Int32), (0 : Int32)] : List Int32).map Value.int) := A16
          refine Wk.dup k X16 at_81 rfl 82 rfl ?_
          refine Wk.iconst k X16 at_82 (2 : Int32) rfl 83 rfl ?_
          refine Wk.iload_n k X16 at_83 rfl 84 rfl ?_
          refine Wk.sipush k X16 at_84 (255 : Int32) rfl 87 rfl ?_
          refine Wk.iand k X16 at_87 88 rfl ?_
          refine Wk.iastore k X16 (x := (p3 &&& (255 : Int32))) at_88 e16 A16' 2 rfl (show 2 < 4 from by decide) 89 rfl fun T19 h19 X19 e19 W19 A19 => ?_
          have sz19 : n0 ≤ h19.size := by rw [W19.size]; exact sz16
          have N20 := Fr.snoc X19 N17 g10
          have f21 := f18.other W19 ne11
          have A19' : Wk.Arl Z h19 b10 .int (([(p1 &&& (255 : Int32)), (p2 &&& (255 : Int32)), (p3 &&& (255 : Int32)), (0 : Int32)] : List Int32).map Value.int) := A19
          refine Wk.dup k X19 at_89 rfl 90 rfl ?_
          refine Wk.iconst k X19 at_90 (3 : Int32) rfl 91 rfl ?_
          refine Wk.iload k X19 at_91 rfl 93 rfl ?_
          refine Wk.sipush k X19 at_93 (255 : Int32) rfl 96 rfl ?_
          refine Wk.iand k X19 at_96 97 rfl ?_
          refine Wk.iastore k X19 (x := (p4 &&& (255 : Int32))) at_97 e19 A19' 3 rfl (show 3 < 4 from by decide) 98 rfl fun T22 h22 X22 e22 W22 A22 => ?_
          have sz22 : n0 ≤ h22.size := by rw [W22.size]; exact sz19
          have N23 := Fr.snoc X22 N20 g10
          have f24 := f21.other W22 ne11
          have A22' : Wk.Arl Z h22 b10 .int (([(p1 &&& (255 : Int32)), (p2 &&& (255 : Int32)), (p3 &&& (255 : Int32)), (p4 &&& (255 : Int32))] : List Int32).map Value.int) := A22
          refine Wk.astore k X22 at_98 rfl #[.val (.int p0), .val (.int p1), .val (.int p2), .val (.int p3), .val (.int p4), .val (.int (4 : Int32)), .val (.ref b1), .val (.ref b10), .unset, .unset, .unset, .unset, .unset, .unset, .unset, .unset] rfl 100 rfl ?_
          refine Wk.bipush k X22 at_100 (6 : Int32) rfl 102 rfl ?_
          refine Wk.newarray k X22 at_102 (Wk.w hw 2 rfl) e22 6 rfl 6 (by decide) (by decide) (by decide) (by decide) 104 rfl fun T25 h25 b25 q25 X25 e25 E25 A25 => ?_
          have g25 : n0 ≤ b25 := by rw [q25]; exact sz22
          have ne26 : b1 ≠ b25 := by rw [q25]; exact Nat.ne_of_lt f24.lt
          have ne27 : b10 ≠ b25 := by rw [q25]; exact Nat.ne_of_lt A22'.lt
          have sz25 := Nat.le_trans sz22 E25.1
          have f28 := f24.ext E25
          have f29 := A22'.ext E25
          have A25' : Wk.Arl Z h25 b25 .int (([(0 : Int32), (0 : Int32), (0 : Int32), (0 : Int32), (0 : Int32), (0 : Int32)] : List Int32).map Value.int) := A25
          refine Wk.dup k X25 at_104 rfl 105 rfl ?_
          refine Wk.iconst k X25 at_105 (0 : Int32) rfl 106 rfl ?_
          refine Wk.iconst k X25 at_106 (-1 : Int32) rfl 107 rfl ?_
          refine Wk.iastore k X25 (x := (-1 : Int32)) at_107 e25 A25' 0 rfl (show 0 < 6 from by decide) 108 rfl fun T30 h30 X30 e30 W30 A30 => ?_
          have sz30 : n0 ≤ h30.size := by rw [W30.size]; exact sz25
          have N31 := Fr.snoc X30 N23 g25
          have f32 := f28.other W30 ne26
          have f33 := f29.other W30 ne27
          have A30' : Wk.Arl Z h30 b25 .int (([(-1 : Int32), (0 : Int32), (0 : Int32), (0 : Int32), (0 : Int32), (0 : Int32)] : List Int32).map Value.int) := A30
          refine Wk.dup k X30 at_108 rfl 109 rfl ?_
          refine Wk.iconst k X30 at_109 (1 : Int32) rfl 110 rfl ?_
          refine Wk.iconst k X30 at_110 (-1 : Int32) rfl 111 rfl ?_
          refine Wk.iastore k X30 (x := (-1 : Int32)) at_111 e30 A30' 1 rfl (show 1 < 6 from by decide) 112 rfl fun T34 h34 X34 e34 W34 A34 => ?_
          have sz34 : n0 ≤ h34.size := by rw [W34.size]; exact sz30
          have N35 := Fr.snoc X34 N31 g25
          have f36 := f32.other W34 ne26
          have f37 := f33.other W34 ne27
          have A34' : Wk.Arl Z h34 b25 .int (([(-1 : Int32), (-1 : Int32), (0 : Int32), (0 : Int32), (0 : Int32), (0 : Int32)] : List Int32).map Value.int) := A34
          refine Wk.dup k X34 at_112 rfl 113 rfl ?_
          refine Wk.iconst k X34 at_113 (2 : Int32) rfl 114 rfl ?_
          refine Wk.iconst k X34 at_114 (-1 : Int32) rfl 115 rfl ?_
          refine Wk.iastore k X34 (x := (-1 : Int32)) at_115 e34 A34' 2 rfl (show 2 < 6 from by decide) 116 rfl fun T38 h38 X38 e38 W38 A38 => ?_
          have sz38 : n0 ≤ h38.size := by rw [W38.size]; exact sz34
          have N39 := Fr.snoc X38 N35 g25
          have f40 := f36.other W38 ne26
          have f41 := f37.other W38 ne27
          have A38' : Wk.Arl Z h38 b25 .int (([(-1 : Int32), (-1 : Int32), (-1 : Int32), (0 : Int32), (0 : Int32), (0 : Int32)] : List Int32).map Value.int) := A38
          refine Wk.dup k X38 at_116 rfl 117 rfl ?_
          refine Wk.iconst k X38 at_117 (3 : Int32) rfl 118 rfl ?_
          refine Wk.iconst k X38 at_118 (-1 : Int32) rfl 119 rfl ?_
          refine Wk.iastore k X38 (x := (-1 : Int32)) at_119 e38 A38' 3 rfl (show 3 < 6 from by decide) 120 rfl fun T42 h42 X42 e42 W42 A42 => ?_
          have sz42 : n0 ≤ h42.size := by rw [W42.size]; exact sz38
          have N43 := Fr.snoc X42 N39 g25
          have f44 := f40.other W42 ne26
          have f45 := f41.other W42 ne27
          have A42' : Wk.Arl Z h42 b25 .int (([(-1 : Int32), (-1 : Int32), (-1 : Int32), (-1 : Int32), (0 : Int32), (0 : Int32)] : List Int32).map Value.int) := A42
          refine Wk.dup k X42 at_120 rfl 121 rfl ?_
          refine Wk.iconst k X42 at_121 (4 : Int32) rfl 122 rfl ?_
          refine Wk.iconst k X42 at_122 (-1 : Int32) rfl 123 rfl ?_
          refine Wk.iastore k X42 (x := (-1 : Int32)) at_123 e42 A42' 4 rfl (show 4 < 6 from by decide) 124 rfl fun T46 h46 X46 e46 W46 A46 => ?_
          have sz46 : n0 ≤ h46.size := by rw [W46.size]; exact sz42
          have N47 := Fr.snoc X46 N43 g25
          have f48 := f44.other W46 ne26
          have f49 := f45.other W46 ne27
          have A46' : Wk.Arl Z h46 b25 .int (([(-1 : Int32), (-1 : Int32), (-1 : Int32), (-1 : Int32), (-1 : Int32), (0 : Int32)] : List Int32).map Value.int) := A46
          refine Wk.dup k X46 at_124 rfl 125 rfl ?_
          refine Wk.iconst k X46 at_125 (5 : Int32) rfl 126 rfl ?_
          refine Wk.iconst k X46 at_126 (-1 : Int32) rfl 127 rfl ?_
          refine Wk.iastore k X46 (x := (-1 : Int32)) at_127 e46 A46' 5 rfl (show 5 < 6 from by decide) 128 rfl fun T50 h50 X50 e50 W50 A50 => ?_
          have sz50 : n0 ≤ h50.size := by rw [W50.size]; exact sz46
          have N51 := Fr.snoc X50 N47 g25
          have f52 := f48.other W50 ne26
          have f53 := f49.other W50 ne27
          have A50' : Wk.Arl Z h50 b25 .int (([(-1 : Int32), (-1 : Int32), (-1 : Int32), (-1 : Int32), (-1 : Int32), (-1 : Int32)] : List Int32).map Value.int) := A50
          refine Wk.astore k X50 at_128 rfl #[.val (.int p0), .val (.int p1), .val (.int p2), .val (.int p3), .val (.int p4), .val (.int (4 : Int32)), .val (.ref b1), .val (.ref b10), .val (.ref b25), .unset, .unset, .unset, .unset, .unset, .unset, .unset] rfl 130 rfl ?_
          refine Wk.aload k X50 at_130 rfl rfl 132 rfl ?_
          refine Wk.aload k X50 at_132 rfl rfl 134 rfl ?_
          refine Wk.iload k X50 at_134 rfl 136 rfl ?_
          refine Wk.iconst k X50 at_136 (0 : Int32) rfl 137 rfl ?_
          have AE : Wk.Arl Z h50 b25 .int ((own_E ([(p1 &&& (255 : Int32)), (p2 &&& (255 : Int32)), (p3 &&& (255 : Int32)), (p4 &&& (255 : Int32))] : List Int32) 4 0).map Value.int) := A50'
          refine Wk.callS k X50 [(.ref b25), (.ref b10), (.int (4 : Int32)), (.int (0 : Int32))] [] at_137 (rm_pla l Z a0 hw b25 b10 (4 : Int32) ([(p1 &&& (255 : Int32)), (p2 &&& (255 : Int32)), (p3 &&& (255 : Int32)), (p4 &&& (255 : Int32))] : List Int32) (own_E ([(p1 &&& (255 : Int32)), (p2 &&& (255 : Int32)), (p3 &&& (255 : Int32)), (p4 &&& (255 : Int32))] : List Int32) 4 0) 4 0 h50 n0 rfl (own_E_len _ _ _) (by decide) rfl (by decide) (Ne.symm ne27) g25 f53 AE) e50 (Wk.w hw 3 rfl) (Wk.w hw 4 rfl) (Wk.w hw 5 rfl) (Wk.w hw 6 rfl) (by decide) rfl pd_BestBlocksNextPinLaw_place rfl rfl (Nat.le_of_ble_eq_true rfl) (Nat.le_of_ble_eq_true rfl) (Nat.le_of_ble_eq_true rfl) (Nat.le_of_ble_eq_true rfl) 140 rfl fun T54 v54 L54 X54 hQ54 => ?_
          obtain ⟨rfl, N54q, K54q, A54q⟩ := hQ54
          show Wk.Ends _ _ _ _ _ _ _ (mkF m 140 _ [])
          have A54 : Wk.Arl Z T54.heap b25 .int ((own_E ([(p1 &&& (255 : Int32)), (p2 &&& (255 : Int32)), (p3 &&& (255 : Int32)), (p4 &&& (255 : Int32))] : List Int32) 4 1).map Value.int) := A54q
          have N54 := Fr.app N51 N54q
          have f55 := f52.keep K54q (ninS ne26 nin0)
          have f56 := f53.keep K54q (ninS ne27 nin0)
          have sz54 := Nat.le_trans sz50 K54q.1
          refine Wk.aload k X54 at_140 rfl rfl 142 rfl ?_
          refine Wk.aload k X54 at_142 rfl rfl 144 rfl ?_
          refine Wk.iload k X54 at_144 rfl 146 rfl ?_
          refine Wk.iconst k X54 at_146 (1 : Int32) rfl 147 rfl ?_
          refine Wk.callS k X54 [(.ref b25), (.ref b10), (.int (4 : Int32)), (.int (1 : Int32))] [] at_147 (rm_pla l Z a0 hw b25 b10 (4 : Int32) ([(p1 &&& (255 : Int32)), (p2 &&& (255 : Int32)), (p3 &&& (255 : Int32)), (p4 &&& (255 : Int32))] : List Int32) (own_E ([(p1 &&& (255 : Int32)), (p2 &&& (255 : Int32)), (p3 &&& (255 : Int32)), (p4 &&& (255 : Int32))] : List Int32) 4 1) 4 1 T54.heap n0 rfl (own_E_len _ _ _) (by decide) rfl (by decide) (Ne.symm ne27) g25 f56 A54) (rfl : T54.heap = T54.heap) (Wk.w hw 3 rfl) (Wk.w hw 4 rfl) (Wk.w hw 5 rfl) (Wk.w hw 6 rfl) (by decide) rfl pd_BestBlocksNextPinLaw_place rfl rfl (Nat.le_of_ble_eq_true rfl) (Nat.le_of_ble_eq_true rfl) (Nat.le_of_ble_eq_true rfl) (Nat.le_of_ble_eq_true rfl) 150 rfl fun T57 v57 L57 X57 hQ57 => ?_
          obtain ⟨rfl, N57q, K57q, A57q⟩ := hQ57
          show Wk.Ends _ _ _ _ _ _ _ (mkF m 150 _ [])
          have A57 : Wk.Arl Z T57.heap b25 .int ((own_E ([(p1 &&& (255 : Int32)), (p2 &&& (255 : Int32)), (p3 &&& (255 : Int32)), (p4 &&& (255 : Int32))] : List Int32) 4 2).map Value.int) := A57q
          have N57 := Fr.app N54 N57q
          have f58 := f55.keep K57q (ninS ne26 nin0)
          have f59 := f56.keep K57q (ninS ne27 nin0)
          have sz57 := Nat.le_trans sz54 K57q.1
          refine Wk.aload k X57 at_150 rfl rfl 152 rfl ?_
          refine Wk.aload k X57 at_152 rfl rfl 154 rfl ?_
          refine Wk.iload k X57 at_154 rfl 156 rfl ?_
          refine Wk.iconst k X57 at_156 (2 : Int32) rfl 157 rfl ?_
          refine Wk.callS k X57 [(.ref b25), (.ref b10), (.int (4 : Int32)), (.int (2 : Int32))] [] at_157 (rm_pla l Z a0 hw b25 b10 (4 : Int32) ([(p1 &&& (255 : Int32)), (p2 &&& (255 : Int32)), (p3 &&& (255 : Int32)), (p4 &&& (255 : Int32))] : List Int32) (own_E ([(p1 &&& (255 : Int32)), (p2 &&& (255 : Int32)), (p3 &&& (255 : Int32)), (p4 &&& (255 : Int32))] : List Int32) 4 2) 4 2 T57.heap n0 rfl (own_E_len _ _ _) (by decide) rfl (by decide) (Ne.symm ne27) g25 f59 A57) (rfl : T57.heap = T57.heap) (Wk.w hw 3 rfl) (Wk.w hw 4 rfl) (Wk.w hw 5 rfl) (Wk.w hw 6 rfl) (by decide) rfl pd_BestBlocksNextPinLaw_place rfl rfl (Nat.le_of_ble_eq_true rfl) (Nat.le_of_ble_eq_true rfl) (Nat.le_of_ble_eq_true rfl) (Nat.le_of_ble_eq_true rfl) 160 rfl fun T60 v60 L60 X60 hQ60 => ?_
          obtain ⟨rfl, N60q, K60q, A60q⟩ := hQ60
          show Wk.Ends _ _ _ _ _ _ _ (mkF m 160 _ [])
          have A60 : Wk.Arl Z T60.heap b25 .int ((own_E ([(p1 &&& (255 : Int32)), (p2 &&& (255 : Int32)), (p3 &&& (255 : Int32)), (p4 &&& (255 : Int32))] : List Int32) 4 3).map Value.int) := A60q
          have N60 := Fr.app N57 N60q
          have f61 := f58.keep K60q (ninS ne26 nin0)
          have f62 := f59.keep K60q (ninS ne27 nin0)
          have sz60 := Nat.le_trans sz57 K60q.1
          refine Wk.aload k X60 at_160 rfl rfl 162 rfl ?_
          refine Wk.aload k X60 at_162 rfl rfl 164 rfl ?_
          refine Wk.iload k X60 at_164 rfl 166 rfl ?_
          refine Wk.iconst k X60 at_166 (3 : Int32) rfl 167 rfl ?_
          refine Wk.callS k X60 [(.ref b25), (.ref b10), (.int (4 : Int32)), (.int (3 : Int32))] [] at_167 (rm_pla l Z a0 hw b25 b10 (4 : Int32) ([(p1 &&& (255 : Int32)), (p2 &&& (255 : Int32)), (p3 &&& (255 : Int32)), (p4 &&& (255 : Int32))] : List Int32) (own_E ([(p1 &&& (255 : Int32)), (p2 &&& (255 : Int32)), (p3 &&& (255 : Int32)), (p4 &&& (255 : Int32))] : List Int32) 4 3) 4 3 T60.heap n0 rfl (own_E_len _ _ _) (by decide) rfl (by decide) (Ne.symm ne27) g25 f62 A60) (rfl : T60.heap = T60.heap) (Wk.w hw 3 rfl) (Wk.w hw 4 rfl) (Wk.w hw 5 rfl) (Wk.w hw 6 rfl) (by decide) rfl pd_BestBlocksNextPinLaw_place rfl rfl (Nat.le_of_ble_eq_true rfl) (Nat.le_of_ble_eq_true rfl) (Nat.le_of_ble_eq_true rfl) (Nat.le_of_ble_eq_true rfl) 170 rfl fun T63 v63 L63 X63 hQ63 => ?_
          obtain ⟨rfl, N63q, K63q, A63q⟩ := hQ63
          show Wk.Ends _ _ _ _ _ _ _ (mkF m 170 _ [])
          have A63 : Wk.Arl Z T63.heap b25 .int ((own_E ([(p1 &&& (255 : Int32)), (p2 &&& (255 : Int32)), (p3 &&& (255 : Int32)), (p4 &&& (255 : Int32))] : List Int32) 4 4).map Value.int) := A63q
          have N63 := Fr.app N60 N63q
          have f64 := f61.keep K63q (ninS ne26 nin0)
          have f65 := f62.keep K63q (ninS ne27 nin0)
          have sz63 := Nat.le_trans sz60 K63q.1
          refine Wk.new k X63 at_170 (Wk.w hw 7 rfl) (Wk.w hw 8 rfl) (Wk.w hw 9 rfl) (rfl : T63.heap = T63.heap) (by decide) (by decide) 173 rfl fun T66 h66 b66 q66 X66 e66 E66 A66 D66 => ?_
          have g66 : n0 ≤ b66 := by rw [q66]; exact sz63
          have ne67 : b1 ≠ b66 := by rw [q66]; exact Nat.ne_of_lt f64.lt
          have ne68 : b10 ≠ b66 := by rw [q66]; exact Nat.ne_of_lt f65.lt
          have ne69 : b25 ≠ b66 := by rw [q66]; exact Nat.ne_of_lt A63.lt
          have sz66 := Nat.le_trans sz63 E66.1
          have f70 := f64.ext E66
          have f71 := f65.ext E66
          have f72 := A63.ext E66
          have f73 : Fld Z h66 b66 "com/example/quern/quern/Postings$BestBlocks" "list" "I" (.int (0 : Int32)) := D66 (Or.inl (Wk.w hw 17 rfl)) (ty := .int) (by decide)
          have f74 : Fld Z h66 b66 "com/example/quern/quern/Postings$BestBlocks" "next" "I" (.int (0 : Int32)) := D66 (Or.inl (Wk.w hw 19 rfl)) (ty := .int) (by decide)
          have f75 : Fld Z h66 b66 "com/example/quern/quern/Postings$BestBlocks" "firsts" "[I" .null := D66 (Or.inr (Wk.w hw 25 rfl)) (ty := (.array .int)) (by decide)
          have f76 : Fld Z h66 b66 "com/example/quern/quern/Postings$BestBlocks" "nexts" "[I" .null := D66 (Or.inr (Wk.w hw 31 rfl)) (ty := (.array .int)) (by decide)
          refine Wk.dup k X66 at_173 rfl 174 rfl ?_
          refine Wk.aload k X66 at_174 rfl rfl 176 rfl ?_
          refine Wk.callI k X66 [(.ref b1)] [(.ref b66)] at_176 (rm_ini l Z a0 hw b66 b1 h66 n0 ([(p1 &&& (255 : Int32)), (p2 &&& (255 : Int32)), (p3 &&& (255 : Int32)), (p4 &&& (255 : Int32))] : List Int32) ([((p1).toInt8.toInt32), ((p2).toInt8.toInt32), ((p3).toInt8.toInt32), ((p4).toInt8.toInt32)] : List Int32) 4 (by decide) rfl hcs g66 sz66 (Ne.symm ne67) _ _ _ _ A66 f73 f74 f75 f76 f70) e66 rfl (Wk.w hw 10 rfl) (Wk.w hw 11 rfl) (Wk.w hw 9 rfl) (Wk.w hw 12 rfl) (by decide) rfl pd_BestBlocks_init rfl rfl (Nat.le_of_ble_eq_true rfl) (Nat.le_of_ble_eq_true rfl) (Nat.le_of_ble_eq_true rfl) (Nat.le_of_ble_eq_true rfl) 179 rfl fun T77 v77 L77 X77 hQ77 => ?_
          obtain ⟨rfl, N77q, K77q, fA, xA, lo, W, fs, xs, B0⟩ := hQ77
          show Wk.Ends _ _ _ _ _ _ _ (mkF m 179 _ [(.ref b66)])
          have N77 := Fr.app N63 N77q
          have f78 := f70.keep K77q (ninS ne67 nin0)
          have f79 := f71.keep K77q (ninS ne68 nin0)
          have f80 := f72.keep K77q (ninS ne69 nin0)
          have f81 := A66.keep K77q
          refine Wk.astore k X77 at_179 rfl #[.val (.int p0), .val (.int p1), .val (.int p2), .val (.int p3), .val (.int p4), .val (.int (4 : Int32)), .val (.ref b1), .val (.ref b10), .val (.ref b25), .val (.ref b66), .unset, .unset, .unset, .unset, .unset, .unset] rfl 181 rfl ?_
          refine Wk.aload k X77 at_181 rfl rfl 183 rfl ?_
          refine Wk.callV k X77 [] [] at_183 (rm_nxt l Z a0 hw b66 fA xA _ _ lo W fs xs 0 T77.heap n0 B0) (rfl : T77.heap = T77.heap) f81 (Wk.w hw 32 rfl) (Wk.w hw 33 rfl) (Wk.w hw 35 rfl) (Wk.w hw 34 rfl) (Wk.w hw 9 rfl) (Wk.w hw 36 rfl) (by decide) rfl pd_BestBlocks_next rfl rfl (Nat.le_of_ble_eq_true rfl) (Nat.le_of_ble_eq_true rfl) (Nat.le_of_ble_eq_true rfl) (Nat.le_of_ble_eq_true rfl) 186 rfl fun T82 v82 L82 X82 hQ82 => ?_
          obtain ⟨r0, rfl, G0, N82q, K82q, B1⟩ := hQ82
          show Wk.Ends _ _ _ _ _ _ _ (mkF m 186 _ [(.int r0)])
          have N82 := Fr.app N77 N82q
          have f83 := f78.keep K82q (ninS ne67 nin0)
          have f84 := f79.keep K82q (ninS ne68 nin0)
          have f85 := f80.keep K82q (ninS ne69 nin0)
          have f86 := f81.keep K82q
          refine Wk.istore k X82 at_186 #[.val (.int p0), .val (.int p1), .val (.int p2), .val (.int p3), .val (.int p4), .val (.int (4 : Int32)), .val (.ref b1), .val (.ref b10), .val (.ref b25), .val (.ref b66), .val (.int r0), .unset, .unset, .unset, .unset, .unset] rfl 188 rfl ?_
          refine Wk.aload k X82 at_188 rfl rfl 190 rfl ?_
          refine Wk.callV k X82 [] [] at_190 (rm_nxt l Z a0 hw b66 fA xA _ _ lo W fs xs 1 T82.heap n0 B1) (rfl : T82.heap = T82.heap) f86 (Wk.w hw 32 rfl) (Wk.w hw 33 rfl) (Wk.w hw 35 rfl) (Wk.w hw 34 rfl) (Wk.w hw 9 rfl) (Wk.w hw 36 rfl) (by decide) rfl pd_BestBlocks_next rfl rfl (Nat.le_of_ble_eq_true rfl) (Nat.le_of_ble_eq_true rfl) (Nat.le_of_ble_eq_true rfl) (Nat.le_of_ble_eq_true rfl) 193 rfl fun T87 v87 L87 X87 hQ87 => ?_
          obtain ⟨r1, rfl, G1, N87q, K87q, B2⟩ := hQ87
          show Wk.Ends _ _ _ _ _ _ _ (mkF m 193 _ [(.int r1)])
          have N87 := Fr.app N82 N87q
          have f88 := f83.keep K87q (ninS ne67 nin0)
          have f89 := f84.keep K87q (ninS ne68 nin0)
          have f90 := f85.keep K87q (ninS ne69 nin0)
          have f91 := f86.keep K87q
          refine Wk.istore k X87 at_193 #[.val (.int p0), .val (.int p1), .val (.int p2), .val (.int p3), .val (.int p4), .val (.int (4 : Int32)), .val (.ref b1), .val (.ref b10), .val (.ref b25), .val (.ref b66), .val (.int r0), .val (.int r1), .unset, .unset, .unset, .unset] rfl 195 rfl ?_
          refine Wk.aload k X87 at_195 rfl rfl 197 rfl ?_
          refine Wk.callV k X87 [] [] at_197 (rm_nxt l Z a0 hw b66 fA xA _ _ lo W fs xs 2 T87.heap n0 B2) (rfl : T87.heap = T87.heap) f91 (Wk.w hw 32 rfl) (Wk.w hw 33 rfl) (Wk.w hw 35 rfl) (Wk.w hw 34 rfl) (Wk.w hw 9 rfl) (Wk.w hw 36 rfl) (by decide) rfl pd_BestBlocks_next rfl rfl (Nat.le_of_ble_eq_true rfl) (Nat.le_of_ble_eq_true rfl) (Nat.le_of_ble_eq_true rfl) (Nat.le_of_ble_eq_true rfl) 200 rfl fun T92 v92 L92 X92 hQ92 => ?_
          obtain ⟨r2, rfl, G2, N92q, K92q, B3⟩ := hQ92
          show Wk.Ends _ _ _ _ _ _ _ (mkF m 200 _ [(.int r2)])
          have N92 := Fr.app N87 N92q
          have f93 := f88.keep K92q (ninS ne67 nin0)
          have f94 := f89.keep K92q (ninS ne68 nin0)
          have f95 := f90.keep K92q (ninS ne69 nin0)
          have f96 := f91.keep K92q
          refine Wk.istore k X92 at_200 #[.val (.int p0), .val (.int p1), .val (.int p2), .val (.int p3), .val (.int p4), .val (.int (4 : Int32)), .val (.ref b1), .val (.ref b10), .val (.ref b25), .val (.ref b66), .val (.int r0), .val (.int r1), .val (.int r2), .unset, .unset, .unset] rfl 202 rfl ?_
          refine Wk.aload k X92 at_202 rfl rfl 204 rfl ?_
          refine Wk.callV k X92 [] [] at_204 (rm_nxt l Z a0 hw b66 fA xA _ _ lo W fs xs 3 T92.heap n0 B3) (rfl : T92.heap = T92.heap) f96 (Wk.w hw 32 rfl) (Wk.w hw 33 rfl) (Wk.w hw 35 rfl) (Wk.w hw 34 rfl) (Wk.w hw 9 rfl) (Wk.w hw 36 rfl) (by decide) rfl pd_BestBlocks_next rfl rfl (Nat.le_of_ble_eq_true rfl) (Nat.le_of_ble_eq_true rfl) (Nat.le_of_ble_eq_true rfl) (Nat.le_of_ble_eq_true rfl) 207 rfl fun T97 v97 L97 X97 hQ97 => ?_
          obtain ⟨r3, rfl, G3, N97q, K97q, B4⟩ := hQ97
          show Wk.Ends _ _ _ _ _ _ _ (mkF m 207 _ [(.int r3)])
          have N97 := Fr.app N92 N97q
          have f98 := f93.keep K97q (ninS ne67 nin0)
          have f99 := f94.keep K97q (ninS ne68 nin0)
          have f100 := f95.keep K97q (ninS ne69 nin0)
          have f101 := f96.keep K97q
          refine Wk.istore k X97 at_207 #[.val (.int p0), .val (.int p1), .val (.int p2), .val (.int p3), .val (.int p4), .val (.int (4 : Int32)), .val (.ref b1), .val (.ref b10), .val (.ref b25), .val (.ref b66), .val (.int r0), .val (.int r1), .val (.int r2), .val (.int r3), .unset, .unset] rfl 209 rfl ?_
          refine Wk.aload k X97 at_209 rfl rfl 211 rfl ?_
          refine Wk.callV k X97 [] [] at_211 (rm_nxt l Z a0 hw b66 fA xA _ _ lo W fs xs 4 T97.heap n0 B4) (rfl : T97.heap = T97.heap) f101 (Wk.w hw 32 rfl) (Wk.w hw 33 rfl) (Wk.w hw 35 rfl) (Wk.w hw 34 rfl) (Wk.w hw 9 rfl) (Wk.w hw 36 rfl) (by decide) rfl pd_BestBlocks_next rfl rfl (Nat.le_of_ble_eq_true rfl) (Nat.le_of_ble_eq_true rfl) (Nat.le_of_ble_eq_true rfl) (Nat.le_of_ble_eq_true rfl) 214 rfl fun T102 v102 L102 X102 hQ102 => ?_
          obtain ⟨r4, rfl, G4, N102q, K102q, B5⟩ := hQ102
          show Wk.Ends _ _ _ _ _ _ _ (mkF m 214 _ [(.int r4)])
          have N102 := Fr.app N97 N102q
          have f103 := f98.keep K102q (ninS ne67 nin0)
          have f104 := f99.keep K102q (ninS ne68 nin0)
          have f105 := f100.keep K102q (ninS ne69 nin0)
          have f106 := f101.keep K102q
          refine Wk.istore k X102 at_214 #[.val (.int p0), .val (.int p1), .val (.int p2), .val (.int p3), .val (.int p4), .val (.int (4 : Int32)), .val (.ref b1), .val (.ref b10), .val (.ref b25), .val (.ref b66), .val (.int r0), .val (.int r1), .val (.int r2), .val (.int r3), .val (.int r4), .unset] rfl 216 rfl ?_
          refine Wk.aload k X102 at_216 rfl rfl 218 rfl ?_
          refine Wk.callV k X102 [] [] at_218 (rm_nxt l Z a0 hw b66 fA xA _ _ lo W fs xs 5 T102.heap n0 B5) (rfl : T102.heap = T102.heap) f106 (Wk.w hw 32 rfl) (Wk.w hw 33 rfl) (Wk.w hw 35 rfl) (Wk.w hw 34 rfl) (Wk.w hw 9 rfl) (Wk.w hw 36 rfl) (by decide) rfl pd_BestBlocks_next rfl rfl (Nat.le_of_ble_eq_true rfl) (Nat.le_of_ble_eq_true rfl) (Nat.le_of_ble_eq_true rfl) (Nat.le_of_ble_eq_true rfl) 221 rfl fun T107 v107 L107 X107 hQ107 => ?_
          obtain ⟨r5, rfl, G5, N107q, K107q, B6⟩ := hQ107
          show Wk.Ends _ _ _ _ _ _ _ (mkF m 221 _ [(.int r5)])
          have N107 := Fr.app N102 N107q
          have f108 := f103.keep K107q (ninS ne67 nin0)
          have f109 := f104.keep K107q (ninS ne68 nin0)
          have f110 := f105.keep K107q (ninS ne69 nin0)
          have f111 := f106.keep K107q
          refine Wk.istore k X107 at_221 #[.val (.int p0), .val (.int p1), .val (.int p2), .val (.int p3), .val (.int p4), .val (.int (4 : Int32)), .val (.ref b1), .val (.ref b10), .val (.ref b25), .val (.ref b66), .val (.int r0), .val (.int r1), .val (.int r2), .val (.int r3), .val (.int r4), .val (.int r5)] rfl 223 rfl ?_
          refine Wk.iload k X107 at_223 rfl 225 rfl ?_
          refine Wk.aload k X107 at_225 rfl rfl 227 rfl ?_
          refine Wk.iconst k X107 at_227 (0 : Int32) rfl 228 rfl ?_
          refine Wk.iaload k X107 at_228 (rfl : T107.heap = T107.heap) f110 0 rfl ((own_E ([(p1 &&& (255 : Int32)), (p2 &&& (255 : Int32)), (p3 &&& (255 : Int32)), (p4 &&& (255 : Int32))] : List Int32) 4 4).getD 0 0) (own_gD (by rw [own_E_len]; decide)) 229 rfl ?_
          refine Wk.icmp_ne k X107 at_229 (by decide) 281 232 (by decide) rfl (fun hc229 => ?_) (fun hc229 => ?_)
          · exact absurd (own_same (by decide) (by decide) G0) hc229
          · refine Wk.iload k X107 at_232 rfl 234 rfl ?_
            refine Wk.aload k X107 at_234 rfl rfl 236 rfl ?_
            refine Wk.iconst k X107 at_236 (1 : Int32) rfl 237 rfl ?_
            refine Wk.iaload k X107 at_237 (rfl : T107.heap = T107.heap) f110 1 rfl ((own_E ([(p1 &&& (255 : Int32)), (p2 &&& (255 : Int32)), (p3 &&& (255 : Int32)), (p4 &&& (255 : Int32))] : List Int32) 4 4).getD 1 0) (own_gD (by rw [own_E_len]; decide)) 238 rfl ?_
            refine Wk.icmp_ne k X107 at_238 (by decide) 281 241 (by decide) rfl (fun hc238 => ?_) (fun hc238 => ?_)
            · exact absurd (own_same (by decide) (by decide) G1) hc238
            · refine Wk.iload k X107 at_241 rfl 243 rfl ?_
              refine Wk.aload k X107 at_243 rfl rfl 245 rfl ?_
              refine Wk.iconst k X107 at_245 (2 : Int32) rfl 246 rfl ?_
              refine Wk.iaload k X107 at_246 (rfl : T107.heap = T107.heap) f110 2 rfl ((own_E ([(p1 &&& (255 : Int32)), (p2 &&& (255 : Int32)), (p3 &&& (255 : Int32)), (p4 &&& (255 : Int32))] : List Int32) 4 4).getD 2 0) (own_gD (by rw [own_E_len]; decide)) 247 rfl ?_
              refine Wk.icmp_ne k X107 at_247 (by decide) 281 250 (by decide) rfl (fun hc247 => ?_) (fun hc247 => ?_)
              · exact absurd (own_same (by decide) (by decide) G2) hc247
              · refine Wk.iload k X107 at_250 rfl 252 rfl ?_
                refine Wk.aload k X107 at_252 rfl rfl 254 rfl ?_
                refine Wk.iconst k X107 at_254 (3 : Int32) rfl 255 rfl ?_
                refine Wk.iaload k X107 at_255 (rfl : T107.heap = T107.heap) f110 3 rfl ((own_E ([(p1 &&& (255 : Int32)), (p2 &&& (255 : Int32)), (p3 &&& (255 : Int32)), (p4 &&& (255 : Int32))] : List Int32) 4 4).getD 3 0) (own_gD (by rw [own_E_len]; decide)) 256 rfl ?_
                refine Wk.icmp_ne k X107 at_256 (by decide) 281 259 (by decide) rfl (fun hc256 => ?_) (fun hc256 => ?_)
                · exact absurd (own_same (by decide) (by decide) G3) hc256
                · refine Wk.iload k X107 at_259 rfl 261 rfl ?_
                  refine Wk.aload k X107 at_261 rfl rfl 263 rfl ?_
                  refine Wk.iconst k X107 at_263 (4 : Int32) rfl 264 rfl ?_
                  refine Wk.iaload k X107 at_264 (rfl : T107.heap = T107.heap) f110 4 rfl ((own_E ([(p1 &&& (255 : Int32)), (p2 &&& (255 : Int32)), (p3 &&& (255 : Int32)), (p4 &&& (255 : Int32))] : List Int32) 4 4).getD 4 0) (own_gD (by rw [own_E_len]; decide)) 265 rfl ?_
                  refine Wk.icmp_ne k X107 at_265 (by decide) 281 268 (by decide) rfl (fun hc265 => ?_) (fun hc265 => ?_)
                  · exact absurd (own_same (by decide) (by decide) G4) hc265
                  · refine Wk.iload k X107 at_268 rfl 270 rfl ?_
                    refine Wk.aload k X107 at_270 rfl rfl 272 rfl ?_
                    refine Wk.iconst k X107 at_272 (5 : Int32) rfl 273 rfl ?_
                    refine Wk.iaload k X107 at_273 (rfl : T107.heap = T107.heap) f110 5 rfl ((own_E ([(p1 &&& (255 : Int32)), (p2 &&& (255 : Int32)), (p3 &&& (255 : Int32)), (p4 &&& (255 : Int32))] : List Int32) 4 4).getD 5 0) (own_gD (by rw [own_E_len]; decide)) 274 rfl ?_
                    refine Wk.icmp_ne k X107 at_274 (by decide) 281 277 (by decide) rfl (fun hc274 => ?_) (fun hc274 => ?_)
                    · exact absurd (own_same (by decide) (by decide) G5) hc274
                    · refine Wk.iconst k X107 at_277 (1 : Int32) rfl 278 rfl ?_
                      refine Wk.goto k X107 at_278 (by decide) 282 (by decide) ?_
                      exact Wk.ret_bool k X107 rfl at_282 (by decide) (by decide) (by decide) ⟨rfl, N107⟩
theorem ef_law (m : MethodId) (p0 p1 p2 p3 p4 : Int32) : entryFrame m #[(.int p0), (.int p1), (.int p2), (.int p3), (.int p4)] maxLocals = mkF m 0 #[.val (.int p0), .val (.int p1), .val (.int p2), .val (.int p3), .val (.int p4), .unset, .unset, .unset, .unset, .unset, .unset, .unset, .unset, .unset, .unset, .unset] [] := by first | (simp [entryFrame, mkF, argsToLocals, Value.category, maxLocals]; done) | rfl
set_option maxRecDepth 65536 in
set_option maxHeartbeats 40000000 in
theorem rm0 (l : Launch) (Z : State) (a0 : Array Value) (hw : ∀ d ∈ tables_1, d.before a0 Z = true) (ws : List Jvm.Cond) (p0 p1 p2 p3 p4 : Int32) (h0 : Heap) (n0 : Nat) (Z0 : n0 ≤ h0.size) : Wk.Met l x code maxLocals ret room_1 #[(.int p0), (.int p1), (.int p2), (.int p3), (.int p4)] Z h0 (fun v _ L => v = some (.int 1) ∧ Fr n0 L) ws := by
  refine Wk.enter pn_BestBlocksNextPinLaw_law (fun p e s m below meth c T0 k X0 e0 => ?_)
  refine (Wk.Ends.cast (ef_law m p0 p1 p2 p3 p4) ?_)
  refine Wk.iload_n k X0 at_0 rfl 1 rfl ?_
  refine Wk.ldc k X0 (z := (2147483647 : Int32)) at_1 (Wk.w hw 0 rfl) 3 rfl ?_
  refine Wk.iand k X0 at_3 4 rfl ?_
  refine Wk.iconst k X0 at_4 (5 : Int32) rfl 5 rfl ?_
  refine Wk.irem k X0 at_5 (by decide) 6 rfl ?_
  refine Wk.istore k X0 at_6 #[.val (.int p0), .val (.int p1), .val (.int p2), .val (.int p3), .val (.int p4), .val (.int ((p0 &&& (2147483647 : Int32)) % (5 : Int32))), .unset, .unset, .unset, .unset, .unset, .unset, .unset, .unset, .unset, .unset] rfl 8 rfl ?_
  rcases own_k5 p0 with h | h | h | h | h <;> rw [h]
  · exact law_8_0 hw k X0 p0 p1 p2 p3 p4 e0 Z0 (Fr.nil _)
  · exact law_8_1 hw k X0 p0 p1 p2 p3 p4 e0 Z0 (Fr.nil _)
  · exact law_8_2 hw k X0 p0 p1 p2 p3 p4 e0 Z0 (Fr.nil _)
  · exact law_8_3 hw k X0 p0 p1 p2 p3 p4 e0 Z0 (Fr.nil _)
  · exact law_8_4 hw k X0 p0 p1 p2 p3 p4 e0 Z0 (Fr.nil _)
set_option maxRecDepth 65536 in
set_option maxHeartbeats 40000000 in
theorem comes_1 {Post : Tables → Env → Array Value → State → Outcome → State → Prop} (hpost : ∀ tb e args s v u, (limb_1_1.after args s (.returned v) u = true ∧ limb_1_2.after args s (.returned v) u = true) → FrameEnd s (.returned v) u (Jvm.fieldLocs frame_1_writes args s ++ Jvm.arrayLocs frame_1_arrays args s ++ Jvm.staticLocs frame_1_statics s) 24 640 → Post tb e args s (.returned v) u) :
    ArmFor flags0 classFile x code maxLocals ret World_1 tables_1 room_1 Calls_1 rest_1 Pre_1 Post := by
  intro l hfl _ _ p e ha hc hk s m args below hf hA hF happ hP
  obtain ⟨hcalls, hrest, hpre⟩ := hP
  obtain ⟨-, -, -, hnamed, -, -, -, hat⟩ := (Spec.applies_iff hf).mp happ
  obtain ⟨hg, hn⟩ := and_e (Cond.before_iff.mp (show (Jvm.Cond.and given_1 narrow_1).before args s = true from hpre))
  obtain ⟨gc, g0⟩ := and_e hg
  obtain ⟨q0, g1⟩ := and_e g0
  obtain ⟨q1, g2⟩ := and_e g1
  obtain ⟨q2, g3⟩ := and_e g2
  obtain ⟨q3, g4⟩ := and_e g3
  have q4 := g4
  obtain ⟨w0, w1, w2, w3, w4, rfl⟩ : ∃ w0 w1 w2 w3 w4 : Value, args = #[w0, w1, w2, w3, w4] := by
    have hs : args.size = 5 := by simpa [Cond.value, given_1] using gc
    obtain ⟨L⟩ := args
    match L, hs with
    | [w0, w1, w2, w3, w4], _ => exact ⟨w0, w1, w2, w3, w4, rfl⟩
  have hw := fun d (hd : d ∈ tables_1) => atoms_spec (ws := Jvm.Cond.code x code maxLocals ret :: tables_1) hat d (List.mem_cons_of_mem _ hd)
  have hfit : Fit s := fun {y c} hc i hi => by
    obtain ⟨ha, rfl⟩ := Array.getElem?_eq_some_iff.mp hc
    have q := List.all_eq_true.mp ((Array.all_eq_true_iff_forall_mem.mp hF) _ (Array.getElem_mem ha)) i (List.mem_range.mpr hi)
    simpa [Array.getElem?_eq_getElem hi] using q
  obtain ⟨i0, ei0⟩ := is_v q0
  obtain rfl : w0 = (.int i0) := Option.some.inj ei0
  obtain ⟨i1, ei1⟩ := is_v q1
  obtain rfl : w1 = (.int i1) := Option.some.inj ei1
  obtain ⟨i2, ei2⟩ := is_v q2
  obtain rfl : w2 = (.int i2) := Option.some.inj ei2
  obtain ⟨i3, ei3⟩ := is_v q3
  obtain rfl : w3 = (.int i3) := Option.some.inj ei3
  obtain ⟨i4, ei4⟩ := is_v q4
  obtain rfl : w4 = (.int i4) := Option.some.inj ei4
  obtain ⟨n, o, h1, h2, h3, _, L, rfl, ⟨rfl, N⟩, hq⟩ := rm0 l s _ hw tables_1 i0 i1 i2 i3 i4 s.heap s.heap.size (Nat.le_refl _) p e ha hc hk s m _ below hf ((Spec.applies_iff_loose hf).mp happ).1 ⟨rfl, State.Warmed39.refl s, rfl⟩ trivial
  exact ⟨n, _, h1, h2, h3, hpost _ _ _ _ _ _ ⟨Cond.after_iff.mpr rfl, Cond.after_iff.mpr (eq_i res_at (Term.int_eval (1)) rfl)⟩ ⟨hq.1, hq.2.1, (hq.2.2.sift fun y hy => Or.inr (N y hy)).mono (by decide) (by decide)⟩⟩
theorem main_1_1 : Claimed_1_1 := comes_1 fun _ _ _ _ _ _ h hF => ⟨h.1, hF⟩
theorem main_1_2 : Claimed_1_2 := comes_1 fun _ _ _ _ _ _ h hF => ⟨h.2, hF⟩
end Jvm.Pilot.@@N@@
namespace Jvm.Pilot.@@N@@
open Jvm Jvm.ClassFile Sem Op Lib Jvm.Free Jvm.Stand Jvm.Pilot.@@N@@.Jvm.D
/-! MADE BY PROGRAM (witnessworld.py) out of the Statement's table words and the real class files: 11 classes; the members and pool entries that the words name. The judged class is class 1, her method 4. -/
namespace start1
open Jvm.ClassFile
def u (s : String) : CpInfo := .utf8 (stringToUtf16 s)
/-- a pool by its gaps: so many unusable entries, then the entry; so many at the end -/
def gap : Nat → List CpInfo → List CpInfo
  | 0, r => r
  | n + 1, r => .unusable :: gap n r
def poolList (es : List (Nat × CpInfo)) (last : Nat) : List CpInfo := es.foldr (fun e r => gap e.1 (e.2 :: r)) (gap last [])
def pool (es : List (Nat × CpInfo)) (last : Nat) : Array CpInfo := ⟨poolList es last⟩
def fileOf (pool : Array CpInfo) (this : Nat) (attrs : Array Attribute := #[]) (ms : Array MethodInfo := #[]) (fl : Nat := 33) (sup : Nat := 0) (ifs : Array Nat := #[]) (fds : Array FieldInfo := #[]) : ClassFile where
  minorVersion := 0
  majorVersion := 65
  constantPool := pool
  accessFlags := fl
  thisClass := this
  superClass := sup
  interfaces := ifs
  fields := fds
  methods := ms
  attributes := attrs
def plain (name : String) (sup : Option ClassId) : Class where
  name := name
  kind := .ordinary
  loader := none
  accessFlags := 33
  super := sup
  interfaces := #[]
  cf := none
  fields := #[]
  methods := #[]
  instanceTypes := #[]
  staticTypes := #[]
  resolved := #[]
  callSites := []
  init := .initialized
  statics := none
  mirror := none

def pool0 : Array CpInfo := pool [(5, u "<init>"), (0, u "()V"), (1, .class_ 10), (1, u "java/lang/Object")] 113

def k0c0 : Code := { maxStack := 0, maxLocals := 1, code := object_method_1_code, exceptionTable := #[], attributes := #[] }
def k0m0 : Method := { name := "<init>", desc := "()V", sig := { parameters := [], returnType := none }, accessFlags := 1, code := some k0c0 }
/-- java/lang/Object -/
def k0 : Class := { plain "java/lang/Object" none with
  accessFlags := 33
  interfaces := #[]
  cf := some (fileOf pool0 8 #[] #[{ accessFlags := 1, nameIndex := 5, descriptorIndex := 6, attributes := #[] }] 33 0 #[] #[])
  fields := #[]
  methods := #[k0m0]
  instanceTypes := #[]
  staticTypes := #[]
  resolved := Array.replicate 124 none
  statics := none }

def pool1 : Array CpInfo := pool [(2, .class_ 4), (1, u "java/lang/Object"), (0, u "<init>"), (0, u "()V"), (0, .methodref 8 9), (0, .class_ 10), (0, .nameAndType 11 12), (0, u "com/example/quern/quern/BestBlocksNextPinLaw"), (0, u "before"), (0, u "([IIII)I"), (0, .methodref 8 14), (0, .nameAndType 15 16), (0, u "rank"), (0, u "([III)I"), (0, .integer 2147483647), (0, .methodref 8 19), (0, .nameAndType 20 21), (0, u "place"), (0, u "([I[III)V"), (0, .class_ 23), (0, u "com/example/quern/quern/Postings$BestBlocks"), (0, .methodref 22 25), (0, .nameAndType 5 26), (0, u "([B)V"), (0, .methodref 22 28), (0, .nameAndType 29 30), (0, u "next"), (0, u "()I"), (3, u "law"), (0, u "(IIIII)Z")] 10

def k1m0 : Method := { name := "<init>", desc := "()V", sig := { parameters := [], returnType := none }, accessFlags := 2, code := none }
def k1c1 : Code := { maxStack := 3, maxLocals := 4, code := method_2_code, exceptionTable := #[], attributes := #[] }
def k1m1 : Method := { name := "before", desc := "([IIII)I", sig := { parameters := [(.array .int), .int, .int, .int], returnType := some .int }, accessFlags := 10, code := some k1c1 }
def k1c2 : Code := { maxStack := 5, maxLocals := 3, code := method_3_code, exceptionTable := #[], attributes := #[] }
def k1m2 : Method := { name := "rank", desc := "([III)I", sig := { parameters := [(.array .int), .int, .int], returnType := some .int }, accessFlags := 10, code := some k1c2 }
def k1c3 : Code := { maxStack := 4, maxLocals := 4, code := method_4_code, exceptionTable := #[], attributes := #[] }
def k1m3 : Method := { name := "place", desc := "([I[III)V", sig := { parameters := [(.array .int), (.array .int), .int, .int], returnType := none }, accessFlags := 10, code := some k1c3 }
def k1c4 : Code := { maxStack := 5, maxLocals := 16, code := code, exceptionTable := #[], attributes := #[] }
def k1m4 : Method := { name := "law", desc := "(IIIII)Z", sig := { parameters := [.int, .int, .int, .int, .int], returnType := some .boolean }, accessFlags := 9, code := some k1c4 }
/-- com/example/quern/quern/BestBlocksNextPinLaw -/
def k1 : Class := { plain "com/example/quern/quern/BestBlocksNextPinLaw" (some 0) with
  accessFlags := 49
  interfaces := #[]
  cf := some (fileOf pool1 8 #[] #[{ accessFlags := 2, nameIndex := 5, descriptorIndex := 6, attributes := #[] }, { accessFlags := 10, nameIndex := 11, descriptorIndex := 12, attributes := #[] }, { accessFlags := 10, nameIndex := 15, descriptorIndex := 16, attributes := #[] }, { accessFlags := 10, nameIndex := 20, descriptorIndex := 21, attributes := #[] }, { accessFlags := 9, nameIndex := 34, descriptorIndex := 35, attributes := #[] }] 49 2 #[] #[])
  fields := #[]
  methods := #[k1m0, k1m1, k1m2, k1m3, k1m4]
  instanceTypes := #[]
  staticTypes := #[]
  resolved := Array.replicate 46 none
  statics := none }

def pool2 : Array CpInfo := pool [(1, .methodref 2 3), (0, .class_ 4), (0, .nameAndType 5 6), (0, u "java/lang/Object"), (0, u "<init>"), (0, u "()V"), (0, .fieldref 8 9), (0, .class_ 10), (0, .nameAndType 11 12), (0, u "com/example/quern/quern/Postings$BestBlocks"), (0, u "list"), (0, u "I"), (0, .fieldref 8 14), (0, .nameAndType 15 12), (0, u "next"), (2, .methodref 19 20), (0, .class_ 21), (0, .nameAndType 22 23), (0, u "java/lang/Math"), (0, u "min"), (0, u "(II)I"), (0, .methodref 19 25), (0, .nameAndType 26 23), (0, u "max"), (0, .fieldref 8 28), (0, .nameAndType 29 30), (0, u "firsts"), (0, u "[I"), (0, .methodref 32 33), (0, .class_ 34), (0, .nameAndType 35 36), (0, u "java/util/Arrays"), (0, u "fill"), (0, u "([II)V"), (0, .fieldref 8 38), (0, .nameAndType 39 30), (0, u "nexts"), (0, u "([B)V"), (5, u "()I"), (3, .class_ 51), (0, u "com/example/quern/quern/Postings")] 2

def k2c0 : Code := { maxStack := 4, maxLocals := 8, code := prog_65_method_1_code, exceptionTable := #[], attributes := #[] }
def k2m0 : Method := { name := "<init>", desc := "([B)V", sig := { parameters := [(.array .byte)], returnType := none }, accessFlags := 0, code := some k2c0 }
def k2c1 : Code := { maxStack := 5, maxLocals := 2, code := prog_65_method_2_code, exceptionTable := #[], attributes := #[] }
def k2m1 : Method := { name := "next", desc := "()I", sig := { parameters := [], returnType := some .int }, accessFlags := 0, code := some k2c1 }
/-- com/example/quern/quern/Postings$BestBlocks -/
def k2 : Class := { plain "com/example/quern/quern/Postings$BestBlocks" (some 0) with
  accessFlags := 48
  interfaces := #[]
  cf := some (fileOf pool2 8 #[.nestHost 50] #[{ accessFlags := 0, nameIndex := 5, descriptorIndex := 40, attributes := #[] }, { accessFlags := 0, nameIndex := 15, descriptorIndex := 46, attributes := #[] }] 48 2 #[] #[{ accessFlags := 18, nameIndex := 29, descriptorIndex := 30, attributes := #[] }, { accessFlags := 18, nameIndex := 39, descriptorIndex := 30, attributes := #[] }, { accessFlags := 2, nameIndex := 11, descriptorIndex := 12, attributes := #[] }, { accessFlags := 2, nameIndex := 15, descriptorIndex := 12, attributes := #[] }])
  fields := #[{ name := "firsts", type := (.array .int), accessFlags := 18, slot := 0, constantValue := 0 }, { name := "nexts", type := (.array .int), accessFlags := 18, slot := 1, constantValue := 0 }, { name := "list", type := .int, accessFlags := 2, slot := 2, constantValue := 0 }, { name := "next", type := .int, accessFlags := 2, slot := 3, constantValue := 0 }]
  methods := #[k2m0, k2m1]
  instanceTypes := #[(.array .int), (.array .int), .int, .int]
  staticTypes := #[]
  resolved := Array.replicate 54 none
  statics := none }

def pool3 : Array CpInfo := pool [(1, .class_ 2), (0, u "java/lang/Math"), (1, .class_ 6), (1, u "java/lang/Object"), (0, u "<init>"), (0, u "()V"), (89, .class_ 100), (1, u "java/lang/Math$RandomNumberGeneratorHolder"), (71, u "negativeZeroFloatBits"), (0, u "J"), (2, u "negativeZeroDoubleBits"), (21, u "max"), (2, u "min"), (43, u "$assertionsDisabled"), (0, u "Z"), (88, u "(II)I"), (2, u "twoToTheDoubleScaleDown"), (0, u "D"), (4, u "twoToTheDoubleScaleUp"), (9, u "E"), (3, u "PI"), (2, u "TAU"), (2, u "DEGREES_TO_RADIANS"), (0, u "RADIANS_TO_DEGREES")] 94

def k3m0 : Method := { name := "<init>", desc := "()V", sig := { parameters := [], returnType := none }, accessFlags := 2, code := none }
def k3c1 : Code := { maxStack := 2, maxLocals := 2, code := jdk_29_method_65_code, exceptionTable := #[], attributes := #[] }
def k3m1 : Method := { name := "max", desc := "(II)I", sig := { parameters := [.int, .int], returnType := some .int }, accessFlags := 9, code := some k3c1 }
def k3c2 : Code := { maxStack := 2, maxLocals := 2, code := jdk_29_method_69_code, exceptionTable := #[], attributes := #[] }
def k3m2 : Method := { name := "min", desc := "(II)I", sig := { parameters := [.int, .int], returnType := some .int }, accessFlags := 9, code := some k3c2 }
/-- java/lang/Math -/
def k3 : Class := { plain "java/lang/Math" (some 0) with
  accessFlags := 49
  interfaces := #[]
  cf := some (fileOf pool3 1 #[.nestMembers #[98]] #[{ accessFlags := 2, nameIndex := 7, descriptorIndex := 8, attributes := #[] }, { accessFlags := 9, nameIndex := 198, descriptorIndex := 335, attributes := #[] }, { accessFlags := 9, nameIndex := 201, descriptorIndex := 335, attributes := #[] }] 49 4 #[] #[{ accessFlags := 25, nameIndex := 354, descriptorIndex := 339, attributes := #[] }, { accessFlags := 25, nameIndex := 358, descriptorIndex := 339, attributes := #[] }, { accessFlags := 25, nameIndex := 361, descriptorIndex := 339, attributes := #[] }, { accessFlags := 26, nameIndex := 364, descriptorIndex := 339, attributes := #[] }, { accessFlags := 26, nameIndex := 365, descriptorIndex := 339, attributes := #[] }, { accessFlags := 26, nameIndex := 172, descriptorIndex := 173, attributes := #[] }, { accessFlags := 26, nameIndex := 176, descriptorIndex := 173, attributes := #[] }, { accessFlags := 8, nameIndex := 344, descriptorIndex := 339, attributes := #[] }, { accessFlags := 8, nameIndex := 338, descriptorIndex := 339, attributes := #[] }, { accessFlags := 4120, nameIndex := 245, descriptorIndex := 246, attributes := #[] }])
  fields := #[{ name := "E", type := .double, accessFlags := 25, slot := 0, constantValue := 0 }, { name := "PI", type := .double, accessFlags := 25, slot := 1, constantValue := 0 }, { name := "TAU", type := .double, accessFlags := 25, slot := 2, constantValue := 0 }, { name := "DEGREES_TO_RADIANS", type := .double, accessFlags := 26, slot := 3, constantValue := 0 }, { name := "RADIANS_TO_DEGREES", type := .double, accessFlags := 26, slot := 4, constantValue := 0 }, { name := "negativeZeroFloatBits", type := .long, accessFlags := 26, slot := 5, constantValue := 0 }, { name := "negativeZeroDoubleBits", type := .long, accessFlags := 26, slot := 6, constantValue := 0 }, { name := "twoToTheDoubleScaleUp", type := .double, accessFlags := 8, slot := 7, constantValue := 0 }, { name := "twoToTheDoubleScaleDown", type := .double, accessFlags := 8, slot := 8, constantValue := 0 }, { name := "$assertionsDisabled", type := .boolean, accessFlags := 4120, slot := 9, constantValue := 0 }]
  methods := #[k3m0, k3m1, k3m2]
  instanceTypes := #[]
  staticTypes := #[.double, .double, .double, .double, .double, .long, .long, .double, .double, .boolean]
  resolved := Array.replicate 460 none
  statics := none }

def pool4 : Array CpInfo := pool [(2, .class_ 4), (1, u "java/lang/Object"), (0, u "<init>"), (0, u "()V"), (7, .class_ 16), (1, u "java/util/Arrays"), (57, .class_ 76), (1, u "java/util/Arrays$NaturalOrder"), (36, .class_ 115), (1, u "java/util/Arrays$LegacyMergeSort"), (1, u "Z"), (257, .class_ 376), (0, u "java/util/Arrays$ArrayList"), (68, u "$assertionsDisabled"), (269, u "MIN_ARRAY_SORT_GRAN"), (0, u "I"), (2, u "INSERTIONSORT_THRESHOLD"), (120, u "fill"), (4, u "([II)V"), (129, .class_ 976), (0, u "java/util/Arrays$ArrayItr")] 52

def k4m0 : Method := { name := "<init>", desc := "()V", sig := { parameters := [], returnType := none }, accessFlags := 2, code := none }
def k4c1 : Code := { maxStack := 3, maxLocals := 4, code := jdk_65_method_103_code, exceptionTable := #[], attributes := #[] }
def k4m1 : Method := { name := "fill", desc := "([II)V", sig := { parameters := [(.array .int), .int], returnType := none }, accessFlags := 9, code := some k4c1 }
/-- java/util/Arrays -/
def k4 : Class := { plain "java/util/Arrays" (some 0) with
  accessFlags := 49
  interfaces := #[]
  cf := some (fileOf pool4 14 #[.nestMembers #[975, 375, 113, 74]] #[{ accessFlags := 2, nameIndex := 5, descriptorIndex := 6, attributes := #[] }, { accessFlags := 9, nameIndex := 840, descriptorIndex := 845, attributes := #[] }] 49 2 #[] #[{ accessFlags := 26, nameIndex := 715, descriptorIndex := 716, attributes := #[] }, { accessFlags := 26, nameIndex := 719, descriptorIndex := 716, attributes := #[] }, { accessFlags := 4120, nameIndex := 445, descriptorIndex := 117, attributes := #[] }])
  fields := #[{ name := "MIN_ARRAY_SORT_GRAN", type := .int, accessFlags := 26, slot := 0, constantValue := 0 }, { name := "INSERTIONSORT_THRESHOLD", type := .int, accessFlags := 26, slot := 1, constantValue := 0 }, { name := "$assertionsDisabled", type := .boolean, accessFlags := 4120, slot := 2, constantValue := 0 }]
  methods := #[k4m0, k4m1]
  instanceTypes := #[]
  staticTypes := #[.int, .int, .boolean]
  resolved := Array.replicate 1029 none
  statics := none }

def pool5 : Array CpInfo := pool [(1, u "java/lang/Cloneable"), (0, .class_ 1), (0, u "java/lang/Object"), (0, .class_ 3)] 3

/-- java/lang/Cloneable -/
def k5 : Class := { plain "java/lang/Cloneable" (some 0) with
  accessFlags := 1537
  interfaces := #[]
  cf := some (fileOf pool5 2 #[] #[] 1537 4 #[] #[])
  fields := #[]
  methods := #[]
  instanceTypes := #[]
  staticTypes := #[]
  resolved := Array.replicate 8 none
  statics := none }

def pool6 : Array CpInfo := pool [(1, u "java/io/Serializable"), (0, .class_ 1), (0, u "java/lang/Object"), (0, .class_ 3)] 3

/-- java/io/Serializable -/
def k6 : Class := { plain "java/io/Serializable" (some 0) with
  accessFlags := 1537
  interfaces := #[]
  cf := some (fileOf pool6 2 #[] #[] 1537 4 #[] #[])
  fields := #[]
  methods := #[]
  instanceTypes := #[]
  staticTypes := #[]
  resolved := Array.replicate 8 none
  statics := none }

/-- the primitive byte -/
def k7 : Class := { plain "byte" none with kind := .primitive 'B', accessFlags := 0x411 }
/-- [B -/
def k8 : Class := { plain "[B" (some 0) with kind := .array 7 .byte, interfaces := #[5, 6], accessFlags := 1041 }

/-- the primitive int -/
def k9 : Class := { plain "int" none with kind := .primitive 'I', accessFlags := 0x411 }
/-- [I -/
def k10 : Class := { plain "[I" (some 0) with kind := .array 9 .int, interfaces := #[5, 6], accessFlags := 1041 }

def heap : Heap := #[]
def classes : Array Class := #[k0, k1, k2, k3, k4, k5, k6, k7, k8, k9, k10]
def interned : List (Array UInt16 × Addr) := []
def slotsUsed : Nat := 0
def theMethod : MethodId := ⟨1, 4⟩
def args0 : Array Value := #[.int 7, .int 5, .int 300, .int (-3), .int 5]
def aboutOver (below : List Frame) : State where
  vm := { classes := classes, interned := interned.toArray }
  heap := heap
  slotsUsed := slotsUsed
  threads := #[{ frames := .invoking theMethod args0 :: below }]
def below0 : List Frame := [.native { method := ⟨0, 0⟩, args := #[] }]
def about1 : State := aboutOver below0
def p0 : Program := .bare "" "" ""
def e0 : Env := launch0.env 0 0 0
theorem w_frames : about1.frames = Frame.invoking theMethod args0 :: below0 := rfl
set_option maxRecDepth 65536 in
theorem w_args : argsFit about1.vm theMethod args0 = true := by decide +kernel
set_option maxRecDepth 65536 in
theorem w_heap : heapFits about1 = true := by decide +kernel
set_option maxRecDepth 65536 in
theorem w_runnable : about1.curStatus? = some .runnable := by decide +kernel
set_option maxRecDepth 65536 in
theorem w_alone : about1.alone = true := by decide +kernel
set_option maxRecDepth 65536 in
theorem w_named : about1.methodNamed? x = some theMethod := by decide +kernel
set_option maxRecDepth 65536 in
theorem w_hears : about1.hears theMethod below0 = true := by decide +kernel
set_option maxRecDepth 65536 in
theorem w_ripe : about1.ripe theMethod args0 below0 = true := by decide +kernel
theorem w_running : about1.status = .running := rfl
set_option maxRecDepth 65536 in
theorem w_room : about1.hasRoom e0.platform room_1 = true :=
  launch0.hasRoom_least _ room_1 (by decide +kernel) (by decide +kernel) (by decide +kernel) (by decide +kernel) (by decide +kernel) (by decide +kernel)
theorem allAtoms_all (ts : List Jvm.Cond) (a : Array Jvm.Value) (st : Jvm.State) : (allAtoms ts).before a st = ts.all (fun c => c.before a st) := by
  induction ts with
  | nil => rfl
  | cons c t ih =>
    show (Jvm.Cond.and c (allAtoms t)).before a st = _
    rw [Jvm.Cond.before_and, ih, List.all_cons]
def words1 : List Jvm.Cond := Jvm.Cond.code x code maxLocals ret :: tables_1
/-- a 'code' word, met by the world's own term for the bytes: nothing is compared byte by byte -/
theorem code_word {y : MethodName} {bytes : ByteArray} {mx : Nat} {rt : Option FieldType} {a : Array Value} {s : State} {m : MethodId} {meth : Method} {c : Code} (h1 : s.methodNamed? y = some m) (h2 : s.vm.method? m = some meth) (h3 : meth.code = some c) (h4 : c.code = bytes)
    (h5 : (c.maxLocals == mx && c.exceptionTable.isEmpty && decide (c.maxStack ≤ mostOperands) && decide (meth.sig.returnType = rt) && !meth.locks && decide (parseMethodDescriptor y.desc = some meth.sig)) = true) : (Jvm.Cond.code y bytes mx rt).before a s = true := by
  simp only [Bool.and_eq_true, beq_iff_eq, Bool.not_eq_true', decide_eq_true_eq] at h5
  obtain ⟨⟨⟨⟨⟨g1, g2⟩, g3⟩, g4⟩, g5⟩, g6⟩ := h5
  simp [Cond.before, Cond.holds, Cond.value, h1, h2, h3, h4, g1, g2, g3, g4, g5, g6]
def isCode : Jvm.Cond → Bool
  | .code _ _ _ _ => true
  | _ => false
theorem all_split {L : List Jvm.Cond} {P : Jvm.Cond → Bool} (h1 : L.all (fun c => isCode c || P c) = true) (h2 : ∀ c ∈ L.filter isCode, P c = true) : L.all P = true := by
  refine List.all_eq_true.mpr fun c hc => ?_
  have h := List.all_eq_true.mp h1 c hc
  rcases Bool.eq_false_or_eq_true (isCode c) with hi | hi
  · exact h2 c (List.mem_filter.mpr ⟨hc, hi⟩)
  · simpa [hi] using h
set_option maxRecDepth 65536 in
theorem w_c0 : (Jvm.Cond.code x code maxLocals ret).before args0 about1 = true := code_word (m := ⟨1, 4⟩) (meth := k1m4) (c := k1c4) (by decide +kernel) rfl rfl rfl (by decide +kernel)
set_option maxRecDepth 65536 in
theorem w_c1 : (Jvm.Cond.code ({ cls := "com/example/quern/quern/BestBlocksNextPinLaw", name := "place", desc := "([I[III)V" } : Jvm.MethodName) method_4_code (4 : Nat) (Option.none : Option Jvm.ClassFile.FieldType)).before args0 about1 = true := code_word (m := ⟨1, 3⟩) (meth := k1m3) (c := k1c3) (by decide +kernel) rfl rfl rfl (by decide +kernel)
set_option maxRecDepth 65536 in
theorem w_c2 : (Jvm.Cond.code ({ cls := "com/example/quern/quern/Postings$BestBlocks", name := "<init>", desc := "([B)V" } : Jvm.MethodName) prog_65_method_1_code (8 : Nat) (Option.none : Option Jvm.ClassFile.FieldType)).before args0 about1 = true := code_word (m := ⟨2, 0⟩) (meth := k2m0) (c := k2c0) (by decide +kernel) rfl rfl rfl (by decide +kernel)
set_option maxRecDepth 65536 in
theorem w_c3 : (Jvm.Cond.code ({ cls := "java/lang/Object", name := "<init>", desc := "()V" } : Jvm.MethodName) object_method_1_code (1 : Nat) (Option.none : Option Jvm.ClassFile.FieldType)).before args0 about1 = true := code_word (m := ⟨0, 0⟩) (meth := k0m0) (c := k0c0) (by decide +kernel) rfl rfl rfl (by decide +kernel)
set_option maxRecDepth 65536 in
theorem w_c4 : (Jvm.Cond.code ({ cls := "java/lang/Math", name := "max", desc := "(II)I" } : Jvm.MethodName) jdk_29_method_65_code (2 : Nat) (Option.some Jvm.ClassFile.FieldType.int)).before args0 about1 = true := code_word (m := ⟨3, 1⟩) (meth := k3m1) (c := k3c1) (by decide +kernel) rfl rfl rfl (by decide +kernel)
set_option maxRecDepth 65536 in
theorem w_c5 : (Jvm.Cond.code ({ cls := "java/util/Arrays", name := "fill", desc := "([II)V" } : Jvm.MethodName) jdk_65_method_103_code (4 : Nat) (Option.none : Option Jvm.ClassFile.FieldType)).before args0 about1 = true := code_word (m := ⟨4, 1⟩) (meth := k4m1) (c := k4c1) (by decide +kernel) rfl rfl rfl (by decide +kernel)
set_option maxRecDepth 65536 in
theorem w_c6 : (Jvm.Cond.code ({ cls := "com/example/quern/quern/Postings$BestBlocks", name := "next", desc := "()I" } : Jvm.MethodName) prog_65_method_2_code (2 : Nat) (Option.some Jvm.ClassFile.FieldType.int)).before args0 about1 = true := code_word (m := ⟨2, 1⟩) (meth := k2m1) (c := k2c1) (by decide +kernel) rfl rfl rfl (by decide +kernel)
set_option maxRecDepth 65536 in
theorem w_c7 : (Jvm.Cond.code ({ cls := "com/example/quern/quern/BestBlocksNextPinLaw", name := "rank", desc := "([III)I" } : Jvm.MethodName) method_3_code (3 : Nat) (Option.some Jvm.ClassFile.FieldType.int)).before args0 about1 = true := code_word (m := ⟨1, 2⟩) (meth := k1m2) (c := k1c2) (by decide +kernel) rfl rfl rfl (by decide +kernel)
set_option maxRecDepth 65536 in
theorem w_c8 : (Jvm.Cond.code ({ cls := "com/example/quern/quern/BestBlocksNextPinLaw", name := "before", desc := "([IIII)I" } : Jvm.MethodName) method_2_code (4 : Nat) (Option.some Jvm.ClassFile.FieldType.int)).before args0 about1 = true := code_word (m := ⟨1, 1⟩) (meth := k1m1) (c := k1c1) (by decide +kernel) rfl rfl rfl (by decide +kernel)
set_option maxRecDepth 65536 in
theorem w_c9 : (Jvm.Cond.code ({ cls := "java/lang/Math", name := "min", desc := "(II)I" } : Jvm.MethodName) jdk_29_method_69_code (2 : Nat) (Option.some Jvm.ClassFile.FieldType.int)).before args0 about1 = true := code_word (m := ⟨3, 2⟩) (meth := k3m2) (c := k3c2) (by decide +kernel) rfl rfl rfl (by decide +kernel)
def codes1 : List Jvm.Cond := [Jvm.Cond.code x code maxLocals ret, Jvm.Cond.code ({ cls := "com/example/quern/quern/BestBlocksNextPinLaw", name := "place", desc := "([I[III)V" } : Jvm.MethodName) method_4_code (4 : Nat) (Option.none : Option Jvm.ClassFile.FieldType), Jvm.Cond.code ({ cls := "com/example/quern/quern/Postings$BestBlocks", name := "<init>", desc := "([B)V" } : Jvm.MethodName) prog_65_method_1_code (8 : Nat) (Option.none : Option Jvm.ClassFile.FieldType), Jvm.Cond.code ({ cls := "java/lang/Object", name := "<init>", desc := "()V" } : Jvm.MethodName) object_method_1_code (1 : Nat) (Option.none : Option Jvm.ClassFile.FieldType), Jvm.Cond.code ({ cls := "java/lang/Math", name := "max", desc := "(II)I" } : Jvm.MethodName) jdk_29_method_65_code (2 : Nat) (Option.some Jvm.ClassFile.FieldType.int), Jvm.Cond.code ({ cls := "java/util/Arrays", name := "fill", desc := "([II)V" } : Jvm.MethodName) jdk_65_method_103_code (4 : Nat) (Option.none : Option Jvm.ClassFile.FieldType), Jvm.Cond.code ({ cls := "com/example/quern/quern/Postings$BestBlocks", name := "next", desc := "()I" } : Jvm.MethodName) prog_65_method_2_code (2 : Nat) (Option.some Jvm.ClassFile.FieldType.int), Jvm.Cond.code ({ cls := "com/example/quern/quern/BestBlocksNextPinLaw", name := "rank", desc := "([III)I" } : Jvm.MethodName) method_3_code (3 : Nat) (Option.some Jvm.ClassFile.FieldType.int), Jvm.Cond.code ({ cls := "com/example/quern/quern/BestBlocksNextPinLaw", name := "before", desc := "([IIII)I" } : Jvm.MethodName) method_2_code (4 : Nat) (Option.some Jvm.ClassFile.FieldType.int), Jvm.Cond.code ({ cls := "java/lang/Math", name := "min", desc := "(II)I" } : Jvm.MethodName) jdk_29_method_69_code (2 : Nat) (Option.some Jvm.ClassFile.FieldType.int)]
set_option maxRecDepth 65536 in
theorem codes_eq : words1.filter isCode = codes1 := rfl
theorem w_codes : ∀ c ∈ words1.filter isCode, c.before args0 about1 = true := by
  rw [codes_eq]
  intro c hc
  simp only [codes1, List.mem_cons, List.not_mem_nil, or_false] at hc
  rcases hc with rfl | rfl | rfl | rfl | rfl | rfl | rfl | rfl | rfl | rfl
  · exact w_c0
  · exact w_c1
  · exact w_c2
  · exact w_c3
  · exact w_c4
  · exact w_c5
  · exact w_c6
  · exact w_c7
  · exact w_c8
  · exact w_c9
set_option maxRecDepth 65536 in
theorem w_t1 : (words1.take 24).all (fun c => isCode c || c.before args0 about1) = true := by decide +kernel
set_option maxRecDepth 65536 in
theorem w_t2 : (words1.drop 24).all (fun c => isCode c || c.before args0 about1) = true := by decide +kernel
theorem w_tables : (allAtoms (Jvm.Cond.code x code maxLocals ret :: tables_1)).before args0 about1 = true := by
  rw [allAtoms_all]
  show words1.all (fun c => c.before args0 about1) = true
  refine all_split ?_ w_codes
  rw [← List.take_append_drop 24 words1, List.all_append, w_t1, w_t2]
  rfl
set_option maxRecDepth 65536 in
theorem w_case : (Jvm.Cond.and given_1 narrow_1).before args0 about1 = true := by decide +kernel
theorem w_applies : (headSpec (Jvm.Cond.code x code maxLocals ret :: tables_1) room_1).applies x e0.platform about1 = true :=
  (Spec.applies_iff w_frames).mpr ⟨w_running, w_runnable, w_alone, w_named, w_hears, w_ripe, w_room, w_tables⟩
theorem atStart : AtStart classFile x code maxLocals ret World_1 tables_1 room_1 Calls_1 rest_1 Pre_1 launch0 p0 e0 about1 theMethod args0 below0 :=
  ⟨lists_1, trivial, launch0.admits_env _ _ _, launch0.least_env, fairChoices_fair.cas, fairChoices_fair.clock, w_frames, w_args, w_heap, w_applies, trivial, trivial, w_case⟩
end start1
theorem witness_1 : WitnessClaimed_1 := ⟨start1.p0, start1.e0, start1.about1, start1.theMethod, start1.args0, start1.below0, start1.atStart⟩
end Jvm.Pilot.@@N@@
