import JvmDerived
import JvmDerived.Pilot.@@N@@Statement
import JvmDerived.Pilot.@@N@@Code
set_option linter.unusedVariables false
set_option linter.unusedSimpArgs false
namespace Jvm.Pilot.@@N@@
open Jvm Jvm.ClassFile Sem Op Lib Jvm.Free Jvm.Stand Jvm.LawKit Jvm.RoadKit Bundle Jvm.Pilot.@@N@@.Jvm.D
/-! own_: a walk in backward style: 'Ends': from here the body comes to its end and Q holds there. One law an instruction, over frames written mkF. -/
namespace Wk
section
variable {p : Program} {l : Launch} {e : Env} {R : Room} {s : State} {m : MethodId} {args : Array Value} {below : List Frame} {meth : Method} {c : Code} {T : State} {locs : List Loc} {cells slots : Nat} {Z : State} {a0 : Array Value} {h : Heap} {y : MethodName} {cd : ByteArray} {ml : Nat} {ret : Option FieldType} {Q : Option Value → Heap → List Loc → Prop} {pc pc' : Nat} {ls : Array Slot} {st : List Value}
/-- the run from T with the frame f comes to the body's end, and Q holds there -/
def Ends (p : Program) (e : Env) (s : State) (below : List Frame) (R : Room) (Q : Option Value → Heap → List Loc → Prop) (T : State) (f : JFrame) : Prop :=
  ∃ s₂ o, Steps p.tables e below (T.setTop f) s₂ ∧ s₂.status = .running ∧ Ended s₂ below o ∧ ∃ v L, o = .returned v ∧ Q v s₂.heap L ∧ FrameEnd s o s₂ L R.cells R.slots
/-- what stands still while one body is walked -/
def K (p : Program) (s : State) (m : MethodId) (meth : Method) (c : Code) (Z : State) (y : MethodName) (cd : ByteArray) (ml : Nat) (ret : Option FieldType) : Prop :=
  p.tables.exec = Jvm.exec ∧ Z.Warmed39 s.vm ∧ c.code = cd ∧ c.maxLocals = ml ∧ s.vm.findClass y.cls = some m.cls ∧ meth.sig.returnType = ret ∧ meth.locks = false ∧ meth.name = y.name
/-- a body's contract: called with as' over the heap h it returns, and Q holds -/
def Met (l : Launch) (y : MethodName) (cd : ByteArray) (ml : Nat) (ret : Option FieldType) (rm : Room) (as' : Array Value) (Z : State) (h : Heap) (Q : Option Value → Heap → List Loc → Prop) (ws : List Jvm.Cond) : Prop :=
  MetFree l y (head1 (Jvm.Cond.code y cd ml ret :: ws) rm) (fun a U => a = as' ∧ Z.Warmed39 U.vm ∧ U.heap = h) (fun _ _ _ _ _ => True) (fun _ U o U' => ∃ v L, o = .returned v ∧ Q v U'.heap L ∧ FrameEnd U o U' L rm.cells rm.slots)
theorem enter {rm : Room} {as' : Array Value} {ws : List Jvm.Cond} (hpl : plainFor y = true)
    (body : ∀ (p : Program) (e : Env) (s : State) (m : MethodId) (below : List Frame) (meth : Method) (c : Code) (T : State), K p s m meth c Z y cd ml ret → Stand p l e rm s m as' below meth c T [] 0 0 → T.heap = h → Ends p e s below rm Q T (entryFrame m as' ml)) :
    Met l y cd ml ret rm as' Z h Q ws := by
  refine MetFree.of_bodySF hpl hisR ?_
  intro p e s m args below meth c s₁ Bd hml0 hP hK
  obtain ⟨rfl, hZ, hh⟩ := hP
  exact body p e s m below meth c s₁ ⟨Bd.exec, hZ, Bd.bytes, hml0, findClass_of_methodNamed Bd.named, Bd.returns, Bd.notSynchronized, (name_of_methodNamed Bd.named Bd.method).1⟩ (Stand.of_body Bd) (by rw [← hh, Bd.state]; rfl)
theorem Ends.map {T' : State} {f f' : JFrame} (st : ∀ target, Steps p.tables e below (T'.setTop f') target → Steps p.tables e below (T.setTop f) target) (h : Ends p e s below R Q T' f') : Ends p e s below R Q T f := by
  obtain ⟨s₂, o, h1, h2⟩ := h
  exact ⟨s₂, o, st _ h1, h2⟩
theorem Ends.cast {f f' : JFrame} (q : f = f') (h : Ends p e s below R Q T f') : Ends p e s below R Q T f := q ▸ h
theorem w {ws : List Jvm.Cond} (hw : ∀ d ∈ ws, d.before a0 Z = true) (i : Nat) {d : Jvm.Cond} (q : ws[i]? = some d) : d.before a0 Z = true := hw d (List.mem_of_getElem? q)
/-! loads, stores, constants -/
theorem iload_n (k : K p s m meth c Z y cd ml ret) (X : Stand p l e R s m args below meth c T locs cells slots) {i : Fin 4} {v : Int32} (hd : decode cd pc = .ok (.iload_n i, 1)) (hl : ls[i.val]? = some (.val (.int v))) (pc' : Nat) (hp : pc + 1 = pc') (h : Ends p e s below R Q T (mkF m pc' ls (.int v :: st))) : Ends p e s below R Q T (mkF m pc ls st) := by
  subst hp; exact h.map fun _ q => XS.iloadN X.here k.1 rfl (hb k.2.2.1 hd) hl q
theorem iload (k : K p s m meth c Z y cd ml ret) (X : Stand p l e R s m args below meth c T locs cells slots) {i : Nat} {v : Int32} (hd : decode cd pc = .ok (.iload i, 2)) (hl : ls[i]? = some (.val (.int v))) (pc' : Nat) (hp : pc + 2 = pc') (h : Ends p e s below R Q T (mkF m pc' ls (.int v :: st))) : Ends p e s below R Q T (mkF m pc ls st) := by
  subst hp; exact h.map fun _ q => XS.iload X.here k.1 rfl (hb k.2.2.1 hd) hl q
theorem lload_n (k : K p s m meth c Z y cd ml ret) (X : Stand p l e R s m args below meth c T locs cells slots) {i : Fin 4} {v : Int64} (hd : decode cd pc = .ok (.lload_n i, 1)) (hl : ls[i.val]? = some (.val (.long v))) (pc' : Nat) (hp : pc + 1 = pc') (h : Ends p e s below R Q T (mkF m pc' ls (.long v :: st))) : Ends p e s below R Q T (mkF m pc ls st) := by
  subst hp; exact h.map fun _ q => XS.lloadN X.here k.1 rfl (hb k.2.2.1 hd) hl q
theorem lload (k : K p s m meth c Z y cd ml ret) (X : Stand p l e R s m args below meth c T locs cells slots) {i : Nat} {v : Int64} (hd : decode cd pc = .ok (.lload i, 2)) (hl : ls[i]? = some (.val (.long v))) (pc' : Nat) (hp : pc + 2 = pc') (h : Ends p e s below R Q T (mkF m pc' ls (.long v :: st))) : Ends p e s below R Q T (mkF m pc ls st) := by
  subst hp; exact h.map fun _ q => XS.lload X.here k.1 rfl (hb k.2.2.1 hd) hl q
theorem aload_n (k : K p s m meth c Z y cd ml ret) (X : Stand p l e R s m args below meth c T locs cells slots) {i : Fin 4} {v : Value} (hd : decode cd pc = .ok (.aload_n i, 1)) (hl : ls[i.val]? = some (.val v)) (hv : v.isRef = true) (pc' : Nat) (hp : pc + 1 = pc') (h : Ends p e s below R Q T (mkF m pc' ls (v :: st))) : Ends p e s below R Q T (mkF m pc ls st) := by
  subst hp; exact h.map fun _ q => XS.aloadN X.here k.1 rfl (hb k.2.2.1 hd) hl hv q
theorem aload (k : K p s m meth c Z y cd ml ret) (X : Stand p l e R s m args below meth c T locs cells slots) {i : Nat} {v : Value} (hd : decode cd pc = .ok (.aload i, 2)) (hl : ls[i]? = some (.val v)) (hv : v.isRef = true) (pc' : Nat) (hp : pc + 2 = pc') (h : Ends p e s below R Q T (mkF m pc' ls (v :: st))) : Ends p e s below R Q T (mkF m pc ls st) := by
  subst hp; exact h.map fun _ q => XS.aload X.here k.1 rfl (hb k.2.2.1 hd) hl hv q
theorem istore_n (k : K p s m meth c Z y cd ml ret) (X : Stand p l e R s m args below meth c T locs cells slots) {i : Fin 4} {v : Int32} (hd : decode cd pc = .ok (.istore_n i, 1)) (ls' : Array Slot) (hl : storeLocals ls i.val (.int v) = some ls') (pc' : Nat) (hp : pc + 1 = pc') (h : Ends p e s below R Q T (mkF m pc' ls' st)) : Ends p e s below R Q T (mkF m pc ls (.int v :: st)) := by
  subst hp; exact h.map fun _ q => XS.istoreN X.here k.1 rfl (hb k.2.2.1 hd) rfl hl q
theorem istore (k : K p s m meth c Z y cd ml ret) (X : Stand p l e R s m args below meth c T locs cells slots) {i : Nat} {v : Int32} (hd : decode cd pc = .ok (.istore i, 2)) (ls' : Array Slot) (hl : storeLocals ls i (.int v) = some ls') (pc' : Nat) (hp : pc + 2 = pc') (h : Ends p e s below R Q T (mkF m pc' ls' st)) : Ends p e s below R Q T (mkF m pc ls (.int v :: st)) := by
  subst hp; exact h.map fun _ q => XS.istore X.here k.1 rfl (hb k.2.2.1 hd) rfl hl q
theorem lstore_n (k : K p s m meth c Z y cd ml ret) (X : Stand p l e R s m args below meth c T locs cells slots) {i : Fin 4} {v : Int64} (hd : decode cd pc = .ok (.lstore_n i, 1)) (ls' : Array Slot) (hl : storeLocals ls i.val (.long v) = some ls') (pc' : Nat) (hp : pc + 1 = pc') (h : Ends p e s below R Q T (mkF m pc' ls' st)) : Ends p e s below R Q T (mkF m pc ls (.long v :: st)) := by
  subst hp; exact h.map fun _ q => XS.lstoreN X.here k.1 rfl (hb k.2.2.1 hd) rfl hl q
theorem lstore (k : K p s m meth c Z y cd ml ret) (X : Stand p l e R s m args below meth c T locs cells slots) {i : Nat} {v : Int64} (hd : decode cd pc = .ok (.lstore i, 2)) (ls' : Array Slot) (hl : storeLocals ls i (.long v) = some ls') (pc' : Nat) (hp : pc + 2 = pc') (h : Ends p e s below R Q T (mkF m pc' ls' st)) : Ends p e s below R Q T (mkF m pc ls (.long v :: st)) := by
  subst hp; exact h.map fun _ q => XS.lstore X.here k.1 rfl (hb k.2.2.1 hd) rfl hl q
theorem astore_n (k : K p s m meth c Z y cd ml ret) (X : Stand p l e R s m args below meth c T locs cells slots) {i : Fin 4} {v : Value} (hd : decode cd pc = .ok (.astore_n i, 1)) (hv : v.isRef = true) (ls' : Array Slot) (hl : storeLocals ls i.val v = some ls') (pc' : Nat) (hp : pc + 1 = pc') (h : Ends p e s below R Q T (mkF m pc' ls' st)) : Ends p e s below R Q T (mkF m pc ls (v :: st)) := by
  subst hp; exact h.map fun _ q => XS.astoreN X.here k.1 rfl (hb k.2.2.1 hd) rfl hv hl q
theorem astore (k : K p s m meth c Z y cd ml ret) (X : Stand p l e R s m args below meth c T locs cells slots) {i : Nat} {v : Value} (hd : decode cd pc = .ok (.astore i, 2)) (hv : v.isRef = true) (ls' : Array Slot) (hl : storeLocals ls i v = some ls') (pc' : Nat) (hp : pc + 2 = pc') (h : Ends p e s below R Q T (mkF m pc' ls' st)) : Ends p e s below R Q T (mkF m pc ls (v :: st)) := by
  subst hp; exact h.map fun _ q => XS.astore X.here k.1 rfl (hb k.2.2.1 hd) rfl hv hl q
theorem iinc (k : K p s m meth c Z y cd ml ret) (X : Stand p l e R s m args below meth c T locs cells slots) {i : Nat} {n : Int} {v : Int32} (hd : decode cd pc = .ok (.iinc i n, 3)) (hl : ls[i]? = some (.val (.int v))) (ls' : Array Slot) (hl' : storeLocals ls i (.int (v + Int32.ofInt n)) = some ls') (pc' : Nat) (hp : pc + 3 = pc') (h : Ends p e s below R Q T (mkF m pc' ls' st)) : Ends p e s below R Q T (mkF m pc ls st) := by
  subst hp; exact h.map fun _ q => XS.iinc X.here k.1 rfl (hb k.2.2.1 hd) hl hl' q
theorem iconst (k : K p s m meth c Z y cd ml ret) (X : Stand p l e R s m args below meth c T locs cells slots) {i : Int} (hd : decode cd pc = .ok (.iconst i, 1)) (z : Int32) (hz : Int32.ofInt i = z) (pc' : Nat) (hp : pc + 1 = pc') (h : Ends p e s below R Q T (mkF m pc' ls (.int z :: st))) : Ends p e s below R Q T (mkF m pc ls st) := by
  subst hp hz; exact h.map fun _ q => XS.iconst X.here k.1 rfl (hb k.2.2.1 hd) q
theorem bipush (k : K p s m meth c Z y cd ml ret) (X : Stand p l e R s m args below meth c T locs cells slots) {i : Int} (hd : decode cd pc = .ok (.bipush i, 2)) (z : Int32) (hz : (Int8.ofInt i).toInt32 = z) (pc' : Nat) (hp : pc + 2 = pc') (h : Ends p e s below R Q T (mkF m pc' ls (.int z :: st))) : Ends p e s below R Q T (mkF m pc ls st) := by
  subst hp hz; exact h.map fun _ q => XS.bipush X.here k.1 rfl (hb k.2.2.1 hd) q
theorem sipush (k : K p s m meth c Z y cd ml ret) (X : Stand p l e R s m args below meth c T locs cells slots) {i : Int} (hd : decode cd pc = .ok (.sipush i, 3)) (z : Int32) (hz : (Int16.ofInt i).toInt32 = z) (pc' : Nat) (hp : pc + 3 = pc') (h : Ends p e s below R Q T (mkF m pc' ls (.int z :: st))) : Ends p e s below R Q T (mkF m pc ls st) := by
  subst hp hz; exact h.map fun _ q => XS.sipush X.here k.1 rfl (hb k.2.2.1 hd) q
theorem lconst (k : K p s m meth c Z y cd ml ret) (X : Stand p l e R s m args below meth c T locs cells slots) {i : Fin 2} (hd : decode cd pc = .ok (.lconst i, 1)) (z : Int64) (hz : Int64.ofNat i = z) (pc' : Nat) (hp : pc + 1 = pc') (h : Ends p e s below R Q T (mkF m pc' ls (.long z :: st))) : Ends p e s below R Q T (mkF m pc ls st) := by
  subst hp hz; exact h.map fun _ q => XS.lconst X.here k.1 rfl (hb k.2.2.1 hd) q
theorem aconst_null (k : K p s m meth c Z y cd ml ret) (X : Stand p l e R s m args below meth c T locs cells slots) (hd : decode cd pc = .ok (.aconst_null, 1)) (pc' : Nat) (hp : pc + 1 = pc') (h : Ends p e s below R Q T (mkF m pc' ls (.null :: st))) : Ends p e s below R Q T (mkF m pc ls st) := by
  subst hp; exact h.map fun _ q => XS.aconstNull X.here k.1 rfl (hb k.2.2.1 hd) q
theorem ldc (k : K p s m meth c Z y cd ml ret) (X : Stand p l e R s m args below meth c T locs cells slots) {i : Nat} {z : Int32} (hd : decode cd pc = .ok (.ldc i, 2)) (hc : (Jvm.Cond.constant y.cls i z).before a0 Z = true) (pc' : Nat) (hp : pc + 2 = pc') (h : Ends p e s below R Q T (mkF m pc' ls (.int z :: st))) : Ends p e s below R Q T (mkF m pc ls st) := by
  subst hp; exact h.map (X.ldcInt k.1 k.2.2.2.2.1 (mvT k.2.1 hc) rfl (hb k.2.2.1 hd))
theorem ldc2_w (k : K p s m meth c Z y cd ml ret) (X : Stand p l e R s m args below meth c T locs cells slots) {i : Nat} {z : Int64} (hd : decode cd pc = .ok (.ldc2_w i, 3)) (hc : (Jvm.Cond.constantLong y.cls i z).before a0 Z = true) (pc' : Nat) (hp : pc + 3 = pc') (h : Ends p e s below R Q T (mkF m pc' ls (.long z :: st))) : Ends p e s below R Q T (mkF m pc ls st) := by
  subst hp; exact h.map (X.ldc2Long k.1 k.2.2.2.2.1 (mvT k.2.1 hc) rfl (hb k.2.2.1 hd))
theorem ldcF (k : K p s m meth c Z y cd ml ret) (X : Stand p l e R s m args below meth c T locs cells slots) {i : Nat} {z : UInt32} (hd : decode cd pc = .ok (.ldc i, 2)) (hc : (Jvm.Cond.constantFloat y.cls i z).before a0 Z = true) (pc' : Nat) (hp : pc + 2 = pc') (h : Ends p e s below R Q T (mkF m pc' ls (.float z :: st))) : Ends p e s below R Q T (mkF m pc ls st) := by
  subst hp; exact h.map (X.ldcFloatC k.1 k.2.2.2.2.1 (mvT k.2.1 hc) rfl (hb k.2.2.1 hd))
/-! arithmetic -/
theorem iadd (k : K p s m meth c Z y cd ml ret) (X : Stand p l e R s m args below meth c T locs cells slots) {a : Int32} {b : Int32} (hd : decode cd pc = .ok (.iadd, 1)) (pc' : Nat) (hp : pc + 1 = pc') (h : Ends p e s below R Q T (mkF m pc' ls (.int (a + b) :: st))) : Ends p e s below R Q T (mkF m pc ls (.int b :: .int a :: st)) := by
  subst hp; exact h.map fun _ q => XS.iadd X.here k.1 rfl (hb k.2.2.1 hd) rfl q
theorem ladd (k : K p s m meth c Z y cd ml ret) (X : Stand p l e R s m args below meth c T locs cells slots) {a : Int64} {b : Int64} (hd : decode cd pc = .ok (.ladd, 1)) (pc' : Nat) (hp : pc + 1 = pc') (h : Ends p e s below R Q T (mkF m pc' ls (.long (a + b) :: st))) : Ends p e s below R Q T (mkF m pc ls (.long b :: .long a :: st)) := by
  subst hp; exact h.map fun _ q => XS.ladd X.here k.1 rfl (hb k.2.2.1 hd) rfl q
theorem isub (k : K p s m meth c Z y cd ml ret) (X : Stand p l e R s m args below meth c T locs cells slots) {a : Int32} {b : Int32} (hd : decode cd pc = .ok (.isub, 1)) (pc' : Nat) (hp : pc + 1 = pc') (h : Ends p e s below R Q T (mkF m pc' ls (.int (a - b) :: st))) : Ends p e s below R Q T (mkF m pc ls (.int b :: .int a :: st)) := by
  subst hp; exact h.map fun _ q => XS.isub X.here k.1 rfl (hb k.2.2.1 hd) rfl q
theorem lsub (k : K p s m meth c Z y cd ml ret) (X : Stand p l e R s m args below meth c T locs cells slots) {a : Int64} {b : Int64} (hd : decode cd pc = .ok (.lsub, 1)) (pc' : Nat) (hp : pc + 1 = pc') (h : Ends p e s below R Q T (mkF m pc' ls (.long (a - b) :: st))) : Ends p e s below R Q T (mkF m pc ls (.long b :: .long a :: st)) := by
  subst hp; exact h.map fun _ q => XS.lsub X.here k.1 rfl (hb k.2.2.1 hd) rfl q
theorem imul (k : K p s m meth c Z y cd ml ret) (X : Stand p l e R s m args below meth c T locs cells slots) {a : Int32} {b : Int32} (hd : decode cd pc = .ok (.imul, 1)) (pc' : Nat) (hp : pc + 1 = pc') (h : Ends p e s below R Q T (mkF m pc' ls (.int (a * b) :: st))) : Ends p e s below R Q T (mkF m pc ls (.int b :: .int a :: st)) := by
  subst hp; exact h.map fun _ q => XS.imul X.here k.1 rfl (hb k.2.2.1 hd) rfl q
theorem lmul (k : K p s m meth c Z y cd ml ret) (X : Stand p l e R s m args below meth c T locs cells slots) {a : Int64} {b : Int64} (hd : decode cd pc = .ok (.lmul, 1)) (pc' : Nat) (hp : pc + 1 = pc') (h : Ends p e s below R Q T (mkF m pc' ls (.long (a * b) :: st))) : Ends p e s below R Q T (mkF m pc ls (.long b :: .long a :: st)) := by
  subst hp; exact h.map fun _ q => XS.lmul X.here k.1 rfl (hb k.2.2.1 hd) rfl q
theorem iand (k : K p s m meth c Z y cd ml ret) (X : Stand p l e R s m args below meth c T locs cells slots) {a : Int32} {b : Int32} (hd : decode cd pc = .ok (.iand, 1)) (pc' : Nat) (hp : pc + 1 = pc') (h : Ends p e s below R Q T (mkF m pc' ls (.int (a &&& b) :: st))) : Ends p e s below R Q T (mkF m pc ls (.int b :: .int a :: st)) := by
  subst hp; exact h.map fun _ q => XS.iand X.here k.1 rfl (hb k.2.2.1 hd) rfl q
theorem land (k : K p s m meth c Z y cd ml ret) (X : Stand p l e R s m args below meth c T locs cells slots) {a : Int64} {b : Int64} (hd : decode cd pc = .ok (.land, 1)) (pc' : Nat) (hp : pc + 1 = pc') (h : Ends p e s below R Q T (mkF m pc' ls (.long (a &&& b) :: st))) : Ends p e s below R Q T (mkF m pc ls (.long b :: .long a :: st)) := by
  subst hp; exact h.map fun _ q => XS.land X.here k.1 rfl (hb k.2.2.1 hd) rfl q
theorem ior (k : K p s m meth c Z y cd ml ret) (X : Stand p l e R s m args below meth c T locs cells slots) {a : Int32} {b : Int32} (hd : decode cd pc = .ok (.ior, 1)) (pc' : Nat) (hp : pc + 1 = pc') (h : Ends p e s below R Q T (mkF m pc' ls (.int (a ||| b) :: st))) : Ends p e s below R Q T (mkF m pc ls (.int b :: .int a :: st)) := by
  subst hp; exact h.map fun _ q => XS.ior X.here k.1 rfl (hb k.2.2.1 hd) rfl q
theorem lor (k : K p s m meth c Z y cd ml ret) (X : Stand p l e R s m args below meth c T locs cells slots) {a : Int64} {b : Int64} (hd : decode cd pc = .ok (.lor, 1)) (pc' : Nat) (hp : pc + 1 = pc') (h : Ends p e s below R Q T (mkF m pc' ls (.long (a ||| b) :: st))) : Ends p e s below R Q T (mkF m pc ls (.long b :: .long a :: st)) := by
  subst hp; exact h.map fun _ q => XS.lor X.here k.1 rfl (hb k.2.2.1 hd) rfl q
theorem ixor (k : K p s m meth c Z y cd ml ret) (X : Stand p l e R s m args below meth c T locs cells slots) {a : Int32} {b : Int32} (hd : decode cd pc = .ok (.ixor, 1)) (pc' : Nat) (hp : pc + 1 = pc') (h : Ends p e s below R Q T (mkF m pc' ls (.int (a ^^^ b) :: st))) : Ends p e s below R Q T (mkF m pc ls (.int b :: .int a :: st)) := by
  subst hp; exact h.map fun _ q => XS.ixor X.here k.1 rfl (hb k.2.2.1 hd) rfl q
theorem lxor (k : K p s m meth c Z y cd ml ret) (X : Stand p l e R s m args below meth c T locs cells slots) {a : Int64} {b : Int64} (hd : decode cd pc = .ok (.lxor, 1)) (pc' : Nat) (hp : pc + 1 = pc') (h : Ends p e s below R Q T (mkF m pc' ls (.long (a ^^^ b) :: st))) : Ends p e s below R Q T (mkF m pc ls (.long b :: .long a :: st)) := by
  subst hp; exact h.map fun _ q => XS.lxor X.here k.1 rfl (hb k.2.2.1 hd) rfl q
theorem idiv (k : K p s m meth c Z y cd ml ret) (X : Stand p l e R s m args below meth c T locs cells slots) {a : Int32} {b : Int32} (hd : decode cd pc = .ok (.idiv, 1)) (hy : b ≠ 0) (pc' : Nat) (hp : pc + 1 = pc') (h : Ends p e s below R Q T (mkF m pc' ls (.int (a / b) :: st))) : Ends p e s below R Q T (mkF m pc ls (.int b :: .int a :: st)) := by
  subst hp; exact h.map fun _ q => XS.idiv X.here k.1 rfl (hb k.2.2.1 hd) rfl hy q
theorem ldiv (k : K p s m meth c Z y cd ml ret) (X : Stand p l e R s m args below meth c T locs cells slots) {a : Int64} {b : Int64} (hd : decode cd pc = .ok (.ldiv, 1)) (hy : b ≠ 0) (pc' : Nat) (hp : pc + 1 = pc') (h : Ends p e s below R Q T (mkF m pc' ls (.long (a / b) :: st))) : Ends p e s below R Q T (mkF m pc ls (.long b :: .long a :: st)) := by
  subst hp; exact h.map fun _ q => XS.ldiv X.here k.1 rfl (hb k.2.2.1 hd) rfl hy q
theorem ishl (k : K p s m meth c Z y cd ml ret) (X : Stand p l e R s m args below meth c T locs cells slots) {a : Int32} {b : Int32} (hd : decode cd pc = .ok (.ishl, 1)) (pc' : Nat) (hp : pc + 1 = pc') (h : Ends p e s below R Q T (mkF m pc' ls (.int (a <<< (b &&& 31)) :: st))) : Ends p e s below R Q T (mkF m pc ls (.int b :: .int a :: st)) := by
  subst hp; exact h.map fun _ q => XS.ishl X.here k.1 rfl (hb k.2.2.1 hd) rfl q
theorem ishr (k : K p s m meth c Z y cd ml ret) (X : Stand p l e R s m args below meth c T locs cells slots) {a : Int32} {b : Int32} (hd : decode cd pc = .ok (.ishr, 1)) (pc' : Nat) (hp : pc + 1 = pc') (h : Ends p e s below R Q T (mkF m pc' ls (.int (a >>> (b &&& 31)) :: st))) : Ends p e s below R Q T (mkF m pc ls (.int b :: .int a :: st)) := by
  subst hp; exact h.map fun _ q => XS.ishr X.here k.1 rfl (hb k.2.2.1 hd) rfl q
theorem iushr (k : K p s m meth c Z y cd ml ret) (X : Stand p l e R s m args below meth c T locs cells slots) {a : Int32} {b : Int32} (hd : decode cd pc = .ok (.iushr, 1)) (pc' : Nat) (hp : pc + 1 = pc') (h : Ends p e s below R Q T (mkF m pc' ls (.int ((a.toUInt32 >>> (b &&& 31).toUInt32).toInt32) :: st))) : Ends p e s below R Q T (mkF m pc ls (.int b :: .int a :: st)) := by
  subst hp; exact h.map fun _ q => XS.iushr X.here k.1 rfl (hb k.2.2.1 hd) rfl q
theorem lshl (k : K p s m meth c Z y cd ml ret) (X : Stand p l e R s m args below meth c T locs cells slots) {a : Int64} {b : Int32} (hd : decode cd pc = .ok (.lshl, 1)) (pc' : Nat) (hp : pc + 1 = pc') (h : Ends p e s below R Q T (mkF m pc' ls (.long (a <<< (b &&& 0x3f).toInt64) :: st))) : Ends p e s below R Q T (mkF m pc ls (.int b :: .long a :: st)) := by
  subst hp; exact h.map fun _ q => XS.lshl X.here k.1 rfl (hb k.2.2.1 hd) rfl q
theorem lshr (k : K p s m meth c Z y cd ml ret) (X : Stand p l e R s m args below meth c T locs cells slots) {a : Int64} {b : Int32} (hd : decode cd pc = .ok (.lshr, 1)) (pc' : Nat) (hp : pc + 1 = pc') (h : Ends p e s below R Q T (mkF m pc' ls (.long (a >>> (b &&& 0x3f).toInt64) :: st))) : Ends p e s below R Q T (mkF m pc ls (.int b :: .long a :: st)) := by
  subst hp; exact h.map fun _ q => XS.lshr X.here k.1 rfl (hb k.2.2.1 hd) rfl q
theorem lushr (k : K p s m meth c Z y cd ml ret) (X : Stand p l e R s m args below meth c T locs cells slots) {a : Int64} {b : Int32} (hd : decode cd pc = .ok (.lushr, 1)) (pc' : Nat) (hp : pc + 1 = pc') (h : Ends p e s below R Q T (mkF m pc' ls (.long ((a.toUInt64 >>> (b &&& 0x3f).toInt64.toUInt64).toInt64) :: st))) : Ends p e s below R Q T (mkF m pc ls (.int b :: .long a :: st)) := by
  subst hp; exact h.map fun _ q => XS.lushr X.here k.1 rfl (hb k.2.2.1 hd) rfl q
theorem irem (k : K p s m meth c Z y cd ml ret) (X : Stand p l e R s m args below meth c T locs cells slots) {a b : Int32} (hd : decode cd pc = .ok (.irem, 1)) (hy : b ≠ 0) (pc' : Nat) (hp : pc + 1 = pc') (h : Ends p e s below R Q T (mkF m pc' ls (.int (a % b) :: st))) : Ends p e s below R Q T (mkF m pc ls (.int b :: .int a :: st)) := by
  subst hp; exact h.map fun _ q => iremM X k.1 rfl (hb k.2.2.1 hd) rfl hy q
theorem ineg (k : K p s m meth c Z y cd ml ret) (X : Stand p l e R s m args below meth c T locs cells slots) {a : Int32} (hd : decode cd pc = .ok (.ineg, 1)) (pc' : Nat) (hp : pc + 1 = pc') (h : Ends p e s below R Q T (mkF m pc' ls (.int (-a) :: st))) : Ends p e s below R Q T (mkF m pc ls (.int a :: st)) := by
  subst hp; exact h.map fun _ q => XS.ineg X.here k.1 rfl (hb k.2.2.1 hd) rfl q
theorem lneg (k : K p s m meth c Z y cd ml ret) (X : Stand p l e R s m args below meth c T locs cells slots) {a : Int64} (hd : decode cd pc = .ok (.lneg, 1)) (pc' : Nat) (hp : pc + 1 = pc') (h : Ends p e s below R Q T (mkF m pc' ls (.long (-a) :: st))) : Ends p e s below R Q T (mkF m pc ls (.long a :: st)) := by
  subst hp; exact h.map fun _ q => XS.lneg X.here k.1 rfl (hb k.2.2.1 hd) rfl q
theorem i2l (k : K p s m meth c Z y cd ml ret) (X : Stand p l e R s m args below meth c T locs cells slots) {a : Int32} (hd : decode cd pc = .ok (.i2l, 1)) (pc' : Nat) (hp : pc + 1 = pc') (h : Ends p e s below R Q T (mkF m pc' ls (.long (a.toInt64) :: st))) : Ends p e s below R Q T (mkF m pc ls (.int a :: st)) := by
  subst hp; exact h.map fun _ q => XS.i2l X.here k.1 rfl (hb k.2.2.1 hd) rfl q
theorem l2i (k : K p s m meth c Z y cd ml ret) (X : Stand p l e R s m args below meth c T locs cells slots) {a : Int64} (hd : decode cd pc = .ok (.l2i, 1)) (pc' : Nat) (hp : pc + 1 = pc') (h : Ends p e s below R Q T (mkF m pc' ls (.int (a.toInt32) :: st))) : Ends p e s below R Q T (mkF m pc ls (.long a :: st)) := by
  subst hp; exact h.map fun _ q => XS.l2i X.here k.1 rfl (hb k.2.2.1 hd) rfl q
theorem i2b (k : K p s m meth c Z y cd ml ret) (X : Stand p l e R s m args below meth c T locs cells slots) {a : Int32} (hd : decode cd pc = .ok (.i2b, 1)) (pc' : Nat) (hp : pc + 1 = pc') (h : Ends p e s below R Q T (mkF m pc' ls (.int (a.toInt8.toInt32) :: st))) : Ends p e s below R Q T (mkF m pc ls (.int a :: st)) := by
  subst hp; exact h.map fun _ q => XS.i2b X.here k.1 rfl (hb k.2.2.1 hd) rfl q
theorem i2s (k : K p s m meth c Z y cd ml ret) (X : Stand p l e R s m args below meth c T locs cells slots) {a : Int32} (hd : decode cd pc = .ok (.i2s, 1)) (pc' : Nat) (hp : pc + 1 = pc') (h : Ends p e s below R Q T (mkF m pc' ls (.int (a.toInt16.toInt32) :: st))) : Ends p e s below R Q T (mkF m pc ls (.int a :: st)) := by
  subst hp; exact h.map fun _ q => XS.i2s X.here k.1 rfl (hb k.2.2.1 hd) rfl q
theorem i2c (k : K p s m meth c Z y cd ml ret) (X : Stand p l e R s m args below meth c T locs cells slots) {a : Int32} (hd : decode cd pc = .ok (.i2c, 1)) (pc' : Nat) (hp : pc + 1 = pc') (h : Ends p e s below R Q T (mkF m pc' ls (.int (a.toUInt32.toUInt16.toUInt32.toInt32) :: st))) : Ends p e s below R Q T (mkF m pc ls (.int a :: st)) := by
  subst hp; exact h.map fun _ q => XS.i2c X.here k.1 rfl (hb k.2.2.1 hd) rfl q
/-! stack, jumps -/
theorem dup (k : K p s m meth c Z y cd ml ret) (X : Stand p l e R s m args below meth c T locs cells slots) {v : Value} (hd : decode cd pc = .ok (.dup, 1)) (hc : v.category = 1) (pc' : Nat) (hp : pc + 1 = pc') (h : Ends p e s below R Q T (mkF m pc' ls (v :: v :: st))) : Ends p e s below R Q T (mkF m pc ls (v :: st)) := by
  subst hp; exact h.map fun _ q => XS.dup X.here k.1 rfl (hb k.2.2.1 hd) rfl hc q
theorem pop (k : K p s m meth c Z y cd ml ret) (X : Stand p l e R s m args below meth c T locs cells slots) {v : Value} (hd : decode cd pc = .ok (.pop, 1)) (hc : v.category = 1) (pc' : Nat) (hp : pc + 1 = pc') (h : Ends p e s below R Q T (mkF m pc' ls st)) : Ends p e s below R Q T (mkF m pc ls (v :: st)) := by
  subst hp; exact h.map fun _ q => XS.pop X.here k.1 rfl (hb k.2.2.1 hd) rfl hc q
theorem dup_x1 (k : K p s m meth c Z y cd ml ret) (X : Stand p l e R s m args below meth c T locs cells slots) {v v' : Value} (hd : decode cd pc = .ok (.dup_x1, 1)) (hc : v.category = 1) (hc' : v'.category = 1) (pc' : Nat) (hp : pc + 1 = pc') (h : Ends p e s below R Q T (mkF m pc' ls (v :: v' :: v :: st))) : Ends p e s below R Q T (mkF m pc ls (v :: v' :: st)) := by
  subst hp; exact h.map fun _ q => XS.dupX1 X.here k.1 rfl (hb k.2.2.1 hd) rfl hc hc' q
theorem dup2 (k : K p s m meth c Z y cd ml ret) (X : Stand p l e R s m args below meth c T locs cells slots) {v v' : Value} (hd : decode cd pc = .ok (.dup2, 1)) (hc : v.category = 1) (hc' : v'.category = 1) (pc' : Nat) (hp : pc + 1 = pc') (h : Ends p e s below R Q T (mkF m pc' ls (v :: v' :: v :: v' :: st))) : Ends p e s below R Q T (mkF m pc ls (v :: v' :: st)) := by
  subst hp; exact h.map fun _ q => Jvm.Free.XT.dup2 X.here k.1 rfl (hb k.2.2.1 hd) rfl hc hc' q
theorem goto (k : K p s m meth c Z y cd ml ret) (X : Stand p l e R s m args below meth c T locs cells slots) {o : Int} (hd : decode cd pc = .ok (.goto o, 3)) (ho : 0 ≤ (pc : Int) + o) (pc' : Nat) (hp : ((pc : Int) + o).toNat = pc') (h : Ends p e s below R Q T (mkF m pc' ls st)) : Ends p e s below R Q T (mkF m pc ls st) := by
  exact h.map fun _ q => XS.goto X.here k.1 rfl rfl (hb k.2.2.1 hd) ho hp q
theorem icmp_lt (k : K p s m meth c Z y cd ml ret) (X : Stand p l e R s m args below meth c T locs cells slots) {a b : Int32} {o : Int} (hd : decode cd pc = .ok (.if_icmp .lt o, 3)) (ho : 0 ≤ (pc : Int) + o) (py pn : Nat) (hy : ((pc : Int) + o).toNat = py) (hn : pc + 3 = pn) (h1 : a < b → Ends p e s below R Q T (mkF m py ls st)) (h2 : ¬ a < b → Ends p e s below R Q T (mkF m pn ls st)) : Ends p e s below R Q T (mkF m pc ls (.int b :: .int a :: st)) := by
  subst hn
  by_cases q : a < b
  · exact (h1 q).map fun _ r => XS.icmpYes X.here k.1 rfl rfl (hb k.2.2.1 hd) rfl (tlt q).1 ho hy r
  · exact (h2 q).map fun _ r => XS.icmpNo X.here k.1 rfl (hb k.2.2.1 hd) rfl (flt q).1 r
theorem if_lt (k : K p s m meth c Z y cd ml ret) (X : Stand p l e R s m args below meth c T locs cells slots) {a : Int32} {o : Int} (hd : decode cd pc = .ok (.ifCond .lt o, 3)) (ho : 0 ≤ (pc : Int) + o) (py pn : Nat) (hy : ((pc : Int) + o).toNat = py) (hn : pc + 3 = pn) (h1 : a < 0 → Ends p e s below R Q T (mkF m py ls st)) (h2 : ¬ a < 0 → Ends p e s below R Q T (mkF m pn ls st)) : Ends p e s below R Q T (mkF m pc ls (.int a :: st)) := by
  subst hn
  by_cases q : a < 0
  · exact (h1 q).map fun _ r => XS.ifYes X.here k.1 rfl rfl (hb k.2.2.1 hd) rfl ((if0 _ _).trans (tlt q).1) ho hy r
  · exact (h2 q).map fun _ r => XS.ifNo X.here k.1 rfl (hb k.2.2.1 hd) rfl ((if0 _ _).trans (flt q).1) r
theorem icmp_ge (k : K p s m meth c Z y cd ml ret) (X : Stand p l e R s m args below meth c T locs cells slots) {a b : Int32} {o : Int} (hd : decode cd pc = .ok (.if_icmp .ge o, 3)) (ho : 0 ≤ (pc : Int) + o) (py pn : Nat) (hy : ((pc : Int) + o).toNat = py) (hn : pc + 3 = pn) (h1 : ¬ a < b → Ends p e s below R Q T (mkF m py ls st)) (h2 : a < b → Ends p e s below R Q T (mkF m pn ls st)) : Ends p e s below R Q T (mkF m pc ls (.int b :: .int a :: st)) := by
  subst hn
  by_cases q : a < b
  · exact (h2 q).map fun _ r => XS.icmpNo X.here k.1 rfl (hb k.2.2.1 hd) rfl (tlt q).2.1 r
  · exact (h1 q).map fun _ r => XS.icmpYes X.here k.1 rfl rfl (hb k.2.2.1 hd) rfl (flt q).2.1 ho hy r
theorem if_ge (k : K p s m meth c Z y cd ml ret) (X : Stand p l e R s m args below meth c T locs cells slots) {a : Int32} {o : Int} (hd : decode cd pc = .ok (.ifCond .ge o, 3)) (ho : 0 ≤ (pc : Int) + o) (py pn : Nat) (hy : ((pc : Int) + o).toNat = py) (hn : pc + 3 = pn) (h1 : ¬ a < 0 → Ends p e s below R Q T (mkF m py ls st)) (h2 : a < 0 → Ends p e s below R Q T (mkF m pn ls st)) : Ends p e s below R Q T (mkF m pc ls (.int a :: st)) := by
  subst hn
  by_cases q : a < 0
  · exact (h2 q).map fun _ r => XS.ifNo X.here k.1 rfl (hb k.2.2.1 hd) rfl ((if0 _ _).trans (tlt q).2.1) r
  · exact (h1 q).map fun _ r => XS.ifYes X.here k.1 rfl rfl (hb k.2.2.1 hd) rfl ((if0 _ _).trans (flt q).2.1) ho hy r
theorem icmp_gt (k : K p s m meth c Z y cd ml ret) (X : Stand p l e R s m args below meth c T locs cells slots) {a b : Int32} {o : Int} (hd : decode cd pc = .ok (.if_icmp .gt o, 3)) (ho : 0 ≤ (pc : Int) + o) (py pn : Nat) (hy : ((pc : Int) + o).toNat = py) (hn : pc + 3 = pn) (h1 : b < a → Ends p e s below R Q T (mkF m py ls st)) (h2 : ¬ b < a → Ends p e s below R Q T (mkF m pn ls st)) : Ends p e s below R Q T (mkF m pc ls (.int b :: .int a :: st)) := by
  subst hn
  by_cases q : b < a
  · exact (h1 q).map fun _ r => XS.icmpYes X.here k.1 rfl rfl (hb k.2.2.1 hd) rfl (tlt q).2.2.1 ho hy r
  · exact (h2 q).map fun _ r => XS.icmpNo X.here k.1 rfl (hb k.2.2.1 hd) rfl (flt q).2.2.1 r
theorem if_gt (k : K p s m meth c Z y cd ml ret) (X : Stand p l e R s m args below meth c T locs cells slots) {a : Int32} {o : Int} (hd : decode cd pc = .ok (.ifCond .gt o, 3)) (ho : 0 ≤ (pc : Int) + o) (py pn : Nat) (hy : ((pc : Int) + o).toNat = py) (hn : pc + 3 = pn) (h1 : 0 < a → Ends p e s below R Q T (mkF m py ls st)) (h2 : ¬ 0 < a → Ends p e s below R Q T (mkF m pn ls st)) : Ends p e s below R Q T (mkF m pc ls (.int a :: st)) := by
  subst hn
  by_cases q : 0 < a
  · exact (h1 q).map fun _ r => XS.ifYes X.here k.1 rfl rfl (hb k.2.2.1 hd) rfl ((if0 _ _).trans (tlt q).2.2.1) ho hy r
  · exact (h2 q).map fun _ r => XS.ifNo X.here k.1 rfl (hb k.2.2.1 hd) rfl ((if0 _ _).trans (flt q).2.2.1) r
theorem icmp_le (k : K p s m meth c Z y cd ml ret) (X : Stand p l e R s m args below meth c T locs cells slots) {a b : Int32} {o : Int} (hd : decode cd pc = .ok (.if_icmp .le o, 3)) (ho : 0 ≤ (pc : Int) + o) (py pn : Nat) (hy : ((pc : Int) + o).toNat = py) (hn : pc + 3 = pn) (h1 : ¬ b < a → Ends p e s below R Q T (mkF m py ls st)) (h2 : b < a → Ends p e s below R Q T (mkF m pn ls st)) : Ends p e s below R Q T (mkF m pc ls (.int b :: .int a :: st)) := by
  subst hn
  by_cases q : b < a
  · exact (h2 q).map fun _ r => XS.icmpNo X.here k.1 rfl (hb k.2.2.1 hd) rfl (tlt q).2.2.2 r
  · exact (h1 q).map fun _ r => XS.icmpYes X.here k.1 rfl rfl (hb k.2.2.1 hd) rfl (flt q).2.2.2 ho hy r
theorem if_le (k : K p s m meth c Z y cd ml ret) (X : Stand p l e R s m args below meth c T locs cells slots) {a : Int32} {o : Int} (hd : decode cd pc = .ok (.ifCond .le o, 3)) (ho : 0 ≤ (pc : Int) + o) (py pn : Nat) (hy : ((pc : Int) + o).toNat = py) (hn : pc + 3 = pn) (h1 : ¬ 0 < a → Ends p e s below R Q T (mkF m py ls st)) (h2 : 0 < a → Ends p e s below R Q T (mkF m pn ls st)) : Ends p e s below R Q T (mkF m pc ls (.int a :: st)) := by
  subst hn
  by_cases q : 0 < a
  · exact (h2 q).map fun _ r => XS.ifNo X.here k.1 rfl (hb k.2.2.1 hd) rfl ((if0 _ _).trans (tlt q).2.2.2) r
  · exact (h1 q).map fun _ r => XS.ifYes X.here k.1 rfl rfl (hb k.2.2.1 hd) rfl ((if0 _ _).trans (flt q).2.2.2) ho hy r
theorem icmp_eq (k : K p s m meth c Z y cd ml ret) (X : Stand p l e R s m args below meth c T locs cells slots) {a b : Int32} {o : Int} (hd : decode cd pc = .ok (.if_icmp .eq o, 3)) (ho : 0 ≤ (pc : Int) + o) (py pn : Nat) (hy : ((pc : Int) + o).toNat = py) (hn : pc + 3 = pn) (h1 : a = b → Ends p e s below R Q T (mkF m py ls st)) (h2 : ¬ a = b → Ends p e s below R Q T (mkF m pn ls st)) : Ends p e s below R Q T (mkF m pc ls (.int b :: .int a :: st)) := by
  subst hn
  by_cases q : a = b
  · exact (h1 q).map fun _ r => XS.icmpYes X.here k.1 rfl rfl (hb k.2.2.1 hd) rfl (teq q).1 ho hy r
  · exact (h2 q).map fun _ r => XS.icmpNo X.here k.1 rfl (hb k.2.2.1 hd) rfl (feq q).1 r
theorem if_eq (k : K p s m meth c Z y cd ml ret) (X : Stand p l e R s m args below meth c T locs cells slots) {a : Int32} {o : Int} (hd : decode cd pc = .ok (.ifCond .eq o, 3)) (ho : 0 ≤ (pc : Int) + o) (py pn : Nat) (hy : ((pc : Int) + o).toNat = py) (hn : pc + 3 = pn) (h1 : a = 0 → Ends p e s below R Q T (mkF m py ls st)) (h2 : ¬ a = 0 → Ends p e s below R Q T (mkF m pn ls st)) : Ends p e s below R Q T (mkF m pc ls (.int a :: st)) := by
  subst hn
  by_cases q : a = 0
  · exact (h1 q).map fun _ r => XS.ifYes X.here k.1 rfl rfl (hb k.2.2.1 hd) rfl ((if0 _ _).trans (teq q).1) ho hy r
  · exact (h2 q).map fun _ r => XS.ifNo X.here k.1 rfl (hb k.2.2.1 hd) rfl ((if0 _ _).trans (feq q).1) r
theorem icmp_ne (k : K p s m meth c Z y cd ml ret) (X : Stand p l e R s m args below meth c T locs cells slots) {a b : Int32} {o : Int} (hd : decode cd pc = .ok (.if_icmp .ne o, 3)) (ho : 0 ≤ (pc : Int) + o) (py pn : Nat) (hy : ((pc : Int) + o).toNat = py) (hn : pc + 3 = pn) (h1 : ¬ a = b → Ends p e s below R Q T (mkF m py ls st)) (h2 : a = b → Ends p e s below R Q T (mkF m pn ls st)) : Ends p e s below R Q T (mkF m pc ls (.int b :: .int a :: st)) := by
  subst hn
  by_cases q : a = b
  · exact (h2 q).map fun _ r => XS.icmpNo X.here k.1 rfl (hb k.2.2.1 hd) rfl (teq q).2 r
  · exact (h1 q).map fun _ r => XS.icmpYes X.here k.1 rfl rfl (hb k.2.2.1 hd) rfl (feq q).2 ho hy r
theorem if_ne (k : K p s m meth c Z y cd ml ret) (X : Stand p l e R s m args below meth c T locs cells slots) {a : Int32} {o : Int} (hd : decode cd pc = .ok (.ifCond .ne o, 3)) (ho : 0 ≤ (pc : Int) + o) (py pn : Nat) (hy : ((pc : Int) + o).toNat = py) (hn : pc + 3 = pn) (h1 : ¬ a = 0 → Ends p e s below R Q T (mkF m py ls st)) (h2 : a = 0 → Ends p e s below R Q T (mkF m pn ls st)) : Ends p e s below R Q T (mkF m pc ls (.int a :: st)) := by
  subst hn
  by_cases q : a = 0
  · exact (h2 q).map fun _ r => XS.ifNo X.here k.1 rfl (hb k.2.2.1 hd) rfl ((if0 _ _).trans (teq q).2) r
  · exact (h1 q).map fun _ r => XS.ifYes X.here k.1 rfl rfl (hb k.2.2.1 hd) rfl ((if0 _ _).trans (feq q).2) ho hy r
theorem lcmp_lt (k : K p s m meth c Z y cd ml ret) (X : Stand p l e R s m args below meth c T locs cells slots) {a b : Int64} {o : Int} (hd0 : decode cd pc = .ok (.lcmp, 1)) (pc1 : Nat) (hp1 : pc + 1 = pc1) (hd : decode cd pc1 = .ok (.ifCond .lt o, 3)) (ho : 0 ≤ (pc1 : Int) + o) (py pn : Nat) (hy : ((pc1 : Int) + o).toNat = py) (hn : pc1 + 3 = pn) (h1 : a < b → Ends p e s below R Q T (mkF m py ls st)) (h2 : ¬ a < b → Ends p e s below R Q T (mkF m pn ls st)) : Ends p e s below R Q T (mkF m pc ls (.long b :: .long a :: st)) := by
  subst hp1
  refine Ends.map (T' := T) (f' := mkF m (pc + 1) ls (.int (lcmpW a b) :: st)) (fun _ q => XS.lcmp X.here k.1 rfl (hb k.2.2.1 hd0) rfl q) ?_
  exact if_lt k X hd ho py pn hy hn (fun q => h1 ((lw_lt a b).mp q)) (fun q => h2 (mt (lw_lt a b).mpr q))
theorem lcmp_ge (k : K p s m meth c Z y cd ml ret) (X : Stand p l e R s m args below meth c T locs cells slots) {a b : Int64} {o : Int} (hd0 : decode cd pc = .ok (.lcmp, 1)) (pc1 : Nat) (hp1 : pc + 1 = pc1) (hd : decode cd pc1 = .ok (.ifCond .ge o, 3)) (ho : 0 ≤ (pc1 : Int) + o) (py pn : Nat) (hy : ((pc1 : Int) + o).toNat = py) (hn : pc1 + 3 = pn) (h1 : ¬ a < b → Ends p e s below R Q T (mkF m py ls st)) (h2 : a < b → Ends p e s below R Q T (mkF m pn ls st)) : Ends p e s below R Q T (mkF m pc ls (.long b :: .long a :: st)) := by
  subst hp1
  refine Ends.map (T' := T) (f' := mkF m (pc + 1) ls (.int (lcmpW a b) :: st)) (fun _ q => XS.lcmp X.here k.1 rfl (hb k.2.2.1 hd0) rfl q) ?_
  exact if_ge k X hd ho py pn hy hn (fun q => h1 (mt (lw_lt a b).mpr q)) (fun q => h2 ((lw_lt a b).mp q))
theorem lcmp_gt (k : K p s m meth c Z y cd ml ret) (X : Stand p l e R s m args below meth c T locs cells slots) {a b : Int64} {o : Int} (hd0 : decode cd pc = .ok (.lcmp, 1)) (pc1 : Nat) (hp1 : pc + 1 = pc1) (hd : decode cd pc1 = .ok (.ifCond .gt o, 3)) (ho : 0 ≤ (pc1 : Int) + o) (py pn : Nat) (hy : ((pc1 : Int) + o).toNat = py) (hn : pc1 + 3 = pn) (h1 : b < a → Ends p e s below R Q T (mkF m py ls st)) (h2 : ¬ b < a → Ends p e s below R Q T (mkF m pn ls st)) : Ends p e s below R Q T (mkF m pc ls (.long b :: .long a :: st)) := by
  subst hp1
  refine Ends.map (T' := T) (f' := mkF m (pc + 1) ls (.int (lcmpW a b) :: st)) (fun _ q => XS.lcmp X.here k.1 rfl (hb k.2.2.1 hd0) rfl q) ?_
  exact if_gt k X hd ho py pn hy hn (fun q => h1 ((lw_gt a b).mp q)) (fun q => h2 (mt (lw_gt a b).mpr q))
theorem lcmp_le (k : K p s m meth c Z y cd ml ret) (X : Stand p l e R s m args below meth c T locs cells slots) {a b : Int64} {o : Int} (hd0 : decode cd pc = .ok (.lcmp, 1)) (pc1 : Nat) (hp1 : pc + 1 = pc1) (hd : decode cd pc1 = .ok (.ifCond .le o, 3)) (ho : 0 ≤ (pc1 : Int) + o) (py pn : Nat) (hy : ((pc1 : Int) + o).toNat = py) (hn : pc1 + 3 = pn) (h1 : ¬ b < a → Ends p e s below R Q T (mkF m py ls st)) (h2 : b < a → Ends p e s below R Q T (mkF m pn ls st)) : Ends p e s below R Q T (mkF m pc ls (.long b :: .long a :: st)) := by
  subst hp1
  refine Ends.map (T' := T) (f' := mkF m (pc + 1) ls (.int (lcmpW a b) :: st)) (fun _ q => XS.lcmp X.here k.1 rfl (hb k.2.2.1 hd0) rfl q) ?_
  exact if_le k X hd ho py pn hy hn (fun q => h1 (mt (lw_gt a b).mpr q)) (fun q => h2 ((lw_gt a b).mp q))
theorem lcmp_eq (k : K p s m meth c Z y cd ml ret) (X : Stand p l e R s m args below meth c T locs cells slots) {a b : Int64} {o : Int} (hd0 : decode cd pc = .ok (.lcmp, 1)) (pc1 : Nat) (hp1 : pc + 1 = pc1) (hd : decode cd pc1 = .ok (.ifCond .eq o, 3)) (ho : 0 ≤ (pc1 : Int) + o) (py pn : Nat) (hy : ((pc1 : Int) + o).toNat = py) (hn : pc1 + 3 = pn) (h1 : a = b → Ends p e s below R Q T (mkF m py ls st)) (h2 : ¬ a = b → Ends p e s below R Q T (mkF m pn ls st)) : Ends p e s below R Q T (mkF m pc ls (.long b :: .long a :: st)) := by
  subst hp1
  refine Ends.map (T' := T) (f' := mkF m (pc + 1) ls (.int (lcmpW a b) :: st)) (fun _ q => XS.lcmp X.here k.1 rfl (hb k.2.2.1 hd0) rfl q) ?_
  exact if_eq k X hd ho py pn hy hn (fun q => h1 ((lw_eq a b).mp q)) (fun q => h2 (mt (lw_eq a b).mpr q))
theorem lcmp_ne (k : K p s m meth c Z y cd ml ret) (X : Stand p l e R s m args below meth c T locs cells slots) {a b : Int64} {o : Int} (hd0 : decode cd pc = .ok (.lcmp, 1)) (pc1 : Nat) (hp1 : pc + 1 = pc1) (hd : decode cd pc1 = .ok (.ifCond .ne o, 3)) (ho : 0 ≤ (pc1 : Int) + o) (py pn : Nat) (hy : ((pc1 : Int) + o).toNat = py) (hn : pc1 + 3 = pn) (h1 : ¬ a = b → Ends p e s below R Q T (mkF m py ls st)) (h2 : a = b → Ends p e s below R Q T (mkF m pn ls st)) : Ends p e s below R Q T (mkF m pc ls (.long b :: .long a :: st)) := by
  subst hp1
  refine Ends.map (T' := T) (f' := mkF m (pc + 1) ls (.int (lcmpW a b) :: st)) (fun _ q => XS.lcmp X.here k.1 rfl (hb k.2.2.1 hd0) rfl q) ?_
  exact if_ne k X hd ho py pn hy hn (fun q => h1 (mt (lw_eq a b).mpr q)) (fun q => h2 ((lw_eq a b).mp q))
/-! references -/
theorem ifnull_y (k : K p s m meth c Z y cd ml ret) (X : Stand p l e R s m args below meth c T locs cells slots) {o : Int} (hd : decode cd pc = .ok (.ifnull o, 3)) (ho : 0 ≤ (pc : Int) + o) (pc' : Nat) (hp : ((pc : Int) + o).toNat = pc') (h : Ends p e s below R Q T (mkF m pc' ls st)) : Ends p e s below R Q T (mkF m pc ls (.null :: st)) := by
  exact h.map fun _ q => XS.ifnullYes X.here k.1 rfl rfl (hb k.2.2.1 hd) rfl ho hp q
theorem ifnull_n (k : K p s m meth c Z y cd ml ret) (X : Stand p l e R s m args below meth c T locs cells slots) {o : Int} {a : Addr} (hd : decode cd pc = .ok (.ifnull o, 3)) (pc' : Nat) (hp : pc + 3 = pc') (h : Ends p e s below R Q T (mkF m pc' ls st)) : Ends p e s below R Q T (mkF m pc ls (.ref a :: st)) := by
  subst hp; exact h.map fun _ q => XS.ifnullNo X.here k.1 rfl (hb k.2.2.1 hd) rfl q
theorem ifnonnull_y (k : K p s m meth c Z y cd ml ret) (X : Stand p l e R s m args below meth c T locs cells slots) {o : Int} {a : Addr} (hd : decode cd pc = .ok (.ifnonnull o, 3)) (ho : 0 ≤ (pc : Int) + o) (pc' : Nat) (hp : ((pc : Int) + o).toNat = pc') (h : Ends p e s below R Q T (mkF m pc' ls st)) : Ends p e s below R Q T (mkF m pc ls (.ref a :: st)) := by
  exact h.map fun _ q => XS.ifnonnullYes X.here k.1 rfl rfl (hb k.2.2.1 hd) rfl ho hp q
theorem ifnonnull_n (k : K p s m meth c Z y cd ml ret) (X : Stand p l e R s m args below meth c T locs cells slots) {o : Int} (hd : decode cd pc = .ok (.ifnonnull o, 3)) (pc' : Nat) (hp : pc + 3 = pc') (h : Ends p e s below R Q T (mkF m pc' ls st)) : Ends p e s below R Q T (mkF m pc ls (.null :: st)) := by
  subst hp; exact h.map fun _ q => XS.ifnonnullNo X.here k.1 rfl (hb k.2.2.1 hd) rfl q
/-! returns -/
theorem ret_int (k : K p s m meth c Z y cd ml ret) (X : Stand p l e R s m args below meth c T locs cells slots) (hret : ret = some .int) {z : Int32} (hd : decode cd pc = .ok (.ireturn, 1)) (hc : cells ≤ R.cells) (hs : slots ≤ R.slots) (h : Q (some (.int z)) T.heap locs) : Ends p e s below R Q T (mkF m pc ls (.int z :: st)) := by
  have hl := k.2.2.2.2.2.2.1
  obtain ⟨fs, hr, hrun, hended, hW, hsame⟩ := X.leave (v := some (.int z)) (fun q => by rw [k.2.2.2.2.2.1, hret] at q; cases q)
  exact ⟨_, _, retOut X k.1 (t := .int) (k.2.2.2.2.2.1.trans hret) rfl (Or.inl ⟨rfl, Or.inl rfl, _, rfl⟩) (hb k.2.2.1 hd) hr, hrun, hended, _, _, rfl, h, ⟨_, rfl⟩, hW, hsame.mono hc hs⟩
theorem ret_bool (k : K p s m meth c Z y cd ml ret) (X : Stand p l e R s m args below meth c T locs cells slots) (hret : ret = some .boolean) {z : Int32} (hd : decode cd pc = .ok (.ireturn, 1)) (hc : cells ≤ R.cells) (hs : slots ≤ R.slots) (hz : z = 0 ∨ z = 1) (h : Q (some (.int z)) T.heap locs) : Ends p e s below R Q T (mkF m pc ls (.int z :: st)) := by
  have hl := k.2.2.2.2.2.2.1
  obtain ⟨fs, hr, hrun, hended, hW, hsame⟩ := X.leave (v := some (.int z)) (fun q => by rw [k.2.2.2.2.2.1, hret] at q; cases q)
  exact ⟨_, _, retOut X k.1 (t := .boolean) (k.2.2.2.2.2.1.trans hret) (by rcases hz with rfl | rfl <;> rfl) (Or.inl ⟨rfl, Or.inr (Or.inl rfl), _, rfl⟩) (hb k.2.2.1 hd) hr, hrun, hended, _, _, rfl, h, ⟨_, rfl⟩, hW, hsame.mono hc hs⟩
theorem ret_long (k : K p s m meth c Z y cd ml ret) (X : Stand p l e R s m args below meth c T locs cells slots) (hret : ret = some .long) {z : Int64} (hd : decode cd pc = .ok (.lreturn, 1)) (hc : cells ≤ R.cells) (hs : slots ≤ R.slots) (h : Q (some (.long z)) T.heap locs) : Ends p e s below R Q T (mkF m pc ls (.long z :: st)) := by
  have hl := k.2.2.2.2.2.2.1
  obtain ⟨fs, hr, hrun, hended, hW, hsame⟩ := X.leave (v := some (.long z)) (fun q => by rw [k.2.2.2.2.2.1, hret] at q; cases q)
  exact ⟨_, _, retOut X k.1 (t := .long) (k.2.2.2.2.2.1.trans hret) rfl (Or.inr (Or.inl ⟨rfl, rfl, _, rfl⟩)) (hb k.2.2.1 hd) hr, hrun, hended, _, _, rfl, h, ⟨_, rfl⟩, hW, hsame.mono hc hs⟩
theorem ret_ref (k : K p s m meth c Z y cd ml ret) (X : Stand p l e R s m args below meth c T locs cells slots) {t : FieldType} (hret : ret = some t) (ht : t.isReference = true) {z : Value} (hz : z.isRef = true) (hn : narrow t z = z) (hd : decode cd pc = .ok (.areturn, 1)) (hc : cells ≤ R.cells) (hs : slots ≤ R.slots) (h : Q (some z) T.heap locs) : Ends p e s below R Q T (mkF m pc ls (z :: st)) := by
  have hl := k.2.2.2.2.2.2.1
  obtain ⟨fs, hr, hrun, hended, hW, hsame⟩ := X.leave (v := some z) (fun q => by rw [k.2.2.2.2.2.1, hret] at q; cases q)
  exact ⟨_, _, retOut X k.1 (t := t) (k.2.2.2.2.2.1.trans hret) hn (Or.inr (Or.inr (Or.inr (Or.inr ⟨rfl, ht, hz⟩)))) (hb k.2.2.1 hd) hr, hrun, hended, _, _, rfl, h, ⟨_, rfl⟩, hW, hsame.mono hc hs⟩
theorem ret_void (k : K p s m meth c Z y cd ml ret) (X : Stand p l e R s m args below meth c T locs cells slots) (hret : ret = none) (hd : decode cd pc = .ok (.return_, 1)) (hc : cells ≤ R.cells) (hs : slots ≤ R.slots) (h : Q none T.heap locs) : Ends p e s below R Q T (mkF m pc ls []) := by
  have hl := k.2.2.2.2.2.2.1
  obtain ⟨fs, hr, hrun, hended, hW, hsame⟩ := X.leave (v := none) (fun _ => rfl)
  exact ⟨_, _, X.returnOut k.1 (k.2.2.2.2.2.1.trans hret) (hb k.2.2.1 hd) hr, hrun, hended, _, _, rfl, h, ⟨_, rfl⟩, hW, hsame.mono hc hs⟩
/-! the heap -/
theorem getfield (k : K p s m meth c Z y cd ml ret) (X : Stand p l e R s m args below meth c T locs cells slots) {R0 O n d host : String} {idx : Nat} {a : Addr} {v : Value} (hd : decode cd pc = .ok (.getfield idx, 3)) (wl : (Jvm.Cond.fieldLink y.cls idx R0 n d).before a0 Z = true ∨ (Jvm.Cond.fieldLinkNest y.cls idx R0 n d host).before a0 Z = true) (via : Via Z R0 O n d) (e0 : T.heap = h) (F : Fld Z h a O n d v) (pc' : Nat) (hp : pc + 3 = pc')
    (g : ∀ T' : State, Stand p l e R s m args below meth c T' locs cells slots → T'.heap = h → Ends p e s below R Q T' (mkF m pc' ls (v :: st))) : Ends p e s below R Q T (mkF m pc ls (.ref a :: st)) := by
  subst hp
  obtain ⟨T', X', e', q⟩ := getF X k.1 k.2.1 k.2.2.2.2.1 wl via e0 F (g := mkF m pc ls (.ref a :: st)) rfl rfl (hb k.2.2.1 hd)
  exact (g T' X' e').map q
theorem getstatic (k : K p s m meth c Z y cd ml ret) (X : Stand p l e R s m args below meth c T locs cells slots) {O n d host : String} {idx : Nat} {v : Value} (hd : decode cd pc = .ok (.getstatic idx, 3)) (wl : (Jvm.Cond.fieldLink y.cls idx O n d).before a0 Z = true ∨ (Jvm.Cond.fieldLinkNest y.cls idx O n d host).before a0 Z = true) (e0 : T.heap = h) (F : Sta Z h O n d v) (pc' : Nat) (hp : pc + 3 = pc')
    (g : ∀ T' : State, Stand p l e R s m args below meth c T' locs cells slots → T'.heap = h → Ends p e s below R Q T' (mkF m pc' ls (v :: st))) : Ends p e s below R Q T (mkF m pc ls st) := by
  subst hp
  obtain ⟨T', X', e', q⟩ := getS2 X k.1 k.2.1 k.2.2.2.2.1 wl Via.refl e0 F (g := mkF m pc ls st) rfl (hb k.2.2.1 hd)
  exact (g T' X' e').map q
theorem putfield (k : K p s m meth c Z y cd ml ret) (X : Stand p l e R s m args below meth c T locs cells slots) {R0 O n d host C : String} {idx kk : Nat} {ty : FieldType} {a : Addr} {v old : Value} (hd : decode cd pc = .ok (.putfield idx, 3)) (wl : (Jvm.Cond.fieldLink y.cls idx R0 n d).before a0 Z = true ∨ (Jvm.Cond.fieldLinkNest y.cls idx R0 n d host).before a0 Z = true) (via : Via Z R0 O n d) (e0 : T.heap = h) (F : Fld Z h a O n d old) (E : Exa Z h a C)
    (L : (Jvm.Cond.lays C O n d).before a0 Z = true ∨ ((Jvm.Cond.laysFinal C O n d).before a0 Z = true ∧ y.cls = O ∧ y.name = "<init>")) (wi : (Jvm.Cond.instantiable C kk).before a0 Z = true) (hty : parseFieldDescriptor d = some ty) (hn : narrow ty v = v) (hf : fits ty v = true) (pc' : Nat) (hp : pc + 3 = pc')
    (g : ∀ (T' : State) (h' : Heap), Stand p l e R s m args below meth c T' (locs ++ [⟨a, Jvm.RoadKit.slotOf Z O n d⟩]) cells slots → T'.heap = h' → Wr h h' a (Jvm.RoadKit.slotOf Z O n d) v → Ends p e s below R Q T' (mkF m pc' ls st)) : Ends p e s below R Q T (mkF m pc ls (v :: .ref a :: st)) := by
  subst hp
  obtain ⟨T', h', X', e', W', q⟩ := putF X k.1 k.2.1 k.2.2.2.2.1 wl via e0 F E (L.imp id fun q => ⟨q.1, q.2.1, k.2.2.2.2.2.2.2.trans q.2.2⟩) wi hty hn hf (g := mkF m pc ls (v :: .ref a :: st)) rfl rfl (hb k.2.2.1 hd)
  exact (g T' h' X' e' W').map q
theorem initObj (k : K p s m meth c Z y cd ml ret) (X : Stand p l e R s m args below meth c T locs cells slots) {idx : Nat} {a : Addr} {W : Nat} (hd : decode cd pc = .ok (.invokespecial idx, 3)) (w1 : (Jvm.Cond.methodLink y.cls idx Lib.objectInit).before a0 Z = true) (w2 : (Jvm.Cond.instanceMethod Lib.objectInit).before a0 Z = true) (w3 : (Jvm.Cond.code Lib.objectInit ⟨#[0xb1]⟩ 1 none).before a0 Z = true) (e0 : T.heap = h) (hsz : ls.size = ml) (hf : 1 ≤ R.frames) (hW : (st.map fun v => v.category).sum + 12 ≤ R.locals) (pc' : Nat) (hp : pc + 3 = pc')
    (g : ∀ T' : State, Stand p l e R s m args below meth c T' locs cells slots → T'.heap = h → Ends p e s below R Q T' (mkF m pc' ls st)) : Ends p e s below R Q T (mkF m pc ls (.ref a :: st)) := by
  subst hp
  obtain ⟨T', X', e', q⟩ := initO X k.1 k.2.1 k.2.2.2.2.1 w1 w2 w3 e0 (g := mkF m pc ls (.ref a :: st)) rfl (hsz.trans k.2.2.2.1.symm) rfl (hb k.2.2.1 hd) hf (W := (st.map fun v => v.category).sum) (by show 2 * 0 + _ ≤ _; rw [Nat.mul_zero, Nat.zero_add]; exact Nat.le_refl _) hW
  exact (g T' X' e').map q
theorem new (k : K p s m meth c Z y cd ml ret) (X : Stand p l e R s m args below meth c T locs cells slots) {C : String} {idx n : Nat} (hd : decode cd pc = .ok (.new idx, 3)) (wl : (Jvm.Cond.classLink y.cls idx C).before a0 Z = true) (wi : (Jvm.Cond.instantiable C n).before a0 Z = true) (wz : (Jvm.Cond.initialized C).before a0 Z = true) (e0 : T.heap = h) (hc : cells + 1 ≤ R.cells) (hs : slots + n ≤ R.slots) (pc' : Nat) (hp : pc + 3 = pc')
    (g : ∀ (T' : State) (h' : Heap) (a : Addr), a = h.size → Stand p l e R s m args below meth c T' locs (cells + 1) (slots + n) → T'.heap = h' → Ext h h' → Exa Z h' a C → (∀ {O nm d : String} {ty : FieldType}, Laid Z a0 C O nm d → parseFieldDescriptor d = some ty → Fld Z h' a O nm d (defaultValue ty)) → Ends p e s below R Q T' (mkF m pc' ls (.ref a :: st))) : Ends p e s below R Q T (mkF m pc ls st) := by
  subst hp
  obtain ⟨T', h', X', e', E', A', D', -, q⟩ := newO X k.1 k.2.1 k.2.2.2.2.1 wl wi wz e0 (g := mkF m pc ls st) rfl (hb k.2.2.1 hd) hc hs
  exact (g T' h' h.size rfl X' e' E' A' D').map q
theorem checkcast (k : K p s m meth c Z y cd ml ret) (X : Stand p l e R s m args below meth c T locs cells slots) {C : String} {idx : Nat} {a : Addr} (hd : decode cd pc = .ok (.checkcast idx, 3)) (wl : (Jvm.Cond.classLink y.cls idx C).before a0 Z = true) (e0 : T.heap = h) (F : Ins Z h a C true) (pc' : Nat) (hp : pc + 3 = pc')
    (g : ∀ T' : State, Stand p l e R s m args below meth c T' locs cells slots → T'.heap = h → Ends p e s below R Q T' (mkF m pc' ls (.ref a :: st))) : Ends p e s below R Q T (mkF m pc ls (.ref a :: st)) := by
  subst hp
  obtain ⟨T', X', e', q⟩ := castY X k.1 k.2.1 k.2.2.2.2.1 wl e0 F (g := mkF m pc ls (.ref a :: st)) rfl rfl (hb k.2.2.1 hd)
  exact (g T' X' e').map q
theorem inst_y (k : K p s m meth c Z y cd ml ret) (X : Stand p l e R s m args below meth c T locs cells slots) {C : String} {idx : Nat} {a : Addr} (hd : decode cd pc = .ok (.instanceof idx, 3)) (wl : (Jvm.Cond.classLink y.cls idx C).before a0 Z = true) (e0 : T.heap = h) (F : Ins Z h a C true) (pc' : Nat) (hp : pc + 3 = pc')
    (g : ∀ T' : State, Stand p l e R s m args below meth c T' locs cells slots → T'.heap = h → Ends p e s below R Q T' (mkF m pc' ls (.int 1 :: st))) : Ends p e s below R Q T (mkF m pc ls (.ref a :: st)) := by
  subst hp
  obtain ⟨T', X', e', q⟩ := instY X k.1 k.2.1 k.2.2.2.2.1 wl e0 F (g := mkF m pc ls (.ref a :: st)) rfl rfl (hb k.2.2.1 hd)
  exact (g T' X' e').map q
theorem acmp_same (k : K p s m meth c Z y cd ml ret) (X : Stand p l e R s m args below meth c T locs cells slots) {cnd : ACond} {o : Int} {a : Addr} (hd : decode cd pc = .ok (.if_acmp cnd o, 3)) (ho : 0 ≤ (pc : Int) + o) (pc' : Nat) (hp : pc' = if acV cnd true = true then ((pc : Int) + o).toNat else pc + 3) (h : Ends p e s below R Q T (mkF m pc' ls st)) : Ends p e s below R Q T (mkF m pc ls (.ref a :: .ref a :: st)) := by
  exact h.map fun _ q => Jvm.RoadKit.acmp (g := mkF m pc ls (.ref a :: .ref a :: st)) X k.1 rfl rfl rfl rfl (hb k.2.2.1 hd) rfl (decide_eq_true rfl) ho hp q
theorem acmp_diff (k : K p s m meth c Z y cd ml ret) (X : Stand p l e R s m args below meth c T locs cells slots) {cnd : ACond} {o : Int} {a : Addr} {v : Value} (hd : decode cd pc = .ok (.if_acmp cnd o, 3)) (hv : v.isRef = true) (hne : Value.ref a ≠ v) (ho : 0 ≤ (pc : Int) + o) (pc' : Nat) (hp : pc' = if acV cnd false = true then ((pc : Int) + o).toNat else pc + 3) (h : Ends p e s below R Q T (mkF m pc' ls st)) : Ends p e s below R Q T (mkF m pc ls (v :: .ref a :: st)) := by
  exact h.map fun _ q => Jvm.RoadKit.acmp (g := mkF m pc ls (v :: .ref a :: st)) X k.1 rfl rfl hv rfl (hb k.2.2.1 hd) rfl (decide_eq_false hne) ho hp q
theorem inst_null (k : K p s m meth c Z y cd ml ret) (X : Stand p l e R s m args below meth c T locs cells slots) {idx : Nat} (hd : decode cd pc = .ok (.instanceof idx, 3)) (pc' : Nat) (hp : pc + 3 = pc') (h : Ends p e s below R Q T (mkF m pc' ls (.int 0 :: st))) : Ends p e s below R Q T (mkF m pc ls (.null :: st)) := by
  subst hp; exact h.map fun _ q => X.instanceofNull k.1 (g := mkF m pc ls (.null :: st)) rfl rfl (hb k.2.2.1 hd) _ q
theorem inst_n (k : K p s m meth c Z y cd ml ret) (X : Stand p l e R s m args below meth c T locs cells slots) {C : String} {idx : Nat} {a : Addr} (hd : decode cd pc = .ok (.instanceof idx, 3)) (wl : (Jvm.Cond.classLink y.cls idx C).before a0 Z = true) (e0 : T.heap = h) (F : Ins Z h a C false) {C' : String} (E : Exa Z h a C') (pc' : Nat) (hp : pc + 3 = pc')
    (g : ∀ T' : State, Stand p l e R s m args below meth c T' locs cells slots → T'.heap = h → Ends p e s below R Q T' (mkF m pc' ls (.int 0 :: st))) : Ends p e s below R Q T (mkF m pc ls (.ref a :: st)) := by
  subst hp
  obtain ⟨cell, cT, h1, h2, h3⟩ := F
  obtain ⟨cell', kc, e1, -, e3, e4, -⟩ := E
  cases h1.symm.trans e1
  obtain ⟨k', q, -⟩ := k.2.1.alike.2.2 _ _ e3
  obtain ⟨vm', X', st'⟩ := Jvm.Sym.instanceofNoAt X k.1 k.2.2.2.2.1 (mvT k.2.1 wl) (by rw [e0]; exact h1) e4 q (by rw [k.2.1.alike.findClass]; exact h2) (by rw [k.2.1.alike.assignable]; simpa [e4] using h3) (g := mkF m pc ls (.ref a :: st)) rfl rfl (hb k.2.2.1 hd)
  exact (g _ X' e0).map st'
end
/-! arrays: the list of what they hold -/
def Arl (Z : State) (h : Heap) (a : Addr) (ty : FieldType) (vs : List Value) : Prop := ∃ c : Cell, Arr Z h a c ty ∧ c.slots.toList = vs ∧ vs.length < 2147483648
section
variable {Z : State} {h h' : Heap} {a b : Addr} {ty : FieldType} {vs : List Value} {sl : Nat} {v : Value} {ws : List Addr}
theorem Arl.lt (F : Arl Z h a ty vs) : a < h.size := by obtain ⟨c, A, -⟩ := F; exact A.lt
theorem Arl.ext (F : Arl Z h a ty vs) (E : Ext h h') : Arl Z h' a ty vs := by obtain ⟨c, A, r⟩ := F; exact ⟨c, A.ext E, r⟩
theorem Arl.other (F : Arl Z h b ty vs) (W : Wr h h' a sl v) (q : b ≠ a) : Arl Z h' b ty vs := by obtain ⟨c, A, r⟩ := F; exact ⟨c, A.other W q, r⟩
theorem Arl.keep (F : Arl Z h a ty vs) (K : Keep h h' ws) (q : a ∉ ws) : Arl Z h' a ty vs := by obtain ⟨c, A, r⟩ := F; exact ⟨c, ⟨K.2.1 a c A.1 q, A.2⟩, r⟩
theorem Arl.same (F : Arl Z h a ty vs) (W : Wr h h' a sl v) : Arl Z h' a ty (vs.set sl v) := by
  obtain ⟨c, A, rfl, hl⟩ := F
  refine ⟨c.setSlot sl v, A.same W, ?_, by rw [List.length_set]; exact hl⟩
  simp [Cell.setSlot]
theorem tnc {j : Int32} {i : Nat} (hj : j.toInt = i) : j.toNatClampNeg = i := by simp only [Int32.toNatClampNeg, hj]; rfl
theorem inb {j : Int32} {i n : Nat} (hj : j.toInt = i) (hi : i < n) : ¬ (j < 0 ∨ n ≤ j.toNatClampNeg) := by
  rw [tnc hj]; intro q
  rcases q with q | q
  · rw [Int32.lt_iff_toInt_lt] at q; have e0 : (0 : Int32).toInt = 0 := rfl; omega
  · omega
theorem lt_of_get {xs : List Int32} {i : Nat} {x : Int32} (q : xs[i]? = some x) : i < xs.length := (List.getElem?_eq_some_iff.mp q).1
end
section
variable {p : Program} {l : Launch} {e : Env} {R : Room} {s : State} {m : MethodId} {args : Array Value} {below : List Frame} {meth : Method} {c : Code} {T : State} {locs : List Loc} {cells slots : Nat} {Z : State} {a0 : Array Value} {h : Heap} {y : MethodName} {cd : ByteArray} {ml : Nat} {ret : Option FieldType} {Q : Option Value → Heap → List Loc → Prop} {pc pc' : Nat} {ls : Array Slot} {st : List Value}
theorem arraylength (k : K p s m meth c Z y cd ml ret) (X : Stand p l e R s m args below meth c T locs cells slots) {ty : FieldType} {vs : List Value} {a : Addr} (hd : decode cd pc = .ok (.arraylength, 1)) (e0 : T.heap = h) (A : Arl Z h a ty vs) (n : Int32) (hn : n.toInt = vs.length) (pc' : Nat) (hp : pc + 1 = pc') (g : Ends p e s below R Q T (mkF m pc' ls (.int n :: st))) : Ends p e s below R Q T (mkF m pc ls (.ref a :: st)) := by
  subst hp
  obtain ⟨cl, Ar, rfl, hl⟩ := A
  have q : cl.slots.size.toInt32 = n := by
    apply Int32.toInt_inj.mp
    rw [len_toInt (by simpa using hl), hn]; simp
  refine g.map fun _ r => X.arraylength k.1 (by rw [e0]; exact Ar.1) (State.isArrayOf_alike k.2.1.alike Ar.2.1) (g := mkF m pc ls (.ref a :: st)) rfl rfl (hb k.2.2.1 hd) _ ?_
  rw [q]; exact r
theorem iaload (k : K p s m meth c Z y cd ml ret) (X : Stand p l e R s m args below meth c T locs cells slots) {xs : List Int32} {a : Addr} {j : Int32} (hd : decode cd pc = .ok (.iaload, 1)) (e0 : T.heap = h) (A : Arl Z h a .int (xs.map .int)) (i : Nat) (hj : j.toInt = i) (x : Int32) (hx : xs[i]? = some x) (pc' : Nat) (hp : pc + 1 = pc') (g : Ends p e s below R Q T (mkF m pc' ls (.int x :: st))) : Ends p e s below R Q T (mkF m pc ls (.int j :: .ref a :: st)) := by
  subst hp
  obtain ⟨cl, Ar, hs, hl⟩ := A
  have hz : cl.slots.size = xs.length := by rw [← Array.length_toList, hs, List.length_map]
  refine g.map fun _ r => X.iaload k.1 (j := j) (v := .int x) (by rw [e0]; exact Ar.1) (State.isArrayOf_alike k.2.1.alike Ar.2.1) Ar.2.2 (inb hj (hz ▸ lt_of_get hx)) ?_ (g := mkF m pc ls (.int j :: .ref a :: st)) rfl rfl (hb k.2.2.1 hd) _ r
  rw [tnc hj, ← Array.getElem?_toList, hs, List.getElem?_map, hx]; rfl
theorem baload (k : K p s m meth c Z y cd ml ret) (X : Stand p l e R s m args below meth c T locs cells slots) {xs : List Int32} {a : Addr} {j : Int32} (hd : decode cd pc = .ok (.baload, 1)) (e0 : T.heap = h) (A : Arl Z h a .byte (xs.map .int)) (i : Nat) (hj : j.toInt = i) (x : Int32) (hx : xs[i]? = some x) (pc' : Nat) (hp : pc + 1 = pc') (g : Ends p e s below R Q T (mkF m pc' ls (.int x :: st))) : Ends p e s below R Q T (mkF m pc ls (.int j :: .ref a :: st)) := by
  subst hp
  obtain ⟨cl, Ar, hs, hl⟩ := A
  have hz : cl.slots.size = xs.length := by rw [← Array.length_toList, hs, List.length_map]
  refine g.map fun _ r => X.baloadBytes k.1 (j := j) (v := .int x) (by rw [e0]; exact Ar.1) (State.isArrayOf_alike k.2.1.alike Ar.2.1) Ar.2.2 (inb hj (hz ▸ lt_of_get hx)) ?_ (g := mkF m pc ls (.int j :: .ref a :: st)) rfl rfl (hb k.2.2.1 hd) _ r
  rw [tnc hj, ← Array.getElem?_toList, hs, List.getElem?_map, hx]; rfl
theorem iastore (k : K p s m meth c Z y cd ml ret) (X : Stand p l e R s m args below meth c T locs cells slots) {xs : List Int32} {a : Addr} {j x : Int32} (hd : decode cd pc = .ok (.iastore, 1)) (e0 : T.heap = h) (A : Arl Z h a .int (xs.map .int)) (i : Nat) (hj : j.toInt = i) (hi : i < xs.length) (pc' : Nat) (hp : pc + 1 = pc')
    (g : ∀ (T' : State) (h' : Heap), Stand p l e R s m args below meth c T' (locs ++ [⟨a, i⟩]) cells slots → T'.heap = h' → Wr h h' a i (.int x) → Arl Z h' a .int ((xs.set i x).map .int) → Ends p e s below R Q T' (mkF m pc' ls st)) : Ends p e s below R Q T (mkF m pc ls (.int x :: .int j :: .ref a :: st)) := by
  subst hp
  have A' := A
  obtain ⟨cl, Ar, hs, hl⟩ := A
  have hz : cl.slots.size = xs.length := by rw [← Array.length_toList, hs, List.length_map]
  obtain ⟨T', h', X', e', W', q⟩ := stI X k.1 k.2.1 e0 Ar (j := j) (x := x) (inb hj (hz ▸ hi)) (g := mkF m pc ls (.int x :: .int j :: .ref a :: st)) rfl rfl (hb k.2.2.1 hd)
  rw [tnc hj] at X' W'
  exact (g T' h' X' e' W' (by rw [List.map_set]; exact A'.same W')).map q
theorem bastore (k : K p s m meth c Z y cd ml ret) (X : Stand p l e R s m args below meth c T locs cells slots) {xs : List Int32} {a : Addr} {j x : Int32} (hd : decode cd pc = .ok (.bastore, 1)) (e0 : T.heap = h) (A : Arl Z h a .byte (xs.map .int)) (i : Nat) (hj : j.toInt = i) (hi : i < xs.length) (x' : Int32) (hx' : x.toInt8.toInt32 = x') (pc' : Nat) (hp : pc + 1 = pc')
    (g : ∀ (T' : State) (h' : Heap), Stand p l e R s m args below meth c T' (locs ++ [⟨a, i⟩]) cells slots → T'.heap = h' → Wr h h' a i (.int x') → Arl Z h' a .byte ((xs.set i x').map .int) → Ends p e s below R Q T' (mkF m pc' ls st)) : Ends p e s below R Q T (mkF m pc ls (.int x :: .int j :: .ref a :: st)) := by
  subst hp hx'
  have A' := A
  obtain ⟨cl, Ar, hs, hl⟩ := A
  have hz : cl.slots.size = xs.length := by rw [← Array.length_toList, hs, List.length_map]
  obtain ⟨T', h', X', e', W', q⟩ := stB X k.1 k.2.1 e0 Ar (j := j) (x := x) (inb hj (hz ▸ hi)) (g := mkF m pc ls (.int x :: .int j :: .ref a :: st)) rfl rfl (hb k.2.2.1 hd)
  rw [tnc hj] at X' W'
  exact (g T' h' X' e' W' (by rw [List.map_set]; exact A'.same W')).map q
theorem newarray (k : K p s m meth c Z y cd ml ret) (X : Stand p l e R s m args below meth c T locs cells slots) {aty : ArrayType} {n : Int32} (hd : decode cd pc = .ok (.newarray aty, 2)) (wa : (Jvm.Cond.arrayClass (newarray.typeOf aty)).before a0 Z = true) (e0 : T.heap = h) (i : Nat) (hn : n.toInt = i) (cap : Nat) (hcap : i ≤ cap) (hb8 : cap * 8 ≤ 536870912) (hc : cells + 1 ≤ R.cells) (hs : slots + cap ≤ R.slots) (pc' : Nat) (hp : pc + 2 = pc')
    (g : ∀ (T' : State) (h' : Heap) (a : Addr), a = h.size → Stand p l e R s m args below meth c T' locs (cells + 1) (slots + cap) → T'.heap = h' → Ext h h' → Arl Z h' a (newarray.typeOf aty) (List.replicate i (defaultValue (newarray.typeOf aty))) → Ends p e s below R Q T' (mkF m pc' ls (.ref a :: st))) : Ends p e s below R Q T (mkF m pc ls (.int n :: st)) := by
  subst hp
  have h0 : ¬ n < 0 := by rw [Int32.lt_iff_toInt_lt]; have e0 : (0 : Int32).toInt = 0 := rfl; omega
  obtain ⟨T', h', cA, X', e', E', A', q⟩ := newP X k.1 k.2.1 wa e0 (g := mkF m pc ls (.int n :: st)) rfl (hb k.2.2.1 hd) rfl h0 (cap := cap) (by rw [tnc hn]; exact hcap) hb8 hc hs
  refine (g T' h' h.size rfl X' e' E' ⟨_, A', ?_, ?_⟩).map q
  · simp [newA, tnc hn]
  · rw [List.length_replicate]; omega
/-! calls, by the callee's contract -/
theorem callS (k : K p s m meth c Z y cd ml ret) (X : Stand p l e R s m args below meth c T locs cells slots) {y' : MethodName} {cd' : ByteArray} {ml' : Nat} {ret' : Option FieldType} {rm' : Room} {Qc : Option Value → Heap → List Loc → Prop} {idx : Nat} {ps : List FieldType} {rt : Option FieldType} (as : List Value) (rest : List Value) (hd : decode cd pc = .ok (.invokestatic idx, 3)) (M : Met l y' cd' ml' ret' rm' as.toArray Z h Qc []) (e0 : T.heap = h)
    (w1 : (Jvm.Cond.methodLink y.cls idx y').before a0 Z = true) (w2 : (Jvm.Cond.static y').before a0 Z = true) (w3 : (Jvm.Cond.initialized y'.cls).before a0 Z = true) (w4 : (Jvm.Cond.code y' cd' ml' ret').before a0 Z = true) (hy : y'.cls ≠ "java/lang/invoke/MethodHandle" ∧ y'.cls ≠ "java/lang/invoke/VarHandle") (hsz : ls.size = ml) (hlen : parseMethodDescriptor y'.desc = some ⟨ps, rt⟩) (hl2 : as.length = ps.length) (hst : st = as.reverse ++ rest)
    (hf : rm'.frames + 1 ≤ R.frames) (hlo : (rest.map fun v => v.category).sum + (ml' + 11) + rm'.locals ≤ R.locals) (hc : cells + rm'.cells ≤ R.cells) (hs : slots + rm'.slots ≤ R.slots) (pc' : Nat) (hp : pc + 3 = pc')
    (g : ∀ (T' : State) (v : Option Value) (L : List Loc), Stand p l e R s m args below meth c T' (locs ++ L) (cells + rm'.cells) (slots + rm'.slots) → Qc v T'.heap L → Ends p e s below R Q T' (mkF m pc' ls (v.toList ++ rest))) : Ends p e s below R Q T (mkF m pc ls st) := by
  subst hp hst
  obtain ⟨v, _, ⟨T', L', c', n'⟩, -, X', ⟨Lc, hQ, q1, q2, q3⟩, q⟩ := Jvm.LawKit.callS X k.1 (y := y') k.2.2.2.2.1 (mvT k.2.1 w1) (mvT k.2.1 w2) (mvT k.2.1 w3) (mvT k.2.1 w4) hy (backOf (W := (rest.map fun v => v.category).sum) M k.2.1 w4 w3 hf hlo) (g := mkF m pc ls (as.reverse ++ rest)) rfl (hsz.trans k.2.2.2.1.symm) (argsL := as) (rest := rest) (lenOf hlen hl2) rfl (by show 2 * 0 + _ ≤ _; rw [Nat.mul_zero, Nat.zero_add]; exact Nat.le_refl _) (hb k.2.2.1 hd) (fun _ _ => ⟨rfl, e0, hc, hs⟩)
  dsimp only [Pt.U, Pt.locs, Pt.cells, Pt.slots] at X' q1 q2 q3 q hQ
  subst q1 q2 q3
  exact (g T' v Lc X' hQ).map q
theorem callI (k : K p s m meth c Z y cd ml ret) (X : Stand p l e R s m args below meth c T locs cells slots) {y' : MethodName} {cd' : ByteArray} {ml' : Nat} {rm' : Room} {Qc : Option Value → Heap → List Loc → Prop} {idx : Nat} {ps : List FieldType} {rt : Option FieldType} {a : Addr} (as : List Value) (rest : List Value) (hd : decode cd pc = .ok (.invokespecial idx, 3)) (M : Met l y' cd' ml' none rm' (.ref a :: as).toArray Z h Qc []) (e0 : T.heap = h) (hin : y'.name = "<init>")
    (w1 : (Jvm.Cond.methodLink y.cls idx y').before a0 Z = true) (w2 : (Jvm.Cond.instanceMethod y').before a0 Z = true) (w3 : (Jvm.Cond.initialized y'.cls).before a0 Z = true) (w4 : (Jvm.Cond.code y' cd' ml' none).before a0 Z = true) (hy : y'.cls ≠ "java/lang/invoke/MethodHandle" ∧ y'.cls ≠ "java/lang/invoke/VarHandle") (hsz : ls.size = ml) (hlen : parseMethodDescriptor y'.desc = some ⟨ps, rt⟩) (hl2 : as.length = ps.length) (hst : st = as.reverse ++ .ref a :: rest)
    (hf : rm'.frames + 1 ≤ R.frames) (hlo : (rest.map fun v => v.category).sum + (ml' + 11) + rm'.locals ≤ R.locals) (hc : cells + rm'.cells ≤ R.cells) (hs : slots + rm'.slots ≤ R.slots) (pc' : Nat) (hp : pc + 3 = pc')
    (g : ∀ (T' : State) (v : Option Value) (L : List Loc), Stand p l e R s m args below meth c T' (locs ++ L) (cells + rm'.cells) (slots + rm'.slots) → Qc v T'.heap L → Ends p e s below R Q T' (mkF m pc' ls (v.toList ++ rest))) : Ends p e s below R Q T (mkF m pc ls st) := by
  subst hp hst
  obtain ⟨v, _, ⟨T', L', c', n'⟩, -, X', ⟨Lc, hQ, q1, q2, q3⟩, q⟩ := X.specialBack k.1 (y := y') hin k.2.2.2.2.1 (mvT k.2.1 w1) (mvT k.2.1 w2) (mvT k.2.1 w4) hy (backOf (W := (rest.map fun v => v.category).sum) M k.2.1 w4 w3 hf hlo) (g := mkF m pc ls (as.reverse ++ .ref a :: rest)) rfl (hsz.trans k.2.2.2.1.symm) (Steps.refl _) (a := a) (argsL := as) (rest := rest) (lenOf hlen hl2) rfl (by show 2 * 0 + _ ≤ _; rw [Nat.mul_zero, Nat.zero_add]; exact Nat.le_refl _) (hb k.2.2.1 hd) (fun _ _ => ⟨rfl, e0, hc, hs⟩)
  dsimp only [Pt.U, Pt.locs, Pt.cells, Pt.slots] at X' q1 q2 q3 q hQ
  subst q1 q2 q3
  exact (g T' v Lc X' hQ).map fun _ r => q.trans r
theorem callV (k : K p s m meth c Z y cd ml ret) (X : Stand p l e R s m args below meth c T locs cells slots) {y' : MethodName} {cd' : ByteArray} {ml' : Nat} {ret' : Option FieldType} {rm' : Room} {Qc : Option Value → Heap → List Loc → Prop} {idx : Nat} {ps : List FieldType} {rt : Option FieldType} {a : Addr} (as : List Value) (rest : List Value) (hd : decode cd pc = .ok (.invokevirtual idx, 3)) (M : Met l y' cd' ml' ret' rm' (.ref a :: as).toArray Z h Qc []) (e0 : T.heap = h) (E : Exa Z h a y'.cls)
    (w1 : (Jvm.Cond.methodLink y.cls idx y').before a0 Z = true) (w0 : (Jvm.Cond.declares y').before a0 Z = true) (ws : (Jvm.Cond.selects y'.cls y' y').before a0 Z = true) (w2 : (Jvm.Cond.instanceMethod y').before a0 Z = true) (w3 : (Jvm.Cond.initialized y'.cls).before a0 Z = true) (w4 : (Jvm.Cond.code y' cd' ml' ret').before a0 Z = true) (hy : y'.cls ≠ "java/lang/invoke/MethodHandle" ∧ y'.cls ≠ "java/lang/invoke/VarHandle") (hsz : ls.size = ml) (hlen : parseMethodDescriptor y'.desc = some ⟨ps, rt⟩) (hl2 : as.length = ps.length) (hst : st = as.reverse ++ .ref a :: rest)
    (hf : rm'.frames + 1 ≤ R.frames) (hlo : (rest.map fun v => v.category).sum + (ml' + 11) + rm'.locals ≤ R.locals) (hc : cells + rm'.cells ≤ R.cells) (hs : slots + rm'.slots ≤ R.slots) (pc' : Nat) (hp : pc + 3 = pc')
    (g : ∀ (T' : State) (v : Option Value) (L : List Loc), Stand p l e R s m args below meth c T' (locs ++ L) (cells + rm'.cells) (slots + rm'.slots) → Qc v T'.heap L → Ends p e s below R Q T' (mkF m pc' ls (v.toList ++ rest))) : Ends p e s below R Q T (mkF m pc ls st) := by
  subst hp hst
  obtain ⟨cq, kq, qa, qb, qc⟩ := isOf k.2.1 e0 E
  obtain ⟨v, _, ⟨T', L', c', n'⟩, -, X', ⟨Lc, hQ, q1, q2, q3⟩, q⟩ := X.virtualBack k.1 (y := y') (z := y') k.2.2.2.2.1 (mvT k.2.1 w1) (mvT k.2.1 w0) (notFace_of_selects (args := #[]) (mvT k.2.1 ws)) (mvT k.2.1 ws) (mvT k.2.1 w2) hy (backOf (W := (rest.map fun v => v.category).sum) M k.2.1 w4 w3 hf hlo) qa qc (g := mkF m pc ls (as.reverse ++ .ref a :: rest)) rfl (hsz.trans k.2.2.2.1.symm) (Steps.refl _) (argsL := as) (rest := rest) (lenOf hlen hl2) rfl (by show 2 * 0 + _ ≤ _; rw [Nat.mul_zero, Nat.zero_add]; exact Nat.le_refl _) (hb k.2.2.1 hd) (fun _ _ => ⟨rfl, e0, hc, hs⟩)
  dsimp only [Pt.U, Pt.locs, Pt.cells, Pt.slots] at X' q1 q2 q3 q hQ
  subst q1 q2 q3
  exact (g T' v Lc X' hQ).map fun _ r => q.trans r
theorem callP (k : K p s m meth c Z y cd ml ret) (X : Stand p l e R s m args below meth c T locs cells slots) {y' : MethodName} {cd' : ByteArray} {ml' : Nat} {ret' : Option FieldType} {rm' : Room} {Qc : Option Value → Heap → List Loc → Prop} {idx : Nat} {ps : List FieldType} {rt : Option FieldType} {a : Addr} {C : String} {ni : Nat} (as : List Value) (rest : List Value) (hd : decode cd pc = .ok (.invokevirtual idx, 3)) (M : Met l y' cd' ml' ret' rm' (.ref a :: as).toArray Z h Qc []) (e0 : T.heap = h) (E : Exa Z h a C)
    (w1 : (Jvm.Cond.methodLink y.cls idx y').before a0 Z = true) (w0 : (Jvm.Cond.privateMethod y').before a0 Z = true) (wi : (Jvm.Cond.instantiable y'.cls ni).before a0 Z = true) (w2 : (Jvm.Cond.instanceMethod y').before a0 Z = true) (w3 : (Jvm.Cond.initialized y'.cls).before a0 Z = true) (w4 : (Jvm.Cond.code y' cd' ml' ret').before a0 Z = true) (hy : y'.cls ≠ "java/lang/invoke/MethodHandle" ∧ y'.cls ≠ "java/lang/invoke/VarHandle") (hsz : ls.size = ml) (hlen : parseMethodDescriptor y'.desc = some ⟨ps, rt⟩) (hl2 : as.length = ps.length) (hst : st = as.reverse ++ .ref a :: rest)
    (hf : rm'.frames + 1 ≤ R.frames) (hlo : (rest.map fun v => v.category).sum + (ml' + 11) + rm'.locals ≤ R.locals) (hc : cells + rm'.cells ≤ R.cells) (hs : slots + rm'.slots ≤ R.slots) (pc' : Nat) (hp : pc + 3 = pc')
    (g : ∀ (T' : State) (v : Option Value) (L : List Loc), Stand p l e R s m args below meth c T' (locs ++ L) (cells + rm'.cells) (slots + rm'.slots) → Qc v T'.heap L → Ends p e s below R Q T' (mkF m pc' ls (v.toList ++ rest))) : Ends p e s below R Q T (mkF m pc ls st) := by
  subst hp hst
  obtain ⟨cq, qa, qb⟩ := E.cell
  obtain ⟨ci, ki, i1, i2, -, i4, -, -⟩ := Cond.instantiable_spec wi
  have ws := Jvm.Stand.selects_self_of_private (args := a0) i1 i2 (Bool.or_eq_false_iff.mp i4).1 (Cond.privateMethod_at w0) w2 hy
  obtain ⟨v, _, ⟨T', L', c', n'⟩, -, X', ⟨Lc, hQ, q1, q2, q3⟩, q⟩ := X.privateBack k.1 (y := y') k.2.2.2.2.1 (mvT k.2.1 w1) (mvT k.2.1 w2) (mvT k.2.1 ws) (Cond.privateMethod_at (mvP k.2.1 w0 (args := #[]))) (mvT k.2.1 w4) hy (backOf (W := (rest.map fun v => v.category).sum) M k.2.1 w4 w3 hf hlo) (g := mkF m pc ls (as.reverse ++ .ref a :: rest)) rfl (hsz.trans k.2.2.2.1.symm) (Steps.refl _) (a := a) (by rw [e0]; exact qa) qb (argsL := as) (rest := rest) (lenOf hlen hl2) rfl (by show 2 * 0 + _ ≤ _; rw [Nat.mul_zero, Nat.zero_add]; exact Nat.le_refl _) (hb k.2.2.1 hd) (fun _ _ => ⟨rfl, e0, hc, hs⟩)
  dsimp only [Pt.U, Pt.locs, Pt.cells, Pt.slots] at X' q1 q2 q3 q hQ
  subst q1 q2 q3
  exact (g T' v Lc X' hQ).map fun _ r => q.trans r
end
end Wk

/-! own_: the lowest bit, the two walks over the tree, and what they count -/
def own_low (i : Nat) : Nat := if i % 2 = 1 then 1 else if i % 4 = 2 then 2 else if i % 8 = 4 then 4 else if i % 16 = 8 then 8 else if i % 32 = 16 then 16 else 32
theorem own_low_pos (i : Nat) : 1 ≤ own_low i := by unfold own_low; repeat' split
                                                    all_goals decide
theorem own_low_le (i : Nat) : own_low i ≤ 32 := by unfold own_low; repeat' split
                                                    all_goals decide
theorem own_upF : ∀ i : Fin 64, Int32.ofNat i.val + (Int32.ofNat i.val &&& -Int32.ofNat i.val) = Int32.ofNat (i.val + own_low i.val) ∨ i.val = 0 := by decide +kernel
theorem own_up {i : Nat} (h : i < 64) (h1 : 1 ≤ i) : Int32.ofNat i + (Int32.ofNat i &&& -Int32.ofNat i) = Int32.ofNat (i + own_low i) := (own_upF ⟨i, h⟩).resolve_right (by show ¬ i = 0; omega)
theorem own_dnF : ∀ i : Fin 64, Int32.ofNat i.val - (Int32.ofNat i.val &&& -Int32.ofNat i.val) = Int32.ofNat (i.val - own_low i.val) := by decide +kernel
theorem own_dn {i : Nat} (h : i < 64) : Int32.ofNat i - (Int32.ofNat i &&& -Int32.ofNat i) = Int32.ofNat (i - own_low i) := own_dnF ⟨i, h⟩
theorem own_oN {i : Nat} (h : i < 2147483648) : (Int32.ofNat i).toInt = (i : Int) := Int32.toInt_ofNat_of_lt (by omega)
theorem own_ltN {i n : Nat} (h : i < 2147483648) (h' : n < 2147483648) : Int32.ofNat i < Int32.ofNat n ↔ i < n := by rw [Int32.lt_iff_toInt_lt, own_oN h, own_oN h']; omega
theorem own_gD {xs : List Int32} {i : Nat} (h : i < xs.length) : xs[i]? = some (xs.getD i 0) := by rw [List.getD_eq_getElem?_getD, List.getElem?_eq_getElem h]; rfl
def own_see : Nat → List Int32 → Nat → List Int32
  | 0, xs, _ => xs
  | f + 1, xs, i => if i < xs.length then own_see f (xs.set i (xs.getD i 0 + 1)) (i + own_low i) else xs
def own_sd : Nat → List Int32 → Nat → Int32
  | 0, _, _ => 0
  | f + 1, xs, i => if 0 < i then xs.getD i 0 + own_sd f xs (i - own_low i) else 0
def own_cU : Nat → Nat → Nat → Nat
  | 0, _, _ => 0
  | f + 1, i, j => (if i = j then 1 else 0) + own_cU f (i + own_low i) j
def own_dd : Nat → (Nat → Nat) → Nat → Nat
  | 0, _, _ => 0
  | f + 1, g, i => if 0 < i then g i + own_dd f g (i - own_low i) else 0
theorem own_cU0 : ∀ (f i j : Nat), j < i → own_cU f i j = 0
  | 0, _, _, _ => rfl
  | f + 1, i, j, h => by
    show (if i = j then 1 else 0) + own_cU f (i + own_low i) j = 0
    rw [if_neg (by omega), own_cU0 f _ j (by omega)]
theorem own_see_len : ∀ (f : Nat) (xs : List Int32) (i : Nat), (own_see f xs i).length = xs.length
  | 0, _, _ => rfl
  | f + 1, xs, i => by
    show (if i < xs.length then own_see f (xs.set i (xs.getD i 0 + 1)) (i + own_low i) else xs).length = _
    split
    · rw [own_see_len, List.length_set]
    · rfl
theorem own_see_get : ∀ (f : Nat) (xs : List Int32) (i j : Nat), j < xs.length → (own_see f xs i).getD j 0 = xs.getD j 0 + Int32.ofNat (own_cU f i j)
  | 0, xs, i, j, h => by show xs.getD j 0 = xs.getD j 0 + Int32.ofNat 0; rw [show Int32.ofNat 0 = (0 : Int32) from rfl, Int32.add_zero]
  | f + 1, xs, i, j, h => by
    show (if i < xs.length then own_see f (xs.set i (xs.getD i 0 + 1)) (i + own_low i) else xs).getD j 0 = _
    by_cases q : i < xs.length
    · rw [if_pos q, own_see_get f _ _ j (by rw [List.length_set]; exact h)]
      show _ = xs.getD j 0 + Int32.ofNat ((if i = j then 1 else 0) + own_cU f (i + own_low i) j)
      by_cases r : i = j
      · subst r
        rw [if_pos rfl, List.getD_eq_getElem?_getD, List.getElem?_set_self q, Int32.ofNat_add, ← Int32.add_assoc]; rfl
      · rw [if_neg r, Nat.zero_add, List.getD_eq_getElem?_getD, List.getElem?_set_ne r, ← List.getD_eq_getElem?_getD]
    · rw [if_neg q, own_cU0 (f + 1) i j (by omega), show Int32.ofNat 0 = (0 : Int32) from rfl, Int32.add_zero]
theorem own_sd_add (xs zs : List Int32) (g : Nat → Nat) (n : Nat) (hg : ∀ j, j < n → zs.getD j 0 = xs.getD j 0 + Int32.ofNat (g j)) : ∀ (f i : Nat), i < n → own_sd f zs i = own_sd f xs i + Int32.ofNat (own_dd f g i)
  | 0, _, _ => rfl
  | f + 1, i, h => by
    show (if 0 < i then zs.getD i 0 + own_sd f zs (i - own_low i) else 0) = (if 0 < i then xs.getD i 0 + own_sd f xs (i - own_low i) else 0) + Int32.ofNat (if 0 < i then g i + own_dd f g (i - own_low i) else 0)
    by_cases q : 0 < i
    · rw [if_pos q, if_pos q, if_pos q, hg i h, own_sd_add xs zs g n hg f _ (by omega), Int32.ofNat_add]
      simp only [Int32.add_assoc]
      congr 1
      simp only [← Int32.add_assoc]
      congr 1
      exact Int32.add_comm _ _
    · rw [if_neg q, if_neg q, if_neg q]; rfl
theorem own_sd0 (n : Nat) : ∀ (f i : Nat), own_sd f (List.replicate n 0) i = 0
  | 0, _ => rfl
  | f + 1, i => by
    show (if 0 < i then (List.replicate n (0 : Int32)).getD i 0 + own_sd f (List.replicate n 0) (i - own_low i) else 0) = 0
    split
    · rw [own_sd0 n f, Int32.add_zero, List.getD_eq_getElem?_getD, List.getElem?_replicate]; split <;> rfl
    · rfl
theorem own_fin : ∀ P R : Fin 34, own_dd 34 (own_cU 34 P.val) R.val = (if P.val ≤ R.val then 1 else 0) ∨ P.val = 0 ∨ P.val = 33 ∨ R.val = 33 := by decide +kernel
theorem own_one {P R : Nat} (hP : 1 ≤ P) (hP2 : P ≤ 32) (hR : R ≤ 32) : own_dd 34 (own_cU 34 P) R = if P ≤ R then 1 else 0 := by
  rcases own_fin ⟨P, by omega⟩ ⟨R, by omega⟩ with h | h | h | h
  · exact h
  · exact absurd h (by show ¬ P = 0; omega)
  · exact absurd h (by show ¬ P = 33; omega)
  · exact absurd h (by show ¬ R = 33; omega)
theorem own_cnt {N A B D R : Nat} (hN : N ≤ 32) (hA : A < N) (hB : B < N) (hD : D < N) (hR : R ≤ N) :
    own_sd 34 (own_see 34 (own_see 34 (own_see 34 (List.replicate (N + 1) 0) (A + 1)) (B + 1)) (D + 1)) R = ((Int32.ofNat (if A + 1 ≤ R then 1 else 0)) + (Int32.ofNat (if B + 1 ≤ R then 1 else 0))) + (Int32.ofNat (if D + 1 ≤ R then 1 else 0)) := by
  have l0 : (List.replicate (N + 1) (0 : Int32)).length = N + 1 := List.length_replicate
  have l1 := own_see_len 34 (List.replicate (N + 1) 0) (A + 1)
  have l2 := own_see_len 34 (own_see 34 (List.replicate (N + 1) 0) (A + 1)) (B + 1)
  rw [own_sd_add _ _ _ (N + 1) (fun j hj => own_see_get 34 _ (D + 1) j (by omega)) 34 R (by omega),
    own_sd_add _ _ _ (N + 1) (fun j hj => own_see_get 34 _ (B + 1) j (by omega)) 34 R (by omega),
    own_sd_add _ _ _ (N + 1) (fun j hj => own_see_get 34 _ (A + 1) j (by omega)) 34 R (by omega), own_sd0,
    own_one (by omega) (by omega) (by omega), own_one (by omega) (by omega) (by omega), own_one (by omega) (by omega) (by omega), Int32.zero_add]
theorem own_le {p r : Int32} {A R : Nat} (hp : p.toInt = (A : Int)) (hr : r.toInt = (R : Int) - 1) : (if r < p then (0 : Int32) else 1) = Int32.ofNat (if A + 1 ≤ R then 1 else 0) := by
  by_cases q : r < p
  · rw [if_pos q]; rw [Int32.lt_iff_toInt_lt] at q; rw [if_neg (by omega)]; rfl
  · rw [if_neg q]; rw [Int32.lt_iff_toInt_lt] at q; rw [if_pos (by omega)]; rfl
theorem own_suc {p : Int32} {A : Int} {i : Nat} (hp : p.toInt = A) (hi : A + 1 = (i : Int)) (h : i < 1000) : p + (1 : Int32) = Int32.ofNat i := by
  apply Int32.toInt_inj.mp
  rw [own_oN (by omega)]
  have q := c_iadd p 1
  have r := rng32 (p + 1)
  have t : (1 : Int32).toInt = 1 := rfl
  omega
theorem own_rem (x n : Int32) {N : Nat} (hn : n.toInt = (N : Int)) (h1 : 1 ≤ N) : ∃ A : Nat, A < N ∧ ((x &&& (2147483647 : Int32)) % n).toInt = (A : Int) := by
  have h2 := c_mask x 2147483647 31 (by decide) (by decide)
  have h3 := (c_irem (x &&& (2147483647 : Int32)) n N hn).1 (by omega)
  refine ⟨((x &&& (2147483647 : Int32)) % n).toInt.toNat, ?_, ?_⟩
  · have := Int.emod_lt_of_pos (x &&& (2147483647 : Int32)).toInt (show (0 : Int) < N by omega)
    have := Int.emod_nonneg (x &&& (2147483647 : Int32)).toInt (show (N : Int) ≠ 0 by omega)
    omega
  · have := Int.emod_nonneg (x &&& (2147483647 : Int32)).toInt (show (N : Int) ≠ 0 by omega)
    omega
theorem own_remR (x n : Int32) {N : Nat} (hn : n.toInt = (N : Int)) (h1 : 1 ≤ N) (h2 : N ≤ 32) : ∃ R : Nat, R ≤ N ∧ ((x &&& (2147483647 : Int32)) % (n + (1 : Int32)) - (1 : Int32)).toInt = (R : Int) - 1 := by
  have q := c_iadd n 1
  have r := rng32 (n + 1)
  have t : (1 : Int32).toInt = 1 := rfl
  obtain ⟨A, hA, hA2⟩ := own_rem x (n + 1) (N := N + 1) (by omega) (by omega)
  have q2 := c_isub ((x &&& (2147483647 : Int32)) % (n + (1 : Int32))) 1
  have r2 := rng32 ((x &&& (2147483647 : Int32)) % (n + (1 : Int32)) - 1)
  exact ⟨A, by omega, by omega⟩
theorem d_FenwickTree_init_0 : decode prog_64_method_1_code 0 = .ok (.aload_n 0, 1) := by decide +kernel
theorem d_FenwickTree_init_1 : decode prog_64_method_1_code 1 = .ok (.invokespecial 1, 3) := by decide +kernel
theorem d_FenwickTree_init_4 : decode prog_64_method_1_code 4 = .ok (.aload_n 0, 1) := by decide +kernel
theorem d_FenwickTree_init_5 : decode prog_64_method_1_code 5 = .ok (.iload_n 1, 1) := by decide +kernel
theorem d_FenwickTree_init_6 : decode prog_64_method_1_code 6 = .ok (.iconst 1, 1) := by decide +kernel
theorem d_FenwickTree_init_7 : decode prog_64_method_1_code 7 = .ok (.iadd, 1) := by decide +kernel
theorem d_FenwickTree_init_8 : decode prog_64_method_1_code 8 = .ok (.newarray .int, 2) := by decide +kernel
theorem d_FenwickTree_init_10 : decode prog_64_method_1_code 10 = .ok (.putfield 7, 3) := by decide +kernel
theorem d_FenwickTree_init_13 : decode prog_64_method_1_code 13 = .ok (.return_, 1) := by decide +kernel
theorem pn_FenwickTree_init : plainFor (⟨"com/example/lean_layout/leanlayout/layered/FenwickTree", "<init>", "(I)V"⟩ : MethodName) = true := plainFor_of_name (by first | (simp [plainName, overriddenIn, x]; done) | decide +kernel)
theorem pd_FenwickTree_init : parseMethodDescriptor "(I)V" = some ⟨[.int], none⟩ := by decide +kernel
theorem ef_ini (m : MethodId) (o : Addr) (n : Int32) : entryFrame m #[(.ref o), (.int n)] 2 = mkF m 0 #[.val (.ref o), .val (.int n)] [] := by first | (simp [entryFrame, mkF, argsToLocals, Value.category]; done) | rfl
set_option maxRecDepth 65536 in
set_option maxHeartbeats 40000000 in
theorem rm_ini (l : Launch) (Z : State) (a0 : Array Value) (hw : ∀ d ∈ tables_1, d.before a0 Z = true) (o : Addr) (n : Int32) (N : Nat) (u1 : Value) (h0 : Heap) (n0 : Nat) (Z0 : n0 ≤ h0.size) (E0 : Exa Z h0 o "com/example/lean_layout/leanlayout/layered/FenwickTree") (F0 : Fld Z h0 o "com/example/lean_layout/leanlayout/layered/FenwickTree" "tree" "[I" u1) (g0 : n0 ≤ o) (hN : N ≤ 32) (hsz : (n + (1 : Int32)).toInt = ((N + 1 : Nat) : Int)) : Wk.Met l (⟨"com/example/lean_layout/leanlayout/layered/FenwickTree", "<init>", "(I)V"⟩ : MethodName) prog_64_method_1_code 2 none ({ frames := 1, cells := 1, slots := 33, locals := 12 } : Room) #[(.ref o), (.int n)] Z h0 (fun r h L => r = none ∧ Fr n0 L ∧ Keep h0 h [o] ∧ Exa Z h o "com/example/lean_layout/leanlayout/layered/FenwickTree" ∧ ∃ t : Addr, n0 ≤ t ∧ o ≠ t ∧ Fld Z h o "com/example/lean_layout/leanlayout/layered/FenwickTree" "tree" "[I" (.ref t) ∧ Wk.Arl Z h t .int ((List.replicate (N + 1) (0 : Int32)).map Value.int)) [] := by
  refine Wk.enter pn_FenwickTree_init (fun p e s m below meth c T0 k X0 e0 => ?_)
  refine (Wk.Ends.cast (ef_ini m o n) ?_)
  have N0 := Fr.nil n0
  refine Wk.aload_n k X0 d_FenwickTree_init_0 rfl rfl 1 rfl ?_
  refine Wk.initObj (W := 0) k X0 d_FenwickTree_init_1 (Wk.w hw 7 rfl) (Wk.w hw 8 rfl) (Wk.w hw 9 rfl) e0 rfl (Nat.le_of_ble_eq_true rfl) (Nat.le_of_ble_eq_true rfl) 4 rfl fun T1 X1 e1 => ?_
  refine Wk.aload_n k X1 d_FenwickTree_init_4 rfl rfl 5 rfl ?_
  refine Wk.iload_n k X1 d_FenwickTree_init_5 rfl 6 rfl ?_
  refine Wk.iconst k X1 d_FenwickTree_init_6 (1 : Int32) rfl 7 rfl ?_
  refine Wk.iadd k X1 d_FenwickTree_init_7 8 rfl ?_
  refine Wk.newarray k X1 d_FenwickTree_init_8 (Wk.w hw 10 rfl) e1 (N + 1) hsz 33 (by omega) (by decide) (by decide) (by decide) 10 rfl fun T2 h2 t q2 X2 e2 E2 A2 => ?_
  have g2 : n0 ≤ t := by rw [q2]; exact Z0
  have hs3 : h0.size ≤ t := by rw [q2]; exact (Keep.refl h0 [o]).1
  have ne4 : o ≠ t := by rw [q2]; exact Nat.ne_of_lt E0.lt
  have sz2 := Nat.le_trans Z0 E2.1
  have K5 := (Keep.refl h0 [o]).ext E2
  have f6 := Exa.ext E2 E0
  have f7 := Fld.ext E2 F0
  have A2' : Wk.Arl Z h2 t .int (((List.replicate (N + 1) (0 : Int32)) : List Int32).map Value.int) := by rw [List.map_replicate]; exact A2
  refine Wk.putfield k X2 d_FenwickTree_init_10 (host := "") (Or.inl (Wk.w hw 11 rfl)) Via.refl e2 f7 f6 (Or.inr ⟨(Wk.w hw 12 rfl), rfl, rfl⟩) (Wk.w hw 2 rfl) (ty := (.array .int)) (by decide) rfl rfl 13 rfl fun T8 h8 X8 e8 W8 => ?_
  have sz8 : n0 ≤ h8.size := by rw [W8.size]; exact sz2
  have N9 := Fr.snoc X8 N0 g0
  have K10 := K5.wr W8 (Or.inl (List.mem_of_getElem? (i := 0) rfl))
  have f11 := Exa.wr W8 f6
  have f12 := A2'.other W8 (Ne.symm ne4)
  have f13 := Fld.same W8 f7
  refine Wk.ret_void k X8 rfl d_FenwickTree_init_13 (by decide) (by decide) ?_
  rw [e8]
  exact ⟨rfl, N9, K10, f11, t, g2, ne4, f13, f12⟩
theorem d_FenwickTree_see_0 : decode prog_64_method_2_code 0 = .ok (.iload_n 1, 1) := by decide +kernel
theorem d_FenwickTree_see_1 : decode prog_64_method_2_code 1 = .ok (.iconst 1, 1) := by decide +kernel
theorem d_FenwickTree_see_2 : decode prog_64_method_2_code 2 = .ok (.iadd, 1) := by decide +kernel
theorem d_FenwickTree_see_3 : decode prog_64_method_2_code 3 = .ok (.istore_n 2, 1) := by decide +kernel
theorem d_FenwickTree_see_4 : decode prog_64_method_2_code 4 = .ok (.iload_n 2, 1) := by decide +kernel
theorem d_FenwickTree_see_5 : decode prog_64_method_2_code 5 = .ok (.aload_n 0, 1) := by decide +kernel
theorem d_FenwickTree_see_6 : decode prog_64_method_2_code 6 = .ok (.getfield 7, 3) := by decide +kernel
theorem d_FenwickTree_see_9 : decode prog_64_method_2_code 9 = .ok (.arraylength, 1) := by decide +kernel
theorem d_FenwickTree_see_10 : decode prog_64_method_2_code 10 = .ok (.if_icmp .ge 23, 3) := by decide +kernel
theorem d_FenwickTree_see_13 : decode prog_64_method_2_code 13 = .ok (.aload_n 0, 1) := by decide +kernel
theorem d_FenwickTree_see_14 : decode prog_64_method_2_code 14 = .ok (.getfield 7, 3) := by decide +kernel
theorem d_FenwickTree_see_17 : decode prog_64_method_2_code 17 = .ok (.iload_n 2, 1) := by decide +kernel
theorem d_FenwickTree_see_18 : decode prog_64_method_2_code 18 = .ok (.dup2, 1) := by decide +kernel
theorem d_FenwickTree_see_19 : decode prog_64_method_2_code 19 = .ok (.iaload, 1) := by decide +kernel
theorem d_FenwickTree_see_20 : decode prog_64_method_2_code 20 = .ok (.iconst 1, 1) := by decide +kernel
theorem d_FenwickTree_see_21 : decode prog_64_method_2_code 21 = .ok (.iadd, 1) := by decide +kernel
theorem d_FenwickTree_see_22 : decode prog_64_method_2_code 22 = .ok (.iastore, 1) := by decide +kernel
theorem d_FenwickTree_see_23 : decode prog_64_method_2_code 23 = .ok (.iload_n 2, 1) := by decide +kernel
theorem d_FenwickTree_see_24 : decode prog_64_method_2_code 24 = .ok (.iload_n 2, 1) := by decide +kernel
theorem d_FenwickTree_see_25 : decode prog_64_method_2_code 25 = .ok (.iload_n 2, 1) := by decide +kernel
theorem d_FenwickTree_see_26 : decode prog_64_method_2_code 26 = .ok (.ineg, 1) := by decide +kernel
theorem d_FenwickTree_see_27 : decode prog_64_method_2_code 27 = .ok (.iand, 1) := by decide +kernel
theorem d_FenwickTree_see_28 : decode prog_64_method_2_code 28 = .ok (.iadd, 1) := by decide +kernel
theorem d_FenwickTree_see_29 : decode prog_64_method_2_code 29 = .ok (.istore_n 2, 1) := by decide +kernel
theorem d_FenwickTree_see_30 : decode prog_64_method_2_code 30 = .ok (.goto (-26), 3) := by decide +kernel
theorem d_FenwickTree_see_33 : decode prog_64_method_2_code 33 = .ok (.return_, 1) := by decide +kernel
theorem pn_FenwickTree_see : plainFor (⟨"com/example/lean_layout/leanlayout/layered/FenwickTree", "see", "(I)V"⟩ : MethodName) = true := plainFor_of_name (by first | (simp [plainName, overriddenIn, x]; done) | decide +kernel)
theorem pd_FenwickTree_see : parseMethodDescriptor "(I)V" = some ⟨[.int], none⟩ := by decide +kernel
set_option maxRecDepth 65536 in
set_option maxHeartbeats 40000000 in
theorem see_4 {p : Program} {l : Launch} {e : Env} {s : State} {m : MethodId} {args : Array Value} {below : List Frame} {meth : Method} {c : Code} {Z : State} {a0 : Array Value} {h0 : Heap} {n0 : Nat} (hw : ∀ d ∈ tables_1, d.before a0 Z = true) (k : Wk.K p s m meth c Z (⟨"com/example/lean_layout/leanlayout/layered/FenwickTree", "see", "(I)V"⟩ : MethodName) prog_64_method_2_code 3 none) (o t : Addr) (q1 : Int32) (len : Nat) (ys : List Int32) (hne : o ≠ t) (g1 : n0 ≤ t) (hsm : len ≤ 33) :
    ∀ (f i : Nat) (xs : List Int32), own_see f xs i = ys → 34 ≤ i + f → 1 ≤ i → xs.length = len → ∀ (T0 : State) (h1 : Heap) (locs : List Loc), Stand p l e ({ frames := 0, cells := 0, slots := 0, locals := 0 } : Room) s m args below meth c T0 locs 0 0 → T0.heap = h1 → Keep h0 h1 [t] → Fr n0 locs → Exa Z h1 o "com/example/lean_layout/leanlayout/layered/FenwickTree" → Fld Z h1 o "com/example/lean_layout/leanlayout/layered/FenwickTree" "tree" "[I" (.ref t) → Wk.Arl Z h1 t .int (xs.map Value.int) →
      i < 1000 → Wk.Ends p e s below ({ frames := 0, cells := 0, slots := 0, locals := 0 } : Room) (fun r h L => r = none ∧ Fr n0 L ∧ Keep h0 h [t] ∧ Wk.Arl Z h t .int (ys.map Value.int)) T0 (mkF m 4 #[.val (.ref o), .val (.int q1), .val (.int (Int32.ofNat i))] []) := by
  intro f
  induction f with
  | zero =>
    intro i xs hR hf hi1 hlen T0 h1 locs X0 e0 K1 N1 E1 F1 A1 hi2
    have hR : xs = ys := hR
    refine Wk.iload_n k X0 d_FenwickTree_see_4 rfl 5 rfl ?_
    refine Wk.aload_n k X0 d_FenwickTree_see_5 rfl rfl 6 rfl ?_
    refine Wk.getfield k X0 d_FenwickTree_see_6 (host := "") (Or.inl (Wk.w hw 11 rfl)) Via.refl e0 F1 9 rfl fun T101 X101 e101 => ?_
    refine Wk.arraylength k X101 d_FenwickTree_see_9 e101 A1 (Int32.ofNat xs.length) (by rw [List.length_map]; exact own_oN (by omega)) 10 rfl ?_
    refine Wk.icmp_ge k X101 d_FenwickTree_see_10 (by decide) 33 13 (by decide) rfl (fun hc10 => ?_) (fun hc10 => ?_)
    · refine Wk.ret_void k X101 rfl d_FenwickTree_see_33 (by decide) (by decide) ?_
      rw [e101]
      exact ⟨rfl, N1, K1, hR ▸ A1⟩
    · exact absurd ((own_ltN (by omega) (by omega)).mp hc10) (by omega)
  | succ f ih =>
    intro i xs hR hf hi1 hlen T0 h1 locs X0 e0 K1 N1 E1 F1 A1 hi2
    have hR : (if i < xs.length then own_see f (xs.set i (xs.getD i 0 + 1)) (i + own_low i) else xs) = ys := hR
    by_cases hlt : i < xs.length
    · rw [if_pos hlt] at hR
      refine Wk.iload_n k X0 d_FenwickTree_see_4 rfl 5 rfl ?_
      refine Wk.aload_n k X0 d_FenwickTree_see_5 rfl rfl 6 rfl ?_
      refine Wk.getfield k X0 d_FenwickTree_see_6 (host := "") (Or.inl (Wk.w hw 11 rfl)) Via.refl e0 F1 9 rfl fun T101 X101 e101 => ?_
      refine Wk.arraylength k X101 d_FenwickTree_see_9 e101 A1 (Int32.ofNat xs.length) (by rw [List.length_map]; exact own_oN (by omega)) 10 rfl ?_
      refine Wk.icmp_ge k X101 d_FenwickTree_see_10 (by decide) 33 13 (by decide) rfl (fun hc10 => ?_) (fun hc10 => ?_)
      · exact absurd ((own_ltN (by omega) (by omega)).mpr hlt) hc10
      · refine Wk.aload_n k X101 d_FenwickTree_see_13 rfl rfl 14 rfl ?_
        refine Wk.getfield k X101 d_FenwickTree_see_14 (host := "") (Or.inl (Wk.w hw 11 rfl)) Via.refl e101 F1 17 rfl fun T102 X102 e102 => ?_
        refine Wk.iload_n k X102 d_FenwickTree_see_17 rfl 18 rfl ?_
        refine Wk.dup2 k X102 d_FenwickTree_see_18 rfl rfl 19 rfl ?_
        refine Wk.iaload k X102 d_FenwickTree_see_19 e102 A1 i (own_oN (by omega)) (xs.getD i 0) (own_gD hlt) 20 rfl ?_
        refine Wk.iconst k X102 d_FenwickTree_see_20 (1 : Int32) rfl 21 rfl ?_
        refine Wk.iadd k X102 d_FenwickTree_see_21 22 rfl ?_
        refine Wk.iastore k X102 (x := ((xs.getD i 0) + (1 : Int32))) d_FenwickTree_see_22 e102 A1 i (own_oN (by omega)) hlt 23 rfl fun T103 h103 X103 e103 W103 A103 => ?_
        have N104 := Fr.snoc X103 N1 g1
        have K105 := K1.wr W103 (Or.inl (List.mem_of_getElem? (i := 0) rfl))
        have f106 := Fld.other W103 F1 (Or.inl hne)
        have f107 := Exa.wr W103 E1
        refine Wk.iload_n k X103 d_FenwickTree_see_23 rfl 24 rfl ?_
        refine Wk.iload_n k X103 d_FenwickTree_see_24 rfl 25 rfl ?_
        refine Wk.iload_n k X103 d_FenwickTree_see_25 rfl 26 rfl ?_
        refine Wk.ineg k X103 d_FenwickTree_see_26 27 rfl ?_
        refine Wk.iand k X103 d_FenwickTree_see_27 28 rfl ?_
        refine Wk.iadd k X103 d_FenwickTree_see_28 29 rfl ?_
        refine Wk.istore_n k X103 d_FenwickTree_see_29 #[.val (.ref o), .val (.int q1), .val (.int ((Int32.ofNat i) + ((Int32.ofNat i) &&& ((-(Int32.ofNat i))))))] rfl 30 rfl ?_
        refine Wk.goto k X103 d_FenwickTree_see_30 (by decide) 4 (by decide) ?_
        rw [own_up (by omega) hi1]
        exact ih (i + own_low i) _ hR (by have := own_low_pos i; omega) (by omega) (by rw [List.length_set]; exact hlen) _ _ _ X103 e103 K105 N104 f107 f106 A103 (by have := own_low_le i; omega)
    · rw [if_neg hlt] at hR
      refine Wk.iload_n k X0 d_FenwickTree_see_4 rfl 5 rfl ?_
      refine Wk.aload_n k X0 d_FenwickTree_see_5 rfl rfl 6 rfl ?_
      refine Wk.getfield k X0 d_FenwickTree_see_6 (host := "") (Or.inl (Wk.w hw 11 rfl)) Via.refl e0 F1 9 rfl fun T101 X101 e101 => ?_
      refine Wk.arraylength k X101 d_FenwickTree_see_9 e101 A1 (Int32.ofNat xs.length) (by rw [List.length_map]; exact own_oN (by omega)) 10 rfl ?_
      refine Wk.icmp_ge k X101 d_FenwickTree_see_10 (by decide) 33 13 (by decide) rfl (fun hc10 => ?_) (fun hc10 => ?_)
      · refine Wk.ret_void k X101 rfl d_FenwickTree_see_33 (by decide) (by decide) ?_
        rw [e101]
        exact ⟨rfl, N1, K1, hR ▸ A1⟩
      · exact absurd ((own_ltN (by omega) (by omega)).mp hc10) hlt
theorem ef_see (m : MethodId) (o : Addr) (q1 : Int32) : entryFrame m #[(.ref o), (.int q1)] 3 = mkF m 0 #[.val (.ref o), .val (.int q1), .unset] [] := by first | (simp [entryFrame, mkF, argsToLocals, Value.category]; done) | rfl
set_option maxRecDepth 65536 in
set_option maxHeartbeats 40000000 in
theorem rm_see (l : Launch) (Z : State) (a0 : Array Value) (hw : ∀ d ∈ tables_1, d.before a0 Z = true) (o t : Addr) (q1 : Int32) (i : Nat) (xs : List Int32) (h0 : Heap) (n0 : Nat) (hq : q1 + (1 : Int32) = Int32.ofNat i) (hi1 : 1 ≤ i) (hi2 : i ≤ 32) (hsm : xs.length ≤ 33) (hne : o ≠ t) (g1 : n0 ≤ t) (E1 : Exa Z h0 o "com/example/lean_layout/leanlayout/layered/FenwickTree") (F1 : Fld Z h0 o "com/example/lean_layout/leanlayout/layered/FenwickTree" "tree" "[I" (.ref t)) (A1 : Wk.Arl Z h0 t .int (xs.map Value.int)) : Wk.Met l (⟨"com/example/lean_layout/leanlayout/layered/FenwickTree", "see", "(I)V"⟩ : MethodName) prog_64_method_2_code 3 none ({ frames := 0, cells := 0, slots := 0, locals := 0 } : Room) #[(.ref o), (.int q1)] Z h0 (fun r h L => r = none ∧ Fr n0 L ∧ Keep h0 h [t] ∧ Wk.Arl Z h t .int ((own_see 34 xs i).map Value.int)) [] := by
  refine Wk.enter pn_FenwickTree_see (fun p e s m below meth c T0 k X0 e0 => ?_)
  refine (Wk.Ends.cast (ef_see m o q1) ?_)
  refine Wk.iload_n k X0 d_FenwickTree_see_0 rfl 1 rfl ?_
  refine Wk.iconst k X0 d_FenwickTree_see_1 (1 : Int32) rfl 2 rfl ?_
  refine Wk.iadd k X0 d_FenwickTree_see_2 3 rfl ?_
  refine Wk.istore_n k X0 d_FenwickTree_see_3 #[.val (.ref o), .val (.int q1), .val (.int (q1 + (1 : Int32)))] rfl 4 rfl ?_
  rw [hq]
  exact see_4 hw k o t q1 xs.length _ hne g1 hsm 34 i xs rfl (by omega) hi1 rfl _ _ _ X0 e0 (Keep.refl _ _) (Fr.nil _) E1 F1 A1 (by omega)
theorem d_FenwickTree_seenUpTo_0 : decode prog_64_method_3_code 0 = .ok (.iconst 0, 1) := by decide +kernel
theorem d_FenwickTree_seenUpTo_1 : decode prog_64_method_3_code 1 = .ok (.istore_n 2, 1) := by decide +kernel
theorem d_FenwickTree_seenUpTo_2 : decode prog_64_method_3_code 2 = .ok (.iload_n 1, 1) := by decide +kernel
theorem d_FenwickTree_seenUpTo_3 : decode prog_64_method_3_code 3 = .ok (.iconst 1, 1) := by decide +kernel
theorem d_FenwickTree_seenUpTo_4 : decode prog_64_method_3_code 4 = .ok (.iadd, 1) := by decide +kernel
theorem d_FenwickTree_seenUpTo_5 : decode prog_64_method_3_code 5 = .ok (.istore_n 3, 1) := by decide +kernel
theorem d_FenwickTree_seenUpTo_6 : decode prog_64_method_3_code 6 = .ok (.iload_n 3, 1) := by decide +kernel
theorem d_FenwickTree_seenUpTo_7 : decode prog_64_method_3_code 7 = .ok (.ifCond .le 22, 3) := by decide +kernel
theorem d_FenwickTree_seenUpTo_10 : decode prog_64_method_3_code 10 = .ok (.iload_n 2, 1) := by decide +kernel
theorem d_FenwickTree_seenUpTo_11 : decode prog_64_method_3_code 11 = .ok (.aload_n 0, 1) := by decide +kernel
theorem d_FenwickTree_seenUpTo_12 : decode prog_64_method_3_code 12 = .ok (.getfield 7, 3) := by decide +kernel
theorem d_FenwickTree_seenUpTo_15 : decode prog_64_method_3_code 15 = .ok (.iload_n 3, 1) := by decide +kernel
theorem d_FenwickTree_seenUpTo_16 : decode prog_64_method_3_code 16 = .ok (.iaload, 1) := by decide +kernel
theorem d_FenwickTree_seenUpTo_17 : decode prog_64_method_3_code 17 = .ok (.iadd, 1) := by decide +kernel
theorem d_FenwickTree_seenUpTo_18 : decode prog_64_method_3_code 18 = .ok (.istore_n 2, 1) := by decide +kernel
theorem d_FenwickTree_seenUpTo_19 : decode prog_64_method_3_code 19 = .ok (.iload_n 3, 1) := by decide +kernel
theorem d_FenwickTree_seenUpTo_20 : decode prog_64_method_3_code 20 = .ok (.iload_n 3, 1) := by decide +kernel
theorem d_FenwickTree_seenUpTo_21 : decode prog_64_method_3_code 21 = .ok (.iload_n 3, 1) := by decide +kernel
theorem d_FenwickTree_seenUpTo_22 : decode prog_64_method_3_code 22 = .ok (.ineg, 1) := by decide +kernel
theorem d_FenwickTree_seenUpTo_23 : decode prog_64_method_3_code 23 = .ok (.iand, 1) := by decide +kernel
theorem d_FenwickTree_seenUpTo_24 : decode prog_64_method_3_code 24 = .ok (.isub, 1) := by decide +kernel
theorem d_FenwickTree_seenUpTo_25 : decode prog_64_method_3_code 25 = .ok (.istore_n 3, 1) := by decide +kernel
theorem d_FenwickTree_seenUpTo_26 : decode prog_64_method_3_code 26 = .ok (.goto (-20), 3) := by decide +kernel
theorem d_FenwickTree_seenUpTo_29 : decode prog_64_method_3_code 29 = .ok (.iload_n 2, 1) := by decide +kernel
theorem d_FenwickTree_seenUpTo_30 : decode prog_64_method_3_code 30 = .ok (.ireturn, 1) := by decide +kernel
theorem pn_FenwickTree_seenUpTo : plainFor (⟨"com/example/lean_layout/leanlayout/layered/FenwickTree", "seenUpTo", "(I)I"⟩ : MethodName) = true := plainFor_of_name (by first | (simp [plainName, overriddenIn, x]; done) | decide +kernel)
theorem pd_FenwickTree_seenUpTo : parseMethodDescriptor "(I)I" = some ⟨[.int], (some .int)⟩ := by decide +kernel
set_option maxRecDepth 65536 in
set_option maxHeartbeats 40000000 in
theorem sum_6 {p : Program} {l : Launch} {e : Env} {s : State} {m : MethodId} {args : Array Value} {below : List Frame} {meth : Method} {c : Code} {Z : State} {a0 : Array Value} {h0 : Heap} (hw : ∀ d ∈ tables_1, d.before a0 Z = true) (k : Wk.K p s m meth c Z (⟨"com/example/lean_layout/leanlayout/layered/FenwickTree", "seenUpTo", "(I)I"⟩ : MethodName) prog_64_method_3_code 4 (some .int)) (o t : Addr) (q1 : Int32) (xs : List Int32) (R0 : Int32) (hsm : xs.length ≤ 33) (F1 : Fld Z h0 o "com/example/lean_layout/leanlayout/layered/FenwickTree" "tree" "[I" (.ref t)) (A1 : Wk.Arl Z h0 t .int (xs.map Value.int)) :
    ∀ (f i : Nat) (sm : Int32), sm + own_sd f xs i = R0 → i ≤ f → i < xs.length → ∀ (T0 : State), Stand p l e ({ frames := 0, cells := 0, slots := 0, locals := 0 } : Room) s m args below meth c T0 [] 0 0 → T0.heap = h0 → Wk.Ends p e s below ({ frames := 0, cells := 0, slots := 0, locals := 0 } : Room) (fun r h L => r = some (.int R0) ∧ h = h0 ∧ L = []) T0 (mkF m 6 #[.val (.ref o), .val (.int q1), .val (.int sm), .val (.int (Int32.ofNat i))] []) := by
  intro f
  induction f with
  | zero =>
    intro i sm hR hf hi T0 X0 e0
    have hR : sm + 0 = R0 := hR
    refine Wk.iload_n k X0 d_FenwickTree_seenUpTo_6 rfl 7 rfl ?_
    refine Wk.if_le k X0 d_FenwickTree_seenUpTo_7 (by decide) 29 10 (by decide) rfl (fun hc7 => ?_) (fun hc7 => ?_)
    · refine Wk.iload_n k X0 d_FenwickTree_seenUpTo_29 rfl 30 rfl ?_
      exact Wk.ret_int k X0 rfl d_FenwickTree_seenUpTo_30 (by decide) (by decide) ⟨by rw [← hR, Int32.add_zero], e0, rfl⟩
    · exact absurd (show (Int32.ofNat 0) < Int32.ofNat i from hc7) (by rw [own_ltN (by omega) (by omega)]; omega)
  | succ f ih =>
    intro i sm hR hf hi T0 X0 e0
    have hR : sm + (if 0 < i then xs.getD i 0 + own_sd f xs (i - own_low i) else 0) = R0 := hR
    by_cases hlt : 0 < i
    · rw [if_pos hlt] at hR
      refine Wk.iload_n k X0 d_FenwickTree_seenUpTo_6 rfl 7 rfl ?_
      refine Wk.if_le k X0 d_FenwickTree_seenUpTo_7 (by decide) 29 10 (by decide) rfl (fun hc7 => ?_) (fun hc7 => ?_)
      · exact absurd (show (Int32.ofNat 0) < Int32.ofNat i from (own_ltN (by omega) (by omega)).mpr hlt) hc7
      · refine Wk.iload_n k X0 d_FenwickTree_seenUpTo_10 rfl 11 rfl ?_
        refine Wk.aload_n k X0 d_FenwickTree_seenUpTo_11 rfl rfl 12 rfl ?_
        refine Wk.getfield k X0 d_FenwickTree_seenUpTo_12 (host := "") (Or.inl (Wk.w hw 11 rfl)) Via.refl e0 F1 15 rfl fun T101 X101 e101 => ?_
        refine Wk.iload_n k X101 d_FenwickTree_seenUpTo_15 rfl 16 rfl ?_
        refine Wk.iaload k X101 d_FenwickTree_seenUpTo_16 e101 A1 i (own_oN (by omega)) (xs.getD i 0) (own_gD (by omega)) 17 rfl ?_
        refine Wk.iadd k X101 d_FenwickTree_seenUpTo_17 18 rfl ?_
        refine Wk.istore_n k X101 d_FenwickTree_seenUpTo_18 #[.val (.ref o), .val (.int q1), .val (.int (sm + (xs.getD i 0))), .val (.int (Int32.ofNat i))] rfl 19 rfl ?_
        refine Wk.iload_n k X101 d_FenwickTree_seenUpTo_19 rfl 20 rfl ?_
        refine Wk.iload_n k X101 d_FenwickTree_seenUpTo_20 rfl 21 rfl ?_
        refine Wk.iload_n k X101 d_FenwickTree_seenUpTo_21 rfl 22 rfl ?_
        refine Wk.ineg k X101 d_FenwickTree_seenUpTo_22 23 rfl ?_
        refine Wk.iand k X101 d_FenwickTree_seenUpTo_23 24 rfl ?_
        refine Wk.isub k X101 d_FenwickTree_seenUpTo_24 25 rfl ?_
        refine Wk.istore_n k X101 d_FenwickTree_seenUpTo_25 #[.val (.ref o), .val (.int q1), .val (.int (sm + (xs.getD i 0))), .val (.int ((Int32.ofNat i) - ((Int32.ofNat i) &&& ((-(Int32.ofNat i))))))] rfl 26 rfl ?_
        refine Wk.goto k X101 d_FenwickTree_seenUpTo_26 (by decide) 6 (by decide) ?_
        rw [own_dn (by omega)]
        exact ih (i - own_low i) _ (by rw [← hR, Int32.add_assoc]) (by have := own_low_pos i; omega) (by omega) _ X101 e101
    · rw [if_neg hlt] at hR
      refine Wk.iload_n k X0 d_FenwickTree_seenUpTo_6 rfl 7 rfl ?_
      refine Wk.if_le k X0 d_FenwickTree_seenUpTo_7 (by decide) 29 10 (by decide) rfl (fun hc7 => ?_) (fun hc7 => ?_)
      · refine Wk.iload_n k X0 d_FenwickTree_seenUpTo_29 rfl 30 rfl ?_
        exact Wk.ret_int k X0 rfl d_FenwickTree_seenUpTo_30 (by decide) (by decide) ⟨by rw [← hR, Int32.add_zero], e0, rfl⟩
      · exact absurd (show (Int32.ofNat 0) < Int32.ofNat i from hc7) (by rw [own_ltN (by omega) (by omega)]; omega)
theorem ef_sum (m : MethodId) (o : Addr) (q1 : Int32) : entryFrame m #[(.ref o), (.int q1)] 4 = mkF m 0 #[.val (.ref o), .val (.int q1), .unset, .unset] [] := by first | (simp [entryFrame, mkF, argsToLocals, Value.category]; done) | rfl
set_option maxRecDepth 65536 in
set_option maxHeartbeats 40000000 in
theorem rm_sum (l : Launch) (Z : State) (a0 : Array Value) (hw : ∀ d ∈ tables_1, d.before a0 Z = true) (o t : Addr) (q1 : Int32) (i : Nat) (xs : List Int32) (h0 : Heap) (hq : q1 + (1 : Int32) = Int32.ofNat i) (hi : i < xs.length) (hsm : xs.length ≤ 33) (F1 : Fld Z h0 o "com/example/lean_layout/leanlayout/layered/FenwickTree" "tree" "[I" (.ref t)) (A1 : Wk.Arl Z h0 t .int (xs.map Value.int)) : Wk.Met l (⟨"com/example/lean_layout/leanlayout/layered/FenwickTree", "seenUpTo", "(I)I"⟩ : MethodName) prog_64_method_3_code 4 (some .int) ({ frames := 0, cells := 0, slots := 0, locals := 0 } : Room) #[(.ref o), (.int q1)] Z h0 (fun r h L => r = some (.int (own_sd 34 xs i)) ∧ h = h0 ∧ L = []) [] := by
  refine Wk.enter pn_FenwickTree_seenUpTo (fun p e s m below meth c T0 k X0 e0 => ?_)
  refine (Wk.Ends.cast (ef_sum m o q1) ?_)
  refine Wk.iconst k X0 d_FenwickTree_seenUpTo_0 (0 : Int32) rfl 1 rfl ?_
  refine Wk.istore_n k X0 d_FenwickTree_seenUpTo_1 #[.val (.ref o), .val (.int q1), .val (.int (0 : Int32)), .unset] rfl 2 rfl ?_
  refine Wk.iload_n k X0 d_FenwickTree_seenUpTo_2 rfl 3 rfl ?_
  refine Wk.iconst k X0 d_FenwickTree_seenUpTo_3 (1 : Int32) rfl 4 rfl ?_
  refine Wk.iadd k X0 d_FenwickTree_seenUpTo_4 5 rfl ?_
  refine Wk.istore_n k X0 d_FenwickTree_seenUpTo_5 #[.val (.ref o), .val (.int q1), .val (.int (0 : Int32)), .val (.int (q1 + (1 : Int32)))] rfl 6 rfl ?_
  rw [hq]
  exact sum_6 hw k o t q1 xs _ hsm F1 A1 34 i 0 (Int32.zero_add _) (by omega) hi _ X0 e0
theorem d_FenwickTreeSeePinLaw_le_0 : decode method_2_code 0 = .ok (.iload_n 0, 1) := by decide +kernel
theorem d_FenwickTreeSeePinLaw_le_1 : decode method_2_code 1 = .ok (.iload_n 1, 1) := by decide +kernel
theorem d_FenwickTreeSeePinLaw_le_2 : decode method_2_code 2 = .ok (.if_icmp .gt 5, 3) := by decide +kernel
theorem d_FenwickTreeSeePinLaw_le_5 : decode method_2_code 5 = .ok (.iconst 1, 1) := by decide +kernel
theorem d_FenwickTreeSeePinLaw_le_6 : decode method_2_code 6 = .ok (.ireturn, 1) := by decide +kernel
theorem d_FenwickTreeSeePinLaw_le_7 : decode method_2_code 7 = .ok (.iconst 0, 1) := by decide +kernel
theorem d_FenwickTreeSeePinLaw_le_8 : decode method_2_code 8 = .ok (.ireturn, 1) := by decide +kernel
theorem pn_FenwickTreeSeePinLaw_le : plainFor (⟨"com/example/lean_layout/leanlayout/layered/FenwickTreeSeePinLaw", "le", "(II)I"⟩ : MethodName) = true := plainFor_of_name (by first | (simp [plainName, overriddenIn, x]; done) | decide +kernel)
theorem pd_FenwickTreeSeePinLaw_le : parseMethodDescriptor "(II)I" = some ⟨[.int, .int], (some .int)⟩ := by decide +kernel
theorem ef_le (m : MethodId) (q1 q2 : Int32) : entryFrame m #[(.int q1), (.int q2)] 2 = mkF m 0 #[.val (.int q1), .val (.int q2)] [] := by first | (simp [entryFrame, mkF, argsToLocals, Value.category]; done) | rfl
set_option maxRecDepth 65536 in
set_option maxHeartbeats 40000000 in
theorem rm_le (l : Launch) (Z : State) (a0 : Array Value) (hw : ∀ d ∈ tables_1, d.before a0 Z = true) (q1 q2 : Int32) (h0 : Heap) : Wk.Met l (⟨"com/example/lean_layout/leanlayout/layered/FenwickTreeSeePinLaw", "le", "(II)I"⟩ : MethodName) method_2_code 2 (some .int) ({ frames := 0, cells := 0, slots := 0, locals := 0 } : Room) #[(.int q1), (.int q2)] Z h0 (fun r h L => r = some (.int (if q2 < q1 then (0 : Int32) else 1)) ∧ h = h0 ∧ L = []) [] := by
  refine Wk.enter pn_FenwickTreeSeePinLaw_le (fun p e s m below meth c T0 k X0 e0 => ?_)
  refine (Wk.Ends.cast (ef_le m q1 q2) ?_)
  refine Wk.iload_n k X0 d_FenwickTreeSeePinLaw_le_0 rfl 1 rfl ?_
  refine Wk.iload_n k X0 d_FenwickTreeSeePinLaw_le_1 rfl 2 rfl ?_
  refine Wk.icmp_gt k X0 d_FenwickTreeSeePinLaw_le_2 (by decide) 7 5 (by decide) rfl (fun hc2 => ?_) (fun hc2 => ?_)
  · refine Wk.iconst k X0 d_FenwickTreeSeePinLaw_le_7 (0 : Int32) rfl 8 rfl ?_
    exact Wk.ret_int k X0 rfl d_FenwickTreeSeePinLaw_le_8 (by decide) (by decide) ⟨by simp [hc2], e0, rfl⟩
  · refine Wk.iconst k X0 d_FenwickTreeSeePinLaw_le_5 (1 : Int32) rfl 6 rfl ?_
    exact Wk.ret_int k X0 rfl d_FenwickTreeSeePinLaw_le_6 (by decide) (by decide) ⟨by simp [hc2], e0, rfl⟩
theorem pn_FenwickTreeSeePinLaw_law : plainFor x = true := plainFor_of_name (by first | (simp [plainName, overriddenIn, x]; done) | decide +kernel)
set_option maxRecDepth 65536 in
set_option maxHeartbeats 40000000 in
theorem law_63 {p : Program} {l : Launch} {e : Env} {s : State} {m : MethodId} {args : Array Value} {below : List Frame} {meth : Method} {c : Code} {Z : State} {a0 : Array Value} {h0 : Heap} {n0 : Nat} {T0 : State} (hw : ∀ d ∈ tables_1, d.before a0 Z = true) (k : Wk.K p s m meth c Z x code maxLocals ret) (X0 : Stand p l e room_1 s m args below meth c T0 [] 0 0) (p0 p1 p2 p3 p4 p5 : Int32) (n pa pb pd r1 r2 : Int32) (N A B D R1 R2 : Nat) (e0 : T0.heap = h0) (Z0 : n0 ≤ h0.size) (N0 : Fr n0 []) (hN : n.toInt = (N : Int)) (hN1 : 1 ≤ N) (hN2 : N ≤ 32) (hA : pa.toInt = (A : Int)) (hA2 : A < N) (hB : pb.toInt = (B : Int)) (hB2 : B < N) (hD : pd.toInt = (D : Int)) (hD2 : D < N) (hr1 : r1.toInt = (R1 : Int) - 1) (hR1 : R1 ≤ N) (hr2 : r2.toInt = (R2 : Int) - 1) (hR2 : R2 ≤ N) : Wk.Ends p e s below room_1 (fun v _ L => v = some (.int 1) ∧ Fr n0 L) T0 (mkF m 63 #[.val (.int p0), .val (.int p1), .val (.int p2), .val (.int p3), .val (.int p4), .val (.int p5), .val (.int n), .val (.int pa), .val (.int pb), .val (.int pd), .val (.int r1), .val (.int r2), .unset, .unset, .unset, .unset, .unset, .unset] []) := by
  have hnm : (n - (1 : Int32)).toInt = (N : Int) - 1 := by have q := c_isub n 1; have r := rng32 (n - 1); have t : (1 : Int32).toInt = 1 := rfl; omega
  refine Wk.new k X0 at_63 (Wk.w hw 1 rfl) (Wk.w hw 2 rfl) (Wk.w hw 3 rfl) e0 (by decide) (by decide) 66 rfl fun T1 h1 b1 q1 X1 e1 E1 A1 D1 => ?_
  have g1 : n0 ≤ b1 := by rw [q1]; exact Z0
  have sz1 := Nat.le_trans Z0 E1.1
  have f2 : Fld Z h1 b1 "com/example/lean_layout/leanlayout/layered/FenwickTree" "tree" "[I" .null := D1 (Or.inr (Wk.w hw 12 rfl)) (ty := (.array .int)) (by decide)
  refine Wk.dup k X1 at_66 rfl 67 rfl ?_
  refine Wk.iload k X1 at_67 rfl 69 rfl ?_
  refine Wk.callI k X1 [(.int n)] [(.ref b1)] at_69 (rm_ini l Z a0 hw b1 n N _ h1 n0 sz1 A1 f2 g1 hN2 (by have q := c_iadd n 1; have r := rng32 (n + 1); have t : (1 : Int32).toInt = 1 := rfl; omega)) e1 rfl (Wk.w hw 4 rfl) (Wk.w hw 5 rfl) (Wk.w hw 3 rfl) (Wk.w hw 6 rfl) (by decide) rfl pd_FenwickTree_init rfl rfl (Nat.le_of_ble_eq_true rfl) (Nat.le_of_ble_eq_true rfl) (Nat.le_of_ble_eq_true rfl) (Nat.le_of_ble_eq_true rfl) 72 rfl fun T3 v3 L3 X3 hQ3 => ?_
  obtain ⟨rfl, N3q, K3, E3, t, gt, hne, F3, A3⟩ := hQ3
  show Wk.Ends _ _ _ _ _ _ _ (mkF m 72 _ [(.ref b1)])
  have N3 := Fr.app N0 N3q
  refine Wk.astore k X3 at_72 rfl #[.val (.int p0), .val (.int p1), .val (.int p2), .val (.int p3), .val (.int p4), .val (.int p5), .val (.int n), .val (.int pa), .val (.int pb), .val (.int pd), .val (.int r1), .val (.int r2), .val (.ref b1), .unset, .unset, .unset, .unset, .unset] rfl 74 rfl ?_
  refine Wk.aload k X3 at_74 rfl rfl 76 rfl ?_
  refine Wk.iload k X3 at_76 rfl 78 rfl ?_
  refine Wk.callV k X3 [(.int pa)] [] at_78 (rm_see l Z a0 hw b1 t pa (A + 1) (List.replicate (N + 1) (0 : Int32)) T3.heap n0 (own_suc hA (by omega) (by omega)) (by omega) (by omega) (by rw [List.length_replicate]; omega) hne gt E3 F3 A3) (rfl : T3.heap = T3.heap) E3 (Wk.w hw 13 rfl) (Wk.w hw 14 rfl) (Wk.w hw 16 rfl) (Wk.w hw 15 rfl) (Wk.w hw 3 rfl) (Wk.w hw 17 rfl) (by decide) rfl pd_FenwickTree_see rfl rfl (Nat.le_of_ble_eq_true rfl) (Nat.le_of_ble_eq_true rfl) (Nat.le_of_ble_eq_true rfl) (Nat.le_of_ble_eq_true rfl) 81 rfl fun T4 v4 L4 X4 hQ4 => ?_
  obtain ⟨rfl, N4q, K4, A4⟩ := hQ4
  show Wk.Ends _ _ _ _ _ _ _ (mkF m 81 _ [])
  have N4 := Fr.app N3 N4q
  have f5 := E3.keep K4
  have f6 := F3.keep K4 (ninS hne nin0)
  refine Wk.aload k X4 at_81 rfl rfl 83 rfl ?_
  refine Wk.iload k X4 at_83 rfl 85 rfl ?_
  refine Wk.callV k X4 [(.int pb)] [] at_85 (rm_see l Z a0 hw b1 t pb (B + 1) (own_see 34 (List.replicate (N + 1) (0 : Int32)) (A + 1)) T4.heap n0 (own_suc hB (by omega) (by omega)) (by omega) (by omega) (by rw [own_see_len, List.length_replicate]; omega) hne gt f5 f6 A4) (rfl : T4.heap = T4.heap) f5 (Wk.w hw 13 rfl) (Wk.w hw 14 rfl) (Wk.w hw 16 rfl) (Wk.w hw 15 rfl) (Wk.w hw 3 rfl) (Wk.w hw 17 rfl) (by decide) rfl pd_FenwickTree_see rfl rfl (Nat.le_of_ble_eq_true rfl) (Nat.le_of_ble_eq_true rfl) (Nat.le_of_ble_eq_true rfl) (Nat.le_of_ble_eq_true rfl) 88 rfl fun T7 v7 L7 X7 hQ7 => ?_
  obtain ⟨rfl, N7q, K7, A7⟩ := hQ7
  show Wk.Ends _ _ _ _ _ _ _ (mkF m 88 _ [])
  have N7 := Fr.app N4 N7q
  have f8 := f5.keep K7
  have f9 := f6.keep K7 (ninS hne nin0)
  refine Wk.aload k X7 at_88 rfl rfl 90 rfl ?_
  refine Wk.iload k X7 at_90 rfl 92 rfl ?_
  refine Wk.callV k X7 [(.int pd)] [] at_92 (rm_see l Z a0 hw b1 t pd (D + 1) (own_see 34 (own_see 34 (List.replicate (N + 1) (0 : Int32)) (A + 1)) (B + 1)) T7.heap n0 (own_suc hD (by omega) (by omega)) (by omega) (by omega) (by rw [own_see_len, own_see_len, List.length_replicate]; omega) hne gt f8 f9 A7) (rfl : T7.heap = T7.heap) f8 (Wk.w hw 13 rfl) (Wk.w hw 14 rfl) (Wk.w hw 16 rfl) (Wk.w hw 15 rfl) (Wk.w hw 3 rfl) (Wk.w hw 17 rfl) (by decide) rfl pd_FenwickTree_see rfl rfl (Nat.le_of_ble_eq_true rfl) (Nat.le_of_ble_eq_true rfl) (Nat.le_of_ble_eq_true rfl) (Nat.le_of_ble_eq_true rfl) 95 rfl fun T10 v10 L10 X10 hQ10 => ?_
  obtain ⟨rfl, N10q, K10, A10⟩ := hQ10
  show Wk.Ends _ _ _ _ _ _ _ (mkF m 95 _ [])
  have N10 := Fr.app N7 N10q
  have f11 := f8.keep K10
  have f12 := f9.keep K10 (ninS hne nin0)
  refine Wk.iload k X10 at_95 rfl 97 rfl ?_
  refine Wk.iload k X10 at_97 rfl 99 rfl ?_
  refine Wk.callS k X10 [(.int pa), (.int r1)] [] at_99 (rm_le l Z a0 hw pa r1 _) (rfl : T10.heap = T10.heap) (Wk.w hw 18 rfl) (Wk.w hw 19 rfl) (Wk.w hw 20 rfl) (Wk.w hw 21 rfl) (by decide) rfl pd_FenwickTreeSeePinLaw_le rfl rfl (Nat.le_of_ble_eq_true rfl) (Nat.le_of_ble_eq_true rfl) (Nat.le_of_ble_eq_true rfl) (Nat.le_of_ble_eq_true rfl) 102 rfl fun T13 v13 L13 X13 hQ13 => ?_
  obtain ⟨rfl, e13, rfl⟩ := hQ13
  rw [List.append_nil] at X13
  show Wk.Ends _ _ _ _ _ _ _ (mkF m 102 _ [(.int (if r1 < pa then (0 : Int32) else 1))])
  refine Wk.iload k X13 at_102 rfl 104 rfl ?_
  refine Wk.iload k X13 at_104 rfl 106 rfl ?_
  refine Wk.callS k X13 [(.int pb), (.int r1)] [(.int (if r1 < pa then (0 : Int32) else 1))] at_106 (rm_le l Z a0 hw pb r1 _) e13 (Wk.w hw 18 rfl) (Wk.w hw 19 rfl) (Wk.w hw 20 rfl) (Wk.w hw 21 rfl) (by decide) rfl pd_FenwickTreeSeePinLaw_le rfl rfl (Nat.le_of_ble_eq_true rfl) (Nat.le_of_ble_eq_true rfl) (Nat.le_of_ble_eq_true rfl) (Nat.le_of_ble_eq_true rfl) 109 rfl fun T14 v14 L14 X14 hQ14 => ?_
  obtain ⟨rfl, e14, rfl⟩ := hQ14
  rw [List.append_nil] at X14
  show Wk.Ends _ _ _ _ _ _ _ (mkF m 109 _ [(.int (if r1 < pb then (0 : Int32) else 1)), (.int (if r1 < pa then (0 : Int32) else 1))])
  refine Wk.iadd k X14 at_109 110 rfl ?_
  refine Wk.iload k X14 at_110 rfl 112 rfl ?_
  refine Wk.iload k X14 at_112 rfl 114 rfl ?_
  refine Wk.callS k X14 [(.int pd), (.int r1)] [(.int ((if r1 < pa then (0 : Int32) else 1) + (if r1 < pb then (0 : Int32) else 1)))] at_114 (rm_le l Z a0 hw pd r1 _) e14 (Wk.w hw 18 rfl) (Wk.w hw 19 rfl) (Wk.w hw 20 rfl) (Wk.w hw 21 rfl) (by decide) rfl pd_FenwickTreeSeePinLaw_le rfl rfl (Nat.le_of_ble_eq_true rfl) (Nat.le_of_ble_eq_true rfl) (Nat.le_of_ble_eq_true rfl) (Nat.le_of_ble_eq_true rfl) 117 rfl fun T15 v15 L15 X15 hQ15 => ?_
  obtain ⟨rfl, e15, rfl⟩ := hQ15
  rw [List.append_nil] at X15
  show Wk.Ends _ _ _ _ _ _ _ (mkF m 117 _ [(.int (if r1 < pd then (0 : Int32) else 1)), (.int ((if r1 < pa then (0 : Int32) else 1) + (if r1 < pb then (0 : Int32) else 1)))])
  refine Wk.iadd k X15 at_117 118 rfl ?_
  refine Wk.istore k X15 at_118 #[.val (.int p0), .val (.int p1), .val (.int p2), .val (.int p3), .val (.int p4), .val (.int p5), .val (.int n), .val (.int pa), .val (.int pb), .val (.int pd), .val (.int r1), .val (.int r2), .val (.ref b1), .val (.int (((if r1 < pa then (0 : Int32) else 1) + (if r1 < pb then (0 : Int32) else 1)) + (if r1 < pd then (0 : Int32) else 1))), .unset, .unset, .unset, .unset] rfl 120 rfl ?_
  refine Wk.iload k X15 at_120 rfl 122 rfl ?_
  refine Wk.iload k X15 at_122 rfl 124 rfl ?_
  refine Wk.callS k X15 [(.int pa), (.int r2)] [] at_124 (rm_le l Z a0 hw pa r2 _) e15 (Wk.w hw 18 rfl) (Wk.w hw 19 rfl) (Wk.w hw 20 rfl) (Wk.w hw 21 rfl) (by decide) rfl pd_FenwickTreeSeePinLaw_le rfl rfl (Nat.le_of_ble_eq_true rfl) (Nat.le_of_ble_eq_true rfl) (Nat.le_of_ble_eq_true rfl) (Nat.le_of_ble_eq_true rfl) 127 rfl fun T16 v16 L16 X16 hQ16 => ?_
  obtain ⟨rfl, e16, rfl⟩ := hQ16
  rw [List.append_nil] at X16
  show Wk.Ends _ _ _ _ _ _ _ (mkF m 127 _ [(.int (if r2 < pa then (0 : Int32) else 1))])
  refine Wk.iload k X16 at_127 rfl 129 rfl ?_
  refine Wk.iload k X16 at_129 rfl 131 rfl ?_
  refine Wk.callS k X16 [(.int pb), (.int r2)] [(.int (if r2 < pa then (0 : Int32) else 1))] at_131 (rm_le l Z a0 hw pb r2 _) e16 (Wk.w hw 18 rfl) (Wk.w hw 19 rfl) (Wk.w hw 20 rfl) (Wk.w hw 21 rfl) (by decide) rfl pd_FenwickTreeSeePinLaw_le rfl rfl (Nat.le_of_ble_eq_true rfl) (Nat.le_of_ble_eq_true rfl) (Nat.le_of_ble_eq_true rfl) (Nat.le_of_ble_eq_true rfl) 134 rfl fun T17 v17 L17 X17 hQ17 => ?_
  obtain ⟨rfl, e17, rfl⟩ := hQ17
  rw [List.append_nil] at X17
  show Wk.Ends _ _ _ _ _ _ _ (mkF m 134 _ [(.int (if r2 < pb then (0 : Int32) else 1)), (.int (if r2 < pa then (0 : Int32) else 1))])
  refine Wk.iadd k X17 at_134 135 rfl ?_
  refine Wk.iload k X17 at_135 rfl 137 rfl ?_
  refine Wk.iload k X17 at_137 rfl 139 rfl ?_
  refine Wk.callS k X17 [(.int pd), (.int r2)] [(.int ((if r2 < pa then (0 : Int32) else 1) + (if r2 < pb then (0 : Int32) else 1)))] at_139 (rm_le l Z a0 hw pd r2 _) e17 (Wk.w hw 18 rfl) (Wk.w hw 19 rfl) (Wk.w hw 20 rfl) (Wk.w hw 21 rfl) (by decide) rfl pd_FenwickTreeSeePinLaw_le rfl rfl (Nat.le_of_ble_eq_true rfl) (Nat.le_of_ble_eq_true rfl) (Nat.le_of_ble_eq_true rfl) (Nat.le_of_ble_eq_true rfl) 142 rfl fun T18 v18 L18 X18 hQ18 => ?_
  obtain ⟨rfl, e18, rfl⟩ := hQ18
  rw [List.append_nil] at X18
  show Wk.Ends _ _ _ _ _ _ _ (mkF m 142 _ [(.int (if r2 < pd then (0 : Int32) else 1)), (.int ((if r2 < pa then (0 : Int32) else 1) + (if r2 < pb then (0 : Int32) else 1)))])
  refine Wk.iadd k X18 at_142 143 rfl ?_
  refine Wk.istore k X18 at_143 #[.val (.int p0), .val (.int p1), .val (.int p2), .val (.int p3), .val (.int p4), .val (.int p5), .val (.int n), .val (.int pa), .val (.int pb), .val (.int pd), .val (.int r1), .val (.int r2), .val (.ref b1), .val (.int (((if r1 < pa then (0 : Int32) else 1) + (if r1 < pb then (0 : Int32) else 1)) + (if r1 < pd then (0 : Int32) else 1))), .val (.int (((if r2 < pa then (0 : Int32) else 1) + (if r2 < pb then (0 : Int32) else 1)) + (if r2 < pd then (0 : Int32) else 1))), .unset, .unset, .unset] rfl 145 rfl ?_
  refine Wk.aload k X18 at_145 rfl rfl 147 rfl ?_
  refine Wk.iload k X18 at_147 rfl 149 rfl ?_
  refine Wk.callV k X18 [(.int r1)] [] at_149 (rm_sum l Z a0 hw b1 t r1 R1 (own_see 34 (own_see 34 (own_see 34 (List.replicate (N + 1) (0 : Int32)) (A + 1)) (B + 1)) (D + 1)) T10.heap (own_suc hr1 (by omega) (by omega)) (by rw [own_see_len, own_see_len, own_see_len, List.length_replicate]; omega) (by rw [own_see_len, own_see_len, own_see_len, List.length_replicate]; omega) f12 A10) e18 f11 (Wk.w hw 22 rfl) (Wk.w hw 23 rfl) (Wk.w hw 25 rfl) (Wk.w hw 24 rfl) (Wk.w hw 3 rfl) (Wk.w hw 26 rfl) (by decide) rfl pd_FenwickTree_seenUpTo rfl rfl (Nat.le_of_ble_eq_true rfl) (Nat.le_of_ble_eq_true rfl) (Nat.le_of_ble_eq_true rfl) (Nat.le_of_ble_eq_true rfl) 152 rfl fun T19 v19 L19 X19 hQ19 => ?_
  obtain ⟨rfl, e19, rfl⟩ := hQ19
  rw [List.append_nil] at X19
  show Wk.Ends _ _ _ _ _ _ _ (mkF m 152 _ [(.int (own_sd 34 (own_see 34 (own_see 34 (own_see 34 (List.replicate (N + 1) (0 : Int32)) (A + 1)) (B + 1)) (D + 1)) R1))])
  refine Wk.iload k X19 at_152 rfl 154 rfl ?_
  refine Wk.icmp_ne k X19 at_154 (by decide) 161 157 (by decide) rfl (fun hc154 => ?_) (fun hc154 => ?_)
  · exact absurd (by rw [own_cnt hN2 hA2 hB2 hD2 hR1, own_le hA hr1, own_le hB hr1, own_le hD hr1]) hc154
  · refine Wk.iconst k X19 at_157 (1 : Int32) rfl 158 rfl ?_
    refine Wk.goto k X19 at_158 (by decide) 162 (by decide) ?_
    refine Wk.istore k X19 at_162 #[.val (.int p0), .val (.int p1), .val (.int p2), .val (.int p3), .val (.int p4), .val (.int p5), .val (.int n), .val (.int pa), .val (.int pb), .val (.int pd), .val (.int r1), .val (.int r2), .val (.ref b1), .val (.int (((if r1 < pa then (0 : Int32) else 1) + (if r1 < pb then (0 : Int32) else 1)) + (if r1 < pd then (0 : Int32) else 1))), .val (.int (((if r2 < pa then (0 : Int32) else 1) + (if r2 < pb then (0 : Int32) else 1)) + (if r2 < pd then (0 : Int32) else 1))), .val (.int (1 : Int32)), .unset, .unset] rfl 164 rfl ?_
    refine Wk.aload k X19 at_164 rfl rfl 166 rfl ?_
    refine Wk.iload k X19 at_166 rfl 168 rfl ?_
    refine Wk.callV k X19 [(.int r2)] [] at_168 (rm_sum l Z a0 hw b1 t r2 R2 (own_see 34 (own_see 34 (own_see 34 (List.replicate (N + 1) (0 : Int32)) (A + 1)) (B + 1)) (D + 1)) T10.heap (own_suc hr2 (by omega) (by omega)) (by rw [own_see_len, own_see_len, own_see_len, List.length_replicate]; omega) (by rw [own_see_len, own_see_len, own_see_len, List.length_replicate]; omega) f12 A10) e19 f11 (Wk.w hw 22 rfl) (Wk.w hw 23 rfl) (Wk.w hw 25 rfl) (Wk.w hw 24 rfl) (Wk.w hw 3 rfl) (Wk.w hw 26 rfl) (by decide) rfl pd_FenwickTree_seenUpTo rfl rfl (Nat.le_of_ble_eq_true rfl) (Nat.le_of_ble_eq_true rfl) (Nat.le_of_ble_eq_true rfl) (Nat.le_of_ble_eq_true rfl) 171 rfl fun T20 v20 L20 X20 hQ20 => ?_
    obtain ⟨rfl, e20, rfl⟩ := hQ20
    rw [List.append_nil] at X20
    show Wk.Ends _ _ _ _ _ _ _ (mkF m 171 _ [(.int (own_sd 34 (own_see 34 (own_see 34 (own_see 34 (List.replicate (N + 1) (0 : Int32)) (A + 1)) (B + 1)) (D + 1)) R2))])
    refine Wk.iload k X20 at_171 rfl 173 rfl ?_
    refine Wk.icmp_ne k X20 at_173 (by decide) 180 176 (by decide) rfl (fun hc173 => ?_) (fun hc173 => ?_)
    · exact absurd (by rw [own_cnt hN2 hA2 hB2 hD2 hR2, own_le hA hr2, own_le hB hr2, own_le hD hr2]) hc173
    · refine Wk.iconst k X20 at_176 (1 : Int32) rfl 177 rfl ?_
      refine Wk.goto k X20 at_177 (by decide) 181 (by decide) ?_
      refine Wk.istore k X20 at_181 #[.val (.int p0), .val (.int p1), .val (.int p2), .val (.int p3), .val (.int p4), .val (.int p5), .val (.int n), .val (.int pa), .val (.int pb), .val (.int pd), .val (.int r1), .val (.int r2), .val (.ref b1), .val (.int (((if r1 < pa then (0 : Int32) else 1) + (if r1 < pb then (0 : Int32) else 1)) + (if r1 < pd then (0 : Int32) else 1))), .val (.int (((if r2 < pa then (0 : Int32) else 1) + (if r2 < pb then (0 : Int32) else 1)) + (if r2 < pd then (0 : Int32) else 1))), .val (.int (1 : Int32)), .val (.int (1 : Int32)), .unset] rfl 183 rfl ?_
      refine Wk.aload k X20 at_183 rfl rfl 185 rfl ?_
      refine Wk.iload k X20 at_185 rfl 187 rfl ?_
      refine Wk.iconst k X20 at_187 (1 : Int32) rfl 188 rfl ?_
      refine Wk.isub k X20 at_188 189 rfl ?_
      refine Wk.callV k X20 [(.int (n - (1 : Int32)))] [] at_189 (rm_sum l Z a0 hw b1 t (n - (1 : Int32)) N (own_see 34 (own_see 34 (own_see 34 (List.replicate (N + 1) (0 : Int32)) (A + 1)) (B + 1)) (D + 1)) T10.heap (own_suc hnm (by omega) (by omega)) (by rw [own_see_len, own_see_len, own_see_len, List.length_replicate]; omega) (by rw [own_see_len, own_see_len, own_see_len, List.length_replicate]; omega) f12 A10) e20 f11 (Wk.w hw 22 rfl) (Wk.w hw 23 rfl) (Wk.w hw 25 rfl) (Wk.w hw 24 rfl) (Wk.w hw 3 rfl) (Wk.w hw 26 rfl) (by decide) rfl pd_FenwickTree_seenUpTo rfl rfl (Nat.le_of_ble_eq_true rfl) (Nat.le_of_ble_eq_true rfl) (Nat.le_of_ble_eq_true rfl) (Nat.le_of_ble_eq_true rfl) 192 rfl fun T21 v21 L21 X21 hQ21 => ?_
      obtain ⟨rfl, e21, rfl⟩ := hQ21
      rw [List.append_nil] at X21
      show Wk.Ends _ _ _ _ _ _ _ (mkF m 192 _ [(.int (own_sd 34 (own_see 34 (own_see 34 (own_see 34 (List.replicate (N + 1) (0 : Int32)) (A + 1)) (B + 1)) (D + 1)) N))])
      refine Wk.iconst k X21 at_192 (3 : Int32) rfl 193 rfl ?_
      refine Wk.icmp_ne k X21 at_193 (by decide) 200 196 (by decide) rfl (fun hc193 => ?_) (fun hc193 => ?_)
      · exact absurd (by rw [own_cnt hN2 hA2 hB2 hD2 (Nat.le_refl N), if_pos (by omega), if_pos (by omega), if_pos (by omega)]; rfl) hc193
      · refine Wk.iconst k X21 at_196 (1 : Int32) rfl 197 rfl ?_
        refine Wk.goto k X21 at_197 (by decide) 201 (by decide) ?_
        refine Wk.istore k X21 at_201 #[.val (.int p0), .val (.int p1), .val (.int p2), .val (.int p3), .val (.int p4), .val (.int p5), .val (.int n), .val (.int pa), .val (.int pb), .val (.int pd), .val (.int r1), .val (.int r2), .val (.ref b1), .val (.int (((if r1 < pa then (0 : Int32) else 1) + (if r1 < pb then (0 : Int32) else 1)) + (if r1 < pd then (0 : Int32) else 1))), .val (.int (((if r2 < pa then (0 : Int32) else 1) + (if r2 < pb then (0 : Int32) else 1)) + (if r2 < pd then (0 : Int32) else 1))), .val (.int (1 : Int32)), .val (.int (1 : Int32)), .val (.int (1 : Int32))] rfl 203 rfl ?_
        refine Wk.iload k X21 at_203 rfl 205 rfl ?_
        refine Wk.if_eq k X21 at_205 (by decide) 222 208 (by decide) rfl (fun hc205 => ?_) (fun hc205 => ?_)
        · exact absurd hc205 (by decide)
        · refine Wk.iload k X21 at_208 rfl 210 rfl ?_
          refine Wk.if_eq k X21 at_210 (by decide) 222 213 (by decide) rfl (fun hc210 => ?_) (fun hc210 => ?_)
          · exact absurd hc210 (by decide)
          · refine Wk.iload k X21 at_213 rfl 215 rfl ?_
            refine Wk.if_eq k X21 at_215 (by decide) 222 218 (by decide) rfl (fun hc215 => ?_) (fun hc215 => ?_)
            · exact absurd hc215 (by decide)
            · refine Wk.iconst k X21 at_218 (1 : Int32) rfl 219 rfl ?_
              refine Wk.goto k X21 at_219 (by decide) 223 (by decide) ?_
              exact Wk.ret_bool k X21 rfl at_223 (by decide) (by decide) (by decide) ⟨rfl, N10⟩
theorem ef_law (m : MethodId) (p0 p1 p2 p3 p4 p5 : Int32) : entryFrame m #[(.int p0), (.int p1), (.int p2), (.int p3), (.int p4), (.int p5)] maxLocals = mkF m 0 #[.val (.int p0), .val (.int p1), .val (.int p2), .val (.int p3), .val (.int p4), .val (.int p5), .unset, .unset, .unset, .unset, .unset, .unset, .unset, .unset, .unset, .unset, .unset, .unset] [] := by first | (simp [entryFrame, mkF, argsToLocals, Value.category, maxLocals]; done) | rfl
set_option maxRecDepth 65536 in
set_option maxHeartbeats 40000000 in
theorem rm0 (l : Launch) (Z : State) (a0 : Array Value) (hw : ∀ d ∈ tables_1, d.before a0 Z = true) (ws : List Jvm.Cond) (p0 p1 p2 p3 p4 p5 : Int32) (h0 : Heap) (n0 : Nat) (Z0 : n0 ≤ h0.size) : Wk.Met l x code maxLocals ret room_1 #[(.int p0), (.int p1), (.int p2), (.int p3), (.int p4), (.int p5)] Z h0 (fun v _ L => v = some (.int 1) ∧ Fr n0 L) ws := by
  refine Wk.enter pn_FenwickTreeSeePinLaw_law (fun p e s m below meth c T0 k X0 e0 => ?_)
  refine (Wk.Ends.cast (ef_law m p0 p1 p2 p3 p4 p5) ?_)
  obtain ⟨N, hN, hN1, hN2⟩ : ∃ N : Nat, ((p0 &&& (31 : Int32)) + (1 : Int32)).toInt = (N : Int) ∧ 1 ≤ N ∧ N ≤ 32 := by
    have h1 := c_mask p0 31 5 (by decide) (by decide)
    have h2 := c_iadd (p0 &&& (31 : Int32)) 1
    have h3 := rng32 ((p0 &&& (31 : Int32)) + 1)
    have t1 : (1 : Int32).toInt = 1 := rfl
    exact ⟨((p0 &&& (31 : Int32)) + (1 : Int32)).toInt.toNat, by omega, by omega, by omega⟩
  refine Wk.iload_n k X0 at_0 rfl 1 rfl ?_
  refine Wk.bipush k X0 at_1 (31 : Int32) rfl 3 rfl ?_
  refine Wk.iand k X0 at_3 4 rfl ?_
  refine Wk.iconst k X0 at_4 (1 : Int32) rfl 5 rfl ?_
  refine Wk.iadd k X0 at_5 6 rfl ?_
  refine Wk.istore k X0 at_6 #[.val (.int p0), .val (.int p1), .val (.int p2), .val (.int p3), .val (.int p4), .val (.int p5), .val (.int ((p0 &&& (31 : Int32)) + (1 : Int32))), .unset, .unset, .unset, .unset, .unset, .unset, .unset, .unset, .unset, .unset, .unset] rfl 8 rfl ?_
  refine Wk.iload_n k X0 at_8 rfl 9 rfl ?_
  refine Wk.ldc k X0 (z := (2147483647 : Int32)) at_9 (Wk.w hw 0 rfl) 11 rfl ?_
  refine Wk.iand k X0 at_11 12 rfl ?_
  refine Wk.iload k X0 at_12 rfl 14 rfl ?_
  refine Wk.irem k X0 at_14 (fun q => by rw [q] at hN; have t : (0 : Int32).toInt = 0 := rfl; omega) 15 rfl ?_
  refine Wk.istore k X0 at_15 #[.val (.int p0), .val (.int p1), .val (.int p2), .val (.int p3), .val (.int p4), .val (.int p5), .val (.int ((p0 &&& (31 : Int32)) + (1 : Int32))), .val (.int ((p1 &&& (2147483647 : Int32)) % ((p0 &&& (31 : Int32)) + (1 : Int32)))), .unset, .unset, .unset, .unset, .unset, .unset, .unset, .unset, .unset, .unset] rfl 17 rfl ?_
  refine Wk.iload_n k X0 at_17 rfl 18 rfl ?_
  refine Wk.ldc k X0 (z := (2147483647 : Int32)) at_18 (Wk.w hw 0 rfl) 20 rfl ?_
  refine Wk.iand k X0 at_20 21 rfl ?_
  refine Wk.iload k X0 at_21 rfl 23 rfl ?_
  refine Wk.irem k X0 at_23 (fun q => by rw [q] at hN; have t : (0 : Int32).toInt = 0 := rfl; omega) 24 rfl ?_
  refine Wk.istore k X0 at_24 #[.val (.int p0), .val (.int p1), .val (.int p2), .val (.int p3), .val (.int p4), .val (.int p5), .val (.int ((p0 &&& (31 : Int32)) + (1 : Int32))), .val (.int ((p1 &&& (2147483647 : Int32)) % ((p0 &&& (31 : Int32)) + (1 : Int32)))), .val (.int ((p2 &&& (2147483647 : Int32)) % ((p0 &&& (31 : Int32)) + (1 : Int32)))), .unset, .unset, .unset, .unset, .unset, .unset, .unset, .unset, .unset] rfl 26 rfl ?_
  refine Wk.iload_n k X0 at_26 rfl 27 rfl ?_
  refine Wk.ldc k X0 (z := (2147483647 : Int32)) at_27 (Wk.w hw 0 rfl) 29 rfl ?_
  refine Wk.iand k X0 at_29 30 rfl ?_
  refine Wk.iload k X0 at_30 rfl 32 rfl ?_
  refine Wk.irem k X0 at_32 (fun q => by rw [q] at hN; have t : (0 : Int32).toInt = 0 := rfl; omega) 33 rfl ?_
  refine Wk.istore k X0 at_33 #[.val (.int p0), .val (.int p1), .val (.int p2), .val (.int p3), .val (.int p4), .val (.int p5), .val (.int ((p0 &&& (31 : Int32)) + (1 : Int32))), .val (.int ((p1 &&& (2147483647 : Int32)) % ((p0 &&& (31 : Int32)) + (1 : Int32)))), .val (.int ((p2 &&& (2147483647 : Int32)) % ((p0 &&& (31 : Int32)) + (1 : Int32)))), .val (.int ((p3 &&& (2147483647 : Int32)) % ((p0 &&& (31 : Int32)) + (1 : Int32)))), .unset, .unset, .unset, .unset, .unset, .unset, .unset, .unset] rfl 35 rfl ?_
  refine Wk.iload k X0 at_35 rfl 37 rfl ?_
  refine Wk.ldc k X0 (z := (2147483647 : Int32)) at_37 (Wk.w hw 0 rfl) 39 rfl ?_
  refine Wk.iand k X0 at_39 40 rfl ?_
  refine Wk.iload k X0 at_40 rfl 42 rfl ?_
  refine Wk.iconst k X0 at_42 (1 : Int32) rfl 43 rfl ?_
  refine Wk.iadd k X0 at_43 44 rfl ?_
  refine Wk.irem k X0 at_44 (fun q => by have q2 := c_iadd ((p0 &&& (31 : Int32)) + (1 : Int32)) 1; have t1 : (1 : Int32).toInt = 1 := rfl; have t : (0 : Int32).toInt = 0 := rfl; rw [q] at q2; omega) 45 rfl ?_
  refine Wk.iconst k X0 at_45 (1 : Int32) rfl 46 rfl ?_
  refine Wk.isub k X0 at_46 47 rfl ?_
  refine Wk.istore k X0 at_47 #[.val (.int p0), .val (.int p1), .val (.int p2), .val (.int p3), .val (.int p4), .val (.int p5), .val (.int ((p0 &&& (31 : Int32)) + (1 : Int32))), .val (.int ((p1 &&& (2147483647 : Int32)) % ((p0 &&& (31 : Int32)) + (1 : Int32)))), .val (.int ((p2 &&& (2147483647 : Int32)) % ((p0 &&& (31 : Int32)) + (1 : Int32)))), .val (.int ((p3 &&& (2147483647 : Int32)) % ((p0 &&& (31 : Int32)) + (1 : Int32)))), .val (.int (((p4 &&& (2147483647 : Int32)) % (((p0 &&& (31 : Int32)) + (1 : Int32)) + (1 : Int32))) - (1 : Int32))), .unset, .unset, .unset, .unset, .unset, .unset, .unset] rfl 49 rfl ?_
  refine Wk.iload k X0 at_49 rfl 51 rfl ?_
  refine Wk.ldc k X0 (z := (2147483647 : Int32)) at_51 (Wk.w hw 0 rfl) 53 rfl ?_
  refine Wk.iand k X0 at_53 54 rfl ?_
  refine Wk.iload k X0 at_54 rfl 56 rfl ?_
  refine Wk.iconst k X0 at_56 (1 : Int32) rfl 57 rfl ?_
  refine Wk.iadd k X0 at_57 58 rfl ?_
  refine Wk.irem k X0 at_58 (fun q => by have q2 := c_iadd ((p0 &&& (31 : Int32)) + (1 : Int32)) 1; have t1 : (1 : Int32).toInt = 1 := rfl; have t : (0 : Int32).toInt = 0 := rfl; rw [q] at q2; omega) 59 rfl ?_
  refine Wk.iconst k X0 at_59 (1 : Int32) rfl 60 rfl ?_
  refine Wk.isub k X0 at_60 61 rfl ?_
  refine Wk.istore k X0 at_61 #[.val (.int p0), .val (.int p1), .val (.int p2), .val (.int p3), .val (.int p4), .val (.int p5), .val (.int ((p0 &&& (31 : Int32)) + (1 : Int32))), .val (.int ((p1 &&& (2147483647 : Int32)) % ((p0 &&& (31 : Int32)) + (1 : Int32)))), .val (.int ((p2 &&& (2147483647 : Int32)) % ((p0 &&& (31 : Int32)) + (1 : Int32)))), .val (.int ((p3 &&& (2147483647 : Int32)) % ((p0 &&& (31 : Int32)) + (1 : Int32)))), .val (.int (((p4 &&& (2147483647 : Int32)) % (((p0 &&& (31 : Int32)) + (1 : Int32)) + (1 : Int32))) - (1 : Int32))), .val (.int (((p5 &&& (2147483647 : Int32)) % (((p0 &&& (31 : Int32)) + (1 : Int32)) + (1 : Int32))) - (1 : Int32))), .unset, .unset, .unset, .unset, .unset, .unset] rfl 63 rfl ?_
  obtain ⟨A, hA2, hA⟩ := own_rem p1 ((p0 &&& (31 : Int32)) + (1 : Int32)) hN (by omega)
  obtain ⟨B, hB2, hB⟩ := own_rem p2 ((p0 &&& (31 : Int32)) + (1 : Int32)) hN (by omega)
  obtain ⟨D, hD2, hD⟩ := own_rem p3 ((p0 &&& (31 : Int32)) + (1 : Int32)) hN (by omega)
  obtain ⟨R1, hR1, hr1⟩ := own_remR p4 ((p0 &&& (31 : Int32)) + (1 : Int32)) hN (by omega) (by omega)
  obtain ⟨R2, hR2, hr2⟩ := own_remR p5 ((p0 &&& (31 : Int32)) + (1 : Int32)) hN (by omega) (by omega)
  exact law_63 hw k X0 p0 p1 p2 p3 p4 p5 _ _ _ _ _ _ _ A B D R1 R2 e0 Z0 (Fr.nil _) hN (by omega) (by omega) hA hA2 hB hB2 hD hD2 hr1 hR1 hr2 hR2
set_option maxRecDepth 65536 in
set_option maxHeartbeats 40000000 in
theorem comes_1 {Post : Tables → Env → Array Value → State → Outcome → State → Prop} (hpost : ∀ tb e args s v u, (limb_1_1.after args s (.returned v) u = true ∧ limb_1_2.after args s (.returned v) u = true) → FrameEnd s (.returned v) u (Jvm.fieldLocs frame_1_writes args s ++ Jvm.arrayLocs frame_1_arrays args s ++ Jvm.staticLocs frame_1_statics s) 16 192 → Post tb e args s (.returned v) u) :
    ArmFor flags0 classFile x code maxLocals ret World_1 tables_1 room_1 Calls_1 rest_1 Pre_1 Post := by
  intro l hfl _ _ p e ha hc hk s m args below hf hA hF happ hP
  obtain ⟨hcalls, hrest, hpre⟩ := hP
  obtain ⟨-, -, -, hnamed, -, -, -, hat⟩ := (Spec.applies_iff hf).mp happ
  obtain ⟨hg, hn⟩ := and_e (Cond.before_iff.mp (show (Jvm.Cond.and given_1 narrow_1).before args s = true from hpre))
  obtain ⟨gc, g0⟩ := and_e hg
  obtain ⟨q0, g1⟩ := and_e g0
  obtain ⟨q1, g2⟩ := and_e g1
  obtain ⟨q2, g3⟩ := and_e g2
  obtain ⟨q3, g4⟩ := and_e g3
  obtain ⟨q4, g5⟩ := and_e g4
  have q5 := g5
  obtain ⟨w0, w1, w2, w3, w4, w5, rfl⟩ : ∃ w0 w1 w2 w3 w4 w5 : Value, args = #[w0, w1, w2, w3, w4, w5] := by
    have hs : args.size = 6 := by simpa [Cond.value, given_1] using gc
    obtain ⟨L⟩ := args
    match L, hs with
    | [w0, w1, w2, w3, w4, w5], _ => exact ⟨w0, w1, w2, w3, w4, w5, rfl⟩
  have hw := fun d (hd : d ∈ tables_1) => atoms_spec (ws := Jvm.Cond.code x code maxLocals ret :: tables_1) hat d (List.mem_cons_of_mem _ hd)
  have hfit : Fit s := fun {y c} hc i hi => by
    obtain ⟨ha, rfl⟩ := Array.getElem?_eq_some_iff.mp hc
    have q := List.all_eq_true.mp ((Array.all_eq_true_iff_forall_mem.mp hF) _ (Array.getElem_mem ha)) i (List.mem_range.mpr hi)
    simpa [Array.getElem?_eq_getElem hi] using q
  obtain ⟨i0, ei0⟩ := is_v q0
  obtain rfl : w0 = (.int i0) := Option.some.inj ei0
  obtain ⟨i1, ei1⟩ := is_v q1
  obtain rfl : w1 = (.int i1) := Option.some.inj ei1
  obtain ⟨i2, ei2⟩ := is_v q2
  obtain rfl : w2 = (.int i2) := Option.some.inj ei2
  obtain ⟨i3, ei3⟩ := is_v q3
  obtain rfl : w3 = (.int i3) := Option.some.inj ei3
  obtain ⟨i4, ei4⟩ := is_v q4
  obtain rfl : w4 = (.int i4) := Option.some.inj ei4
  obtain ⟨i5, ei5⟩ := is_v q5
  obtain rfl : w5 = (.int i5) := Option.some.inj ei5
  obtain ⟨n, o, h1, h2, h3, _, L, rfl, ⟨rfl, N⟩, hq⟩ := rm0 l s _ hw tables_1 i0 i1 i2 i3 i4 i5 s.heap s.heap.size (Nat.le_refl _) p e ha hc hk s m _ below hf ((Spec.applies_iff_loose hf).mp happ).1 ⟨rfl, State.Warmed39.refl s, rfl⟩ trivial
  exact ⟨n, _, h1, h2, h3, hpost _ _ _ _ _ _ ⟨Cond.after_iff.mpr rfl, Cond.after_iff.mpr (eq_i res_at (Term.int_eval (1)) rfl)⟩ ⟨hq.1, hq.2.1, (hq.2.2.sift fun y hy => Or.inr (N y hy)).mono (by decide) (by decide)⟩⟩
theorem main_1_1 : Claimed_1_1 := comes_1 fun _ _ _ _ _ _ h hF => ⟨h.1, hF⟩
theorem main_1_2 : Claimed_1_2 := comes_1 fun _ _ _ _ _ _ h hF => ⟨h.2, hF⟩
end Jvm.Pilot.@@N@@
namespace Jvm.Pilot.@@N@@
open Jvm Jvm.ClassFile Sem Op Lib Jvm.Free Jvm.Stand Jvm.Pilot.@@N@@.Jvm.D
/-! MADE BY PROGRAM (witnessworld.py) out of the Statement's table words and the real class files: 9 classes; the members and pool entries that the words name. The judged class is class 1, her method 2. -/
namespace start1
open Jvm.ClassFile
def u (s : String) : CpInfo := .utf8 (stringToUtf16 s)
/-- a pool by its gaps: so many unusable entries, then the entry; so many at the end -/
def gap : Nat → List CpInfo → List CpInfo
  | 0, r => r
  | n + 1, r => .unusable :: gap n r
def poolList (es : List (Nat × CpInfo)) (last : Nat) : List CpInfo := es.foldr (fun e r => gap e.1 (e.2 :: r)) (gap last [])
def pool (es : List (Nat × CpInfo)) (last : Nat) : Array CpInfo := ⟨poolList es last⟩
def fileOf (pool : Array CpInfo) (this : Nat) (attrs : Array Attribute := #[]) (ms : Array MethodInfo := #[]) (fl : Nat := 33) (sup : Nat := 0) (ifs : Array Nat := #[]) (fds : Array FieldInfo := #[]) : ClassFile where
  minorVersion := 0
  majorVersion := 65
  constantPool := pool
  accessFlags := fl
  thisClass := this
  superClass := sup
  interfaces := ifs
  fields := fds
  methods := ms
  attributes := attrs
def plain (name : String) (sup : Option ClassId) : Class where
  name := name
  kind := .ordinary
  loader := none
  accessFlags := 33
  super := sup
  interfaces := #[]
  cf := none
  fields := #[]
  methods := #[]
  instanceTypes := #[]
  staticTypes := #[]
  resolved := #[]
  callSites := []
  init := .initialized
  statics := none
  mirror := none

def pool0 : Array CpInfo := pool [(5, u "<init>"), (0, u "()V"), (1, .class_ 10), (1, u "java/lang/Object")] 113

def k0c0 : Code := { maxStack := 0, maxLocals := 1, code := object_method_1_code, exceptionTable := #[], attributes := #[] }
def k0m0 : Method := { name := "<init>", desc := "()V", sig := { parameters := [], returnType := none }, accessFlags := 1, code := some k0c0 }
/-- java/lang/Object -/
def k0 : Class := { plain "java/lang/Object" none with
  accessFlags := 33
  interfaces := #[]
  cf := some (fileOf pool0 8 #[] #[{ accessFlags := 1, nameIndex := 5, descriptorIndex := 6, attributes := #[] }] 33 0 #[] #[])
  fields := #[]
  methods := #[k0m0]
  instanceTypes := #[]
  staticTypes := #[]
  resolved := Array.replicate 124 none
  statics := none }

def pool1 : Array CpInfo := pool [(2, .class_ 4), (1, u "java/lang/Object"), (0, u "<init>"), (0, u "()V"), (0, .integer 2147483647), (0, .class_ 9), (0, u "com/example/lean_layout/leanlayout/layered/FenwickTree"), (0, .methodref 8 11), (0, .nameAndType 5 12), (0, u "(I)V"), (0, .methodref 8 14), (0, .nameAndType 15 12), (0, u "see"), (0, .methodref 17 18), (0, .class_ 19), (0, .nameAndType 20 21), (0, u "com/example/lean_layout/leanlayout/layered/FenwickTreeSeePinLaw"), (0, u "le"), (0, u "(II)I"), (0, .methodref 8 23), (0, .nameAndType 24 25), (0, u "seenUpTo"), (0, u "(I)I"), (3, u "law"), (0, u "(IIIIII)Z")] 2

def k1m0 : Method := { name := "<init>", desc := "()V", sig := { parameters := [], returnType := none }, accessFlags := 1, code := none }
def k1c1 : Code := { maxStack := 2, maxLocals := 2, code := method_2_code, exceptionTable := #[], attributes := #[] }
def k1m1 : Method := { name := "le", desc := "(II)I", sig := { parameters := [.int, .int], returnType := some .int }, accessFlags := 10, code := some k1c1 }
def k1c2 : Code := { maxStack := 3, maxLocals := 18, code := code, exceptionTable := #[], attributes := #[] }
def k1m2 : Method := { name := "law", desc := "(IIIIII)Z", sig := { parameters := [.int, .int, .int, .int, .int, .int], returnType := some .boolean }, accessFlags := 9, code := some k1c2 }
/-- com/example/lean_layout/leanlayout/layered/FenwickTreeSeePinLaw -/
def k1 : Class := { plain "com/example/lean_layout/leanlayout/layered/FenwickTreeSeePinLaw" (some 0) with
  accessFlags := 49
  interfaces := #[]
  cf := some (fileOf pool1 17 #[] #[{ accessFlags := 1, nameIndex := 5, descriptorIndex := 6, attributes := #[] }, { accessFlags := 10, nameIndex := 20, descriptorIndex := 21, attributes := #[] }, { accessFlags := 9, nameIndex := 29, descriptorIndex := 30, attributes := #[] }] 49 2 #[] #[])
  fields := #[]
  methods := #[k1m0, k1m1, k1m2]
  instanceTypes := #[]
  staticTypes := #[]
  resolved := Array.replicate 33 none
  statics := none }

def pool2 : Array CpInfo := pool [(1, .methodref 2 3), (0, .class_ 4), (0, .nameAndType 5 6), (0, u "java/lang/Object"), (0, u "<init>"), (0, u "()V"), (0, .fieldref 8 9), (0, .class_ 10), (0, .nameAndType 11 12), (0, u "com/example/lean_layout/leanlayout/layered/FenwickTree"), (0, u "tree"), (0, u "[I"), (0, u "(I)V"), (2, u "see"), (1, u "seenUpTo"), (0, u "(I)I")] 2

def k2c0 : Code := { maxStack := 3, maxLocals := 2, code := prog_64_method_1_code, exceptionTable := #[], attributes := #[] }
def k2m0 : Method := { name := "<init>", desc := "(I)V", sig := { parameters := [.int], returnType := none }, accessFlags := 0, code := some k2c0 }
def k2c1 : Code := { maxStack := 4, maxLocals := 3, code := prog_64_method_2_code, exceptionTable := #[], attributes := #[] }
def k2m1 : Method := { name := "see", desc := "(I)V", sig := { parameters := [.int], returnType := none }, accessFlags := 0, code := some k2c1 }
def k2c2 : Code := { maxStack := 3, maxLocals := 4, code := prog_64_method_3_code, exceptionTable := #[], attributes := #[] }
def k2m2 : Method := { name := "seenUpTo", desc := "(I)I", sig := { parameters := [.int], returnType := some .int }, accessFlags := 0, code := some k2c2 }
/-- com/example/lean_layout/leanlayout/layered/FenwickTree -/
def k2 : Class := { plain "com/example/lean_layout/leanlayout/layered/FenwickTree" (some 0) with
  accessFlags := 32
  interfaces := #[]
  cf := some (fileOf pool2 8 #[] #[{ accessFlags := 0, nameIndex := 5, descriptorIndex := 13, attributes := #[] }, { accessFlags := 0, nameIndex := 16, descriptorIndex := 13, attributes := #[] }, { accessFlags := 0, nameIndex := 18, descriptorIndex := 19, attributes := #[] }] 32 2 #[] #[{ accessFlags := 18, nameIndex := 11, descriptorIndex := 12, attributes := #[] }])
  fields := #[{ name := "tree", type := (.array .int), accessFlags := 18, slot := 0, constantValue := 0 }]
  methods := #[k2m0, k2m1, k2m2]
  instanceTypes := #[(.array .int)]
  staticTypes := #[]
  resolved := Array.replicate 22 none
  statics := none }

def pool3 : Array CpInfo := pool [(1, u "java/lang/Cloneable"), (0, .class_ 1), (0, u "java/lang/Object"), (0, .class_ 3)] 3

/-- java/lang/Cloneable -/
def k3 : Class := { plain "java/lang/Cloneable" (some 0) with
  accessFlags := 1537
  interfaces := #[]
  cf := some (fileOf pool3 2 #[] #[] 1537 4 #[] #[])
  fields := #[]
  methods := #[]
  instanceTypes := #[]
  staticTypes := #[]
  resolved := Array.replicate 8 none
  statics := none }

def pool4 : Array CpInfo := pool [(1, u "java/io/Serializable"), (0, .class_ 1), (0, u "java/lang/Object"), (0, .class_ 3)] 3

/-- java/io/Serializable -/
def k4 : Class := { plain "java/io/Serializable" (some 0) with
  accessFlags := 1537
  interfaces := #[]
  cf := some (fileOf pool4 2 #[] #[] 1537 4 #[] #[])
  fields := #[]
  methods := #[]
  instanceTypes := #[]
  staticTypes := #[]
  resolved := Array.replicate 8 none
  statics := none }

/-- the primitive byte -/
def k5 : Class := { plain "byte" none with kind := .primitive 'B', accessFlags := 0x411 }
/-- [B -/
def k6 : Class := { plain "[B" (some 0) with kind := .array 5 .byte, interfaces := #[3, 4], accessFlags := 1041 }

/-- the primitive int -/
def k7 : Class := { plain "int" none with kind := .primitive 'I', accessFlags := 0x411 }
/-- [I -/
def k8 : Class := { plain "[I" (some 0) with kind := .array 7 .int, interfaces := #[3, 4], accessFlags := 1041 }

def heap : Heap := #[]
def classes : Array Class := #[k0, k1, k2, k3, k4, k5, k6, k7, k8]
def interned : List (Array UInt16 × Addr) := []
def slotsUsed : Nat := 0
def theMethod : MethodId := ⟨1, 2⟩
def args0 : Array Value := #[.int 5, .int 3, .int 2, .int 9, .int 1, .int 4]
def aboutOver (below : List Frame) : State where
  vm := { classes := classes, interned := interned.toArray }
  heap := heap
  slotsUsed := slotsUsed
  threads := #[{ frames := .invoking theMethod args0 :: below }]
def below0 : List Frame := [.native { method := ⟨0, 0⟩, args := #[] }]
def about1 : State := aboutOver below0
def p0 : Program := .bare "" "" ""
def e0 : Env := launch0.env 0 0 0
theorem w_frames : about1.frames = Frame.invoking theMethod args0 :: below0 := rfl
set_option maxRecDepth 65536 in
theorem w_args : argsFit about1.vm theMethod args0 = true := by decide +kernel
set_option maxRecDepth 65536 in
theorem w_heap : heapFits about1 = true := by decide +kernel
set_option maxRecDepth 65536 in
theorem w_runnable : about1.curStatus? = some .runnable := by decide +kernel
set_option maxRecDepth 65536 in
theorem w_alone : about1.alone = true := by decide +kernel
set_option maxRecDepth 65536 in
theorem w_named : about1.methodNamed? x = some theMethod := by decide +kernel
set_option maxRecDepth 65536 in
theorem w_hears : about1.hears theMethod below0 = true := by decide +kernel
set_option maxRecDepth 65536 in
theorem w_ripe : about1.ripe theMethod args0 below0 = true := by decide +kernel
theorem w_running : about1.status = .running := rfl
set_option maxRecDepth 65536 in
theorem w_room : about1.hasRoom e0.platform room_1 = true :=
  launch0.hasRoom_least _ room_1 (by decide +kernel) (by decide +kernel) (by decide +kernel) (by decide +kernel) (by decide +kernel) (by decide +kernel)
theorem allAtoms_all (ts : List Jvm.Cond) (a : Array Jvm.Value) (st : Jvm.State) : (allAtoms ts).before a st = ts.all (fun c => c.before a st) := by
  induction ts with
  | nil => rfl
  | cons c t ih =>
    show (Jvm.Cond.and c (allAtoms t)).before a st = _
    rw [Jvm.Cond.before_and, ih, List.all_cons]
def words1 : List Jvm.Cond := Jvm.Cond.code x code maxLocals ret :: tables_1
/-- a 'code' word, met by the world's own term for the bytes: nothing is compared byte by byte -/
theorem code_word {y : MethodName} {bytes : ByteArray} {mx : Nat} {rt : Option FieldType} {a : Array Value} {s : State} {m : MethodId} {meth : Method} {c : Code} (h1 : s.methodNamed? y = some m) (h2 : s.vm.method? m = some meth) (h3 : meth.code = some c) (h4 : c.code = bytes)
    (h5 : (c.maxLocals == mx && c.exceptionTable.isEmpty && decide (c.maxStack ≤ mostOperands) && decide (meth.sig.returnType = rt) && !meth.locks && decide (parseMethodDescriptor y.desc = some meth.sig)) = true) : (Jvm.Cond.code y bytes mx rt).before a s = true := by
  simp only [Bool.and_eq_true, beq_iff_eq, Bool.not_eq_true', decide_eq_true_eq] at h5
  obtain ⟨⟨⟨⟨⟨g1, g2⟩, g3⟩, g4⟩, g5⟩, g6⟩ := h5
  simp [Cond.before, Cond.holds, Cond.value, h1, h2, h3, h4, g1, g2, g3, g4, g5, g6]
def isCode : Jvm.Cond → Bool
  | .code _ _ _ _ => true
  | _ => false
theorem all_split {L : List Jvm.Cond} {P : Jvm.Cond → Bool} (h1 : L.all (fun c => isCode c || P c) = true) (h2 : ∀ c ∈ L.filter isCode, P c = true) : L.all P = true := by
  refine List.all_eq_true.mpr fun c hc => ?_
  have h := List.all_eq_true.mp h1 c hc
  rcases Bool.eq_false_or_eq_true (isCode c) with hi | hi
  · exact h2 c (List.mem_filter.mpr ⟨hc, hi⟩)
  · simpa [hi] using h
set_option maxRecDepth 65536 in
theorem w_c0 : (Jvm.Cond.code x code maxLocals ret).before args0 about1 = true := code_word (m := ⟨1, 2⟩) (meth := k1m2) (c := k1c2) (by decide +kernel) rfl rfl rfl (by decide +kernel)
set_option maxRecDepth 65536 in
theorem w_c1 : (Jvm.Cond.code ({ cls := "com/example/lean_layout/leanlayout/layered/FenwickTree", name := "<init>", desc := "(I)V" } : Jvm.MethodName) prog_64_method_1_code (2 : Nat) (Option.none : Option Jvm.ClassFile.FieldType)).before args0 about1 = true := code_word (m := ⟨2, 0⟩) (meth := k2m0) (c := k2c0) (by decide +kernel) rfl rfl rfl (by decide +kernel)
set_option maxRecDepth 65536 in
theorem w_c2 : (Jvm.Cond.code ({ cls := "java/lang/Object", name := "<init>", desc := "()V" } : Jvm.MethodName) object_method_1_code (1 : Nat) (Option.none : Option Jvm.ClassFile.FieldType)).before args0 about1 = true := code_word (m := ⟨0, 0⟩) (meth := k0m0) (c := k0c0) (by decide +kernel) rfl rfl rfl (by decide +kernel)
set_option maxRecDepth 65536 in
theorem w_c3 : (Jvm.Cond.code ({ cls := "com/example/lean_layout/leanlayout/layered/FenwickTree", name := "see", desc := "(I)V" } : Jvm.MethodName) prog_64_method_2_code (3 : Nat) (Option.none : Option Jvm.ClassFile.FieldType)).before args0 about1 = true := code_word (m := ⟨2, 1⟩) (meth := k2m1) (c := k2c1) (by decide +kernel) rfl rfl rfl (by decide +kernel)
set_option maxRecDepth 65536 in
theorem w_c4 : (Jvm.Cond.code ({ cls := "com/example/lean_layout/leanlayout/layered/FenwickTreeSeePinLaw", name := "le", desc := "(II)I" } : Jvm.MethodName) method_2_code (2 : Nat) (Option.some Jvm.ClassFile.FieldType.int)).before args0 about1 = true := code_word (m := ⟨1, 1⟩) (meth := k1m1) (c := k1c1) (by decide +kernel) rfl rfl rfl (by decide +kernel)
set_option maxRecDepth 65536 in
theorem w_c5 : (Jvm.Cond.code ({ cls := "com/example/lean_layout/leanlayout/layered/FenwickTree", name := "seenUpTo", desc := "(I)I" } : Jvm.MethodName) prog_64_method_3_code (4 : Nat) (Option.some Jvm.ClassFile.FieldType.int)).before args0 about1 = true := code_word (m := ⟨2, 2⟩) (meth := k2m2) (c := k2c2) (by decide +kernel) rfl rfl rfl (by decide +kernel)
def codes1 : List Jvm.Cond := [Jvm.Cond.code x code maxLocals ret, Jvm.Cond.code ({ cls := "com/example/lean_layout/leanlayout/layered/FenwickTree", name := "<init>", desc := "(I)V" } : Jvm.MethodName) prog_64_method_1_code (2 : Nat) (Option.none : Option Jvm.ClassFile.FieldType), Jvm.Cond.code ({ cls := "java/lang/Object", name := "<init>", desc := "()V" } : Jvm.MethodName) object_method_1_code (1 : Nat) (Option.none : Option Jvm.ClassFile.FieldType), Jvm.Cond.code ({ cls := "com/example/lean_layout/leanlayout/layered/FenwickTree", name := "see", desc := "(I)V" } : Jvm.MethodName) prog_64_method_2_code (3 : Nat) (Option.none : Option Jvm.ClassFile.FieldType), Jvm.Cond.code ({ cls := "com/example/lean_layout/leanlayout/layered/FenwickTreeSeePinLaw", name := "le", desc := "(II)I" } : Jvm.MethodName) method_2_code (2 : Nat) (Option.some Jvm.ClassFile.FieldType.int), Jvm.Cond.code ({ cls := "com/example/lean_layout/leanlayout/layered/FenwickTree", name := "seenUpTo", desc := "(I)I" } : Jvm.MethodName) prog_64_method_3_code (4 : Nat) (Option.some Jvm.ClassFile.FieldType.int)]
set_option maxRecDepth 65536 in
theorem codes_eq : words1.filter isCode = codes1 := rfl
theorem w_codes : ∀ c ∈ words1.filter isCode, c.before args0 about1 = true := by
  rw [codes_eq]
  intro c hc
  simp only [codes1, List.mem_cons, List.not_mem_nil, or_false] at hc
  rcases hc with rfl | rfl | rfl | rfl | rfl | rfl
  · exact w_c0
  · exact w_c1
  · exact w_c2
  · exact w_c3
  · exact w_c4
  · exact w_c5
set_option maxRecDepth 65536 in
theorem w_t1 : (words1.take 24).all (fun c => isCode c || c.before args0 about1) = true := by decide +kernel
set_option maxRecDepth 65536 in
theorem w_t2 : (words1.drop 24).all (fun c => isCode c || c.before args0 about1) = true := by decide +kernel
theorem w_tables : (allAtoms (Jvm.Cond.code x code maxLocals ret :: tables_1)).before args0 about1 = true := by
  rw [allAtoms_all]
  show words1.all (fun c => c.before args0 about1) = true
  refine all_split ?_ w_codes
  rw [← List.take_append_drop 24 words1, List.all_append, w_t1, w_t2]
  rfl
set_option maxRecDepth 65536 in
theorem w_case : (Jvm.Cond.and given_1 narrow_1).before args0 about1 = true := by decide +kernel
theorem w_applies : (headSpec (Jvm.Cond.code x code maxLocals ret :: tables_1) room_1).applies x e0.platform about1 = true :=
  (Spec.applies_iff w_frames).mpr ⟨w_running, w_runnable, w_alone, w_named, w_hears, w_ripe, w_room, w_tables⟩
theorem atStart : AtStart classFile x code maxLocals ret World_1 tables_1 room_1 Calls_1 rest_1 Pre_1 launch0 p0 e0 about1 theMethod args0 below0 :=
  ⟨lists_1, trivial, launch0.admits_env _ _ _, launch0.least_env, fairChoices_fair.cas, fairChoices_fair.clock, w_frames, w_args, w_heap, w_applies, trivial, trivial, w_case⟩
end start1
theorem witness_1 : WitnessClaimed_1 := ⟨start1.p0, start1.e0, start1.about1, start1.theMethod, start1.args0, start1.below0, start1.atStart⟩
end Jvm.Pilot.@@N@@
