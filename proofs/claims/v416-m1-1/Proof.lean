import JvmDerived
import JvmDerived.Pilot.@@N@@Statement
import JvmDerived.Pilot.@@N@@Code
set_option linter.unusedVariables false
set_option linter.unusedSimpArgs false
namespace Jvm.Pilot.@@N@@
open Jvm Jvm.ClassFile Sem Op Lib Jvm.Free Jvm.Stand Jvm.LawKit Jvm.RoadKit Bundle Jvm.Pilot.@@N@@.Jvm.D
/-! own_: a walk in backward style: 'Ends': from here the body comes to its end and Q holds there. One law an instruction, over frames written mkF. -/
namespace Wk
section
variable {p : Program} {l : Launch} {e : Env} {R : Room} {s : State} {m : MethodId} {args : Array Value} {below : List Frame} {meth : Method} {c : Code} {T : State} {locs : List Loc} {cells slots : Nat} {Z : State} {a0 : Array Value} {h : Heap} {y : MethodName} {cd : ByteArray} {ml : Nat} {ret : Option FieldType} {Q : Option Value → Heap → List Loc → Prop} {pc pc' : Nat} {ls : Array Slot} {st : List Value}
/-- the run from T with the frame f comes to the body's end, and Q holds there -/
def Ends (p : Program) (e : Env) (s : State) (below : List Frame) (R : Room) (Q : Option Value → Heap → List Loc → Prop) (T : State) (f : JFrame) : Prop :=
  ∃ s₂ o, Steps p.tables e below (T.setTop f) s₂ ∧ s₂.status = .running ∧ Ended s₂ below o ∧ ∃ v L, o = .returned v ∧ Q v s₂.heap L ∧ FrameEnd s o s₂ L R.cells R.slots
/-- what stands still while one body is walked -/
def K (p : Program) (s : State) (m : MethodId) (meth : Method) (c : Code) (Z : State) (y : MethodName) (cd : ByteArray) (ml : Nat) (ret : Option FieldType) : Prop :=
  p.tables.exec = Jvm.exec ∧ Z.Warmed39 s.vm ∧ c.code = cd ∧ c.maxLocals = ml ∧ s.vm.findClass y.cls = some m.cls ∧ meth.sig.returnType = ret ∧ meth.locks = false ∧ meth.name = y.name
/-- a body's contract: called with as' over the heap h it returns, and Q holds -/
def Met (l : Launch) (y : MethodName) (cd : ByteArray) (ml : Nat) (ret : Option FieldType) (rm : Room) (as' : Array Value) (Z : State) (h : Heap) (Q : Option Value → Heap → List Loc → Prop) (ws : List Jvm.Cond) : Prop :=
  MetFree l y (head1 (Jvm.Cond.code y cd ml ret :: ws) rm) (fun a U => a = as' ∧ Z.Warmed39 U.vm ∧ U.heap = h) (fun _ _ _ _ _ => True) (fun _ U o U' => ∃ v L, o = .returned v ∧ Q v U'.heap L ∧ FrameEnd U o U' L rm.cells rm.slots)
theorem enter {rm : Room} {as' : Array Value} {ws : List Jvm.Cond} (hpl : plainFor y = true)
    (body : ∀ (p : Program) (e : Env) (s : State) (m : MethodId) (below : List Frame) (meth : Method) (c : Code) (T : State), K p s m meth c Z y cd ml ret → Stand p l e rm s m as' below meth c T [] 0 0 → T.heap = h → Ends p e s below rm Q T (entryFrame m as' ml)) :
    Met l y cd ml ret rm as' Z h Q ws := by
  refine MetFree.of_bodySF hpl hisR ?_
  intro p e s m args below meth c s₁ Bd hml0 hP hK
  obtain ⟨rfl, hZ, hh⟩ := hP
  exact body p e s m below meth c s₁ ⟨Bd.exec, hZ, Bd.bytes, hml0, findClass_of_methodNamed Bd.named, Bd.returns, Bd.notSynchronized, (name_of_methodNamed Bd.named Bd.method).1⟩ (Stand.of_body Bd) (by rw [← hh, Bd.state]; rfl)
theorem Ends.map {T' : State} {f f' : JFrame} (st : ∀ target, Steps p.tables e below (T'.setTop f') target → Steps p.tables e below (T.setTop f) target) (h : Ends p e s below R Q T' f') : Ends p e s below R Q T f := by
  obtain ⟨s₂, o, h1, h2⟩ := h
  exact ⟨s₂, o, st _ h1, h2⟩
theorem Ends.cast {f f' : JFrame} (q : f = f') (h : Ends p e s below R Q T f') : Ends p e s below R Q T f := q ▸ h
theorem w {ws : List Jvm.Cond} (hw : ∀ d ∈ ws, d.before a0 Z = true) (i : Nat) {d : Jvm.Cond} (q : ws[i]? = some d) : d.before a0 Z = true := hw d (List.mem_of_getElem? q)
/-! loads, stores, constants -/
theorem iload_n (k : K p s m meth c Z y cd ml ret) (X : Stand p l e R s m args below meth c T locs cells slots) {i : Fin 4} {v : Int32} (hd : decode cd pc = .ok (.iload_n i, 1)) (hl : ls[i.val]? = some (.val (.int v))) (pc' : Nat) (hp : pc + 1 = pc') (h : Ends p e s below R Q T (mkF m pc' ls (.int v :: st))) : Ends p e s below R Q T (mkF m pc ls st) := by
  subst hp; exact h.map fun _ q => XS.iloadN X.here k.1 rfl (hb k.2.2.1 hd) hl q
theorem iload (k : K p s m meth c Z y cd ml ret) (X : Stand p l e R s m args below meth c T locs cells slots) {i : Nat} {v : Int32} (hd : decode cd pc = .ok (.iload i, 2)) (hl : ls[i]? = some (.val (.int v))) (pc' : Nat) (hp : pc + 2 = pc') (h : Ends p e s below R Q T (mkF m pc' ls (.int v :: st))) : Ends p e s below R Q T (mkF m pc ls st) := by
  subst hp; exact h.map fun _ q => XS.iload X.here k.1 rfl (hb k.2.2.1 hd) hl q
theorem lload_n (k : K p s m meth c Z y cd ml ret) (X : Stand p l e R s m args below meth c T locs cells slots) {i : Fin 4} {v : Int64} (hd : decode cd pc = .ok (.lload_n i, 1)) (hl : ls[i.val]? = some (.val (.long v))) (pc' : Nat) (hp : pc + 1 = pc') (h : Ends p e s below R Q T (mkF m pc' ls (.long v :: st))) : Ends p e s below R Q T (mkF m pc ls st) := by
  subst hp; exact h.map fun _ q => XS.lloadN X.here k.1 rfl (hb k.2.2.1 hd) hl q
theorem lload (k : K p s m meth c Z y cd ml ret) (X : Stand p l e R s m args below meth c T locs cells slots) {i : Nat} {v : Int64} (hd : decode cd pc = .ok (.lload i, 2)) (hl : ls[i]? = some (.val (.long v))) (pc' : Nat) (hp : pc + 2 = pc') (h : Ends p e s below R Q T (mkF m pc' ls (.long v :: st))) : Ends p e s below R Q T (mkF m pc ls st) := by
  subst hp; exact h.map fun _ q => XS.lload X.here k.1 rfl (hb k.2.2.1 hd) hl q
theorem aload_n (k : K p s m meth c Z y cd ml ret) (X : Stand p l e R s m args below meth c T locs cells slots) {i : Fin 4} {v : Value} (hd : decode cd pc = .ok (.aload_n i, 1)) (hl : ls[i.val]? = some (.val v)) (hv : v.isRef = true) (pc' : Nat) (hp : pc + 1 = pc') (h : Ends p e s below R Q T (mkF m pc' ls (v :: st))) : Ends p e s below R Q T (mkF m pc ls st) := by
  subst hp; exact h.map fun _ q => XS.aloadN X.here k.1 rfl (hb k.2.2.1 hd) hl hv q
theorem aload (k : K p s m meth c Z y cd ml ret) (X : Stand p l e R s m args below meth c T locs cells slots) {i : Nat} {v : Value} (hd : decode cd pc = .ok (.aload i, 2)) (hl : ls[i]? = some (.val v)) (hv : v.isRef = true) (pc' : Nat) (hp : pc + 2 = pc') (h : Ends p e s below R Q T (mkF m pc' ls (v :: st))) : Ends p e s below R Q T (mkF m pc ls st) := by
  subst hp; exact h.map fun _ q => XS.aload X.here k.1 rfl (hb k.2.2.1 hd) hl hv q
theorem istore_n (k : K p s m meth c Z y cd ml ret) (X : Stand p l e R s m args below meth c T locs cells slots) {i : Fin 4} {v : Int32} (hd : decode cd pc = .ok (.istore_n i, 1)) (ls' : Array Slot) (hl : storeLocals ls i.val (.int v) = some ls') (pc' : Nat) (hp : pc + 1 = pc') (h : Ends p e s below R Q T (mkF m pc' ls' st)) : Ends p e s below R Q T (mkF m pc ls (.int v :: st)) := by
  subst hp; exact h.map fun _ q => XS.istoreN X.here k.1 rfl (hb k.2.2.1 hd) rfl hl q
theorem istore (k : K p s m meth c Z y cd ml ret) (X : Stand p l e R s m args below meth c T locs cells slots) {i : Nat} {v : Int32} (hd : decode cd pc = .ok (.istore i, 2)) (ls' : Array Slot) (hl : storeLocals ls i (.int v) = some ls') (pc' : Nat) (hp : pc + 2 = pc') (h : Ends p e s below R Q T (mkF m pc' ls' st)) : Ends p e s below R Q T (mkF m pc ls (.int v :: st)) := by
  subst hp; exact h.map fun _ q => XS.istore X.here k.1 rfl (hb k.2.2.1 hd) rfl hl q
theorem lstore_n (k : K p s m meth c Z y cd ml ret) (X : Stand p l e R s m args below meth c T locs cells slots) {i : Fin 4} {v : Int64} (hd : decode cd pc = .ok (.lstore_n i, 1)) (ls' : Array Slot) (hl : storeLocals ls i.val (.long v) = some ls') (pc' : Nat) (hp : pc + 1 = pc') (h : Ends p e s below R Q T (mkF m pc' ls' st)) : Ends p e s below R Q T (mkF m pc ls (.long v :: st)) := by
  subst hp; exact h.map fun _ q => XS.lstoreN X.here k.1 rfl (hb k.2.2.1 hd) rfl hl q
theorem lstore (k : K p s m meth c Z y cd ml ret) (X : Stand p l e R s m args below meth c T locs cells slots) {i : Nat} {v : Int64} (hd : decode cd pc = .ok (.lstore i, 2)) (ls' : Array Slot) (hl : storeLocals ls i (.long v) = some ls') (pc' : Nat) (hp : pc + 2 = pc') (h : Ends p e s below R Q T (mkF m pc' ls' st)) : Ends p e s below R Q T (mkF m pc ls (.long v :: st)) := by
  subst hp; exact h.map fun _ q => XS.lstore X.here k.1 rfl (hb k.2.2.1 hd) rfl hl q
theorem astore_n (k : K p s m meth c Z y cd ml ret) (X : Stand p l e R s m args below meth c T locs cells slots) {i : Fin 4} {v : Value} (hd : decode cd pc = .ok (.astore_n i, 1)) (hv : v.isRef = true) (ls' : Array Slot) (hl : storeLocals ls i.val v = some ls') (pc' : Nat) (hp : pc + 1 = pc') (h : Ends p e s below R Q T (mkF m pc' ls' st)) : Ends p e s below R Q T (mkF m pc ls (v :: st)) := by
  subst hp; exact h.map fun _ q => XS.astoreN X.here k.1 rfl (hb k.2.2.1 hd) rfl hv hl q
theorem astore (k : K p s m meth c Z y cd ml ret) (X : Stand p l e R s m args below meth c T locs cells slots) {i : Nat} {v : Value} (hd : decode cd pc = .ok (.astore i, 2)) (hv : v.isRef = true) (ls' : Array Slot) (hl : storeLocals ls i v = some ls') (pc' : Nat) (hp : pc + 2 = pc') (h : Ends p e s below R Q T (mkF m pc' ls' st)) : Ends p e s below R Q T (mkF m pc ls (v :: st)) := by
  subst hp; exact h.map fun _ q => XS.astore X.here k.1 rfl (hb k.2.2.1 hd) rfl hv hl q
theorem iinc (k : K p s m meth c Z y cd ml ret) (X : Stand p l e R s m args below meth c T locs cells slots) {i : Nat} {n : Int} {v : Int32} (hd : decode cd pc = .ok (.iinc i n, 3)) (hl : ls[i]? = some (.val (.int v))) (ls' : Array Slot) (hl' : storeLocals ls i (.int (v + Int32.ofInt n)) = some ls') (pc' : Nat) (hp : pc + 3 = pc') (h : Ends p e s below R Q T (mkF m pc' ls' st)) : Ends p e s below R Q T (mkF m pc ls st) := by
  subst hp; exact h.map fun _ q => XS.iinc X.here k.1 rfl (hb k.2.2.1 hd) hl hl' q
theorem iconst (k : K p s m meth c Z y cd ml ret) (X : Stand p l e R s m args below meth c T locs cells slots) {i : Int} (hd : decode cd pc = .ok (.iconst i, 1)) (z : Int32) (hz : Int32.ofInt i = z) (pc' : Nat) (hp : pc + 1 = pc') (h : Ends p e s below R Q T (mkF m pc' ls (.int z :: st))) : Ends p e s below R Q T (mkF m pc ls st) := by
  subst hp hz; exact h.map fun _ q => XS.iconst X.here k.1 rfl (hb k.2.2.1 hd) q
theorem bipush (k : K p s m meth c Z y cd ml ret) (X : Stand p l e R s m args below meth c T locs cells slots) {i : Int} (hd : decode cd pc = .ok (.bipush i, 2)) (z : Int32) (hz : (Int8.ofInt i).toInt32 = z) (pc' : Nat) (hp : pc + 2 = pc') (h : Ends p e s below R Q T (mkF m pc' ls (.int z :: st))) : Ends p e s below R Q T (mkF m pc ls st) := by
  subst hp hz; exact h.map fun _ q => XS.bipush X.here k.1 rfl (hb k.2.2.1 hd) q
theorem sipush (k : K p s m meth c Z y cd ml ret) (X : Stand p l e R s m args below meth c T locs cells slots) {i : Int} (hd : decode cd pc = .ok (.sipush i, 3)) (z : Int32) (hz : (Int16.ofInt i).toInt32 = z) (pc' : Nat) (hp : pc + 3 = pc') (h : Ends p e s below R Q T (mkF m pc' ls (.int z :: st))) : Ends p e s below R Q T (mkF m pc ls st) := by
  subst hp hz; exact h.map fun _ q => XS.sipush X.here k.1 rfl (hb k.2.2.1 hd) q
theorem lconst (k : K p s m meth c Z y cd ml ret) (X : Stand p l e R s m args below meth c T locs cells slots) {i : Fin 2} (hd : decode cd pc = .ok (.lconst i, 1)) (z : Int64) (hz : Int64.ofNat i = z) (pc' : Nat) (hp : pc + 1 = pc') (h : Ends p e s below R Q T (mkF m pc' ls (.long z :: st))) : Ends p e s below R Q T (mkF m pc ls st) := by
  subst hp hz; exact h.map fun _ q => XS.lconst X.here k.1 rfl (hb k.2.2.1 hd) q
theorem aconst_null (k : K p s m meth c Z y cd ml ret) (X : Stand p l e R s m args below meth c T locs cells slots) (hd : decode cd pc = .ok (.aconst_null, 1)) (pc' : Nat) (hp : pc + 1 = pc') (h : Ends p e s below R Q T (mkF m pc' ls (.null :: st))) : Ends p e s below R Q T (mkF m pc ls st) := by
  subst hp; exact h.map fun _ q => XS.aconstNull X.here k.1 rfl (hb k.2.2.1 hd) q
theorem ldc (k : K p s m meth c Z y cd ml ret) (X : Stand p l e R s m args below meth c T locs cells slots) {i : Nat} {z : Int32} (hd : decode cd pc = .ok (.ldc i, 2)) (hc : (Jvm.Cond.constant y.cls i z).before a0 Z = true) (pc' : Nat) (hp : pc + 2 = pc') (h : Ends p e s below R Q T (mkF m pc' ls (.int z :: st))) : Ends p e s below R Q T (mkF m pc ls st) := by
  subst hp; exact h.map (X.ldcInt k.1 k.2.2.2.2.1 (mvT k.2.1 hc) rfl (hb k.2.2.1 hd))
theorem ldc2_w (k : K p s m meth c Z y cd ml ret) (X : Stand p l e R s m args below meth c T locs cells slots) {i : Nat} {z : Int64} (hd : decode cd pc = .ok (.ldc2_w i, 3)) (hc : (Jvm.Cond.constantLong y.cls i z).before a0 Z = true) (pc' : Nat) (hp : pc + 3 = pc') (h : Ends p e s below R Q T (mkF m pc' ls (.long z :: st))) : Ends p e s below R Q T (mkF m pc ls st) := by
  subst hp; exact h.map (X.ldc2Long k.1 k.2.2.2.2.1 (mvT k.2.1 hc) rfl (hb k.2.2.1 hd))
theorem ldcF (k : K p s m meth c Z y cd ml ret) (X : Stand p l e R s m args below meth c T locs cells slots) {i : Nat} {z : UInt32} (hd : decode cd pc = .ok (.ldc i, 2)) (hc : (Jvm.Cond.constantFloat y.cls i z).before a0 Z = true) (pc' : Nat) (hp : pc + 2 = pc') (h : Ends p e s below R Q T (mkF m pc' ls (.float z :: st))) : Ends p e s below R Q T (mkF m pc ls st) := by
  subst hp; exact h.map (X.ldcFloatC k.1 k.2.2.2.2.1 (mvT k.2.1 hc) rfl (hb k.2.2.1 hd))
/-! arithmetic -/
theorem iadd (k : K p s m meth c Z y cd ml ret) (X : Stand p l e R s m args below meth c T locs cells slots) {a : Int32} {b : Int32} (hd : decode cd pc = .ok (.iadd, 1)) (pc' : Nat) (hp : pc + 1 = pc') (h : Ends p e s below R Q T (mkF m pc' ls (.int (a + b) :: st))) : Ends p e s below R Q T (mkF m pc ls (.int b :: .int a :: st)) := by
  subst hp; exact h.map fun _ q => XS.iadd X.here k.1 rfl (hb k.2.2.1 hd) rfl q
theorem ladd (k : K p s m meth c Z y cd ml ret) (X : Stand p l e R s m args below meth c T locs cells slots) {a : Int64} {b : Int64} (hd : decode cd pc = .ok (.ladd, 1)) (pc' : Nat) (hp : pc + 1 = pc') (h : Ends p e s below R Q T (mkF m pc' ls (.long (a + b) :: st))) : Ends p e s below R Q T (mkF m pc ls (.long b :: .long a :: st)) := by
  subst hp; exact h.map fun _ q => XS.ladd X.here k.1 rfl (hb k.2.2.1 hd) rfl q
theorem isub (k : K p s m meth c Z y cd ml ret) (X : Stand p l e R s m args below meth c T locs cells slots) {a : Int32} {b : Int32} (hd : decode cd pc = .ok (.isub, 1)) (pc' : Nat) (hp : pc + 1 = pc') (h : Ends p e s below R Q T (mkF m pc' ls (.int (a - b) :: st))) : Ends p e s below R Q T (mkF m pc ls (.int b :: .int a :: st)) := by
  subst hp; exact h.map fun _ q => XS.isub X.here k.1 rfl (hb k.2.2.1 hd) rfl q
theorem lsub (k : K p s m meth c Z y cd ml ret) (X : Stand p l e R s m args below meth c T locs cells slots) {a : Int64} {b : Int64} (hd : decode cd pc = .ok (.lsub, 1)) (pc' : Nat) (hp : pc + 1 = pc') (h : Ends p e s below R Q T (mkF m pc' ls (.long (a - b) :: st))) : Ends p e s below R Q T (mkF m pc ls (.long b :: .long a :: st)) := by
  subst hp; exact h.map fun _ q => XS.lsub X.here k.1 rfl (hb k.2.2.1 hd) rfl q
theorem imul (k : K p s m meth c Z y cd ml ret) (X : Stand p l e R s m args below meth c T locs cells slots) {a : Int32} {b : Int32} (hd : decode cd pc = .ok (.imul, 1)) (pc' : Nat) (hp : pc + 1 = pc') (h : Ends p e s below R Q T (mkF m pc' ls (.int (a * b) :: st))) : Ends p e s below R Q T (mkF m pc ls (.int b :: .int a :: st)) := by
  subst hp; exact h.map fun _ q => XS.imul X.here k.1 rfl (hb k.2.2.1 hd) rfl q
theorem lmul (k : K p s m meth c Z y cd ml ret) (X : Stand p l e R s m args below meth c T locs cells slots) {a : Int64} {b : Int64} (hd : decode cd pc = .ok (.lmul, 1)) (pc' : Nat) (hp : pc + 1 = pc') (h : Ends p e s below R Q T (mkF m pc' ls (.long (a * b) :: st))) : Ends p e s below R Q T (mkF m pc ls (.long b :: .long a :: st)) := by
  subst hp; exact h.map fun _ q => XS.lmul X.here k.1 rfl (hb k.2.2.1 hd) rfl q
theorem iand (k : K p s m meth c Z y cd ml ret) (X : Stand p l e R s m args below meth c T locs cells slots) {a : Int32} {b : Int32} (hd : decode cd pc = .ok (.iand, 1)) (pc' : Nat) (hp : pc + 1 = pc') (h : Ends p e s below R Q T (mkF m pc' ls (.int (a &&& b) :: st))) : Ends p e s below R Q T (mkF m pc ls (.int b :: .int a :: st)) := by
  subst hp; exact h.map fun _ q => XS.iand X.here k.1 rfl (hb k.2.2.1 hd) rfl q
theorem land (k : K p s m meth c Z y cd ml ret) (X : Stand p l e R s m args below meth c T locs cells slots) {a : Int64} {b : Int64} (hd : decode cd pc = .ok (.land, 1)) (pc' : Nat) (hp : pc + 1 = pc') (h : Ends p e s below R Q T (mkF m pc' ls (.long (a &&& b) :: st))) : Ends p e s below R Q T (mkF m pc ls (.long b :: .long a :: st)) := by
  subst hp; exact h.map fun _ q => XS.land X.here k.1 rfl (hb k.2.2.1 hd) rfl q
theorem ior (k : K p s m meth c Z y cd ml ret) (X : Stand p l e R s m args below meth c T locs cells slots) {a : Int32} {b : Int32} (hd : decode cd pc = .ok (.ior, 1)) (pc' : Nat) (hp : pc + 1 = pc') (h : Ends p e s below R Q T (mkF m pc' ls (.int (a ||| b) :: st))) : Ends p e s below R Q T (mkF m pc ls (.int b :: .int a :: st)) := by
  subst hp; exact h.map fun _ q => XS.ior X.here k.1 rfl (hb k.2.2.1 hd) rfl q
theorem lor (k : K p s m meth c Z y cd ml ret) (X : Stand p l e R s m args below meth c T locs cells slots) {a : Int64} {b : Int64} (hd : decode cd pc = .ok (.lor, 1)) (pc' : Nat) (hp : pc + 1 = pc') (h : Ends p e s below R Q T (mkF m pc' ls (.long (a ||| b) :: st))) : Ends p e s below R Q T (mkF m pc ls (.long b :: .long a :: st)) := by
  subst hp; exact h.map fun _ q => XS.lor X.here k.1 rfl (hb k.2.2.1 hd) rfl q
theorem ixor (k : K p s m meth c Z y cd ml ret) (X : Stand p l e R s m args below meth c T locs cells slots) {a : Int32} {b : Int32} (hd : decode cd pc = .ok (.ixor, 1)) (pc' : Nat) (hp : pc + 1 = pc') (h : Ends p e s below R Q T (mkF m pc' ls (.int (a ^^^ b) :: st))) : Ends p e s below R Q T (mkF m pc ls (.int b :: .int a :: st)) := by
  subst hp; exact h.map fun _ q => XS.ixor X.here k.1 rfl (hb k.2.2.1 hd) rfl q
theorem lxor (k : K p s m meth c Z y cd ml ret) (X : Stand p l e R s m args below meth c T locs cells slots) {a : Int64} {b : Int64} (hd : decode cd pc = .ok (.lxor, 1)) (pc' : Nat) (hp : pc + 1 = pc') (h : Ends p e s below R Q T (mkF m pc' ls (.long (a ^^^ b) :: st))) : Ends p e s below R Q T (mkF m pc ls (.long b :: .long a :: st)) := by
  subst hp; exact h.map fun _ q => XS.lxor X.here k.1 rfl (hb k.2.2.1 hd) rfl q
theorem idiv (k : K p s m meth c Z y cd ml ret) (X : Stand p l e R s m args below meth c T locs cells slots) {a : Int32} {b : Int32} (hd : decode cd pc = .ok (.idiv, 1)) (hy : b ≠ 0) (pc' : Nat) (hp : pc + 1 = pc') (h : Ends p e s below R Q T (mkF m pc' ls (.int (a / b) :: st))) : Ends p e s below R Q T (mkF m pc ls (.int b :: .int a :: st)) := by
  subst hp; exact h.map fun _ q => XS.idiv X.here k.1 rfl (hb k.2.2.1 hd) rfl hy q
theorem ldiv (k : K p s m meth c Z y cd ml ret) (X : Stand p l e R s m args below meth c T locs cells slots) {a : Int64} {b : Int64} (hd : decode cd pc = .ok (.ldiv, 1)) (hy : b ≠ 0) (pc' : Nat) (hp : pc + 1 = pc') (h : Ends p e s below R Q T (mkF m pc' ls (.long (a / b) :: st))) : Ends p e s below R Q T (mkF m pc ls (.long b :: .long a :: st)) := by
  subst hp; exact h.map fun _ q => XS.ldiv X.here k.1 rfl (hb k.2.2.1 hd) rfl hy q
theorem ishl (k : K p s m meth c Z y cd ml ret) (X : Stand p l e R s m args below meth c T locs cells slots) {a : Int32} {b : Int32} (hd : decode cd pc = .ok (.ishl, 1)) (pc' : Nat) (hp : pc + 1 = pc') (h : Ends p e s below R Q T (mkF m pc' ls (.int (a <<< (b &&& 31)) :: st))) : Ends p e s below R Q T (mkF m pc ls (.int b :: .int a :: st)) := by
  subst hp; exact h.map fun _ q => XS.ishl X.here k.1 rfl (hb k.2.2.1 hd) rfl q
theorem ishr (k : K p s m meth c Z y cd ml ret) (X : Stand p l e R s m args below meth c T locs cells slots) {a : Int32} {b : Int32} (hd : decode cd pc = .ok (.ishr, 1)) (pc' : Nat) (hp : pc + 1 = pc') (h : Ends p e s below R Q T (mkF m pc' ls (.int (a >>> (b &&& 31)) :: st))) : Ends p e s below R Q T (mkF m pc ls (.int b :: .int a :: st)) := by
  subst hp; exact h.map fun _ q => XS.ishr X.here k.1 rfl (hb k.2.2.1 hd) rfl q
theorem iushr (k : K p s m meth c Z y cd ml ret) (X : Stand p l e R s m args below meth c T locs cells slots) {a : Int32} {b : Int32} (hd : decode cd pc = .ok (.iushr, 1)) (pc' : Nat) (hp : pc + 1 = pc') (h : Ends p e s below R Q T (mkF m pc' ls (.int ((a.toUInt32 >>> (b &&& 31).toUInt32).toInt32) :: st))) : Ends p e s below R Q T (mkF m pc ls (.int b :: .int a :: st)) := by
  subst hp; exact h.map fun _ q => XS.iushr X.here k.1 rfl (hb k.2.2.1 hd) rfl q
theorem lshl (k : K p s m meth c Z y cd ml ret) (X : Stand p l e R s m args below meth c T locs cells slots) {a : Int64} {b : Int32} (hd : decode cd pc = .ok (.lshl, 1)) (pc' : Nat) (hp : pc + 1 = pc') (h : Ends p e s below R Q T (mkF m pc' ls (.long (a <<< (b &&& 0x3f).toInt64) :: st))) : Ends p e s below R Q T (mkF m pc ls (.int b :: .long a :: st)) := by
  subst hp; exact h.map fun _ q => XS.lshl X.here k.1 rfl (hb k.2.2.1 hd) rfl q
theorem lshr (k : K p s m meth c Z y cd ml ret) (X : Stand p l e R s m args below meth c T locs cells slots) {a : Int64} {b : Int32} (hd : decode cd pc = .ok (.lshr, 1)) (pc' : Nat) (hp : pc + 1 = pc') (h : Ends p e s below R Q T (mkF m pc' ls (.long (a >>> (b &&& 0x3f).toInt64) :: st))) : Ends p e s below R Q T (mkF m pc ls (.int b :: .long a :: st)) := by
  subst hp; exact h.map fun _ q => XS.lshr X.here k.1 rfl (hb k.2.2.1 hd) rfl q
theorem lushr (k : K p s m meth c Z y cd ml ret) (X : Stand p l e R s m args below meth c T locs cells slots) {a : Int64} {b : Int32} (hd : decode cd pc = .ok (.lushr, 1)) (pc' : Nat) (hp : pc + 1 = pc') (h : Ends p e s below R Q T (mkF m pc' ls (.long ((a.toUInt64 >>> (b &&& 0x3f).toInt64.toUInt64).toInt64) :: st))) : Ends p e s below R Q T (mkF m pc ls (.int b :: .long a :: st)) := by
  subst hp; exact h.map fun _ q => XS.lushr X.here k.1 rfl (hb k.2.2.1 hd) rfl q
theorem irem (k : K p s m meth c Z y cd ml ret) (X : Stand p l e R s m args below meth c T locs cells slots) {a b : Int32} (hd : decode cd pc = .ok (.irem, 1)) (hy : b ≠ 0) (pc' : Nat) (hp : pc + 1 = pc') (h : Ends p e s below R Q T (mkF m pc' ls (.int (a % b) :: st))) : Ends p e s below R Q T (mkF m pc ls (.int b :: .int a :: st)) := by
  subst hp; exact h.map fun _ q => iremM X k.1 rfl (hb k.2.2.1 hd) rfl hy q
theorem ineg (k : K p s m meth c Z y cd ml ret) (X : Stand p l e R s m args below meth c T locs cells slots) {a : Int32} (hd : decode cd pc = .ok (.ineg, 1)) (pc' : Nat) (hp : pc + 1 = pc') (h : Ends p e s below R Q T (mkF m pc' ls (.int (-a) :: st))) : Ends p e s below R Q T (mkF m pc ls (.int a :: st)) := by
  subst hp; exact h.map fun _ q => XS.ineg X.here k.1 rfl (hb k.2.2.1 hd) rfl q
theorem lneg (k : K p s m meth c Z y cd ml ret) (X : Stand p l e R s m args below meth c T locs cells slots) {a : Int64} (hd : decode cd pc = .ok (.lneg, 1)) (pc' : Nat) (hp : pc + 1 = pc') (h : Ends p e s below R Q T (mkF m pc' ls (.long (-a) :: st))) : Ends p e s below R Q T (mkF m pc ls (.long a :: st)) := by
  subst hp; exact h.map fun _ q => XS.lneg X.here k.1 rfl (hb k.2.2.1 hd) rfl q
theorem i2l (k : K p s m meth c Z y cd ml ret) (X : Stand p l e R s m args below meth c T locs cells slots) {a : Int32} (hd : decode cd pc = .ok (.i2l, 1)) (pc' : Nat) (hp : pc + 1 = pc') (h : Ends p e s below R Q T (mkF m pc' ls (.long (a.toInt64) :: st))) : Ends p e s below R Q T (mkF m pc ls (.int a :: st)) := by
  subst hp; exact h.map fun _ q => XS.i2l X.here k.1 rfl (hb k.2.2.1 hd) rfl q
theorem l2i (k : K p s m meth c Z y cd ml ret) (X : Stand p l e R s m args below meth c T locs cells slots) {a : Int64} (hd : decode cd pc = .ok (.l2i, 1)) (pc' : Nat) (hp : pc + 1 = pc') (h : Ends p e s below R Q T (mkF m pc' ls (.int (a.toInt32) :: st))) : Ends p e s below R Q T (mkF m pc ls (.long a :: st)) := by
  subst hp; exact h.map fun _ q => XS.l2i X.here k.1 rfl (hb k.2.2.1 hd) rfl q
theorem i2b (k : K p s m meth c Z y cd ml ret) (X : Stand p l e R s m args below meth c T locs cells slots) {a : Int32} (hd : decode cd pc = .ok (.i2b, 1)) (pc' : Nat) (hp : pc + 1 = pc') (h : Ends p e s below R Q T (mkF m pc' ls (.int (a.toInt8.toInt32) :: st))) : Ends p e s below R Q T (mkF m pc ls (.int a :: st)) := by
  subst hp; exact h.map fun _ q => XS.i2b X.here k.1 rfl (hb k.2.2.1 hd) rfl q
theorem i2s (k : K p s m meth c Z y cd ml ret) (X : Stand p l e R s m args below meth c T locs cells slots) {a : Int32} (hd : decode cd pc = .ok (.i2s, 1)) (pc' : Nat) (hp : pc + 1 = pc') (h : Ends p e s below R Q T (mkF m pc' ls (.int (a.toInt16.toInt32) :: st))) : Ends p e s below R Q T (mkF m pc ls (.int a :: st)) := by
  subst hp; exact h.map fun _ q => XS.i2s X.here k.1 rfl (hb k.2.2.1 hd) rfl q
theorem i2c (k : K p s m meth c Z y cd ml ret) (X : Stand p l e R s m args below meth c T locs cells slots) {a : Int32} (hd : decode cd pc = .ok (.i2c, 1)) (pc' : Nat) (hp : pc + 1 = pc') (h : Ends p e s below R Q T (mkF m pc' ls (.int (a.toUInt32.toUInt16.toUInt32.toInt32) :: st))) : Ends p e s below R Q T (mkF m pc ls (.int a :: st)) := by
  subst hp; exact h.map fun _ q => XS.i2c X.here k.1 rfl (hb k.2.2.1 hd) rfl q
/-! stack, jumps -/
theorem dup (k : K p s m meth c Z y cd ml ret) (X : Stand p l e R s m args below meth c T locs cells slots) {v : Value} (hd : decode cd pc = .ok (.dup, 1)) (hc : v.category = 1) (pc' : Nat) (hp : pc + 1 = pc') (h : Ends p e s below R Q T (mkF m pc' ls (v :: v :: st))) : Ends p e s below R Q T (mkF m pc ls (v :: st)) := by
  subst hp; exact h.map fun _ q => XS.dup X.here k.1 rfl (hb k.2.2.1 hd) rfl hc q
theorem pop (k : K p s m meth c Z y cd ml ret) (X : Stand p l e R s m args below meth c T locs cells slots) {v : Value} (hd : decode cd pc = .ok (.pop, 1)) (hc : v.category = 1) (pc' : Nat) (hp : pc + 1 = pc') (h : Ends p e s below R Q T (mkF m pc' ls st)) : Ends p e s below R Q T (mkF m pc ls (v :: st)) := by
  subst hp; exact h.map fun _ q => XS.pop X.here k.1 rfl (hb k.2.2.1 hd) rfl hc q
theorem dup_x1 (k : K p s m meth c Z y cd ml ret) (X : Stand p l e R s m args below meth c T locs cells slots) {v v' : Value} (hd : decode cd pc = .ok (.dup_x1, 1)) (hc : v.category = 1) (hc' : v'.category = 1) (pc' : Nat) (hp : pc + 1 = pc') (h : Ends p e s below R Q T (mkF m pc' ls (v :: v' :: v :: st))) : Ends p e s below R Q T (mkF m pc ls (v :: v' :: st)) := by
  subst hp; exact h.map fun _ q => XS.dupX1 X.here k.1 rfl (hb k.2.2.1 hd) rfl hc hc' q
theorem dup2 (k : K p s m meth c Z y cd ml ret) (X : Stand p l e R s m args below meth c T locs cells slots) {v v' : Value} (hd : decode cd pc = .ok (.dup2, 1)) (hc : v.category = 1) (hc' : v'.category = 1) (pc' : Nat) (hp : pc + 1 = pc') (h : Ends p e s below R Q T (mkF m pc' ls (v :: v' :: v :: v' :: st))) : Ends p e s below R Q T (mkF m pc ls (v :: v' :: st)) := by
  subst hp; exact h.map fun _ q => Jvm.Free.XT.dup2 X.here k.1 rfl (hb k.2.2.1 hd) rfl hc hc' q
theorem goto (k : K p s m meth c Z y cd ml ret) (X : Stand p l e R s m args below meth c T locs cells slots) {o : Int} (hd : decode cd pc = .ok (.goto o, 3)) (ho : 0 ≤ (pc : Int) + o) (pc' : Nat) (hp : ((pc : Int) + o).toNat = pc') (h : Ends p e s below R Q T (mkF m pc' ls st)) : Ends p e s below R Q T (mkF m pc ls st) := by
  exact h.map fun _ q => XS.goto X.here k.1 rfl rfl (hb k.2.2.1 hd) ho hp q
theorem icmp_lt (k : K p s m meth c Z y cd ml ret) (X : Stand p l e R s m args below meth c T locs cells slots) {a b : Int32} {o : Int} (hd : decode cd pc = .ok (.if_icmp .lt o, 3)) (ho : 0 ≤ (pc : Int) + o) (py pn : Nat) (hy : ((pc : Int) + o).toNat = py) (hn : pc + 3 = pn) (h1 : a < b → Ends p e s below R Q T (mkF m py ls st)) (h2 : ¬ a < b → Ends p e s below R Q T (mkF m pn ls st)) : Ends p e s below R Q T (mkF m pc ls (.int b :: .int a :: st)) := by
  subst hn
  by_cases q : a < b
  · exact (h1 q).map fun _ r => XS.icmpYes X.here k.1 rfl rfl (hb k.2.2.1 hd) rfl (tlt q).1 ho hy r
  · exact (h2 q).map fun _ r => XS.icmpNo X.here k.1 rfl (hb k.2.2.1 hd) rfl (flt q).1 r
theorem if_lt (k : K p s m meth c Z y cd ml ret) (X : Stand p l e R s m args below meth c T locs cells slots) {a : Int32} {o : Int} (hd : decode cd pc = .ok (.ifCond .lt o, 3)) (ho : 0 ≤ (pc : Int) + o) (py pn : Nat) (hy : ((pc : Int) + o).toNat = py) (hn : pc + 3 = pn) (h1 : a < 0 → Ends p e s below R Q T (mkF m py ls st)) (h2 : ¬ a < 0 → Ends p e s below R Q T (mkF m pn ls st)) : Ends p e s below R Q T (mkF m pc ls (.int a :: st)) := by
  subst hn
  by_cases q : a < 0
  · exact (h1 q).map fun _ r => XS.ifYes X.here k.1 rfl rfl (hb k.2.2.1 hd) rfl ((if0 _ _).trans (tlt q).1) ho hy r
  · exact (h2 q).map fun _ r => XS.ifNo X.here k.1 rfl (hb k.2.2.1 hd) rfl ((if0 _ _).trans (flt q).1) r
theorem icmp_ge (k : K p s m meth c Z y cd ml ret) (X : Stand p l e R s m args below meth c T locs cells slots) {a b : Int32} {o : Int} (hd : decode cd pc = .ok (.if_icmp .ge o, 3)) (ho : 0 ≤ (pc : Int) + o) (py pn : Nat) (hy : ((pc : Int) + o).toNat = py) (hn : pc + 3 = pn) (h1 : ¬ a < b → Ends p e s below R Q T (mkF m py ls st)) (h2 : a < b → Ends p e s below R Q T (mkF m pn ls st)) : Ends p e s below R Q T (mkF m pc ls (.int b :: .int a :: st)) := by
  subst hn
  by_cases q : a < b
  · exact (h2 q).map fun _ r => XS.icmpNo X.here k.1 rfl (hb k.2.2.1 hd) rfl (tlt q).2.1 r
  · exact (h1 q).map fun _ r => XS.icmpYes X.here k.1 rfl rfl (hb k.2.2.1 hd) rfl (flt q).2.1 ho hy r
theorem if_ge (k : K p s m meth c Z y cd ml ret) (X : Stand p l e R s m args below meth c T locs cells slots) {a : Int32} {o : Int} (hd : decode cd pc = .ok (.ifCond .ge o, 3)) (ho : 0 ≤ (pc : Int) + o) (py pn : Nat) (hy : ((pc : Int) + o).toNat = py) (hn : pc + 3 = pn) (h1 : ¬ a < 0 → Ends p e s below R Q T (mkF m py ls st)) (h2 : a < 0 → Ends p e s below R Q T (mkF m pn ls st)) : Ends p e s below R Q T (mkF m pc ls (.int a :: st)) := by
  subst hn
  by_cases q : a < 0
  · exact (h2 q).map fun _ r => XS.ifNo X.here k.1 rfl (hb k.2.2.1 hd) rfl ((if0 _ _).trans (tlt q).2.1) r
  · exact (h1 q).map fun _ r => XS.ifYes X.here k.1 rfl rfl (hb k.2.2.1 hd) rfl ((if0 _ _).trans (flt q).2.1) ho hy r
theorem icmp_gt (k : K p s m meth c Z y cd ml ret) (X : Stand p l e R s m args below meth c T locs cells slots) {a b : Int32} {o : Int} (hd : decode cd pc = .ok (.if_icmp .gt o, 3)) (ho : 0 ≤ (pc : Int) + o) (py pn : Nat) (hy : ((pc : Int) + o).toNat = py) (hn : pc + 3 = pn) (h1 : b < a → Ends p e s below R Q T (mkF m py ls st)) (h2 : ¬ b < a → Ends p e s below R Q T (mkF m pn ls st)) : Ends p e s below R Q T (mkF m pc ls (.int b :: .int a :: st)) := by
  subst hn
  by_cases q : b < a
  · exact (h1 q).map fun _ r => XS.icmpYes X.here k.1 rfl rfl (hb k.2.2.1 hd) rfl (tlt q).2.2.1 ho hy r
  · exact (h2 q).map fun _ r => XS.icmpNo X.here k.1 rfl (hb k.2.2.1 hd) rfl (flt q).2.2.1 r
theorem if_gt (k : K p s m meth c Z y cd ml ret) (X : Stand p l e R s m args below meth c T locs cells slots) {a : Int32} {o : Int} (hd : decode cd pc = .ok (.ifCond .gt o, 3)) (ho : 0 ≤ (pc : Int) + o) (py pn : Nat) (hy : ((pc : Int) + o).toNat = py) (hn : pc + 3 = pn) (h1 : 0 < a → Ends p e s below R Q T (mkF m py ls st)) (h2 : ¬ 0 < a → Ends p e s below R Q T (mkF m pn ls st)) : Ends p e s below R Q T (mkF m pc ls (.int a :: st)) := by
  subst hn
  by_cases q : 0 < a
  · exact (h1 q).map fun _ r => XS.ifYes X.here k.1 rfl rfl (hb k.2.2.1 hd) rfl ((if0 _ _).trans (tlt q).2.2.1) ho hy r
  · exact (h2 q).map fun _ r => XS.ifNo X.here k.1 rfl (hb k.2.2.1 hd) rfl ((if0 _ _).trans (flt q).2.2.1) r
theorem icmp_le (k : K p s m meth c Z y cd ml ret) (X : Stand p l e R s m args below meth c T locs cells slots) {a b : Int32} {o : Int} (hd : decode cd pc = .ok (.if_icmp .le o, 3)) (ho : 0 ≤ (pc : Int) + o) (py pn : Nat) (hy : ((pc : Int) + o).toNat = py) (hn : pc + 3 = pn) (h1 : ¬ b < a → Ends p e s below R Q T (mkF m py ls st)) (h2 : b < a → Ends p e s below R Q T (mkF m pn ls st)) : Ends p e s below R Q T (mkF m pc ls (.int b :: .int a :: st)) := by
  subst hn
  by_cases q : b < a
  · exact (h2 q).map fun _ r => XS.icmpNo X.here k.1 rfl (hb k.2.2.1 hd) rfl (tlt q).2.2.2 r
  · exact (h1 q).map fun _ r => XS.icmpYes X.here k.1 rfl rfl (hb k.2.2.1 hd) rfl (flt q).2.2.2 ho hy r
theorem if_le (k : K p s m meth c Z y cd ml ret) (X : Stand p l e R s m args below meth c T locs cells slots) {a : Int32} {o : Int} (hd : decode cd pc = .ok (.ifCond .le o, 3)) (ho : 0 ≤ (pc : Int) + o) (py pn : Nat) (hy : ((pc : Int) + o).toNat = py) (hn : pc + 3 = pn) (h1 : ¬ 0 < a → Ends p e s below R Q T (mkF m py ls st)) (h2 : 0 < a → Ends p e s below R Q T (mkF m pn ls st)) : Ends p e s below R Q T (mkF m pc ls (.int a :: st)) := by
  subst hn
  by_cases q : 0 < a
  · exact (h2 q).map fun _ r => XS.ifNo X.here k.1 rfl (hb k.2.2.1 hd) rfl ((if0 _ _).trans (tlt q).2.2.2) r
  · exact (h1 q).map fun _ r => XS.ifYes X.here k.1 rfl rfl (hb k.2.2.1 hd) rfl ((if0 _ _).trans (flt q).2.2.2) ho hy r
theorem icmp_eq (k : K p s m meth c Z y cd ml ret) (X : Stand p l e R s m args below meth c T locs cells slots) {a b : Int32} {o : Int} (hd : decode cd pc = .ok (.if_icmp .eq o, 3)) (ho : 0 ≤ (pc : Int) + o) (py pn : Nat) (hy : ((pc : Int) + o).toNat = py) (hn : pc + 3 = pn) (h1 : a = b → Ends p e s below R Q T (mkF m py ls st)) (h2 : ¬ a = b → Ends p e s below R Q T (mkF m pn ls st)) : Ends p e s below R Q T (mkF m pc ls (.int b :: .int a :: st)) := by
  subst hn
  by_cases q : a = b
  · exact (h1 q).map fun _ r => XS.icmpYes X.here k.1 rfl rfl (hb k.2.2.1 hd) rfl (teq q).1 ho hy r
  · exact (h2 q).map fun _ r => XS.icmpNo X.here k.1 rfl (hb k.2.2.1 hd) rfl (feq q).1 r
theorem if_eq (k : K p s m meth c Z y cd ml ret) (X : Stand p l e R s m args below meth c T locs cells slots) {a : Int32} {o : Int} (hd : decode cd pc = .ok (.ifCond .eq o, 3)) (ho : 0 ≤ (pc : Int) + o) (py pn : Nat) (hy : ((pc : Int) + o).toNat = py) (hn : pc + 3 = pn) (h1 : a = 0 → Ends p e s below R Q T (mkF m py ls st)) (h2 : ¬ a = 0 → Ends p e s below R Q T (mkF m pn ls st)) : Ends p e s below R Q T (mkF m pc ls (.int a :: st)) := by
  subst hn
  by_cases q : a = 0
  · exact (h1 q).map fun _ r => XS.ifYes X.here k.1 rfl rfl (hb k.2.2.1 hd) rfl ((if0 _ _).trans (teq q).1) ho hy r
  · exact (h2 q).map fun _ r => XS.ifNo X.here k.1 rfl (hb k.2.2.1 hd) rfl ((if0 _ _).trans (feq q).1) r
theorem icmp_ne (k : K p s m meth c Z y cd ml ret) (X : Stand p l e R s m args below meth c T locs cells slots) {a b : Int32} {o : Int} (hd : decode cd pc = .ok (.if_icmp .ne o, 3)) (ho : 0 ≤ (pc : Int) + o) (py pn : Nat) (hy : ((pc : Int) + o).toNat = py) (hn : pc + 3 = pn) (h1 : ¬ a = b → Ends p e s below R Q T (mkF m py ls st)) (h2 : a = b → Ends p e s below R Q T (mkF m pn ls st)) : Ends p e s below R Q T (mkF m pc ls (.int b :: .int a :: st)) := by
  subst hn
  by_cases q : a = b
  · exact (h2 q).map fun _ r => XS.icmpNo X.here k.1 rfl (hb k.2.2.1 hd) rfl (teq q).2 r
  · exact (h1 q).map fun _ r => XS.icmpYes X.here k.1 rfl rfl (hb k.2.2.1 hd) rfl (feq q).2 ho hy r
theorem if_ne (k : K p s m meth c Z y cd ml ret) (X : Stand p l e R s m args below meth c T locs cells slots) {a : Int32} {o : Int} (hd : decode cd pc = .ok (.ifCond .ne o, 3)) (ho : 0 ≤ (pc : Int) + o) (py pn : Nat) (hy : ((pc : Int) + o).toNat = py) (hn : pc + 3 = pn) (h1 : ¬ a = 0 → Ends p e s below R Q T (mkF m py ls st)) (h2 : a = 0 → Ends p e s below R Q T (mkF m pn ls st)) : Ends p e s below R Q T (mkF m pc ls (.int a :: st)) := by
  subst hn
  by_cases q : a = 0
  · exact (h2 q).map fun _ r => XS.ifNo X.here k.1 rfl (hb k.2.2.1 hd) rfl ((if0 _ _).trans (teq q).2) r
  · exact (h1 q).map fun _ r => XS.ifYes X.here k.1 rfl rfl (hb k.2.2.1 hd) rfl ((if0 _ _).trans (feq q).2) ho hy r
theorem lcmp_lt (k : K p s m meth c Z y cd ml ret) (X : Stand p l e R s m args below meth c T locs cells slots) {a b : Int64} {o : Int} (hd0 : decode cd pc = .ok (.lcmp, 1)) (pc1 : Nat) (hp1 : pc + 1 = pc1) (hd : decode cd pc1 = .ok (.ifCond .lt o, 3)) (ho : 0 ≤ (pc1 : Int) + o) (py pn : Nat) (hy : ((pc1 : Int) + o).toNat = py) (hn : pc1 + 3 = pn) (h1 : a < b → Ends p e s below R Q T (mkF m py ls st)) (h2 : ¬ a < b → Ends p e s below R Q T (mkF m pn ls st)) : Ends p e s below R Q T (mkF m pc ls (.long b :: .long a :: st)) := by
  subst hp1
  refine Ends.map (T' := T) (f' := mkF m (pc + 1) ls (.int (lcmpW a b) :: st)) (fun _ q => XS.lcmp X.here k.1 rfl (hb k.2.2.1 hd0) rfl q) ?_
  exact if_lt k X hd ho py pn hy hn (fun q => h1 ((lw_lt a b).mp q)) (fun q => h2 (mt (lw_lt a b).mpr q))
theorem lcmp_ge (k : K p s m meth c Z y cd ml ret) (X : Stand p l e R s m args below meth c T locs cells slots) {a b : Int64} {o : Int} (hd0 : decode cd pc = .ok (.lcmp, 1)) (pc1 : Nat) (hp1 : pc + 1 = pc1) (hd : decode cd pc1 = .ok (.ifCond .ge o, 3)) (ho : 0 ≤ (pc1 : Int) + o) (py pn : Nat) (hy : ((pc1 : Int) + o).toNat = py) (hn : pc1 + 3 = pn) (h1 : ¬ a < b → Ends p e s below R Q T (mkF m py ls st)) (h2 : a < b → Ends p e s below R Q T (mkF m pn ls st)) : Ends p e s below R Q T (mkF m pc ls (.long b :: .long a :: st)) := by
  subst hp1
  refine Ends.map (T' := T) (f' := mkF m (pc + 1) ls (.int (lcmpW a b) :: st)) (fun _ q => XS.lcmp X.here k.1 rfl (hb k.2.2.1 hd0) rfl q) ?_
  exact if_ge k X hd ho py pn hy hn (fun q => h1 (mt (lw_lt a b).mpr q)) (fun q => h2 ((lw_lt a b).mp q))
theorem lcmp_gt (k : K p s m meth c Z y cd ml ret) (X : Stand p l e R s m args below meth c T locs cells slots) {a b : Int64} {o : Int} (hd0 : decode cd pc = .ok (.lcmp, 1)) (pc1 : Nat) (hp1 : pc + 1 = pc1) (hd : decode cd pc1 = .ok (.ifCond .gt o, 3)) (ho : 0 ≤ (pc1 : Int) + o) (py pn : Nat) (hy : ((pc1 : Int) + o).toNat = py) (hn : pc1 + 3 = pn) (h1 : b < a → Ends p e s below R Q T (mkF m py ls st)) (h2 : ¬ b < a → Ends p e s below R Q T (mkF m pn ls st)) : Ends p e s below R Q T (mkF m pc ls (.long b :: .long a :: st)) := by
  subst hp1
  refine Ends.map (T' := T) (f' := mkF m (pc + 1) ls (.int (lcmpW a b) :: st)) (fun _ q => XS.lcmp X.here k.1 rfl (hb k.2.2.1 hd0) rfl q) ?_
  exact if_gt k X hd ho py pn hy hn (fun q => h1 ((lw_gt a b).mp q)) (fun q => h2 (mt (lw_gt a b).mpr q))
theorem lcmp_le (k : K p s m meth c Z y cd ml ret) (X : Stand p l e R s m args below meth c T locs cells slots) {a b : Int64} {o : Int} (hd0 : decode cd pc = .ok (.lcmp, 1)) (pc1 : Nat) (hp1 : pc + 1 = pc1) (hd : decode cd pc1 = .ok (.ifCond .le o, 3)) (ho : 0 ≤ (pc1 : Int) + o) (py pn : Nat) (hy : ((pc1 : Int) + o).toNat = py) (hn : pc1 + 3 = pn) (h1 : ¬ b < a → Ends p e s below R Q T (mkF m py ls st)) (h2 : b < a → Ends p e s below R Q T (mkF m pn ls st)) : Ends p e s below R Q T (mkF m pc ls (.long b :: .long a :: st)) := by
  subst hp1
  refine Ends.map (T' := T) (f' := mkF m (pc + 1) ls (.int (lcmpW a b) :: st)) (fun _ q => XS.lcmp X.here k.1 rfl (hb k.2.2.1 hd0) rfl q) ?_
  exact if_le k X hd ho py pn hy hn (fun q => h1 (mt (lw_gt a b).mpr q)) (fun q => h2 ((lw_gt a b).mp q))
theorem lcmp_eq (k : K p s m meth c Z y cd ml ret) (X : Stand p l e R s m args below meth c T locs cells slots) {a b : Int64} {o : Int} (hd0 : decode cd pc = .ok (.lcmp, 1)) (pc1 : Nat) (hp1 : pc + 1 = pc1) (hd : decode cd pc1 = .ok (.ifCond .eq o, 3)) (ho : 0 ≤ (pc1 : Int) + o) (py pn : Nat) (hy : ((pc1 : Int) + o).toNat = py) (hn : pc1 + 3 = pn) (h1 : a = b → Ends p e s below R Q T (mkF m py ls st)) (h2 : ¬ a = b → Ends p e s below R Q T (mkF m pn ls st)) : Ends p e s below R Q T (mkF m pc ls (.long b :: .long a :: st)) := by
  subst hp1
  refine Ends.map (T' := T) (f' := mkF m (pc + 1) ls (.int (lcmpW a b) :: st)) (fun _ q => XS.lcmp X.here k.1 rfl (hb k.2.2.1 hd0) rfl q) ?_
  exact if_eq k X hd ho py pn hy hn (fun q => h1 ((lw_eq a b).mp q)) (fun q => h2 (mt (lw_eq a b).mpr q))
theorem lcmp_ne (k : K p s m meth c Z y cd ml ret) (X : Stand p l e R s m args below meth c T locs cells slots) {a b : Int64} {o : Int} (hd0 : decode cd pc = .ok (.lcmp, 1)) (pc1 : Nat) (hp1 : pc + 1 = pc1) (hd : decode cd pc1 = .ok (.ifCond .ne o, 3)) (ho : 0 ≤ (pc1 : Int) + o) (py pn : Nat) (hy : ((pc1 : Int) + o).toNat = py) (hn : pc1 + 3 = pn) (h1 : ¬ a = b → Ends p e s below R Q T (mkF m py ls st)) (h2 : a = b → Ends p e s below R Q T (mkF m pn ls st)) : Ends p e s below R Q T (mkF m pc ls (.long b :: .long a :: st)) := by
  subst hp1
  refine Ends.map (T' := T) (f' := mkF m (pc + 1) ls (.int (lcmpW a b) :: st)) (fun _ q => XS.lcmp X.here k.1 rfl (hb k.2.2.1 hd0) rfl q) ?_
  exact if_ne k X hd ho py pn hy hn (fun q => h1 (mt (lw_eq a b).mpr q)) (fun q => h2 ((lw_eq a b).mp q))
/-! references -/
theorem ifnull_y (k : K p s m meth c Z y cd ml ret) (X : Stand p l e R s m args below meth c T locs cells slots) {o : Int} (hd : decode cd pc = .ok (.ifnull o, 3)) (ho : 0 ≤ (pc : Int) + o) (pc' : Nat) (hp : ((pc : Int) + o).toNat = pc') (h : Ends p e s below R Q T (mkF m pc' ls st)) : Ends p e s below R Q T (mkF m pc ls (.null :: st)) := by
  exact h.map fun _ q => XS.ifnullYes X.here k.1 rfl rfl (hb k.2.2.1 hd) rfl ho hp q
theorem ifnull_n (k : K p s m meth c Z y cd ml ret) (X : Stand p l e R s m args below meth c T locs cells slots) {o : Int} {a : Addr} (hd : decode cd pc = .ok (.ifnull o, 3)) (pc' : Nat) (hp : pc + 3 = pc') (h : Ends p e s below R Q T (mkF m pc' ls st)) : Ends p e s below R Q T (mkF m pc ls (.ref a :: st)) := by
  subst hp; exact h.map fun _ q => XS.ifnullNo X.here k.1 rfl (hb k.2.2.1 hd) rfl q
theorem ifnonnull_y (k : K p s m meth c Z y cd ml ret) (X : Stand p l e R s m args below meth c T locs cells slots) {o : Int} {a : Addr} (hd : decode cd pc = .ok (.ifnonnull o, 3)) (ho : 0 ≤ (pc : Int) + o) (pc' : Nat) (hp : ((pc : Int) + o).toNat = pc') (h : Ends p e s below R Q T (mkF m pc' ls st)) : Ends p e s below R Q T (mkF m pc ls (.ref a :: st)) := by
  exact h.map fun _ q => XS.ifnonnullYes X.here k.1 rfl rfl (hb k.2.2.1 hd) rfl ho hp q
theorem ifnonnull_n (k : K p s m meth c Z y cd ml ret) (X : Stand p l e R s m args below meth c T locs cells slots) {o : Int} (hd : decode cd pc = .ok (.ifnonnull o, 3)) (pc' : Nat) (hp : pc + 3 = pc') (h : Ends p e s below R Q T (mkF m pc' ls st)) : Ends p e s below R Q T (mkF m pc ls (.null :: st)) := by
  subst hp; exact h.map fun _ q => XS.ifnonnullNo X.here k.1 rfl (hb k.2.2.1 hd) rfl q
/-! returns -/
theorem ret_int (k : K p s m meth c Z y cd ml ret) (X : Stand p l e R s m args below meth c T locs cells slots) (hret : ret = some .int) {z : Int32} (hd : decode cd pc = .ok (.ireturn, 1)) (hc : cells ≤ R.cells) (hs : slots ≤ R.slots) (h : Q (some (.int z)) T.heap locs) : Ends p e s below R Q T (mkF m pc ls (.int z :: st)) := by
  have hl := k.2.2.2.2.2.2.1
  obtain ⟨fs, hr, hrun, hended, hW, hsame⟩ := X.leave (v := some (.int z)) (fun q => by rw [k.2.2.2.2.2.1, hret] at q; cases q)
  exact ⟨_, _, retOut X k.1 (t := .int) (k.2.2.2.2.2.1.trans hret) rfl (Or.inl ⟨rfl, Or.inl rfl, _, rfl⟩) (hb k.2.2.1 hd) hr, hrun, hended, _, _, rfl, h, ⟨_, rfl⟩, hW, hsame.mono hc hs⟩
theorem ret_bool (k : K p s m meth c Z y cd ml ret) (X : Stand p l e R s m args below meth c T locs cells slots) (hret : ret = some .boolean) {z : Int32} (hd : decode cd pc = .ok (.ireturn, 1)) (hc : cells ≤ R.cells) (hs : slots ≤ R.slots) (hz : z = 0 ∨ z = 1) (h : Q (some (.int z)) T.heap locs) : Ends p e s below R Q T (mkF m pc ls (.int z :: st)) := by
  have hl := k.2.2.2.2.2.2.1
  obtain ⟨fs, hr, hrun, hended, hW, hsame⟩ := X.leave (v := some (.int z)) (fun q => by rw [k.2.2.2.2.2.1, hret] at q; cases q)
  exact ⟨_, _, retOut X k.1 (t := .boolean) (k.2.2.2.2.2.1.trans hret) (by rcases hz with rfl | rfl <;> rfl) (Or.inl ⟨rfl, Or.inr (Or.inl rfl), _, rfl⟩) (hb k.2.2.1 hd) hr, hrun, hended, _, _, rfl, h, ⟨_, rfl⟩, hW, hsame.mono hc hs⟩
theorem ret_long (k : K p s m meth c Z y cd ml ret) (X : Stand p l e R s m args below meth c T locs cells slots) (hret : ret = some .long) {z : Int64} (hd : decode cd pc = .ok (.lreturn, 1)) (hc : cells ≤ R.cells) (hs : slots ≤ R.slots) (h : Q (some (.long z)) T.heap locs) : Ends p e s below R Q T (mkF m pc ls (.long z :: st)) := by
  have hl := k.2.2.2.2.2.2.1
  obtain ⟨fs, hr, hrun, hended, hW, hsame⟩ := X.leave (v := some (.long z)) (fun q => by rw [k.2.2.2.2.2.1, hret] at q; cases q)
  exact ⟨_, _, retOut X k.1 (t := .long) (k.2.2.2.2.2.1.trans hret) rfl (Or.inr (Or.inl ⟨rfl, rfl, _, rfl⟩)) (hb k.2.2.1 hd) hr, hrun, hended, _, _, rfl, h, ⟨_, rfl⟩, hW, hsame.mono hc hs⟩
theorem ret_ref (k : K p s m meth c Z y cd ml ret) (X : Stand p l e R s m args below meth c T locs cells slots) {t : FieldType} (hret : ret = some t) (ht : t.isReference = true) {z : Value} (hz : z.isRef = true) (hn : narrow t z = z) (hd : decode cd pc = .ok (.areturn, 1)) (hc : cells ≤ R.cells) (hs : slots ≤ R.slots) (h : Q (some z) T.heap locs) : Ends p e s below R Q T (mkF m pc ls (z :: st)) := by
  have hl := k.2.2.2.2.2.2.1
  obtain ⟨fs, hr, hrun, hended, hW, hsame⟩ := X.leave (v := some z) (fun q => by rw [k.2.2.2.2.2.1, hret] at q; cases q)
  exact ⟨_, _, retOut X k.1 (t := t) (k.2.2.2.2.2.1.trans hret) hn (Or.inr (Or.inr (Or.inr (Or.inr ⟨rfl, ht, hz⟩)))) (hb k.2.2.1 hd) hr, hrun, hended, _, _, rfl, h, ⟨_, rfl⟩, hW, hsame.mono hc hs⟩
theorem ret_void (k : K p s m meth c Z y cd ml ret) (X : Stand p l e R s m args below meth c T locs cells slots) (hret : ret = none) (hd : decode cd pc = .ok (.return_, 1)) (hc : cells ≤ R.cells) (hs : slots ≤ R.slots) (h : Q none T.heap locs) : Ends p e s below R Q T (mkF m pc ls []) := by
  have hl := k.2.2.2.2.2.2.1
  obtain ⟨fs, hr, hrun, hended, hW, hsame⟩ := X.leave (v := none) (fun _ => rfl)
  exact ⟨_, _, X.returnOut k.1 (k.2.2.2.2.2.1.trans hret) (hb k.2.2.1 hd) hr, hrun, hended, _, _, rfl, h, ⟨_, rfl⟩, hW, hsame.mono hc hs⟩
/-! the heap -/
theorem getfield (k : K p s m meth c Z y cd ml ret) (X : Stand p l e R s m args below meth c T locs cells slots) {R0 O n d host : String} {idx : Nat} {a : Addr} {v : Value} (hd : decode cd pc = .ok (.getfield idx, 3)) (wl : (Jvm.Cond.fieldLink y.cls idx R0 n d).before a0 Z = true ∨ (Jvm.Cond.fieldLinkNest y.cls idx R0 n d host).before a0 Z = true) (via : Via Z R0 O n d) (e0 : T.heap = h) (F : Fld Z h a O n d v) (pc' : Nat) (hp : pc + 3 = pc')
    (g : ∀ T' : State, Stand p l e R s m args below meth c T' locs cells slots → T'.heap = h → Ends p e s below R Q T' (mkF m pc' ls (v :: st))) : Ends p e s below R Q T (mkF m pc ls (.ref a :: st)) := by
  subst hp
  obtain ⟨T', X', e', q⟩ := getF X k.1 k.2.1 k.2.2.2.2.1 wl via e0 F (g := mkF m pc ls (.ref a :: st)) rfl rfl (hb k.2.2.1 hd)
  exact (g T' X' e').map q
theorem getstatic (k : K p s m meth c Z y cd ml ret) (X : Stand p l e R s m args below meth c T locs cells slots) {O n d host : String} {idx : Nat} {v : Value} (hd : decode cd pc = .ok (.getstatic idx, 3)) (wl : (Jvm.Cond.fieldLink y.cls idx O n d).before a0 Z = true ∨ (Jvm.Cond.fieldLinkNest y.cls idx O n d host).before a0 Z = true) (e0 : T.heap = h) (F : Sta Z h O n d v) (pc' : Nat) (hp : pc + 3 = pc')
    (g : ∀ T' : State, Stand p l e R s m args below meth c T' locs cells slots → T'.heap = h → Ends p e s below R Q T' (mkF m pc' ls (v :: st))) : Ends p e s below R Q T (mkF m pc ls st) := by
  subst hp
  obtain ⟨T', X', e', q⟩ := getS2 X k.1 k.2.1 k.2.2.2.2.1 wl Via.refl e0 F (g := mkF m pc ls st) rfl (hb k.2.2.1 hd)
  exact (g T' X' e').map q
theorem putfield (k : K p s m meth c Z y cd ml ret) (X : Stand p l e R s m args below meth c T locs cells slots) {R0 O n d host C : String} {idx kk : Nat} {ty : FieldType} {a : Addr} {v old : Value} (hd : decode cd pc = .ok (.putfield idx, 3)) (wl : (Jvm.Cond.fieldLink y.cls idx R0 n d).before a0 Z = true ∨ (Jvm.Cond.fieldLinkNest y.cls idx R0 n d host).before a0 Z = true) (via : Via Z R0 O n d) (e0 : T.heap = h) (F : Fld Z h a O n d old) (E : Exa Z h a C)
    (L : (Jvm.Cond.lays C O n d).before a0 Z = true ∨ ((Jvm.Cond.laysFinal C O n d).before a0 Z = true ∧ y.cls = O ∧ y.name = "<init>")) (wi : (Jvm.Cond.instantiable C kk).before a0 Z = true) (hty : parseFieldDescriptor d = some ty) (hn : narrow ty v = v) (hf : fits ty v = true) (pc' : Nat) (hp : pc + 3 = pc')
    (g : ∀ (T' : State) (h' : Heap), Stand p l e R s m args below meth c T' (locs ++ [⟨a, Jvm.RoadKit.slotOf Z O n d⟩]) cells slots → T'.heap = h' → Wr h h' a (Jvm.RoadKit.slotOf Z O n d) v → Ends p e s below R Q T' (mkF m pc' ls st)) : Ends p e s below R Q T (mkF m pc ls (v :: .ref a :: st)) := by
  subst hp
  obtain ⟨T', h', X', e', W', q⟩ := putF X k.1 k.2.1 k.2.2.2.2.1 wl via e0 F E (L.imp id fun q => ⟨q.1, q.2.1, k.2.2.2.2.2.2.2.trans q.2.2⟩) wi hty hn hf (g := mkF m pc ls (v :: .ref a :: st)) rfl rfl (hb k.2.2.1 hd)
  exact (g T' h' X' e' W').map q
theorem initObj (k : K p s m meth c Z y cd ml ret) (X : Stand p l e R s m args below meth c T locs cells slots) {idx : Nat} {a : Addr} {W : Nat} (hd : decode cd pc = .ok (.invokespecial idx, 3)) (w1 : (Jvm.Cond.methodLink y.cls idx Lib.objectInit).before a0 Z = true) (w2 : (Jvm.Cond.instanceMethod Lib.objectInit).before a0 Z = true) (w3 : (Jvm.Cond.code Lib.objectInit ⟨#[0xb1]⟩ 1 none).before a0 Z = true) (e0 : T.heap = h) (hsz : ls.size = ml) (hf : 1 ≤ R.frames) (hW : (st.map fun v => v.category).sum + 12 ≤ R.locals) (pc' : Nat) (hp : pc + 3 = pc')
    (g : ∀ T' : State, Stand p l e R s m args below meth c T' locs cells slots → T'.heap = h → Ends p e s below R Q T' (mkF m pc' ls st)) : Ends p e s below R Q T (mkF m pc ls (.ref a :: st)) := by
  subst hp
  obtain ⟨T', X', e', q⟩ := initO X k.1 k.2.1 k.2.2.2.2.1 w1 w2 w3 e0 (g := mkF m pc ls (.ref a :: st)) rfl (hsz.trans k.2.2.2.1.symm) rfl (hb k.2.2.1 hd) hf (W := (st.map fun v => v.category).sum) (by show 2 * 0 + _ ≤ _; rw [Nat.mul_zero, Nat.zero_add]; exact Nat.le_refl _) hW
  exact (g T' X' e').map q
theorem new (k : K p s m meth c Z y cd ml ret) (X : Stand p l e R s m args below meth c T locs cells slots) {C : String} {idx n : Nat} (hd : decode cd pc = .ok (.new idx, 3)) (wl : (Jvm.Cond.classLink y.cls idx C).before a0 Z = true) (wi : (Jvm.Cond.instantiable C n).before a0 Z = true) (wz : (Jvm.Cond.initialized C).before a0 Z = true) (e0 : T.heap = h) (hc : cells + 1 ≤ R.cells) (hs : slots + n ≤ R.slots) (pc' : Nat) (hp : pc + 3 = pc')
    (g : ∀ (T' : State) (h' : Heap) (a : Addr), a = h.size → Stand p l e R s m args below meth c T' locs (cells + 1) (slots + n) → T'.heap = h' → Ext h h' → Exa Z h' a C → (∀ {O nm d : String} {ty : FieldType}, Laid Z a0 C O nm d → parseFieldDescriptor d = some ty → Fld Z h' a O nm d (defaultValue ty)) → Ends p e s below R Q T' (mkF m pc' ls (.ref a :: st))) : Ends p e s below R Q T (mkF m pc ls st) := by
  subst hp
  obtain ⟨T', h', X', e', E', A', D', -, q⟩ := newO X k.1 k.2.1 k.2.2.2.2.1 wl wi wz e0 (g := mkF m pc ls st) rfl (hb k.2.2.1 hd) hc hs
  exact (g T' h' h.size rfl X' e' E' A' D').map q
theorem checkcast (k : K p s m meth c Z y cd ml ret) (X : Stand p l e R s m args below meth c T locs cells slots) {C : String} {idx : Nat} {a : Addr} (hd : decode cd pc = .ok (.checkcast idx, 3)) (wl : (Jvm.Cond.classLink y.cls idx C).before a0 Z = true) (e0 : T.heap = h) (F : Ins Z h a C true) (pc' : Nat) (hp : pc + 3 = pc')
    (g : ∀ T' : State, Stand p l e R s m args below meth c T' locs cells slots → T'.heap = h → Ends p e s below R Q T' (mkF m pc' ls (.ref a :: st))) : Ends p e s below R Q T (mkF m pc ls (.ref a :: st)) := by
  subst hp
  obtain ⟨T', X', e', q⟩ := castY X k.1 k.2.1 k.2.2.2.2.1 wl e0 F (g := mkF m pc ls (.ref a :: st)) rfl rfl (hb k.2.2.1 hd)
  exact (g T' X' e').map q
theorem inst_y (k : K p s m meth c Z y cd ml ret) (X : Stand p l e R s m args below meth c T locs cells slots) {C : String} {idx : Nat} {a : Addr} (hd : decode cd pc = .ok (.instanceof idx, 3)) (wl : (Jvm.Cond.classLink y.cls idx C).before a0 Z = true) (e0 : T.heap = h) (F : Ins Z h a C true) (pc' : Nat) (hp : pc + 3 = pc')
    (g : ∀ T' : State, Stand p l e R s m args below meth c T' locs cells slots → T'.heap = h → Ends p e s below R Q T' (mkF m pc' ls (.int 1 :: st))) : Ends p e s below R Q T (mkF m pc ls (.ref a :: st)) := by
  subst hp
  obtain ⟨T', X', e', q⟩ := instY X k.1 k.2.1 k.2.2.2.2.1 wl e0 F (g := mkF m pc ls (.ref a :: st)) rfl rfl (hb k.2.2.1 hd)
  exact (g T' X' e').map q
theorem acmp_same (k : K p s m meth c Z y cd ml ret) (X : Stand p l e R s m args below meth c T locs cells slots) {cnd : ACond} {o : Int} {a : Addr} (hd : decode cd pc = .ok (.if_acmp cnd o, 3)) (ho : 0 ≤ (pc : Int) + o) (pc' : Nat) (hp : pc' = if acV cnd true = true then ((pc : Int) + o).toNat else pc + 3) (h : Ends p e s below R Q T (mkF m pc' ls st)) : Ends p e s below R Q T (mkF m pc ls (.ref a :: .ref a :: st)) := by
  exact h.map fun _ q => Jvm.RoadKit.acmp (g := mkF m pc ls (.ref a :: .ref a :: st)) X k.1 rfl rfl rfl rfl (hb k.2.2.1 hd) rfl (decide_eq_true rfl) ho hp q
theorem acmp_diff (k : K p s m meth c Z y cd ml ret) (X : Stand p l e R s m args below meth c T locs cells slots) {cnd : ACond} {o : Int} {a : Addr} {v : Value} (hd : decode cd pc = .ok (.if_acmp cnd o, 3)) (hv : v.isRef = true) (hne : Value.ref a ≠ v) (ho : 0 ≤ (pc : Int) + o) (pc' : Nat) (hp : pc' = if acV cnd false = true then ((pc : Int) + o).toNat else pc + 3) (h : Ends p e s below R Q T (mkF m pc' ls st)) : Ends p e s below R Q T (mkF m pc ls (v :: .ref a :: st)) := by
  exact h.map fun _ q => Jvm.RoadKit.acmp (g := mkF m pc ls (v :: .ref a :: st)) X k.1 rfl rfl hv rfl (hb k.2.2.1 hd) rfl (decide_eq_false hne) ho hp q
theorem inst_null (k : K p s m meth c Z y cd ml ret) (X : Stand p l e R s m args below meth c T locs cells slots) {idx : Nat} (hd : decode cd pc = .ok (.instanceof idx, 3)) (pc' : Nat) (hp : pc + 3 = pc') (h : Ends p e s below R Q T (mkF m pc' ls (.int 0 :: st))) : Ends p e s below R Q T (mkF m pc ls (.null :: st)) := by
  subst hp; exact h.map fun _ q => X.instanceofNull k.1 (g := mkF m pc ls (.null :: st)) rfl rfl (hb k.2.2.1 hd) _ q
theorem inst_n (k : K p s m meth c Z y cd ml ret) (X : Stand p l e R s m args below meth c T locs cells slots) {C : String} {idx : Nat} {a : Addr} (hd : decode cd pc = .ok (.instanceof idx, 3)) (wl : (Jvm.Cond.classLink y.cls idx C).before a0 Z = true) (e0 : T.heap = h) (F : Ins Z h a C false) {C' : String} (E : Exa Z h a C') (pc' : Nat) (hp : pc + 3 = pc')
    (g : ∀ T' : State, Stand p l e R s m args below meth c T' locs cells slots → T'.heap = h → Ends p e s below R Q T' (mkF m pc' ls (.int 0 :: st))) : Ends p e s below R Q T (mkF m pc ls (.ref a :: st)) := by
  subst hp
  obtain ⟨cell, cT, h1, h2, h3⟩ := F
  obtain ⟨cell', kc, e1, -, e3, e4, -⟩ := E
  cases h1.symm.trans e1
  obtain ⟨k', q, -⟩ := k.2.1.alike.2.2 _ _ e3
  obtain ⟨vm', X', st'⟩ := Jvm.Sym.instanceofNoAt X k.1 k.2.2.2.2.1 (mvT k.2.1 wl) (by rw [e0]; exact h1) e4 q (by rw [k.2.1.alike.findClass]; exact h2) (by rw [k.2.1.alike.assignable]; simpa [e4] using h3) (g := mkF m pc ls (.ref a :: st)) rfl rfl (hb k.2.2.1 hd)
  exact (g _ X' e0).map st'
end
/-! arrays: the list of what they hold -/
def Arl (Z : State) (h : Heap) (a : Addr) (ty : FieldType) (vs : List Value) : Prop := ∃ c : Cell, Arr Z h a c ty ∧ c.slots.toList = vs ∧ vs.length < 2147483648
section
variable {Z : State} {h h' : Heap} {a b : Addr} {ty : FieldType} {vs : List Value} {sl : Nat} {v : Value} {ws : List Addr}
theorem Arl.lt (F : Arl Z h a ty vs) : a < h.size := by obtain ⟨c, A, -⟩ := F; exact A.lt
theorem Arl.ext (F : Arl Z h a ty vs) (E : Ext h h') : Arl Z h' a ty vs := by obtain ⟨c, A, r⟩ := F; exact ⟨c, A.ext E, r⟩
theorem Arl.other (F : Arl Z h b ty vs) (W : Wr h h' a sl v) (q : b ≠ a) : Arl Z h' b ty vs := by obtain ⟨c, A, r⟩ := F; exact ⟨c, A.other W q, r⟩
theorem Arl.keep (F : Arl Z h a ty vs) (K : Keep h h' ws) (q : a ∉ ws) : Arl Z h' a ty vs := by obtain ⟨c, A, r⟩ := F; exact ⟨c, ⟨K.2.1 a c A.1 q, A.2⟩, r⟩
theorem Arl.same (F : Arl Z h a ty vs) (W : Wr h h' a sl v) : Arl Z h' a ty (vs.set sl v) := by
  obtain ⟨c, A, rfl, hl⟩ := F
  refine ⟨c.setSlot sl v, A.same W, ?_, by rw [List.length_set]; exact hl⟩
  simp [Cell.setSlot]
theorem tnc {j : Int32} {i : Nat} (hj : j.toInt = i) : j.toNatClampNeg = i := by simp only [Int32.toNatClampNeg, hj]; rfl
theorem inb {j : Int32} {i n : Nat} (hj : j.toInt = i) (hi : i < n) : ¬ (j < 0 ∨ n ≤ j.toNatClampNeg) := by
  rw [tnc hj]; intro q
  rcases q with q | q
  · rw [Int32.lt_iff_toInt_lt] at q; have e0 : (0 : Int32).toInt = 0 := rfl; omega
  · omega
theorem lt_of_get {xs : List Int32} {i : Nat} {x : Int32} (q : xs[i]? = some x) : i < xs.length := (List.getElem?_eq_some_iff.mp q).1
end
section
variable {p : Program} {l : Launch} {e : Env} {R : Room} {s : State} {m : MethodId} {args : Array Value} {below : List Frame} {meth : Method} {c : Code} {T : State} {locs : List Loc} {cells slots : Nat} {Z : State} {a0 : Array Value} {h : Heap} {y : MethodName} {cd : ByteArray} {ml : Nat} {ret : Option FieldType} {Q : Option Value → Heap → List Loc → Prop} {pc pc' : Nat} {ls : Array Slot} {st : List Value}
theorem arraylength (k : K p s m meth c Z y cd ml ret) (X : Stand p l e R s m args below meth c T locs cells slots) {ty : FieldType} {vs : List Value} {a : Addr} (hd : decode cd pc = .ok (.arraylength, 1)) (e0 : T.heap = h) (A : Arl Z h a ty vs) (n : Int32) (hn : n.toInt = vs.length) (pc' : Nat) (hp : pc + 1 = pc') (g : Ends p e s below R Q T (mkF m pc' ls (.int n :: st))) : Ends p e s below R Q T (mkF m pc ls (.ref a :: st)) := by
  subst hp
  obtain ⟨cl, Ar, rfl, hl⟩ := A
  have q : cl.slots.size.toInt32 = n := by
    apply Int32.toInt_inj.mp
    rw [len_toInt (by simpa using hl), hn]; simp
  refine g.map fun _ r => X.arraylength k.1 (by rw [e0]; exact Ar.1) (State.isArrayOf_alike k.2.1.alike Ar.2.1) (g := mkF m pc ls (.ref a :: st)) rfl rfl (hb k.2.2.1 hd) _ ?_
  rw [q]; exact r
theorem iaload (k : K p s m meth c Z y cd ml ret) (X : Stand p l e R s m args below meth c T locs cells slots) {xs : List Int32} {a : Addr} {j : Int32} (hd : decode cd pc = .ok (.iaload, 1)) (e0 : T.heap = h) (A : Arl Z h a .int (xs.map .int)) (i : Nat) (hj : j.toInt = i) (x : Int32) (hx : xs[i]? = some x) (pc' : Nat) (hp : pc + 1 = pc') (g : Ends p e s below R Q T (mkF m pc' ls (.int x :: st))) : Ends p e s below R Q T (mkF m pc ls (.int j :: .ref a :: st)) := by
  subst hp
  obtain ⟨cl, Ar, hs, hl⟩ := A
  have hz : cl.slots.size = xs.length := by rw [← Array.length_toList, hs, List.length_map]
  refine g.map fun _ r => X.iaload k.1 (j := j) (v := .int x) (by rw [e0]; exact Ar.1) (State.isArrayOf_alike k.2.1.alike Ar.2.1) Ar.2.2 (inb hj (hz ▸ lt_of_get hx)) ?_ (g := mkF m pc ls (.int j :: .ref a :: st)) rfl rfl (hb k.2.2.1 hd) _ r
  rw [tnc hj, ← Array.getElem?_toList, hs, List.getElem?_map, hx]; rfl
theorem baload (k : K p s m meth c Z y cd ml ret) (X : Stand p l e R s m args below meth c T locs cells slots) {xs : List Int32} {a : Addr} {j : Int32} (hd : decode cd pc = .ok (.baload, 1)) (e0 : T.heap = h) (A : Arl Z h a .byte (xs.map .int)) (i : Nat) (hj : j.toInt = i) (x : Int32) (hx : xs[i]? = some x) (pc' : Nat) (hp : pc + 1 = pc') (g : Ends p e s below R Q T (mkF m pc' ls (.int x :: st))) : Ends p e s below R Q T (mkF m pc ls (.int j :: .ref a :: st)) := by
  subst hp
  obtain ⟨cl, Ar, hs, hl⟩ := A
  have hz : cl.slots.size = xs.length := by rw [← Array.length_toList, hs, List.length_map]
  refine g.map fun _ r => X.baloadBytes k.1 (j := j) (v := .int x) (by rw [e0]; exact Ar.1) (State.isArrayOf_alike k.2.1.alike Ar.2.1) Ar.2.2 (inb hj (hz ▸ lt_of_get hx)) ?_ (g := mkF m pc ls (.int j :: .ref a :: st)) rfl rfl (hb k.2.2.1 hd) _ r
  rw [tnc hj, ← Array.getElem?_toList, hs, List.getElem?_map, hx]; rfl
theorem iastore (k : K p s m meth c Z y cd ml ret) (X : Stand p l e R s m args below meth c T locs cells slots) {xs : List Int32} {a : Addr} {j x : Int32} (hd : decode cd pc = .ok (.iastore, 1)) (e0 : T.heap = h) (A : Arl Z h a .int (xs.map .int)) (i : Nat) (hj : j.toInt = i) (hi : i < xs.length) (pc' : Nat) (hp : pc + 1 = pc')
    (g : ∀ (T' : State) (h' : Heap), Stand p l e R s m args below meth c T' (locs ++ [⟨a, i⟩]) cells slots → T'.heap = h' → Wr h h' a i (.int x) → Arl Z h' a .int ((xs.set i x).map .int) → Ends p e s below R Q T' (mkF m pc' ls st)) : Ends p e s below R Q T (mkF m pc ls (.int x :: .int j :: .ref a :: st)) := by
  subst hp
  have A' := A
  obtain ⟨cl, Ar, hs, hl⟩ := A
  have hz : cl.slots.size = xs.length := by rw [← Array.length_toList, hs, List.length_map]
  obtain ⟨T', h', X', e', W', q⟩ := stI X k.1 k.2.1 e0 Ar (j := j) (x := x) (inb hj (hz ▸ hi)) (g := mkF m pc ls (.int x :: .int j :: .ref a :: st)) rfl rfl (hb k.2.2.1 hd)
  rw [tnc hj] at X' W'
  exact (g T' h' X' e' W' (by rw [List.map_set]; exact A'.same W')).map q
theorem bastore (k : K p s m meth c Z y cd ml ret) (X : Stand p l e R s m args below meth c T locs cells slots) {xs : List Int32} {a : Addr} {j x : Int32} (hd : decode cd pc = .ok (.bastore, 1)) (e0 : T.heap = h) (A : Arl Z h a .byte (xs.map .int)) (i : Nat) (hj : j.toInt = i) (hi : i < xs.length) (x' : Int32) (hx' : x.toInt8.toInt32 = x') (pc' : Nat) (hp : pc + 1 = pc')
    (g : ∀ (T' : State) (h' : Heap), Stand p l e R s m args below meth c T' (locs ++ [⟨a, i⟩]) cells slots → T'.heap = h' → Wr h h' a i (.int x') → Arl Z h' a .byte ((xs.set i x').map .int) → Ends p e s below R Q T' (mkF m pc' ls st)) : Ends p e s below R Q T (mkF m pc ls (.int x :: .int j :: .ref a :: st)) := by
  subst hp hx'
  have A' := A
  obtain ⟨cl, Ar, hs, hl⟩ := A
  have hz : cl.slots.size = xs.length := by rw [← Array.length_toList, hs, List.length_map]
  obtain ⟨T', h', X', e', W', q⟩ := stB X k.1 k.2.1 e0 Ar (j := j) (x := x) (inb hj (hz ▸ hi)) (g := mkF m pc ls (.int x :: .int j :: .ref a :: st)) rfl rfl (hb k.2.2.1 hd)
  rw [tnc hj] at X' W'
  exact (g T' h' X' e' W' (by rw [List.map_set]; exact A'.same W')).map q
theorem newarray (k : K p s m meth c Z y cd ml ret) (X : Stand p l e R s m args below meth c T locs cells slots) {aty : ArrayType} {n : Int32} (hd : decode cd pc = .ok (.newarray aty, 2)) (wa : (Jvm.Cond.arrayClass (newarray.typeOf aty)).before a0 Z = true) (e0 : T.heap = h) (i : Nat) (hn : n.toInt = i) (cap : Nat) (hcap : i ≤ cap) (hb8 : cap * 8 ≤ 536870912) (hc : cells + 1 ≤ R.cells) (hs : slots + cap ≤ R.slots) (pc' : Nat) (hp : pc + 2 = pc')
    (g : ∀ (T' : State) (h' : Heap) (a : Addr), a = h.size → Stand p l e R s m args below meth c T' locs (cells + 1) (slots + cap) → T'.heap = h' → Ext h h' → Arl Z h' a (newarray.typeOf aty) (List.replicate i (defaultValue (newarray.typeOf aty))) → Ends p e s below R Q T' (mkF m pc' ls (.ref a :: st))) : Ends p e s below R Q T (mkF m pc ls (.int n :: st)) := by
  subst hp
  have h0 : ¬ n < 0 := by rw [Int32.lt_iff_toInt_lt]; have e0 : (0 : Int32).toInt = 0 := rfl; omega
  obtain ⟨T', h', cA, X', e', E', A', q⟩ := newP X k.1 k.2.1 wa e0 (g := mkF m pc ls (.int n :: st)) rfl (hb k.2.2.1 hd) rfl h0 (cap := cap) (by rw [tnc hn]; exact hcap) hb8 hc hs
  refine (g T' h' h.size rfl X' e' E' ⟨_, A', ?_, ?_⟩).map q
  · simp [newA, tnc hn]
  · rw [List.length_replicate]; omega
/-! calls, by the callee's contract -/
theorem callS (k : K p s m meth c Z y cd ml ret) (X : Stand p l e R s m args below meth c T locs cells slots) {y' : MethodName} {cd' : ByteArray} {ml' : Nat} {ret' : Option FieldType} {rm' : Room} {Qc : Option Value → Heap → List Loc → Prop} {idx : Nat} {ps : List FieldType} {rt : Option FieldType} (as : List Value) (rest : List Value) (hd : decode cd pc = .ok (.invokestatic idx, 3)) (M : Met l y' cd' ml' ret' rm' as.toArray Z h Qc []) (e0 : T.heap = h)
    (w1 : (Jvm.Cond.methodLink y.cls idx y').before a0 Z = true) (w2 : (Jvm.Cond.static y').before a0 Z = true) (w3 : (Jvm.Cond.initialized y'.cls).before a0 Z = true) (w4 : (Jvm.Cond.code y' cd' ml' ret').before a0 Z = true) (hy : y'.cls ≠ "java/lang/invoke/MethodHandle" ∧ y'.cls ≠ "java/lang/invoke/VarHandle") (hsz : ls.size = ml) (hlen : parseMethodDescriptor y'.desc = some ⟨ps, rt⟩) (hl2 : as.length = ps.length) (hst : st = as.reverse ++ rest)
    (hf : rm'.frames + 1 ≤ R.frames) (hlo : (rest.map fun v => v.category).sum + (ml' + 11) + rm'.locals ≤ R.locals) (hc : cells + rm'.cells ≤ R.cells) (hs : slots + rm'.slots ≤ R.slots) (pc' : Nat) (hp : pc + 3 = pc')
    (g : ∀ (T' : State) (v : Option Value) (L : List Loc), Stand p l e R s m args below meth c T' (locs ++ L) (cells + rm'.cells) (slots + rm'.slots) → Qc v T'.heap L → Ends p e s below R Q T' (mkF m pc' ls (v.toList ++ rest))) : Ends p e s below R Q T (mkF m pc ls st) := by
  subst hp hst
  obtain ⟨v, _, ⟨T', L', c', n'⟩, -, X', ⟨Lc, hQ, q1, q2, q3⟩, q⟩ := Jvm.LawKit.callS X k.1 (y := y') k.2.2.2.2.1 (mvT k.2.1 w1) (mvT k.2.1 w2) (mvT k.2.1 w3) (mvT k.2.1 w4) hy (backOf (W := (rest.map fun v => v.category).sum) M k.2.1 w4 w3 hf hlo) (g := mkF m pc ls (as.reverse ++ rest)) rfl (hsz.trans k.2.2.2.1.symm) (argsL := as) (rest := rest) (lenOf hlen hl2) rfl (by show 2 * 0 + _ ≤ _; rw [Nat.mul_zero, Nat.zero_add]; exact Nat.le_refl _) (hb k.2.2.1 hd) (fun _ _ => ⟨rfl, e0, hc, hs⟩)
  dsimp only [Pt.U, Pt.locs, Pt.cells, Pt.slots] at X' q1 q2 q3 q hQ
  subst q1 q2 q3
  exact (g T' v Lc X' hQ).map q
theorem callI (k : K p s m meth c Z y cd ml ret) (X : Stand p l e R s m args below meth c T locs cells slots) {y' : MethodName} {cd' : ByteArray} {ml' : Nat} {rm' : Room} {Qc : Option Value → Heap → List Loc → Prop} {idx : Nat} {ps : List FieldType} {rt : Option FieldType} {a : Addr} (as : List Value) (rest : List Value) (hd : decode cd pc = .ok (.invokespecial idx, 3)) (M : Met l y' cd' ml' none rm' (.ref a :: as).toArray Z h Qc []) (e0 : T.heap = h) (hin : y'.name = "<init>")
    (w1 : (Jvm.Cond.methodLink y.cls idx y').before a0 Z = true) (w2 : (Jvm.Cond.instanceMethod y').before a0 Z = true) (w3 : (Jvm.Cond.initialized y'.cls).before a0 Z = true) (w4 : (Jvm.Cond.code y' cd' ml' none).before a0 Z = true) (hy : y'.cls ≠ "java/lang/invoke/MethodHandle" ∧ y'.cls ≠ "java/lang/invoke/VarHandle") (hsz : ls.size = ml) (hlen : parseMethodDescriptor y'.desc = some ⟨ps, rt⟩) (hl2 : as.length = ps.length) (hst : st = as.reverse ++ .ref a :: rest)
    (hf : rm'.frames + 1 ≤ R.frames) (hlo : (rest.map fun v => v.category).sum + (ml' + 11) + rm'.locals ≤ R.locals) (hc : cells + rm'.cells ≤ R.cells) (hs : slots + rm'.slots ≤ R.slots) (pc' : Nat) (hp : pc + 3 = pc')
    (g : ∀ (T' : State) (v : Option Value) (L : List Loc), Stand p l e R s m args below meth c T' (locs ++ L) (cells + rm'.cells) (slots + rm'.slots) → Qc v T'.heap L → Ends p e s below R Q T' (mkF m pc' ls (v.toList ++ rest))) : Ends p e s below R Q T (mkF m pc ls st) := by
  subst hp hst
  obtain ⟨v, _, ⟨T', L', c', n'⟩, -, X', ⟨Lc, hQ, q1, q2, q3⟩, q⟩ := X.specialBack k.1 (y := y') hin k.2.2.2.2.1 (mvT k.2.1 w1) (mvT k.2.1 w2) (mvT k.2.1 w4) hy (backOf (W := (rest.map fun v => v.category).sum) M k.2.1 w4 w3 hf hlo) (g := mkF m pc ls (as.reverse ++ .ref a :: rest)) rfl (hsz.trans k.2.2.2.1.symm) (Steps.refl _) (a := a) (argsL := as) (rest := rest) (lenOf hlen hl2) rfl (by show 2 * 0 + _ ≤ _; rw [Nat.mul_zero, Nat.zero_add]; exact Nat.le_refl _) (hb k.2.2.1 hd) (fun _ _ => ⟨rfl, e0, hc, hs⟩)
  dsimp only [Pt.U, Pt.locs, Pt.cells, Pt.slots] at X' q1 q2 q3 q hQ
  subst q1 q2 q3
  exact (g T' v Lc X' hQ).map fun _ r => q.trans r
theorem callV (k : K p s m meth c Z y cd ml ret) (X : Stand p l e R s m args below meth c T locs cells slots) {y' : MethodName} {cd' : ByteArray} {ml' : Nat} {ret' : Option FieldType} {rm' : Room} {Qc : Option Value → Heap → List Loc → Prop} {idx : Nat} {ps : List FieldType} {rt : Option FieldType} {a : Addr} (as : List Value) (rest : List Value) (hd : decode cd pc = .ok (.invokevirtual idx, 3)) (M : Met l y' cd' ml' ret' rm' (.ref a :: as).toArray Z h Qc []) (e0 : T.heap = h) (E : Exa Z h a y'.cls)
    (w1 : (Jvm.Cond.methodLink y.cls idx y').before a0 Z = true) (w0 : (Jvm.Cond.declares y').before a0 Z = true) (ws : (Jvm.Cond.selects y'.cls y' y').before a0 Z = true) (w2 : (Jvm.Cond.instanceMethod y').before a0 Z = true) (w3 : (Jvm.Cond.initialized y'.cls).before a0 Z = true) (w4 : (Jvm.Cond.code y' cd' ml' ret').before a0 Z = true) (hy : y'.cls ≠ "java/lang/invoke/MethodHandle" ∧ y'.cls ≠ "java/lang/invoke/VarHandle") (hsz : ls.size = ml) (hlen : parseMethodDescriptor y'.desc = some ⟨ps, rt⟩) (hl2 : as.length = ps.length) (hst : st = as.reverse ++ .ref a :: rest)
    (hf : rm'.frames + 1 ≤ R.frames) (hlo : (rest.map fun v => v.category).sum + (ml' + 11) + rm'.locals ≤ R.locals) (hc : cells + rm'.cells ≤ R.cells) (hs : slots + rm'.slots ≤ R.slots) (pc' : Nat) (hp : pc + 3 = pc')
    (g : ∀ (T' : State) (v : Option Value) (L : List Loc), Stand p l e R s m args below meth c T' (locs ++ L) (cells + rm'.cells) (slots + rm'.slots) → Qc v T'.heap L → Ends p e s below R Q T' (mkF m pc' ls (v.toList ++ rest))) : Ends p e s below R Q T (mkF m pc ls st) := by
  subst hp hst
  obtain ⟨cq, kq, qa, qb, qc⟩ := isOf k.2.1 e0 E
  obtain ⟨v, _, ⟨T', L', c', n'⟩, -, X', ⟨Lc, hQ, q1, q2, q3⟩, q⟩ := X.virtualBack k.1 (y := y') (z := y') k.2.2.2.2.1 (mvT k.2.1 w1) (mvT k.2.1 w0) (notFace_of_selects (args := #[]) (mvT k.2.1 ws)) (mvT k.2.1 ws) (mvT k.2.1 w2) hy (backOf (W := (rest.map fun v => v.category).sum) M k.2.1 w4 w3 hf hlo) qa qc (g := mkF m pc ls (as.reverse ++ .ref a :: rest)) rfl (hsz.trans k.2.2.2.1.symm) (Steps.refl _) (argsL := as) (rest := rest) (lenOf hlen hl2) rfl (by show 2 * 0 + _ ≤ _; rw [Nat.mul_zero, Nat.zero_add]; exact Nat.le_refl _) (hb k.2.2.1 hd) (fun _ _ => ⟨rfl, e0, hc, hs⟩)
  dsimp only [Pt.U, Pt.locs, Pt.cells, Pt.slots] at X' q1 q2 q3 q hQ
  subst q1 q2 q3
  exact (g T' v Lc X' hQ).map fun _ r => q.trans r
theorem callP (k : K p s m meth c Z y cd ml ret) (X : Stand p l e R s m args below meth c T locs cells slots) {y' : MethodName} {cd' : ByteArray} {ml' : Nat} {ret' : Option FieldType} {rm' : Room} {Qc : Option Value → Heap → List Loc → Prop} {idx : Nat} {ps : List FieldType} {rt : Option FieldType} {a : Addr} {C : String} {ni : Nat} (as : List Value) (rest : List Value) (hd : decode cd pc = .ok (.invokevirtual idx, 3)) (M : Met l y' cd' ml' ret' rm' (.ref a :: as).toArray Z h Qc []) (e0 : T.heap = h) (E : Exa Z h a C)
    (w1 : (Jvm.Cond.methodLink y.cls idx y').before a0 Z = true) (w0 : (Jvm.Cond.privateMethod y').before a0 Z = true) (wi : (Jvm.Cond.instantiable y'.cls ni).before a0 Z = true) (w2 : (Jvm.Cond.instanceMethod y').before a0 Z = true) (w3 : (Jvm.Cond.initialized y'.cls).before a0 Z = true) (w4 : (Jvm.Cond.code y' cd' ml' ret').before a0 Z = true) (hy : y'.cls ≠ "java/lang/invoke/MethodHandle" ∧ y'.cls ≠ "java/lang/invoke/VarHandle") (hsz : ls.size = ml) (hlen : parseMethodDescriptor y'.desc = some ⟨ps, rt⟩) (hl2 : as.length = ps.length) (hst : st = as.reverse ++ .ref a :: rest)
    (hf : rm'.frames + 1 ≤ R.frames) (hlo : (rest.map fun v => v.category).sum + (ml' + 11) + rm'.locals ≤ R.locals) (hc : cells + rm'.cells ≤ R.cells) (hs : slots + rm'.slots ≤ R.slots) (pc' : Nat) (hp : pc + 3 = pc')
    (g : ∀ (T' : State) (v : Option Value) (L : List Loc), Stand p l e R s m args below meth c T' (locs ++ L) (cells + rm'.cells) (slots + rm'.slots) → Qc v T'.heap L → Ends p e s below R Q T' (mkF m pc' ls (v.toList ++ rest))) : Ends p e s below R Q T (mkF m pc ls st) := by
  subst hp hst
  obtain ⟨cq, qa, qb⟩ := E.cell
  obtain ⟨ci, ki, i1, i2, -, i4, -, -⟩ := Cond.instantiable_spec wi
  have ws := Jvm.Stand.selects_self_of_private (args := a0) i1 i2 (Bool.or_eq_false_iff.mp i4).1 (Cond.privateMethod_at w0) w2 hy
  obtain ⟨v, _, ⟨T', L', c', n'⟩, -, X', ⟨Lc, hQ, q1, q2, q3⟩, q⟩ := X.privateBack k.1 (y := y') k.2.2.2.2.1 (mvT k.2.1 w1) (mvT k.2.1 w2) (mvT k.2.1 ws) (Cond.privateMethod_at (mvP k.2.1 w0 (args := #[]))) (mvT k.2.1 w4) hy (backOf (W := (rest.map fun v => v.category).sum) M k.2.1 w4 w3 hf hlo) (g := mkF m pc ls (as.reverse ++ .ref a :: rest)) rfl (hsz.trans k.2.2.2.1.symm) (Steps.refl _) (a := a) (by rw [e0]; exact qa) qb (argsL := as) (rest := rest) (lenOf hlen hl2) rfl (by show 2 * 0 + _ ≤ _; rw [Nat.mul_zero, Nat.zero_add]; exact Nat.le_refl _) (hb k.2.2.1 hd) (fun _ _ => ⟨rfl, e0, hc, hs⟩)
  dsimp only [Pt.U, Pt.locs, Pt.cells, Pt.slots] at X' q1 q2 q3 q hQ
  subst q1 q2 q3
  exact (g T' v Lc X' hQ).map fun _ r => q.trans r
end
end Wk
/-! own_: char arrays -/
namespace Wk
section
variable {p : Program} {l : Launch} {e : Env} {R : Room} {s : State} {m : MethodId} {args : Array Value} {below : List Frame} {meth : Method} {c : Code} {T : State} {locs : List Loc} {cells slots : Nat} {Z : State} {a0 : Array Value} {h : Heap} {y : MethodName} {cd : ByteArray} {ml : Nat} {ret : Option FieldType} {Q : Option Value → Heap → List Loc → Prop} {pc pc' : Nat} {ls : Array Slot} {st : List Value}
theorem caload (k : K p s m meth c Z y cd ml ret) (X : Stand p l e R s m args below meth c T locs cells slots) {xs : List Int32} {a : Addr} {j : Int32} (hd : decode cd pc = .ok (.caload, 1)) (e0 : T.heap = h) (A : Arl Z h a .char (xs.map .int)) (i : Nat) (hj : j.toInt = i) (x : Int32) (hx : xs[i]? = some x) (pc' : Nat) (hp : pc + 1 = pc') (g : Ends p e s below R Q T (mkF m pc' ls (.int x :: st))) : Ends p e s below R Q T (mkF m pc ls (.int j :: .ref a :: st)) := by
  subst hp
  obtain ⟨cl, Ar, hs, hl⟩ := A
  have hz : cl.slots.size = xs.length := by rw [← Array.length_toList, hs, List.length_map]
  refine g.map fun _ r => X.caload k.1 (j := j) (v := .int x) (by rw [e0]; exact Ar.1) (State.isArrayOf_alike k.2.1.alike Ar.2.1) Ar.2.2 (inb hj (hz ▸ lt_of_get hx)) ?_ (g := mkF m pc ls (.int j :: .ref a :: st)) rfl rfl (hb k.2.2.1 hd) _ r
  rw [tnc hj, ← Array.getElem?_toList, hs, List.getElem?_map, hx]; rfl
theorem castore (k : K p s m meth c Z y cd ml ret) (X : Stand p l e R s m args below meth c T locs cells slots) {xs : List Int32} {a : Addr} {j x : Int32} (hd : decode cd pc = .ok (.castore, 1)) (e0 : T.heap = h) (A : Arl Z h a .char (xs.map .int)) (i : Nat) (hj : j.toInt = i) (hi : i < xs.length) (x' : Int32) (hx' : x.toUInt32.toUInt16.toUInt32.toInt32 = x') (pc' : Nat) (hp : pc + 1 = pc')
    (g : ∀ (T' : State) (h' : Heap), Stand p l e R s m args below meth c T' (locs ++ [⟨a, i⟩]) cells slots → T'.heap = h' → Wr h h' a i (.int x') → Arl Z h' a .char ((xs.set i x').map .int) → Ends p e s below R Q T' (mkF m pc' ls st)) : Ends p e s below R Q T (mkF m pc ls (.int x :: .int j :: .ref a :: st)) := by
  subst hp hx'
  have A' := A
  obtain ⟨cl, Ar, hs, hl⟩ := A
  have hz : cl.slots.size = xs.length := by rw [← Array.length_toList, hs, List.length_map]
  obtain ⟨T', h', X', e', W', q⟩ := stC X k.1 k.2.1 e0 Ar (j := j) (x := x) (inb hj (hz ▸ hi)) (g := mkF m pc ls (.int x :: .int j :: .ref a :: st)) rfl rfl (hb k.2.2.1 hd)
  rw [tnc hj] at X' W'
  exact (g T' h' X' e' W' (by rw [List.map_set]; exact A'.same W')).map q
end
end Wk
/-! own_: the wide family: the same laws for a body that may load String constants: its Stand goes over the start with the tables at hand -/
namespace Ww
open Wk
section
variable {p : Program} {l : Launch} {e : Env} {R : Room} {s : State} {m : MethodId} {args : Array Value} {below : List Frame} {meth : Method} {c : Code} {T : State} {locs : List Loc} {cells slots : Nat} {Z : State} {a0 : Array Value} {h : Heap} {y : MethodName} {cd : ByteArray} {ml : Nat} {ret : Option FieldType} {Q : Option Value → Heap → List Loc → Prop} {pc pc' : Nat} {s0 : State} {vm0 : Vm} {k0 : Nat} {ls : Array Slot} {st : List Value}
def Ends (p : Program) (e : Env) (s : State) (below : List Frame) (R : Room) (Q : Option Value → Heap → List Loc → Prop) (T : State) (f : JFrame) : Prop :=
  ∃ s₂ o, Steps p.tables e below (T.setTop f) s₂ ∧ s₂.status = .running ∧ Ended s₂ below o ∧ ∃ v L, o = .returned v ∧ Q v s₂.heap L ∧ ReturnedEndW s o s₂ L R.cells R.slots
/-- a body's contract: it may intern -/
def Met (l : Launch) (y : MethodName) (cd : ByteArray) (ml : Nat) (ret : Option FieldType) (rm : Room) (as' : Array Value) (Z : State) (h : Heap) (Q : Option Value → Heap → List Loc → Prop) (ws : List Jvm.Cond) : Prop :=
  MetFree l y (head1 (Jvm.Cond.code y cd ml ret :: ws) rm) (fun a U => a = as' ∧ Z.Warmed39 U.vm ∧ U.heap = h) (fun _ _ _ _ _ => True) (fun _ U o U' => ∃ v L, o = .returned v ∧ Q v U'.heap L ∧ ReturnedEndW U o U' L rm.cells rm.slots)
theorem enter {rm : Room} {as' : Array Value} {ws : List Jvm.Cond} (hpl : plainFor y = true)
    (body : ∀ (p : Program) (e : Env) (s0 : State) (vm0 : Vm) (k0 : Nat) (m : MethodId) (below : List Frame) (meth : Method) (c : Code) (T : State), Wk.K p (s0.setVm vm0) m meth c Z y cd ml ret → Stand p l e rm (s0.setVm vm0) m as' below meth c T [] 0 0 → T.heap = h → s0.Since vm0 k0 → k0 ≤ h.size → Ends p e s0 below rm Q T (entryFrame m as' ml)) :
    Met l y cd ml ret rm as' Z h Q ws := by
  refine MetFree.of_bodySF hpl hisR ?_
  intro p e s m args below meth c s₁ Bd hml0 hP hK
  obtain ⟨rfl, hZ, hh⟩ := hP
  exact body p e s s.vm s.heap.size m below meth c s₁ ⟨Bd.exec, hZ, Bd.bytes, hml0, findClass_of_methodNamed Bd.named, Bd.returns, Bd.notSynchronized, (name_of_methodNamed Bd.named Bd.method).1⟩ (Stand.of_body Bd) (by rw [← hh, Bd.state]; rfl) ((State.WarmedH.refl s).since _) (by rw [← hh]; exact Nat.le_refl _)
theorem Ends.map {T' : State} {f f' : JFrame} (st : ∀ target, Steps p.tables e below (T'.setTop f') target → Steps p.tables e below (T.setTop f) target) (h : Ends p e s0 below R Q T' f') : Ends p e s0 below R Q T f := by
  obtain ⟨s₂, o, h1, h2⟩ := h
  exact ⟨s₂, o, st _ h1, h2⟩
theorem Ends.cast {f f' : JFrame} (q : f = f') (h : Ends p e s0 below R Q T f') : Ends p e s0 below R Q T f := q ▸ h
theorem iload_n (k : Wk.K p s m meth c Z y cd ml ret) (X : Stand p l e R s m args below meth c T locs cells slots) {i : Fin 4} {v : Int32} (hd : decode cd pc = .ok (.iload_n i, 1)) (hl : ls[i.val]? = some (.val (.int v))) (pc' : Nat) (hp : pc + 1 = pc') (h : Ends p e s0 below R Q T (mkF m pc' ls (.int v :: st))) : Ends p e s0 below R Q T (mkF m pc ls st) := by
  subst hp; exact h.map fun _ q => XS.iloadN X.here k.1 rfl (hb k.2.2.1 hd) hl q
theorem iload (k : Wk.K p s m meth c Z y cd ml ret) (X : Stand p l e R s m args below meth c T locs cells slots) {i : Nat} {v : Int32} (hd : decode cd pc = .ok (.iload i, 2)) (hl : ls[i]? = some (.val (.int v))) (pc' : Nat) (hp : pc + 2 = pc') (h : Ends p e s0 below R Q T (mkF m pc' ls (.int v :: st))) : Ends p e s0 below R Q T (mkF m pc ls st) := by
  subst hp; exact h.map fun _ q => XS.iload X.here k.1 rfl (hb k.2.2.1 hd) hl q
theorem lload_n (k : Wk.K p s m meth c Z y cd ml ret) (X : Stand p l e R s m args below meth c T locs cells slots) {i : Fin 4} {v : Int64} (hd : decode cd pc = .ok (.lload_n i, 1)) (hl : ls[i.val]? = some (.val (.long v))) (pc' : Nat) (hp : pc + 1 = pc') (h : Ends p e s0 below R Q T (mkF m pc' ls (.long v :: st))) : Ends p e s0 below R Q T (mkF m pc ls st) := by
  subst hp; exact h.map fun _ q => XS.lloadN X.here k.1 rfl (hb k.2.2.1 hd) hl q
theorem lload (k : Wk.K p s m meth c Z y cd ml ret) (X : Stand p l e R s m args below meth c T locs cells slots) {i : Nat} {v : Int64} (hd : decode cd pc = .ok (.lload i, 2)) (hl : ls[i]? = some (.val (.long v))) (pc' : Nat) (hp : pc + 2 = pc') (h : Ends p e s0 below R Q T (mkF m pc' ls (.long v :: st))) : Ends p e s0 below R Q T (mkF m pc ls st) := by
  subst hp; exact h.map fun _ q => XS.lload X.here k.1 rfl (hb k.2.2.1 hd) hl q
theorem aload_n (k : Wk.K p s m meth c Z y cd ml ret) (X : Stand p l e R s m args below meth c T locs cells slots) {i : Fin 4} {v : Value} (hd : decode cd pc = .ok (.aload_n i, 1)) (hl : ls[i.val]? = some (.val v)) (hv : v.isRef = true) (pc' : Nat) (hp : pc + 1 = pc') (h : Ends p e s0 below R Q T (mkF m pc' ls (v :: st))) : Ends p e s0 below R Q T (mkF m pc ls st) := by
  subst hp; exact h.map fun _ q => XS.aloadN X.here k.1 rfl (hb k.2.2.1 hd) hl hv q
theorem aload (k : Wk.K p s m meth c Z y cd ml ret) (X : Stand p l e R s m args below meth c T locs cells slots) {i : Nat} {v : Value} (hd : decode cd pc = .ok (.aload i, 2)) (hl : ls[i]? = some (.val v)) (hv : v.isRef = true) (pc' : Nat) (hp : pc + 2 = pc') (h : Ends p e s0 below R Q T (mkF m pc' ls (v :: st))) : Ends p e s0 below R Q T (mkF m pc ls st) := by
  subst hp; exact h.map fun _ q => XS.aload X.here k.1 rfl (hb k.2.2.1 hd) hl hv q
theorem istore_n (k : Wk.K p s m meth c Z y cd ml ret) (X : Stand p l e R s m args below meth c T locs cells slots) {i : Fin 4} {v : Int32} (hd : decode cd pc = .ok (.istore_n i, 1)) (ls' : Array Slot) (hl : storeLocals ls i.val (.int v) = some ls') (pc' : Nat) (hp : pc + 1 = pc') (h : Ends p e s0 below R Q T (mkF m pc' ls' st)) : Ends p e s0 below R Q T (mkF m pc ls (.int v :: st)) := by
  subst hp; exact h.map fun _ q => XS.istoreN X.here k.1 rfl (hb k.2.2.1 hd) rfl hl q
theorem istore (k : Wk.K p s m meth c Z y cd ml ret) (X : Stand p l e R s m args below meth c T locs cells slots) {i : Nat} {v : Int32} (hd : decode cd pc = .ok (.istore i, 2)) (ls' : Array Slot) (hl : storeLocals ls i (.int v) = some ls') (pc' : Nat) (hp : pc + 2 = pc') (h : Ends p e s0 below R Q T (mkF m pc' ls' st)) : Ends p e s0 below R Q T (mkF m pc ls (.int v :: st)) := by
  subst hp; exact h.map fun _ q => XS.istore X.here k.1 rfl (hb k.2.2.1 hd) rfl hl q
theorem lstore_n (k : Wk.K p s m meth c Z y cd ml ret) (X : Stand p l e R s m args below meth c T locs cells slots) {i : Fin 4} {v : Int64} (hd : decode cd pc = .ok (.lstore_n i, 1)) (ls' : Array Slot) (hl : storeLocals ls i.val (.long v) = some ls') (pc' : Nat) (hp : pc + 1 = pc') (h : Ends p e s0 below R Q T (mkF m pc' ls' st)) : Ends p e s0 below R Q T (mkF m pc ls (.long v :: st)) := by
  subst hp; exact h.map fun _ q => XS.lstoreN X.here k.1 rfl (hb k.2.2.1 hd) rfl hl q
theorem lstore (k : Wk.K p s m meth c Z y cd ml ret) (X : Stand p l e R s m args below meth c T locs cells slots) {i : Nat} {v : Int64} (hd : decode cd pc = .ok (.lstore i, 2)) (ls' : Array Slot) (hl : storeLocals ls i (.long v) = some ls') (pc' : Nat) (hp : pc + 2 = pc') (h : Ends p e s0 below R Q T (mkF m pc' ls' st)) : Ends p e s0 below R Q T (mkF m pc ls (.long v :: st)) := by
  subst hp; exact h.map fun _ q => XS.lstore X.here k.1 rfl (hb k.2.2.1 hd) rfl hl q
theorem astore_n (k : Wk.K p s m meth c Z y cd ml ret) (X : Stand p l e R s m args below meth c T locs cells slots) {i : Fin 4} {v : Value} (hd : decode cd pc = .ok (.astore_n i, 1)) (hv : v.isRef = true) (ls' : Array Slot) (hl : storeLocals ls i.val v = some ls') (pc' : Nat) (hp : pc + 1 = pc') (h : Ends p e s0 below R Q T (mkF m pc' ls' st)) : Ends p e s0 below R Q T (mkF m pc ls (v :: st)) := by
  subst hp; exact h.map fun _ q => XS.astoreN X.here k.1 rfl (hb k.2.2.1 hd) rfl hv hl q
theorem astore (k : Wk.K p s m meth c Z y cd ml ret) (X : Stand p l e R s m args below meth c T locs cells slots) {i : Nat} {v : Value} (hd : decode cd pc = .ok (.astore i, 2)) (hv : v.isRef = true) (ls' : Array Slot) (hl : storeLocals ls i v = some ls') (pc' : Nat) (hp : pc + 2 = pc') (h : Ends p e s0 below R Q T (mkF m pc' ls' st)) : Ends p e s0 below R Q T (mkF m pc ls (v :: st)) := by
  subst hp; exact h.map fun _ q => XS.astore X.here k.1 rfl (hb k.2.2.1 hd) rfl hv hl q
theorem iinc (k : Wk.K p s m meth c Z y cd ml ret) (X : Stand p l e R s m args below meth c T locs cells slots) {i : Nat} {n : Int} {v : Int32} (hd : decode cd pc = .ok (.iinc i n, 3)) (hl : ls[i]? = some (.val (.int v))) (ls' : Array Slot) (hl' : storeLocals ls i (.int (v + Int32.ofInt n)) = some ls') (pc' : Nat) (hp : pc + 3 = pc') (h : Ends p e s0 below R Q T (mkF m pc' ls' st)) : Ends p e s0 below R Q T (mkF m pc ls st) := by
  subst hp; exact h.map fun _ q => XS.iinc X.here k.1 rfl (hb k.2.2.1 hd) hl hl' q
theorem iconst (k : Wk.K p s m meth c Z y cd ml ret) (X : Stand p l e R s m args below meth c T locs cells slots) {i : Int} (hd : decode cd pc = .ok (.iconst i, 1)) (z : Int32) (hz : Int32.ofInt i = z) (pc' : Nat) (hp : pc + 1 = pc') (h : Ends p e s0 below R Q T (mkF m pc' ls (.int z :: st))) : Ends p e s0 below R Q T (mkF m pc ls st) := by
  subst hp hz; exact h.map fun _ q => XS.iconst X.here k.1 rfl (hb k.2.2.1 hd) q
theorem bipush (k : Wk.K p s m meth c Z y cd ml ret) (X : Stand p l e R s m args below meth c T locs cells slots) {i : Int} (hd : decode cd pc = .ok (.bipush i, 2)) (z : Int32) (hz : (Int8.ofInt i).toInt32 = z) (pc' : Nat) (hp : pc + 2 = pc') (h : Ends p e s0 below R Q T (mkF m pc' ls (.int z :: st))) : Ends p e s0 below R Q T (mkF m pc ls st) := by
  subst hp hz; exact h.map fun _ q => XS.bipush X.here k.1 rfl (hb k.2.2.1 hd) q
theorem sipush (k : Wk.K p s m meth c Z y cd ml ret) (X : Stand p l e R s m args below meth c T locs cells slots) {i : Int} (hd : decode cd pc = .ok (.sipush i, 3)) (z : Int32) (hz : (Int16.ofInt i).toInt32 = z) (pc' : Nat) (hp : pc + 3 = pc') (h : Ends p e s0 below R Q T (mkF m pc' ls (.int z :: st))) : Ends p e s0 below R Q T (mkF m pc ls st) := by
  subst hp hz; exact h.map fun _ q => XS.sipush X.here k.1 rfl (hb k.2.2.1 hd) q
theorem lconst (k : Wk.K p s m meth c Z y cd ml ret) (X : Stand p l e R s m args below meth c T locs cells slots) {i : Fin 2} (hd : decode cd pc = .ok (.lconst i, 1)) (z : Int64) (hz : Int64.ofNat i = z) (pc' : Nat) (hp : pc + 1 = pc') (h : Ends p e s0 below R Q T (mkF m pc' ls (.long z :: st))) : Ends p e s0 below R Q T (mkF m pc ls st) := by
  subst hp hz; exact h.map fun _ q => XS.lconst X.here k.1 rfl (hb k.2.2.1 hd) q
theorem aconst_null (k : Wk.K p s m meth c Z y cd ml ret) (X : Stand p l e R s m args below meth c T locs cells slots) (hd : decode cd pc = .ok (.aconst_null, 1)) (pc' : Nat) (hp : pc + 1 = pc') (h : Ends p e s0 below R Q T (mkF m pc' ls (.null :: st))) : Ends p e s0 below R Q T (mkF m pc ls st) := by
  subst hp; exact h.map fun _ q => XS.aconstNull X.here k.1 rfl (hb k.2.2.1 hd) q
theorem ldc (k : Wk.K p s m meth c Z y cd ml ret) (X : Stand p l e R s m args below meth c T locs cells slots) {i : Nat} {z : Int32} (hd : decode cd pc = .ok (.ldc i, 2)) (hc : (Jvm.Cond.constant y.cls i z).before a0 Z = true) (pc' : Nat) (hp : pc + 2 = pc') (h : Ends p e s0 below R Q T (mkF m pc' ls (.int z :: st))) : Ends p e s0 below R Q T (mkF m pc ls st) := by
  subst hp; exact h.map (X.ldcInt k.1 k.2.2.2.2.1 (mvT k.2.1 hc) rfl (hb k.2.2.1 hd))
theorem ldc2_w (k : Wk.K p s m meth c Z y cd ml ret) (X : Stand p l e R s m args below meth c T locs cells slots) {i : Nat} {z : Int64} (hd : decode cd pc = .ok (.ldc2_w i, 3)) (hc : (Jvm.Cond.constantLong y.cls i z).before a0 Z = true) (pc' : Nat) (hp : pc + 3 = pc') (h : Ends p e s0 below R Q T (mkF m pc' ls (.long z :: st))) : Ends p e s0 below R Q T (mkF m pc ls st) := by
  subst hp; exact h.map (X.ldc2Long k.1 k.2.2.2.2.1 (mvT k.2.1 hc) rfl (hb k.2.2.1 hd))
theorem ldcF (k : Wk.K p s m meth c Z y cd ml ret) (X : Stand p l e R s m args below meth c T locs cells slots) {i : Nat} {z : UInt32} (hd : decode cd pc = .ok (.ldc i, 2)) (hc : (Jvm.Cond.constantFloat y.cls i z).before a0 Z = true) (pc' : Nat) (hp : pc + 2 = pc') (h : Ends p e s0 below R Q T (mkF m pc' ls (.float z :: st))) : Ends p e s0 below R Q T (mkF m pc ls st) := by
  subst hp; exact h.map (X.ldcFloatC k.1 k.2.2.2.2.1 (mvT k.2.1 hc) rfl (hb k.2.2.1 hd))
theorem iadd (k : Wk.K p s m meth c Z y cd ml ret) (X : Stand p l e R s m args below meth c T locs cells slots) {a : Int32} {b : Int32} (hd : decode cd pc = .ok (.iadd, 1)) (pc' : Nat) (hp : pc + 1 = pc') (h : Ends p e s0 below R Q T (mkF m pc' ls (.int (a + b) :: st))) : Ends p e s0 below R Q T (mkF m pc ls (.int b :: .int a :: st)) := by
  subst hp; exact h.map fun _ q => XS.iadd X.here k.1 rfl (hb k.2.2.1 hd) rfl q
theorem ladd (k : Wk.K p s m meth c Z y cd ml ret) (X : Stand p l e R s m args below meth c T locs cells slots) {a : Int64} {b : Int64} (hd : decode cd pc = .ok (.ladd, 1)) (pc' : Nat) (hp : pc + 1 = pc') (h : Ends p e s0 below R Q T (mkF m pc' ls (.long (a + b) :: st))) : Ends p e s0 below R Q T (mkF m pc ls (.long b :: .long a :: st)) := by
  subst hp; exact h.map fun _ q => XS.ladd X.here k.1 rfl (hb k.2.2.1 hd) rfl q
theorem isub (k : Wk.K p s m meth c Z y cd ml ret) (X : Stand p l e R s m args below meth c T locs cells slots) {a : Int32} {b : Int32} (hd : decode cd pc = .ok (.isub, 1)) (pc' : Nat) (hp : pc + 1 = pc') (h : Ends p e s0 below R Q T (mkF m pc' ls (.int (a - b) :: st))) : Ends p e s0 below R Q T (mkF m pc ls (.int b :: .int a :: st)) := by
  subst hp; exact h.map fun _ q => XS.isub X.here k.1 rfl (hb k.2.2.1 hd) rfl q
theorem lsub (k : Wk.K p s m meth c Z y cd ml ret) (X : Stand p l e R s m args below meth c T locs cells slots) {a : Int64} {b : Int64} (hd : decode cd pc = .ok (.lsub, 1)) (pc' : Nat) (hp : pc + 1 = pc') (h : Ends p e s0 below R Q T (mkF m pc' ls (.long (a - b) :: st))) : Ends p e s0 below R Q T (mkF m pc ls (.long b :: .long a :: st)) := by
  subst hp; exact h.map fun _ q => XS.lsub X.here k.1 rfl (hb k.2.2.1 hd) rfl q
theorem imul (k : Wk.K p s m meth c Z y cd ml ret) (X : Stand p l e R s m args below meth c T locs cells slots) {a : Int32} {b : Int32} (hd : decode cd pc = .ok (.imul, 1)) (pc' : Nat) (hp : pc + 1 = pc') (h : Ends p e s0 below R Q T (mkF m pc' ls (.int (a * b) :: st))) : Ends p e s0 below R Q T (mkF m pc ls (.int b :: .int a :: st)) := by
  subst hp; exact h.map fun _ q => XS.imul X.here k.1 rfl (hb k.2.2.1 hd) rfl q
theorem lmul (k : Wk.K p s m meth c Z y cd ml ret) (X : Stand p l e R s m args below meth c T locs cells slots) {a : Int64} {b : Int64} (hd : decode cd pc = .ok (.lmul, 1)) (pc' : Nat) (hp : pc + 1 = pc') (h : Ends p e s0 below R Q T (mkF m pc' ls (.long (a * b) :: st))) : Ends p e s0 below R Q T (mkF m pc ls (.long b :: .long a :: st)) := by
  subst hp; exact h.map fun _ q => XS.lmul X.here k.1 rfl (hb k.2.2.1 hd) rfl q
theorem iand (k : Wk.K p s m meth c Z y cd ml ret) (X : Stand p l e R s m args below meth c T locs cells slots) {a : Int32} {b : Int32} (hd : decode cd pc = .ok (.iand, 1)) (pc' : Nat) (hp : pc + 1 = pc') (h : Ends p e s0 below R Q T (mkF m pc' ls (.int (a &&& b) :: st))) : Ends p e s0 below R Q T (mkF m pc ls (.int b :: .int a :: st)) := by
  subst hp; exact h.map fun _ q => XS.iand X.here k.1 rfl (hb k.2.2.1 hd) rfl q
theorem land (k : Wk.K p s m meth c Z y cd ml ret) (X : Stand p l e R s m args below meth c T locs cells slots) {a : Int64} {b : Int64} (hd : decode cd pc = .ok (.land, 1)) (pc' : Nat) (hp : pc + 1 = pc') (h : Ends p e s0 below R Q T (mkF m pc' ls (.long (a &&& b) :: st))) : Ends p e s0 below R Q T (mkF m pc ls (.long b :: .long a :: st)) := by
  subst hp; exact h.map fun _ q => XS.land X.here k.1 rfl (hb k.2.2.1 hd) rfl q
theorem ior (k : Wk.K p s m meth c Z y cd ml ret) (X : Stand p l e R s m args below meth c T locs cells slots) {a : Int32} {b : Int32} (hd : decode cd pc = .ok (.ior, 1)) (pc' : Nat) (hp : pc + 1 = pc') (h : Ends p e s0 below R Q T (mkF m pc' ls (.int (a ||| b) :: st))) : Ends p e s0 below R Q T (mkF m pc ls (.int b :: .int a :: st)) := by
  subst hp; exact h.map fun _ q => XS.ior X.here k.1 rfl (hb k.2.2.1 hd) rfl q
theorem lor (k : Wk.K p s m meth c Z y cd ml ret) (X : Stand p l e R s m args below meth c T locs cells slots) {a : Int64} {b : Int64} (hd : decode cd pc = .ok (.lor, 1)) (pc' : Nat) (hp : pc + 1 = pc') (h : Ends p e s0 below R Q T (mkF m pc' ls (.long (a ||| b) :: st))) : Ends p e s0 below R Q T (mkF m pc ls (.long b :: .long a :: st)) := by
  subst hp; exact h.map fun _ q => XS.lor X.here k.1 rfl (hb k.2.2.1 hd) rfl q
theorem ixor (k : Wk.K p s m meth c Z y cd ml ret) (X : Stand p l e R s m args below meth c T locs cells slots) {a : Int32} {b : Int32} (hd : decode cd pc = .ok (.ixor, 1)) (pc' : Nat) (hp : pc + 1 = pc') (h : Ends p e s0 below R Q T (mkF m pc' ls (.int (a ^^^ b) :: st))) : Ends p e s0 below R Q T (mkF m pc ls (.int b :: .int a :: st)) := by
  subst hp; exact h.map fun _ q => XS.ixor X.here k.1 rfl (hb k.2.2.1 hd) rfl q
theorem lxor (k : Wk.K p s m meth c Z y cd ml ret) (X : Stand p l e R s m args below meth c T locs cells slots) {a : Int64} {b : Int64} (hd : decode cd pc = .ok (.lxor, 1)) (pc' : Nat) (hp : pc + 1 = pc') (h : Ends p e s0 below R Q T (mkF m pc' ls (.long (a ^^^ b) :: st))) : Ends p e s0 below R Q T (mkF m pc ls (.long b :: .long a :: st)) := by
  subst hp; exact h.map fun _ q => XS.lxor X.here k.1 rfl (hb k.2.2.1 hd) rfl q
theorem idiv (k : Wk.K p s m meth c Z y cd ml ret) (X : Stand p l e R s m args below meth c T locs cells slots) {a : Int32} {b : Int32} (hd : decode cd pc = .ok (.idiv, 1)) (hy : b ≠ 0) (pc' : Nat) (hp : pc + 1 = pc') (h : Ends p e s0 below R Q T (mkF m pc' ls (.int (a / b) :: st))) : Ends p e s0 below R Q T (mkF m pc ls (.int b :: .int a :: st)) := by
  subst hp; exact h.map fun _ q => XS.idiv X.here k.1 rfl (hb k.2.2.1 hd) rfl hy q
theorem ldiv (k : Wk.K p s m meth c Z y cd ml ret) (X : Stand p l e R s m args below meth c T locs cells slots) {a : Int64} {b : Int64} (hd : decode cd pc = .ok (.ldiv, 1)) (hy : b ≠ 0) (pc' : Nat) (hp : pc + 1 = pc') (h : Ends p e s0 below R Q T (mkF m pc' ls (.long (a / b) :: st))) : Ends p e s0 below R Q T (mkF m pc ls (.long b :: .long a :: st)) := by
  subst hp; exact h.map fun _ q => XS.ldiv X.here k.1 rfl (hb k.2.2.1 hd) rfl hy q
theorem ishl (k : Wk.K p s m meth c Z y cd ml ret) (X : Stand p l e R s m args below meth c T locs cells slots) {a : Int32} {b : Int32} (hd : decode cd pc = .ok (.ishl, 1)) (pc' : Nat) (hp : pc + 1 = pc') (h : Ends p e s0 below R Q T (mkF m pc' ls (.int (a <<< (b &&& 31)) :: st))) : Ends p e s0 below R Q T (mkF m pc ls (.int b :: .int a :: st)) := by
  subst hp; exact h.map fun _ q => XS.ishl X.here k.1 rfl (hb k.2.2.1 hd) rfl q
theorem ishr (k : Wk.K p s m meth c Z y cd ml ret) (X : Stand p l e R s m args below meth c T locs cells slots) {a : Int32} {b : Int32} (hd : decode cd pc = .ok (.ishr, 1)) (pc' : Nat) (hp : pc + 1 = pc') (h : Ends p e s0 below R Q T (mkF m pc' ls (.int (a >>> (b &&& 31)) :: st))) : Ends p e s0 below R Q T (mkF m pc ls (.int b :: .int a :: st)) := by
  subst hp; exact h.map fun _ q => XS.ishr X.here k.1 rfl (hb k.2.2.1 hd) rfl q
theorem iushr (k : Wk.K p s m meth c Z y cd ml ret) (X : Stand p l e R s m args below meth c T locs cells slots) {a : Int32} {b : Int32} (hd : decode cd pc = .ok (.iushr, 1)) (pc' : Nat) (hp : pc + 1 = pc') (h : Ends p e s0 below R Q T (mkF m pc' ls (.int ((a.toUInt32 >>> (b &&& 31).toUInt32).toInt32) :: st))) : Ends p e s0 below R Q T (mkF m pc ls (.int b :: .int a :: st)) := by
  subst hp; exact h.map fun _ q => XS.iushr X.here k.1 rfl (hb k.2.2.1 hd) rfl q
theorem lshl (k : Wk.K p s m meth c Z y cd ml ret) (X : Stand p l e R s m args below meth c T locs cells slots) {a : Int64} {b : Int32} (hd : decode cd pc = .ok (.lshl, 1)) (pc' : Nat) (hp : pc + 1 = pc') (h : Ends p e s0 below R Q T (mkF m pc' ls (.long (a <<< (b &&& 0x3f).toInt64) :: st))) : Ends p e s0 below R Q T (mkF m pc ls (.int b :: .long a :: st)) := by
  subst hp; exact h.map fun _ q => XS.lshl X.here k.1 rfl (hb k.2.2.1 hd) rfl q
theorem lshr (k : Wk.K p s m meth c Z y cd ml ret) (X : Stand p l e R s m args below meth c T locs cells slots) {a : Int64} {b : Int32} (hd : decode cd pc = .ok (.lshr, 1)) (pc' : Nat) (hp : pc + 1 = pc') (h : Ends p e s0 below R Q T (mkF m pc' ls (.long (a >>> (b &&& 0x3f).toInt64) :: st))) : Ends p e s0 below R Q T (mkF m pc ls (.int b :: .long a :: st)) := by
  subst hp; exact h.map fun _ q => XS.lshr X.here k.1 rfl (hb k.2.2.1 hd) rfl q
theorem lushr (k : Wk.K p s m meth c Z y cd ml ret) (X : Stand p l e R s m args below meth c T locs cells slots) {a : Int64} {b : Int32} (hd : decode cd pc = .ok (.lushr, 1)) (pc' : Nat) (hp : pc + 1 = pc') (h : Ends p e s0 below R Q T (mkF m pc' ls (.long ((a.toUInt64 >>> (b &&& 0x3f).toInt64.toUInt64).toInt64) :: st))) : Ends p e s0 below R Q T (mkF m pc ls (.int b :: .long a :: st)) := by
  subst hp; exact h.map fun _ q => XS.lushr X.here k.1 rfl (hb k.2.2.1 hd) rfl q
theorem irem (k : Wk.K p s m meth c Z y cd ml ret) (X : Stand p l e R s m args below meth c T locs cells slots) {a b : Int32} (hd : decode cd pc = .ok (.irem, 1)) (hy : b ≠ 0) (pc' : Nat) (hp : pc + 1 = pc') (h : Ends p e s0 below R Q T (mkF m pc' ls (.int (a % b) :: st))) : Ends p e s0 below R Q T (mkF m pc ls (.int b :: .int a :: st)) := by
  subst hp; exact h.map fun _ q => iremM X k.1 rfl (hb k.2.2.1 hd) rfl hy q
theorem ineg (k : Wk.K p s m meth c Z y cd ml ret) (X : Stand p l e R s m args below meth c T locs cells slots) {a : Int32} (hd : decode cd pc = .ok (.ineg, 1)) (pc' : Nat) (hp : pc + 1 = pc') (h : Ends p e s0 below R Q T (mkF m pc' ls (.int (-a) :: st))) : Ends p e s0 below R Q T (mkF m pc ls (.int a :: st)) := by
  subst hp; exact h.map fun _ q => XS.ineg X.here k.1 rfl (hb k.2.2.1 hd) rfl q
theorem lneg (k : Wk.K p s m meth c Z y cd ml ret) (X : Stand p l e R s m args below meth c T locs cells slots) {a : Int64} (hd : decode cd pc = .ok (.lneg, 1)) (pc' : Nat) (hp : pc + 1 = pc') (h : Ends p e s0 below R Q T (mkF m pc' ls (.long (-a) :: st))) : Ends p e s0 below R Q T (mkF m pc ls (.long a :: st)) := by
  subst hp; exact h.map fun _ q => XS.lneg X.here k.1 rfl (hb k.2.2.1 hd) rfl q
theorem i2l (k : Wk.K p s m meth c Z y cd ml ret) (X : Stand p l e R s m args below meth c T locs cells slots) {a : Int32} (hd : decode cd pc = .ok (.i2l, 1)) (pc' : Nat) (hp : pc + 1 = pc') (h : Ends p e s0 below R Q T (mkF m pc' ls (.long (a.toInt64) :: st))) : Ends p e s0 below R Q T (mkF m pc ls (.int a :: st)) := by
  subst hp; exact h.map fun _ q => XS.i2l X.here k.1 rfl (hb k.2.2.1 hd) rfl q
theorem l2i (k : Wk.K p s m meth c Z y cd ml ret) (X : Stand p l e R s m args below meth c T locs cells slots) {a : Int64} (hd : decode cd pc = .ok (.l2i, 1)) (pc' : Nat) (hp : pc + 1 = pc') (h : Ends p e s0 below R Q T (mkF m pc' ls (.int (a.toInt32) :: st))) : Ends p e s0 below R Q T (mkF m pc ls (.long a :: st)) := by
  subst hp; exact h.map fun _ q => XS.l2i X.here k.1 rfl (hb k.2.2.1 hd) rfl q
theorem i2b (k : Wk.K p s m meth c Z y cd ml ret) (X : Stand p l e R s m args below meth c T locs cells slots) {a : Int32} (hd : decode cd pc = .ok (.i2b, 1)) (pc' : Nat) (hp : pc + 1 = pc') (h : Ends p e s0 below R Q T (mkF m pc' ls (.int (a.toInt8.toInt32) :: st))) : Ends p e s0 below R Q T (mkF m pc ls (.int a :: st)) := by
  subst hp; exact h.map fun _ q => XS.i2b X.here k.1 rfl (hb k.2.2.1 hd) rfl q
theorem i2s (k : Wk.K p s m meth c Z y cd ml ret) (X : Stand p l e R s m args below meth c T locs cells slots) {a : Int32} (hd : decode cd pc = .ok (.i2s, 1)) (pc' : Nat) (hp : pc + 1 = pc') (h : Ends p e s0 below R Q T (mkF m pc' ls (.int (a.toInt16.toInt32) :: st))) : Ends p e s0 below R Q T (mkF m pc ls (.int a :: st)) := by
  subst hp; exact h.map fun _ q => XS.i2s X.here k.1 rfl (hb k.2.2.1 hd) rfl q
theorem i2c (k : Wk.K p s m meth c Z y cd ml ret) (X : Stand p l e R s m args below meth c T locs cells slots) {a : Int32} (hd : decode cd pc = .ok (.i2c, 1)) (pc' : Nat) (hp : pc + 1 = pc') (h : Ends p e s0 below R Q T (mkF m pc' ls (.int (a.toUInt32.toUInt16.toUInt32.toInt32) :: st))) : Ends p e s0 below R Q T (mkF m pc ls (.int a :: st)) := by
  subst hp; exact h.map fun _ q => XS.i2c X.here k.1 rfl (hb k.2.2.1 hd) rfl q
theorem dup (k : Wk.K p s m meth c Z y cd ml ret) (X : Stand p l e R s m args below meth c T locs cells slots) {v : Value} (hd : decode cd pc = .ok (.dup, 1)) (hc : v.category = 1) (pc' : Nat) (hp : pc + 1 = pc') (h : Ends p e s0 below R Q T (mkF m pc' ls (v :: v :: st))) : Ends p e s0 below R Q T (mkF m pc ls (v :: st)) := by
  subst hp; exact h.map fun _ q => XS.dup X.here k.1 rfl (hb k.2.2.1 hd) rfl hc q
theorem pop (k : Wk.K p s m meth c Z y cd ml ret) (X : Stand p l e R s m args below meth c T locs cells slots) {v : Value} (hd : decode cd pc = .ok (.pop, 1)) (hc : v.category = 1) (pc' : Nat) (hp : pc + 1 = pc') (h : Ends p e s0 below R Q T (mkF m pc' ls st)) : Ends p e s0 below R Q T (mkF m pc ls (v :: st)) := by
  subst hp; exact h.map fun _ q => XS.pop X.here k.1 rfl (hb k.2.2.1 hd) rfl hc q
theorem dup_x1 (k : Wk.K p s m meth c Z y cd ml ret) (X : Stand p l e R s m args below meth c T locs cells slots) {v v' : Value} (hd : decode cd pc = .ok (.dup_x1, 1)) (hc : v.category = 1) (hc' : v'.category = 1) (pc' : Nat) (hp : pc + 1 = pc') (h : Ends p e s0 below R Q T (mkF m pc' ls (v :: v' :: v :: st))) : Ends p e s0 below R Q T (mkF m pc ls (v :: v' :: st)) := by
  subst hp; exact h.map fun _ q => XS.dupX1 X.here k.1 rfl (hb k.2.2.1 hd) rfl hc hc' q
theorem dup2 (k : Wk.K p s m meth c Z y cd ml ret) (X : Stand p l e R s m args below meth c T locs cells slots) {v v' : Value} (hd : decode cd pc = .ok (.dup2, 1)) (hc : v.category = 1) (hc' : v'.category = 1) (pc' : Nat) (hp : pc + 1 = pc') (h : Ends p e s0 below R Q T (mkF m pc' ls (v :: v' :: v :: v' :: st))) : Ends p e s0 below R Q T (mkF m pc ls (v :: v' :: st)) := by
  subst hp; exact h.map fun _ q => Jvm.Free.XT.dup2 X.here k.1 rfl (hb k.2.2.1 hd) rfl hc hc' q
theorem goto (k : Wk.K p s m meth c Z y cd ml ret) (X : Stand p l e R s m args below meth c T locs cells slots) {o : Int} (hd : decode cd pc = .ok (.goto o, 3)) (ho : 0 ≤ (pc : Int) + o) (pc' : Nat) (hp : ((pc : Int) + o).toNat = pc') (h : Ends p e s0 below R Q T (mkF m pc' ls st)) : Ends p e s0 below R Q T (mkF m pc ls st) := by
  exact h.map fun _ q => XS.goto X.here k.1 rfl rfl (hb k.2.2.1 hd) ho hp q
theorem icmp_lt (k : Wk.K p s m meth c Z y cd ml ret) (X : Stand p l e R s m args below meth c T locs cells slots) {a b : Int32} {o : Int} (hd : decode cd pc = .ok (.if_icmp .lt o, 3)) (ho : 0 ≤ (pc : Int) + o) (py pn : Nat) (hy : ((pc : Int) + o).toNat = py) (hn : pc + 3 = pn) (h1 : a < b → Ends p e s0 below R Q T (mkF m py ls st)) (h2 : ¬ a < b → Ends p e s0 below R Q T (mkF m pn ls st)) : Ends p e s0 below R Q T (mkF m pc ls (.int b :: .int a :: st)) := by
  subst hn
  by_cases q : a < b
  · exact (h1 q).map fun _ r => XS.icmpYes X.here k.1 rfl rfl (hb k.2.2.1 hd) rfl (tlt q).1 ho hy r
  · exact (h2 q).map fun _ r => XS.icmpNo X.here k.1 rfl (hb k.2.2.1 hd) rfl (flt q).1 r
theorem if_lt (k : Wk.K p s m meth c Z y cd ml ret) (X : Stand p l e R s m args below meth c T locs cells slots) {a : Int32} {o : Int} (hd : decode cd pc = .ok (.ifCond .lt o, 3)) (ho : 0 ≤ (pc : Int) + o) (py pn : Nat) (hy : ((pc : Int) + o).toNat = py) (hn : pc + 3 = pn) (h1 : a < 0 → Ends p e s0 below R Q T (mkF m py ls st)) (h2 : ¬ a < 0 → Ends p e s0 below R Q T (mkF m pn ls st)) : Ends p e s0 below R Q T (mkF m pc ls (.int a :: st)) := by
  subst hn
  by_cases q : a < 0
  · exact (h1 q).map fun _ r => XS.ifYes X.here k.1 rfl rfl (hb k.2.2.1 hd) rfl ((if0 _ _).trans (tlt q).1) ho hy r
  · exact (h2 q).map fun _ r => XS.ifNo X.here k.1 rfl (hb k.2.2.1 hd) rfl ((if0 _ _).trans (flt q).1) r
theorem icmp_ge (k : Wk.K p s m meth c Z y cd ml ret) (X : Stand p l e R s m args below meth c T locs cells slots) {a b : Int32} {o : Int} (hd : decode cd pc = .ok (.if_icmp .ge o, 3)) (ho : 0 ≤ (pc : Int) + o) (py pn : Nat) (hy : ((pc : Int) + o).toNat = py) (hn : pc + 3 = pn) (h1 : ¬ a < b → Ends p e s0 below R Q T (mkF m py ls st)) (h2 : a < b → Ends p e s0 below R Q T (mkF m pn ls st)) : Ends p e s0 below R Q T (mkF m pc ls (.int b :: .int a :: st)) := by
  subst hn
  by_cases q : a < b
  · exact (h2 q).map fun _ r => XS.icmpNo X.here k.1 rfl (hb k.2.2.1 hd) rfl (tlt q).2.1 r
  · exact (h1 q).map fun _ r => XS.icmpYes X.here k.1 rfl rfl (hb k.2.2.1 hd) rfl (flt q).2.1 ho hy r
theorem if_ge (k : Wk.K p s m meth c Z y cd ml ret) (X : Stand p l e R s m args below meth c T locs cells slots) {a : Int32} {o : Int} (hd : decode cd pc = .ok (.ifCond .ge o, 3)) (ho : 0 ≤ (pc : Int) + o) (py pn : Nat) (hy : ((pc : Int) + o).toNat = py) (hn : pc + 3 = pn) (h1 : ¬ a < 0 → Ends p e s0 below R Q T (mkF m py ls st)) (h2 : a < 0 → Ends p e s0 below R Q T (mkF m pn ls st)) : Ends p e s0 below R Q T (mkF m pc ls (.int a :: st)) := by
  subst hn
  by_cases q : a < 0
  · exact (h2 q).map fun _ r => XS.ifNo X.here k.1 rfl (hb k.2.2.1 hd) rfl ((if0 _ _).trans (tlt q).2.1) r
  · exact (h1 q).map fun _ r => XS.ifYes X.here k.1 rfl rfl (hb k.2.2.1 hd) rfl ((if0 _ _).trans (flt q).2.1) ho hy r
theorem icmp_gt (k : Wk.K p s m meth c Z y cd ml ret) (X : Stand p l e R s m args below meth c T locs cells slots) {a b : Int32} {o : Int} (hd : decode cd pc = .ok (.if_icmp .gt o, 3)) (ho : 0 ≤ (pc : Int) + o) (py pn : Nat) (hy : ((pc : Int) + o).toNat = py) (hn : pc + 3 = pn) (h1 : b < a → Ends p e s0 below R Q T (mkF m py ls st)) (h2 : ¬ b < a → Ends p e s0 below R Q T (mkF m pn ls st)) : Ends p e s0 below R Q T (mkF m pc ls (.int b :: .int a :: st)) := by
  subst hn
  by_cases q : b < a
  · exact (h1 q).map fun _ r => XS.icmpYes X.here k.1 rfl rfl (hb k.2.2.1 hd) rfl (tlt q).2.2.1 ho hy r
  · exact (h2 q).map fun _ r => XS.icmpNo X.here k.1 rfl (hb k.2.2.1 hd) rfl (flt q).2.2.1 r
theorem if_gt (k : Wk.K p s m meth c Z y cd ml ret) (X : Stand p l e R s m args below meth c T locs cells slots) {a : Int32} {o : Int} (hd : decode cd pc = .ok (.ifCond .gt o, 3)) (ho : 0 ≤ (pc : Int) + o) (py pn : Nat) (hy : ((pc : Int) + o).toNat = py) (hn : pc + 3 = pn) (h1 : 0 < a → Ends p e s0 below R Q T (mkF m py ls st)) (h2 : ¬ 0 < a → Ends p e s0 below R Q T (mkF m pn ls st)) : Ends p e s0 below R Q T (mkF m pc ls (.int a :: st)) := by
  subst hn
  by_cases q : 0 < a
  · exact (h1 q).map fun _ r => XS.ifYes X.here k.1 rfl rfl (hb k.2.2.1 hd) rfl ((if0 _ _).trans (tlt q).2.2.1) ho hy r
  · exact (h2 q).map fun _ r => XS.ifNo X.here k.1 rfl (hb k.2.2.1 hd) rfl ((if0 _ _).trans (flt q).2.2.1) r
theorem icmp_le (k : Wk.K p s m meth c Z y cd ml ret) (X : Stand p l e R s m args below meth c T locs cells slots) {a b : Int32} {o : Int} (hd : decode cd pc = .ok (.if_icmp .le o, 3)) (ho : 0 ≤ (pc : Int) + o) (py pn : Nat) (hy : ((pc : Int) + o).toNat = py) (hn : pc + 3 = pn) (h1 : ¬ b < a → Ends p e s0 below R Q T (mkF m py ls st)) (h2 : b < a → Ends p e s0 below R Q T (mkF m pn ls st)) : Ends p e s0 below R Q T (mkF m pc ls (.int b :: .int a :: st)) := by
  subst hn
  by_cases q : b < a
  · exact (h2 q).map fun _ r => XS.icmpNo X.here k.1 rfl (hb k.2.2.1 hd) rfl (tlt q).2.2.2 r
  · exact (h1 q).map fun _ r => XS.icmpYes X.here k.1 rfl rfl (hb k.2.2.1 hd) rfl (flt q).2.2.2 ho hy r
theorem if_le (k : Wk.K p s m meth c Z y cd ml ret) (X : Stand p l e R s m args below meth c T locs cells slots) {a : Int32} {o : Int} (hd : decode cd pc = .ok (.ifCond .le o, 3)) (ho : 0 ≤ (pc : Int) + o) (py pn : Nat) (hy : ((pc : Int) + o).toNat = py) (hn : pc + 3 = pn) (h1 : ¬ 0 < a → Ends p e s0 below R Q T (mkF m py ls st)) (h2 : 0 < a → Ends p e s0 below R Q T (mkF m pn ls st)) : Ends p e s0 below R Q T (mkF m pc ls (.int a :: st)) := by
  subst hn
  by_cases q : 0 < a
  · exact (h2 q).map fun _ r => XS.ifNo X.here k.1 rfl (hb k.2.2.1 hd) rfl ((if0 _ _).trans (tlt q).2.2.2) r
  · exact (h1 q).map fun _ r => XS.ifYes X.here k.1 rfl rfl (hb k.2.2.1 hd) rfl ((if0 _ _).trans (flt q).2.2.2) ho hy r
theorem icmp_eq (k : Wk.K p s m meth c Z y cd ml ret) (X : Stand p l e R s m args below meth c T locs cells slots) {a b : Int32} {o : Int} (hd : decode cd pc = .ok (.if_icmp .eq o, 3)) (ho : 0 ≤ (pc : Int) + o) (py pn : Nat) (hy : ((pc : Int) + o).toNat = py) (hn : pc + 3 = pn) (h1 : a = b → Ends p e s0 below R Q T (mkF m py ls st)) (h2 : ¬ a = b → Ends p e s0 below R Q T (mkF m pn ls st)) : Ends p e s0 below R Q T (mkF m pc ls (.int b :: .int a :: st)) := by
  subst hn
  by_cases q : a = b
  · exact (h1 q).map fun _ r => XS.icmpYes X.here k.1 rfl rfl (hb k.2.2.1 hd) rfl (teq q).1 ho hy r
  · exact (h2 q).map fun _ r => XS.icmpNo X.here k.1 rfl (hb k.2.2.1 hd) rfl (feq q).1 r
theorem if_eq (k : Wk.K p s m meth c Z y cd ml ret) (X : Stand p l e R s m args below meth c T locs cells slots) {a : Int32} {o : Int} (hd : decode cd pc = .ok (.ifCond .eq o, 3)) (ho : 0 ≤ (pc : Int) + o) (py pn : Nat) (hy : ((pc : Int) + o).toNat = py) (hn : pc + 3 = pn) (h1 : a = 0 → Ends p e s0 below R Q T (mkF m py ls st)) (h2 : ¬ a = 0 → Ends p e s0 below R Q T (mkF m pn ls st)) : Ends p e s0 below R Q T (mkF m pc ls (.int a :: st)) := by
  subst hn
  by_cases q : a = 0
  · exact (h1 q).map fun _ r => XS.ifYes X.here k.1 rfl rfl (hb k.2.2.1 hd) rfl ((if0 _ _).trans (teq q).1) ho hy r
  · exact (h2 q).map fun _ r => XS.ifNo X.here k.1 rfl (hb k.2.2.1 hd) rfl ((if0 _ _).trans (feq q).1) r
theorem icmp_ne (k : Wk.K p s m meth c Z y cd ml ret) (X : Stand p l e R s m args below meth c T locs cells slots) {a b : Int32} {o : Int} (hd : decode cd pc = .ok (.if_icmp .ne o, 3)) (ho : 0 ≤ (pc : Int) + o) (py pn : Nat) (hy : ((pc : Int) + o).toNat = py) (hn : pc + 3 = pn) (h1 : ¬ a = b → Ends p e s0 below R Q T (mkF m py ls st)) (h2 : a = b → Ends p e s0 below R Q T (mkF m pn ls st)) : Ends p e s0 below R Q T (mkF m pc ls (.int b :: .int a :: st)) := by
  subst hn
  by_cases q : a = b
  · exact (h2 q).map fun _ r => XS.icmpNo X.here k.1 rfl (hb k.2.2.1 hd) rfl (teq q).2 r
  · exact (h1 q).map fun _ r => XS.icmpYes X.here k.1 rfl rfl (hb k.2.2.1 hd) rfl (feq q).2 ho hy r
theorem if_ne (k : Wk.K p s m meth c Z y cd ml ret) (X : Stand p l e R s m args below meth c T locs cells slots) {a : Int32} {o : Int} (hd : decode cd pc = .ok (.ifCond .ne o, 3)) (ho : 0 ≤ (pc : Int) + o) (py pn : Nat) (hy : ((pc : Int) + o).toNat = py) (hn : pc + 3 = pn) (h1 : ¬ a = 0 → Ends p e s0 below R Q T (mkF m py ls st)) (h2 : a = 0 → Ends p e s0 below R Q T (mkF m pn ls st)) : Ends p e s0 below R Q T (mkF m pc ls (.int a :: st)) := by
  subst hn
  by_cases q : a = 0
  · exact (h2 q).map fun _ r => XS.ifNo X.here k.1 rfl (hb k.2.2.1 hd) rfl ((if0 _ _).trans (teq q).2) r
  · exact (h1 q).map fun _ r => XS.ifYes X.here k.1 rfl rfl (hb k.2.2.1 hd) rfl ((if0 _ _).trans (feq q).2) ho hy r
theorem lcmp_lt (k : Wk.K p s m meth c Z y cd ml ret) (X : Stand p l e R s m args below meth c T locs cells slots) {a b : Int64} {o : Int} (hd0 : decode cd pc = .ok (.lcmp, 1)) (pc1 : Nat) (hp1 : pc + 1 = pc1) (hd : decode cd pc1 = .ok (.ifCond .lt o, 3)) (ho : 0 ≤ (pc1 : Int) + o) (py pn : Nat) (hy : ((pc1 : Int) + o).toNat = py) (hn : pc1 + 3 = pn) (h1 : a < b → Ends p e s0 below R Q T (mkF m py ls st)) (h2 : ¬ a < b → Ends p e s0 below R Q T (mkF m pn ls st)) : Ends p e s0 below R Q T (mkF m pc ls (.long b :: .long a :: st)) := by
  subst hp1
  refine Ends.map (T' := T) (f' := mkF m (pc + 1) ls (.int (lcmpW a b) :: st)) (fun _ q => XS.lcmp X.here k.1 rfl (hb k.2.2.1 hd0) rfl q) ?_
  exact if_lt k X hd ho py pn hy hn (fun q => h1 ((lw_lt a b).mp q)) (fun q => h2 (mt (lw_lt a b).mpr q))
theorem lcmp_ge (k : Wk.K p s m meth c Z y cd ml ret) (X : Stand p l e R s m args below meth c T locs cells slots) {a b : Int64} {o : Int} (hd0 : decode cd pc = .ok (.lcmp, 1)) (pc1 : Nat) (hp1 : pc + 1 = pc1) (hd : decode cd pc1 = .ok (.ifCond .ge o, 3)) (ho : 0 ≤ (pc1 : Int) + o) (py pn : Nat) (hy : ((pc1 : Int) + o).toNat = py) (hn : pc1 + 3 = pn) (h1 : ¬ a < b → Ends p e s0 below R Q T (mkF m py ls st)) (h2 : a < b → Ends p e s0 below R Q T (mkF m pn ls st)) : Ends p e s0 below R Q T (mkF m pc ls (.long b :: .long a :: st)) := by
  subst hp1
  refine Ends.map (T' := T) (f' := mkF m (pc + 1) ls (.int (lcmpW a b) :: st)) (fun _ q => XS.lcmp X.here k.1 rfl (hb k.2.2.1 hd0) rfl q) ?_
  exact if_ge k X hd ho py pn hy hn (fun q => h1 (mt (lw_lt a b).mpr q)) (fun q => h2 ((lw_lt a b).mp q))
theorem lcmp_gt (k : Wk.K p s m meth c Z y cd ml ret) (X : Stand p l e R s m args below meth c T locs cells slots) {a b : Int64} {o : Int} (hd0 : decode cd pc = .ok (.lcmp, 1)) (pc1 : Nat) (hp1 : pc + 1 = pc1) (hd : decode cd pc1 = .ok (.ifCond .gt o, 3)) (ho : 0 ≤ (pc1 : Int) + o) (py pn : Nat) (hy : ((pc1 : Int) + o).toNat = py) (hn : pc1 + 3 = pn) (h1 : b < a → Ends p e s0 below R Q T (mkF m py ls st)) (h2 : ¬ b < a → Ends p e s0 below R Q T (mkF m pn ls st)) : Ends p e s0 below R Q T (mkF m pc ls (.long b :: .long a :: st)) := by
  subst hp1
  refine Ends.map (T' := T) (f' := mkF m (pc + 1) ls (.int (lcmpW a b) :: st)) (fun _ q => XS.lcmp X.here k.1 rfl (hb k.2.2.1 hd0) rfl q) ?_
  exact if_gt k X hd ho py pn hy hn (fun q => h1 ((lw_gt a b).mp q)) (fun q => h2 (mt (lw_gt a b).mpr q))
theorem lcmp_le (k : Wk.K p s m meth c Z y cd ml ret) (X : Stand p l e R s m args below meth c T locs cells slots) {a b : Int64} {o : Int} (hd0 : decode cd pc = .ok (.lcmp, 1)) (pc1 : Nat) (hp1 : pc + 1 = pc1) (hd : decode cd pc1 = .ok (.ifCond .le o, 3)) (ho : 0 ≤ (pc1 : Int) + o) (py pn : Nat) (hy : ((pc1 : Int) + o).toNat = py) (hn : pc1 + 3 = pn) (h1 : ¬ b < a → Ends p e s0 below R Q T (mkF m py ls st)) (h2 : b < a → Ends p e s0 below R Q T (mkF m pn ls st)) : Ends p e s0 below R Q T (mkF m pc ls (.long b :: .long a :: st)) := by
  subst hp1
  refine Ends.map (T' := T) (f' := mkF m (pc + 1) ls (.int (lcmpW a b) :: st)) (fun _ q => XS.lcmp X.here k.1 rfl (hb k.2.2.1 hd0) rfl q) ?_
  exact if_le k X hd ho py pn hy hn (fun q => h1 (mt (lw_gt a b).mpr q)) (fun q => h2 ((lw_gt a b).mp q))
theorem lcmp_eq (k : Wk.K p s m meth c Z y cd ml ret) (X : Stand p l e R s m args below meth c T locs cells slots) {a b : Int64} {o : Int} (hd0 : decode cd pc = .ok (.lcmp, 1)) (pc1 : Nat) (hp1 : pc + 1 = pc1) (hd : decode cd pc1 = .ok (.ifCond .eq o, 3)) (ho : 0 ≤ (pc1 : Int) + o) (py pn : Nat) (hy : ((pc1 : Int) + o).toNat = py) (hn : pc1 + 3 = pn) (h1 : a = b → Ends p e s0 below R Q T (mkF m py ls st)) (h2 : ¬ a = b → Ends p e s0 below R Q T (mkF m pn ls st)) : Ends p e s0 below R Q T (mkF m pc ls (.long b :: .long a :: st)) := by
  subst hp1
  refine Ends.map (T' := T) (f' := mkF m (pc + 1) ls (.int (lcmpW a b) :: st)) (fun _ q => XS.lcmp X.here k.1 rfl (hb k.2.2.1 hd0) rfl q) ?_
  exact if_eq k X hd ho py pn hy hn (fun q => h1 ((lw_eq a b).mp q)) (fun q => h2 (mt (lw_eq a b).mpr q))
theorem lcmp_ne (k : Wk.K p s m meth c Z y cd ml ret) (X : Stand p l e R s m args below meth c T locs cells slots) {a b : Int64} {o : Int} (hd0 : decode cd pc = .ok (.lcmp, 1)) (pc1 : Nat) (hp1 : pc + 1 = pc1) (hd : decode cd pc1 = .ok (.ifCond .ne o, 3)) (ho : 0 ≤ (pc1 : Int) + o) (py pn : Nat) (hy : ((pc1 : Int) + o).toNat = py) (hn : pc1 + 3 = pn) (h1 : ¬ a = b → Ends p e s0 below R Q T (mkF m py ls st)) (h2 : a = b → Ends p e s0 below R Q T (mkF m pn ls st)) : Ends p e s0 below R Q T (mkF m pc ls (.long b :: .long a :: st)) := by
  subst hp1
  refine Ends.map (T' := T) (f' := mkF m (pc + 1) ls (.int (lcmpW a b) :: st)) (fun _ q => XS.lcmp X.here k.1 rfl (hb k.2.2.1 hd0) rfl q) ?_
  exact if_ne k X hd ho py pn hy hn (fun q => h1 (mt (lw_eq a b).mpr q)) (fun q => h2 ((lw_eq a b).mp q))
theorem ifnull_y (k : Wk.K p s m meth c Z y cd ml ret) (X : Stand p l e R s m args below meth c T locs cells slots) {o : Int} (hd : decode cd pc = .ok (.ifnull o, 3)) (ho : 0 ≤ (pc : Int) + o) (pc' : Nat) (hp : ((pc : Int) + o).toNat = pc') (h : Ends p e s0 below R Q T (mkF m pc' ls st)) : Ends p e s0 below R Q T (mkF m pc ls (.null :: st)) := by
  exact h.map fun _ q => XS.ifnullYes X.here k.1 rfl rfl (hb k.2.2.1 hd) rfl ho hp q
theorem ifnull_n (k : Wk.K p s m meth c Z y cd ml ret) (X : Stand p l e R s m args below meth c T locs cells slots) {o : Int} {a : Addr} (hd : decode cd pc = .ok (.ifnull o, 3)) (pc' : Nat) (hp : pc + 3 = pc') (h : Ends p e s0 below R Q T (mkF m pc' ls st)) : Ends p e s0 below R Q T (mkF m pc ls (.ref a :: st)) := by
  subst hp; exact h.map fun _ q => XS.ifnullNo X.here k.1 rfl (hb k.2.2.1 hd) rfl q
theorem ifnonnull_y (k : Wk.K p s m meth c Z y cd ml ret) (X : Stand p l e R s m args below meth c T locs cells slots) {o : Int} {a : Addr} (hd : decode cd pc = .ok (.ifnonnull o, 3)) (ho : 0 ≤ (pc : Int) + o) (pc' : Nat) (hp : ((pc : Int) + o).toNat = pc') (h : Ends p e s0 below R Q T (mkF m pc' ls st)) : Ends p e s0 below R Q T (mkF m pc ls (.ref a :: st)) := by
  exact h.map fun _ q => XS.ifnonnullYes X.here k.1 rfl rfl (hb k.2.2.1 hd) rfl ho hp q
theorem ifnonnull_n (k : Wk.K p s m meth c Z y cd ml ret) (X : Stand p l e R s m args below meth c T locs cells slots) {o : Int} (hd : decode cd pc = .ok (.ifnonnull o, 3)) (pc' : Nat) (hp : pc + 3 = pc') (h : Ends p e s0 below R Q T (mkF m pc' ls st)) : Ends p e s0 below R Q T (mkF m pc ls (.null :: st)) := by
  subst hp; exact h.map fun _ q => XS.ifnonnullNo X.here k.1 rfl (hb k.2.2.1 hd) rfl q
theorem getfield (k : Wk.K p s m meth c Z y cd ml ret) (X : Stand p l e R s m args below meth c T locs cells slots) {R0 O n d host : String} {idx : Nat} {a : Addr} {v : Value} (hd : decode cd pc = .ok (.getfield idx, 3)) (wl : (Jvm.Cond.fieldLink y.cls idx R0 n d).before a0 Z = true ∨ (Jvm.Cond.fieldLinkNest y.cls idx R0 n d host).before a0 Z = true) (via : Via Z R0 O n d) (e0 : T.heap = h) (F : Fld Z h a O n d v) (pc' : Nat) (hp : pc + 3 = pc')
    (g : ∀ T' : State, Stand p l e R s m args below meth c T' locs cells slots → T'.heap = h → Ends p e s0 below R Q T' (mkF m pc' ls (v :: st))) : Ends p e s0 below R Q T (mkF m pc ls (.ref a :: st)) := by
  subst hp
  obtain ⟨T', X', e', q⟩ := getF X k.1 k.2.1 k.2.2.2.2.1 wl via e0 F (g := mkF m pc ls (.ref a :: st)) rfl rfl (hb k.2.2.1 hd)
  exact (g T' X' e').map q
theorem getstatic (k : Wk.K p s m meth c Z y cd ml ret) (X : Stand p l e R s m args below meth c T locs cells slots) {O n d host : String} {idx : Nat} {v : Value} (hd : decode cd pc = .ok (.getstatic idx, 3)) (wl : (Jvm.Cond.fieldLink y.cls idx O n d).before a0 Z = true ∨ (Jvm.Cond.fieldLinkNest y.cls idx O n d host).before a0 Z = true) (e0 : T.heap = h) (F : Sta Z h O n d v) (pc' : Nat) (hp : pc + 3 = pc')
    (g : ∀ T' : State, Stand p l e R s m args below meth c T' locs cells slots → T'.heap = h → Ends p e s0 below R Q T' (mkF m pc' ls (v :: st))) : Ends p e s0 below R Q T (mkF m pc ls st) := by
  subst hp
  obtain ⟨T', X', e', q⟩ := getS2 X k.1 k.2.1 k.2.2.2.2.1 wl Via.refl e0 F (g := mkF m pc ls st) rfl (hb k.2.2.1 hd)
  exact (g T' X' e').map q
theorem putfield (k : Wk.K p s m meth c Z y cd ml ret) (X : Stand p l e R s m args below meth c T locs cells slots) {R0 O n d host C : String} {idx kk : Nat} {ty : FieldType} {a : Addr} {v old : Value} (hd : decode cd pc = .ok (.putfield idx, 3)) (wl : (Jvm.Cond.fieldLink y.cls idx R0 n d).before a0 Z = true ∨ (Jvm.Cond.fieldLinkNest y.cls idx R0 n d host).before a0 Z = true) (via : Via Z R0 O n d) (e0 : T.heap = h) (F : Fld Z h a O n d old) (E : Exa Z h a C)
    (L : (Jvm.Cond.lays C O n d).before a0 Z = true ∨ ((Jvm.Cond.laysFinal C O n d).before a0 Z = true ∧ y.cls = O ∧ y.name = "<init>")) (wi : (Jvm.Cond.instantiable C kk).before a0 Z = true) (hty : parseFieldDescriptor d = some ty) (hn : narrow ty v = v) (hf : fits ty v = true) (pc' : Nat) (hp : pc + 3 = pc')
    (g : ∀ (T' : State) (h' : Heap), Stand p l e R s m args below meth c T' (locs ++ [⟨a, Jvm.RoadKit.slotOf Z O n d⟩]) cells slots → T'.heap = h' → Wr h h' a (Jvm.RoadKit.slotOf Z O n d) v → Ends p e s0 below R Q T' (mkF m pc' ls st)) : Ends p e s0 below R Q T (mkF m pc ls (v :: .ref a :: st)) := by
  subst hp
  obtain ⟨T', h', X', e', W', q⟩ := putF X k.1 k.2.1 k.2.2.2.2.1 wl via e0 F E (L.imp id fun q => ⟨q.1, q.2.1, k.2.2.2.2.2.2.2.trans q.2.2⟩) wi hty hn hf (g := mkF m pc ls (v :: .ref a :: st)) rfl rfl (hb k.2.2.1 hd)
  exact (g T' h' X' e' W').map q
theorem initObj (k : Wk.K p s m meth c Z y cd ml ret) (X : Stand p l e R s m args below meth c T locs cells slots) {idx : Nat} {a : Addr} {W : Nat} (hd : decode cd pc = .ok (.invokespecial idx, 3)) (w1 : (Jvm.Cond.methodLink y.cls idx Lib.objectInit).before a0 Z = true) (w2 : (Jvm.Cond.instanceMethod Lib.objectInit).before a0 Z = true) (w3 : (Jvm.Cond.code Lib.objectInit ⟨#[0xb1]⟩ 1 none).before a0 Z = true) (e0 : T.heap = h) (hsz : ls.size = ml) (hf : 1 ≤ R.frames) (hW : (st.map fun v => v.category).sum + 12 ≤ R.locals) (pc' : Nat) (hp : pc + 3 = pc')
    (g : ∀ T' : State, Stand p l e R s m args below meth c T' locs cells slots → T'.heap = h → Ends p e s0 below R Q T' (mkF m pc' ls st)) : Ends p e s0 below R Q T (mkF m pc ls (.ref a :: st)) := by
  subst hp
  obtain ⟨T', X', e', q⟩ := initO X k.1 k.2.1 k.2.2.2.2.1 w1 w2 w3 e0 (g := mkF m pc ls (.ref a :: st)) rfl (hsz.trans k.2.2.2.1.symm) rfl (hb k.2.2.1 hd) hf (W := (st.map fun v => v.category).sum) (by show 2 * 0 + _ ≤ _; rw [Nat.mul_zero, Nat.zero_add]; exact Nat.le_refl _) hW
  exact (g T' X' e').map q
theorem new (k : Wk.K p s m meth c Z y cd ml ret) (X : Stand p l e R s m args below meth c T locs cells slots) {C : String} {idx n : Nat} (hd : decode cd pc = .ok (.new idx, 3)) (wl : (Jvm.Cond.classLink y.cls idx C).before a0 Z = true) (wi : (Jvm.Cond.instantiable C n).before a0 Z = true) (wz : (Jvm.Cond.initialized C).before a0 Z = true) (e0 : T.heap = h) (hc : cells + 1 ≤ R.cells) (hs : slots + n ≤ R.slots) (pc' : Nat) (hp : pc + 3 = pc')
    (g : ∀ (T' : State) (h' : Heap) (a : Addr), a = h.size → Stand p l e R s m args below meth c T' locs (cells + 1) (slots + n) → T'.heap = h' → Ext h h' → Exa Z h' a C → (∀ {O nm d : String} {ty : FieldType}, Laid Z a0 C O nm d → parseFieldDescriptor d = some ty → Fld Z h' a O nm d (defaultValue ty)) → Ends p e s0 below R Q T' (mkF m pc' ls (.ref a :: st))) : Ends p e s0 below R Q T (mkF m pc ls st) := by
  subst hp
  obtain ⟨T', h', X', e', E', A', D', -, q⟩ := newO X k.1 k.2.1 k.2.2.2.2.1 wl wi wz e0 (g := mkF m pc ls st) rfl (hb k.2.2.1 hd) hc hs
  exact (g T' h' h.size rfl X' e' E' A' D').map q
theorem checkcast (k : Wk.K p s m meth c Z y cd ml ret) (X : Stand p l e R s m args below meth c T locs cells slots) {C : String} {idx : Nat} {a : Addr} (hd : decode cd pc = .ok (.checkcast idx, 3)) (wl : (Jvm.Cond.classLink y.cls idx C).before a0 Z = true) (e0 : T.heap = h) (F : Ins Z h a C true) (pc' : Nat) (hp : pc + 3 = pc')
    (g : ∀ T' : State, Stand p l e R s m args below meth c T' locs cells slots → T'.heap = h → Ends p e s0 below R Q T' (mkF m pc' ls (.ref a :: st))) : Ends p e s0 below R Q T (mkF m pc ls (.ref a :: st)) := by
  subst hp
  obtain ⟨T', X', e', q⟩ := castY X k.1 k.2.1 k.2.2.2.2.1 wl e0 F (g := mkF m pc ls (.ref a :: st)) rfl rfl (hb k.2.2.1 hd)
  exact (g T' X' e').map q
theorem inst_y (k : Wk.K p s m meth c Z y cd ml ret) (X : Stand p l e R s m args below meth c T locs cells slots) {C : String} {idx : Nat} {a : Addr} (hd : decode cd pc = .ok (.instanceof idx, 3)) (wl : (Jvm.Cond.classLink y.cls idx C).before a0 Z = true) (e0 : T.heap = h) (F : Ins Z h a C true) (pc' : Nat) (hp : pc + 3 = pc')
    (g : ∀ T' : State, Stand p l e R s m args below meth c T' locs cells slots → T'.heap = h → Ends p e s0 below R Q T' (mkF m pc' ls (.int 1 :: st))) : Ends p e s0 below R Q T (mkF m pc ls (.ref a :: st)) := by
  subst hp
  obtain ⟨T', X', e', q⟩ := instY X k.1 k.2.1 k.2.2.2.2.1 wl e0 F (g := mkF m pc ls (.ref a :: st)) rfl rfl (hb k.2.2.1 hd)
  exact (g T' X' e').map q
theorem acmp_same (k : Wk.K p s m meth c Z y cd ml ret) (X : Stand p l e R s m args below meth c T locs cells slots) {cnd : ACond} {o : Int} {a : Addr} (hd : decode cd pc = .ok (.if_acmp cnd o, 3)) (ho : 0 ≤ (pc : Int) + o) (pc' : Nat) (hp : pc' = if acV cnd true = true then ((pc : Int) + o).toNat else pc + 3) (h : Ends p e s0 below R Q T (mkF m pc' ls st)) : Ends p e s0 below R Q T (mkF m pc ls (.ref a :: .ref a :: st)) := by
  exact h.map fun _ q => Jvm.RoadKit.acmp (g := mkF m pc ls (.ref a :: .ref a :: st)) X k.1 rfl rfl rfl rfl (hb k.2.2.1 hd) rfl (decide_eq_true rfl) ho hp q
theorem acmp_diff (k : Wk.K p s m meth c Z y cd ml ret) (X : Stand p l e R s m args below meth c T locs cells slots) {cnd : ACond} {o : Int} {a : Addr} {v : Value} (hd : decode cd pc = .ok (.if_acmp cnd o, 3)) (hv : v.isRef = true) (hne : Value.ref a ≠ v) (ho : 0 ≤ (pc : Int) + o) (pc' : Nat) (hp : pc' = if acV cnd false = true then ((pc : Int) + o).toNat else pc + 3) (h : Ends p e s0 below R Q T (mkF m pc' ls st)) : Ends p e s0 below R Q T (mkF m pc ls (v :: .ref a :: st)) := by
  exact h.map fun _ q => Jvm.RoadKit.acmp (g := mkF m pc ls (v :: .ref a :: st)) X k.1 rfl rfl hv rfl (hb k.2.2.1 hd) rfl (decide_eq_false hne) ho hp q
theorem inst_null (k : Wk.K p s m meth c Z y cd ml ret) (X : Stand p l e R s m args below meth c T locs cells slots) {idx : Nat} (hd : decode cd pc = .ok (.instanceof idx, 3)) (pc' : Nat) (hp : pc + 3 = pc') (h : Ends p e s0 below R Q T (mkF m pc' ls (.int 0 :: st))) : Ends p e s0 below R Q T (mkF m pc ls (.null :: st)) := by
  subst hp; exact h.map fun _ q => X.instanceofNull k.1 (g := mkF m pc ls (.null :: st)) rfl rfl (hb k.2.2.1 hd) _ q
theorem inst_n (k : Wk.K p s m meth c Z y cd ml ret) (X : Stand p l e R s m args below meth c T locs cells slots) {C : String} {idx : Nat} {a : Addr} (hd : decode cd pc = .ok (.instanceof idx, 3)) (wl : (Jvm.Cond.classLink y.cls idx C).before a0 Z = true) (e0 : T.heap = h) (F : Ins Z h a C false) {C' : String} (E : Exa Z h a C') (pc' : Nat) (hp : pc + 3 = pc')
    (g : ∀ T' : State, Stand p l e R s m args below meth c T' locs cells slots → T'.heap = h → Ends p e s0 below R Q T' (mkF m pc' ls (.int 0 :: st))) : Ends p e s0 below R Q T (mkF m pc ls (.ref a :: st)) := by
  subst hp
  obtain ⟨cell, cT, h1, h2, h3⟩ := F
  obtain ⟨cell', kc, e1, -, e3, e4, -⟩ := E
  cases h1.symm.trans e1
  obtain ⟨k', q, -⟩ := k.2.1.alike.2.2 _ _ e3
  obtain ⟨vm', X', st'⟩ := Jvm.Sym.instanceofNoAt X k.1 k.2.2.2.2.1 (mvT k.2.1 wl) (by rw [e0]; exact h1) e4 q (by rw [k.2.1.alike.findClass]; exact h2) (by rw [k.2.1.alike.assignable]; simpa [e4] using h3) (g := mkF m pc ls (.ref a :: st)) rfl rfl (hb k.2.2.1 hd)
  exact (g _ X' e0).map st'
theorem arraylength (k : Wk.K p s m meth c Z y cd ml ret) (X : Stand p l e R s m args below meth c T locs cells slots) {ty : FieldType} {vs : List Value} {a : Addr} (hd : decode cd pc = .ok (.arraylength, 1)) (e0 : T.heap = h) (A : Arl Z h a ty vs) (n : Int32) (hn : n.toInt = vs.length) (pc' : Nat) (hp : pc + 1 = pc') (g : Ends p e s0 below R Q T (mkF m pc' ls (.int n :: st))) : Ends p e s0 below R Q T (mkF m pc ls (.ref a :: st)) := by
  subst hp
  obtain ⟨cl, Ar, rfl, hl⟩ := A
  have q : cl.slots.size.toInt32 = n := by
    apply Int32.toInt_inj.mp
    rw [len_toInt (by simpa using hl), hn]; simp
  refine g.map fun _ r => X.arraylength k.1 (by rw [e0]; exact Ar.1) (State.isArrayOf_alike k.2.1.alike Ar.2.1) (g := mkF m pc ls (.ref a :: st)) rfl rfl (hb k.2.2.1 hd) _ ?_
  rw [q]; exact r
theorem iaload (k : Wk.K p s m meth c Z y cd ml ret) (X : Stand p l e R s m args below meth c T locs cells slots) {xs : List Int32} {a : Addr} {j : Int32} (hd : decode cd pc = .ok (.iaload, 1)) (e0 : T.heap = h) (A : Arl Z h a .int (xs.map .int)) (i : Nat) (hj : j.toInt = i) (x : Int32) (hx : xs[i]? = some x) (pc' : Nat) (hp : pc + 1 = pc') (g : Ends p e s0 below R Q T (mkF m pc' ls (.int x :: st))) : Ends p e s0 below R Q T (mkF m pc ls (.int j :: .ref a :: st)) := by
  subst hp
  obtain ⟨cl, Ar, hs, hl⟩ := A
  have hz : cl.slots.size = xs.length := by rw [← Array.length_toList, hs, List.length_map]
  refine g.map fun _ r => X.iaload k.1 (j := j) (v := .int x) (by rw [e0]; exact Ar.1) (State.isArrayOf_alike k.2.1.alike Ar.2.1) Ar.2.2 (inb hj (hz ▸ lt_of_get hx)) ?_ (g := mkF m pc ls (.int j :: .ref a :: st)) rfl rfl (hb k.2.2.1 hd) _ r
  rw [tnc hj, ← Array.getElem?_toList, hs, List.getElem?_map, hx]; rfl
theorem baload (k : Wk.K p s m meth c Z y cd ml ret) (X : Stand p l e R s m args below meth c T locs cells slots) {xs : List Int32} {a : Addr} {j : Int32} (hd : decode cd pc = .ok (.baload, 1)) (e0 : T.heap = h) (A : Arl Z h a .byte (xs.map .int)) (i : Nat) (hj : j.toInt = i) (x : Int32) (hx : xs[i]? = some x) (pc' : Nat) (hp : pc + 1 = pc') (g : Ends p e s0 below R Q T (mkF m pc' ls (.int x :: st))) : Ends p e s0 below R Q T (mkF m pc ls (.int j :: .ref a :: st)) := by
  subst hp
  obtain ⟨cl, Ar, hs, hl⟩ := A
  have hz : cl.slots.size = xs.length := by rw [← Array.length_toList, hs, List.length_map]
  refine g.map fun _ r => X.baloadBytes k.1 (j := j) (v := .int x) (by rw [e0]; exact Ar.1) (State.isArrayOf_alike k.2.1.alike Ar.2.1) Ar.2.2 (inb hj (hz ▸ lt_of_get hx)) ?_ (g := mkF m pc ls (.int j :: .ref a :: st)) rfl rfl (hb k.2.2.1 hd) _ r
  rw [tnc hj, ← Array.getElem?_toList, hs, List.getElem?_map, hx]; rfl
theorem iastore (k : Wk.K p s m meth c Z y cd ml ret) (X : Stand p l e R s m args below meth c T locs cells slots) {xs : List Int32} {a : Addr} {j x : Int32} (hd : decode cd pc = .ok (.iastore, 1)) (e0 : T.heap = h) (A : Arl Z h a .int (xs.map .int)) (i : Nat) (hj : j.toInt = i) (hi : i < xs.length) (pc' : Nat) (hp : pc + 1 = pc')
    (g : ∀ (T' : State) (h' : Heap), Stand p l e R s m args below meth c T' (locs ++ [⟨a, i⟩]) cells slots → T'.heap = h' → Wr h h' a i (.int x) → Arl Z h' a .int ((xs.set i x).map .int) → Ends p e s0 below R Q T' (mkF m pc' ls st)) : Ends p e s0 below R Q T (mkF m pc ls (.int x :: .int j :: .ref a :: st)) := by
  subst hp
  have A' := A
  obtain ⟨cl, Ar, hs, hl⟩ := A
  have hz : cl.slots.size = xs.length := by rw [← Array.length_toList, hs, List.length_map]
  obtain ⟨T', h', X', e', W', q⟩ := stI X k.1 k.2.1 e0 Ar (j := j) (x := x) (inb hj (hz ▸ hi)) (g := mkF m pc ls (.int x :: .int j :: .ref a :: st)) rfl rfl (hb k.2.2.1 hd)
  rw [tnc hj] at X' W'
  exact (g T' h' X' e' W' (by rw [List.map_set]; exact A'.same W')).map q
theorem bastore (k : Wk.K p s m meth c Z y cd ml ret) (X : Stand p l e R s m args below meth c T locs cells slots) {xs : List Int32} {a : Addr} {j x : Int32} (hd : decode cd pc = .ok (.bastore, 1)) (e0 : T.heap = h) (A : Arl Z h a .byte (xs.map .int)) (i : Nat) (hj : j.toInt = i) (hi : i < xs.length) (x' : Int32) (hx' : x.toInt8.toInt32 = x') (pc' : Nat) (hp : pc + 1 = pc')
    (g : ∀ (T' : State) (h' : Heap), Stand p l e R s m args below meth c T' (locs ++ [⟨a, i⟩]) cells slots → T'.heap = h' → Wr h h' a i (.int x') → Arl Z h' a .byte ((xs.set i x').map .int) → Ends p e s0 below R Q T' (mkF m pc' ls st)) : Ends p e s0 below R Q T (mkF m pc ls (.int x :: .int j :: .ref a :: st)) := by
  subst hp hx'
  have A' := A
  obtain ⟨cl, Ar, hs, hl⟩ := A
  have hz : cl.slots.size = xs.length := by rw [← Array.length_toList, hs, List.length_map]
  obtain ⟨T', h', X', e', W', q⟩ := stB X k.1 k.2.1 e0 Ar (j := j) (x := x) (inb hj (hz ▸ hi)) (g := mkF m pc ls (.int x :: .int j :: .ref a :: st)) rfl rfl (hb k.2.2.1 hd)
  rw [tnc hj] at X' W'
  exact (g T' h' X' e' W' (by rw [List.map_set]; exact A'.same W')).map q
theorem newarray (k : Wk.K p s m meth c Z y cd ml ret) (X : Stand p l e R s m args below meth c T locs cells slots) {aty : ArrayType} {n : Int32} (hd : decode cd pc = .ok (.newarray aty, 2)) (wa : (Jvm.Cond.arrayClass (newarray.typeOf aty)).before a0 Z = true) (e0 : T.heap = h) (i : Nat) (hn : n.toInt = i) (cap : Nat) (hcap : i ≤ cap) (hb8 : cap * 8 ≤ 536870912) (hc : cells + 1 ≤ R.cells) (hs : slots + cap ≤ R.slots) (pc' : Nat) (hp : pc + 2 = pc')
    (g : ∀ (T' : State) (h' : Heap) (a : Addr), a = h.size → Stand p l e R s m args below meth c T' locs (cells + 1) (slots + cap) → T'.heap = h' → Ext h h' → Arl Z h' a (newarray.typeOf aty) (List.replicate i (defaultValue (newarray.typeOf aty))) → Ends p e s0 below R Q T' (mkF m pc' ls (.ref a :: st))) : Ends p e s0 below R Q T (mkF m pc ls (.int n :: st)) := by
  subst hp
  have h0 : ¬ n < 0 := by rw [Int32.lt_iff_toInt_lt]; have e0 : (0 : Int32).toInt = 0 := rfl; omega
  obtain ⟨T', h', cA, X', e', E', A', q⟩ := newP X k.1 k.2.1 wa e0 (g := mkF m pc ls (.int n :: st)) rfl (hb k.2.2.1 hd) rfl h0 (cap := cap) (by rw [tnc hn]; exact hcap) hb8 hc hs
  refine (g T' h' h.size rfl X' e' E' ⟨_, A', ?_, ?_⟩).map q
  · simp [newA, tnc hn]
  · rw [List.length_replicate]; omega
theorem callS (k : Wk.K p s m meth c Z y cd ml ret) (X : Stand p l e R s m args below meth c T locs cells slots) {y' : MethodName} {cd' : ByteArray} {ml' : Nat} {ret' : Option FieldType} {rm' : Room} {Qc : Option Value → Heap → List Loc → Prop} {idx : Nat} {ps : List FieldType} {rt : Option FieldType} (as : List Value) (rest : List Value) (hd : decode cd pc = .ok (.invokestatic idx, 3)) (M : Wk.Met l y' cd' ml' ret' rm' as.toArray Z h Qc []) (e0 : T.heap = h)
    (w1 : (Jvm.Cond.methodLink y.cls idx y').before a0 Z = true) (w2 : (Jvm.Cond.static y').before a0 Z = true) (w3 : (Jvm.Cond.initialized y'.cls).before a0 Z = true) (w4 : (Jvm.Cond.code y' cd' ml' ret').before a0 Z = true) (hy : y'.cls ≠ "java/lang/invoke/MethodHandle" ∧ y'.cls ≠ "java/lang/invoke/VarHandle") (hsz : ls.size = ml) (hlen : parseMethodDescriptor y'.desc = some ⟨ps, rt⟩) (hl2 : as.length = ps.length) (hst : st = as.reverse ++ rest)
    (hf : rm'.frames + 1 ≤ R.frames) (hlo : (rest.map fun v => v.category).sum + (ml' + 11) + rm'.locals ≤ R.locals) (hc : cells + rm'.cells ≤ R.cells) (hs : slots + rm'.slots ≤ R.slots) (pc' : Nat) (hp : pc + 3 = pc')
    (g : ∀ (T' : State) (v : Option Value) (L : List Loc), Stand p l e R s m args below meth c T' (locs ++ L) (cells + rm'.cells) (slots + rm'.slots) → Qc v T'.heap L → Ends p e s0 below R Q T' (mkF m pc' ls (v.toList ++ rest))) : Ends p e s0 below R Q T (mkF m pc ls st) := by
  subst hp hst
  obtain ⟨v, _, ⟨T', L', c', n'⟩, -, X', ⟨Lc, hQ, q1, q2, q3⟩, q⟩ := Jvm.LawKit.callS X k.1 (y := y') k.2.2.2.2.1 (mvT k.2.1 w1) (mvT k.2.1 w2) (mvT k.2.1 w3) (mvT k.2.1 w4) hy (backOf (W := (rest.map fun v => v.category).sum) M k.2.1 w4 w3 hf hlo) (g := mkF m pc ls (as.reverse ++ rest)) rfl (hsz.trans k.2.2.2.1.symm) (argsL := as) (rest := rest) (lenOf hlen hl2) rfl (by show 2 * 0 + _ ≤ _; rw [Nat.mul_zero, Nat.zero_add]; exact Nat.le_refl _) (hb k.2.2.1 hd) (fun _ _ => ⟨rfl, e0, hc, hs⟩)
  dsimp only [Pt.U, Pt.locs, Pt.cells, Pt.slots] at X' q1 q2 q3 q hQ
  subst q1 q2 q3
  exact (g T' v Lc X' hQ).map q
theorem callI (k : Wk.K p s m meth c Z y cd ml ret) (X : Stand p l e R s m args below meth c T locs cells slots) {y' : MethodName} {cd' : ByteArray} {ml' : Nat} {rm' : Room} {Qc : Option Value → Heap → List Loc → Prop} {idx : Nat} {ps : List FieldType} {rt : Option FieldType} {a : Addr} (as : List Value) (rest : List Value) (hd : decode cd pc = .ok (.invokespecial idx, 3)) (M : Wk.Met l y' cd' ml' none rm' (.ref a :: as).toArray Z h Qc []) (e0 : T.heap = h) (hin : y'.name = "<init>")
    (w1 : (Jvm.Cond.methodLink y.cls idx y').before a0 Z = true) (w2 : (Jvm.Cond.instanceMethod y').before a0 Z = true) (w3 : (Jvm.Cond.initialized y'.cls).before a0 Z = true) (w4 : (Jvm.Cond.code y' cd' ml' none).before a0 Z = true) (hy : y'.cls ≠ "java/lang/invoke/MethodHandle" ∧ y'.cls ≠ "java/lang/invoke/VarHandle") (hsz : ls.size = ml) (hlen : parseMethodDescriptor y'.desc = some ⟨ps, rt⟩) (hl2 : as.length = ps.length) (hst : st = as.reverse ++ .ref a :: rest)
    (hf : rm'.frames + 1 ≤ R.frames) (hlo : (rest.map fun v => v.category).sum + (ml' + 11) + rm'.locals ≤ R.locals) (hc : cells + rm'.cells ≤ R.cells) (hs : slots + rm'.slots ≤ R.slots) (pc' : Nat) (hp : pc + 3 = pc')
    (g : ∀ (T' : State) (v : Option Value) (L : List Loc), Stand p l e R s m args below meth c T' (locs ++ L) (cells + rm'.cells) (slots + rm'.slots) → Qc v T'.heap L → Ends p e s0 below R Q T' (mkF m pc' ls (v.toList ++ rest))) : Ends p e s0 below R Q T (mkF m pc ls st) := by
  subst hp hst
  obtain ⟨v, _, ⟨T', L', c', n'⟩, -, X', ⟨Lc, hQ, q1, q2, q3⟩, q⟩ := X.specialBack k.1 (y := y') hin k.2.2.2.2.1 (mvT k.2.1 w1) (mvT k.2.1 w2) (mvT k.2.1 w4) hy (backOf (W := (rest.map fun v => v.category).sum) M k.2.1 w4 w3 hf hlo) (g := mkF m pc ls (as.reverse ++ .ref a :: rest)) rfl (hsz.trans k.2.2.2.1.symm) (Steps.refl _) (a := a) (argsL := as) (rest := rest) (lenOf hlen hl2) rfl (by show 2 * 0 + _ ≤ _; rw [Nat.mul_zero, Nat.zero_add]; exact Nat.le_refl _) (hb k.2.2.1 hd) (fun _ _ => ⟨rfl, e0, hc, hs⟩)
  dsimp only [Pt.U, Pt.locs, Pt.cells, Pt.slots] at X' q1 q2 q3 q hQ
  subst q1 q2 q3
  exact (g T' v Lc X' hQ).map fun _ r => q.trans r
theorem callV (k : Wk.K p s m meth c Z y cd ml ret) (X : Stand p l e R s m args below meth c T locs cells slots) {y' : MethodName} {cd' : ByteArray} {ml' : Nat} {ret' : Option FieldType} {rm' : Room} {Qc : Option Value → Heap → List Loc → Prop} {idx : Nat} {ps : List FieldType} {rt : Option FieldType} {a : Addr} (as : List Value) (rest : List Value) (hd : decode cd pc = .ok (.invokevirtual idx, 3)) (M : Wk.Met l y' cd' ml' ret' rm' (.ref a :: as).toArray Z h Qc []) (e0 : T.heap = h) (E : Exa Z h a y'.cls)
    (w1 : (Jvm.Cond.methodLink y.cls idx y').before a0 Z = true) (w0 : (Jvm.Cond.declares y').before a0 Z = true) (ws : (Jvm.Cond.selects y'.cls y' y').before a0 Z = true) (w2 : (Jvm.Cond.instanceMethod y').before a0 Z = true) (w3 : (Jvm.Cond.initialized y'.cls).before a0 Z = true) (w4 : (Jvm.Cond.code y' cd' ml' ret').before a0 Z = true) (hy : y'.cls ≠ "java/lang/invoke/MethodHandle" ∧ y'.cls ≠ "java/lang/invoke/VarHandle") (hsz : ls.size = ml) (hlen : parseMethodDescriptor y'.desc = some ⟨ps, rt⟩) (hl2 : as.length = ps.length) (hst : st = as.reverse ++ .ref a :: rest)
    (hf : rm'.frames + 1 ≤ R.frames) (hlo : (rest.map fun v => v.category).sum + (ml' + 11) + rm'.locals ≤ R.locals) (hc : cells + rm'.cells ≤ R.cells) (hs : slots + rm'.slots ≤ R.slots) (pc' : Nat) (hp : pc + 3 = pc')
    (g : ∀ (T' : State) (v : Option Value) (L : List Loc), Stand p l e R s m args below meth c T' (locs ++ L) (cells + rm'.cells) (slots + rm'.slots) → Qc v T'.heap L → Ends p e s0 below R Q T' (mkF m pc' ls (v.toList ++ rest))) : Ends p e s0 below R Q T (mkF m pc ls st) := by
  subst hp hst
  obtain ⟨cq, kq, qa, qb, qc⟩ := isOf k.2.1 e0 E
  obtain ⟨v, _, ⟨T', L', c', n'⟩, -, X', ⟨Lc, hQ, q1, q2, q3⟩, q⟩ := X.virtualBack k.1 (y := y') (z := y') k.2.2.2.2.1 (mvT k.2.1 w1) (mvT k.2.1 w0) (notFace_of_selects (args := #[]) (mvT k.2.1 ws)) (mvT k.2.1 ws) (mvT k.2.1 w2) hy (backOf (W := (rest.map fun v => v.category).sum) M k.2.1 w4 w3 hf hlo) qa qc (g := mkF m pc ls (as.reverse ++ .ref a :: rest)) rfl (hsz.trans k.2.2.2.1.symm) (Steps.refl _) (argsL := as) (rest := rest) (lenOf hlen hl2) rfl (by show 2 * 0 + _ ≤ _; rw [Nat.mul_zero, Nat.zero_add]; exact Nat.le_refl _) (hb k.2.2.1 hd) (fun _ _ => ⟨rfl, e0, hc, hs⟩)
  dsimp only [Pt.U, Pt.locs, Pt.cells, Pt.slots] at X' q1 q2 q3 q hQ
  subst q1 q2 q3
  exact (g T' v Lc X' hQ).map fun _ r => q.trans r
theorem caload (k : Wk.K p s m meth c Z y cd ml ret) (X : Stand p l e R s m args below meth c T locs cells slots) {xs : List Int32} {a : Addr} {j : Int32} (hd : decode cd pc = .ok (.caload, 1)) (e0 : T.heap = h) (A : Arl Z h a .char (xs.map .int)) (i : Nat) (hj : j.toInt = i) (x : Int32) (hx : xs[i]? = some x) (pc' : Nat) (hp : pc + 1 = pc') (g : Ends p e s0 below R Q T (mkF m pc' ls (.int x :: st))) : Ends p e s0 below R Q T (mkF m pc ls (.int j :: .ref a :: st)) := by
  subst hp
  obtain ⟨cl, Ar, hs, hl⟩ := A
  have hz : cl.slots.size = xs.length := by rw [← Array.length_toList, hs, List.length_map]
  refine g.map fun _ r => X.caload k.1 (j := j) (v := .int x) (by rw [e0]; exact Ar.1) (State.isArrayOf_alike k.2.1.alike Ar.2.1) Ar.2.2 (inb hj (hz ▸ lt_of_get hx)) ?_ (g := mkF m pc ls (.int j :: .ref a :: st)) rfl rfl (hb k.2.2.1 hd) _ r
  rw [tnc hj, ← Array.getElem?_toList, hs, List.getElem?_map, hx]; rfl
theorem castore (k : Wk.K p s m meth c Z y cd ml ret) (X : Stand p l e R s m args below meth c T locs cells slots) {xs : List Int32} {a : Addr} {j x : Int32} (hd : decode cd pc = .ok (.castore, 1)) (e0 : T.heap = h) (A : Arl Z h a .char (xs.map .int)) (i : Nat) (hj : j.toInt = i) (hi : i < xs.length) (x' : Int32) (hx' : x.toUInt32.toUInt16.toUInt32.toInt32 = x') (pc' : Nat) (hp : pc + 1 = pc')
    (g : ∀ (T' : State) (h' : Heap), Stand p l e R s m args below meth c T' (locs ++ [⟨a, i⟩]) cells slots → T'.heap = h' → Wr h h' a i (.int x') → Arl Z h' a .char ((xs.set i x').map .int) → Ends p e s0 below R Q T' (mkF m pc' ls st)) : Ends p e s0 below R Q T (mkF m pc ls (.int x :: .int j :: .ref a :: st)) := by
  subst hp hx'
  have A' := A
  obtain ⟨cl, Ar, hs, hl⟩ := A
  have hz : cl.slots.size = xs.length := by rw [← Array.length_toList, hs, List.length_map]
  obtain ⟨T', h', X', e', W', q⟩ := stC X k.1 k.2.1 e0 Ar (j := j) (x := x) (inb hj (hz ▸ hi)) (g := mkF m pc ls (.int x :: .int j :: .ref a :: st)) rfl rfl (hb k.2.2.1 hd)
  rw [tnc hj] at X' W'
  exact (g T' h' X' e' W' (by rw [List.map_set]; exact A'.same W')).map q
theorem ret_int (k : Wk.K p (s0.setVm vm0) m meth c Z y cd ml ret) (X : Stand p l e R (s0.setVm vm0) m args below meth c T locs cells slots) (hS : s0.Since vm0 k0) (hk : k0 ≤ T.heap.size) (hret : ret = some .int) {z : Int32} (hd : decode cd pc = .ok (.ireturn, 1)) (hc : cells ≤ R.cells) (hs : slots ≤ R.slots) (h : Q (some (.int z)) T.heap locs) : Ends p e s0 below R Q T (mkF m pc ls (.int z :: st)) := by
  have hl := k.2.2.2.2.2.2.1
  obtain ⟨fs, hr, hrun, hended, hR, hW, hB, hsame⟩ := X.leaveW hS hk (v := some (.int z)) (fun q => by rw [k.2.2.2.2.2.1, hret] at q; cases q)
  exact ⟨_, _, retOut X k.1 (t := .int) (k.2.2.2.2.2.1.trans hret) rfl (Or.inl ⟨rfl, Or.inl rfl, _, rfl⟩) (hb k.2.2.1 hd) hr, hrun, hended, _, _, rfl, h, hR, hW, hB, hsame.mono hc hs⟩
theorem ret_bool (k : Wk.K p (s0.setVm vm0) m meth c Z y cd ml ret) (X : Stand p l e R (s0.setVm vm0) m args below meth c T locs cells slots) (hS : s0.Since vm0 k0) (hk : k0 ≤ T.heap.size) (hret : ret = some .boolean) {z : Int32} (hd : decode cd pc = .ok (.ireturn, 1)) (hc : cells ≤ R.cells) (hs : slots ≤ R.slots) (hz : z = 0 ∨ z = 1) (h : Q (some (.int z)) T.heap locs) : Ends p e s0 below R Q T (mkF m pc ls (.int z :: st)) := by
  have hl := k.2.2.2.2.2.2.1
  obtain ⟨fs, hr, hrun, hended, hR, hW, hB, hsame⟩ := X.leaveW hS hk (v := some (.int z)) (fun q => by rw [k.2.2.2.2.2.1, hret] at q; cases q)
  exact ⟨_, _, retOut X k.1 (t := .boolean) (k.2.2.2.2.2.1.trans hret) (by rcases hz with rfl | rfl <;> rfl) (Or.inl ⟨rfl, Or.inr (Or.inl rfl), _, rfl⟩) (hb k.2.2.1 hd) hr, hrun, hended, _, _, rfl, h, hR, hW, hB, hsame.mono hc hs⟩
theorem ret_ref (k : Wk.K p (s0.setVm vm0) m meth c Z y cd ml ret) (X : Stand p l e R (s0.setVm vm0) m args below meth c T locs cells slots) (hS : s0.Since vm0 k0) (hk : k0 ≤ T.heap.size) {t : FieldType} (hret : ret = some t) (ht : t.isReference = true) {z : Value} (hz : z.isRef = true) (hn : narrow t z = z) (hd : decode cd pc = .ok (.areturn, 1)) (hc : cells ≤ R.cells) (hs : slots ≤ R.slots) (h : Q (some z) T.heap locs) : Ends p e s0 below R Q T (mkF m pc ls (z :: st)) := by
  have hl := k.2.2.2.2.2.2.1
  obtain ⟨fs, hr, hrun, hended, hR, hW, hB, hsame⟩ := X.leaveW hS hk (v := some z) (fun q => by rw [k.2.2.2.2.2.1, hret] at q; cases q)
  exact ⟨_, _, retOut X k.1 (t := t) (k.2.2.2.2.2.1.trans hret) hn (Or.inr (Or.inr (Or.inr (Or.inr ⟨rfl, ht, hz⟩)))) (hb k.2.2.1 hd) hr, hrun, hended, _, _, rfl, h, hR, hW, hB, hsame.mono hc hs⟩
theorem ret_void (k : Wk.K p (s0.setVm vm0) m meth c Z y cd ml ret) (X : Stand p l e R (s0.setVm vm0) m args below meth c T locs cells slots) (hS : s0.Since vm0 k0) (hk : k0 ≤ T.heap.size) (hret : ret = none) (hd : decode cd pc = .ok (.return_, 1)) (hc : cells ≤ R.cells) (hs : slots ≤ R.slots) (h : Q none T.heap locs) : Ends p e s0 below R Q T (mkF m pc ls []) := by
  have hl := k.2.2.2.2.2.2.1
  obtain ⟨fs, hr, hrun, hended, hR, hW, hB, hsame⟩ := X.leaveW hS hk (v := none) (fun _ => rfl)
  exact ⟨_, _, X.returnOut k.1 (k.2.2.2.2.2.1.trans hret) (hb k.2.2.1 hd) hr, hrun, hended, _, _, rfl, h, hR, hW, hB, hsame.mono hc hs⟩
theorem rek {vm1 : Vm} (k : Wk.K p (s0.setVm vm0) m meth c Z y cd ml ret) (hW : Z.Warmed39 vm1) (hf : vm1.findClass y.cls = some m.cls) : Wk.K p (s0.setVm vm1) m meth c Z y cd ml ret := ⟨k.1, hW, k.2.2.1, k.2.2.2.1, hf, k.2.2.2.2.2⟩
theorem ldcS (k : Wk.K p (s0.setVm vm0) m meth c Z y cd ml ret) (X : Stand p l e R (s0.setVm vm0) m args below meth c T locs cells slots) {text : String} {index : Nat} (hd : decode cd pc = .ok (.ldc index, 2)) (w : (Jvm.Cond.stringLink y.cls index text).before a0 Z = true) (wS : ∀ a ∈ Bundle.stringAtoms, a.before a0 Z = true) (e0 : T.heap = h) (hS : s0.Since vm0 k0) (hk : k0 ≤ h.size) (n : Nat) (hn : 4 * text.toList.length ≤ n) (hbig : n ≤ 536870912) (hc : cells + 2 ≤ R.cells) (hl : slots + (n + 4) ≤ R.slots) (pc' : Nat) (hp : pc + 2 = pc')
    (g : ∀ (a : Addr) (vm1 : Vm) (k1 : Nat) (T' : State) (h' : Heap), Wk.K p (s0.setVm vm1) m meth c Z y cd ml ret → Stand p l e R (s0.setVm vm1) m args below meth c T' locs (cells + 2) (slots + (n + 4)) → T'.heap = h' → Ext h h' → s0.Since vm1 k1 → k1 ≤ h'.size → Ends p e s0 below R Q T' (mkF m pc' ls (.ref a :: st))) : Ends p e s0 below R Q T (mkF m pc ls st) := by
  subst hp
  obtain ⟨a, T', h', k1, X', e', E', hS', hk', hW', hf', q⟩ := Jvm.RoadKit.ldcS X k.1 (vm0 := vm0) k.2.1 k.2.2.2.2.1 w wS e0 hS hk (g := mkF m pc ls st) rfl (hb k.2.2.1 hd) hn hbig hc hl
  exact (g a T'.vm k1 T' h' (rek k hW' hf') X' e' E' hS' hk').map q
theorem callSW (k : Wk.K p (s0.setVm vm0) m meth c Z y cd ml ret) (X : Stand p l e R (s0.setVm vm0) m args below meth c T locs cells slots) {y' : MethodName} {cd' : ByteArray} {ml' : Nat} {ret' : Option FieldType} {rm' : Room} {Qc : Option Value → Heap → List Loc → Prop} {idx : Nat} {ps : List FieldType} {rt : Option FieldType} (as : List Value) (rest : List Value) (hd : decode cd pc = .ok (.invokestatic idx, 3)) (M : Met l y' cd' ml' ret' rm' as.toArray Z h Qc []) (e0 : T.heap = h) (hS : s0.Since vm0 k0) (hk : k0 ≤ h.size)
    (w1 : (Jvm.Cond.methodLink y.cls idx y').before a0 Z = true) (w2 : (Jvm.Cond.static y').before a0 Z = true) (w3 : (Jvm.Cond.initialized y'.cls).before a0 Z = true) (w4 : (Jvm.Cond.code y' cd' ml' ret').before a0 Z = true) (hy : y'.cls ≠ "java/lang/invoke/MethodHandle" ∧ y'.cls ≠ "java/lang/invoke/VarHandle") (hsz : ls.size = ml) (hlen : parseMethodDescriptor y'.desc = some ⟨ps, rt⟩) (hl2 : as.length = ps.length) (hst : st = as.reverse ++ rest)
    (hf : rm'.frames + 1 ≤ R.frames) (hlo : (rest.map fun v => v.category).sum + (ml' + 11) + rm'.locals ≤ R.locals) (hc : cells + rm'.cells ≤ R.cells) (hs : slots + rm'.slots ≤ R.slots) (pc' : Nat) (hp : pc + 3 = pc')
    (g : ∀ (vm1 : Vm) (k1 : Nat) (T' : State) (v : Option Value) (L : List Loc), Wk.K p (s0.setVm vm1) m meth c Z y cd ml ret → Stand p l e R (s0.setVm vm1) m args below meth c T' (locs ++ L) (cells + rm'.cells) (slots + rm'.slots) → s0.Since vm1 k1 → k1 ≤ T'.heap.size → Qc v T'.heap L → Ends p e s0 below R Q T' (mkF m pc' ls (v.toList ++ rest))) : Ends p e s0 below R Q T (mkF m pc ls st) := by
  subst hp hst
  obtain ⟨v, vm1, ⟨T', L', c', n'⟩, -, X', hS2, hgr, ⟨Lc, hQ, q1, q2, q3⟩, q⟩ := Jvm.RoadKit.callSS X k.1 (y := y') k.2.2.2.2.1 (mvT k.2.1 w1) (mvT k.2.1 w2) (mvT k.2.1 w3) (mvT k.2.1 w4) hy (Jvm.RoadKit.backOfS (W := (rest.map fun v => v.category).sum) M k.2.1 w4 w3 hf hlo) (g := mkF m pc ls (as.reverse ++ rest)) rfl (hsz.trans k.2.2.2.1.symm) (argsL := as) (rest := rest) (lenOf hlen hl2) rfl (by show 2 * 0 + _ ≤ _; rw [Nat.mul_zero, Nat.zero_add]; exact Nat.le_refl _) (hb k.2.2.1 hd) (fun _ _ => ⟨rfl, e0, hc, hs⟩)
  dsimp only [Pt.U, Pt.locs, Pt.cells, Pt.slots] at X' q1 q2 q3 q hQ hS2 hgr
  subst q1 q2 q3
  have hS3 : s0.Since T'.vm T'.heap.size := hS.trans hS2 (Nat.le_trans hk (by rw [← e0]; exact hgr))
  exact (g T'.vm _ T' v Lc (rek k (State.Warmed39.trans (t := s0.setVm vm0) k.2.1 hS2.1) (by rw [hS2.1.alike.findClass]; exact k.2.2.2.2.1)) X' hS3 (Nat.le_refl _) hQ).map fun _ r => q.trans r
end
end Ww

theorem own_wS {Z : State} {a0 : Array Value} (hw : ∀ d ∈ tables_1, d.before a0 Z = true) : ∀ a ∈ Bundle.stringAtoms, a.before a0 Z = true := fun a ha => by
  simp only [Bundle.stringAtoms, List.mem_cons, List.not_mem_nil, or_false] at ha
  rcases ha with rfl | rfl | rfl | rfl | rfl | rfl | rfl
  · exact (Wk.w hw 1 rfl)
  · exact (Wk.w hw 2 rfl)
  · exact (Wk.w hw 3 rfl)
  · exact (Wk.w hw 4 rfl)
  · exact (Wk.w hw 5 rfl)
  · exact (Wk.w hw 6 rfl)
  · exact (Wk.w hw 7 rfl)
theorem own_ch (x : Int32) : ¬ (255 : Int32) < ((x &&& (255 : Int32)).toUInt32.toUInt16.toUInt32.toInt32).toUInt32.toUInt16.toUInt32.toInt32 ∧ ¬ (255 : Int32) < (x &&& (255 : Int32)).toUInt32.toUInt16.toUInt32.toInt32 := by
  have h := c_mask x 255 8 (by decide) (by decide)
  generalize (x &&& (255 : Int32)) = y at h
  have hy : 0 ≤ y.toInt ∧ y.toInt ≤ 255 := by omega
  have e : y.toBitVec.toNat < 256 := by
    have h1 : y.toInt = y.toBitVec.toInt := rfl
    rw [h1, BitVec.toInt_eq_toNat_cond] at hy
    have := y.toBitVec.isLt
    split at hy <;> omega
  have f : y.toUInt32.toUInt16.toUInt32.toInt32 = y := by
    apply Int32.toBitVec_inj.mp
    apply BitVec.eq_of_toNat_eq
    show ((y.toBitVec.setWidth 16).setWidth 32).toNat = _
    rw [BitVec.toNat_setWidth, BitVec.toNat_setWidth]
    omega
  rw [f, f]
  have z : (255 : Int32).toInt = 255 := by decide
  constructor <;> (rw [Int32.lt_iff_toInt_lt, z]; omega)
theorem own_b8 (y : Int32) : (y.toInt8.toInt32).toInt8.toInt32 = y.toInt8.toInt32 := by rw [Int8.toInt8_toInt32]
namespace Wk
theorem ret_byte {p : Program} {l : Launch} {e : Env} {R : Room} {s : State} {m : MethodId} {args : Array Value} {below : List Frame} {meth : Method} {c : Code} {T : State} {locs : List Loc} {cells slots : Nat} {Z : State} {y : MethodName} {cd : ByteArray} {ml : Nat} {ret : Option FieldType} {Q : Option Value → Heap → List Loc → Prop} {pc : Nat} {ls : Array Slot} {st : List Value} (k : K p s m meth c Z y cd ml ret) (X : Stand p l e R s m args below meth c T locs cells slots) (hret : ret = some .byte) {z : Int32} (hd : decode cd pc = .ok (.ireturn, 1)) (hc : cells ≤ R.cells) (hs : slots ≤ R.slots) (hz : narrow .byte (.int z) = .int z) (h : Q (some (.int z)) T.heap locs) : Ends p e s below R Q T (mkF m pc ls (.int z :: st)) := by
  have hl := k.2.2.2.2.2.2.1
  obtain ⟨fs, hr, hrun, hended, hW, hsame⟩ := X.leave (v := some (.int z)) (fun q => by rw [k.2.2.2.2.2.1, hret] at q; cases q)
  exact ⟨_, _, retOut X k.1 (t := .byte) (k.2.2.2.2.2.1.trans hret) hz (Or.inl ⟨rfl, Or.inr (Or.inr (Or.inl rfl)), _, rfl⟩) (hb k.2.2.1 hd) hr, hrun, hended, _, _, rfl, h, ⟨_, rfl⟩, hW, hsame.mono hc hs⟩
end Wk
theorem d_StringUTF16_coderFromArrayLen_0 : decode jdk_52_method_15_code 0 = .ok (.iload_n 1, 1) := by decide +kernel
theorem d_StringUTF16_coderFromArrayLen_1 : decode jdk_52_method_15_code 1 = .ok (.aload_n 0, 1) := by decide +kernel
theorem d_StringUTF16_coderFromArrayLen_2 : decode jdk_52_method_15_code 2 = .ok (.arraylength, 1) := by decide +kernel
theorem d_StringUTF16_coderFromArrayLen_3 : decode jdk_52_method_15_code 3 = .ok (.isub, 1) := by decide +kernel
theorem d_StringUTF16_coderFromArrayLen_4 : decode jdk_52_method_15_code 4 = .ok (.bipush 31, 2) := by decide +kernel
theorem d_StringUTF16_coderFromArrayLen_6 : decode jdk_52_method_15_code 6 = .ok (.iushr, 1) := by decide +kernel
theorem d_StringUTF16_coderFromArrayLen_7 : decode jdk_52_method_15_code 7 = .ok (.i2b, 1) := by decide +kernel
theorem d_StringUTF16_coderFromArrayLen_8 : decode jdk_52_method_15_code 8 = .ok (.ireturn, 1) := by decide +kernel
theorem pn_StringUTF16_coderFromArrayLen : plainFor (⟨"java/lang/StringUTF16", "coderFromArrayLen", "([BI)B"⟩ : MethodName) = true := plainFor_of_name (by first | (simp [plainName, overriddenIn, x]; done) | decide +kernel)
theorem pd_StringUTF16_coderFromArrayLen : parseMethodDescriptor "([BI)B" = some ⟨[(.array .byte), .int], (some .byte)⟩ := by decide +kernel
theorem ef_cf (m : MethodId) (ba : Addr) : entryFrame m #[(.ref ba), (.int (2 : Int32))] 2 = mkF m 0 #[.val (.ref ba), .val (.int (2 : Int32))] [] := by first | (simp [entryFrame, mkF, argsToLocals, Value.category]; done) | rfl
set_option maxRecDepth 65536 in
set_option maxHeartbeats 40000000 in
theorem rm_cf (l : Launch) (Z : State) (a0 : Array Value) (hw : ∀ d ∈ tables_1, d.before a0 Z = true) (ba : Addr) (ys : List Int32) (h0 : Heap) (hys : ys.length = 2) (A0 : Wk.Arl Z h0 ba .byte (ys.map Value.int)) : Wk.Met l (⟨"java/lang/StringUTF16", "coderFromArrayLen", "([BI)B"⟩ : MethodName) jdk_52_method_15_code 2 (some .byte) ({ frames := 0, cells := 0, slots := 0, locals := 0 } : Room) #[(.ref ba), (.int (2 : Int32))] Z h0 (fun r h L => r = some (.int (0 : Int32)) ∧ h = h0 ∧ L = []) [] := by
  refine Wk.enter pn_StringUTF16_coderFromArrayLen (fun p e s m below meth c T0 k X0 e0 => ?_)
  refine (Wk.Ends.cast (ef_cf m ba) ?_)
  refine Wk.iload_n k X0 d_StringUTF16_coderFromArrayLen_0 rfl 1 rfl ?_
  refine Wk.aload_n k X0 d_StringUTF16_coderFromArrayLen_1 rfl rfl 2 rfl ?_
  refine Wk.arraylength k X0 d_StringUTF16_coderFromArrayLen_2 e0 A0 (2 : Int32) (by rw [List.length_map, hys]; rfl) 3 rfl ?_
  refine Wk.isub k X0 d_StringUTF16_coderFromArrayLen_3 4 rfl ?_
  refine Wk.bipush k X0 d_StringUTF16_coderFromArrayLen_4 (31 : Int32) rfl 6 rfl ?_
  refine Wk.iushr k X0 d_StringUTF16_coderFromArrayLen_6 7 rfl ?_
  refine Wk.i2b k X0 d_StringUTF16_coderFromArrayLen_7 8 rfl ?_
  show Wk.Ends _ _ _ _ _ _ _ (mkF m 8 _ [.int (0 : Int32)])
  exact Wk.ret_byte k X0 rfl d_StringUTF16_coderFromArrayLen_8 (by decide) (by decide) rfl ⟨rfl, e0, rfl⟩
theorem d_StringUTF16_compress5_0 : decode jdk_52_method_21_code 0 = .ok (.iconst 0, 1) := by decide +kernel
theorem d_StringUTF16_compress5_1 : decode jdk_52_method_21_code 1 = .ok (.istore 5, 2) := by decide +kernel
theorem d_StringUTF16_compress5_3 : decode jdk_52_method_21_code 3 = .ok (.iload 5, 2) := by decide +kernel
theorem d_StringUTF16_compress5_5 : decode jdk_52_method_21_code 5 = .ok (.iload 4, 2) := by decide +kernel
theorem d_StringUTF16_compress5_7 : decode jdk_52_method_21_code 7 = .ok (.if_icmp .ge 37, 3) := by decide +kernel
theorem d_StringUTF16_compress5_10 : decode jdk_52_method_21_code 10 = .ok (.aload_n 0, 1) := by decide +kernel
theorem d_StringUTF16_compress5_11 : decode jdk_52_method_21_code 11 = .ok (.iload_n 1, 1) := by decide +kernel
theorem d_StringUTF16_compress5_12 : decode jdk_52_method_21_code 12 = .ok (.caload, 1) := by decide +kernel
theorem d_StringUTF16_compress5_13 : decode jdk_52_method_21_code 13 = .ok (.istore 6, 2) := by decide +kernel
theorem d_StringUTF16_compress5_15 : decode jdk_52_method_21_code 15 = .ok (.iload 6, 2) := by decide +kernel
theorem d_StringUTF16_compress5_17 : decode jdk_52_method_21_code 17 = .ok (.sipush 255, 3) := by decide +kernel
theorem d_StringUTF16_compress5_20 : decode jdk_52_method_21_code 20 = .ok (.if_icmp .le 6, 3) := by decide +kernel
theorem d_StringUTF16_compress5_26 : decode jdk_52_method_21_code 26 = .ok (.aload_n 2, 1) := by decide +kernel
theorem d_StringUTF16_compress5_27 : decode jdk_52_method_21_code 27 = .ok (.iload_n 3, 1) := by decide +kernel
theorem d_StringUTF16_compress5_28 : decode jdk_52_method_21_code 28 = .ok (.iload 6, 2) := by decide +kernel
theorem d_StringUTF16_compress5_30 : decode jdk_52_method_21_code 30 = .ok (.i2b, 1) := by decide +kernel
theorem d_StringUTF16_compress5_31 : decode jdk_52_method_21_code 31 = .ok (.bastore, 1) := by decide +kernel
theorem d_StringUTF16_compress5_32 : decode jdk_52_method_21_code 32 = .ok (.iinc 1 1, 3) := by decide +kernel
theorem d_StringUTF16_compress5_35 : decode jdk_52_method_21_code 35 = .ok (.iinc 3 1, 3) := by decide +kernel
theorem d_StringUTF16_compress5_38 : decode jdk_52_method_21_code 38 = .ok (.iinc 5 1, 3) := by decide +kernel
theorem d_StringUTF16_compress5_41 : decode jdk_52_method_21_code 41 = .ok (.goto (-38), 3) := by decide +kernel
theorem d_StringUTF16_compress5_44 : decode jdk_52_method_21_code 44 = .ok (.iload 4, 2) := by decide +kernel
theorem d_StringUTF16_compress5_46 : decode jdk_52_method_21_code 46 = .ok (.ireturn, 1) := by decide +kernel
theorem pn_StringUTF16_compress5 : plainFor (⟨"java/lang/StringUTF16", "compress", "([CI[BII)I"⟩ : MethodName) = true := plainFor_of_name (by first | (simp [plainName, overriddenIn, x]; done) | decide +kernel)
theorem pd_StringUTF16_compress5 : parseMethodDescriptor "([CI[BII)I" = some ⟨[(.array .char), .int, (.array .byte), .int, .int], (some .int)⟩ := by decide +kernel
theorem ef_c5 (m : MethodId) (ca ba : Addr) : entryFrame m #[(.ref ca), (.int (0 : Int32)), (.ref ba), (.int (0 : Int32)), (.int (2 : Int32))] 7 = mkF m 0 #[.val (.ref ca), .val (.int (0 : Int32)), .val (.ref ba), .val (.int (0 : Int32)), .val (.int (2 : Int32)), .unset, .unset] [] := by first | (simp [entryFrame, mkF, argsToLocals, Value.category]; done) | rfl
set_option maxRecDepth 65536 in
set_option maxHeartbeats 40000000 in
theorem rm_c5 (l : Launch) (Z : State) (a0 : Array Value) (hw : ∀ d ∈ tables_1, d.before a0 Z = true) (ca ba : Addr) (x0 x1 : Int32) (h0 : Heap) (n0 : Nat) (hx0 : ¬ (255 : Int32) < x0) (hx1 : ¬ (255 : Int32) < x1) (hne : ca ≠ ba) (g1 : n0 ≤ ba) (A0 : Wk.Arl Z h0 ca .char (([x0, x1] : List Int32).map Value.int)) (A1 : Wk.Arl Z h0 ba .byte (([0, 0] : List Int32).map Value.int)) : Wk.Met l (⟨"java/lang/StringUTF16", "compress", "([CI[BII)I"⟩ : MethodName) jdk_52_method_21_code 7 (some .int) ({ frames := 0, cells := 0, slots := 0, locals := 0 } : Room) #[(.ref ca), (.int (0 : Int32)), (.ref ba), (.int (0 : Int32)), (.int (2 : Int32))] Z h0 (fun r h L => r = some (.int (2 : Int32)) ∧ Fr n0 L ∧ Keep h0 h [ba] ∧ ∃ ys : List Int32, ys.length = 2 ∧ Wk.Arl Z h ba .byte (ys.map Value.int)) [] := by
  refine Wk.enter pn_StringUTF16_compress5 (fun p e s m below meth c T0 k X0 e0 => ?_)
  refine (Wk.Ends.cast (ef_c5 m ca ba) ?_)
  refine Wk.iconst k X0 d_StringUTF16_compress5_0 (0 : Int32) rfl 1 rfl ?_
  refine Wk.istore k X0 d_StringUTF16_compress5_1 #[.val (.ref ca), .val (.int (0 : Int32)), .val (.ref ba), .val (.int (0 : Int32)), .val (.int (2 : Int32)), .val (.int (0 : Int32)), .unset] rfl 3 rfl ?_
  refine Wk.iload k X0 d_StringUTF16_compress5_3 rfl 5 rfl ?_
  refine Wk.iload k X0 d_StringUTF16_compress5_5 rfl 7 rfl ?_
  refine Wk.icmp_ge k X0 d_StringUTF16_compress5_7 (by decide) 44 10 (by decide) rfl (fun hz => by first | exact absurd hz (by decide) | exact absurd (by decide) hz) (fun _ => ?_)
  refine Wk.aload_n k X0 d_StringUTF16_compress5_10 rfl rfl 11 rfl ?_
  refine Wk.iload_n k X0 d_StringUTF16_compress5_11 rfl 12 rfl ?_
  refine Wk.caload k X0 d_StringUTF16_compress5_12 e0 A0 0 rfl x0 rfl 13 rfl ?_
  refine Wk.istore k X0 d_StringUTF16_compress5_13 #[.val (.ref ca), .val (.int (0 : Int32)), .val (.ref ba), .val (.int (0 : Int32)), .val (.int (2 : Int32)), .val (.int (0 : Int32)), .val (.int x0)] rfl 15 rfl ?_
  refine Wk.iload k X0 d_StringUTF16_compress5_15 rfl 17 rfl ?_
  refine Wk.sipush k X0 d_StringUTF16_compress5_17 (255 : Int32) rfl 20 rfl ?_
  refine Wk.icmp_le k X0 d_StringUTF16_compress5_20 (by decide) 26 23 (by decide) rfl (fun _ => ?_) (fun hz => absurd hz hx0)
  refine Wk.aload_n k X0 d_StringUTF16_compress5_26 rfl rfl 27 rfl ?_
  refine Wk.iload_n k X0 d_StringUTF16_compress5_27 rfl 28 rfl ?_
  refine Wk.iload k X0 d_StringUTF16_compress5_28 rfl 30 rfl ?_
  refine Wk.i2b k X0 d_StringUTF16_compress5_30 31 rfl ?_
  refine Wk.bastore k X0 (x := ((x0).toInt8.toInt32)) d_StringUTF16_compress5_31 e0 A1 0 rfl (show 0 < 2 from by decide) ((x0).toInt8.toInt32) (own_b8 _) 32 rfl fun T1 h1 X1 e1 W1 A1 => ?_
  have N2 := Fr.snoc X1 (Fr.nil n0) g1
  have K3 := (Keep.refl h0 [ba]).wr W1 (Or.inl (List.mem_of_getElem? (i := 0) rfl))
  have f4 := A0.other W1 hne
  have A1' : Wk.Arl Z h1 ba .byte (([((x0).toInt8.toInt32), (0 : Int32)] : List Int32).map Value.int) := A1
  refine Wk.iinc k X1 d_StringUTF16_compress5_32 rfl #[.val (.ref ca), .val (.int (1 : Int32)), .val (.ref ba), .val (.int (0 : Int32)), .val (.int (2 : Int32)), .val (.int (0 : Int32)), .val (.int x0)] rfl 35 rfl ?_
  refine Wk.iinc k X1 d_StringUTF16_compress5_35 rfl #[.val (.ref ca), .val (.int (1 : Int32)), .val (.ref ba), .val (.int (1 : Int32)), .val (.int (2 : Int32)), .val (.int (0 : Int32)), .val (.int x0)] rfl 38 rfl ?_
  refine Wk.iinc k X1 d_StringUTF16_compress5_38 rfl #[.val (.ref ca), .val (.int (1 : Int32)), .val (.ref ba), .val (.int (1 : Int32)), .val (.int (2 : Int32)), .val (.int (1 : Int32)), .val (.int x0)] rfl 41 rfl ?_
  refine Wk.goto k X1 d_StringUTF16_compress5_41 (by decide) 3 (by decide) ?_
  refine Wk.iload k X1 d_StringUTF16_compress5_3 rfl 5 rfl ?_
  refine Wk.iload k X1 d_StringUTF16_compress5_5 rfl 7 rfl ?_
  refine Wk.icmp_ge k X1 d_StringUTF16_compress5_7 (by decide) 44 10 (by decide) rfl (fun hz => by first | exact absurd hz (by decide) | exact absurd (by decide) hz) (fun _ => ?_)
  refine Wk.aload_n k X1 d_StringUTF16_compress5_10 rfl rfl 11 rfl ?_
  refine Wk.iload_n k X1 d_StringUTF16_compress5_11 rfl 12 rfl ?_
  refine Wk.caload k X1 d_StringUTF16_compress5_12 e1 f4 1 rfl x1 rfl 13 rfl ?_
  refine Wk.istore k X1 d_StringUTF16_compress5_13 #[.val (.ref ca), .val (.int (1 : Int32)), .val (.ref ba), .val (.int (1 : Int32)), .val (.int (2 : Int32)), .val (.int (1 : Int32)), .val (.int x1)] rfl 15 rfl ?_
  refine Wk.iload k X1 d_StringUTF16_compress5_15 rfl 17 rfl ?_
  refine Wk.sipush k X1 d_StringUTF16_compress5_17 (255 : Int32) rfl 20 rfl ?_
  refine Wk.icmp_le k X1 d_StringUTF16_compress5_20 (by decide) 26 23 (by decide) rfl (fun _ => ?_) (fun hz => absurd hz hx1)
  refine Wk.aload_n k X1 d_StringUTF16_compress5_26 rfl rfl 27 rfl ?_
  refine Wk.iload_n k X1 d_StringUTF16_compress5_27 rfl 28 rfl ?_
  refine Wk.iload k X1 d_StringUTF16_compress5_28 rfl 30 rfl ?_
  refine Wk.i2b k X1 d_StringUTF16_compress5_30 31 rfl ?_
  refine Wk.bastore k X1 (x := ((x1).toInt8.toInt32)) d_StringUTF16_compress5_31 e1 A1' 1 rfl (show 1 < 2 from by decide) ((x1).toInt8.toInt32) (own_b8 _) 32 rfl fun T5 h5 X5 e5 W5 A5 => ?_
  have N6 := Fr.snoc X5 N2 g1
  have K7 := K3.wr W5 (Or.inl (List.mem_of_getElem? (i := 0) rfl))
  have f8 := f4.other W5 hne
  have A5' : Wk.Arl Z h5 ba .byte (([((x0).toInt8.toInt32), ((x1).toInt8.toInt32)] : List Int32).map Value.int) := A5
  refine Wk.iinc k X5 d_StringUTF16_compress5_32 rfl #[.val (.ref ca), .val (.int (2 : Int32)), .val (.ref ba), .val (.int (1 : Int32)), .val (.int (2 : Int32)), .val (.int (1 : Int32)), .val (.int x1)] rfl 35 rfl ?_
  refine Wk.iinc k X5 d_StringUTF16_compress5_35 rfl #[.val (.ref ca), .val (.int (2 : Int32)), .val (.ref ba), .val (.int (2 : Int32)), .val (.int (2 : Int32)), .val (.int (1 : Int32)), .val (.int x1)] rfl 38 rfl ?_
  refine Wk.iinc k X5 d_StringUTF16_compress5_38 rfl #[.val (.ref ca), .val (.int (2 : Int32)), .val (.ref ba), .val (.int (2 : Int32)), .val (.int (2 : Int32)), .val (.int (2 : Int32)), .val (.int x1)] rfl 41 rfl ?_
  refine Wk.goto k X5 d_StringUTF16_compress5_41 (by decide) 3 (by decide) ?_
  refine Wk.iload k X5 d_StringUTF16_compress5_3 rfl 5 rfl ?_
  refine Wk.iload k X5 d_StringUTF16_compress5_5 rfl 7 rfl ?_
  refine Wk.icmp_ge k X5 d_StringUTF16_compress5_7 (by decide) 44 10 (by decide) rfl (fun _ => ?_) (fun hz => by first | exact absurd hz (by decide) | exact absurd (by decide) hz)
  refine Wk.iload k X5 d_StringUTF16_compress5_44 rfl 46 rfl ?_
  refine Wk.ret_int k X5 rfl d_StringUTF16_compress5_46 (by decide) (by decide) ?_
  rw [e5]
  exact ⟨rfl, N6, K7, _, rfl, A5'⟩
theorem d_StringUTF16_compress3_0 : decode jdk_52_method_16_code 0 = .ok (.iload_n 2, 1) := by decide +kernel
theorem d_StringUTF16_compress3_1 : decode jdk_52_method_16_code 1 = .ok (.newarray .byte, 2) := by decide +kernel
theorem d_StringUTF16_compress3_3 : decode jdk_52_method_16_code 3 = .ok (.astore_n 3, 1) := by decide +kernel
theorem d_StringUTF16_compress3_4 : decode jdk_52_method_16_code 4 = .ok (.aload_n 0, 1) := by decide +kernel
theorem d_StringUTF16_compress3_5 : decode jdk_52_method_16_code 5 = .ok (.iload_n 1, 1) := by decide +kernel
theorem d_StringUTF16_compress3_6 : decode jdk_52_method_16_code 6 = .ok (.aload_n 3, 1) := by decide +kernel
theorem d_StringUTF16_compress3_7 : decode jdk_52_method_16_code 7 = .ok (.iconst 0, 1) := by decide +kernel
theorem d_StringUTF16_compress3_8 : decode jdk_52_method_16_code 8 = .ok (.iload_n 2, 1) := by decide +kernel
theorem d_StringUTF16_compress3_9 : decode jdk_52_method_16_code 9 = .ok (.invokestatic 115, 3) := by decide +kernel
theorem d_StringUTF16_compress3_12 : decode jdk_52_method_16_code 12 = .ok (.istore 4, 2) := by decide +kernel
theorem d_StringUTF16_compress3_14 : decode jdk_52_method_16_code 14 = .ok (.iload 4, 2) := by decide +kernel
theorem d_StringUTF16_compress3_16 : decode jdk_52_method_16_code 16 = .ok (.iload_n 2, 1) := by decide +kernel
theorem d_StringUTF16_compress3_17 : decode jdk_52_method_16_code 17 = .ok (.if_icmp .eq 40, 3) := by decide +kernel
theorem d_StringUTF16_compress3_57 : decode jdk_52_method_16_code 57 = .ok (.aload_n 3, 1) := by decide +kernel
theorem d_StringUTF16_compress3_58 : decode jdk_52_method_16_code 58 = .ok (.areturn, 1) := by decide +kernel
theorem pn_StringUTF16_compress3 : plainFor (⟨"java/lang/StringUTF16", "compress", "([CII)[B"⟩ : MethodName) = true := plainFor_of_name (by first | (simp [plainName, overriddenIn, x]; done) | decide +kernel)
theorem pd_StringUTF16_compress3 : parseMethodDescriptor "([CII)[B" = some ⟨[(.array .char), .int, .int], (some (.array .byte))⟩ := by decide +kernel
theorem ef_c3 (m : MethodId) (ca : Addr) : entryFrame m #[(.ref ca), (.int (0 : Int32)), (.int (2 : Int32))] 6 = mkF m 0 #[.val (.ref ca), .val (.int (0 : Int32)), .val (.int (2 : Int32)), .unset, .unset, .unset] [] := by first | (simp [entryFrame, mkF, argsToLocals, Value.category]; done) | rfl
set_option maxRecDepth 65536 in
set_option maxHeartbeats 40000000 in
theorem rm_c3 (l : Launch) (Z : State) (a0 : Array Value) (hw : ∀ d ∈ tables_1, d.before a0 Z = true) (ca : Addr) (x0 x1 : Int32) (h0 : Heap) (n0 : Nat) (Z0 : n0 ≤ h0.size) (hx0 : ¬ (255 : Int32) < x0) (hx1 : ¬ (255 : Int32) < x1) (A0 : Wk.Arl Z h0 ca .char (([x0, x1] : List Int32).map Value.int)) : Wk.Met l (⟨"java/lang/StringUTF16", "compress", "([CII)[B"⟩ : MethodName) jdk_52_method_16_code 6 (some (.array .byte)) ({ frames := 1, cells := 1, slots := 2, locals := 18 } : Room) #[(.ref ca), (.int (0 : Int32)), (.int (2 : Int32))] Z h0 (fun r h L => ∃ ba : Addr, r = some (.ref ba) ∧ Fr n0 L ∧ Keep h0 h [] ∧ h0.size ≤ ba ∧ n0 ≤ ba ∧ ∃ ys : List Int32, ys.length = 2 ∧ Wk.Arl Z h ba .byte (ys.map Value.int)) [] := by
  refine Wk.enter pn_StringUTF16_compress3 (fun p e s m below meth c T0 k X0 e0 => ?_)
  refine (Wk.Ends.cast (ef_c3 m ca) ?_)
  refine Wk.iload_n k X0 d_StringUTF16_compress3_0 rfl 1 rfl ?_
  refine Wk.newarray k X0 d_StringUTF16_compress3_1 (Wk.w hw 3 rfl) e0 2 rfl 2 (by decide) (by decide) (by decide) (by decide) 3 rfl fun T1 h1 ba q1 X1 e1 E1 A1 => ?_
  have g1 : n0 ≤ ba := by rw [q1]; exact Z0
  have hs2 : h0.size ≤ ba := by rw [q1]; exact (Keep.refl h0 []).1
  have ne3 : ca ≠ ba := by rw [q1]; exact Nat.ne_of_lt A0.lt
  have sz1 := Nat.le_trans Z0 E1.1
  have K4 := (Keep.refl h0 []).ext E1
  have f5 := A0.ext E1
  have A1' : Wk.Arl Z h1 ba .byte (([(0 : Int32), (0 : Int32)] : List Int32).map Value.int) := A1
  refine Wk.astore_n k X1 d_StringUTF16_compress3_3 rfl #[.val (.ref ca), .val (.int (0 : Int32)), .val (.int (2 : Int32)), .val (.ref ba), .unset, .unset] rfl 4 rfl ?_
  refine Wk.aload_n k X1 d_StringUTF16_compress3_4 rfl rfl 5 rfl ?_
  refine Wk.iload_n k X1 d_StringUTF16_compress3_5 rfl 6 rfl ?_
  refine Wk.aload_n k X1 d_StringUTF16_compress3_6 rfl rfl 7 rfl ?_
  refine Wk.iconst k X1 d_StringUTF16_compress3_7 (0 : Int32) rfl 8 rfl ?_
  refine Wk.iload_n k X1 d_StringUTF16_compress3_8 rfl 9 rfl ?_
  refine Wk.callS k X1 [(.ref ca), (.int (0 : Int32)), (.ref ba), (.int (0 : Int32)), (.int (2 : Int32))] [] d_StringUTF16_compress3_9 (rm_c5 l Z a0 hw ca ba x0 x1 h1 n0 hx0 hx1 ne3 g1 f5 A1') e1 (Wk.w hw 52 rfl) (Wk.w hw 53 rfl) (Wk.w hw 50 rfl) (Wk.w hw 54 rfl) (by decide) rfl pd_StringUTF16_compress5 rfl rfl (Nat.le_of_ble_eq_true rfl) (Nat.le_of_ble_eq_true rfl) (Nat.le_of_ble_eq_true rfl) (Nat.le_of_ble_eq_true rfl) 12 rfl fun T6 v6 L6 X6 hQ6 => ?_
  obtain ⟨rfl, N6q, K6q, ys, hys, A6⟩ := hQ6
  show Wk.Ends _ _ _ _ _ _ _ (mkF m 12 _ [(.int (2 : Int32))])
  have N6 := Fr.app (Fr.nil n0) N6q
  have K6 := K4.trans K6q (allS (Or.inr hs2) all0)
  refine Wk.istore k X6 d_StringUTF16_compress3_12 #[.val (.ref ca), .val (.int (0 : Int32)), .val (.int (2 : Int32)), .val (.ref ba), .val (.int (2 : Int32)), .unset] rfl 14 rfl ?_
  refine Wk.iload k X6 d_StringUTF16_compress3_14 rfl 16 rfl ?_
  refine Wk.iload_n k X6 d_StringUTF16_compress3_16 rfl 17 rfl ?_
  refine Wk.icmp_eq k X6 d_StringUTF16_compress3_17 (by decide) 57 20 (by decide) rfl (fun _ => ?_) (fun hz => by first | exact absurd hz (by decide) | exact absurd (by decide) hz)
  refine Wk.aload_n k X6 d_StringUTF16_compress3_57 rfl rfl 58 rfl ?_
  refine Wk.ret_ref (t := (.array .byte)) k X6 rfl rfl rfl rfl d_StringUTF16_compress3_58 (by decide) (by decide) ?_
  exact ⟨ba, rfl, N6, K6, hs2, g1, ys, hys, A6⟩
theorem d_String_init4_0 : decode jdk_42_method_149_code 0 = .ok (.aload_n 0, 1) := by decide +kernel
theorem d_String_init4_1 : decode jdk_42_method_149_code 1 = .ok (.invokespecial 1, 3) := by decide +kernel
theorem d_String_init4_4 : decode jdk_42_method_149_code 4 = .ok (.iload_n 3, 1) := by decide +kernel
theorem d_String_init4_5 : decode jdk_42_method_149_code 5 = .ok (.ifCond .ne 22, 3) := by decide +kernel
theorem d_String_init4_27 : decode jdk_42_method_149_code 27 = .ok (.getstatic 38, 3) := by decide +kernel
theorem d_String_init4_30 : decode jdk_42_method_149_code 30 = .ok (.ifCond .eq 28, 3) := by decide +kernel
theorem d_String_init4_33 : decode jdk_42_method_149_code 33 = .ok (.aload_n 1, 1) := by decide +kernel
theorem d_String_init4_34 : decode jdk_42_method_149_code 34 = .ok (.iload_n 2, 1) := by decide +kernel
theorem d_String_init4_35 : decode jdk_42_method_149_code 35 = .ok (.iload_n 3, 1) := by decide +kernel
theorem d_String_init4_36 : decode jdk_42_method_149_code 36 = .ok (.invokestatic 177, 3) := by decide +kernel
theorem d_String_init4_39 : decode jdk_42_method_149_code 39 = .ok (.astore 5, 2) := by decide +kernel
theorem d_String_init4_41 : decode jdk_42_method_149_code 41 = .ok (.aload_n 0, 1) := by decide +kernel
theorem d_String_init4_42 : decode jdk_42_method_149_code 42 = .ok (.aload 5, 2) := by decide +kernel
theorem d_String_init4_44 : decode jdk_42_method_149_code 44 = .ok (.iload_n 3, 1) := by decide +kernel
theorem d_String_init4_45 : decode jdk_42_method_149_code 45 = .ok (.invokestatic 47, 3) := by decide +kernel
theorem d_String_init4_48 : decode jdk_42_method_149_code 48 = .ok (.putfield 15, 3) := by decide +kernel
theorem d_String_init4_51 : decode jdk_42_method_149_code 51 = .ok (.aload_n 0, 1) := by decide +kernel
theorem d_String_init4_52 : decode jdk_42_method_149_code 52 = .ok (.aload 5, 2) := by decide +kernel
theorem d_String_init4_54 : decode jdk_42_method_149_code 54 = .ok (.putfield 9, 3) := by decide +kernel
theorem d_String_init4_57 : decode jdk_42_method_149_code 57 = .ok (.return_, 1) := by decide +kernel
theorem pn_String_init4 : plainFor (⟨"java/lang/String", "<init>", "([CIILjava/lang/Void;)V"⟩ : MethodName) = true := plainFor_of_name (by first | (simp [plainName, overriddenIn, x]; done) | decide +kernel)
theorem pd_String_init4 : parseMethodDescriptor "([CIILjava/lang/Void;)V" = some ⟨[(.array .char), .int, .int, (.object "java/lang/Void")], none⟩ := by decide +kernel
theorem ef_i4 (m : MethodId) (o ca : Addr) : entryFrame m #[(.ref o), (.ref ca), (.int (0 : Int32)), (.int (2 : Int32)), .null] 6 = mkF m 0 #[.val (.ref o), .val (.ref ca), .val (.int (0 : Int32)), .val (.int (2 : Int32)), .val .null, .unset] [] := by first | (simp [entryFrame, mkF, argsToLocals, Value.category]; done) | rfl
set_option maxRecDepth 65536 in
set_option maxHeartbeats 40000000 in
theorem rm_i4 (l : Launch) (Z : State) (a0 : Array Value) (hw : ∀ d ∈ tables_1, d.before a0 Z = true) (o ca : Addr) (x0 x1 : Int32) (u1 u2 : Value) (h0 : Heap) (n0 : Nat) (Z0 : n0 ≤ h0.size) (hx0 : ¬ (255 : Int32) < x0) (hx1 : ¬ (255 : Int32) < x1) (cz : Int32) (hcz : ¬ cz = 0) (S0 : Sta Z h0 "java/lang/String" "COMPACT_STRINGS" "Z" (.int cz)) (hoc : o ≠ ca) (g0 : n0 ≤ o) (E0 : Exa Z h0 o "java/lang/String") (F0 : Fld Z h0 o "java/lang/String" "value" "[B" u1) (F1 : Fld Z h0 o "java/lang/String" "coder" "B" u2) (A0 : Wk.Arl Z h0 ca .char (([x0, x1] : List Int32).map Value.int)) : Wk.Met l (⟨"java/lang/String", "<init>", "([CIILjava/lang/Void;)V"⟩ : MethodName) jdk_42_method_149_code 6 none ({ frames := 2, cells := 1, slots := 2, locals := 35 } : Room) #[(.ref o), (.ref ca), (.int (0 : Int32)), (.int (2 : Int32)), .null] Z h0 (fun r h L => r = none ∧ Fr n0 L ∧ Keep h0 h [o]) [] := by
  refine Wk.enter pn_String_init4 (fun p e s m below meth c T0 k X0 e0 => ?_)
  refine (Wk.Ends.cast (ef_i4 m o ca) ?_)
  refine Wk.aload_n k X0 d_String_init4_0 rfl rfl 1 rfl ?_
  refine Wk.initObj (W := 0) k X0 d_String_init4_1 (Wk.w hw 46 rfl) (Wk.w hw 20 rfl) (Wk.w hw 21 rfl) e0 rfl (Nat.le_of_ble_eq_true rfl) (Nat.le_of_ble_eq_true rfl) 4 rfl fun T1 X1 e1 => ?_
  refine Wk.iload_n k X1 d_String_init4_4 rfl 5 rfl ?_
  refine Wk.if_ne k X1 d_String_init4_5 (by decide) 27 8 (by decide) rfl (fun _ => ?_) (fun hz => by first | exact absurd hz (by decide) | exact absurd (by decide) hz)
  refine Wk.getstatic k X1 d_String_init4_27 (host := "") (Or.inl (Wk.w hw 47 rfl)) e1 S0 30 rfl fun T2 X2 e2 => ?_
  refine Wk.if_eq k X2 d_String_init4_30 (by decide) 58 33 (by decide) rfl (fun hc30 => ?_) (fun hc30 => ?_)
  · exact absurd hc30 hcz
  · refine Wk.aload_n k X2 d_String_init4_33 rfl rfl 34 rfl ?_
    refine Wk.iload_n k X2 d_String_init4_34 rfl 35 rfl ?_
    refine Wk.iload_n k X2 d_String_init4_35 rfl 36 rfl ?_
    refine Wk.callS k X2 [(.ref ca), (.int (0 : Int32)), (.int (2 : Int32))] [] d_String_init4_36 (rm_c3 l Z a0 hw ca x0 x1 h0 n0 Z0 hx0 hx1 A0) e2 (Wk.w hw 48 rfl) (Wk.w hw 49 rfl) (Wk.w hw 50 rfl) (Wk.w hw 51 rfl) (by decide) rfl pd_StringUTF16_compress3 rfl rfl (Nat.le_of_ble_eq_true rfl) (Nat.le_of_ble_eq_true rfl) (Nat.le_of_ble_eq_true rfl) (Nat.le_of_ble_eq_true rfl) 39 rfl fun T3 v3 L3 X3 hQ3 => ?_
    obtain ⟨ba, rfl, N3q, K3q, hba, gba, ys, hys, A3⟩ := hQ3
    show Wk.Ends _ _ _ _ _ _ _ (mkF m 39 _ [(.ref ba)])
    have N3 := Fr.app (Fr.nil n0) N3q
    have nob : o ≠ ba := Nat.ne_of_lt (Nat.lt_of_lt_of_le E0.lt hba)
    have K4 := (Keep.refl h0 [o]).trans K3q all0
    have f5 := E0.keep K3q
    have f6 := F0.keep K3q nin0
    have f7 := F1.keep K3q nin0
    have f8 := A0.keep K3q nin0
    have sz3 := Nat.le_trans Z0 K3q.1
    refine Wk.astore k X3 d_String_init4_39 rfl #[.val (.ref o), .val (.ref ca), .val (.int (0 : Int32)), .val (.int (2 : Int32)), .val .null, .val (.ref ba)] rfl 41 rfl ?_
    refine Wk.aload_n k X3 d_String_init4_41 rfl rfl 42 rfl ?_
    refine Wk.aload k X3 d_String_init4_42 rfl rfl 44 rfl ?_
    refine Wk.iload_n k X3 d_String_init4_44 rfl 45 rfl ?_
    refine Wk.callS k X3 [(.ref ba), (.int (2 : Int32))] [(.ref o)] d_String_init4_45 (rm_cf l Z a0 hw ba ys T3.heap hys A3) (rfl : T3.heap = T3.heap) (Wk.w hw 55 rfl) (Wk.w hw 56 rfl) (Wk.w hw 50 rfl) (Wk.w hw 57 rfl) (by decide) rfl pd_StringUTF16_coderFromArrayLen rfl rfl (Nat.le_of_ble_eq_true rfl) (Nat.le_of_ble_eq_true rfl) (Nat.le_of_ble_eq_true rfl) (Nat.le_of_ble_eq_true rfl) 48 rfl fun T9 v9 L9 X9 hQ9 => ?_
    obtain ⟨rfl, e9, rfl⟩ := hQ9
    rw [List.append_nil] at X9
    show Wk.Ends _ _ _ _ _ _ _ (mkF m 48 _ [(.int (0 : Int32)), (.ref o)])
    refine Wk.putfield k X9 d_String_init4_48 (host := "") (Or.inl (Wk.w hw 58 rfl)) Via.refl e9 f7 f5 (Or.inr ⟨(Wk.w hw 5 rfl), rfl, rfl⟩) (Wk.w hw 2 rfl) (ty := .byte) (by decide) rfl rfl 51 rfl fun T10 h10 X10 e10 W10 => ?_
    have sz10 : n0 ≤ h10.size := by rw [W10.size]; exact sz3
    have N11 := Fr.snoc X10 N3 g0
    have K12 := K4.wr W10 (Or.inl (List.mem_of_getElem? (i := 0) rfl))
    have f13 := Exa.wr W10 f5
    have f14 := Fld.other W10 f6 (Or.inr (slot_ne (Or.inr (Wk.w hw 4 rfl)) (Or.inr (Wk.w hw 5 rfl)) (by decide) (t := (.array .byte)) (t' := .byte) (by decide) (by decide)))
    have f15 := f8.other W10 (Ne.symm hoc)
    have f16 := A3.other W10 (Ne.symm nob)
    have f17 := Fld.same W10 f7
    refine Wk.aload_n k X10 d_String_init4_51 rfl rfl 52 rfl ?_
    refine Wk.aload k X10 d_String_init4_52 rfl rfl 54 rfl ?_
    refine Wk.putfield k X10 d_String_init4_54 (host := "") (Or.inl (Wk.w hw 59 rfl)) Via.refl e10 f14 f13 (Or.inr ⟨(Wk.w hw 4 rfl), rfl, rfl⟩) (Wk.w hw 2 rfl) (ty := (.array .byte)) (by decide) rfl rfl 57 rfl fun T18 h18 X18 e18 W18 => ?_
    have sz18 : n0 ≤ h18.size := by rw [W18.size]; exact sz10
    have N19 := Fr.snoc X18 N11 g0
    have K20 := K12.wr W18 (Or.inl (List.mem_of_getElem? (i := 0) rfl))
    have f21 := Exa.wr W18 f13
    have f22 := Fld.other W18 f17 (Or.inr (slot_ne (Or.inr (Wk.w hw 5 rfl)) (Or.inr (Wk.w hw 4 rfl)) (by decide) (t := .byte) (t' := (.array .byte)) (by decide) (by decide)))
    have f23 := f15.other W18 (Ne.symm hoc)
    have f24 := f16.other W18 (Ne.symm nob)
    have f25 := Fld.same W18 f14
    refine Wk.ret_void k X18 rfl d_String_init4_57 (by decide) (by decide) ?_
    rw [e18]
    exact ⟨rfl, N19, K20⟩
theorem d_String_init1_0 : decode jdk_42_method_3_code 0 = .ok (.aload_n 0, 1) := by decide +kernel
theorem d_String_init1_1 : decode jdk_42_method_3_code 1 = .ok (.aload_n 1, 1) := by decide +kernel
theorem d_String_init1_2 : decode jdk_42_method_3_code 2 = .ok (.iconst 0, 1) := by decide +kernel
theorem d_String_init1_3 : decode jdk_42_method_3_code 3 = .ok (.aload_n 1, 1) := by decide +kernel
theorem d_String_init1_4 : decode jdk_42_method_3_code 4 = .ok (.arraylength, 1) := by decide +kernel
theorem d_String_init1_5 : decode jdk_42_method_3_code 5 = .ok (.aconst_null, 1) := by decide +kernel
theorem d_String_init1_6 : decode jdk_42_method_3_code 6 = .ok (.invokespecial 27, 3) := by decide +kernel
theorem d_String_init1_9 : decode jdk_42_method_3_code 9 = .ok (.return_, 1) := by decide +kernel
theorem pn_String_init1 : plainFor (⟨"java/lang/String", "<init>", "([C)V"⟩ : MethodName) = true := plainFor_of_name (by first | (simp [plainName, overriddenIn, x]; done) | decide +kernel)
theorem pd_String_init1 : parseMethodDescriptor "([C)V" = some ⟨[(.array .char)], none⟩ := by decide +kernel
theorem ef_i1 (m : MethodId) (o ca : Addr) : entryFrame m #[(.ref o), (.ref ca)] 2 = mkF m 0 #[.val (.ref o), .val (.ref ca)] [] := by first | (simp [entryFrame, mkF, argsToLocals, Value.category]; done) | rfl
set_option maxRecDepth 65536 in
set_option maxHeartbeats 40000000 in
theorem rm_i1 (l : Launch) (Z : State) (a0 : Array Value) (hw : ∀ d ∈ tables_1, d.before a0 Z = true) (o ca : Addr) (x0 x1 : Int32) (u1 u2 : Value) (h0 : Heap) (n0 : Nat) (Z0 : n0 ≤ h0.size) (hx0 : ¬ (255 : Int32) < x0) (hx1 : ¬ (255 : Int32) < x1) (cz : Int32) (hcz : ¬ cz = 0) (S0 : Sta Z h0 "java/lang/String" "COMPACT_STRINGS" "Z" (.int cz)) (hoc : o ≠ ca) (g0 : n0 ≤ o) (E0 : Exa Z h0 o "java/lang/String") (F0 : Fld Z h0 o "java/lang/String" "value" "[B" u1) (F1 : Fld Z h0 o "java/lang/String" "coder" "B" u2) (A0 : Wk.Arl Z h0 ca .char (([x0, x1] : List Int32).map Value.int)) : Wk.Met l (⟨"java/lang/String", "<init>", "([C)V"⟩ : MethodName) jdk_42_method_3_code 2 none ({ frames := 3, cells := 1, slots := 2, locals := 52 } : Room) #[(.ref o), (.ref ca)] Z h0 (fun r h L => r = none ∧ Fr n0 L ∧ Keep h0 h [o]) [] := by
  refine Wk.enter pn_String_init1 (fun p e s m below meth c T0 k X0 e0 => ?_)
  refine (Wk.Ends.cast (ef_i1 m o ca) ?_)
  refine Wk.aload_n k X0 d_String_init1_0 rfl rfl 1 rfl ?_
  refine Wk.aload_n k X0 d_String_init1_1 rfl rfl 2 rfl ?_
  refine Wk.iconst k X0 d_String_init1_2 (0 : Int32) rfl 3 rfl ?_
  refine Wk.aload_n k X0 d_String_init1_3 rfl rfl 4 rfl ?_
  refine Wk.arraylength k X0 d_String_init1_4 e0 A0 (2 : Int32) rfl 5 rfl ?_
  refine Wk.aconst_null k X0 d_String_init1_5 6 rfl ?_
  refine Wk.callI k X0 [(.ref ca), (.int (0 : Int32)), (.int (2 : Int32)), .null] [] d_String_init1_6 (rm_i4 l Z a0 hw o ca x0 x1 _ _ h0 n0 Z0 hx0 hx1 cz hcz S0 hoc g0 E0 F0 F1 A0) e0 rfl (Wk.w hw 42 rfl) (Wk.w hw 43 rfl) (Wk.w hw 1 rfl) (Wk.w hw 45 rfl) (by decide) rfl pd_String_init4 rfl rfl (Nat.le_of_ble_eq_true rfl) (Nat.le_of_ble_eq_true rfl) (Nat.le_of_ble_eq_true rfl) (Nat.le_of_ble_eq_true rfl) 9 rfl fun T1 v1 L1 X1 hQ1 => ?_
  obtain ⟨rfl, N1, K1⟩ := hQ1
  show Wk.Ends _ _ _ _ _ _ _ (mkF m 9 _ [])
  refine Wk.ret_void k X1 rfl d_String_init1_9 (by decide) (by decide) ?_
  exact ⟨rfl, N1, K1⟩
theorem d_String_initb_0 : decode jdk_42_method_151_code 0 = .ok (.aload_n 0, 1) := by decide +kernel
theorem d_String_initb_1 : decode jdk_42_method_151_code 1 = .ok (.invokespecial 1, 3) := by decide +kernel
theorem d_String_initb_4 : decode jdk_42_method_151_code 4 = .ok (.aload_n 0, 1) := by decide +kernel
theorem d_String_initb_5 : decode jdk_42_method_151_code 5 = .ok (.aload_n 1, 1) := by decide +kernel
theorem d_String_initb_6 : decode jdk_42_method_151_code 6 = .ok (.putfield 9, 3) := by decide +kernel
theorem d_String_initb_9 : decode jdk_42_method_151_code 9 = .ok (.aload_n 0, 1) := by decide +kernel
theorem d_String_initb_10 : decode jdk_42_method_151_code 10 = .ok (.iload_n 2, 1) := by decide +kernel
theorem d_String_initb_11 : decode jdk_42_method_151_code 11 = .ok (.putfield 15, 3) := by decide +kernel
theorem d_String_initb_14 : decode jdk_42_method_151_code 14 = .ok (.return_, 1) := by decide +kernel
theorem pn_String_initb : plainFor (⟨"java/lang/String", "<init>", "([BB)V"⟩ : MethodName) = true := plainFor_of_name (by first | (simp [plainName, overriddenIn, x]; done) | decide +kernel)
theorem pd_String_initb : parseMethodDescriptor "([BB)V" = some ⟨[(.array .byte), .byte], none⟩ := by decide +kernel
theorem ef_ib (m : MethodId) (o ba : Addr) : entryFrame m #[(.ref o), (.ref ba), (.int (0 : Int32))] 3 = mkF m 0 #[.val (.ref o), .val (.ref ba), .val (.int (0 : Int32))] [] := by first | (simp [entryFrame, mkF, argsToLocals, Value.category]; done) | rfl
set_option maxRecDepth 65536 in
set_option maxHeartbeats 40000000 in
theorem rm_ib (l : Launch) (Z : State) (a0 : Array Value) (hw : ∀ d ∈ tables_1, d.before a0 Z = true) (o ba : Addr) (u1 u2 : Value) (h0 : Heap) (n0 : Nat) (g0 : n0 ≤ o) (E0 : Exa Z h0 o "java/lang/String") (F0 : Fld Z h0 o "java/lang/String" "value" "[B" u1) (F1 : Fld Z h0 o "java/lang/String" "coder" "B" u2) : Wk.Met l (⟨"java/lang/String", "<init>", "([BB)V"⟩ : MethodName) jdk_42_method_151_code 3 none ({ frames := 1, cells := 0, slots := 0, locals := 12 } : Room) #[(.ref o), (.ref ba), (.int (0 : Int32))] Z h0 (fun r h L => r = none ∧ Fr n0 L ∧ Keep h0 h [o]) [] := by
  refine Wk.enter pn_String_initb (fun p e s m below meth c T0 k X0 e0 => ?_)
  refine (Wk.Ends.cast (ef_ib m o ba) ?_)
  refine Wk.aload_n k X0 d_String_initb_0 rfl rfl 1 rfl ?_
  refine Wk.initObj (W := 0) k X0 d_String_initb_1 (Wk.w hw 46 rfl) (Wk.w hw 20 rfl) (Wk.w hw 21 rfl) e0 rfl (Nat.le_of_ble_eq_true rfl) (Nat.le_of_ble_eq_true rfl) 4 rfl fun T1 X1 e1 => ?_
  refine Wk.aload_n k X1 d_String_initb_4 rfl rfl 5 rfl ?_
  refine Wk.aload_n k X1 d_String_initb_5 rfl rfl 6 rfl ?_
  refine Wk.putfield k X1 d_String_initb_6 (host := "") (Or.inl (Wk.w hw 59 rfl)) Via.refl e1 F0 E0 (Or.inr ⟨(Wk.w hw 4 rfl), rfl, rfl⟩) (Wk.w hw 2 rfl) (ty := (.array .byte)) (by decide) rfl rfl 9 rfl fun T2 h2 X2 e2 W2 => ?_
  have N3 := Fr.snoc X2 (Fr.nil n0) g0
  have K4 := (Keep.refl h0 [o]).wr W2 (Or.inl (List.mem_of_getElem? (i := 0) rfl))
  have f5 := Exa.wr W2 E0
  have f6 := Fld.other W2 F1 (Or.inr (slot_ne (Or.inr (Wk.w hw 5 rfl)) (Or.inr (Wk.w hw 4 rfl)) (by decide) (t := .byte) (t' := (.array .byte)) (by decide) (by decide)))
  have f7 := Fld.same W2 F0
  refine Wk.aload_n k X2 d_String_initb_9 rfl rfl 10 rfl ?_
  refine Wk.iload_n k X2 d_String_initb_10 rfl 11 rfl ?_
  refine Wk.putfield k X2 d_String_initb_11 (host := "") (Or.inl (Wk.w hw 58 rfl)) Via.refl e2 f6 f5 (Or.inr ⟨(Wk.w hw 5 rfl), rfl, rfl⟩) (Wk.w hw 2 rfl) (ty := .byte) (by decide) rfl rfl 14 rfl fun T8 h8 X8 e8 W8 => ?_
  have N9 := Fr.snoc X8 N3 g0
  have K10 := K4.wr W8 (Or.inl (List.mem_of_getElem? (i := 0) rfl))
  have f11 := Exa.wr W8 f5
  have f12 := Fld.other W8 f7 (Or.inr (slot_ne (Or.inr (Wk.w hw 4 rfl)) (Or.inr (Wk.w hw 5 rfl)) (by decide) (t := (.array .byte)) (t' := .byte) (by decide) (by decide)))
  have f13 := Fld.same W8 f6
  refine Wk.ret_void k X8 rfl d_String_initb_14 (by decide) (by decide) ?_
  rw [e8]
  exact ⟨rfl, N9, K10⟩
theorem d_StringLatin1_toBytes_0 : decode jdk_43_method_46_code 0 = .ok (.iconst 1, 1) := by decide +kernel
theorem d_StringLatin1_toBytes_1 : decode jdk_43_method_46_code 1 = .ok (.newarray .byte, 2) := by decide +kernel
theorem d_StringLatin1_toBytes_3 : decode jdk_43_method_46_code 3 = .ok (.dup, 1) := by decide +kernel
theorem d_StringLatin1_toBytes_4 : decode jdk_43_method_46_code 4 = .ok (.iconst 0, 1) := by decide +kernel
theorem d_StringLatin1_toBytes_5 : decode jdk_43_method_46_code 5 = .ok (.iload_n 0, 1) := by decide +kernel
theorem d_StringLatin1_toBytes_6 : decode jdk_43_method_46_code 6 = .ok (.i2b, 1) := by decide +kernel
theorem d_StringLatin1_toBytes_7 : decode jdk_43_method_46_code 7 = .ok (.bastore, 1) := by decide +kernel
theorem d_StringLatin1_toBytes_8 : decode jdk_43_method_46_code 8 = .ok (.areturn, 1) := by decide +kernel
theorem pn_StringLatin1_toBytes : plainFor (⟨"java/lang/StringLatin1", "toBytes", "(C)[B"⟩ : MethodName) = true := plainFor_of_name (by first | (simp [plainName, overriddenIn, x]; done) | decide +kernel)
theorem pd_StringLatin1_toBytes : parseMethodDescriptor "(C)[B" = some ⟨[.char], (some (.array .byte))⟩ := by decide +kernel
theorem ef_tb (m : MethodId) (x : Int32) : entryFrame m #[(.int x)] 1 = mkF m 0 #[.val (.int x)] [] := by first | (simp [entryFrame, mkF, argsToLocals, Value.category]; done) | rfl
set_option maxRecDepth 65536 in
set_option maxHeartbeats 40000000 in
theorem rm_tb (l : Launch) (Z : State) (a0 : Array Value) (hw : ∀ d ∈ tables_1, d.before a0 Z = true) (x : Int32) (h0 : Heap) (n0 : Nat) (Z0 : n0 ≤ h0.size) : Wk.Met l (⟨"java/lang/StringLatin1", "toBytes", "(C)[B"⟩ : MethodName) jdk_43_method_46_code 1 (some (.array .byte)) ({ frames := 0, cells := 1, slots := 1, locals := 0 } : Room) #[(.int x)] Z h0 (fun r h L => ∃ ba : Addr, r = some (.ref ba) ∧ Fr n0 L ∧ Keep h0 h []) [] := by
  refine Wk.enter pn_StringLatin1_toBytes (fun p e s m below meth c T0 k X0 e0 => ?_)
  refine (Wk.Ends.cast (ef_tb m x) ?_)
  refine Wk.iconst k X0 d_StringLatin1_toBytes_0 (1 : Int32) rfl 1 rfl ?_
  refine Wk.newarray k X0 d_StringLatin1_toBytes_1 (Wk.w hw 3 rfl) e0 1 rfl 1 (by decide) (by decide) (by decide) (by decide) 3 rfl fun T1 h1 ba q1 X1 e1 E1 A1 => ?_
  have g1 : n0 ≤ ba := by rw [q1]; exact Z0
  have hs2 : h0.size ≤ ba := by rw [q1]; exact (Keep.refl h0 []).1
  have sz1 := Nat.le_trans Z0 E1.1
  have K3 := (Keep.refl h0 []).ext E1
  have A1' : Wk.Arl Z h1 ba .byte (([(0 : Int32)] : List Int32).map Value.int) := A1
  refine Wk.dup k X1 d_StringLatin1_toBytes_3 rfl 4 rfl ?_
  refine Wk.iconst k X1 d_StringLatin1_toBytes_4 (0 : Int32) rfl 5 rfl ?_
  refine Wk.iload_n k X1 d_StringLatin1_toBytes_5 rfl 6 rfl ?_
  refine Wk.i2b k X1 d_StringLatin1_toBytes_6 7 rfl ?_
  refine Wk.bastore k X1 (x := ((x).toInt8.toInt32)) d_StringLatin1_toBytes_7 e1 A1' 0 rfl (show 0 < 1 from by decide) ((x).toInt8.toInt32) (own_b8 _) 8 rfl fun T4 h4 X4 e4 W4 A4 => ?_
  have sz4 : n0 ≤ h4.size := by rw [W4.size]; exact sz1
  have N5 := Fr.snoc X4 (Fr.nil n0) g1
  have K6 := K3.wr W4 (Or.inr hs2)
  have A4' : Wk.Arl Z h4 ba .byte (([((x).toInt8.toInt32)] : List Int32).map Value.int) := A4
  refine Wk.ret_ref (t := (.array .byte)) k X4 rfl rfl rfl rfl d_StringLatin1_toBytes_8 (by decide) (by decide) ?_
  rw [e4]
  exact ⟨ba, rfl, N5, K6⟩
theorem d_StringLatin1_canEncode_0 : decode jdk_43_method_3_code 0 = .ok (.iload_n 0, 1) := by decide +kernel
theorem d_StringLatin1_canEncode_1 : decode jdk_43_method_3_code 1 = .ok (.sipush 255, 3) := by decide +kernel
theorem d_StringLatin1_canEncode_4 : decode jdk_43_method_3_code 4 = .ok (.if_icmp .gt 7, 3) := by decide +kernel
theorem d_StringLatin1_canEncode_7 : decode jdk_43_method_3_code 7 = .ok (.iconst 1, 1) := by decide +kernel
theorem d_StringLatin1_canEncode_8 : decode jdk_43_method_3_code 8 = .ok (.goto 4, 3) := by decide +kernel
theorem d_StringLatin1_canEncode_12 : decode jdk_43_method_3_code 12 = .ok (.ireturn, 1) := by decide +kernel
theorem pn_StringLatin1_canEncode : plainFor (⟨"java/lang/StringLatin1", "canEncode", "(C)Z"⟩ : MethodName) = true := plainFor_of_name (by first | (simp [plainName, overriddenIn, x]; done) | decide +kernel)
theorem pd_StringLatin1_canEncode : parseMethodDescriptor "(C)Z" = some ⟨[.char], (some .boolean)⟩ := by decide +kernel
theorem ef_ce (m : MethodId) (x : Int32) : entryFrame m #[(.int x)] 1 = mkF m 0 #[.val (.int x)] [] := by first | (simp [entryFrame, mkF, argsToLocals, Value.category]; done) | rfl
set_option maxRecDepth 65536 in
set_option maxHeartbeats 40000000 in
theorem rm_ce (l : Launch) (Z : State) (a0 : Array Value) (hw : ∀ d ∈ tables_1, d.before a0 Z = true) (x : Int32) (h0 : Heap) (hx : ¬ (255 : Int32) < x) : Wk.Met l (⟨"java/lang/StringLatin1", "canEncode", "(C)Z"⟩ : MethodName) jdk_43_method_3_code 1 (some .boolean) ({ frames := 0, cells := 0, slots := 0, locals := 0 } : Room) #[(.int x)] Z h0 (fun r h L => r = some (.int (1 : Int32)) ∧ h = h0 ∧ L = []) [] := by
  refine Wk.enter pn_StringLatin1_canEncode (fun p e s m below meth c T0 k X0 e0 => ?_)
  refine (Wk.Ends.cast (ef_ce m x) ?_)
  refine Wk.iload_n k X0 d_StringLatin1_canEncode_0 rfl 1 rfl ?_
  refine Wk.sipush k X0 d_StringLatin1_canEncode_1 (255 : Int32) rfl 4 rfl ?_
  refine Wk.icmp_gt k X0 d_StringLatin1_canEncode_4 (by decide) 11 7 (by decide) rfl (fun hc4 => ?_) (fun hc4 => ?_)
  · exact absurd hc4 hx
  · refine Wk.iconst k X0 d_StringLatin1_canEncode_7 (1 : Int32) rfl 8 rfl ?_
    refine Wk.goto k X0 d_StringLatin1_canEncode_8 (by decide) 12 (by decide) ?_
    exact Wk.ret_bool k X0 rfl d_StringLatin1_canEncode_12 (by decide) (by decide) (by decide) ⟨rfl, e0, rfl⟩
theorem d_String_valueOf_0 : decode jdk_42_method_139_code 0 = .ok (.getstatic 38, 3) := by decide +kernel
theorem d_String_valueOf_3 : decode jdk_42_method_139_code 3 = .ok (.ifCond .eq 23, 3) := by decide +kernel
theorem d_String_valueOf_6 : decode jdk_42_method_139_code 6 = .ok (.iload_n 0, 1) := by decide +kernel
theorem d_String_valueOf_7 : decode jdk_42_method_139_code 7 = .ok (.invokestatic 1015, 3) := by decide +kernel
theorem d_String_valueOf_10 : decode jdk_42_method_139_code 10 = .ok (.ifCond .eq 16, 3) := by decide +kernel
theorem d_String_valueOf_13 : decode jdk_42_method_139_code 13 = .ok (.new 10, 3) := by decide +kernel
theorem d_String_valueOf_16 : decode jdk_42_method_139_code 16 = .ok (.dup, 1) := by decide +kernel
theorem d_String_valueOf_17 : decode jdk_42_method_139_code 17 = .ok (.iload_n 0, 1) := by decide +kernel
theorem d_String_valueOf_18 : decode jdk_42_method_139_code 18 = .ok (.invokestatic 1018, 3) := by decide +kernel
theorem d_String_valueOf_21 : decode jdk_42_method_139_code 21 = .ok (.iconst 0, 1) := by decide +kernel
theorem d_String_valueOf_22 : decode jdk_42_method_139_code 22 = .ok (.invokespecial 209, 3) := by decide +kernel
theorem d_String_valueOf_25 : decode jdk_42_method_139_code 25 = .ok (.areturn, 1) := by decide +kernel
theorem pn_String_valueOf : plainFor (⟨"java/lang/String", "valueOf", "(C)Ljava/lang/String;"⟩ : MethodName) = true := plainFor_of_name (by first | (simp [plainName, overriddenIn, x]; done) | decide +kernel)
theorem pd_String_valueOf : parseMethodDescriptor "(C)Ljava/lang/String;" = some ⟨[.char], (some (.object "java/lang/String"))⟩ := by decide +kernel
theorem ef_vo (m : MethodId) (x : Int32) : entryFrame m #[(.int x)] 1 = mkF m 0 #[.val (.int x)] [] := by first | (simp [entryFrame, mkF, argsToLocals, Value.category]; done) | rfl
set_option maxRecDepth 65536 in
set_option maxHeartbeats 40000000 in
theorem rm_vo (l : Launch) (Z : State) (a0 : Array Value) (hw : ∀ d ∈ tables_1, d.before a0 Z = true) (x : Int32) (h0 : Heap) (n0 : Nat) (Z0 : n0 ≤ h0.size) (hx : ¬ (255 : Int32) < x) (cz : Int32) (hcz : ¬ cz = 0) (S0 : Sta Z h0 "java/lang/String" "COMPACT_STRINGS" "Z" (.int cz)) : Wk.Met l (⟨"java/lang/String", "valueOf", "(C)Ljava/lang/String;"⟩ : MethodName) jdk_42_method_139_code 1 (some (.object "java/lang/String")) ({ frames := 2, cells := 2, slots := 5, locals := 27 } : Room) #[(.int x)] Z h0 (fun r h L => ∃ o : Addr, r = some (.ref o) ∧ Fr n0 L ∧ Keep h0 h []) [] := by
  refine Wk.enter pn_String_valueOf (fun p e s m below meth c T0 k X0 e0 => ?_)
  refine (Wk.Ends.cast (ef_vo m x) ?_)
  refine Wk.getstatic k X0 d_String_valueOf_0 (host := "") (Or.inl (Wk.w hw 47 rfl)) e0 S0 3 rfl fun T1 X1 e1 => ?_
  refine Wk.if_eq k X1 d_String_valueOf_3 (by decide) 26 6 (by decide) rfl (fun hc3 => ?_) (fun hc3 => ?_)
  · exact absurd hc3 hcz
  · refine Wk.iload_n k X1 d_String_valueOf_6 rfl 7 rfl ?_
    refine Wk.callS k X1 [(.int x)] [] d_String_valueOf_7 (rm_ce l Z a0 hw x _ hx) e1 (Wk.w hw 63 rfl) (Wk.w hw 64 rfl) (Wk.w hw 65 rfl) (Wk.w hw 66 rfl) (by decide) rfl pd_StringLatin1_canEncode rfl rfl (Nat.le_of_ble_eq_true rfl) (Nat.le_of_ble_eq_true rfl) (Nat.le_of_ble_eq_true rfl) (Nat.le_of_ble_eq_true rfl) 10 rfl fun T2 v2 L2 X2 hQ2 => ?_
    obtain ⟨rfl, e2, rfl⟩ := hQ2
    rw [List.append_nil] at X2
    show Wk.Ends _ _ _ _ _ _ _ (mkF m 10 _ [(.int (1 : Int32))])
    refine Wk.if_eq k X2 d_String_valueOf_10 (by decide) 26 13 (by decide) rfl (fun hz => by first | exact absurd hz (by decide) | exact absurd (by decide) hz) (fun _ => ?_)
    refine Wk.new k X2 d_String_valueOf_13 (Wk.w hw 67 rfl) (Wk.w hw 2 rfl) (Wk.w hw 1 rfl) e2 (by decide) (by decide) 16 rfl fun T3 h3 o q3 X3 e3 E3 A3 D3 => ?_
    have g3 : n0 ≤ o := by rw [q3]; exact Z0
    have hs4 : h0.size ≤ o := by rw [q3]; exact (Keep.refl h0 []).1
    have sz3 := Nat.le_trans Z0 E3.1
    have K5 := (Keep.refl h0 []).ext E3
    have f6 : Fld Z h3 o "java/lang/String" "value" "[B" .null := D3 (Or.inr (Wk.w hw 4 rfl)) (ty := (.array .byte)) (by decide)
    have f7 : Fld Z h3 o "java/lang/String" "coder" "B" (.int (0 : Int32)) := D3 (Or.inr (Wk.w hw 5 rfl)) (ty := .byte) (by decide)
    refine Wk.dup k X3 d_String_valueOf_16 rfl 17 rfl ?_
    refine Wk.iload_n k X3 d_String_valueOf_17 rfl 18 rfl ?_
    refine Wk.callS k X3 [(.int x)] [(.ref o), (.ref o)] d_String_valueOf_18 (rm_tb l Z a0 hw x h3 n0 sz3) e3 (Wk.w hw 68 rfl) (Wk.w hw 69 rfl) (Wk.w hw 65 rfl) (Wk.w hw 70 rfl) (by decide) rfl pd_StringLatin1_toBytes rfl rfl (Nat.le_of_ble_eq_true rfl) (Nat.le_of_ble_eq_true rfl) (Nat.le_of_ble_eq_true rfl) (Nat.le_of_ble_eq_true rfl) 21 rfl fun T8 v8 L8 X8 hQ8 => ?_
    obtain ⟨ba, rfl, N8q, K8q⟩ := hQ8
    show Wk.Ends _ _ _ _ _ _ _ (mkF m 21 _ [(.ref ba), (.ref o), (.ref o)])
    have N8 := Fr.app (Fr.nil n0) N8q
    have K9 := K5.trans K8q all0
    have f10 := A3.keep K8q
    have f11 := f6.keep K8q nin0
    have f12 := f7.keep K8q nin0
    refine Wk.iconst k X8 d_String_valueOf_21 (0 : Int32) rfl 22 rfl ?_
    refine Wk.callI k X8 [(.ref ba), (.int (0 : Int32))] [(.ref o)] d_String_valueOf_22 (rm_ib l Z a0 hw o ba _ _ T8.heap n0 g3 f10 f11 f12) (rfl : T8.heap = T8.heap) rfl (Wk.w hw 71 rfl) (Wk.w hw 72 rfl) (Wk.w hw 1 rfl) (Wk.w hw 73 rfl) (by decide) rfl pd_String_initb rfl rfl (Nat.le_of_ble_eq_true rfl) (Nat.le_of_ble_eq_true rfl) (Nat.le_of_ble_eq_true rfl) (Nat.le_of_ble_eq_true rfl) 25 rfl fun T13 v13 L13 X13 hQ13 => ?_
    obtain ⟨rfl, N13q, K13q⟩ := hQ13
    show Wk.Ends _ _ _ _ _ _ _ (mkF m 25 _ [(.ref o)])
    have N13 := Fr.app N8 N13q
    have K13 := K9.trans K13q (allS (Or.inr hs4) all0)
    refine Wk.ret_ref (t := (.object "java/lang/String")) k X13 rfl rfl rfl rfl d_String_valueOf_25 (by decide) (by decide) ?_
    exact ⟨o, rfl, N13, K13⟩
theorem d_VerdictHeldPinLaw_drawn_0 : decode method_2_code 0 = .ok (.iload_n 0, 1) := by decide +kernel
theorem d_VerdictHeldPinLaw_drawn_1 : decode method_2_code 1 = .ok (.iconst 3, 1) := by decide +kernel
theorem d_VerdictHeldPinLaw_drawn_2 : decode method_2_code 2 = .ok (.iand, 1) := by decide +kernel
theorem d_VerdictHeldPinLaw_drawn_3 : decode method_2_code 3 = .ok (.istore_n 3, 1) := by decide +kernel
theorem d_VerdictHeldPinLaw_drawn_4 : decode method_2_code 4 = .ok (.iload_n 3, 1) := by decide +kernel
theorem d_VerdictHeldPinLaw_drawn_5 : decode method_2_code 5 = .ok (.ifCond .ne 6, 3) := by decide +kernel
theorem d_VerdictHeldPinLaw_drawn_8 : decode method_2_code 8 = .ok (.ldc 7, 2) := by decide +kernel
theorem d_VerdictHeldPinLaw_drawn_10 : decode method_2_code 10 = .ok (.areturn, 1) := by decide +kernel
theorem d_VerdictHeldPinLaw_drawn_11 : decode method_2_code 11 = .ok (.iload_n 3, 1) := by decide +kernel
theorem d_VerdictHeldPinLaw_drawn_12 : decode method_2_code 12 = .ok (.iconst 1, 1) := by decide +kernel
theorem d_VerdictHeldPinLaw_drawn_13 : decode method_2_code 13 = .ok (.if_icmp .ne 13, 3) := by decide +kernel
theorem d_VerdictHeldPinLaw_drawn_16 : decode method_2_code 16 = .ok (.iload_n 1, 1) := by decide +kernel
theorem d_VerdictHeldPinLaw_drawn_17 : decode method_2_code 17 = .ok (.sipush 255, 3) := by decide +kernel
theorem d_VerdictHeldPinLaw_drawn_20 : decode method_2_code 20 = .ok (.iand, 1) := by decide +kernel
theorem d_VerdictHeldPinLaw_drawn_21 : decode method_2_code 21 = .ok (.i2c, 1) := by decide +kernel
theorem d_VerdictHeldPinLaw_drawn_22 : decode method_2_code 22 = .ok (.invokestatic 9, 3) := by decide +kernel
theorem d_VerdictHeldPinLaw_drawn_25 : decode method_2_code 25 = .ok (.areturn, 1) := by decide +kernel
theorem d_VerdictHeldPinLaw_drawn_26 : decode method_2_code 26 = .ok (.iconst 2, 1) := by decide +kernel
theorem d_VerdictHeldPinLaw_drawn_27 : decode method_2_code 27 = .ok (.newarray .char, 2) := by decide +kernel
theorem d_VerdictHeldPinLaw_drawn_29 : decode method_2_code 29 = .ok (.astore 4, 2) := by decide +kernel
theorem d_VerdictHeldPinLaw_drawn_31 : decode method_2_code 31 = .ok (.aload 4, 2) := by decide +kernel
theorem d_VerdictHeldPinLaw_drawn_33 : decode method_2_code 33 = .ok (.iconst 0, 1) := by decide +kernel
theorem d_VerdictHeldPinLaw_drawn_34 : decode method_2_code 34 = .ok (.iload_n 1, 1) := by decide +kernel
theorem d_VerdictHeldPinLaw_drawn_35 : decode method_2_code 35 = .ok (.sipush 255, 3) := by decide +kernel
theorem d_VerdictHeldPinLaw_drawn_38 : decode method_2_code 38 = .ok (.iand, 1) := by decide +kernel
theorem d_VerdictHeldPinLaw_drawn_39 : decode method_2_code 39 = .ok (.i2c, 1) := by decide +kernel
theorem d_VerdictHeldPinLaw_drawn_40 : decode method_2_code 40 = .ok (.castore, 1) := by decide +kernel
theorem d_VerdictHeldPinLaw_drawn_41 : decode method_2_code 41 = .ok (.aload 4, 2) := by decide +kernel
theorem d_VerdictHeldPinLaw_drawn_43 : decode method_2_code 43 = .ok (.iconst 1, 1) := by decide +kernel
theorem d_VerdictHeldPinLaw_drawn_44 : decode method_2_code 44 = .ok (.iload_n 2, 1) := by decide +kernel
theorem d_VerdictHeldPinLaw_drawn_45 : decode method_2_code 45 = .ok (.sipush 255, 3) := by decide +kernel
theorem d_VerdictHeldPinLaw_drawn_48 : decode method_2_code 48 = .ok (.iand, 1) := by decide +kernel
theorem d_VerdictHeldPinLaw_drawn_49 : decode method_2_code 49 = .ok (.i2c, 1) := by decide +kernel
theorem d_VerdictHeldPinLaw_drawn_50 : decode method_2_code 50 = .ok (.castore, 1) := by decide +kernel
theorem d_VerdictHeldPinLaw_drawn_51 : decode method_2_code 51 = .ok (.new 10, 3) := by decide +kernel
theorem d_VerdictHeldPinLaw_drawn_54 : decode method_2_code 54 = .ok (.dup, 1) := by decide +kernel
theorem d_VerdictHeldPinLaw_drawn_55 : decode method_2_code 55 = .ok (.aload 4, 2) := by decide +kernel
theorem d_VerdictHeldPinLaw_drawn_57 : decode method_2_code 57 = .ok (.invokespecial 15, 3) := by decide +kernel
theorem d_VerdictHeldPinLaw_drawn_60 : decode method_2_code 60 = .ok (.areturn, 1) := by decide +kernel
theorem pn_VerdictHeldPinLaw_drawn : plainFor (⟨"com/example/sensebid/sensebid/VerdictHeldPinLaw", "drawn", "(III)Ljava/lang/String;"⟩ : MethodName) = true := plainFor_of_name (by first | (simp [plainName, overriddenIn, x]; done) | decide +kernel)
theorem pd_VerdictHeldPinLaw_drawn : parseMethodDescriptor "(III)Ljava/lang/String;" = some ⟨[.int, .int, .int], (some (.object "java/lang/String"))⟩ := by decide +kernel
theorem ef_dr (m : MethodId) (kd c0 c1 : Int32) : entryFrame m #[(.int kd), (.int c0), (.int c1)] 5 = mkF m 0 #[.val (.int kd), .val (.int c0), .val (.int c1), .unset, .unset] [] := by first | (simp [entryFrame, mkF, argsToLocals, Value.category]; done) | rfl
set_option maxRecDepth 65536 in
set_option maxHeartbeats 40000000 in
theorem rm_dr (l : Launch) (Z : State) (a0 : Array Value) (hw : ∀ d ∈ tables_1, d.before a0 Z = true) (kd c0 c1 : Int32) (h0 : Heap) (n0 : Nat) (Z0 : n0 ≤ h0.size) (cz : Int32) (hcz : ¬ cz = 0) (O0 : Old Z n0 h0) (S0 : Sta Z Z.heap "java/lang/String" "COMPACT_STRINGS" "Z" (.int cz)) : Ww.Met l (⟨"com/example/sensebid/sensebid/VerdictHeldPinLaw", "drawn", "(III)Ljava/lang/String;"⟩ : MethodName) method_2_code 5 (some (.object "java/lang/String")) ({ frames := 4, cells := 3, slots := 8, locals := 66 } : Room) #[(.int kd), (.int c0), (.int c1)] Z h0 (fun r h L => ∃ o : Addr, r = some (.ref o) ∧ Fr n0 L ∧ Keep h0 h []) [] := by
  refine Ww.enter pn_VerdictHeldPinLaw_drawn (fun p e s0 vm0 kz0 m below meth c T0 k X0 e0 S0' hk0 => ?_)
  refine (Ww.Ends.cast (ef_dr m kd c0 c1) ?_)
  refine Ww.iload_n k X0 d_VerdictHeldPinLaw_drawn_0 rfl 1 rfl ?_
  refine Ww.iconst k X0 d_VerdictHeldPinLaw_drawn_1 (3 : Int32) rfl 2 rfl ?_
  refine Ww.iand k X0 d_VerdictHeldPinLaw_drawn_2 3 rfl ?_
  refine Ww.istore_n k X0 d_VerdictHeldPinLaw_drawn_3 #[.val (.int kd), .val (.int c0), .val (.int c1), .val (.int (kd &&& (3 : Int32))), .unset] rfl 4 rfl ?_
  refine Ww.iload_n k X0 d_VerdictHeldPinLaw_drawn_4 rfl 5 rfl ?_
  refine Ww.if_ne k X0 d_VerdictHeldPinLaw_drawn_5 (by decide) 11 8 (by decide) rfl (fun hc5 => ?_) (fun hc5 => ?_)
  · refine Ww.iload_n k X0 d_VerdictHeldPinLaw_drawn_11 rfl 12 rfl ?_
    refine Ww.iconst k X0 d_VerdictHeldPinLaw_drawn_12 (1 : Int32) rfl 13 rfl ?_
    refine Ww.icmp_ne k X0 d_VerdictHeldPinLaw_drawn_13 (by decide) 26 16 (by decide) rfl (fun hc13 => ?_) (fun hc13 => ?_)
    · refine Ww.iconst k X0 d_VerdictHeldPinLaw_drawn_26 (2 : Int32) rfl 27 rfl ?_
      refine Ww.newarray k X0 d_VerdictHeldPinLaw_drawn_27 (Wk.w hw 37 rfl) e0 2 rfl 2 (by decide) (by decide) (by decide) (by decide) 29 rfl fun T1 h1 ca q1 X1 e1 E1 A1 => ?_
      have g1 : n0 ≤ ca := by rw [q1]; exact Z0
      have hs2 : h0.size ≤ ca := by rw [q1]; exact (Keep.refl h0 []).1
      have sz1 := Nat.le_trans Z0 E1.1
      have hk3 := Nat.le_trans hk0 E1.1
      have K4 := (Keep.refl h0 []).ext E1
      have A1' : Wk.Arl Z h1 ca .char (([(0 : Int32), (0 : Int32)] : List Int32).map Value.int) := A1
      refine Ww.astore k X1 d_VerdictHeldPinLaw_drawn_29 rfl #[.val (.int kd), .val (.int c0), .val (.int c1), .val (.int (kd &&& (3 : Int32))), .val (.ref ca)] rfl 31 rfl ?_
      refine Ww.aload k X1 d_VerdictHeldPinLaw_drawn_31 rfl rfl 33 rfl ?_
      refine Ww.iconst k X1 d_VerdictHeldPinLaw_drawn_33 (0 : Int32) rfl 34 rfl ?_
      refine Ww.iload_n k X1 d_VerdictHeldPinLaw_drawn_34 rfl 35 rfl ?_
      refine Ww.sipush k X1 d_VerdictHeldPinLaw_drawn_35 (255 : Int32) rfl 38 rfl ?_
      refine Ww.iand k X1 d_VerdictHeldPinLaw_drawn_38 39 rfl ?_
      refine Ww.i2c k X1 d_VerdictHeldPinLaw_drawn_39 40 rfl ?_
      refine Ww.castore k X1 (x := (((c0 &&& (255 : Int32))).toUInt32.toUInt16.toUInt32.toInt32)) d_VerdictHeldPinLaw_drawn_40 e1 A1' 0 rfl (show 0 < 2 from by decide) _ rfl 41 rfl fun T5 h5 X5 e5 W5 A5 => ?_
      have sz5 : n0 ≤ h5.size := by rw [W5.size]; exact sz1
      have N6 := Fr.snoc X5 (Fr.nil n0) g1
      have hk7 := Nat.le_trans hk3 (Nat.le_of_eq W5.size.symm)
      have K8 := K4.wr W5 (Or.inr hs2)
      have A5' : Wk.Arl Z h5 ca .char (([((((c0 &&& (255 : Int32))).toUInt32.toUInt16.toUInt32.toInt32)).toUInt32.toUInt16.toUInt32.toInt32, (0 : Int32)] : List Int32).map Value.int) := A5
      refine Ww.aload k X5 d_VerdictHeldPinLaw_drawn_41 rfl rfl 43 rfl ?_
      refine Ww.iconst k X5 d_VerdictHeldPinLaw_drawn_43 (1 : Int32) rfl 44 rfl ?_
      refine Ww.iload_n k X5 d_VerdictHeldPinLaw_drawn_44 rfl 45 rfl ?_
      refine Ww.sipush k X5 d_VerdictHeldPinLaw_drawn_45 (255 : Int32) rfl 48 rfl ?_
      refine Ww.iand k X5 d_VerdictHeldPinLaw_drawn_48 49 rfl ?_
      refine Ww.i2c k X5 d_VerdictHeldPinLaw_drawn_49 50 rfl ?_
      refine Ww.castore k X5 (x := (((c1 &&& (255 : Int32))).toUInt32.toUInt16.toUInt32.toInt32)) d_VerdictHeldPinLaw_drawn_50 e5 A5' 1 rfl (show 1 < 2 from by decide) _ rfl 51 rfl fun T9 h9 X9 e9 W9 A9 => ?_
      have sz9 : n0 ≤ h9.size := by rw [W9.size]; exact sz5
      have N10 := Fr.snoc X9 N6 g1
      have hk11 := Nat.le_trans hk7 (Nat.le_of_eq W9.size.symm)
      have K12 := K8.wr W9 (Or.inr hs2)
      have A9' : Wk.Arl Z h9 ca .char (([((((c0 &&& (255 : Int32))).toUInt32.toUInt16.toUInt32.toInt32)).toUInt32.toUInt16.toUInt32.toInt32, ((((c1 &&& (255 : Int32))).toUInt32.toUInt16.toUInt32.toInt32)).toUInt32.toUInt16.toUInt32.toInt32] : List Int32).map Value.int) := A9
      refine Ww.new k X9 d_VerdictHeldPinLaw_drawn_51 (Wk.w hw 38 rfl) (Wk.w hw 2 rfl) (Wk.w hw 1 rfl) e9 (by decide) (by decide) 54 rfl fun T13 h13 o q13 X13 e13 E13 A13 D13 => ?_
      have g13 : n0 ≤ o := by rw [q13]; exact sz9
      have hs14 : h0.size ≤ o := by rw [q13]; exact K12.1
      have ne15 : ca ≠ o := by rw [q13]; exact Nat.ne_of_lt A9'.lt
      have sz13 := Nat.le_trans sz9 E13.1
      have hk16 := Nat.le_trans hk11 E13.1
      have K17 := K12.ext E13
      have f18 := A9'.ext E13
      have f19 : Fld Z h13 o "java/lang/String" "value" "[B" .null := D13 (Or.inr (Wk.w hw 4 rfl)) (ty := (.array .byte)) (by decide)
      have f20 : Fld Z h13 o "java/lang/String" "coder" "B" (.int (0 : Int32)) := D13 (Or.inr (Wk.w hw 5 rfl)) (ty := .byte) (by decide)
      refine Ww.dup k X13 d_VerdictHeldPinLaw_drawn_54 rfl 55 rfl ?_
      refine Ww.aload k X13 d_VerdictHeldPinLaw_drawn_55 rfl rfl 57 rfl ?_
      refine Ww.callI k X13 [(.ref ca)] [(.ref o)] d_VerdictHeldPinLaw_drawn_57 (rm_i1 l Z a0 hw o ca _ _ _ _ h13 n0 sz13 (own_ch c0).1 (own_ch c1).1 cz hcz (Sta.ext (O0.keep K17 all0).2 S0) (Ne.symm ne15) g13 A13 f19 f20 f18) e13 rfl (Wk.w hw 39 rfl) (Wk.w hw 40 rfl) (Wk.w hw 1 rfl) (Wk.w hw 41 rfl) (by decide) rfl pd_String_init1 rfl rfl (Nat.le_of_ble_eq_true rfl) (Nat.le_of_ble_eq_true rfl) (Nat.le_of_ble_eq_true rfl) (Nat.le_of_ble_eq_true rfl) 60 rfl fun T21 v21 L21 X21 hQ21 => ?_
      obtain ⟨rfl, N21q, K21q⟩ := hQ21
      show Ww.Ends _ _ _ _ _ _ _ (mkF m 60 _ [(.ref o)])
      have N21 := Fr.app N10 N21q
      have hk22 := Nat.le_trans hk16 K21q.1
      have K23 := K17.trans K21q (allS (Or.inr hs14) all0)
      refine Ww.ret_ref (t := (.object "java/lang/String")) k X21 S0' (Nat.le_trans hk22 (Nat.le_of_eq (congrArg (fun hh : Heap => hh.size) (rfl : T21.heap = T21.heap)).symm)) rfl rfl rfl rfl d_VerdictHeldPinLaw_drawn_60 (by decide) (by decide) ?_
      exact ⟨_, rfl, N21, K23⟩
    · refine Ww.iload_n k X0 d_VerdictHeldPinLaw_drawn_16 rfl 17 rfl ?_
      refine Ww.sipush k X0 d_VerdictHeldPinLaw_drawn_17 (255 : Int32) rfl 20 rfl ?_
      refine Ww.iand k X0 d_VerdictHeldPinLaw_drawn_20 21 rfl ?_
      refine Ww.i2c k X0 d_VerdictHeldPinLaw_drawn_21 22 rfl ?_
      refine Ww.callS k X0 [(.int (((c0 &&& (255 : Int32))).toUInt32.toUInt16.toUInt32.toInt32))] [] d_VerdictHeldPinLaw_drawn_22 (rm_vo l Z a0 hw (((c0 &&& (255 : Int32))).toUInt32.toUInt16.toUInt32.toInt32) h0 n0 Z0 (own_ch c0).2 cz hcz (Sta.ext (O0.keep (Keep.refl h0 []) all0).2 S0)) e0 (Wk.w hw 60 rfl) (Wk.w hw 61 rfl) (Wk.w hw 1 rfl) (Wk.w hw 62 rfl) (by decide) rfl pd_String_valueOf rfl rfl (Nat.le_of_ble_eq_true rfl) (Nat.le_of_ble_eq_true rfl) (Nat.le_of_ble_eq_true rfl) (Nat.le_of_ble_eq_true rfl) 25 rfl fun T24 v24 L24 X24 hQ24 => ?_
      obtain ⟨o, rfl, N24q, K24q⟩ := hQ24
      show Ww.Ends _ _ _ _ _ _ _ (mkF m 25 _ [(.ref o)])
      have N24 := Fr.app (Fr.nil n0) N24q
      have hk25 := Nat.le_trans hk0 K24q.1
      have K26 := (Keep.refl h0 []).trans K24q all0
      refine Ww.ret_ref (t := (.object "java/lang/String")) k X24 S0' (Nat.le_trans hk25 (Nat.le_of_eq (congrArg (fun hh : Heap => hh.size) (rfl : T24.heap = T24.heap)).symm)) rfl rfl rfl rfl d_VerdictHeldPinLaw_drawn_25 (by decide) (by decide) ?_
      exact ⟨_, rfl, N24, K26⟩
  · refine Ww.ldcS k X0 (text := "") d_VerdictHeldPinLaw_drawn_8 (Wk.w hw 75 rfl) (own_wS hw) e0 S0' hk0 0 (by decide) (by decide) (by decide) (by decide) 10 rfl fun b27 vm27 kz27 T27 h27 kn27 X27 e27 E27 S27 hk27 => ?_
    have sz27 := Nat.le_trans Z0 E27.1
    have K28 := (Keep.refl h0 []).ext E27
    refine Ww.ret_ref (t := (.object "java/lang/String")) kn27 X27 S27 (Nat.le_trans hk27 (Nat.le_of_eq (congrArg (fun hh : Heap => hh.size) e27).symm)) rfl rfl rfl rfl d_VerdictHeldPinLaw_drawn_10 (by decide) (by decide) ?_
    rw [e27]
    exact ⟨_, rfl, (Fr.nil n0), K28⟩
theorem d_Record_init_0 : decode jdk_30_method_1_code 0 = .ok (.aload_n 0, 1) := by decide +kernel
theorem d_Record_init_1 : decode jdk_30_method_1_code 1 = .ok (.invokespecial 1, 3) := by decide +kernel
theorem d_Record_init_4 : decode jdk_30_method_1_code 4 = .ok (.return_, 1) := by decide +kernel
theorem pn_Record_init : plainFor (⟨"java/lang/Record", "<init>", "()V"⟩ : MethodName) = true := plainFor_of_name (by first | (simp [plainName, overriddenIn, x]; done) | decide +kernel)
theorem pd_Record_init : parseMethodDescriptor "()V" = some ⟨[], none⟩ := by decide +kernel
theorem ef_re (m : MethodId) (o : Addr) : entryFrame m #[(.ref o)] 1 = mkF m 0 #[.val (.ref o)] [] := by first | (simp [entryFrame, mkF, argsToLocals, Value.category]; done) | rfl
set_option maxRecDepth 65536 in
set_option maxHeartbeats 40000000 in
theorem rm_re (l : Launch) (Z : State) (a0 : Array Value) (hw : ∀ d ∈ tables_1, d.before a0 Z = true) (o : Addr) (h0 : Heap) : Wk.Met l (⟨"java/lang/Record", "<init>", "()V"⟩ : MethodName) jdk_30_method_1_code 1 none ({ frames := 1, cells := 0, slots := 0, locals := 12 } : Room) #[(.ref o)] Z h0 (fun r h L => r = none ∧ h = h0 ∧ L = []) [] := by
  refine Wk.enter pn_Record_init (fun p e s m below meth c T0 k X0 e0 => ?_)
  refine (Wk.Ends.cast (ef_re m o) ?_)
  refine Wk.aload_n k X0 d_Record_init_0 rfl rfl 1 rfl ?_
  refine Wk.initObj (W := 0) k X0 d_Record_init_1 (Wk.w hw 19 rfl) (Wk.w hw 20 rfl) (Wk.w hw 21 rfl) e0 rfl (Nat.le_of_ble_eq_true rfl) (Nat.le_of_ble_eq_true rfl) 4 rfl fun T1 X1 e1 => ?_
  exact Wk.ret_void k X1 rfl d_Record_init_4 (by decide) (by decide) ⟨rfl, e1, rfl⟩
theorem d_Verdict_init_0 : decode prog_2_method_1_code 0 = .ok (.aload_n 0, 1) := by decide +kernel
theorem d_Verdict_init_1 : decode prog_2_method_1_code 1 = .ok (.invokespecial 1, 3) := by decide +kernel
theorem d_Verdict_init_4 : decode prog_2_method_1_code 4 = .ok (.aload_n 0, 1) := by decide +kernel
theorem d_Verdict_init_5 : decode prog_2_method_1_code 5 = .ok (.aload_n 1, 1) := by decide +kernel
theorem d_Verdict_init_6 : decode prog_2_method_1_code 6 = .ok (.putfield 7, 3) := by decide +kernel
theorem d_Verdict_init_9 : decode prog_2_method_1_code 9 = .ok (.aload_n 0, 1) := by decide +kernel
theorem d_Verdict_init_10 : decode prog_2_method_1_code 10 = .ok (.iload_n 2, 1) := by decide +kernel
theorem d_Verdict_init_11 : decode prog_2_method_1_code 11 = .ok (.putfield 13, 3) := by decide +kernel
theorem d_Verdict_init_14 : decode prog_2_method_1_code 14 = .ok (.aload_n 0, 1) := by decide +kernel
theorem d_Verdict_init_15 : decode prog_2_method_1_code 15 = .ok (.aload_n 3, 1) := by decide +kernel
theorem d_Verdict_init_16 : decode prog_2_method_1_code 16 = .ok (.putfield 17, 3) := by decide +kernel
theorem d_Verdict_init_19 : decode prog_2_method_1_code 19 = .ok (.return_, 1) := by decide +kernel
theorem pn_Verdict_init : plainFor (⟨"com/example/sensebid/sensebid/Audit$Verdict", "<init>", "(Ljava/lang/String;ILjava/lang/String;)V"⟩ : MethodName) = true := plainFor_of_name (by first | (simp [plainName, overriddenIn, x]; done) | decide +kernel)
theorem pd_Verdict_init : parseMethodDescriptor "(Ljava/lang/String;ILjava/lang/String;)V" = some ⟨[(.object "java/lang/String"), .int, (.object "java/lang/String")], none⟩ := by decide +kernel
theorem ef_viNN (m : MethodId) (o : Addr) (z : Int32) : entryFrame m #[(.ref o), .null, (.int z), .null] 4 = mkF m 0 #[.val (.ref o), .val .null, .val (.int z), .val .null] [] := by first | (simp [entryFrame, mkF, argsToLocals, Value.category]; done) | rfl
set_option maxRecDepth 65536 in
set_option maxHeartbeats 40000000 in
theorem rm_viNN (l : Launch) (Z : State) (a0 : Array Value) (hw : ∀ d ∈ tables_1, d.before a0 Z = true) (o : Addr) (z : Int32) (u1 u2 u3 : Value) (h0 : Heap) (n0 : Nat) (g0 : n0 ≤ o) (E0 : Exa Z h0 o "com/example/sensebid/sensebid/Audit$Verdict") (F0 : Fld Z h0 o "com/example/sensebid/sensebid/Audit$Verdict" "promise" "Ljava/lang/String;" u1) (F1 : Fld Z h0 o "com/example/sensebid/sensebid/Audit$Verdict" "checked" "I" u2) (F2 : Fld Z h0 o "com/example/sensebid/sensebid/Audit$Verdict" "witness" "Ljava/lang/String;" u3) : Wk.Met l (⟨"com/example/sensebid/sensebid/Audit$Verdict", "<init>", "(Ljava/lang/String;ILjava/lang/String;)V"⟩ : MethodName) prog_2_method_1_code 4 none ({ frames := 2, cells := 0, slots := 0, locals := 24 } : Room) #[(.ref o), .null, (.int z), .null] Z h0 (fun r h L => r = none ∧ Fr n0 L ∧ Keep h0 h [o] ∧ Exa Z h o "com/example/sensebid/sensebid/Audit$Verdict" ∧ Fld Z h o "com/example/sensebid/sensebid/Audit$Verdict" "witness" "Ljava/lang/String;" .null) [] := by
  refine Wk.enter pn_Verdict_init (fun p e s m below meth c T0 k X0 e0 => ?_)
  refine (Wk.Ends.cast (ef_viNN m o z) ?_)
  refine Wk.aload_n k X0 d_Verdict_init_0 rfl rfl 1 rfl ?_
  refine Wk.callI k X0 [] [] d_Verdict_init_1 (rm_re l Z a0 hw o _) e0 rfl (Wk.w hw 14 rfl) (Wk.w hw 15 rfl) (Wk.w hw 17 rfl) (Wk.w hw 18 rfl) (by decide) rfl pd_Record_init rfl rfl (Nat.le_of_ble_eq_true rfl) (Nat.le_of_ble_eq_true rfl) (Nat.le_of_ble_eq_true rfl) (Nat.le_of_ble_eq_true rfl) 4 rfl fun T1 v1 L1 X1 hQ1 => ?_
  obtain ⟨rfl, e1, rfl⟩ := hQ1
  rw [List.append_nil] at X1
  show Wk.Ends _ _ _ _ _ _ _ (mkF m 4 _ [])
  refine Wk.aload_n k X1 d_Verdict_init_4 rfl rfl 5 rfl ?_
  refine Wk.aload_n k X1 d_Verdict_init_5 rfl rfl 6 rfl ?_
  refine Wk.putfield k X1 d_Verdict_init_6 (host := "") (Or.inl (Wk.w hw 22 rfl)) Via.refl e1 F0 E0 (Or.inr ⟨(Wk.w hw 23 rfl), rfl, rfl⟩) (Wk.w hw 9 rfl) (ty := (.object "java/lang/String")) (by decide) rfl rfl 9 rfl fun T2 h2 X2 e2 W2 => ?_
  have N3 := Fr.snoc X2 (Fr.nil n0) g0
  have K4 := (Keep.refl h0 [o]).wr W2 (Or.inl (List.mem_of_getElem? (i := 0) rfl))
  have f5 := Exa.wr W2 E0
  have f6 := Fld.other W2 F1 (Or.inr (slot_ne (Or.inr (Wk.w hw 25 rfl)) (Or.inr (Wk.w hw 23 rfl)) (by decide) (t := .int) (t' := (.object "java/lang/String")) (by decide) (by decide)))
  have f7 := Fld.other W2 F2 (Or.inr (slot_ne (Or.inr (Wk.w hw 27 rfl)) (Or.inr (Wk.w hw 23 rfl)) (by decide) (t := (.object "java/lang/String")) (t' := (.object "java/lang/String")) (by decide) (by decide)))
  have f8 := Fld.same W2 F0
  refine Wk.aload_n k X2 d_Verdict_init_9 rfl rfl 10 rfl ?_
  refine Wk.iload_n k X2 d_Verdict_init_10 rfl 11 rfl ?_
  refine Wk.putfield k X2 d_Verdict_init_11 (host := "") (Or.inl (Wk.w hw 24 rfl)) Via.refl e2 f6 f5 (Or.inr ⟨(Wk.w hw 25 rfl), rfl, rfl⟩) (Wk.w hw 9 rfl) (ty := .int) (by decide) rfl rfl 14 rfl fun T9 h9 X9 e9 W9 => ?_
  have N10 := Fr.snoc X9 N3 g0
  have K11 := K4.wr W9 (Or.inl (List.mem_of_getElem? (i := 0) rfl))
  have f12 := Exa.wr W9 f5
  have f13 := Fld.other W9 f8 (Or.inr (slot_ne (Or.inr (Wk.w hw 23 rfl)) (Or.inr (Wk.w hw 25 rfl)) (by decide) (t := (.object "java/lang/String")) (t' := .int) (by decide) (by decide)))
  have f14 := Fld.other W9 f7 (Or.inr (slot_ne (Or.inr (Wk.w hw 27 rfl)) (Or.inr (Wk.w hw 25 rfl)) (by decide) (t := (.object "java/lang/String")) (t' := .int) (by decide) (by decide)))
  have f15 := Fld.same W9 f6
  refine Wk.aload_n k X9 d_Verdict_init_14 rfl rfl 15 rfl ?_
  refine Wk.aload_n k X9 d_Verdict_init_15 rfl rfl 16 rfl ?_
  refine Wk.putfield k X9 d_Verdict_init_16 (host := "") (Or.inl (Wk.w hw 26 rfl)) Via.refl e9 f14 f12 (Or.inr ⟨(Wk.w hw 27 rfl), rfl, rfl⟩) (Wk.w hw 9 rfl) (ty := (.object "java/lang/String")) (by decide) rfl rfl 19 rfl fun T16 h16 X16 e16 W16 => ?_
  have N17 := Fr.snoc X16 N10 g0
  have K18 := K11.wr W16 (Or.inl (List.mem_of_getElem? (i := 0) rfl))
  have f19 := Exa.wr W16 f12
  have f20 := Fld.other W16 f13 (Or.inr (slot_ne (Or.inr (Wk.w hw 23 rfl)) (Or.inr (Wk.w hw 27 rfl)) (by decide) (t := (.object "java/lang/String")) (t' := (.object "java/lang/String")) (by decide) (by decide)))
  have f21 := Fld.other W16 f15 (Or.inr (slot_ne (Or.inr (Wk.w hw 25 rfl)) (Or.inr (Wk.w hw 27 rfl)) (by decide) (t := .int) (t' := (.object "java/lang/String")) (by decide) (by decide)))
  have f22 := Fld.same W16 f14
  refine Wk.ret_void k X16 rfl d_Verdict_init_19 (by decide) (by decide) ?_
  rw [e16]
  exact ⟨rfl, N17, K18, f19, f22⟩
theorem ef_viNR (m : MethodId) (o : Addr) (z : Int32) (wa : Addr) : entryFrame m #[(.ref o), .null, (.int z), (.ref wa)] 4 = mkF m 0 #[.val (.ref o), .val .null, .val (.int z), .val (.ref wa)] [] := by first | (simp [entryFrame, mkF, argsToLocals, Value.category]; done) | rfl
set_option maxRecDepth 65536 in
set_option maxHeartbeats 40000000 in
theorem rm_viNR (l : Launch) (Z : State) (a0 : Array Value) (hw : ∀ d ∈ tables_1, d.before a0 Z = true) (o : Addr) (z : Int32) (wa : Addr) (u1 u2 u3 : Value) (h0 : Heap) (n0 : Nat) (g0 : n0 ≤ o) (E0 : Exa Z h0 o "com/example/sensebid/sensebid/Audit$Verdict") (F0 : Fld Z h0 o "com/example/sensebid/sensebid/Audit$Verdict" "promise" "Ljava/lang/String;" u1) (F1 : Fld Z h0 o "com/example/sensebid/sensebid/Audit$Verdict" "checked" "I" u2) (F2 : Fld Z h0 o "com/example/sensebid/sensebid/Audit$Verdict" "witness" "Ljava/lang/String;" u3) : Wk.Met l (⟨"com/example/sensebid/sensebid/Audit$Verdict", "<init>", "(Ljava/lang/String;ILjava/lang/String;)V"⟩ : MethodName) prog_2_method_1_code 4 none ({ frames := 2, cells := 0, slots := 0, locals := 24 } : Room) #[(.ref o), .null, (.int z), (.ref wa)] Z h0 (fun r h L => r = none ∧ Fr n0 L ∧ Keep h0 h [o] ∧ Exa Z h o "com/example/sensebid/sensebid/Audit$Verdict" ∧ Fld Z h o "com/example/sensebid/sensebid/Audit$Verdict" "witness" "Ljava/lang/String;" (.ref wa)) [] := by
  refine Wk.enter pn_Verdict_init (fun p e s m below meth c T0 k X0 e0 => ?_)
  refine (Wk.Ends.cast (ef_viNR m o z wa) ?_)
  refine Wk.aload_n k X0 d_Verdict_init_0 rfl rfl 1 rfl ?_
  refine Wk.callI k X0 [] [] d_Verdict_init_1 (rm_re l Z a0 hw o _) e0 rfl (Wk.w hw 14 rfl) (Wk.w hw 15 rfl) (Wk.w hw 17 rfl) (Wk.w hw 18 rfl) (by decide) rfl pd_Record_init rfl rfl (Nat.le_of_ble_eq_true rfl) (Nat.le_of_ble_eq_true rfl) (Nat.le_of_ble_eq_true rfl) (Nat.le_of_ble_eq_true rfl) 4 rfl fun T1 v1 L1 X1 hQ1 => ?_
  obtain ⟨rfl, e1, rfl⟩ := hQ1
  rw [List.append_nil] at X1
  show Wk.Ends _ _ _ _ _ _ _ (mkF m 4 _ [])
  refine Wk.aload_n k X1 d_Verdict_init_4 rfl rfl 5 rfl ?_
  refine Wk.aload_n k X1 d_Verdict_init_5 rfl rfl 6 rfl ?_
  refine Wk.putfield k X1 d_Verdict_init_6 (host := "") (Or.inl (Wk.w hw 22 rfl)) Via.refl e1 F0 E0 (Or.inr ⟨(Wk.w hw 23 rfl), rfl, rfl⟩) (Wk.w hw 9 rfl) (ty := (.object "java/lang/String")) (by decide) rfl rfl 9 rfl fun T2 h2 X2 e2 W2 => ?_
  have N3 := Fr.snoc X2 (Fr.nil n0) g0
  have K4 := (Keep.refl h0 [o]).wr W2 (Or.inl (List.mem_of_getElem? (i := 0) rfl))
  have f5 := Exa.wr W2 E0
  have f6 := Fld.other W2 F1 (Or.inr (slot_ne (Or.inr (Wk.w hw 25 rfl)) (Or.inr (Wk.w hw 23 rfl)) (by decide) (t := .int) (t' := (.object "java/lang/String")) (by decide) (by decide)))
  have f7 := Fld.other W2 F2 (Or.inr (slot_ne (Or.inr (Wk.w hw 27 rfl)) (Or.inr (Wk.w hw 23 rfl)) (by decide) (t := (.object "java/lang/String")) (t' := (.object "java/lang/String")) (by decide) (by decide)))
  have f8 := Fld.same W2 F0
  refine Wk.aload_n k X2 d_Verdict_init_9 rfl rfl 10 rfl ?_
  refine Wk.iload_n k X2 d_Verdict_init_10 rfl 11 rfl ?_
  refine Wk.putfield k X2 d_Verdict_init_11 (host := "") (Or.inl (Wk.w hw 24 rfl)) Via.refl e2 f6 f5 (Or.inr ⟨(Wk.w hw 25 rfl), rfl, rfl⟩) (Wk.w hw 9 rfl) (ty := .int) (by decide) rfl rfl 14 rfl fun T9 h9 X9 e9 W9 => ?_
  have N10 := Fr.snoc X9 N3 g0
  have K11 := K4.wr W9 (Or.inl (List.mem_of_getElem? (i := 0) rfl))
  have f12 := Exa.wr W9 f5
  have f13 := Fld.other W9 f8 (Or.inr (slot_ne (Or.inr (Wk.w hw 23 rfl)) (Or.inr (Wk.w hw 25 rfl)) (by decide) (t := (.object "java/lang/String")) (t' := .int) (by decide) (by decide)))
  have f14 := Fld.other W9 f7 (Or.inr (slot_ne (Or.inr (Wk.w hw 27 rfl)) (Or.inr (Wk.w hw 25 rfl)) (by decide) (t := (.object "java/lang/String")) (t' := .int) (by decide) (by decide)))
  have f15 := Fld.same W9 f6
  refine Wk.aload_n k X9 d_Verdict_init_14 rfl rfl 15 rfl ?_
  refine Wk.aload_n k X9 d_Verdict_init_15 rfl rfl 16 rfl ?_
  refine Wk.putfield k X9 d_Verdict_init_16 (host := "") (Or.inl (Wk.w hw 26 rfl)) Via.refl e9 f14 f12 (Or.inr ⟨(Wk.w hw 27 rfl), rfl, rfl⟩) (Wk.w hw 9 rfl) (ty := (.object "java/lang/String")) (by decide) rfl rfl 19 rfl fun T16 h16 X16 e16 W16 => ?_
  have N17 := Fr.snoc X16 N10 g0
  have K18 := K11.wr W16 (Or.inl (List.mem_of_getElem? (i := 0) rfl))
  have f19 := Exa.wr W16 f12
  have f20 := Fld.other W16 f13 (Or.inr (slot_ne (Or.inr (Wk.w hw 23 rfl)) (Or.inr (Wk.w hw 27 rfl)) (by decide) (t := (.object "java/lang/String")) (t' := (.object "java/lang/String")) (by decide) (by decide)))
  have f21 := Fld.other W16 f15 (Or.inr (slot_ne (Or.inr (Wk.w hw 25 rfl)) (Or.inr (Wk.w hw 27 rfl)) (by decide) (t := .int) (t' := (.object "java/lang/String")) (by decide) (by decide)))
  have f22 := Fld.same W16 f14
  refine Wk.ret_void k X16 rfl d_Verdict_init_19 (by decide) (by decide) ?_
  rw [e16]
  exact ⟨rfl, N17, K18, f19, f22⟩
theorem ef_viRN (m : MethodId) (o : Addr) (pa : Addr) (z : Int32) : entryFrame m #[(.ref o), (.ref pa), (.int z), .null] 4 = mkF m 0 #[.val (.ref o), .val (.ref pa), .val (.int z), .val .null] [] := by first | (simp [entryFrame, mkF, argsToLocals, Value.category]; done) | rfl
set_option maxRecDepth 65536 in
set_option maxHeartbeats 40000000 in
theorem rm_viRN (l : Launch) (Z : State) (a0 : Array Value) (hw : ∀ d ∈ tables_1, d.before a0 Z = true) (o : Addr) (pa : Addr) (z : Int32) (u1 u2 u3 : Value) (h0 : Heap) (n0 : Nat) (g0 : n0 ≤ o) (E0 : Exa Z h0 o "com/example/sensebid/sensebid/Audit$Verdict") (F0 : Fld Z h0 o "com/example/sensebid/sensebid/Audit$Verdict" "promise" "Ljava/lang/String;" u1) (F1 : Fld Z h0 o "com/example/sensebid/sensebid/Audit$Verdict" "checked" "I" u2) (F2 : Fld Z h0 o "com/example/sensebid/sensebid/Audit$Verdict" "witness" "Ljava/lang/String;" u3) : Wk.Met l (⟨"com/example/sensebid/sensebid/Audit$Verdict", "<init>", "(Ljava/lang/String;ILjava/lang/String;)V"⟩ : MethodName) prog_2_method_1_code 4 none ({ frames := 2, cells := 0, slots := 0, locals := 24 } : Room) #[(.ref o), (.ref pa), (.int z), .null] Z h0 (fun r h L => r = none ∧ Fr n0 L ∧ Keep h0 h [o] ∧ Exa Z h o "com/example/sensebid/sensebid/Audit$Verdict" ∧ Fld Z h o "com/example/sensebid/sensebid/Audit$Verdict" "witness" "Ljava/lang/String;" .null) [] := by
  refine Wk.enter pn_Verdict_init (fun p e s m below meth c T0 k X0 e0 => ?_)
  refine (Wk.Ends.cast (ef_viRN m o pa z) ?_)
  refine Wk.aload_n k X0 d_Verdict_init_0 rfl rfl 1 rfl ?_
  refine Wk.callI k X0 [] [] d_Verdict_init_1 (rm_re l Z a0 hw o _) e0 rfl (Wk.w hw 14 rfl) (Wk.w hw 15 rfl) (Wk.w hw 17 rfl) (Wk.w hw 18 rfl) (by decide) rfl pd_Record_init rfl rfl (Nat.le_of_ble_eq_true rfl) (Nat.le_of_ble_eq_true rfl) (Nat.le_of_ble_eq_true rfl) (Nat.le_of_ble_eq_true rfl) 4 rfl fun T1 v1 L1 X1 hQ1 => ?_
  obtain ⟨rfl, e1, rfl⟩ := hQ1
  rw [List.append_nil] at X1
  show Wk.Ends _ _ _ _ _ _ _ (mkF m 4 _ [])
  refine Wk.aload_n k X1 d_Verdict_init_4 rfl rfl 5 rfl ?_
  refine Wk.aload_n k X1 d_Verdict_init_5 rfl rfl 6 rfl ?_
  refine Wk.putfield k X1 d_Verdict_init_6 (host := "") (Or.inl (Wk.w hw 22 rfl)) Via.refl e1 F0 E0 (Or.inr ⟨(Wk.w hw 23 rfl), rfl, rfl⟩) (Wk.w hw 9 rfl) (ty := (.object "java/lang/String")) (by decide) rfl rfl 9 rfl fun T2 h2 X2 e2 W2 => ?_
  have N3 := Fr.snoc X2 (Fr.nil n0) g0
  have K4 := (Keep.refl h0 [o]).wr W2 (Or.inl (List.mem_of_getElem? (i := 0) rfl))
  have f5 := Exa.wr W2 E0
  have f6 := Fld.other W2 F1 (Or.inr (slot_ne (Or.inr (Wk.w hw 25 rfl)) (Or.inr (Wk.w hw 23 rfl)) (by decide) (t := .int) (t' := (.object "java/lang/String")) (by decide) (by decide)))
  have f7 := Fld.other W2 F2 (Or.inr (slot_ne (Or.inr (Wk.w hw 27 rfl)) (Or.inr (Wk.w hw 23 rfl)) (by decide) (t := (.object "java/lang/String")) (t' := (.object "java/lang/String")) (by decide) (by decide)))
  have f8 := Fld.same W2 F0
  refine Wk.aload_n k X2 d_Verdict_init_9 rfl rfl 10 rfl ?_
  refine Wk.iload_n k X2 d_Verdict_init_10 rfl 11 rfl ?_
  refine Wk.putfield k X2 d_Verdict_init_11 (host := "") (Or.inl (Wk.w hw 24 rfl)) Via.refl e2 f6 f5 (Or.inr ⟨(Wk.w hw 25 rfl), rfl, rfl⟩) (Wk.w hw 9 rfl) (ty := .int) (by decide) rfl rfl 14 rfl fun T9 h9 X9 e9 W9 => ?_
  have N10 := Fr.snoc X9 N3 g0
  have K11 := K4.wr W9 (Or.inl (List.mem_of_getElem? (i := 0) rfl))
  have f12 := Exa.wr W9 f5
  have f13 := Fld.other W9 f8 (Or.inr (slot_ne (Or.inr (Wk.w hw 23 rfl)) (Or.inr (Wk.w hw 25 rfl)) (by decide) (t := (.object "java/lang/String")) (t' := .int) (by decide) (by decide)))
  have f14 := Fld.other W9 f7 (Or.inr (slot_ne (Or.inr (Wk.w hw 27 rfl)) (Or.inr (Wk.w hw 25 rfl)) (by decide) (t := (.object "java/lang/String")) (t' := .int) (by decide) (by decide)))
  have f15 := Fld.same W9 f6
  refine Wk.aload_n k X9 d_Verdict_init_14 rfl rfl 15 rfl ?_
  refine Wk.aload_n k X9 d_Verdict_init_15 rfl rfl 16 rfl ?_
  refine Wk.putfield k X9 d_Verdict_init_16 (host := "") (Or.inl (Wk.w hw 26 rfl)) Via.refl e9 f14 f12 (Or.inr ⟨(Wk.w hw 27 rfl), rfl, rfl⟩) (Wk.w hw 9 rfl) (ty := (.object "java/lang/String")) (by decide) rfl rfl 19 rfl fun T16 h16 X16 e16 W16 => ?_
  have N17 := Fr.snoc X16 N10 g0
  have K18 := K11.wr W16 (Or.inl (List.mem_of_getElem? (i := 0) rfl))
  have f19 := Exa.wr W16 f12
  have f20 := Fld.other W16 f13 (Or.inr (slot_ne (Or.inr (Wk.w hw 23 rfl)) (Or.inr (Wk.w hw 27 rfl)) (by decide) (t := (.object "java/lang/String")) (t' := (.object "java/lang/String")) (by decide) (by decide)))
  have f21 := Fld.other W16 f15 (Or.inr (slot_ne (Or.inr (Wk.w hw 25 rfl)) (Or.inr (Wk.w hw 27 rfl)) (by decide) (t := .int) (t' := (.object "java/lang/String")) (by decide) (by decide)))
  have f22 := Fld.same W16 f14
  refine Wk.ret_void k X16 rfl d_Verdict_init_19 (by decide) (by decide) ?_
  rw [e16]
  exact ⟨rfl, N17, K18, f19, f22⟩
theorem ef_viRR (m : MethodId) (o : Addr) (pa : Addr) (z : Int32) (wa : Addr) : entryFrame m #[(.ref o), (.ref pa), (.int z), (.ref wa)] 4 = mkF m 0 #[.val (.ref o), .val (.ref pa), .val (.int z), .val (.ref wa)] [] := by first | (simp [entryFrame, mkF, argsToLocals, Value.category]; done) | rfl
set_option maxRecDepth 65536 in
set_option maxHeartbeats 40000000 in
theorem rm_viRR (l : Launch) (Z : State) (a0 : Array Value) (hw : ∀ d ∈ tables_1, d.before a0 Z = true) (o : Addr) (pa : Addr) (z : Int32) (wa : Addr) (u1 u2 u3 : Value) (h0 : Heap) (n0 : Nat) (g0 : n0 ≤ o) (E0 : Exa Z h0 o "com/example/sensebid/sensebid/Audit$Verdict") (F0 : Fld Z h0 o "com/example/sensebid/sensebid/Audit$Verdict" "promise" "Ljava/lang/String;" u1) (F1 : Fld Z h0 o "com/example/sensebid/sensebid/Audit$Verdict" "checked" "I" u2) (F2 : Fld Z h0 o "com/example/sensebid/sensebid/Audit$Verdict" "witness" "Ljava/lang/String;" u3) : Wk.Met l (⟨"com/example/sensebid/sensebid/Audit$Verdict", "<init>", "(Ljava/lang/String;ILjava/lang/String;)V"⟩ : MethodName) prog_2_method_1_code 4 none ({ frames := 2, cells := 0, slots := 0, locals := 24 } : Room) #[(.ref o), (.ref pa), (.int z), (.ref wa)] Z h0 (fun r h L => r = none ∧ Fr n0 L ∧ Keep h0 h [o] ∧ Exa Z h o "com/example/sensebid/sensebid/Audit$Verdict" ∧ Fld Z h o "com/example/sensebid/sensebid/Audit$Verdict" "witness" "Ljava/lang/String;" (.ref wa)) [] := by
  refine Wk.enter pn_Verdict_init (fun p e s m below meth c T0 k X0 e0 => ?_)
  refine (Wk.Ends.cast (ef_viRR m o pa z wa) ?_)
  refine Wk.aload_n k X0 d_Verdict_init_0 rfl rfl 1 rfl ?_
  refine Wk.callI k X0 [] [] d_Verdict_init_1 (rm_re l Z a0 hw o _) e0 rfl (Wk.w hw 14 rfl) (Wk.w hw 15 rfl) (Wk.w hw 17 rfl) (Wk.w hw 18 rfl) (by decide) rfl pd_Record_init rfl rfl (Nat.le_of_ble_eq_true rfl) (Nat.le_of_ble_eq_true rfl) (Nat.le_of_ble_eq_true rfl) (Nat.le_of_ble_eq_true rfl) 4 rfl fun T1 v1 L1 X1 hQ1 => ?_
  obtain ⟨rfl, e1, rfl⟩ := hQ1
  rw [List.append_nil] at X1
  show Wk.Ends _ _ _ _ _ _ _ (mkF m 4 _ [])
  refine Wk.aload_n k X1 d_Verdict_init_4 rfl rfl 5 rfl ?_
  refine Wk.aload_n k X1 d_Verdict_init_5 rfl rfl 6 rfl ?_
  refine Wk.putfield k X1 d_Verdict_init_6 (host := "") (Or.inl (Wk.w hw 22 rfl)) Via.refl e1 F0 E0 (Or.inr ⟨(Wk.w hw 23 rfl), rfl, rfl⟩) (Wk.w hw 9 rfl) (ty := (.object "java/lang/String")) (by decide) rfl rfl 9 rfl fun T2 h2 X2 e2 W2 => ?_
  have N3 := Fr.snoc X2 (Fr.nil n0) g0
  have K4 := (Keep.refl h0 [o]).wr W2 (Or.inl (List.mem_of_getElem? (i := 0) rfl))
  have f5 := Exa.wr W2 E0
  have f6 := Fld.other W2 F1 (Or.inr (slot_ne (Or.inr (Wk.w hw 25 rfl)) (Or.inr (Wk.w hw 23 rfl)) (by decide) (t := .int) (t' := (.object "java/lang/String")) (by decide) (by decide)))
  have f7 := Fld.other W2 F2 (Or.inr (slot_ne (Or.inr (Wk.w hw 27 rfl)) (Or.inr (Wk.w hw 23 rfl)) (by decide) (t := (.object "java/lang/String")) (t' := (.object "java/lang/String")) (by decide) (by decide)))
  have f8 := Fld.same W2 F0
  refine Wk.aload_n k X2 d_Verdict_init_9 rfl rfl 10 rfl ?_
  refine Wk.iload_n k X2 d_Verdict_init_10 rfl 11 rfl ?_
  refine Wk.putfield k X2 d_Verdict_init_11 (host := "") (Or.inl (Wk.w hw 24 rfl)) Via.refl e2 f6 f5 (Or.inr ⟨(Wk.w hw 25 rfl), rfl, rfl⟩) (Wk.w hw 9 rfl) (ty := .int) (by decide) rfl rfl 14 rfl fun T9 h9 X9 e9 W9 => ?_
  have N10 := Fr.snoc X9 N3 g0
  have K11 := K4.wr W9 (Or.inl (List.mem_of_getElem? (i := 0) rfl))
  have f12 := Exa.wr W9 f5
  have f13 := Fld.other W9 f8 (Or.inr (slot_ne (Or.inr (Wk.w hw 23 rfl)) (Or.inr (Wk.w hw 25 rfl)) (by decide) (t := (.object "java/lang/String")) (t' := .int) (by decide) (by decide)))
  have f14 := Fld.other W9 f7 (Or.inr (slot_ne (Or.inr (Wk.w hw 27 rfl)) (Or.inr (Wk.w hw 25 rfl)) (by decide) (t := (.object "java/lang/String")) (t' := .int) (by decide) (by decide)))
  have f15 := Fld.same W9 f6
  refine Wk.aload_n k X9 d_Verdict_init_14 rfl rfl 15 rfl ?_
  refine Wk.aload_n k X9 d_Verdict_init_15 rfl rfl 16 rfl ?_
  refine Wk.putfield k X9 d_Verdict_init_16 (host := "") (Or.inl (Wk.w hw 26 rfl)) Via.refl e9 f14 f12 (Or.inr ⟨(Wk.w hw 27 rfl), rfl, rfl⟩) (Wk.w hw 9 rfl) (ty := (.object "java/lang/String")) (by decide) rfl rfl 19 rfl fun T16 h16 X16 e16 W16 => ?_
  have N17 := Fr.snoc X16 N10 g0
  have K18 := K11.wr W16 (Or.inl (List.mem_of_getElem? (i := 0) rfl))
  have f19 := Exa.wr W16 f12
  have f20 := Fld.other W16 f13 (Or.inr (slot_ne (Or.inr (Wk.w hw 23 rfl)) (Or.inr (Wk.w hw 27 rfl)) (by decide) (t := (.object "java/lang/String")) (t' := (.object "java/lang/String")) (by decide) (by decide)))
  have f21 := Fld.other W16 f15 (Or.inr (slot_ne (Or.inr (Wk.w hw 25 rfl)) (Or.inr (Wk.w hw 27 rfl)) (by decide) (t := .int) (t' := (.object "java/lang/String")) (by decide) (by decide)))
  have f22 := Fld.same W16 f14
  refine Wk.ret_void k X16 rfl d_Verdict_init_19 (by decide) (by decide) ?_
  rw [e16]
  exact ⟨rfl, N17, K18, f19, f22⟩
theorem d_Verdict_held_0 : decode prog_2_method_2_code 0 = .ok (.aload_n 0, 1) := by decide +kernel
theorem d_Verdict_held_1 : decode prog_2_method_2_code 1 = .ok (.getfield 17, 3) := by decide +kernel
theorem d_Verdict_held_4 : decode prog_2_method_2_code 4 = .ok (.ifnonnull 7, 3) := by decide +kernel
theorem d_Verdict_held_7 : decode prog_2_method_2_code 7 = .ok (.iconst 1, 1) := by decide +kernel
theorem d_Verdict_held_8 : decode prog_2_method_2_code 8 = .ok (.goto 4, 3) := by decide +kernel
theorem d_Verdict_held_11 : decode prog_2_method_2_code 11 = .ok (.iconst 0, 1) := by decide +kernel
theorem d_Verdict_held_12 : decode prog_2_method_2_code 12 = .ok (.ireturn, 1) := by decide +kernel
theorem pn_Verdict_held : plainFor (⟨"com/example/sensebid/sensebid/Audit$Verdict", "held", "()Z"⟩ : MethodName) = true := plainFor_of_name (by first | (simp [plainName, overriddenIn, x]; done) | decide +kernel)
theorem pd_Verdict_held : parseMethodDescriptor "()Z" = some ⟨[], (some .boolean)⟩ := by decide +kernel
theorem ef_heN (m : MethodId) (o : Addr) : entryFrame m #[(.ref o)] 1 = mkF m 0 #[.val (.ref o)] [] := by first | (simp [entryFrame, mkF, argsToLocals, Value.category]; done) | rfl
set_option maxRecDepth 65536 in
set_option maxHeartbeats 40000000 in
theorem rm_heN (l : Launch) (Z : State) (a0 : Array Value) (hw : ∀ d ∈ tables_1, d.before a0 Z = true) (o : Addr) (h0 : Heap) (F0 : Fld Z h0 o "com/example/sensebid/sensebid/Audit$Verdict" "witness" "Ljava/lang/String;" .null) : Wk.Met l (⟨"com/example/sensebid/sensebid/Audit$Verdict", "held", "()Z"⟩ : MethodName) prog_2_method_2_code 1 (some .boolean) ({ frames := 0, cells := 0, slots := 0, locals := 0 } : Room) #[(.ref o)] Z h0 (fun r h L => r = some (.int (1 : Int32)) ∧ h = h0 ∧ L = []) [] := by
  refine Wk.enter pn_Verdict_held (fun p e s m below meth c T0 k X0 e0 => ?_)
  refine (Wk.Ends.cast (ef_heN m o) ?_)
  refine Wk.aload_n k X0 d_Verdict_held_0 rfl rfl 1 rfl ?_
  refine Wk.getfield k X0 d_Verdict_held_1 (host := "") (Or.inl (Wk.w hw 26 rfl)) Via.refl e0 F0 4 rfl fun T1 X1 e1 => ?_
  refine Wk.ifnonnull_n k X1 d_Verdict_held_4 7 rfl ?_
  refine Wk.iconst k X1 d_Verdict_held_7 (1 : Int32) rfl 8 rfl ?_
  refine Wk.goto k X1 d_Verdict_held_8 (by decide) 12 (by decide) ?_
  exact Wk.ret_bool k X1 rfl d_Verdict_held_12 (by decide) (by decide) (by decide) ⟨rfl, e1, rfl⟩
theorem ef_heR (m : MethodId) (o : Addr) : entryFrame m #[(.ref o)] 1 = mkF m 0 #[.val (.ref o)] [] := by first | (simp [entryFrame, mkF, argsToLocals, Value.category]; done) | rfl
set_option maxRecDepth 65536 in
set_option maxHeartbeats 40000000 in
theorem rm_heR (l : Launch) (Z : State) (a0 : Array Value) (hw : ∀ d ∈ tables_1, d.before a0 Z = true) (o : Addr) (wa : Addr) (h0 : Heap) (F0 : Fld Z h0 o "com/example/sensebid/sensebid/Audit$Verdict" "witness" "Ljava/lang/String;" (.ref wa)) : Wk.Met l (⟨"com/example/sensebid/sensebid/Audit$Verdict", "held", "()Z"⟩ : MethodName) prog_2_method_2_code 1 (some .boolean) ({ frames := 0, cells := 0, slots := 0, locals := 0 } : Room) #[(.ref o)] Z h0 (fun r h L => r = some (.int (0 : Int32)) ∧ h = h0 ∧ L = []) [] := by
  refine Wk.enter pn_Verdict_held (fun p e s m below meth c T0 k X0 e0 => ?_)
  refine (Wk.Ends.cast (ef_heR m o) ?_)
  refine Wk.aload_n k X0 d_Verdict_held_0 rfl rfl 1 rfl ?_
  refine Wk.getfield k X0 d_Verdict_held_1 (host := "") (Or.inl (Wk.w hw 26 rfl)) Via.refl e0 F0 4 rfl fun T1 X1 e1 => ?_
  refine Wk.ifnonnull_y k X1 d_Verdict_held_4 (by decide) 11 (by decide) ?_
  refine Wk.iconst k X1 d_Verdict_held_11 (0 : Int32) rfl 12 rfl ?_
  exact Wk.ret_bool k X1 rfl d_Verdict_held_12 (by decide) (by decide) (by decide) ⟨rfl, e1, rfl⟩
theorem pn_VerdictHeldPinLaw_law : plainFor x = true := plainFor_of_name (by first | (simp [plainName, overriddenIn, x]; done) | decide +kernel)
theorem ef_law (m : MethodId) (p0 p1 p2 p3 p4 p5 : Int32) : entryFrame m #[(.int p0), (.int p1), (.int p2), (.int p3), (.int p4), (.int p5)] maxLocals = mkF m 0 #[.val (.int p0), .val (.int p1), .val (.int p2), .val (.int p3), .val (.int p4), .val (.int p5), .unset, .unset, .unset, .unset, .unset, .unset] [] := by first | (simp [entryFrame, mkF, argsToLocals, Value.category, maxLocals]; done) | rfl
set_option maxRecDepth 65536 in
set_option maxHeartbeats 40000000 in
theorem rm0 (l : Launch) (Z : State) (a0 : Array Value) (hw : ∀ d ∈ tables_1, d.before a0 Z = true) (ws : List Jvm.Cond) (p0 p1 p2 p3 p4 p5 : Int32) (h0 : Heap) (n0 : Nat) (Z0 : n0 ≤ h0.size) (hx0 : Old Z n0 h0 ∧ ∃ cz : Int32, ¬ cz = 0 ∧ Sta Z Z.heap "java/lang/String" "COMPACT_STRINGS" "Z" (.int cz)) : Ww.Met l x code maxLocals ret room_1 #[(.int p0), (.int p1), (.int p2), (.int p3), (.int p4), (.int p5)] Z h0 (fun v _ L => v = some (.int 1) ∧ Fr n0 L) ws := by
  obtain ⟨O0, cz, hcz, S0⟩ := hx0
  refine Ww.enter pn_VerdictHeldPinLaw_law (fun p e s0 vm0 kz0 m below meth c T0 k X0 e0 S0' hk0 => ?_)
  refine (Ww.Ends.cast (ef_law m p0 p1 p2 p3 p4 p5) ?_)
  refine Ww.iload_n k X0 at_0 rfl 1 rfl ?_
  refine Ww.iconst k X0 at_1 (1 : Int32) rfl 2 rfl ?_
  refine Ww.iand k X0 at_2 3 rfl ?_
  refine Ww.if_eq k X0 at_3 (by decide) 10 6 (by decide) rfl (fun hc3 => ?_) (fun hc3 => ?_)
  · refine Ww.iconst k X0 at_10 (0 : Int32) rfl 11 rfl ?_
    refine Ww.istore k X0 at_11 #[.val (.int p0), .val (.int p1), .val (.int p2), .val (.int p3), .val (.int p4), .val (.int p5), .val (.int (0 : Int32)), .unset, .unset, .unset, .unset, .unset] rfl 13 rfl ?_
    refine Ww.iload k X0 at_13 rfl 15 rfl ?_
    refine Ww.if_eq k X0 at_15 (by decide) 28 18 (by decide) rfl (fun _ => ?_) (fun hz => by first | exact absurd hz (by decide) | exact absurd (by decide) hz)
    refine Ww.aconst_null k X0 at_28 29 rfl ?_
    refine Ww.astore k X0 at_29 rfl #[.val (.int p0), .val (.int p1), .val (.int p2), .val (.int p3), .val (.int p4), .val (.int p5), .val (.int (0 : Int32)), .val .null, .unset, .unset, .unset, .unset] rfl 31 rfl ?_
    refine Ww.iload_n k X0 at_31 rfl 32 rfl ?_
    refine Ww.iconst k X0 at_32 (1 : Int32) rfl 33 rfl ?_
    refine Ww.ishr k X0 at_33 34 rfl ?_
    refine Ww.iconst k X0 at_34 (3 : Int32) rfl 35 rfl ?_
    refine Ww.iand k X0 at_35 36 rfl ?_
    refine Ww.istore k X0 at_36 #[.val (.int p0), .val (.int p1), .val (.int p2), .val (.int p3), .val (.int p4), .val (.int p5), .val (.int (0 : Int32)), .val .null, .val (.int ((p0 >>> ((1 : Int32) &&& 31)) &&& (3 : Int32))), .unset, .unset, .unset] rfl 38 rfl ?_
    refine Ww.iload k X0 at_38 rfl 40 rfl ?_
    refine Ww.if_ne k X0 at_40 (by decide) 50 43 (by decide) rfl (fun hc40 => ?_) (fun hc40 => ?_)
    · refine Ww.iload k X0 at_50 rfl 52 rfl ?_
      refine Ww.iconst k X0 at_52 (1 : Int32) rfl 53 rfl ?_
      refine Ww.icmp_ne k X0 at_53 (by decide) 63 56 (by decide) rfl (fun hc53 => ?_) (fun hc53 => ?_)
      · refine Ww.iload k X0 at_63 rfl 65 rfl ?_
        refine Ww.iconst k X0 at_65 (2 : Int32) rfl 66 rfl ?_
        refine Ww.icmp_ne k X0 at_66 (by decide) 81 69 (by decide) rfl (fun hc66 => ?_) (fun hc66 => ?_)
        · refine Ww.aconst_null k X0 at_81 82 rfl ?_
          refine Ww.astore k X0 at_82 rfl #[.val (.int p0), .val (.int p1), .val (.int p2), .val (.int p3), .val (.int p4), .val (.int p5), .val (.int (0 : Int32)), .val .null, .val (.int ((p0 >>> ((1 : Int32) &&& 31)) &&& (3 : Int32))), .val .null, .unset, .unset] rfl 84 rfl ?_
          refine Ww.new k X0 at_84 (Wk.w hw 8 rfl) (Wk.w hw 9 rfl) (Wk.w hw 10 rfl) e0 (by decide) (by decide) 87 rfl fun T1 h1 o q1 X1 e1 E1 A1 D1 => ?_
          have g1 : n0 ≤ o := by rw [q1]; exact Z0
          have hs2 : h0.size ≤ o := by rw [q1]; exact (Keep.refl h0 []).1
          have sz1 := Nat.le_trans Z0 E1.1
          have hk3 := Nat.le_trans hk0 E1.1
          have K4 := (Keep.refl h0 []).ext E1
          have f5 : Fld Z h1 o "com/example/sensebid/sensebid/Audit$Verdict" "promise" "Ljava/lang/String;" .null := D1 (Or.inr (Wk.w hw 23 rfl)) (ty := (.object "java/lang/String")) (by decide)
          have f6 : Fld Z h1 o "com/example/sensebid/sensebid/Audit$Verdict" "checked" "I" (.int (0 : Int32)) := D1 (Or.inr (Wk.w hw 25 rfl)) (ty := .int) (by decide)
          have f7 : Fld Z h1 o "com/example/sensebid/sensebid/Audit$Verdict" "witness" "Ljava/lang/String;" .null := D1 (Or.inr (Wk.w hw 27 rfl)) (ty := (.object "java/lang/String")) (by decide)
          refine Ww.dup k X1 at_87 rfl 88 rfl ?_
          refine Ww.aload k X1 at_88 rfl rfl 90 rfl ?_
          refine Ww.iload_n k X1 at_90 rfl 91 rfl ?_
          refine Ww.aload k X1 at_91 rfl rfl 93 rfl ?_
          refine Ww.callI k X1 [.null, (.int p1), .null] [(.ref o)] at_93 (rm_viNN l Z a0 hw o p1 _ _ _ h1 n0 g1 A1 f5 f6 f7) e1 rfl (Wk.w hw 11 rfl) (Wk.w hw 12 rfl) (Wk.w hw 10 rfl) (Wk.w hw 13 rfl) (by decide) rfl pd_Verdict_init rfl rfl (Nat.le_of_ble_eq_true rfl) (Nat.le_of_ble_eq_true rfl) (Nat.le_of_ble_eq_true rfl) (Nat.le_of_ble_eq_true rfl) 96 rfl fun T8 v8 L8 X8 hQ8 => ?_
          obtain ⟨rfl, N8q, K8q, E8, F8⟩ := hQ8
          show Ww.Ends _ _ _ _ _ _ _ (mkF m 96 _ [(.ref o)])
          have N8 := Fr.app (Fr.nil n0) N8q
          have hk9 := Nat.le_trans hk3 K8q.1
          have K10 := K4.trans K8q (allS (Or.inr hs2) all0)
          refine Ww.astore k X8 at_96 rfl #[.val (.int p0), .val (.int p1), .val (.int p2), .val (.int p3), .val (.int p4), .val (.int p5), .val (.int (0 : Int32)), .val .null, .val (.int ((p0 >>> ((1 : Int32) &&& 31)) &&& (3 : Int32))), .val .null, .val (.ref o), .unset] rfl 98 rfl ?_
          refine Ww.aload k X8 at_98 rfl rfl 100 rfl ?_
          refine Ww.callV k X8 [] [] at_100 (rm_heN l Z a0 hw o _ F8) (rfl : T8.heap = T8.heap) E8 (Wk.w hw 28 rfl) (Wk.w hw 29 rfl) (Wk.w hw 31 rfl) (Wk.w hw 30 rfl) (Wk.w hw 10 rfl) (Wk.w hw 32 rfl) (by decide) rfl pd_Verdict_held rfl rfl (Nat.le_of_ble_eq_true rfl) (Nat.le_of_ble_eq_true rfl) (Nat.le_of_ble_eq_true rfl) (Nat.le_of_ble_eq_true rfl) 103 rfl fun T11 v11 L11 X11 hQ11 => ?_
          obtain ⟨rfl, e11, rfl⟩ := hQ11
          rw [List.append_nil] at X11
          show Ww.Ends _ _ _ _ _ _ _ (mkF m 103 _ [(.int (1 : Int32))])
          refine Ww.istore k X11 at_103 #[.val (.int p0), .val (.int p1), .val (.int p2), .val (.int p3), .val (.int p4), .val (.int p5), .val (.int (0 : Int32)), .val .null, .val (.int ((p0 >>> ((1 : Int32) &&& 31)) &&& (3 : Int32))), .val .null, .val (.ref o), .val (.int (1 : Int32))] rfl 105 rfl ?_
          refine Ww.iload k X11 at_105 rfl 107 rfl ?_
          refine Ww.iload k X11 at_107 rfl 109 rfl ?_
          refine Ww.if_ne k X11 at_109 (by decide) 116 112 (by decide) rfl (fun hz => by first | exact absurd hz (by decide) | exact absurd (by decide) hz) (fun _ => ?_)
          refine Ww.iconst k X11 at_112 (1 : Int32) rfl 113 rfl ?_
          refine Ww.goto k X11 at_113 (by decide) 117 (by decide) ?_
          refine Ww.icmp_ne k X11 at_117 (by decide) 124 120 (by decide) rfl (fun hz => by first | exact absurd hz (by decide) | exact absurd (by decide) hz) (fun _ => ?_)
          refine Ww.iconst k X11 at_120 (1 : Int32) rfl 121 rfl ?_
          refine Ww.goto k X11 at_121 (by decide) 125 (by decide) ?_
          exact Ww.ret_bool k X11 S0' (Nat.le_trans hk9 (Nat.le_of_eq (congrArg (fun hh : Heap => hh.size) e11).symm)) rfl at_125 (by decide) (by decide) (by decide) ⟨rfl, N8⟩
        · refine Ww.iload k X0 at_69 rfl 71 rfl ?_
          refine Ww.iload_n k X0 at_71 rfl 72 rfl ?_
          refine Ww.iload_n k X0 at_72 rfl 73 rfl ?_
          have O12 := O0.keep (Keep.refl h0 []) all0
          refine Ww.callSW k X0 [(.int p5), (.int p3), (.int p2)] [] at_73 (rm_dr l Z a0 hw p5 p3 p2 h0 n0 Z0 cz hcz O12 S0) e0 S0' hk0 (Wk.w hw 33 rfl) (Wk.w hw 34 rfl) (Wk.w hw 35 rfl) (Wk.w hw 36 rfl) (by decide) rfl pd_VerdictHeldPinLaw_drawn rfl rfl (Nat.le_of_ble_eq_true rfl) (Nat.le_of_ble_eq_true rfl) (Nat.le_of_ble_eq_true rfl) (Nat.le_of_ble_eq_true rfl) 76 rfl fun vm12 kz12 T12 v12 L12 kn12 X12 S12 hk12 hQ12 => ?_
          obtain ⟨w12, rfl, N12q, K12q⟩ := hQ12
          show Ww.Ends _ _ _ _ _ _ _ (mkF m 76 _ [(.ref w12)])
          have N12 := Fr.app (Fr.nil n0) N12q
          have sz12 := Nat.le_trans Z0 K12q.1
          have K13 := (Keep.refl h0 []).trans K12q all0
          refine Ww.astore kn12 X12 at_76 rfl #[.val (.int p0), .val (.int p1), .val (.int p2), .val (.int p3), .val (.int p4), .val (.int p5), .val (.int (0 : Int32)), .val .null, .val (.int ((p0 >>> ((1 : Int32) &&& 31)) &&& (3 : Int32))), .val (.ref w12), .unset, .unset] rfl 78 rfl ?_
          refine Ww.goto kn12 X12 at_78 (by decide) 84 (by decide) ?_
          refine Ww.new kn12 X12 at_84 (Wk.w hw 8 rfl) (Wk.w hw 9 rfl) (Wk.w hw 10 rfl) (rfl : T12.heap = T12.heap) (by decide) (by decide) 87 rfl fun T14 h14 o q14 X14 e14 E14 A14 D14 => ?_
          have g14 : n0 ≤ o := by rw [q14]; exact sz12
          have hs15 : h0.size ≤ o := by rw [q14]; exact K13.1
          have sz14 := Nat.le_trans sz12 E14.1
          have hk16 := Nat.le_trans hk12 E14.1
          have K17 := K13.ext E14
          have f18 : Fld Z h14 o "com/example/sensebid/sensebid/Audit$Verdict" "promise" "Ljava/lang/String;" .null := D14 (Or.inr (Wk.w hw 23 rfl)) (ty := (.object "java/lang/String")) (by decide)
          have f19 : Fld Z h14 o "com/example/sensebid/sensebid/Audit$Verdict" "checked" "I" (.int (0 : Int32)) := D14 (Or.inr (Wk.w hw 25 rfl)) (ty := .int) (by decide)
          have f20 : Fld Z h14 o "com/example/sensebid/sensebid/Audit$Verdict" "witness" "Ljava/lang/String;" .null := D14 (Or.inr (Wk.w hw 27 rfl)) (ty := (.object "java/lang/String")) (by decide)
          refine Ww.dup kn12 X14 at_87 rfl 88 rfl ?_
          refine Ww.aload kn12 X14 at_88 rfl rfl 90 rfl ?_
          refine Ww.iload_n kn12 X14 at_90 rfl 91 rfl ?_
          refine Ww.aload kn12 X14 at_91 rfl rfl 93 rfl ?_
          refine Ww.callI kn12 X14 [(.ref w12), (.int p1), .null] [(.ref o)] at_93 (rm_viRN l Z a0 hw o w12 p1 _ _ _ h14 n0 g14 A14 f18 f19 f20) e14 rfl (Wk.w hw 11 rfl) (Wk.w hw 12 rfl) (Wk.w hw 10 rfl) (Wk.w hw 13 rfl) (by decide) rfl pd_Verdict_init rfl rfl (Nat.le_of_ble_eq_true rfl) (Nat.le_of_ble_eq_true rfl) (Nat.le_of_ble_eq_true rfl) (Nat.le_of_ble_eq_true rfl) 96 rfl fun T21 v21 L21 X21 hQ21 => ?_
          obtain ⟨rfl, N21q, K21q, E21, F21⟩ := hQ21
          show Ww.Ends _ _ _ _ _ _ _ (mkF m 96 _ [(.ref o)])
          have N21 := Fr.app N12 N21q
          have hk22 := Nat.le_trans hk16 K21q.1
          have K23 := K17.trans K21q (allS (Or.inr hs15) all0)
          refine Ww.astore kn12 X21 at_96 rfl #[.val (.int p0), .val (.int p1), .val (.int p2), .val (.int p3), .val (.int p4), .val (.int p5), .val (.int (0 : Int32)), .val .null, .val (.int ((p0 >>> ((1 : Int32) &&& 31)) &&& (3 : Int32))), .val (.ref w12), .val (.ref o), .unset] rfl 98 rfl ?_
          refine Ww.aload kn12 X21 at_98 rfl rfl 100 rfl ?_
          refine Ww.callV kn12 X21 [] [] at_100 (rm_heN l Z a0 hw o _ F21) (rfl : T21.heap = T21.heap) E21 (Wk.w hw 28 rfl) (Wk.w hw 29 rfl) (Wk.w hw 31 rfl) (Wk.w hw 30 rfl) (Wk.w hw 10 rfl) (Wk.w hw 32 rfl) (by decide) rfl pd_Verdict_held rfl rfl (Nat.le_of_ble_eq_true rfl) (Nat.le_of_ble_eq_true rfl) (Nat.le_of_ble_eq_true rfl) (Nat.le_of_ble_eq_true rfl) 103 rfl fun T24 v24 L24 X24 hQ24 => ?_
          obtain ⟨rfl, e24, rfl⟩ := hQ24
          rw [List.append_nil] at X24
          show Ww.Ends _ _ _ _ _ _ _ (mkF m 103 _ [(.int (1 : Int32))])
          refine Ww.istore kn12 X24 at_103 #[.val (.int p0), .val (.int p1), .val (.int p2), .val (.int p3), .val (.int p4), .val (.int p5), .val (.int (0 : Int32)), .val .null, .val (.int ((p0 >>> ((1 : Int32) &&& 31)) &&& (3 : Int32))), .val (.ref w12), .val (.ref o), .val (.int (1 : Int32))] rfl 105 rfl ?_
          refine Ww.iload kn12 X24 at_105 rfl 107 rfl ?_
          refine Ww.iload kn12 X24 at_107 rfl 109 rfl ?_
          refine Ww.if_ne kn12 X24 at_109 (by decide) 116 112 (by decide) rfl (fun hz => by first | exact absurd hz (by decide) | exact absurd (by decide) hz) (fun _ => ?_)
          refine Ww.iconst kn12 X24 at_112 (1 : Int32) rfl 113 rfl ?_
          refine Ww.goto kn12 X24 at_113 (by decide) 117 (by decide) ?_
          refine Ww.icmp_ne kn12 X24 at_117 (by decide) 124 120 (by decide) rfl (fun hz => by first | exact absurd hz (by decide) | exact absurd (by decide) hz) (fun _ => ?_)
          refine Ww.iconst kn12 X24 at_120 (1 : Int32) rfl 121 rfl ?_
          refine Ww.goto kn12 X24 at_121 (by decide) 125 (by decide) ?_
          exact Ww.ret_bool kn12 X24 S12 (Nat.le_trans hk22 (Nat.le_of_eq (congrArg (fun hh : Heap => hh.size) e24).symm)) rfl at_125 (by decide) (by decide) (by decide) ⟨rfl, N21⟩
      · refine Ww.ldcS k X0 (text := "truthfulness") at_56 (Wk.w hw 74 rfl) (own_wS hw) e0 S0' hk0 48 (by decide) (by decide) (by decide) (by decide) 58 rfl fun b25 vm25 kz25 T25 h25 kn25 X25 e25 E25 S25 hk25 => ?_
        have sz25 := Nat.le_trans Z0 E25.1
        have K26 := (Keep.refl h0 []).ext E25
        refine Ww.astore kn25 X25 at_58 rfl #[.val (.int p0), .val (.int p1), .val (.int p2), .val (.int p3), .val (.int p4), .val (.int p5), .val (.int (0 : Int32)), .val .null, .val (.int ((p0 >>> ((1 : Int32) &&& 31)) &&& (3 : Int32))), .val (.ref b25), .unset, .unset] rfl 60 rfl ?_
        refine Ww.goto kn25 X25 at_60 (by decide) 84 (by decide) ?_
        refine Ww.new kn25 X25 at_84 (Wk.w hw 8 rfl) (Wk.w hw 9 rfl) (Wk.w hw 10 rfl) e25 (by decide) (by decide) 87 rfl fun T27 h27 o q27 X27 e27 E27 A27 D27 => ?_
        have g27 : n0 ≤ o := by rw [q27]; exact sz25
        have hs28 : h0.size ≤ o := by rw [q27]; exact K26.1
        have sz27 := Nat.le_trans sz25 E27.1
        have hk29 := Nat.le_trans hk25 E27.1
        have K30 := K26.ext E27
        have f31 : Fld Z h27 o "com/example/sensebid/sensebid/Audit$Verdict" "promise" "Ljava/lang/String;" .null := D27 (Or.inr (Wk.w hw 23 rfl)) (ty := (.object "java/lang/String")) (by decide)
        have f32 : Fld Z h27 o "com/example/sensebid/sensebid/Audit$Verdict" "checked" "I" (.int (0 : Int32)) := D27 (Or.inr (Wk.w hw 25 rfl)) (ty := .int) (by decide)
        have f33 : Fld Z h27 o "com/example/sensebid/sensebid/Audit$Verdict" "witness" "Ljava/lang/String;" .null := D27 (Or.inr (Wk.w hw 27 rfl)) (ty := (.object "java/lang/String")) (by decide)
        refine Ww.dup kn25 X27 at_87 rfl 88 rfl ?_
        refine Ww.aload kn25 X27 at_88 rfl rfl 90 rfl ?_
        refine Ww.iload_n kn25 X27 at_90 rfl 91 rfl ?_
        refine Ww.aload kn25 X27 at_91 rfl rfl 93 rfl ?_
        refine Ww.callI kn25 X27 [(.ref b25), (.int p1), .null] [(.ref o)] at_93 (rm_viRN l Z a0 hw o b25 p1 _ _ _ h27 n0 g27 A27 f31 f32 f33) e27 rfl (Wk.w hw 11 rfl) (Wk.w hw 12 rfl) (Wk.w hw 10 rfl) (Wk.w hw 13 rfl) (by decide) rfl pd_Verdict_init rfl rfl (Nat.le_of_ble_eq_true rfl) (Nat.le_of_ble_eq_true rfl) (Nat.le_of_ble_eq_true rfl) (Nat.le_of_ble_eq_true rfl) 96 rfl fun T34 v34 L34 X34 hQ34 => ?_
        obtain ⟨rfl, N34q, K34q, E34, F34⟩ := hQ34
        show Ww.Ends _ _ _ _ _ _ _ (mkF m 96 _ [(.ref o)])
        have N34 := Fr.app (Fr.nil n0) N34q
        have hk35 := Nat.le_trans hk29 K34q.1
        have K36 := K30.trans K34q (allS (Or.inr hs28) all0)
        refine Ww.astore kn25 X34 at_96 rfl #[.val (.int p0), .val (.int p1), .val (.int p2), .val (.int p3), .val (.int p4), .val (.int p5), .val (.int (0 : Int32)), .val .null, .val (.int ((p0 >>> ((1 : Int32) &&& 31)) &&& (3 : Int32))), .val (.ref b25), .val (.ref o), .unset] rfl 98 rfl ?_
        refine Ww.aload kn25 X34 at_98 rfl rfl 100 rfl ?_
        refine Ww.callV kn25 X34 [] [] at_100 (rm_heN l Z a0 hw o _ F34) (rfl : T34.heap = T34.heap) E34 (Wk.w hw 28 rfl) (Wk.w hw 29 rfl) (Wk.w hw 31 rfl) (Wk.w hw 30 rfl) (Wk.w hw 10 rfl) (Wk.w hw 32 rfl) (by decide) rfl pd_Verdict_held rfl rfl (Nat.le_of_ble_eq_true rfl) (Nat.le_of_ble_eq_true rfl) (Nat.le_of_ble_eq_true rfl) (Nat.le_of_ble_eq_true rfl) 103 rfl fun T37 v37 L37 X37 hQ37 => ?_
        obtain ⟨rfl, e37, rfl⟩ := hQ37
        rw [List.append_nil] at X37
        show Ww.Ends _ _ _ _ _ _ _ (mkF m 103 _ [(.int (1 : Int32))])
        refine Ww.istore kn25 X37 at_103 #[.val (.int p0), .val (.int p1), .val (.int p2), .val (.int p3), .val (.int p4), .val (.int p5), .val (.int (0 : Int32)), .val .null, .val (.int ((p0 >>> ((1 : Int32) &&& 31)) &&& (3 : Int32))), .val (.ref b25), .val (.ref o), .val (.int (1 : Int32))] rfl 105 rfl ?_
        refine Ww.iload kn25 X37 at_105 rfl 107 rfl ?_
        refine Ww.iload kn25 X37 at_107 rfl 109 rfl ?_
        refine Ww.if_ne kn25 X37 at_109 (by decide) 116 112 (by decide) rfl (fun hz => by first | exact absurd hz (by decide) | exact absurd (by decide) hz) (fun _ => ?_)
        refine Ww.iconst kn25 X37 at_112 (1 : Int32) rfl 113 rfl ?_
        refine Ww.goto kn25 X37 at_113 (by decide) 117 (by decide) ?_
        refine Ww.icmp_ne kn25 X37 at_117 (by decide) 124 120 (by decide) rfl (fun hz => by first | exact absurd hz (by decide) | exact absurd (by decide) hz) (fun _ => ?_)
        refine Ww.iconst kn25 X37 at_120 (1 : Int32) rfl 121 rfl ?_
        refine Ww.goto kn25 X37 at_121 (by decide) 125 (by decide) ?_
        exact Ww.ret_bool kn25 X37 S25 (Nat.le_trans hk35 (Nat.le_of_eq (congrArg (fun hh : Heap => hh.size) e37).symm)) rfl at_125 (by decide) (by decide) (by decide) ⟨rfl, N34⟩
    · refine Ww.ldcS k X0 (text := "coverage") at_43 (Wk.w hw 0 rfl) (own_wS hw) e0 S0' hk0 32 (by decide) (by decide) (by decide) (by decide) 45 rfl fun b38 vm38 kz38 T38 h38 kn38 X38 e38 E38 S38 hk38 => ?_
      have sz38 := Nat.le_trans Z0 E38.1
      have K39 := (Keep.refl h0 []).ext E38
      refine Ww.astore kn38 X38 at_45 rfl #[.val (.int p0), .val (.int p1), .val (.int p2), .val (.int p3), .val (.int p4), .val (.int p5), .val (.int (0 : Int32)), .val .null, .val (.int ((p0 >>> ((1 : Int32) &&& 31)) &&& (3 : Int32))), .val (.ref b38), .unset, .unset] rfl 47 rfl ?_
      refine Ww.goto kn38 X38 at_47 (by decide) 84 (by decide) ?_
      refine Ww.new kn38 X38 at_84 (Wk.w hw 8 rfl) (Wk.w hw 9 rfl) (Wk.w hw 10 rfl) e38 (by decide) (by decide) 87 rfl fun T40 h40 o q40 X40 e40 E40 A40 D40 => ?_
      have g40 : n0 ≤ o := by rw [q40]; exact sz38
      have hs41 : h0.size ≤ o := by rw [q40]; exact K39.1
      have sz40 := Nat.le_trans sz38 E40.1
      have hk42 := Nat.le_trans hk38 E40.1
      have K43 := K39.ext E40
      have f44 : Fld Z h40 o "com/example/sensebid/sensebid/Audit$Verdict" "promise" "Ljava/lang/String;" .null := D40 (Or.inr (Wk.w hw 23 rfl)) (ty := (.object "java/lang/String")) (by decide)
      have f45 : Fld Z h40 o "com/example/sensebid/sensebid/Audit$Verdict" "checked" "I" (.int (0 : Int32)) := D40 (Or.inr (Wk.w hw 25 rfl)) (ty := .int) (by decide)
      have f46 : Fld Z h40 o "com/example/sensebid/sensebid/Audit$Verdict" "witness" "Ljava/lang/String;" .null := D40 (Or.inr (Wk.w hw 27 rfl)) (ty := (.object "java/lang/String")) (by decide)
      refine Ww.dup kn38 X40 at_87 rfl 88 rfl ?_
      refine Ww.aload kn38 X40 at_88 rfl rfl 90 rfl ?_
      refine Ww.iload_n kn38 X40 at_90 rfl 91 rfl ?_
      refine Ww.aload kn38 X40 at_91 rfl rfl 93 rfl ?_
      refine Ww.callI kn38 X40 [(.ref b38), (.int p1), .null] [(.ref o)] at_93 (rm_viRN l Z a0 hw o b38 p1 _ _ _ h40 n0 g40 A40 f44 f45 f46) e40 rfl (Wk.w hw 11 rfl) (Wk.w hw 12 rfl) (Wk.w hw 10 rfl) (Wk.w hw 13 rfl) (by decide) rfl pd_Verdict_init rfl rfl (Nat.le_of_ble_eq_true rfl) (Nat.le_of_ble_eq_true rfl) (Nat.le_of_ble_eq_true rfl) (Nat.le_of_ble_eq_true rfl) 96 rfl fun T47 v47 L47 X47 hQ47 => ?_
      obtain ⟨rfl, N47q, K47q, E47, F47⟩ := hQ47
      show Ww.Ends _ _ _ _ _ _ _ (mkF m 96 _ [(.ref o)])
      have N47 := Fr.app (Fr.nil n0) N47q
      have hk48 := Nat.le_trans hk42 K47q.1
      have K49 := K43.trans K47q (allS (Or.inr hs41) all0)
      refine Ww.astore kn38 X47 at_96 rfl #[.val (.int p0), .val (.int p1), .val (.int p2), .val (.int p3), .val (.int p4), .val (.int p5), .val (.int (0 : Int32)), .val .null, .val (.int ((p0 >>> ((1 : Int32) &&& 31)) &&& (3 : Int32))), .val (.ref b38), .val (.ref o), .unset] rfl 98 rfl ?_
      refine Ww.aload kn38 X47 at_98 rfl rfl 100 rfl ?_
      refine Ww.callV kn38 X47 [] [] at_100 (rm_heN l Z a0 hw o _ F47) (rfl : T47.heap = T47.heap) E47 (Wk.w hw 28 rfl) (Wk.w hw 29 rfl) (Wk.w hw 31 rfl) (Wk.w hw 30 rfl) (Wk.w hw 10 rfl) (Wk.w hw 32 rfl) (by decide) rfl pd_Verdict_held rfl rfl (Nat.le_of_ble_eq_true rfl) (Nat.le_of_ble_eq_true rfl) (Nat.le_of_ble_eq_true rfl) (Nat.le_of_ble_eq_true rfl) 103 rfl fun T50 v50 L50 X50 hQ50 => ?_
      obtain ⟨rfl, e50, rfl⟩ := hQ50
      rw [List.append_nil] at X50
      show Ww.Ends _ _ _ _ _ _ _ (mkF m 103 _ [(.int (1 : Int32))])
      refine Ww.istore kn38 X50 at_103 #[.val (.int p0), .val (.int p1), .val (.int p2), .val (.int p3), .val (.int p4), .val (.int p5), .val (.int (0 : Int32)), .val .null, .val (.int ((p0 >>> ((1 : Int32) &&& 31)) &&& (3 : Int32))), .val (.ref b38), .val (.ref o), .val (.int (1 : Int32))] rfl 105 rfl ?_
      refine Ww.iload kn38 X50 at_105 rfl 107 rfl ?_
      refine Ww.iload kn38 X50 at_107 rfl 109 rfl ?_
      refine Ww.if_ne kn38 X50 at_109 (by decide) 116 112 (by decide) rfl (fun hz => by first | exact absurd hz (by decide) | exact absurd (by decide) hz) (fun _ => ?_)
      refine Ww.iconst kn38 X50 at_112 (1 : Int32) rfl 113 rfl ?_
      refine Ww.goto kn38 X50 at_113 (by decide) 117 (by decide) ?_
      refine Ww.icmp_ne kn38 X50 at_117 (by decide) 124 120 (by decide) rfl (fun hz => by first | exact absurd hz (by decide) | exact absurd (by decide) hz) (fun _ => ?_)
      refine Ww.iconst kn38 X50 at_120 (1 : Int32) rfl 121 rfl ?_
      refine Ww.goto kn38 X50 at_121 (by decide) 125 (by decide) ?_
      exact Ww.ret_bool kn38 X50 S38 (Nat.le_trans hk48 (Nat.le_of_eq (congrArg (fun hh : Heap => hh.size) e50).symm)) rfl at_125 (by decide) (by decide) (by decide) ⟨rfl, N47⟩
  · refine Ww.iconst k X0 at_6 (1 : Int32) rfl 7 rfl ?_
    refine Ww.goto k X0 at_7 (by decide) 11 (by decide) ?_
    refine Ww.istore k X0 at_11 #[.val (.int p0), .val (.int p1), .val (.int p2), .val (.int p3), .val (.int p4), .val (.int p5), .val (.int (1 : Int32)), .unset, .unset, .unset, .unset, .unset] rfl 13 rfl ?_
    refine Ww.iload k X0 at_13 rfl 15 rfl ?_
    refine Ww.if_eq k X0 at_15 (by decide) 28 18 (by decide) rfl (fun hz => by first | exact absurd hz (by decide) | exact absurd (by decide) hz) (fun _ => ?_)
    refine Ww.iload k X0 at_18 rfl 20 rfl ?_
    refine Ww.iload_n k X0 at_20 rfl 21 rfl ?_
    refine Ww.iload_n k X0 at_21 rfl 22 rfl ?_
    have O51 := O0.keep (Keep.refl h0 []) all0
    refine Ww.callSW k X0 [(.int p4), (.int p2), (.int p3)] [] at_22 (rm_dr l Z a0 hw p4 p2 p3 h0 n0 Z0 cz hcz O51 S0) e0 S0' hk0 (Wk.w hw 33 rfl) (Wk.w hw 34 rfl) (Wk.w hw 35 rfl) (Wk.w hw 36 rfl) (by decide) rfl pd_VerdictHeldPinLaw_drawn rfl rfl (Nat.le_of_ble_eq_true rfl) (Nat.le_of_ble_eq_true rfl) (Nat.le_of_ble_eq_true rfl) (Nat.le_of_ble_eq_true rfl) 25 rfl fun vm51 kz51 T51 v51 L51 kn51 X51 S51 hk51 hQ51 => ?_
    obtain ⟨w51, rfl, N51q, K51q⟩ := hQ51
    show Ww.Ends _ _ _ _ _ _ _ (mkF m 25 _ [(.ref w51)])
    have N51 := Fr.app (Fr.nil n0) N51q
    have sz51 := Nat.le_trans Z0 K51q.1
    have K52 := (Keep.refl h0 []).trans K51q all0
    refine Ww.goto kn51 X51 at_25 (by decide) 29 (by decide) ?_
    refine Ww.astore kn51 X51 at_29 rfl #[.val (.int p0), .val (.int p1), .val (.int p2), .val (.int p3), .val (.int p4), .val (.int p5), .val (.int (1 : Int32)), .val (.ref w51), .unset, .unset, .unset, .unset] rfl 31 rfl ?_
    refine Ww.iload_n kn51 X51 at_31 rfl 32 rfl ?_
    refine Ww.iconst kn51 X51 at_32 (1 : Int32) rfl 33 rfl ?_
    refine Ww.ishr kn51 X51 at_33 34 rfl ?_
    refine Ww.iconst kn51 X51 at_34 (3 : Int32) rfl 35 rfl ?_
    refine Ww.iand kn51 X51 at_35 36 rfl ?_
    refine Ww.istore kn51 X51 at_36 #[.val (.int p0), .val (.int p1), .val (.int p2), .val (.int p3), .val (.int p4), .val (.int p5), .val (.int (1 : Int32)), .val (.ref w51), .val (.int ((p0 >>> ((1 : Int32) &&& 31)) &&& (3 : Int32))), .unset, .unset, .unset] rfl 38 rfl ?_
    refine Ww.iload kn51 X51 at_38 rfl 40 rfl ?_
    refine Ww.if_ne kn51 X51 at_40 (by decide) 50 43 (by decide) rfl (fun hc40 => ?_) (fun hc40 => ?_)
    · refine Ww.iload kn51 X51 at_50 rfl 52 rfl ?_
      refine Ww.iconst kn51 X51 at_52 (1 : Int32) rfl 53 rfl ?_
      refine Ww.icmp_ne kn51 X51 at_53 (by decide) 63 56 (by decide) rfl (fun hc53 => ?_) (fun hc53 => ?_)
      · refine Ww.iload kn51 X51 at_63 rfl 65 rfl ?_
        refine Ww.iconst kn51 X51 at_65 (2 : Int32) rfl 66 rfl ?_
        refine Ww.icmp_ne kn51 X51 at_66 (by decide) 81 69 (by decide) rfl (fun hc66 => ?_) (fun hc66 => ?_)
        · refine Ww.aconst_null kn51 X51 at_81 82 rfl ?_
          refine Ww.astore kn51 X51 at_82 rfl #[.val (.int p0), .val (.int p1), .val (.int p2), .val (.int p3), .val (.int p4), .val (.int p5), .val (.int (1 : Int32)), .val (.ref w51), .val (.int ((p0 >>> ((1 : Int32) &&& 31)) &&& (3 : Int32))), .val .null, .unset, .unset] rfl 84 rfl ?_
          refine Ww.new kn51 X51 at_84 (Wk.w hw 8 rfl) (Wk.w hw 9 rfl) (Wk.w hw 10 rfl) (rfl : T51.heap = T51.heap) (by decide) (by decide) 87 rfl fun T53 h53 o q53 X53 e53 E53 A53 D53 => ?_
          have g53 : n0 ≤ o := by rw [q53]; exact sz51
          have hs54 : h0.size ≤ o := by rw [q53]; exact K52.1
          have sz53 := Nat.le_trans sz51 E53.1
          have hk55 := Nat.le_trans hk51 E53.1
          have K56 := K52.ext E53
          have f57 : Fld Z h53 o "com/example/sensebid/sensebid/Audit$Verdict" "promise" "Ljava/lang/String;" .null := D53 (Or.inr (Wk.w hw 23 rfl)) (ty := (.object "java/lang/String")) (by decide)
          have f58 : Fld Z h53 o "com/example/sensebid/sensebid/Audit$Verdict" "checked" "I" (.int (0 : Int32)) := D53 (Or.inr (Wk.w hw 25 rfl)) (ty := .int) (by decide)
          have f59 : Fld Z h53 o "com/example/sensebid/sensebid/Audit$Verdict" "witness" "Ljava/lang/String;" .null := D53 (Or.inr (Wk.w hw 27 rfl)) (ty := (.object "java/lang/String")) (by decide)
          refine Ww.dup kn51 X53 at_87 rfl 88 rfl ?_
          refine Ww.aload kn51 X53 at_88 rfl rfl 90 rfl ?_
          refine Ww.iload_n kn51 X53 at_90 rfl 91 rfl ?_
          refine Ww.aload kn51 X53 at_91 rfl rfl 93 rfl ?_
          refine Ww.callI kn51 X53 [.null, (.int p1), (.ref w51)] [(.ref o)] at_93 (rm_viNR l Z a0 hw o p1 w51 _ _ _ h53 n0 g53 A53 f57 f58 f59) e53 rfl (Wk.w hw 11 rfl) (Wk.w hw 12 rfl) (Wk.w hw 10 rfl) (Wk.w hw 13 rfl) (by decide) rfl pd_Verdict_init rfl rfl (Nat.le_of_ble_eq_true rfl) (Nat.le_of_ble_eq_true rfl) (Nat.le_of_ble_eq_true rfl) (Nat.le_of_ble_eq_true rfl) 96 rfl fun T60 v60 L60 X60 hQ60 => ?_
          obtain ⟨rfl, N60q, K60q, E60, F60⟩ := hQ60
          show Ww.Ends _ _ _ _ _ _ _ (mkF m 96 _ [(.ref o)])
          have N60 := Fr.app N51 N60q
          have hk61 := Nat.le_trans hk55 K60q.1
          have K62 := K56.trans K60q (allS (Or.inr hs54) all0)
          refine Ww.astore kn51 X60 at_96 rfl #[.val (.int p0), .val (.int p1), .val (.int p2), .val (.int p3), .val (.int p4), .val (.int p5), .val (.int (1 : Int32)), .val (.ref w51), .val (.int ((p0 >>> ((1 : Int32) &&& 31)) &&& (3 : Int32))), .val .null, .val (.ref o), .unset] rfl 98 rfl ?_
          refine Ww.aload kn51 X60 at_98 rfl rfl 100 rfl ?_
          refine Ww.callV kn51 X60 [] [] at_100 (rm_heR l Z a0 hw o w51 _ F60) (rfl : T60.heap = T60.heap) E60 (Wk.w hw 28 rfl) (Wk.w hw 29 rfl) (Wk.w hw 31 rfl) (Wk.w hw 30 rfl) (Wk.w hw 10 rfl) (Wk.w hw 32 rfl) (by decide) rfl pd_Verdict_held rfl rfl (Nat.le_of_ble_eq_true rfl) (Nat.le_of_ble_eq_true rfl) (Nat.le_of_ble_eq_true rfl) (Nat.le_of_ble_eq_true rfl) 103 rfl fun T63 v63 L63 X63 hQ63 => ?_
          obtain ⟨rfl, e63, rfl⟩ := hQ63
          rw [List.append_nil] at X63
          show Ww.Ends _ _ _ _ _ _ _ (mkF m 103 _ [(.int (0 : Int32))])
          refine Ww.istore kn51 X63 at_103 #[.val (.int p0), .val (.int p1), .val (.int p2), .val (.int p3), .val (.int p4), .val (.int p5), .val (.int (1 : Int32)), .val (.ref w51), .val (.int ((p0 >>> ((1 : Int32) &&& 31)) &&& (3 : Int32))), .val .null, .val (.ref o), .val (.int (0 : Int32))] rfl 105 rfl ?_
          refine Ww.iload kn51 X63 at_105 rfl 107 rfl ?_
          refine Ww.iload kn51 X63 at_107 rfl 109 rfl ?_
          refine Ww.if_ne kn51 X63 at_109 (by decide) 116 112 (by decide) rfl (fun _ => ?_) (fun hz => by first | exact absurd hz (by decide) | exact absurd (by decide) hz)
          refine Ww.iconst kn51 X63 at_116 (0 : Int32) rfl 117 rfl ?_
          refine Ww.icmp_ne kn51 X63 at_117 (by decide) 124 120 (by decide) rfl (fun hz => by first | exact absurd hz (by decide) | exact absurd (by decide) hz) (fun _ => ?_)
          refine Ww.iconst kn51 X63 at_120 (1 : Int32) rfl 121 rfl ?_
          refine Ww.goto kn51 X63 at_121 (by decide) 125 (by decide) ?_
          exact Ww.ret_bool kn51 X63 S51 (Nat.le_trans hk61 (Nat.le_of_eq (congrArg (fun hh : Heap => hh.size) e63).symm)) rfl at_125 (by decide) (by decide) (by decide) ⟨rfl, N60⟩
        · refine Ww.iload kn51 X51 at_69 rfl 71 rfl ?_
          refine Ww.iload_n kn51 X51 at_71 rfl 72 rfl ?_
          refine Ww.iload_n kn51 X51 at_72 rfl 73 rfl ?_
          have O64 := O0.keep K52 all0
          refine Ww.callSW kn51 X51 [(.int p5), (.int p3), (.int p2)] [] at_73 (rm_dr l Z a0 hw p5 p3 p2 T51.heap n0 sz51 cz hcz O64 S0) (rfl : T51.heap = T51.heap) S51 hk51 (Wk.w hw 33 rfl) (Wk.w hw 34 rfl) (Wk.w hw 35 rfl) (Wk.w hw 36 rfl) (by decide) rfl pd_VerdictHeldPinLaw_drawn rfl rfl (Nat.le_of_ble_eq_true rfl) (Nat.le_of_ble_eq_true rfl) (Nat.le_of_ble_eq_true rfl) (Nat.le_of_ble_eq_true rfl) 76 rfl fun vm64 kz64 T64 v64 L64 kn64 X64 S64 hk64 hQ64 => ?_
          obtain ⟨w64, rfl, N64q, K64q⟩ := hQ64
          show Ww.Ends _ _ _ _ _ _ _ (mkF m 76 _ [(.ref w64)])
          have N64 := Fr.app N51 N64q
          have sz64 := Nat.le_trans sz51 K64q.1
          have K65 := K52.trans K64q all0
          refine Ww.astore kn64 X64 at_76 rfl #[.val (.int p0), .val (.int p1), .val (.int p2), .val (.int p3), .val (.int p4), .val (.int p5), .val (.int (1 : Int32)), .val (.ref w51), .val (.int ((p0 >>> ((1 : Int32) &&& 31)) &&& (3 : Int32))), .val (.ref w64), .unset, .unset] rfl 78 rfl ?_
          refine Ww.goto kn64 X64 at_78 (by decide) 84 (by decide) ?_
          refine Ww.new kn64 X64 at_84 (Wk.w hw 8 rfl) (Wk.w hw 9 rfl) (Wk.w hw 10 rfl) (rfl : T64.heap = T64.heap) (by decide) (by decide) 87 rfl fun T66 h66 o q66 X66 e66 E66 A66 D66 => ?_
          have g66 : n0 ≤ o := by rw [q66]; exact sz64
          have hs67 : h0.size ≤ o := by rw [q66]; exact K65.1
          have sz66 := Nat.le_trans sz64 E66.1
          have hk68 := Nat.le_trans hk64 E66.1
          have K69 := K65.ext E66
          have f70 : Fld Z h66 o "com/example/sensebid/sensebid/Audit$Verdict" "promise" "Ljava/lang/String;" .null := D66 (Or.inr (Wk.w hw 23 rfl)) (ty := (.object "java/lang/String")) (by decide)
          have f71 : Fld Z h66 o "com/example/sensebid/sensebid/Audit$Verdict" "checked" "I" (.int (0 : Int32)) := D66 (Or.inr (Wk.w hw 25 rfl)) (ty := .int) (by decide)
          have f72 : Fld Z h66 o "com/example/sensebid/sensebid/Audit$Verdict" "witness" "Ljava/lang/String;" .null := D66 (Or.inr (Wk.w hw 27 rfl)) (ty := (.object "java/lang/String")) (by decide)
          refine Ww.dup kn64 X66 at_87 rfl 88 rfl ?_
          refine Ww.aload kn64 X66 at_88 rfl rfl 90 rfl ?_
          refine Ww.iload_n kn64 X66 at_90 rfl 91 rfl ?_
          refine Ww.aload kn64 X66 at_91 rfl rfl 93 rfl ?_
          refine Ww.callI kn64 X66 [(.ref w64), (.int p1), (.ref w51)] [(.ref o)] at_93 (rm_viRR l Z a0 hw o w64 p1 w51 _ _ _ h66 n0 g66 A66 f70 f71 f72) e66 rfl (Wk.w hw 11 rfl) (Wk.w hw 12 rfl) (Wk.w hw 10 rfl) (Wk.w hw 13 rfl) (by decide) rfl pd_Verdict_init rfl rfl (Nat.le_of_ble_eq_true rfl) (Nat.le_of_ble_eq_true rfl) (Nat.le_of_ble_eq_true rfl) (Nat.le_of_ble_eq_true rfl) 96 rfl fun T73 v73 L73 X73 hQ73 => ?_
          obtain ⟨rfl, N73q, K73q, E73, F73⟩ := hQ73
          show Ww.Ends _ _ _ _ _ _ _ (mkF m 96 _ [(.ref o)])
          have N73 := Fr.app N64 N73q
          have hk74 := Nat.le_trans hk68 K73q.1
          have K75 := K69.trans K73q (allS (Or.inr hs67) all0)
          refine Ww.astore kn64 X73 at_96 rfl #[.val (.int p0), .val (.int p1), .val (.int p2), .val (.int p3), .val (.int p4), .val (.int p5), .val (.int (1 : Int32)), .val (.ref w51), .val (.int ((p0 >>> ((1 : Int32) &&& 31)) &&& (3 : Int32))), .val (.ref w64), .val (.ref o), .unset] rfl 98 rfl ?_
          refine Ww.aload kn64 X73 at_98 rfl rfl 100 rfl ?_
          refine Ww.callV kn64 X73 [] [] at_100 (rm_heR l Z a0 hw o w51 _ F73) (rfl : T73.heap = T73.heap) E73 (Wk.w hw 28 rfl) (Wk.w hw 29 rfl) (Wk.w hw 31 rfl) (Wk.w hw 30 rfl) (Wk.w hw 10 rfl) (Wk.w hw 32 rfl) (by decide) rfl pd_Verdict_held rfl rfl (Nat.le_of_ble_eq_true rfl) (Nat.le_of_ble_eq_true rfl) (Nat.le_of_ble_eq_true rfl) (Nat.le_of_ble_eq_true rfl) 103 rfl fun T76 v76 L76 X76 hQ76 => ?_
          obtain ⟨rfl, e76, rfl⟩ := hQ76
          rw [List.append_nil] at X76
          show Ww.Ends _ _ _ _ _ _ _ (mkF m 103 _ [(.int (0 : Int32))])
          refine Ww.istore kn64 X76 at_103 #[.val (.int p0), .val (.int p1), .val (.int p2), .val (.int p3), .val (.int p4), .val (.int p5), .val (.int (1 : Int32)), .val (.ref w51), .val (.int ((p0 >>> ((1 : Int32) &&& 31)) &&& (3 : Int32))), .val (.ref w64), .val (.ref o), .val (.int (0 : Int32))] rfl 105 rfl ?_
          refine Ww.iload kn64 X76 at_105 rfl 107 rfl ?_
          refine Ww.iload kn64 X76 at_107 rfl 109 rfl ?_
          refine Ww.if_ne kn64 X76 at_109 (by decide) 116 112 (by decide) rfl (fun _ => ?_) (fun hz => by first | exact absurd hz (by decide) | exact absurd (by decide) hz)
          refine Ww.iconst kn64 X76 at_116 (0 : Int32) rfl 117 rfl ?_
          refine Ww.icmp_ne kn64 X76 at_117 (by decide) 124 120 (by decide) rfl (fun hz => by first | exact absurd hz (by decide) | exact absurd (by decide) hz) (fun _ => ?_)
          refine Ww.iconst kn64 X76 at_120 (1 : Int32) rfl 121 rfl ?_
          refine Ww.goto kn64 X76 at_121 (by decide) 125 (by decide) ?_
          exact Ww.ret_bool kn64 X76 S64 (Nat.le_trans hk74 (Nat.le_of_eq (congrArg (fun hh : Heap => hh.size) e76).symm)) rfl at_125 (by decide) (by decide) (by decide) ⟨rfl, N73⟩
      · refine Ww.ldcS kn51 X51 (text := "truthfulness") at_56 (Wk.w hw 74 rfl) (own_wS hw) (rfl : T51.heap = T51.heap) S51 hk51 48 (by decide) (by decide) (by decide) (by decide) 58 rfl fun b77 vm77 kz77 T77 h77 kn77 X77 e77 E77 S77 hk77 => ?_
        have sz77 := Nat.le_trans sz51 E77.1
        have K78 := K52.ext E77
        refine Ww.astore kn77 X77 at_58 rfl #[.val (.int p0), .val (.int p1), .val (.int p2), .val (.int p3), .val (.int p4), .val (.int p5), .val (.int (1 : Int32)), .val (.ref w51), .val (.int ((p0 >>> ((1 : Int32) &&& 31)) &&& (3 : Int32))), .val (.ref b77), .unset, .unset] rfl 60 rfl ?_
        refine Ww.goto kn77 X77 at_60 (by decide) 84 (by decide) ?_
        refine Ww.new kn77 X77 at_84 (Wk.w hw 8 rfl) (Wk.w hw 9 rfl) (Wk.w hw 10 rfl) e77 (by decide) (by decide) 87 rfl fun T79 h79 o q79 X79 e79 E79 A79 D79 => ?_
        have g79 : n0 ≤ o := by rw [q79]; exact sz77
        have hs80 : h0.size ≤ o := by rw [q79]; exact K78.1
        have sz79 := Nat.le_trans sz77 E79.1
        have hk81 := Nat.le_trans hk77 E79.1
        have K82 := K78.ext E79
        have f83 : Fld Z h79 o "com/example/sensebid/sensebid/Audit$Verdict" "promise" "Ljava/lang/String;" .null := D79 (Or.inr (Wk.w hw 23 rfl)) (ty := (.object "java/lang/String")) (by decide)
        have f84 : Fld Z h79 o "com/example/sensebid/sensebid/Audit$Verdict" "checked" "I" (.int (0 : Int32)) := D79 (Or.inr (Wk.w hw 25 rfl)) (ty := .int) (by decide)
        have f85 : Fld Z h79 o "com/example/sensebid/sensebid/Audit$Verdict" "witness" "Ljava/lang/String;" .null := D79 (Or.inr (Wk.w hw 27 rfl)) (ty := (.object "java/lang/String")) (by decide)
        refine Ww.dup kn77 X79 at_87 rfl 88 rfl ?_
        refine Ww.aload kn77 X79 at_88 rfl rfl 90 rfl ?_
        refine Ww.iload_n kn77 X79 at_90 rfl 91 rfl ?_
        refine Ww.aload kn77 X79 at_91 rfl rfl 93 rfl ?_
        refine Ww.callI kn77 X79 [(.ref b77), (.int p1), (.ref w51)] [(.ref o)] at_93 (rm_viRR l Z a0 hw o b77 p1 w51 _ _ _ h79 n0 g79 A79 f83 f84 f85) e79 rfl (Wk.w hw 11 rfl) (Wk.w hw 12 rfl) (Wk.w hw 10 rfl) (Wk.w hw 13 rfl) (by decide) rfl pd_Verdict_init rfl rfl (Nat.le_of_ble_eq_true rfl) (Nat.le_of_ble_eq_true rfl) (Nat.le_of_ble_eq_true rfl) (Nat.le_of_ble_eq_true rfl) 96 rfl fun T86 v86 L86 X86 hQ86 => ?_
        obtain ⟨rfl, N86q, K86q, E86, F86⟩ := hQ86
        show Ww.Ends _ _ _ _ _ _ _ (mkF m 96 _ [(.ref o)])
        have N86 := Fr.app N51 N86q
        have hk87 := Nat.le_trans hk81 K86q.1
        have K88 := K82.trans K86q (allS (Or.inr hs80) all0)
        refine Ww.astore kn77 X86 at_96 rfl #[.val (.int p0), .val (.int p1), .val (.int p2), .val (.int p3), .val (.int p4), .val (.int p5), .val (.int (1 : Int32)), .val (.ref w51), .val (.int ((p0 >>> ((1 : Int32) &&& 31)) &&& (3 : Int32))), .val (.ref b77), .val (.ref o), .unset] rfl 98 rfl ?_
        refine Ww.aload kn77 X86 at_98 rfl rfl 100 rfl ?_
        refine Ww.callV kn77 X86 [] [] at_100 (rm_heR l Z a0 hw o w51 _ F86) (rfl : T86.heap = T86.heap) E86 (Wk.w hw 28 rfl) (Wk.w hw 29 rfl) (Wk.w hw 31 rfl) (Wk.w hw 30 rfl) (Wk.w hw 10 rfl) (Wk.w hw 32 rfl) (by decide) rfl pd_Verdict_held rfl rfl (Nat.le_of_ble_eq_true rfl) (Nat.le_of_ble_eq_true rfl) (Nat.le_of_ble_eq_true rfl) (Nat.le_of_ble_eq_true rfl) 103 rfl fun T89 v89 L89 X89 hQ89 => ?_
        obtain ⟨rfl, e89, rfl⟩ := hQ89
        rw [List.append_nil] at X89
        show Ww.Ends _ _ _ _ _ _ _ (mkF m 103 _ [(.int (0 : Int32))])
        refine Ww.istore kn77 X89 at_103 #[.val (.int p0), .val (.int p1), .val (.int p2), .val (.int p3), .val (.int p4), .val (.int p5), .val (.int (1 : Int32)), .val (.ref w51), .val (.int ((p0 >>> ((1 : Int32) &&& 31)) &&& (3 : Int32))), .val (.ref b77), .val (.ref o), .val (.int (0 : Int32))] rfl 105 rfl ?_
        refine Ww.iload kn77 X89 at_105 rfl 107 rfl ?_
        refine Ww.iload kn77 X89 at_107 rfl 109 rfl ?_
        refine Ww.if_ne kn77 X89 at_109 (by decide) 116 112 (by decide) rfl (fun _ => ?_) (fun hz => by first | exact absurd hz (by decide) | exact absurd (by decide) hz)
        refine Ww.iconst kn77 X89 at_116 (0 : Int32) rfl 117 rfl ?_
        refine Ww.icmp_ne kn77 X89 at_117 (by decide) 124 120 (by decide) rfl (fun hz => by first | exact absurd hz (by decide) | exact absurd (by decide) hz) (fun _ => ?_)
        refine Ww.iconst kn77 X89 at_120 (1 : Int32) rfl 121 rfl ?_
        refine Ww.goto kn77 X89 at_121 (by decide) 125 (by decide) ?_
        exact Ww.ret_bool kn77 X89 S77 (Nat.le_trans hk87 (Nat.le_of_eq (congrArg (fun hh : Heap => hh.size) e89).symm)) rfl at_125 (by decide) (by decide) (by decide) ⟨rfl, N86⟩
    · refine Ww.ldcS kn51 X51 (text := "coverage") at_43 (Wk.w hw 0 rfl) (own_wS hw) (rfl : T51.heap = T51.heap) S51 hk51 32 (by decide) (by decide) (by decide) (by decide) 45 rfl fun b90 vm90 kz90 T90 h90 kn90 X90 e90 E90 S90 hk90 => ?_
      have sz90 := Nat.le_trans sz51 E90.1
      have K91 := K52.ext E90
      refine Ww.astore kn90 X90 at_45 rfl #[.val (.int p0), .val (.int p1), .val (.int p2), .val (.int p3), .val (.int p4), .val (.int p5), .val (.int (1 : Int32)), .val (.ref w51), .val (.int ((p0 >>> ((1 : Int32) &&& 31)) &&& (3 : Int32))), .val (.ref b90), .unset, .unset] rfl 47 rfl ?_
      refine Ww.goto kn90 X90 at_47 (by decide) 84 (by decide) ?_
      refine Ww.new kn90 X90 at_84 (Wk.w hw 8 rfl) (Wk.w hw 9 rfl) (Wk.w hw 10 rfl) e90 (by decide) (by decide) 87 rfl fun T92 h92 o q92 X92 e92 E92 A92 D92 => ?_
      have g92 : n0 ≤ o := by rw [q92]; exact sz90
      have hs93 : h0.size ≤ o := by rw [q92]; exact K91.1
      have sz92 := Nat.le_trans sz90 E92.1
      have hk94 := Nat.le_trans hk90 E92.1
      have K95 := K91.ext E92
      have f96 : Fld Z h92 o "com/example/sensebid/sensebid/Audit$Verdict" "promise" "Ljava/lang/String;" .null := D92 (Or.inr (Wk.w hw 23 rfl)) (ty := (.object "java/lang/String")) (by decide)
      have f97 : Fld Z h92 o "com/example/sensebid/sensebid/Audit$Verdict" "checked" "I" (.int (0 : Int32)) := D92 (Or.inr (Wk.w hw 25 rfl)) (ty := .int) (by decide)
      have f98 : Fld Z h92 o "com/example/sensebid/sensebid/Audit$Verdict" "witness" "Ljava/lang/String;" .null := D92 (Or.inr (Wk.w hw 27 rfl)) (ty := (.object "java/lang/String")) (by decide)
      refine Ww.dup kn90 X92 at_87 rfl 88 rfl ?_
      refine Ww.aload kn90 X92 at_88 rfl rfl 90 rfl ?_
      refine Ww.iload_n kn90 X92 at_90 rfl 91 rfl ?_
      refine Ww.aload kn90 X92 at_91 rfl rfl 93 rfl ?_
      refine Ww.callI kn90 X92 [(.ref b90), (.int p1), (.ref w51)] [(.ref o)] at_93 (rm_viRR l Z a0 hw o b90 p1 w51 _ _ _ h92 n0 g92 A92 f96 f97 f98) e92 rfl (Wk.w hw 11 rfl) (Wk.w hw 12 rfl) (Wk.w hw 10 rfl) (Wk.w hw 13 rfl) (by decide) rfl pd_Verdict_init rfl rfl (Nat.le_of_ble_eq_true rfl) (Nat.le_of_ble_eq_true rfl) (Nat.le_of_ble_eq_true rfl) (Nat.le_of_ble_eq_true rfl) 96 rfl fun T99 v99 L99 X99 hQ99 => ?_
      obtain ⟨rfl, N99q, K99q, E99, F99⟩ := hQ99
      show Ww.Ends _ _ _ _ _ _ _ (mkF m 96 _ [(.ref o)])
      have N99 := Fr.app N51 N99q
      have hk100 := Nat.le_trans hk94 K99q.1
      have K101 := K95.trans K99q (allS (Or.inr hs93) all0)
      refine Ww.astore kn90 X99 at_96 rfl #[.val (.int p0), .val (.int p1), .val (.int p2), .val (.int p3), .val (.int p4), .val (.int p5), .val (.int (1 : Int32)), .val (.ref w51), .val (.int ((p0 >>> ((1 : Int32) &&& 31)) &&& (3 : Int32))), .val (.ref b90), .val (.ref o), .unset] rfl 98 rfl ?_
      refine Ww.aload kn90 X99 at_98 rfl rfl 100 rfl ?_
      refine Ww.callV kn90 X99 [] [] at_100 (rm_heR l Z a0 hw o w51 _ F99) (rfl : T99.heap = T99.heap) E99 (Wk.w hw 28 rfl) (Wk.w hw 29 rfl) (Wk.w hw 31 rfl) (Wk.w hw 30 rfl) (Wk.w hw 10 rfl) (Wk.w hw 32 rfl) (by decide) rfl pd_Verdict_held rfl rfl (Nat.le_of_ble_eq_true rfl) (Nat.le_of_ble_eq_true rfl) (Nat.le_of_ble_eq_true rfl) (Nat.le_of_ble_eq_true rfl) 103 rfl fun T102 v102 L102 X102 hQ102 => ?_
      obtain ⟨rfl, e102, rfl⟩ := hQ102
      rw [List.append_nil] at X102
      show Ww.Ends _ _ _ _ _ _ _ (mkF m 103 _ [(.int (0 : Int32))])
      refine Ww.istore kn90 X102 at_103 #[.val (.int p0), .val (.int p1), .val (.int p2), .val (.int p3), .val (.int p4), .val (.int p5), .val (.int (1 : Int32)), .val (.ref w51), .val (.int ((p0 >>> ((1 : Int32) &&& 31)) &&& (3 : Int32))), .val (.ref b90), .val (.ref o), .val (.int (0 : Int32))] rfl 105 rfl ?_
      refine Ww.iload kn90 X102 at_105 rfl 107 rfl ?_
      refine Ww.iload kn90 X102 at_107 rfl 109 rfl ?_
      refine Ww.if_ne kn90 X102 at_109 (by decide) 116 112 (by decide) rfl (fun _ => ?_) (fun hz => by first | exact absurd hz (by decide) | exact absurd (by decide) hz)
      refine Ww.iconst kn90 X102 at_116 (0 : Int32) rfl 117 rfl ?_
      refine Ww.icmp_ne kn90 X102 at_117 (by decide) 124 120 (by decide) rfl (fun hz => by first | exact absurd hz (by decide) | exact absurd (by decide) hz) (fun _ => ?_)
      refine Ww.iconst kn90 X102 at_120 (1 : Int32) rfl 121 rfl ?_
      refine Ww.goto kn90 X102 at_121 (by decide) 125 (by decide) ?_
      exact Ww.ret_bool kn90 X102 S90 (Nat.le_trans hk100 (Nat.le_of_eq (congrArg (fun hh : Heap => hh.size) e102).symm)) rfl at_125 (by decide) (by decide) (by decide) ⟨rfl, N99⟩
set_option maxRecDepth 65536 in
set_option maxHeartbeats 40000000 in
theorem comes_1 {Post : Tables → Env → Array Value → State → Outcome → State → Prop} (hpost : ∀ tb e args s v u, (limb_1_1.after args s (.returned v) u = true ∧ limb_1_2.after args s (.returned v) u = true) → ReturnedEndW s (.returned v) u (Jvm.fieldLocs frame_1_writes args s ++ Jvm.arrayLocs frame_1_arrays args s ++ Jvm.staticLocs frame_1_statics s) 32 3200 → Post tb e args s (.returned v) u) :
    ArmFor flags0 classFile x code maxLocals ret World_1 tables_1 room_1 Calls_1 rest_1 Pre_1 Post := by
  intro l hfl _ _ p e ha hc hk s m args below hf hA hF happ hP
  obtain ⟨hcalls, hrest, hpre⟩ := hP
  obtain ⟨-, -, -, hnamed, -, -, -, hat⟩ := (Spec.applies_iff hf).mp happ
  obtain ⟨hg, hn⟩ := and_e (Cond.before_iff.mp (show (Jvm.Cond.and given_1 narrow_1).before args s = true from hpre))
  obtain ⟨gc, g0⟩ := and_e hg
  obtain ⟨q0, g1⟩ := and_e g0
  obtain ⟨q1, g2⟩ := and_e g1
  obtain ⟨q2, g3⟩ := and_e g2
  obtain ⟨q3, g4⟩ := and_e g3
  obtain ⟨q4, g5⟩ := and_e g4
  have q5 := g5
  obtain ⟨w0, w1, w2, w3, w4, w5, rfl⟩ : ∃ w0 w1 w2 w3 w4 w5 : Value, args = #[w0, w1, w2, w3, w4, w5] := by
    have hs : args.size = 6 := by simpa [Cond.value, given_1] using gc
    obtain ⟨L⟩ := args
    match L, hs with
    | [w0, w1, w2, w3, w4, w5], _ => exact ⟨w0, w1, w2, w3, w4, w5, rfl⟩
  have hw := fun d (hd : d ∈ tables_1) => atoms_spec (ws := Jvm.Cond.code x code maxLocals ret :: tables_1) hat d (List.mem_cons_of_mem _ hd)
  have hfit : Fit s := fun {y c} hc i hi => by
    obtain ⟨ha, rfl⟩ := Array.getElem?_eq_some_iff.mp hc
    have q := List.all_eq_true.mp ((Array.all_eq_true_iff_forall_mem.mp hF) _ (Array.getElem_mem ha)) i (List.mem_range.mpr hi)
    simpa [Array.getElem?_eq_getElem hi] using q
  obtain ⟨i0, ei0⟩ := is_v q0
  obtain rfl : w0 = (.int i0) := Option.some.inj ei0
  obtain ⟨i1, ei1⟩ := is_v q1
  obtain rfl : w1 = (.int i1) := Option.some.inj ei1
  obtain ⟨i2, ei2⟩ := is_v q2
  obtain rfl : w2 = (.int i2) := Option.some.inj ei2
  obtain ⟨i3, ei3⟩ := is_v q3
  obtain rfl : w3 = (.int i3) := Option.some.inj ei3
  obtain ⟨i4, ei4⟩ := is_v q4
  obtain rfl : w4 = (.int i4) := Option.some.inj ei4
  obtain ⟨i5, ei5⟩ := is_v q5
  obtain rfl : w5 = (.int i5) := Option.some.inj ei5
  obtain ⟨hsets, hown0⟩ := atoms_of _ (rest_1_c_eq ▸ (show rest_1_c.before _ s = true from hrest))
  have hx0 : Old s s.heap.size s.heap ∧ ∃ cz : Int32, ¬ cz = 0 ∧ Sta s s.heap "java/lang/String" "COMPACT_STRINGS" "Z" (.int cz) := by
    refine ⟨Old.start s, ?_⟩
    obtain ⟨cz, ez⟩ := is_v (Cond.before_iff.mp (hsets _ (List.mem_of_getElem? (i := 1) rfl)))
    refine ⟨cz, fun hz => ?_, Sta.start ez (Or.inl (hsets _ (List.mem_of_getElem? (i := 0) rfl)))⟩
    have q := hsets _ (List.mem_of_getElem? (i := 2) rfl)
    rw [Cond.before_iff] at q
    subst hz
    simp [Cond.value, ez, show Term.eval _ s none [] s (Term.int (0 : Int32)) = some (Value.int 0) from rfl] at q
  obtain ⟨n, o, h1, h2, h3, _, L, rfl, ⟨rfl, N⟩, hq⟩ := rm0 l s _ hw tables_1 i0 i1 i2 i3 i4 i5 s.heap s.heap.size (Nat.le_refl _) hx0 p e ha hc hk s m _ below hf ((Spec.applies_iff_loose hf).mp happ).1 ⟨rfl, State.Warmed39.refl s, rfl⟩ trivial
  exact ⟨n, _, h1, h2, h3, hpost _ _ _ _ _ _ ⟨Cond.after_iff.mpr rfl, Cond.after_iff.mpr (eq_i res_at (Term.int_eval (1)) rfl)⟩ ⟨hq.1, hq.2.1, hq.2.2.1, (hq.2.2.2.sift fun y hy => Or.inr (N y hy)).mono (by decide) (by decide)⟩⟩
theorem main_1_1 : Claimed_1_1 := comes_1 fun _ _ _ _ _ _ h hF => ⟨h.1, hF⟩
theorem main_1_2 : Claimed_1_2 := comes_1 fun _ _ _ _ _ _ h hF => ⟨h.2, hF⟩
end Jvm.Pilot.@@N@@
namespace Jvm.Pilot.@@N@@
open Jvm Jvm.ClassFile Sem Op Lib Jvm.Free Jvm.Stand Jvm.Pilot.@@N@@.Jvm.D
/-! MADE BY PROGRAM (witnessworld.py) out of the Statement's table words and the real class files: 21 classes; the members and pool entries that the words name. The judged class is class 1, her method 2. -/
namespace start1
open Jvm.ClassFile
def u (s : String) : CpInfo := .utf8 (stringToUtf16 s)
/-- a pool by its gaps: so many unusable entries, then the entry; so many at the end -/
def gap : Nat → List CpInfo → List CpInfo
  | 0, r => r
  | n + 1, r => .unusable :: gap n r
def poolList (es : List (Nat × CpInfo)) (last : Nat) : List CpInfo := es.foldr (fun e r => gap e.1 (e.2 :: r)) (gap last [])
def pool (es : List (Nat × CpInfo)) (last : Nat) : Array CpInfo := ⟨poolList es last⟩
def fileOf (pool : Array CpInfo) (this : Nat) (attrs : Array Attribute := #[]) (ms : Array MethodInfo := #[]) (fl : Nat := 33) (sup : Nat := 0) (ifs : Array Nat := #[]) (fds : Array FieldInfo := #[]) : ClassFile where
  minorVersion := 0
  majorVersion := 65
  constantPool := pool
  accessFlags := fl
  thisClass := this
  superClass := sup
  interfaces := ifs
  fields := fds
  methods := ms
  attributes := attrs
def plain (name : String) (sup : Option ClassId) : Class where
  name := name
  kind := .ordinary
  loader := none
  accessFlags := 33
  super := sup
  interfaces := #[]
  cf := none
  fields := #[]
  methods := #[]
  instanceTypes := #[]
  staticTypes := #[]
  resolved := #[]
  callSites := []
  init := .initialized
  statics := none
  mirror := none

def pool0 : Array CpInfo := pool [(5, u "<init>"), (0, u "()V"), (1, .class_ 10), (1, u "java/lang/Object")] 113

def k0c0 : Code := { maxStack := 0, maxLocals := 1, code := object_method_1_code, exceptionTable := #[], attributes := #[] }
def k0m0 : Method := { name := "<init>", desc := "()V", sig := { parameters := [], returnType := none }, accessFlags := 1, code := some k0c0 }
/-- java/lang/Object -/
def k0 : Class := { plain "java/lang/Object" none with
  accessFlags := 33
  interfaces := #[]
  cf := some (fileOf pool0 8 #[] #[{ accessFlags := 1, nameIndex := 5, descriptorIndex := 6, attributes := #[] }] 33 0 #[] #[])
  fields := #[]
  methods := #[k0m0]
  instanceTypes := #[]
  staticTypes := #[]
  resolved := Array.replicate 124 none
  statics := none }

def pool1 : Array CpInfo := pool [(2, .class_ 4), (1, u "java/lang/Object"), (0, u "<init>"), (0, u "()V"), (0, .string 8), (0, u ""), (0, .methodref 10 11), (0, .class_ 12), (0, .nameAndType 13 14), (0, u "java/lang/String"), (0, u "valueOf"), (0, u "(C)Ljava/lang/String;"), (0, .methodref 10 16), (0, .nameAndType 5 17), (0, u "([C)V"), (0, .methodref 19 20), (0, .class_ 21), (0, .nameAndType 22 23), (0, u "com/example/sensebid/sensebid/VerdictHeldPinLaw"), (0, u "drawn"), (0, u "(III)Ljava/lang/String;"), (0, .string 25), (0, u "coverage"), (0, .string 27), (0, u "truthfulness"), (0, .class_ 29), (0, u "com/example/sensebid/sensebid/Audit$Verdict"), (0, .methodref 28 31), (0, .nameAndType 5 32), (0, u "(Ljava/lang/String;ILjava/lang/String;)V"), (0, .methodref 28 34), (0, .nameAndType 35 36), (0, u "held"), (0, u "()Z"), (3, u "law"), (0, u "(IIIIII)Z")] 6

def k1m0 : Method := { name := "<init>", desc := "()V", sig := { parameters := [], returnType := none }, accessFlags := 2, code := none }
def k1c1 : Code := { maxStack := 4, maxLocals := 5, code := method_2_code, exceptionTable := #[], attributes := #[] }
def k1m1 : Method := { name := "drawn", desc := "(III)Ljava/lang/String;", sig := { parameters := [.int, .int, .int], returnType := some (.object "java/lang/String") }, accessFlags := 10, code := some k1c1 }
def k1c2 : Code := { maxStack := 5, maxLocals := 12, code := code, exceptionTable := #[], attributes := #[] }
def k1m2 : Method := { name := "law", desc := "(IIIIII)Z", sig := { parameters := [.int, .int, .int, .int, .int, .int], returnType := some .boolean }, accessFlags := 9, code := some k1c2 }
/-- com/example/sensebid/sensebid/VerdictHeldPinLaw -/
def k1 : Class := { plain "com/example/sensebid/sensebid/VerdictHeldPinLaw" (some 0) with
  accessFlags := 49
  interfaces := #[]
  cf := some (fileOf pool1 19 #[] #[{ accessFlags := 2, nameIndex := 5, descriptorIndex := 6, attributes := #[] }, { accessFlags := 10, nameIndex := 22, descriptorIndex := 23, attributes := #[] }, { accessFlags := 9, nameIndex := 40, descriptorIndex := 41, attributes := #[] }] 49 2 #[] #[])
  fields := #[]
  methods := #[k1m0, k1m1, k1m2]
  instanceTypes := #[]
  staticTypes := #[]
  resolved := Array.replicate 48 none
  statics := none }

def pool2 : Array CpInfo := pool [(1, .class_ 2), (0, u "java/io/Serializable"), (0, .class_ 4), (0, u "java/lang/Object")] 2

/-- java/io/Serializable -/
def k2 : Class := { plain "java/io/Serializable" (some 0) with
  accessFlags := 1537
  interfaces := #[]
  cf := some (fileOf pool2 1 #[] #[] 1537 3 #[] #[])
  fields := #[]
  methods := #[]
  instanceTypes := #[]
  staticTypes := #[]
  resolved := Array.replicate 7 none
  statics := none }

def pool3 : Array CpInfo := pool [(1, .class_ 2), (0, u "java/lang/Comparable"), (0, .class_ 4), (0, u "java/lang/Object")] 7

/-- java/lang/Comparable -/
def k3 : Class := { plain "java/lang/Comparable" (some 0) with
  accessFlags := 1537
  interfaces := #[]
  cf := some (fileOf pool3 1 #[] #[] 1537 3 #[] #[])
  fields := #[]
  methods := #[]
  instanceTypes := #[]
  staticTypes := #[]
  resolved := Array.replicate 12 none
  statics := none }

def pool4 : Array CpInfo := pool [(2, .class_ 4), (1, u "java/lang/CharSequence"), (42, .class_ 48), (0, u "java/lang/CharSequence$1CodePointIterator"), (10, .class_ 60), (0, u "java/lang/CharSequence$1CharIterator"), (5, .class_ 67), (0, u "java/lang/Object")] 63

/-- java/lang/CharSequence -/
def k4 : Class := { plain "java/lang/CharSequence" (some 0) with
  accessFlags := 1537
  interfaces := #[]
  cf := some (fileOf pool4 2 #[.nestMembers #[47, 59]] #[] 1537 66 #[] #[])
  fields := #[]
  methods := #[]
  instanceTypes := #[]
  staticTypes := #[]
  resolved := Array.replicate 131 none
  statics := none }

def pool5 : Array CpInfo := pool [(1, .class_ 2), (0, u "java/lang/constant/Constable"), (0, .class_ 4), (0, u "java/lang/Object")] 6

/-- java/lang/constant/Constable -/
def k5 : Class := { plain "java/lang/constant/Constable" (some 0) with
  accessFlags := 1537
  interfaces := #[]
  cf := some (fileOf pool5 1 #[] #[] 1537 3 #[] #[])
  fields := #[]
  methods := #[]
  instanceTypes := #[]
  staticTypes := #[]
  resolved := Array.replicate 11 none
  statics := none }

def pool6 : Array CpInfo := pool [(1, .class_ 2), (0, u "java/lang/constant/ConstantDesc"), (0, .class_ 4), (0, u "java/lang/Object")] 32

/-- java/lang/constant/ConstantDesc -/
def k6 : Class := { plain "java/lang/constant/ConstantDesc" (some 0) with
  accessFlags := 1537
  interfaces := #[]
  cf := some (fileOf pool6 1 #[] #[] 1537 3 #[] #[])
  fields := #[]
  methods := #[]
  instanceTypes := #[]
  staticTypes := #[]
  resolved := Array.replicate 37 none
  statics := none }

def pool7 : Array CpInfo := pool [(1, .methodref 2 3), (0, .class_ 4), (0, .nameAndType 5 6), (0, u "java/lang/Object"), (0, u "<init>"), (0, u "()V"), (2, .fieldref 10 11), (0, .class_ 12), (0, .nameAndType 13 14), (0, u "java/lang/String"), (0, u "value"), (0, u "[B"), (0, .fieldref 10 16), (0, .nameAndType 17 18), (0, u "coder"), (0, u "B"), (2, u "hash"), (0, u "I"), (2, u "hashIsZero"), (0, u "Z"), (0, .methodref 10 28), (0, .nameAndType 5 29), (0, u "([CIILjava/lang/Void;)V"), (8, .fieldref 10 39), (0, .nameAndType 40 26), (0, u "COMPACT_STRINGS"), (1, .class_ 44), (1, u "java/lang/StringUTF16"), (0, u "compress"), (1, .methodref 42 48), (0, .nameAndType 49 50), (0, u "coderFromArrayLen"), (0, u "([BI)B"), (2, u "toBytes"), (53, .class_ 109), (1, u "java/lang/StringLatin1"), (67, .methodref 42 178), (0, .nameAndType 45 179), (0, u "([CII)[B"), (29, .methodref 10 210), (0, .nameAndType 5 211), (0, u "([BB)V"), (157, u "(C)Z"), (205, .class_ 576), (0, u "java/lang/CharSequence"), (22, u "CASE_INSENSITIVE_ORDER"), (0, u "Ljava/util/Comparator;"), (181, u "valueOf"), (0, u "(C)Ljava/lang/String;"), (226, u "([C)V"), (4, .methodref 107 1016), (0, .nameAndType 1017 369), (0, u "canEncode"), (0, .methodref 107 1019), (0, .nameAndType 53 1020), (0, u "(C)[B"), (80, u "serialPersistentFields"), (0, u "[Ljava/io/ObjectStreamField;"), (0, .class_ 1104), (0, u "java/lang/String$CaseInsensitiveComparator"), (1, .class_ 1107), (0, u "java/io/Serializable"), (0, .class_ 1109), (0, u "java/lang/Comparable"), (0, .class_ 1111), (0, u "java/lang/constant/Constable"), (0, .class_ 1113), (0, u "java/lang/constant/ConstantDesc"), (2, u "serialVersionUID"), (0, u "J"), (3, u "REPL"), (0, u "C"), (2, u "LATIN1"), (1, u "UTF16")] 323

def k7m0 : Method := { name := "<init>", desc := "()V", sig := { parameters := [], returnType := none }, accessFlags := 1, code := none }
def k7c1 : Code := { maxStack := 5, maxLocals := 2, code := jdk_42_method_3_code, exceptionTable := #[], attributes := #[] }
def k7m1 : Method := { name := "<init>", desc := "([C)V", sig := { parameters := [(.array .char)], returnType := none }, accessFlags := 1, code := some k7c1 }
def k7c2 : Code := { maxStack := 4, maxLocals := 1, code := jdk_42_method_139_code, exceptionTable := #[], attributes := #[] }
def k7m2 : Method := { name := "valueOf", desc := "(C)Ljava/lang/String;", sig := { parameters := [.char], returnType := some (.object "java/lang/String") }, accessFlags := 9, code := some k7c2 }
def k7c3 : Code := { maxStack := 4, maxLocals := 6, code := jdk_42_method_149_code, exceptionTable := #[], attributes := #[] }
def k7m3 : Method := { name := "<init>", desc := "([CIILjava/lang/Void;)V", sig := { parameters := [(.array .char), .int, .int, (.object "java/lang/Void")], returnType := none }, accessFlags := 2, code := some k7c3 }
def k7c4 : Code := { maxStack := 2, maxLocals := 3, code := jdk_42_method_151_code, exceptionTable := #[], attributes := #[] }
def k7m4 : Method := { name := "<init>", desc := "([BB)V", sig := { parameters := [(.array .byte), .byte], returnType := none }, accessFlags := 0, code := some k7c4 }
/-- java/lang/String -/
def k7 : Class := { plain "java/lang/String" (some 0) with
  accessFlags := 49
  interfaces := #[2, 3, 4, 5, 6]
  cf := some (fileOf pool7 10 #[.nestMembers #[1103]] #[{ accessFlags := 1, nameIndex := 5, descriptorIndex := 6, attributes := #[] }, { accessFlags := 1, nameIndex := 5, descriptorIndex := 1010, attributes := #[] }, { accessFlags := 9, nameIndex := 782, descriptorIndex := 783, attributes := #[] }, { accessFlags := 2, nameIndex := 5, descriptorIndex := 29, attributes := #[] }, { accessFlags := 0, nameIndex := 5, descriptorIndex := 211, attributes := #[] }] 49 2 #[1106, 1108, 575, 1110, 1112] #[{ accessFlags := 18, nameIndex := 13, descriptorIndex := 14, attributes := #[] }, { accessFlags := 18, nameIndex := 17, descriptorIndex := 18, attributes := #[] }, { accessFlags := 2, nameIndex := 21, descriptorIndex := 22, attributes := #[] }, { accessFlags := 2, nameIndex := 25, descriptorIndex := 26, attributes := #[] }, { accessFlags := 26, nameIndex := 1116, descriptorIndex := 1117, attributes := #[] }, { accessFlags := 24, nameIndex := 40, descriptorIndex := 26, attributes := #[] }, { accessFlags := 26, nameIndex := 1101, descriptorIndex := 1102, attributes := #[] }, { accessFlags := 26, nameIndex := 1121, descriptorIndex := 1122, attributes := #[] }, { accessFlags := 25, nameIndex := 599, descriptorIndex := 600, attributes := #[] }, { accessFlags := 24, nameIndex := 1125, descriptorIndex := 18, attributes := #[] }, { accessFlags := 24, nameIndex := 1127, descriptorIndex := 18, attributes := #[] }])
  fields := #[{ name := "value", type := (.array .byte), accessFlags := 18, slot := 0, constantValue := 0 }, { name := "coder", type := .byte, accessFlags := 18, slot := 1, constantValue := 0 }, { name := "hash", type := .int, accessFlags := 2, slot := 2, constantValue := 0 }, { name := "hashIsZero", type := .boolean, accessFlags := 2, slot := 3, constantValue := 0 }, { name := "serialVersionUID", type := .long, accessFlags := 26, slot := 0, constantValue := 0 }, { name := "COMPACT_STRINGS", type := .boolean, accessFlags := 24, slot := 1, constantValue := 0 }, { name := "serialPersistentFields", type := (.array (.object "java/io/ObjectStreamField")), accessFlags := 26, slot := 2, constantValue := 0 }, { name := "REPL", type := .char, accessFlags := 26, slot := 3, constantValue := 0 }, { name := "CASE_INSENSITIVE_ORDER", type := (.object "java/util/Comparator"), accessFlags := 25, slot := 4, constantValue := 0 }, { name := "LATIN1", type := .byte, accessFlags := 24, slot := 5, constantValue := 0 }, { name := "UTF16", type := .byte, accessFlags := 24, slot := 6, constantValue := 0 }]
  methods := #[k7m0, k7m1, k7m2, k7m3, k7m4]
  instanceTypes := #[(.array .byte), .byte, .int, .boolean]
  staticTypes := #[.long, .boolean, (.array (.object "java/io/ObjectStreamField")), .char, (.object "java/util/Comparator"), .byte, .byte]
  resolved := Array.replicate 1451 none
  statics := some 0 }

def pool8 : Array CpInfo := pool [(1, .methodref 2 3), (0, .class_ 4), (0, .nameAndType 5 6), (0, u "java/lang/Object"), (0, u "<init>"), (0, u "()V"), (0, .class_ 8), (0, u "java/lang/Record")] 13

def k8c0 : Code := { maxStack := 1, maxLocals := 1, code := jdk_30_method_1_code, exceptionTable := #[], attributes := #[] }
def k8m0 : Method := { name := "<init>", desc := "()V", sig := { parameters := [], returnType := none }, accessFlags := 4, code := some k8c0 }
/-- java/lang/Record -/
def k8 : Class := { plain "java/lang/Record" (some 0) with
  accessFlags := 1057
  interfaces := #[]
  cf := some (fileOf pool8 7 #[] #[{ accessFlags := 4, nameIndex := 5, descriptorIndex := 6, attributes := #[] }] 1057 2 #[] #[])
  fields := #[]
  methods := #[k8m0]
  instanceTypes := #[]
  staticTypes := #[]
  resolved := Array.replicate 22 none
  statics := none }

def pool9 : Array CpInfo := pool [(1, .methodref 2 3), (0, .class_ 4), (0, .nameAndType 5 6), (0, u "java/lang/Record"), (0, u "<init>"), (0, u "()V"), (0, .fieldref 8 9), (0, .class_ 10), (0, .nameAndType 11 12), (0, u "com/example/sensebid/sensebid/Audit$Verdict"), (0, u "promise"), (0, u "Ljava/lang/String;"), (0, .fieldref 8 14), (0, .nameAndType 15 16), (0, u "checked"), (0, u "I"), (0, .fieldref 8 18), (0, .nameAndType 19 12), (0, u "witness"), (12, u "(Ljava/lang/String;ILjava/lang/String;)V"), (3, u "held"), (0, u "()Z"), (7, .class_ 46), (0, u "com/example/sensebid/sensebid/Audit")] 21

def k9c0 : Code := { maxStack := 2, maxLocals := 4, code := prog_2_method_1_code, exceptionTable := #[], attributes := #[] }
def k9m0 : Method := { name := "<init>", desc := "(Ljava/lang/String;ILjava/lang/String;)V", sig := { parameters := [(.object "java/lang/String"), .int, (.object "java/lang/String")], returnType := none }, accessFlags := 1, code := some k9c0 }
def k9c1 : Code := { maxStack := 1, maxLocals := 1, code := prog_2_method_2_code, exceptionTable := #[], attributes := #[] }
def k9m1 : Method := { name := "held", desc := "()Z", sig := { parameters := [], returnType := some .boolean }, accessFlags := 1, code := some k9c1 }
/-- com/example/sensebid/sensebid/Audit$Verdict -/
def k9 : Class := { plain "com/example/sensebid/sensebid/Audit$Verdict" (some 8) with
  accessFlags := 49
  interfaces := #[]
  cf := some (fileOf pool9 8 #[.nestHost 45] #[{ accessFlags := 1, nameIndex := 5, descriptorIndex := 32, attributes := #[] }, { accessFlags := 1, nameIndex := 36, descriptorIndex := 37, attributes := #[] }] 49 2 #[] #[{ accessFlags := 18, nameIndex := 11, descriptorIndex := 12, attributes := #[] }, { accessFlags := 18, nameIndex := 15, descriptorIndex := 16, attributes := #[] }, { accessFlags := 18, nameIndex := 19, descriptorIndex := 12, attributes := #[] }])
  fields := #[{ name := "promise", type := (.object "java/lang/String"), accessFlags := 18, slot := 0, constantValue := 0 }, { name := "checked", type := .int, accessFlags := 18, slot := 1, constantValue := 0 }, { name := "witness", type := (.object "java/lang/String"), accessFlags := 18, slot := 2, constantValue := 0 }]
  methods := #[k9m0, k9m1]
  instanceTypes := #[(.object "java/lang/String"), .int, (.object "java/lang/String")]
  staticTypes := #[]
  resolved := Array.replicate 68 none
  statics := none }

def pool10 : Array CpInfo := pool [(6, .class_ 8), (1, u "java/lang/Object"), (0, u "<init>"), (0, u "()V"), (1, .class_ 14), (1, u "java/lang/StringUTF16"), (31, u "$assertionsDisabled"), (0, u "Z"), (13, u "HI_BYTE_SHIFT"), (0, u "I"), (2, u "LO_BYTE_SHIFT"), (49, .methodref 12 116), (0, .nameAndType 117 118), (0, u "compress"), (0, u "([CI[BII)I"), (3, u "([CII)[B"), (138, u "coderFromArrayLen"), (0, u "([BI)B"), (106, .class_ 371), (1, u "java/lang/StringUTF16$LinesSpliterator"), (58, u "MAX_LENGTH"), (196, .class_ 628), (0, u "java/lang/StringUTF16$CodePointsSpliterator"), (0, .class_ 630), (0, u "java/lang/StringUTF16$CharsSpliterator")] 4

def k10m0 : Method := { name := "<init>", desc := "()V", sig := { parameters := [], returnType := none }, accessFlags := 0, code := none }
def k10c1 : Code := { maxStack := 2, maxLocals := 2, code := jdk_52_method_15_code, exceptionTable := #[], attributes := #[] }
def k10m1 : Method := { name := "coderFromArrayLen", desc := "([BI)B", sig := { parameters := [(.array .byte), .int], returnType := some .byte }, accessFlags := 8, code := some k10c1 }
def k10c2 : Code := { maxStack := 5, maxLocals := 6, code := jdk_52_method_16_code, exceptionTable := #[], attributes := #[] }
def k10m2 : Method := { name := "compress", desc := "([CII)[B", sig := { parameters := [(.array .char), .int, .int], returnType := some (.array .byte) }, accessFlags := 9, code := some k10c2 }
def k10c3 : Code := { maxStack := 3, maxLocals := 7, code := jdk_52_method_21_code, exceptionTable := #[], attributes := #[] }
def k10m3 : Method := { name := "compress", desc := "([CI[BII)I", sig := { parameters := [(.array .char), .int, (.array .byte), .int, .int], returnType := some .int }, accessFlags := 9, code := some k10c3 }
/-- java/lang/StringUTF16 -/
def k10 : Class := { plain "java/lang/StringUTF16" (some 0) with
  accessFlags := 48
  interfaces := #[]
  cf := some (fileOf pool10 12 #[.nestMembers #[627, 629, 369]] #[{ accessFlags := 0, nameIndex := 9, descriptorIndex := 10, attributes := #[] }, { accessFlags := 8, nameIndex := 261, descriptorIndex := 262, attributes := #[] }, { accessFlags := 9, nameIndex := 117, descriptorIndex := 122, attributes := #[] }, { accessFlags := 9, nameIndex := 117, descriptorIndex := 118, attributes := #[] }] 48 6 #[] #[{ accessFlags := 26, nameIndex := 61, descriptorIndex := 62, attributes := #[] }, { accessFlags := 26, nameIndex := 65, descriptorIndex := 62, attributes := #[] }, { accessFlags := 24, nameIndex := 430, descriptorIndex := 62, attributes := #[] }, { accessFlags := 4120, nameIndex := 46, descriptorIndex := 47, attributes := #[] }])
  fields := #[{ name := "HI_BYTE_SHIFT", type := .int, accessFlags := 26, slot := 0, constantValue := 0 }, { name := "LO_BYTE_SHIFT", type := .int, accessFlags := 26, slot := 1, constantValue := 0 }, { name := "MAX_LENGTH", type := .int, accessFlags := 24, slot := 2, constantValue := 0 }, { name := "$assertionsDisabled", type := .boolean, accessFlags := 4120, slot := 3, constantValue := 0 }]
  methods := #[k10m0, k10m1, k10m2, k10m3]
  instanceTypes := #[]
  staticTypes := #[.int, .int, .int, .boolean]
  resolved := Array.replicate 635 none
  statics := none }

def pool11 : Array CpInfo := pool [(4, .class_ 6), (1, u "java/lang/Object"), (0, u "<init>"), (0, u "()V"), (5, .class_ 16), (1, u "java/lang/StringLatin1"), (73, u "canEncode"), (14, u "(C)Z"), (15, u "$assertionsDisabled"), (0, u "Z"), (98, .class_ 223), (1, u "java/lang/StringLatin1$LinesSpliterator"), (156, u "toBytes"), (1, u "(C)[B"), (7, .class_ 391), (0, u "java/lang/StringLatin1$CharsSpliterator")] 3

def k11m0 : Method := { name := "<init>", desc := "()V", sig := { parameters := [], returnType := none }, accessFlags := 0, code := none }
def k11c1 : Code := { maxStack := 2, maxLocals := 1, code := jdk_43_method_3_code, exceptionTable := #[], attributes := #[] }
def k11m1 : Method := { name := "canEncode", desc := "(C)Z", sig := { parameters := [.char], returnType := some .boolean }, accessFlags := 9, code := some k11c1 }
def k11c2 : Code := { maxStack := 4, maxLocals := 1, code := jdk_43_method_46_code, exceptionTable := #[], attributes := #[] }
def k11m2 : Method := { name := "toBytes", desc := "(C)[B", sig := { parameters := [.char], returnType := some (.array .byte) }, accessFlags := 9, code := some k11c2 }
/-- java/lang/StringLatin1 -/
def k11 : Class := { plain "java/lang/StringLatin1" (some 0) with
  accessFlags := 48
  interfaces := #[]
  cf := some (fileOf pool11 14 #[.nestMembers #[390, 221]] #[{ accessFlags := 0, nameIndex := 7, descriptorIndex := 8, attributes := #[] }, { accessFlags := 9, nameIndex := 90, descriptorIndex := 105, attributes := #[] }, { accessFlags := 9, nameIndex := 380, descriptorIndex := 382, attributes := #[] }] 48 4 #[] #[{ accessFlags := 4120, nameIndex := 121, descriptorIndex := 122, attributes := #[] }])
  fields := #[{ name := "$assertionsDisabled", type := .boolean, accessFlags := 4120, slot := 0, constantValue := 0 }]
  methods := #[k11m0, k11m1, k11m2]
  instanceTypes := #[]
  staticTypes := #[.boolean]
  resolved := Array.replicate 395 none
  statics := none }

def pool12 : Array CpInfo := pool [(2, .class_ 4), (1, u "java/lang/Object"), (0, u "<init>"), (0, u "()V"), (17, .class_ 26), (1, u "jdk/internal/util/Preconditions"), (28, .class_ 56), (0, u "jdk/internal/util/Preconditions$4"), (57, .class_ 115), (0, u "jdk/internal/util/Preconditions$1"), (7, u "SIOOBE_FORMATTER"), (0, u "Ljava/util/function/BiFunction;"), (0, .class_ 126), (0, u "jdk/internal/util/Preconditions$2"), (3, u "AIOOBE_FORMATTER"), (0, .class_ 132), (0, u "jdk/internal/util/Preconditions$3"), (3, u "IOOBE_FORMATTER")] 57

def k12m0 : Method := { name := "<init>", desc := "()V", sig := { parameters := [], returnType := none }, accessFlags := 1, code := none }
/-- jdk/internal/util/Preconditions -/
def k12 : Class := { plain "jdk/internal/util/Preconditions" (some 0) with
  accessFlags := 33
  interfaces := #[]
  cf := some (fileOf pool12 24 #[.nestMembers #[55, 131, 125, 114]] #[{ accessFlags := 1, nameIndex := 5, descriptorIndex := 6, attributes := #[] }] 33 2 #[] #[{ accessFlags := 25, nameIndex := 123, descriptorIndex := 124, attributes := #[] }, { accessFlags := 25, nameIndex := 130, descriptorIndex := 124, attributes := #[] }, { accessFlags := 25, nameIndex := 136, descriptorIndex := 124, attributes := #[] }])
  fields := #[{ name := "SIOOBE_FORMATTER", type := (.object "java/util/function/BiFunction"), accessFlags := 25, slot := 0, constantValue := 0 }, { name := "AIOOBE_FORMATTER", type := (.object "java/util/function/BiFunction"), accessFlags := 25, slot := 1, constantValue := 0 }, { name := "IOOBE_FORMATTER", type := (.object "java/util/function/BiFunction"), accessFlags := 25, slot := 2, constantValue := 0 }]
  methods := #[k12m0]
  instanceTypes := #[]
  staticTypes := #[(.object "java/util/function/BiFunction"), (.object "java/util/function/BiFunction"), (.object "java/util/function/BiFunction")]
  resolved := Array.replicate 194 none
  statics := some 1 }

def pool13 : Array CpInfo := pool [(9, u "<init>"), (6, .class_ 18), (1, u "java/lang/Object"), (0, u "()V"), (1, .class_ 23), (1, u "jdk/internal/util/ArraysSupport"), (0, u "LOG2_ARRAY_LONG_INDEX_SCALE"), (0, u "I"), (2, u "U"), (0, u "Ljdk/internal/misc/Unsafe;"), (8, u "BIG_ENDIAN"), (0, u "Z"), (8, u "LOG2_BYTE_BIT_SIZE"), (4, u "LOG2_ARRAY_INT_INDEX_SCALE"), (54, u "JLA"), (0, u "Ljdk/internal/access/JavaLangAccess;"), (11, u "LOG2_ARRAY_BOOLEAN_INDEX_SCALE"), (9, u "LOG2_ARRAY_BYTE_INDEX_SCALE"), (5, u "LOG2_ARRAY_CHAR_INDEX_SCALE"), (5, u "LOG2_ARRAY_SHORT_INDEX_SCALE"), (18, u "LOG2_ARRAY_FLOAT_INDEX_SCALE"), (24, u "LOG2_ARRAY_DOUBLE_INDEX_SCALE"), (89, u "T_BOOLEAN"), (2, u "T_CHAR"), (1, u "T_FLOAT"), (1, u "T_DOUBLE"), (1, u "T_BYTE"), (1, u "T_SHORT"), (1, u "T_INT"), (1, u "T_LONG"), (1, u "SOFT_MAX_ARRAY_LENGTH")] 83

def k13m0 : Method := { name := "<init>", desc := "()V", sig := { parameters := [], returnType := none }, accessFlags := 2, code := none }
/-- jdk/internal/util/ArraysSupport -/
def k13 : Class := { plain "jdk/internal/util/ArraysSupport" (some 0) with
  accessFlags := 33
  interfaces := #[]
  cf := some (fileOf pool13 21 #[] #[{ accessFlags := 2, nameIndex := 9, descriptorIndex := 19, attributes := #[] }] 33 16 #[] #[{ accessFlags := 24, nameIndex := 28, descriptorIndex := 29, attributes := #[] }, { accessFlags := 26, nameIndex := 38, descriptorIndex := 39, attributes := #[] }, { accessFlags := 25, nameIndex := 121, descriptorIndex := 25, attributes := #[] }, { accessFlags := 25, nameIndex := 131, descriptorIndex := 25, attributes := #[] }, { accessFlags := 25, nameIndex := 137, descriptorIndex := 25, attributes := #[] }, { accessFlags := 25, nameIndex := 143, descriptorIndex := 25, attributes := #[] }, { accessFlags := 25, nameIndex := 53, descriptorIndex := 25, attributes := #[] }, { accessFlags := 25, nameIndex := 24, descriptorIndex := 25, attributes := #[] }, { accessFlags := 25, nameIndex := 162, descriptorIndex := 25, attributes := #[] }, { accessFlags := 25, nameIndex := 187, descriptorIndex := 25, attributes := #[] }, { accessFlags := 26, nameIndex := 48, descriptorIndex := 25, attributes := #[] }, { accessFlags := 25, nameIndex := 277, descriptorIndex := 25, attributes := #[] }, { accessFlags := 25, nameIndex := 280, descriptorIndex := 25, attributes := #[] }, { accessFlags := 25, nameIndex := 282, descriptorIndex := 25, attributes := #[] }, { accessFlags := 25, nameIndex := 284, descriptorIndex := 25, attributes := #[] }, { accessFlags := 25, nameIndex := 286, descriptorIndex := 25, attributes := #[] }, { accessFlags := 25, nameIndex := 288, descriptorIndex := 25, attributes := #[] }, { accessFlags := 25, nameIndex := 290, descriptorIndex := 25, attributes := #[] }, { accessFlags := 25, nameIndex := 292, descriptorIndex := 25, attributes := #[] }, { accessFlags := 26, nameIndex := 108, descriptorIndex := 109, attributes := #[] }, { accessFlags := 25, nameIndex := 294, descriptorIndex := 25, attributes := #[] }])
  fields := #[{ name := "U", type := (.object "jdk/internal/misc/Unsafe"), accessFlags := 24, slot := 0, constantValue := 0 }, { name := "BIG_ENDIAN", type := .boolean, accessFlags := 26, slot := 1, constantValue := 0 }, { name := "LOG2_ARRAY_BOOLEAN_INDEX_SCALE", type := .int, accessFlags := 25, slot := 2, constantValue := 0 }, { name := "LOG2_ARRAY_BYTE_INDEX_SCALE", type := .int, accessFlags := 25, slot := 3, constantValue := 0 }, { name := "LOG2_ARRAY_CHAR_INDEX_SCALE", type := .int, accessFlags := 25, slot := 4, constantValue := 0 }, { name := "LOG2_ARRAY_SHORT_INDEX_SCALE", type := .int, accessFlags := 25, slot := 5, constantValue := 0 }, { name := "LOG2_ARRAY_INT_INDEX_SCALE", type := .int, accessFlags := 25, slot := 6, constantValue := 0 }, { name := "LOG2_ARRAY_LONG_INDEX_SCALE", type := .int, accessFlags := 25, slot := 7, constantValue := 0 }, { name := "LOG2_ARRAY_FLOAT_INDEX_SCALE", type := .int, accessFlags := 25, slot := 8, constantValue := 0 }, { name := "LOG2_ARRAY_DOUBLE_INDEX_SCALE", type := .int, accessFlags := 25, slot := 9, constantValue := 0 }, { name := "LOG2_BYTE_BIT_SIZE", type := .int, accessFlags := 26, slot := 10, constantValue := 0 }, { name := "T_BOOLEAN", type := .int, accessFlags := 25, slot := 11, constantValue := 0 }, { name := "T_CHAR", type := .int, accessFlags := 25, slot := 12, constantValue := 0 }, { name := "T_FLOAT", type := .int, accessFlags := 25, slot := 13, constantValue := 0 }, { name := "T_DOUBLE", type := .int, accessFlags := 25, slot := 14, constantValue := 0 }, { name := "T_BYTE", type := .int, accessFlags := 25, slot := 15, constantValue := 0 }, { name := "T_SHORT", type := .int, accessFlags := 25, slot := 16, constantValue := 0 }, { name := "T_INT", type := .int, accessFlags := 25, slot := 17, constantValue := 0 }, { name := "T_LONG", type := .int, accessFlags := 25, slot := 18, constantValue := 0 }, { name := "JLA", type := (.object "jdk/internal/access/JavaLangAccess"), accessFlags := 26, slot := 19, constantValue := 0 }, { name := "SOFT_MAX_ARRAY_LENGTH", type := .int, accessFlags := 25, slot := 20, constantValue := 0 }]
  methods := #[k13m0]
  instanceTypes := #[]
  staticTypes := #[(.object "jdk/internal/misc/Unsafe"), .boolean, .int, .int, .int, .int, .int, .int, .int, .int, .int, .int, .int, .int, .int, .int, .int, .int, .int, (.object "jdk/internal/access/JavaLangAccess"), .int]
  resolved := Array.replicate 378 none
  statics := none }

def pool14 : Array CpInfo := pool [(1, u "java/lang/Cloneable"), (0, .class_ 1), (0, u "java/lang/Object"), (0, .class_ 3)] 3

/-- java/lang/Cloneable -/
def k14 : Class := { plain "java/lang/Cloneable" (some 0) with
  accessFlags := 1537
  interfaces := #[]
  cf := some (fileOf pool14 2 #[] #[] 1537 4 #[] #[])
  fields := #[]
  methods := #[]
  instanceTypes := #[]
  staticTypes := #[]
  resolved := Array.replicate 8 none
  statics := none }

/-- the primitive byte -/
def k15 : Class := { plain "byte" none with kind := .primitive 'B', accessFlags := 0x411 }
/-- [B -/
def k16 : Class := { plain "[B" (some 0) with kind := .array 15 .byte, interfaces := #[14, 2], accessFlags := 1041 }

/-- the primitive char -/
def k17 : Class := { plain "char" none with kind := .primitive 'C', accessFlags := 0x411 }
/-- [C -/
def k18 : Class := { plain "[C" (some 0) with kind := .array 17 .char, interfaces := #[14, 2], accessFlags := 1041 }

/-- the primitive int -/
def k19 : Class := { plain "int" none with kind := .primitive 'I', accessFlags := 0x411 }
/-- [I -/
def k20 : Class := { plain "[I" (some 0) with kind := .array 19 .int, interfaces := #[14, 2], accessFlags := 1041 }

def heap : Heap := #[{ cls := 7, slots := #[.long 0, .int 1, .null, .int 0, .null, .int 0, .int 0], vm := .statics 7 },
  { cls := 12, slots := #[.null, .null, .null], vm := .statics 12 }]
def classes : Array Class := #[k0, k1, k2, k3, k4, k5, k6, k7, k8, k9, k10, k11, k12, k13, k14, k15, k16, k17, k18, k19, k20]
def interned : List (Array UInt16 × Addr) := []
def slotsUsed : Nat := 10
def theMethod : MethodId := ⟨1, 2⟩
def args0 : Array Value := #[.int 1, .int 5, .int 65, .int 66, .int 2, .int 1]
def aboutOver (below : List Frame) : State where
  vm := { classes := classes, interned := interned.toArray }
  heap := heap
  slotsUsed := slotsUsed
  threads := #[{ frames := .invoking theMethod args0 :: below }]
def below0 : List Frame := [.native { method := ⟨0, 0⟩, args := #[] }]
def about1 : State := aboutOver below0
def p0 : Program := .bare "" "" ""
def e0 : Env := launch0.env 0 0 0
theorem w_frames : about1.frames = Frame.invoking theMethod args0 :: below0 := rfl
set_option maxRecDepth 65536 in
theorem w_args : argsFit about1.vm theMethod args0 = true := by decide +kernel
set_option maxRecDepth 65536 in
theorem w_heap : heapFits about1 = true := by decide +kernel
set_option maxRecDepth 65536 in
theorem w_runnable : about1.curStatus? = some .runnable := by decide +kernel
set_option maxRecDepth 65536 in
theorem w_alone : about1.alone = true := by decide +kernel
set_option maxRecDepth 65536 in
theorem w_named : about1.methodNamed? x = some theMethod := by decide +kernel
set_option maxRecDepth 65536 in
theorem w_hears : about1.hears theMethod below0 = true := by decide +kernel
set_option maxRecDepth 65536 in
theorem w_ripe : about1.ripe theMethod args0 below0 = true := by decide +kernel
theorem w_running : about1.status = .running := rfl
set_option maxRecDepth 65536 in
theorem w_room : about1.hasRoom e0.platform room_1 = true :=
  launch0.hasRoom_least _ room_1 (by decide +kernel) (by decide +kernel) (by decide +kernel) (by decide +kernel) (by decide +kernel) (by decide +kernel)
theorem allAtoms_all (ts : List Jvm.Cond) (a : Array Jvm.Value) (st : Jvm.State) : (allAtoms ts).before a st = ts.all (fun c => c.before a st) := by
  induction ts with
  | nil => rfl
  | cons c t ih =>
    show (Jvm.Cond.and c (allAtoms t)).before a st = _
    rw [Jvm.Cond.before_and, ih, List.all_cons]
def words1 : List Jvm.Cond := Jvm.Cond.code x code maxLocals ret :: tables_1
/-- a 'code' word, met by the world's own term for the bytes: nothing is compared byte by byte -/
theorem code_word {y : MethodName} {bytes : ByteArray} {mx : Nat} {rt : Option FieldType} {a : Array Value} {s : State} {m : MethodId} {meth : Method} {c : Code} (h1 : s.methodNamed? y = some m) (h2 : s.vm.method? m = some meth) (h3 : meth.code = some c) (h4 : c.code = bytes)
    (h5 : (c.maxLocals == mx && c.exceptionTable.isEmpty && decide (c.maxStack ≤ mostOperands) && decide (meth.sig.returnType = rt) && !meth.locks && decide (parseMethodDescriptor y.desc = some meth.sig)) = true) : (Jvm.Cond.code y bytes mx rt).before a s = true := by
  simp only [Bool.and_eq_true, beq_iff_eq, Bool.not_eq_true', decide_eq_true_eq] at h5
  obtain ⟨⟨⟨⟨⟨g1, g2⟩, g3⟩, g4⟩, g5⟩, g6⟩ := h5
  simp [Cond.before, Cond.holds, Cond.value, h1, h2, h3, h4, g1, g2, g3, g4, g5, g6]
def isCode : Jvm.Cond → Bool
  | .code _ _ _ _ => true
  | _ => false
theorem all_split {L : List Jvm.Cond} {P : Jvm.Cond → Bool} (h1 : L.all (fun c => isCode c || P c) = true) (h2 : ∀ c ∈ L.filter isCode, P c = true) : L.all P = true := by
  refine List.all_eq_true.mpr fun c hc => ?_
  have h := List.all_eq_true.mp h1 c hc
  rcases Bool.eq_false_or_eq_true (isCode c) with hi | hi
  · exact h2 c (List.mem_filter.mpr ⟨hc, hi⟩)
  · simpa [hi] using h
set_option maxRecDepth 65536 in
theorem w_c0 : (Jvm.Cond.code x code maxLocals ret).before args0 about1 = true := code_word (m := ⟨1, 2⟩) (meth := k1m2) (c := k1c2) (by decide +kernel) rfl rfl rfl (by decide +kernel)
set_option maxRecDepth 65536 in
theorem w_c1 : (Jvm.Cond.code ({ cls := "com/example/sensebid/sensebid/Audit$Verdict", name := "<init>", desc := "(Ljava/lang/String;ILjava/lang/String;)V" } : Jvm.MethodName) prog_2_method_1_code (4 : Nat) (Option.none : Option Jvm.ClassFile.FieldType)).before args0 about1 = true := code_word (m := ⟨9, 0⟩) (meth := k9m0) (c := k9c0) (by decide +kernel) rfl rfl rfl (by decide +kernel)
set_option maxRecDepth 65536 in
theorem w_c2 : (Jvm.Cond.code ({ cls := "java/lang/Record", name := "<init>", desc := "()V" } : Jvm.MethodName) jdk_30_method_1_code (1 : Nat) (Option.none : Option Jvm.ClassFile.FieldType)).before args0 about1 = true := code_word (m := ⟨8, 0⟩) (meth := k8m0) (c := k8c0) (by decide +kernel) rfl rfl rfl (by decide +kernel)
set_option maxRecDepth 65536 in
theorem w_c3 : (Jvm.Cond.code ({ cls := "java/lang/Object", name := "<init>", desc := "()V" } : Jvm.MethodName) object_method_1_code (1 : Nat) (Option.none : Option Jvm.ClassFile.FieldType)).before args0 about1 = true := code_word (m := ⟨0, 0⟩) (meth := k0m0) (c := k0c0) (by decide +kernel) rfl rfl rfl (by decide +kernel)
set_option maxRecDepth 65536 in
theorem w_c4 : (Jvm.Cond.code ({ cls := "com/example/sensebid/sensebid/Audit$Verdict", name := "held", desc := "()Z" } : Jvm.MethodName) prog_2_method_2_code (1 : Nat) (Option.some Jvm.ClassFile.FieldType.boolean)).before args0 about1 = true := code_word (m := ⟨9, 1⟩) (meth := k9m1) (c := k9c1) (by decide +kernel) rfl rfl rfl (by decide +kernel)
set_option maxRecDepth 65536 in
theorem w_c5 : (Jvm.Cond.code ({ cls := "com/example/sensebid/sensebid/VerdictHeldPinLaw", name := "drawn", desc := "(III)Ljava/lang/String;" } : Jvm.MethodName) method_2_code (5 : Nat) (Option.some (Jvm.ClassFile.FieldType.object "java/lang/String"))).before args0 about1 = true := code_word (m := ⟨1, 1⟩) (meth := k1m1) (c := k1c1) (by decide +kernel) rfl rfl rfl (by decide +kernel)
set_option maxRecDepth 65536 in
theorem w_c6 : (Jvm.Cond.code ({ cls := "java/lang/String", name := "<init>", desc := "([C)V" } : Jvm.MethodName) jdk_42_method_3_code (2 : Nat) (Option.none : Option Jvm.ClassFile.FieldType)).before args0 about1 = true := code_word (m := ⟨7, 1⟩) (meth := k7m1) (c := k7c1) (by decide +kernel) rfl rfl rfl (by decide +kernel)
set_option maxRecDepth 65536 in
theorem w_c7 : (Jvm.Cond.code ({ cls := "java/lang/String", name := "<init>", desc := "([CIILjava/lang/Void;)V" } : Jvm.MethodName) jdk_42_method_149_code (6 : Nat) (Option.none : Option Jvm.ClassFile.FieldType)).before args0 about1 = true := code_word (m := ⟨7, 3⟩) (meth := k7m3) (c := k7c3) (by decide +kernel) rfl rfl rfl (by decide +kernel)
set_option maxRecDepth 65536 in
theorem w_c8 : (Jvm.Cond.code ({ cls := "java/lang/StringUTF16", name := "compress", desc := "([CII)[B" } : Jvm.MethodName) jdk_52_method_16_code (6 : Nat) (Option.some (Jvm.ClassFile.FieldType.array Jvm.ClassFile.FieldType.byte))).before args0 about1 = true := code_word (m := ⟨10, 2⟩) (meth := k10m2) (c := k10c2) (by decide +kernel) rfl rfl rfl (by decide +kernel)
set_option maxRecDepth 65536 in
theorem w_c9 : (Jvm.Cond.code ({ cls := "java/lang/StringUTF16", name := "compress", desc := "([CI[BII)I" } : Jvm.MethodName) jdk_52_method_21_code (7 : Nat) (Option.some Jvm.ClassFile.FieldType.int)).before args0 about1 = true := code_word (m := ⟨10, 3⟩) (meth := k10m3) (c := k10c3) (by decide +kernel) rfl rfl rfl (by decide +kernel)
set_option maxRecDepth 65536 in
theorem w_c10 : (Jvm.Cond.code ({ cls := "java/lang/StringUTF16", name := "coderFromArrayLen", desc := "([BI)B" } : Jvm.MethodName) jdk_52_method_15_code (2 : Nat) (Option.some Jvm.ClassFile.FieldType.byte)).before args0 about1 = true := code_word (m := ⟨10, 1⟩) (meth := k10m1) (c := k10c1) (by decide +kernel) rfl rfl rfl (by decide +kernel)
set_option maxRecDepth 65536 in
theorem w_c11 : (Jvm.Cond.code ({ cls := "java/lang/String", name := "valueOf", desc := "(C)Ljava/lang/String;" } : Jvm.MethodName) jdk_42_method_139_code (1 : Nat) (Option.some (Jvm.ClassFile.FieldType.object "java/lang/String"))).before args0 about1 = true := code_word (m := ⟨7, 2⟩) (meth := k7m2) (c := k7c2) (by decide +kernel) rfl rfl rfl (by decide +kernel)
set_option maxRecDepth 65536 in
theorem w_c12 : (Jvm.Cond.code ({ cls := "java/lang/StringLatin1", name := "canEncode", desc := "(C)Z" } : Jvm.MethodName) jdk_43_method_3_code (1 : Nat) (Option.some Jvm.ClassFile.FieldType.boolean)).before args0 about1 = true := code_word (m := ⟨11, 1⟩) (meth := k11m1) (c := k11c1) (by decide +kernel) rfl rfl rfl (by decide +kernel)
set_option maxRecDepth 65536 in
theorem w_c13 : (Jvm.Cond.code ({ cls := "java/lang/StringLatin1", name := "toBytes", desc := "(C)[B" } : Jvm.MethodName) jdk_43_method_46_code (1 : Nat) (Option.some (Jvm.ClassFile.FieldType.array Jvm.ClassFile.FieldType.byte))).before args0 about1 = true := code_word (m := ⟨11, 2⟩) (meth := k11m2) (c := k11c2) (by decide +kernel) rfl rfl rfl (by decide +kernel)
set_option maxRecDepth 65536 in
theorem w_c14 : (Jvm.Cond.code ({ cls := "java/lang/String", name := "<init>", desc := "([BB)V" } : Jvm.MethodName) jdk_42_method_151_code (3 : Nat) (Option.none : Option Jvm.ClassFile.FieldType)).before args0 about1 = true := code_word (m := ⟨7, 4⟩) (meth := k7m4) (c := k7c4) (by decide +kernel) rfl rfl rfl (by decide +kernel)
def codes1 : List Jvm.Cond := [Jvm.Cond.code x code maxLocals ret, Jvm.Cond.code ({ cls := "com/example/sensebid/sensebid/Audit$Verdict", name := "<init>", desc := "(Ljava/lang/String;ILjava/lang/String;)V" } : Jvm.MethodName) prog_2_method_1_code (4 : Nat) (Option.none : Option Jvm.ClassFile.FieldType), Jvm.Cond.code ({ cls := "java/lang/Record", name := "<init>", desc := "()V" } : Jvm.MethodName) jdk_30_method_1_code (1 : Nat) (Option.none : Option Jvm.ClassFile.FieldType), Jvm.Cond.code ({ cls := "java/lang/Object", name := "<init>", desc := "()V" } : Jvm.MethodName) object_method_1_code (1 : Nat) (Option.none : Option Jvm.ClassFile.FieldType), Jvm.Cond.code ({ cls := "com/example/sensebid/sensebid/Audit$Verdict", name := "held", desc := "()Z" } : Jvm.MethodName) prog_2_method_2_code (1 : Nat) (Option.some Jvm.ClassFile.FieldType.boolean), Jvm.Cond.code ({ cls := "com/example/sensebid/sensebid/VerdictHeldPinLaw", name := "drawn", desc := "(III)Ljava/lang/String;" } : Jvm.MethodName) method_2_code (5 : Nat) (Option.some (Jvm.ClassFile.FieldType.object "java/lang/String")), Jvm.Cond.code ({ cls := "java/lang/String", name := "<init>", desc := "([C)V" } : Jvm.MethodName) jdk_42_method_3_code (2 : Nat) (Option.none : Option Jvm.ClassFile.FieldType), Jvm.Cond.code ({ cls := "java/lang/String", name := "<init>", desc := "([CIILjava/lang/Void;)V" } : Jvm.MethodName) jdk_42_method_149_code (6 : Nat) (Option.none : Option Jvm.ClassFile.FieldType), Jvm.Cond.code ({ cls := "java/lang/StringUTF16", name := "compress", desc := "([CII)[B" } : Jvm.MethodName) jdk_52_method_16_code (6 : Nat) (Option.some (Jvm.ClassFile.FieldType.array Jvm.ClassFile.FieldType.byte)), Jvm.Cond.code ({ cls := "java/lang/StringUTF16", name := "compress", desc := "([CI[BII)I" } : Jvm.MethodName) jdk_52_method_21_code (7 : Nat) (Option.some Jvm.ClassFile.FieldType.int), Jvm.Cond.code ({ cls := "java/lang/StringUTF16", name := "coderFromArrayLen", desc := "([BI)B" } : Jvm.MethodName) jdk_52_method_15_code (2 : Nat) (Option.some Jvm.ClassFile.FieldType.byte), Jvm.Cond.code ({ cls := "java/lang/String", name := "valueOf", desc := "(C)Ljava/lang/String;" } : Jvm.MethodName) jdk_42_method_139_code (1 : Nat) (Option.some (Jvm.ClassFile.FieldType.object "java/lang/String")), Jvm.Cond.code ({ cls := "java/lang/StringLatin1", name := "canEncode", desc := "(C)Z" } : Jvm.MethodName) jdk_43_method_3_code (1 : Nat) (Option.some Jvm.ClassFile.FieldType.boolean), Jvm.Cond.code ({ cls := "java/lang/StringLatin1", name := "toBytes", desc := "(C)[B" } : Jvm.MethodName) jdk_43_method_46_code (1 : Nat) (Option.some (Jvm.ClassFile.FieldType.array Jvm.ClassFile.FieldType.byte)), Jvm.Cond.code ({ cls := "java/lang/String", name := "<init>", desc := "([BB)V" } : Jvm.MethodName) jdk_42_method_151_code (3 : Nat) (Option.none : Option Jvm.ClassFile.FieldType)]
set_option maxRecDepth 65536 in
theorem codes_eq : words1.filter isCode = codes1 := rfl
theorem w_codes : ∀ c ∈ words1.filter isCode, c.before args0 about1 = true := by
  rw [codes_eq]
  intro c hc
  simp only [codes1, List.mem_cons, List.not_mem_nil, or_false] at hc
  rcases hc with rfl | rfl | rfl | rfl | rfl | rfl | rfl | rfl | rfl | rfl | rfl | rfl | rfl | rfl | rfl
  · exact w_c0
  · exact w_c1
  · exact w_c2
  · exact w_c3
  · exact w_c4
  · exact w_c5
  · exact w_c6
  · exact w_c7
  · exact w_c8
  · exact w_c9
  · exact w_c10
  · exact w_c11
  · exact w_c12
  · exact w_c13
  · exact w_c14
set_option maxRecDepth 65536 in
theorem w_t1 : (words1.take 24).all (fun c => isCode c || c.before args0 about1) = true := by decide +kernel
set_option maxRecDepth 65536 in
theorem w_t2 : ((words1.drop 24).take 24).all (fun c => isCode c || c.before args0 about1) = true := by decide +kernel
set_option maxRecDepth 65536 in
theorem w_t3 : (((words1.drop 24).drop 24).take 24).all (fun c => isCode c || c.before args0 about1) = true := by decide +kernel
set_option maxRecDepth 65536 in
theorem w_t4 : (((words1.drop 24).drop 24).drop 24).all (fun c => isCode c || c.before args0 about1) = true := by decide +kernel
theorem w_tables : (allAtoms (Jvm.Cond.code x code maxLocals ret :: tables_1)).before args0 about1 = true := by
  rw [allAtoms_all]
  show words1.all (fun c => c.before args0 about1) = true
  refine all_split ?_ w_codes
  rw [← List.take_append_drop 24 words1, List.all_append, w_t1, ← List.take_append_drop 24 (words1.drop 24), List.all_append, w_t2, ← List.take_append_drop 24 ((words1.drop 24).drop 24), List.all_append, w_t3, w_t4]
  rfl
set_option maxRecDepth 65536 in
theorem w_rest : rest_1_c.before args0 about1 = true := by decide +kernel
set_option maxRecDepth 65536 in
theorem w_case : (Jvm.Cond.and given_1 narrow_1).before args0 about1 = true := by decide +kernel
theorem w_applies : (headSpec (Jvm.Cond.code x code maxLocals ret :: tables_1) room_1).applies x e0.platform about1 = true :=
  (Spec.applies_iff w_frames).mpr ⟨w_running, w_runnable, w_alone, w_named, w_hears, w_ripe, w_room, w_tables⟩
theorem atStart : AtStart classFile x code maxLocals ret World_1 tables_1 room_1 Calls_1 rest_1 Pre_1 launch0 p0 e0 about1 theMethod args0 below0 :=
  ⟨lists_1, trivial, launch0.admits_env _ _ _, launch0.least_env, fairChoices_fair.cas, fairChoices_fair.clock, w_frames, w_args, w_heap, w_applies, trivial, w_rest, w_case⟩
end start1
theorem witness_1 : WitnessClaimed_1 := ⟨start1.p0, start1.e0, start1.about1, start1.theMethod, start1.args0, start1.below0, start1.atStart⟩
end Jvm.Pilot.@@N@@
