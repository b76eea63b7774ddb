import JvmDerived
import JvmDerived.Pilot.@@N@@Statement
import JvmDerived.Pilot.@@N@@Code
set_option linter.unusedVariables false
set_option linter.unusedSimpArgs false
namespace Jvm.Pilot.@@N@@
open Jvm Jvm.ClassFile Sem Op Lib Jvm.Free Jvm.Stand Jvm.LawKit Jvm.RoadKit Bundle Jvm.Pilot.@@N@@.Jvm.D
/-! own_: a walk in backward style: 'Ends': from here the body comes to its end and Q holds there. One law an instruction, over frames written mkF. -/
namespace Wk
section
variable {p : Program} {l : Launch} {e : Env} {R : Room} {s : State} {m : MethodId} {args : Array Value} {below : List Frame} {meth : Method} {c : Code} {T : State} {locs : List Loc} {cells slots : Nat} {Z : State} {a0 : Array Value} {h : Heap} {y : MethodName} {cd : ByteArray} {ml : Nat} {ret : Option FieldType} {Q : Option Value → Heap → List Loc → Prop} {pc pc' : Nat} {ls : Array Slot} {st : List Value}
/-- the run from T with the frame f comes to the body's end, and Q holds there -/
def Ends (p : Program) (e : Env) (s : State) (below : List Frame) (R : Room) (Q : Option Value → Heap → List Loc → Prop) (T : State) (f : JFrame) : Prop :=
  ∃ s₂ o, Steps p.tables e below (T.setTop f) s₂ ∧ s₂.status = .running ∧ Ended s₂ below o ∧ ∃ v L, o = .returned v ∧ Q v s₂.heap L ∧ FrameEnd s o s₂ L R.cells R.slots
/-- what stands still while one body is walked -/
def K (p : Program) (s : State) (m : MethodId) (meth : Method) (c : Code) (Z : State) (y : MethodName) (cd : ByteArray) (ml : Nat) (ret : Option FieldType) : Prop :=
  p.tables.exec = Jvm.exec ∧ Z.Warmed39 s.vm ∧ c.code = cd ∧ c.maxLocals = ml ∧ s.vm.findClass y.cls = some m.cls ∧ meth.sig.returnType = ret ∧ meth.locks = false ∧ meth.name = y.name
/-- a body's contract: called with as' over the heap h it returns, and Q holds -/
def Met (l : Launch) (y : MethodName) (cd : ByteArray) (ml : Nat) (ret : Option FieldType) (rm : Room) (as' : Array Value) (Z : State) (h : Heap) (Q : Option Value → Heap → List Loc → Prop) (ws : List Jvm.Cond) : Prop :=
  MetFree l y (head1 (Jvm.Cond.code y cd ml ret :: ws) rm) (fun a U => a = as' ∧ Z.Warmed39 U.vm ∧ U.heap = h) (fun _ _ _ _ _ => True) (fun _ U o U' => ∃ v L, o = .returned v ∧ Q v U'.heap L ∧ FrameEnd U o U' L rm.cells rm.slots)
theorem enter {rm : Room} {as' : Array Value} {ws : List Jvm.Cond} (hpl : plainFor y = true)
    (body : ∀ (p : Program) (e : Env) (s : State) (m : MethodId) (below : List Frame) (meth : Method) (c : Code) (T : State), K p s m meth c Z y cd ml ret → Stand p l e rm s m as' below meth c T [] 0 0 → T.heap = h → Ends p e s below rm Q T (entryFrame m as' ml)) :
    Met l y cd ml ret rm as' Z h Q ws := by
  refine MetFree.of_bodySF hpl hisR ?_
  intro p e s m args below meth c s₁ Bd hml0 hP hK
  obtain ⟨rfl, hZ, hh⟩ := hP
  exact body p e s m below meth c s₁ ⟨Bd.exec, hZ, Bd.bytes, hml0, findClass_of_methodNamed Bd.named, Bd.returns, Bd.notSynchronized, (name_of_methodNamed Bd.named Bd.method).1⟩ (Stand.of_body Bd) (by rw [← hh, Bd.state]; rfl)
theorem Ends.map {T' : State} {f f' : JFrame} (st : ∀ target, Steps p.tables e below (T'.setTop f') target → Steps p.tables e below (T.setTop f) target) (h : Ends p e s below R Q T' f') : Ends p e s below R Q T f := by
  obtain ⟨s₂, o, h1, h2⟩ := h
  exact ⟨s₂, o, st _ h1, h2⟩
theorem Ends.cast {f f' : JFrame} (q : f = f') (h : Ends p e s below R Q T f') : Ends p e s below R Q T f := q ▸ h
theorem w {ws : List Jvm.Cond} (hw : ∀ d ∈ ws, d.before a0 Z = true) (i : Nat) {d : Jvm.Cond} (q : ws[i]? = some d) : d.before a0 Z = true := hw d (List.mem_of_getElem? q)
/-! loads, stores, constants -/
theorem iload_n (k : K p s m meth c Z y cd ml ret) (X : Stand p l e R s m args below meth c T locs cells slots) {i : Fin 4} {v : Int32} (hd : decode cd pc = .ok (.iload_n i, 1)) (hl : ls[i.val]? = some (.val (.int v))) (pc' : Nat) (hp : pc + 1 = pc') (h : Ends p e s below R Q T (mkF m pc' ls (.int v :: st))) : Ends p e s below R Q T (mkF m pc ls st) := by
  subst hp; exact h.map fun _ q => XS.iloadN X.here k.1 rfl (hb k.2.2.1 hd) hl q
theorem iload (k : K p s m meth c Z y cd ml ret) (X : Stand p l e R s m args below meth c T locs cells slots) {i : Nat} {v : Int32} (hd : decode cd pc = .ok (.iload i, 2)) (hl : ls[i]? = some (.val (.int v))) (pc' : Nat) (hp : pc + 2 = pc') (h : Ends p e s below R Q T (mkF m pc' ls (.int v :: st))) : Ends p e s below R Q T (mkF m pc ls st) := by
  subst hp; exact h.map fun _ q => XS.iload X.here k.1 rfl (hb k.2.2.1 hd) hl q
theorem lload_n (k : K p s m meth c Z y cd ml ret) (X : Stand p l e R s m args below meth c T locs cells slots) {i : Fin 4} {v : Int64} (hd : decode cd pc = .ok (.lload_n i, 1)) (hl : ls[i.val]? = some (.val (.long v))) (pc' : Nat) (hp : pc + 1 = pc') (h : Ends p e s below R Q T (mkF m pc' ls (.long v :: st))) : Ends p e s below R Q T (mkF m pc ls st) := by
  subst hp; exact h.map fun _ q => XS.lloadN X.here k.1 rfl (hb k.2.2.1 hd) hl q
theorem lload (k : K p s m meth c Z y cd ml ret) (X : Stand p l e R s m args below meth c T locs cells slots) {i : Nat} {v : Int64} (hd : decode cd pc = .ok (.lload i, 2)) (hl : ls[i]? = some (.val (.long v))) (pc' : Nat) (hp : pc + 2 = pc') (h : Ends p e s below R Q T (mkF m pc' ls (.long v :: st))) : Ends p e s below R Q T (mkF m pc ls st) := by
  subst hp; exact h.map fun _ q => XS.lload X.here k.1 rfl (hb k.2.2.1 hd) hl q
theorem aload_n (k : K p s m meth c Z y cd ml ret) (X : Stand p l e R s m args below meth c T locs cells slots) {i : Fin 4} {v : Value} (hd : decode cd pc = .ok (.aload_n i, 1)) (hl : ls[i.val]? = some (.val v)) (hv : v.isRef = true) (pc' : Nat) (hp : pc + 1 = pc') (h : Ends p e s below R Q T (mkF m pc' ls (v :: st))) : Ends p e s below R Q T (mkF m pc ls st) := by
  subst hp; exact h.map fun _ q => XS.aloadN X.here k.1 rfl (hb k.2.2.1 hd) hl hv q
theorem aload (k : K p s m meth c Z y cd ml ret) (X : Stand p l e R s m args below meth c T locs cells slots) {i : Nat} {v : Value} (hd : decode cd pc = .ok (.aload i, 2)) (hl : ls[i]? = some (.val v)) (hv : v.isRef = true) (pc' : Nat) (hp : pc + 2 = pc') (h : Ends p e s below R Q T (mkF m pc' ls (v :: st))) : Ends p e s below R Q T (mkF m pc ls st) := by
  subst hp; exact h.map fun _ q => XS.aload X.here k.1 rfl (hb k.2.2.1 hd) hl hv q
theorem istore_n (k : K p s m meth c Z y cd ml ret) (X : Stand p l e R s m args below meth c T locs cells slots) {i : Fin 4} {v : Int32} (hd : decode cd pc = .ok (.istore_n i, 1)) (ls' : Array Slot) (hl : storeLocals ls i.val (.int v) = some ls') (pc' : Nat) (hp : pc + 1 = pc') (h : Ends p e s below R Q T (mkF m pc' ls' st)) : Ends p e s below R Q T (mkF m pc ls (.int v :: st)) := by
  subst hp; exact h.map fun _ q => XS.istoreN X.here k.1 rfl (hb k.2.2.1 hd) rfl hl q
theorem istore (k : K p s m meth c Z y cd ml ret) (X : Stand p l e R s m args below meth c T locs cells slots) {i : Nat} {v : Int32} (hd : decode cd pc = .ok (.istore i, 2)) (ls' : Array Slot) (hl : storeLocals ls i (.int v) = some ls') (pc' : Nat) (hp : pc + 2 = pc') (h : Ends p e s below R Q T (mkF m pc' ls' st)) : Ends p e s below R Q T (mkF m pc ls (.int v :: st)) := by
  subst hp; exact h.map fun _ q => XS.istore X.here k.1 rfl (hb k.2.2.1 hd) rfl hl q
theorem lstore_n (k : K p s m meth c Z y cd ml ret) (X : Stand p l e R s m args below meth c T locs cells slots) {i : Fin 4} {v : Int64} (hd : decode cd pc = .ok (.lstore_n i, 1)) (ls' : Array Slot) (hl : storeLocals ls i.val (.long v) = some ls') (pc' : Nat) (hp : pc + 1 = pc') (h : Ends p e s below R Q T (mkF m pc' ls' st)) : Ends p e s below R Q T (mkF m pc ls (.long v :: st)) := by
  subst hp; exact h.map fun _ q => XS.lstoreN X.here k.1 rfl (hb k.2.2.1 hd) rfl hl q
theorem lstore (k : K p s m meth c Z y cd ml ret) (X : Stand p l e R s m args below meth c T locs cells slots) {i : Nat} {v : Int64} (hd : decode cd pc = .ok (.lstore i, 2)) (ls' : Array Slot) (hl : storeLocals ls i (.long v) = some ls') (pc' : Nat) (hp : pc + 2 = pc') (h : Ends p e s below R Q T (mkF m pc' ls' st)) : Ends p e s below R Q T (mkF m pc ls (.long v :: st)) := by
  subst hp; exact h.map fun _ q => XS.lstore X.here k.1 rfl (hb k.2.2.1 hd) rfl hl q
theorem astore_n (k : K p s m meth c Z y cd ml ret) (X : Stand p l e R s m args below meth c T locs cells slots) {i : Fin 4} {v : Value} (hd : decode cd pc = .ok (.astore_n i, 1)) (hv : v.isRef = true) (ls' : Array Slot) (hl : storeLocals ls i.val v = some ls') (pc' : Nat) (hp : pc + 1 = pc') (h : Ends p e s below R Q T (mkF m pc' ls' st)) : Ends p e s below R Q T (mkF m pc ls (v :: st)) := by
  subst hp; exact h.map fun _ q => XS.astoreN X.here k.1 rfl (hb k.2.2.1 hd) rfl hv hl q
theorem astore (k : K p s m meth c Z y cd ml ret) (X : Stand p l e R s m args below meth c T locs cells slots) {i : Nat} {v : Value} (hd : decode cd pc = .ok (.astore i, 2)) (hv : v.isRef = true) (ls' : Array Slot) (hl : storeLocals ls i v = some ls') (pc' : Nat) (hp : pc + 2 = pc') (h : Ends p e s below R Q T (mkF m pc' ls' st)) : Ends p e s below R Q T (mkF m pc ls (v :: st)) := by
  subst hp; exact h.map fun _ q => XS.astore X.here k.1 rfl (hb k.2.2.1 hd) rfl hv hl q
theorem iinc (k : K p s m meth c Z y cd ml ret) (X : Stand p l e R s m args below meth c T locs cells slots) {i : Nat} {n : Int} {v : Int32} (hd : decode cd pc = .ok (.iinc i n, 3)) (hl : ls[i]? = some (.val (.int v))) (ls' : Array Slot) (hl' : storeLocals ls i (.int (v + Int32.ofInt n)) = some ls') (pc' : Nat) (hp : pc + 3 = pc') (h : Ends p e s below R Q T (mkF m pc' ls' st)) : Ends p e s below R Q T (mkF m pc ls st) := by
  subst hp; exact h.map fun _ q => XS.iinc X.here k.1 rfl (hb k.2.2.1 hd) hl hl' q
theorem iconst (k : K p s m meth c Z y cd ml ret) (X : Stand p l e R s m args below meth c T locs cells slots) {i : Int} (hd : decode cd pc = .ok (.iconst i, 1)) (z : Int32) (hz : Int32.ofInt i = z) (pc' : Nat) (hp : pc + 1 = pc') (h : Ends p e s below R Q T (mkF m pc' ls (.int z :: st))) : Ends p e s below R Q T (mkF m pc ls st) := by
  subst hp hz; exact h.map fun _ q => XS.iconst X.here k.1 rfl (hb k.2.2.1 hd) q
theorem bipush (k : K p s m meth c Z y cd ml ret) (X : Stand p l e R s m args below meth c T locs cells slots) {i : Int} (hd : decode cd pc = .ok (.bipush i, 2)) (z : Int32) (hz : (Int8.ofInt i).toInt32 = z) (pc' : Nat) (hp : pc + 2 = pc') (h : Ends p e s below R Q T (mkF m pc' ls (.int z :: st))) : Ends p e s below R Q T (mkF m pc ls st) := by
  subst hp hz; exact h.map fun _ q => XS.bipush X.here k.1 rfl (hb k.2.2.1 hd) q
theorem sipush (k : K p s m meth c Z y cd ml ret) (X : Stand p l e R s m args below meth c T locs cells slots) {i : Int} (hd : decode cd pc = .ok (.sipush i, 3)) (z : Int32) (hz : (Int16.ofInt i).toInt32 = z) (pc' : Nat) (hp : pc + 3 = pc') (h : Ends p e s below R Q T (mkF m pc' ls (.int z :: st))) : Ends p e s below R Q T (mkF m pc ls st) := by
  subst hp hz; exact h.map fun _ q => XS.sipush X.here k.1 rfl (hb k.2.2.1 hd) q
theorem lconst (k : K p s m meth c Z y cd ml ret) (X : Stand p l e R s m args below meth c T locs cells slots) {i : Fin 2} (hd : decode cd pc = .ok (.lconst i, 1)) (z : Int64) (hz : Int64.ofNat i = z) (pc' : Nat) (hp : pc + 1 = pc') (h : Ends p e s below R Q T (mkF m pc' ls (.long z :: st))) : Ends p e s below R Q T (mkF m pc ls st) := by
  subst hp hz; exact h.map fun _ q => XS.lconst X.here k.1 rfl (hb k.2.2.1 hd) q
theorem aconst_null (k : K p s m meth c Z y cd ml ret) (X : Stand p l e R s m args below meth c T locs cells slots) (hd : decode cd pc = .ok (.aconst_null, 1)) (pc' : Nat) (hp : pc + 1 = pc') (h : Ends p e s below R Q T (mkF m pc' ls (.null :: st))) : Ends p e s below R Q T (mkF m pc ls st) := by
  subst hp; exact h.map fun _ q => XS.aconstNull X.here k.1 rfl (hb k.2.2.1 hd) q
theorem ldc (k : K p s m meth c Z y cd ml ret) (X : Stand p l e R s m args below meth c T locs cells slots) {i : Nat} {z : Int32} (hd : decode cd pc = .ok (.ldc i, 2)) (hc : (Jvm.Cond.constant y.cls i z).before a0 Z = true) (pc' : Nat) (hp : pc + 2 = pc') (h : Ends p e s below R Q T (mkF m pc' ls (.int z :: st))) : Ends p e s below R Q T (mkF m pc ls st) := by
  subst hp; exact h.map (X.ldcInt k.1 k.2.2.2.2.1 (mvT k.2.1 hc) rfl (hb k.2.2.1 hd))
theorem ldc2_w (k : K p s m meth c Z y cd ml ret) (X : Stand p l e R s m args below meth c T locs cells slots) {i : Nat} {z : Int64} (hd : decode cd pc = .ok (.ldc2_w i, 3)) (hc : (Jvm.Cond.constantLong y.cls i z).before a0 Z = true) (pc' : Nat) (hp : pc + 3 = pc') (h : Ends p e s below R Q T (mkF m pc' ls (.long z :: st))) : Ends p e s below R Q T (mkF m pc ls st) := by
  subst hp; exact h.map (X.ldc2Long k.1 k.2.2.2.2.1 (mvT k.2.1 hc) rfl (hb k.2.2.1 hd))
theorem ldcF (k : K p s m meth c Z y cd ml ret) (X : Stand p l e R s m args below meth c T locs cells slots) {i : Nat} {z : UInt32} (hd : decode cd pc = .ok (.ldc i, 2)) (hc : (Jvm.Cond.constantFloat y.cls i z).before a0 Z = true) (pc' : Nat) (hp : pc + 2 = pc') (h : Ends p e s below R Q T (mkF m pc' ls (.float z :: st))) : Ends p e s below R Q T (mkF m pc ls st) := by
  subst hp; exact h.map (X.ldcFloatC k.1 k.2.2.2.2.1 (mvT k.2.1 hc) rfl (hb k.2.2.1 hd))
/-! arithmetic -/
theorem iadd (k : K p s m meth c Z y cd ml ret) (X : Stand p l e R s m args below meth c T locs cells slots) {a : Int32} {b : Int32} (hd : decode cd pc = .ok (.iadd, 1)) (pc' : Nat) (hp : pc + 1 = pc') (h : Ends p e s below R Q T (mkF m pc' ls (.int (a + b) :: st))) : Ends p e s below R Q T (mkF m pc ls (.int b :: .int a :: st)) := by
  subst hp; exact h.map fun _ q => XS.iadd X.here k.1 rfl (hb k.2.2.1 hd) rfl q
theorem ladd (k : K p s m meth c Z y cd ml ret) (X : Stand p l e R s m args below meth c T locs cells slots) {a : Int64} {b : Int64} (hd : decode cd pc = .ok (.ladd, 1)) (pc' : Nat) (hp : pc + 1 = pc') (h : Ends p e s below R Q T (mkF m pc' ls (.long (a + b) :: st))) : Ends p e s below R Q T (mkF m pc ls (.long b :: .long a :: st)) := by
  subst hp; exact h.map fun _ q => XS.ladd X.here k.1 rfl (hb k.2.2.1 hd) rfl q
theorem isub (k : K p s m meth c Z y cd ml ret) (X : Stand p l e R s m args below meth c T locs cells slots) {a : Int32} {b : Int32} (hd : decode cd pc = .ok (.isub, 1)) (pc' : Nat) (hp : pc + 1 = pc') (h : Ends p e s below R Q T (mkF m pc' ls (.int (a - b) :: st))) : Ends p e s below R Q T (mkF m pc ls (.int b :: .int a :: st)) := by
  subst hp; exact h.map fun _ q => XS.isub X.here k.1 rfl (hb k.2.2.1 hd) rfl q
theorem lsub (k : K p s m meth c Z y cd ml ret) (X : Stand p l e R s m args below meth c T locs cells slots) {a : Int64} {b : Int64} (hd : decode cd pc = .ok (.lsub, 1)) (pc' : Nat) (hp : pc + 1 = pc') (h : Ends p e s below R Q T (mkF m pc' ls (.long (a - b) :: st))) : Ends p e s below R Q T (mkF m pc ls (.long b :: .long a :: st)) := by
  subst hp; exact h.map fun _ q => XS.lsub X.here k.1 rfl (hb k.2.2.1 hd) rfl q
theorem imul (k : K p s m meth c Z y cd ml ret) (X : Stand p l e R s m args below meth c T locs cells slots) {a : Int32} {b : Int32} (hd : decode cd pc = .ok (.imul, 1)) (pc' : Nat) (hp : pc + 1 = pc') (h : Ends p e s below R Q T (mkF m pc' ls (.int (a * b) :: st))) : Ends p e s below R Q T (mkF m pc ls (.int b :: .int a :: st)) := by
  subst hp; exact h.map fun _ q => XS.imul X.here k.1 rfl (hb k.2.2.1 hd) rfl q
theorem lmul (k : K p s m meth c Z y cd ml ret) (X : Stand p l e R s m args below meth c T locs cells slots) {a : Int64} {b : Int64} (hd : decode cd pc = .ok (.lmul, 1)) (pc' : Nat) (hp : pc + 1 = pc') (h : Ends p e s below R Q T (mkF m pc' ls (.long (a * b) :: st))) : Ends p e s below R Q T (mkF m pc ls (.long b :: .long a :: st)) := by
  subst hp; exact h.map fun _ q => XS.lmul X.here k.1 rfl (hb k.2.2.1 hd) rfl q
theorem iand (k : K p s m meth c Z y cd ml ret) (X : Stand p l e R s m args below meth c T locs cells slots) {a : Int32} {b : Int32} (hd : decode cd pc = .ok (.iand, 1)) (pc' : Nat) (hp : pc + 1 = pc') (h : Ends p e s below R Q T (mkF m pc' ls (.int (a &&& b) :: st))) : Ends p e s below R Q T (mkF m pc ls (.int b :: .int a :: st)) := by
  subst hp; exact h.map fun _ q => XS.iand X.here k.1 rfl (hb k.2.2.1 hd) rfl q
theorem land (k : K p s m meth c Z y cd ml ret) (X : Stand p l e R s m args below meth c T locs cells slots) {a : Int64} {b : Int64} (hd : decode cd pc = .ok (.land, 1)) (pc' : Nat) (hp : pc + 1 = pc') (h : Ends p e s below R Q T (mkF m pc' ls (.long (a &&& b) :: st))) : Ends p e s below R Q T (mkF m pc ls (.long b :: .long a :: st)) := by
  subst hp; exact h.map fun _ q => XS.land X.here k.1 rfl (hb k.2.2.1 hd) rfl q
theorem ior (k : K p s m meth c Z y cd ml ret) (X : Stand p l e R s m args below meth c T locs cells slots) {a : Int32} {b : Int32} (hd : decode cd pc = .ok (.ior, 1)) (pc' : Nat) (hp : pc + 1 = pc') (h : Ends p e s below R Q T (mkF m pc' ls (.int (a ||| b) :: st))) : Ends p e s below R Q T (mkF m pc ls (.int b :: .int a :: st)) := by
  subst hp; exact h.map fun _ q => XS.ior X.here k.1 rfl (hb k.2.2.1 hd) rfl q
theorem lor (k : K p s m meth c Z y cd ml ret) (X : Stand p l e R s m args below meth c T locs cells slots) {a : Int64} {b : Int64} (hd : decode cd pc = .ok (.lor, 1)) (pc' : Nat) (hp : pc + 1 = pc') (h : Ends p e s below R Q T (mkF m pc' ls (.long (a ||| b) :: st))) : Ends p e s below R Q T (mkF m pc ls (.long b :: .long a :: st)) := by
  subst hp; exact h.map fun _ q => XS.lor X.here k.1 rfl (hb k.2.2.1 hd) rfl q
theorem ixor (k : K p s m meth c Z y cd ml ret) (X : Stand p l e R s m args below meth c T locs cells slots) {a : Int32} {b : Int32} (hd : decode cd pc = .ok (.ixor, 1)) (pc' : Nat) (hp : pc + 1 = pc') (h : Ends p e s below R Q T (mkF m pc' ls (.int (a ^^^ b) :: st))) : Ends p e s below R Q T (mkF m pc ls (.int b :: .int a :: st)) := by
  subst hp; exact h.map fun _ q => XS.ixor X.here k.1 rfl (hb k.2.2.1 hd) rfl q
theorem lxor (k : K p s m meth c Z y cd ml ret) (X : Stand p l e R s m args below meth c T locs cells slots) {a : Int64} {b : Int64} (hd : decode cd pc = .ok (.lxor, 1)) (pc' : Nat) (hp : pc + 1 = pc') (h : Ends p e s below R Q T (mkF m pc' ls (.long (a ^^^ b) :: st))) : Ends p e s below R Q T (mkF m pc ls (.long b :: .long a :: st)) := by
  subst hp; exact h.map fun _ q => XS.lxor X.here k.1 rfl (hb k.2.2.1 hd) rfl q
theorem idiv (k : K p s m meth c Z y cd ml ret) (X : Stand p l e R s m args below meth c T locs cells slots) {a : Int32} {b : Int32} (hd : decode cd pc = .ok (.idiv, 1)) (hy : b ≠ 0) (pc' : Nat) (hp : pc + 1 = pc') (h : Ends p e s below R Q T (mkF m pc' ls (.int (a / b) :: st))) : Ends p e s below R Q T (mkF m pc ls (.int b :: .int a :: st)) := by
  subst hp; exact h.map fun _ q => XS.idiv X.here k.1 rfl (hb k.2.2.1 hd) rfl hy q
theorem ldiv (k : K p s m meth c Z y cd ml ret) (X : Stand p l e R s m args below meth c T locs cells slots) {a : Int64} {b : Int64} (hd : decode cd pc = .ok (.ldiv, 1)) (hy : b ≠ 0) (pc' : Nat) (hp : pc + 1 = pc') (h : Ends p e s below R Q T (mkF m pc' ls (.long (a / b) :: st))) : Ends p e s below R Q T (mkF m pc ls (.long b :: .long a :: st)) := by
  subst hp; exact h.map fun _ q => XS.ldiv X.here k.1 rfl (hb k.2.2.1 hd) rfl hy q
theorem ishl (k : K p s m meth c Z y cd ml ret) (X : Stand p l e R s m args below meth c T locs cells slots) {a : Int32} {b : Int32} (hd : decode cd pc = .ok (.ishl, 1)) (pc' : Nat) (hp : pc + 1 = pc') (h : Ends p e s below R Q T (mkF m pc' ls (.int (a <<< (b &&& 31)) :: st))) : Ends p e s below R Q T (mkF m pc ls (.int b :: .int a :: st)) := by
  subst hp; exact h.map fun _ q => XS.ishl X.here k.1 rfl (hb k.2.2.1 hd) rfl q
theorem ishr (k : K p s m meth c Z y cd ml ret) (X : Stand p l e R s m args below meth c T locs cells slots) {a : Int32} {b : Int32} (hd : decode cd pc = .ok (.ishr, 1)) (pc' : Nat) (hp : pc + 1 = pc') (h : Ends p e s below R Q T (mkF m pc' ls (.int (a >>> (b &&& 31)) :: st))) : Ends p e s below R Q T (mkF m pc ls (.int b :: .int a :: st)) := by
  subst hp; exact h.map fun _ q => XS.ishr X.here k.1 rfl (hb k.2.2.1 hd) rfl q
theorem iushr (k : K p s m meth c Z y cd ml ret) (X : Stand p l e R s m args below meth c T locs cells slots) {a : Int32} {b : Int32} (hd : decode cd pc = .ok (.iushr, 1)) (pc' : Nat) (hp : pc + 1 = pc') (h : Ends p e s below R Q T (mkF m pc' ls (.int ((a.toUInt32 >>> (b &&& 31).toUInt32).toInt32) :: st))) : Ends p e s below R Q T (mkF m pc ls (.int b :: .int a :: st)) := by
  subst hp; exact h.map fun _ q => XS.iushr X.here k.1 rfl (hb k.2.2.1 hd) rfl q
theorem lshl (k : K p s m meth c Z y cd ml ret) (X : Stand p l e R s m args below meth c T locs cells slots) {a : Int64} {b : Int32} (hd : decode cd pc = .ok (.lshl, 1)) (pc' : Nat) (hp : pc + 1 = pc') (h : Ends p e s below R Q T (mkF m pc' ls (.long (a <<< (b &&& 0x3f).toInt64) :: st))) : Ends p e s below R Q T (mkF m pc ls (.int b :: .long a :: st)) := by
  subst hp; exact h.map fun _ q => XS.lshl X.here k.1 rfl (hb k.2.2.1 hd) rfl q
theorem lshr (k : K p s m meth c Z y cd ml ret) (X : Stand p l e R s m args below meth c T locs cells slots) {a : Int64} {b : Int32} (hd : decode cd pc = .ok (.lshr, 1)) (pc' : Nat) (hp : pc + 1 = pc') (h : Ends p e s below R Q T (mkF m pc' ls (.long (a >>> (b &&& 0x3f).toInt64) :: st))) : Ends p e s below R Q T (mkF m pc ls (.int b :: .long a :: st)) := by
  subst hp; exact h.map fun _ q => XS.lshr X.here k.1 rfl (hb k.2.2.1 hd) rfl q
theorem lushr (k : K p s m meth c Z y cd ml ret) (X : Stand p l e R s m args below meth c T locs cells slots) {a : Int64} {b : Int32} (hd : decode cd pc = .ok (.lushr, 1)) (pc' : Nat) (hp : pc + 1 = pc') (h : Ends p e s below R Q T (mkF m pc' ls (.long ((a.toUInt64 >>> (b &&& 0x3f).toInt64.toUInt64).toInt64) :: st))) : Ends p e s below R Q T (mkF m pc ls (.int b :: .long a :: st)) := by
  subst hp; exact h.map fun _ q => XS.lushr X.here k.1 rfl (hb k.2.2.1 hd) rfl q
theorem irem (k : K p s m meth c Z y cd ml ret) (X : Stand p l e R s m args below meth c T locs cells slots) {a b : Int32} (hd : decode cd pc = .ok (.irem, 1)) (hy : b ≠ 0) (pc' : Nat) (hp : pc + 1 = pc') (h : Ends p e s below R Q T (mkF m pc' ls (.int (a % b) :: st))) : Ends p e s below R Q T (mkF m pc ls (.int b :: .int a :: st)) := by
  subst hp; exact h.map fun _ q => iremM X k.1 rfl (hb k.2.2.1 hd) rfl hy q
theorem ineg (k : K p s m meth c Z y cd ml ret) (X : Stand p l e R s m args below meth c T locs cells slots) {a : Int32} (hd : decode cd pc = .ok (.ineg, 1)) (pc' : Nat) (hp : pc + 1 = pc') (h : Ends p e s below R Q T (mkF m pc' ls (.int (-a) :: st))) : Ends p e s below R Q T (mkF m pc ls (.int a :: st)) := by
  subst hp; exact h.map fun _ q => XS.ineg X.here k.1 rfl (hb k.2.2.1 hd) rfl q
theorem lneg (k : K p s m meth c Z y cd ml ret) (X : Stand p l e R s m args below meth c T locs cells slots) {a : Int64} (hd : decode cd pc = .ok (.lneg, 1)) (pc' : Nat) (hp : pc + 1 = pc') (h : Ends p e s below R Q T (mkF m pc' ls (.long (-a) :: st))) : Ends p e s below R Q T (mkF m pc ls (.long a :: st)) := by
  subst hp; exact h.map fun _ q => XS.lneg X.here k.1 rfl (hb k.2.2.1 hd) rfl q
theorem i2l (k : K p s m meth c Z y cd ml ret) (X : Stand p l e R s m args below meth c T locs cells slots) {a : Int32} (hd : decode cd pc = .ok (.i2l, 1)) (pc' : Nat) (hp : pc + 1 = pc') (h : Ends p e s below R Q T (mkF m pc' ls (.long (a.toInt64) :: st))) : Ends p e s below R Q T (mkF m pc ls (.int a :: st)) := by
  subst hp; exact h.map fun _ q => XS.i2l X.here k.1 rfl (hb k.2.2.1 hd) rfl q
theorem l2i (k : K p s m meth c Z y cd ml ret) (X : Stand p l e R s m args below meth c T locs cells slots) {a : Int64} (hd : decode cd pc = .ok (.l2i, 1)) (pc' : Nat) (hp : pc + 1 = pc') (h : Ends p e s below R Q T (mkF m pc' ls (.int (a.toInt32) :: st))) : Ends p e s below R Q T (mkF m pc ls (.long a :: st)) := by
  subst hp; exact h.map fun _ q => XS.l2i X.here k.1 rfl (hb k.2.2.1 hd) rfl q
theorem i2b (k : K p s m meth c Z y cd ml ret) (X : Stand p l e R s m args below meth c T locs cells slots) {a : Int32} (hd : decode cd pc = .ok (.i2b, 1)) (pc' : Nat) (hp : pc + 1 = pc') (h : Ends p e s below R Q T (mkF m pc' ls (.int (a.toInt8.toInt32) :: st))) : Ends p e s below R Q T (mkF m pc ls (.int a :: st)) := by
  subst hp; exact h.map fun _ q => XS.i2b X.here k.1 rfl (hb k.2.2.1 hd) rfl q
theorem i2s (k : K p s m meth c Z y cd ml ret) (X : Stand p l e R s m args below meth c T locs cells slots) {a : Int32} (hd : decode cd pc = .ok (.i2s, 1)) (pc' : Nat) (hp : pc + 1 = pc') (h : Ends p e s below R Q T (mkF m pc' ls (.int (a.toInt16.toInt32) :: st))) : Ends p e s below R Q T (mkF m pc ls (.int a :: st)) := by
  subst hp; exact h.map fun _ q => XS.i2s X.here k.1 rfl (hb k.2.2.1 hd) rfl q
theorem i2c (k : K p s m meth c Z y cd ml ret) (X : Stand p l e R s m args below meth c T locs cells slots) {a : Int32} (hd : decode cd pc = .ok (.i2c, 1)) (pc' : Nat) (hp : pc + 1 = pc') (h : Ends p e s below R Q T (mkF m pc' ls (.int (a.toUInt32.toUInt16.toUInt32.toInt32) :: st))) : Ends p e s below R Q T (mkF m pc ls (.int a :: st)) := by
  subst hp; exact h.map fun _ q => XS.i2c X.here k.1 rfl (hb k.2.2.1 hd) rfl q
/-! stack, jumps -/
theorem dup (k : K p s m meth c Z y cd ml ret) (X : Stand p l e R s m args below meth c T locs cells slots) {v : Value} (hd : decode cd pc = .ok (.dup, 1)) (hc : v.category = 1) (pc' : Nat) (hp : pc + 1 = pc') (h : Ends p e s below R Q T (mkF m pc' ls (v :: v :: st))) : Ends p e s below R Q T (mkF m pc ls (v :: st)) := by
  subst hp; exact h.map fun _ q => XS.dup X.here k.1 rfl (hb k.2.2.1 hd) rfl hc q
theorem pop (k : K p s m meth c Z y cd ml ret) (X : Stand p l e R s m args below meth c T locs cells slots) {v : Value} (hd : decode cd pc = .ok (.pop, 1)) (hc : v.category = 1) (pc' : Nat) (hp : pc + 1 = pc') (h : Ends p e s below R Q T (mkF m pc' ls st)) : Ends p e s below R Q T (mkF m pc ls (v :: st)) := by
  subst hp; exact h.map fun _ q => XS.pop X.here k.1 rfl (hb k.2.2.1 hd) rfl hc q
theorem dup_x1 (k : K p s m meth c Z y cd ml ret) (X : Stand p l e R s m args below meth c T locs cells slots) {v v' : Value} (hd : decode cd pc = .ok (.dup_x1, 1)) (hc : v.category = 1) (hc' : v'.category = 1) (pc' : Nat) (hp : pc + 1 = pc') (h : Ends p e s below R Q T (mkF m pc' ls (v :: v' :: v :: st))) : Ends p e s below R Q T (mkF m pc ls (v :: v' :: st)) := by
  subst hp; exact h.map fun _ q => XS.dupX1 X.here k.1 rfl (hb k.2.2.1 hd) rfl hc hc' q
theorem dup2 (k : K p s m meth c Z y cd ml ret) (X : Stand p l e R s m args below meth c T locs cells slots) {v v' : Value} (hd : decode cd pc = .ok (.dup2, 1)) (hc : v.category = 1) (hc' : v'.category = 1) (pc' : Nat) (hp : pc + 1 = pc') (h : Ends p e s below R Q T (mkF m pc' ls (v :: v' :: v :: v' :: st))) : Ends p e s below R Q T (mkF m pc ls (v :: v' :: st)) := by
  subst hp; exact h.map fun _ q => Jvm.Free.XT.dup2 X.here k.1 rfl (hb k.2.2.1 hd) rfl hc hc' q
theorem goto (k : K p s m meth c Z y cd ml ret) (X : Stand p l e R s m args below meth c T locs cells slots) {o : Int} (hd : decode cd pc = .ok (.goto o, 3)) (ho : 0 ≤ (pc : Int) + o) (pc' : Nat) (hp : ((pc : Int) + o).toNat = pc') (h : Ends p e s below R Q T (mkF m pc' ls st)) : Ends p e s below R Q T (mkF m pc ls st) := by
  exact h.map fun _ q => XS.goto X.here k.1 rfl rfl (hb k.2.2.1 hd) ho hp q
theorem icmp_lt (k : K p s m meth c Z y cd ml ret) (X : Stand p l e R s m args below meth c T locs cells slots) {a b : Int32} {o : Int} (hd : decode cd pc = .ok (.if_icmp .lt o, 3)) (ho : 0 ≤ (pc : Int) + o) (py pn : Nat) (hy : ((pc : Int) + o).toNat = py) (hn : pc + 3 = pn) (h1 : a < b → Ends p e s below R Q T (mkF m py ls st)) (h2 : ¬ a < b → Ends p e s below R Q T (mkF m pn ls st)) : Ends p e s below R Q T (mkF m pc ls (.int b :: .int a :: st)) := by
  subst hn
  by_cases q : a < b
  · exact (h1 q).map fun _ r => XS.icmpYes X.here k.1 rfl rfl (hb k.2.2.1 hd) rfl (tlt q).1 ho hy r
  · exact (h2 q).map fun _ r => XS.icmpNo X.here k.1 rfl (hb k.2.2.1 hd) rfl (flt q).1 r
theorem if_lt (k : K p s m meth c Z y cd ml ret) (X : Stand p l e R s m args below meth c T locs cells slots) {a : Int32} {o : Int} (hd : decode cd pc = .ok (.ifCond .lt o, 3)) (ho : 0 ≤ (pc : Int) + o) (py pn : Nat) (hy : ((pc : Int) + o).toNat = py) (hn : pc + 3 = pn) (h1 : a < 0 → Ends p e s below R Q T (mkF m py ls st)) (h2 : ¬ a < 0 → Ends p e s below R Q T (mkF m pn ls st)) : Ends p e s below R Q T (mkF m pc ls (.int a :: st)) := by
  subst hn
  by_cases q : a < 0
  · exact (h1 q).map fun _ r => XS.ifYes X.here k.1 rfl rfl (hb k.2.2.1 hd) rfl ((if0 _ _).trans (tlt q).1) ho hy r
  · exact (h2 q).map fun _ r => XS.ifNo X.here k.1 rfl (hb k.2.2.1 hd) rfl ((if0 _ _).trans (flt q).1) r
theorem icmp_ge (k : K p s m meth c Z y cd ml ret) (X : Stand p l e R s m args below meth c T locs cells slots) {a b : Int32} {o : Int} (hd : decode cd pc = .ok (.if_icmp .ge o, 3)) (ho : 0 ≤ (pc : Int) + o) (py pn : Nat) (hy : ((pc : Int) + o).toNat = py) (hn : pc + 3 = pn) (h1 : ¬ a < b → Ends p e s below R Q T (mkF m py ls st)) (h2 : a < b → Ends p e s below R Q T (mkF m pn ls st)) : Ends p e s below R Q T (mkF m pc ls (.int b :: .int a :: st)) := by
  subst hn
  by_cases q : a < b
  · exact (h2 q).map fun _ r => XS.icmpNo X.here k.1 rfl (hb k.2.2.1 hd) rfl (tlt q).2.1 r
  · exact (h1 q).map fun _ r => XS.icmpYes X.here k.1 rfl rfl (hb k.2.2.1 hd) rfl (flt q).2.1 ho hy r
theorem if_ge (k : K p s m meth c Z y cd ml ret) (X : Stand p l e R s m args below meth c T locs cells slots) {a : Int32} {o : Int} (hd : decode cd pc = .ok (.ifCond .ge o, 3)) (ho : 0 ≤ (pc : Int) + o) (py pn : Nat) (hy : ((pc : Int) + o).toNat = py) (hn : pc + 3 = pn) (h1 : ¬ a < 0 → Ends p e s below R Q T (mkF m py ls st)) (h2 : a < 0 → Ends p e s below R Q T (mkF m pn ls st)) : Ends p e s below R Q T (mkF m pc ls (.int a :: st)) := by
  subst hn
  by_cases q : a < 0
  · exact (h2 q).map fun _ r => XS.ifNo X.here k.1 rfl (hb k.2.2.1 hd) rfl ((if0 _ _).trans (tlt q).2.1) r
  · exact (h1 q).map fun _ r => XS.ifYes X.here k.1 rfl rfl (hb k.2.2.1 hd) rfl ((if0 _ _).trans (flt q).2.1) ho hy r
theorem icmp_gt (k : K p s m meth c Z y cd ml ret) (X : Stand p l e R s m args below meth c T locs cells slots) {a b : Int32} {o : Int} (hd : decode cd pc = .ok (.if_icmp .gt o, 3)) (ho : 0 ≤ (pc : Int) + o) (py pn : Nat) (hy : ((pc : Int) + o).toNat = py) (hn : pc + 3 = pn) (h1 : b < a → Ends p e s below R Q T (mkF m py ls st)) (h2 : ¬ b < a → Ends p e s below R Q T (mkF m pn ls st)) : Ends p e s below R Q T (mkF m pc ls (.int b :: .int a :: st)) := by
  subst hn
  by_cases q : b < a
  · exact (h1 q).map fun _ r => XS.icmpYes X.here k.1 rfl rfl (hb k.2.2.1 hd) rfl (tlt q).2.2.1 ho hy r
  · exact (h2 q).map fun _ r => XS.icmpNo X.here k.1 rfl (hb k.2.2.1 hd) rfl (flt q).2.2.1 r
theorem if_gt (k : K p s m meth c Z y cd ml ret) (X : Stand p l e R s m args below meth c T locs cells slots) {a : Int32} {o : Int} (hd : decode cd pc = .ok (.ifCond .gt o, 3)) (ho : 0 ≤ (pc : Int) + o) (py pn : Nat) (hy : ((pc : Int) + o).toNat = py) (hn : pc + 3 = pn) (h1 : 0 < a → Ends p e s below R Q T (mkF m py ls st)) (h2 : ¬ 0 < a → Ends p e s below R Q T (mkF m pn ls st)) : Ends p e s below R Q T (mkF m pc ls (.int a :: st)) := by
  subst hn
  by_cases q : 0 < a
  · exact (h1 q).map fun _ r => XS.ifYes X.here k.1 rfl rfl (hb k.2.2.1 hd) rfl ((if0 _ _).trans (tlt q).2.2.1) ho hy r
  · exact (h2 q).map fun _ r => XS.ifNo X.here k.1 rfl (hb k.2.2.1 hd) rfl ((if0 _ _).trans (flt q).2.2.1) r
theorem icmp_le (k : K p s m meth c Z y cd ml ret) (X : Stand p l e R s m args below meth c T locs cells slots) {a b : Int32} {o : Int} (hd : decode cd pc = .ok (.if_icmp .le o, 3)) (ho : 0 ≤ (pc : Int) + o) (py pn : Nat) (hy : ((pc : Int) + o).toNat = py) (hn : pc + 3 = pn) (h1 : ¬ b < a → Ends p e s below R Q T (mkF m py ls st)) (h2 : b < a → Ends p e s below R Q T (mkF m pn ls st)) : Ends p e s below R Q T (mkF m pc ls (.int b :: .int a :: st)) := by
  subst hn
  by_cases q : b < a
  · exact (h2 q).map fun _ r => XS.icmpNo X.here k.1 rfl (hb k.2.2.1 hd) rfl (tlt q).2.2.2 r
  · exact (h1 q).map fun _ r => XS.icmpYes X.here k.1 rfl rfl (hb k.2.2.1 hd) rfl (flt q).2.2.2 ho hy r
theorem if_le (k : K p s m meth c Z y cd ml ret) (X : Stand p l e R s m args below meth c T locs cells slots) {a : Int32} {o : Int} (hd : decode cd pc = .ok (.ifCond .le o, 3)) (ho : 0 ≤ (pc : Int) + o) (py pn : Nat) (hy : ((pc : Int) + o).toNat = py) (hn : pc + 3 = pn) (h1 : ¬ 0 < a → Ends p e s below R Q T (mkF m py ls st)) (h2 : 0 < a → Ends p e s below R Q T (mkF m pn ls st)) : Ends p e s below R Q T (mkF m pc ls (.int a :: st)) := by
  subst hn
  by_cases q : 0 < a
  · exact (h2 q).map fun _ r => XS.ifNo X.here k.1 rfl (hb k.2.2.1 hd) rfl ((if0 _ _).trans (tlt q).2.2.2) r
  · exact (h1 q).map fun _ r => XS.ifYes X.here k.1 rfl rfl (hb k.2.2.1 hd) rfl ((if0 _ _).trans (flt q).2.2.2) ho hy r
theorem icmp_eq (k : K p s m meth c Z y cd ml ret) (X : Stand p l e R s m args below meth c T locs cells slots) {a b : Int32} {o : Int} (hd : decode cd pc = .ok (.if_icmp .eq o, 3)) (ho : 0 ≤ (pc : Int) + o) (py pn : Nat) (hy : ((pc : Int) + o).toNat = py) (hn : pc + 3 = pn) (h1 : a = b → Ends p e s below R Q T (mkF m py ls st)) (h2 : ¬ a = b → Ends p e s below R Q T (mkF m pn ls st)) : Ends p e s below R Q T (mkF m pc ls (.int b :: .int a :: st)) := by
  subst hn
  by_cases q : a = b
  · exact (h1 q).map fun _ r => XS.icmpYes X.here k.1 rfl rfl (hb k.2.2.1 hd) rfl (teq q).1 ho hy r
  · exact (h2 q).map fun _ r => XS.icmpNo X.here k.1 rfl (hb k.2.2.1 hd) rfl (feq q).1 r
theorem if_eq (k : K p s m meth c Z y cd ml ret) (X : Stand p l e R s m args below meth c T locs cells slots) {a : Int32} {o : Int} (hd : decode cd pc = .ok (.ifCond .eq o, 3)) (ho : 0 ≤ (pc : Int) + o) (py pn : Nat) (hy : ((pc : Int) + o).toNat = py) (hn : pc + 3 = pn) (h1 : a = 0 → Ends p e s below R Q T (mkF m py ls st)) (h2 : ¬ a = 0 → Ends p e s below R Q T (mkF m pn ls st)) : Ends p e s below R Q T (mkF m pc ls (.int a :: st)) := by
  subst hn
  by_cases q : a = 0
  · exact (h1 q).map fun _ r => XS.ifYes X.here k.1 rfl rfl (hb k.2.2.1 hd) rfl ((if0 _ _).trans (teq q).1) ho hy r
  · exact (h2 q).map fun _ r => XS.ifNo X.here k.1 rfl (hb k.2.2.1 hd) rfl ((if0 _ _).trans (feq q).1) r
theorem icmp_ne (k : K p s m meth c Z y cd ml ret) (X : Stand p l e R s m args below meth c T locs cells slots) {a b : Int32} {o : Int} (hd : decode cd pc = .ok (.if_icmp .ne o, 3)) (ho : 0 ≤ (pc : Int) + o) (py pn : Nat) (hy : ((pc : Int) + o).toNat = py) (hn : pc + 3 = pn) (h1 : ¬ a = b → Ends p e s below R Q T (mkF m py ls st)) (h2 : a = b → Ends p e s below R Q T (mkF m pn ls st)) : Ends p e s below R Q T (mkF m pc ls (.int b :: .int a :: st)) := by
  subst hn
  by_cases q : a = b
  · exact (h2 q).map fun _ r => XS.icmpNo X.here k.1 rfl (hb k.2.2.1 hd) rfl (teq q).2 r
  · exact (h1 q).map fun _ r => XS.icmpYes X.here k.1 rfl rfl (hb k.2.2.1 hd) rfl (feq q).2 ho hy r
theorem if_ne (k : K p s m meth c Z y cd ml ret) (X : Stand p l e R s m args below meth c T locs cells slots) {a : Int32} {o : Int} (hd : decode cd pc = .ok (.ifCond .ne o, 3)) (ho : 0 ≤ (pc : Int) + o) (py pn : Nat) (hy : ((pc : Int) + o).toNat = py) (hn : pc + 3 = pn) (h1 : ¬ a = 0 → Ends p e s below R Q T (mkF m py ls st)) (h2 : a = 0 → Ends p e s below R Q T (mkF m pn ls st)) : Ends p e s below R Q T (mkF m pc ls (.int a :: st)) := by
  subst hn
  by_cases q : a = 0
  · exact (h2 q).map fun _ r => XS.ifNo X.here k.1 rfl (hb k.2.2.1 hd) rfl ((if0 _ _).trans (teq q).2) r
  · exact (h1 q).map fun _ r => XS.ifYes X.here k.1 rfl rfl (hb k.2.2.1 hd) rfl ((if0 _ _).trans (feq q).2) ho hy r
theorem lcmp_lt (k : K p s m meth c Z y cd ml ret) (X : Stand p l e R s m args below meth c T locs cells slots) {a b : Int64} {o : Int} (hd0 : decode cd pc = .ok (.lcmp, 1)) (pc1 : Nat) (hp1 : pc + 1 = pc1) (hd : decode cd pc1 = .ok (.ifCond .lt o, 3)) (ho : 0 ≤ (pc1 : Int) + o) (py pn : Nat) (hy : ((pc1 : Int) + o).toNat = py) (hn : pc1 + 3 = pn) (h1 : a < b → Ends p e s below R Q T (mkF m py ls st)) (h2 : ¬ a < b → Ends p e s below R Q T (mkF m pn ls st)) : Ends p e s below R Q T (mkF m pc ls (.long b :: .long a :: st)) := by
  subst hp1
  refine Ends.map (T' := T) (f' := mkF m (pc + 1) ls (.int (lcmpW a b) :: st)) (fun _ q => XS.lcmp X.here k.1 rfl (hb k.2.2.1 hd0) rfl q) ?_
  exact if_lt k X hd ho py pn hy hn (fun q => h1 ((lw_lt a b).mp q)) (fun q => h2 (mt (lw_lt a b).mpr q))
theorem lcmp_ge (k : K p s m meth c Z y cd ml ret) (X : Stand p l e R s m args below meth c T locs cells slots) {a b : Int64} {o : Int} (hd0 : decode cd pc = .ok (.lcmp, 1)) (pc1 : Nat) (hp1 : pc + 1 = pc1) (hd : decode cd pc1 = .ok (.ifCond .ge o, 3)) (ho : 0 ≤ (pc1 : Int) + o) (py pn : Nat) (hy : ((pc1 : Int) + o).toNat = py) (hn : pc1 + 3 = pn) (h1 : ¬ a < b → Ends p e s below R Q T (mkF m py ls st)) (h2 : a < b → Ends p e s below R Q T (mkF m pn ls st)) : Ends p e s below R Q T (mkF m pc ls (.long b :: .long a :: st)) := by
  subst hp1
  refine Ends.map (T' := T) (f' := mkF m (pc + 1) ls (.int (lcmpW a b) :: st)) (fun _ q => XS.lcmp X.here k.1 rfl (hb k.2.2.1 hd0) rfl q) ?_
  exact if_ge k X hd ho py pn hy hn (fun q => h1 (mt (lw_lt a b).mpr q)) (fun q => h2 ((lw_lt a b).mp q))
theorem lcmp_gt (k : K p s m meth c Z y cd ml ret) (X : Stand p l e R s m args below meth c T locs cells slots) {a b : Int64} {o : Int} (hd0 : decode cd pc = .ok (.lcmp, 1)) (pc1 : Nat) (hp1 : pc + 1 = pc1) (hd : decode cd pc1 = .ok (.ifCond .gt o, 3)) (ho : 0 ≤ (pc1 : Int) + o) (py pn : Nat) (hy : ((pc1 : Int) + o).toNat = py) (hn : pc1 + 3 = pn) (h1 : b < a → Ends p e s below R Q T (mkF m py ls st)) (h2 : ¬ b < a → Ends p e s below R Q T (mkF m pn ls st)) : Ends p e s below R Q T (mkF m pc ls (.long b :: .long a :: st)) := by
  subst hp1
  refine Ends.map (T' := T) (f' := mkF m (pc + 1) ls (.int (lcmpW a b) :: st)) (fun _ q => XS.lcmp X.here k.1 rfl (hb k.2.2.1 hd0) rfl q) ?_
  exact if_gt k X hd ho py pn hy hn (fun q => h1 ((lw_gt a b).mp q)) (fun q => h2 (mt (lw_gt a b).mpr q))
theorem lcmp_le (k : K p s m meth c Z y cd ml ret) (X : Stand p l e R s m args below meth c T locs cells slots) {a b : Int64} {o : Int} (hd0 : decode cd pc = .ok (.lcmp, 1)) (pc1 : Nat) (hp1 : pc + 1 = pc1) (hd : decode cd pc1 = .ok (.ifCond .le o, 3)) (ho : 0 ≤ (pc1 : Int) + o) (py pn : Nat) (hy : ((pc1 : Int) + o).toNat = py) (hn : pc1 + 3 = pn) (h1 : ¬ b < a → Ends p e s below R Q T (mkF m py ls st)) (h2 : b < a → Ends p e s below R Q T (mkF m pn ls st)) : Ends p e s below R Q T (mkF m pc ls (.long b :: .long a :: st)) := by
  subst hp1
  refine Ends.map (T' := T) (f' := mkF m (pc + 1) ls (.int (lcmpW a b) :: st)) (fun _ q => XS.lcmp X.here k.1 rfl (hb k.2.2.1 hd0) rfl q) ?_
  exact if_le k X hd ho py pn hy hn (fun q => h1 (mt (lw_gt a b).mpr q)) (fun q => h2 ((lw_gt a b).mp q))
theorem lcmp_eq (k : K p s m meth c Z y cd ml ret) (X : Stand p l e R s m args below meth c T locs cells slots) {a b : Int64} {o : Int} (hd0 : decode cd pc = .ok (.lcmp, 1)) (pc1 : Nat) (hp1 : pc + 1 = pc1) (hd : decode cd pc1 = .ok (.ifCond .eq o, 3)) (ho : 0 ≤ (pc1 : Int) + o) (py pn : Nat) (hy : ((pc1 : Int) + o).toNat = py) (hn : pc1 + 3 = pn) (h1 : a = b → Ends p e s below R Q T (mkF m py ls st)) (h2 : ¬ a = b → Ends p e s below R Q T (mkF m pn ls st)) : Ends p e s below R Q T (mkF m pc ls (.long b :: .long a :: st)) := by
  subst hp1
  refine Ends.map (T' := T) (f' := mkF m (pc + 1) ls (.int (lcmpW a b) :: st)) (fun _ q => XS.lcmp X.here k.1 rfl (hb k.2.2.1 hd0) rfl q) ?_
  exact if_eq k X hd ho py pn hy hn (fun q => h1 ((lw_eq a b).mp q)) (fun q => h2 (mt (lw_eq a b).mpr q))
theorem lcmp_ne (k : K p s m meth c Z y cd ml ret) (X : Stand p l e R s m args below meth c T locs cells slots) {a b : Int64} {o : Int} (hd0 : decode cd pc = .ok (.lcmp, 1)) (pc1 : Nat) (hp1 : pc + 1 = pc1) (hd : decode cd pc1 = .ok (.ifCond .ne o, 3)) (ho : 0 ≤ (pc1 : Int) + o) (py pn : Nat) (hy : ((pc1 : Int) + o).toNat = py) (hn : pc1 + 3 = pn) (h1 : ¬ a = b → Ends p e s below R Q T (mkF m py ls st)) (h2 : a = b → Ends p e s below R Q T (mkF m pn ls st)) : Ends p e s below R Q T (mkF m pc ls (.long b :: .long a :: st)) := by
  subst hp1
  refine Ends.map (T' := T) (f' := mkF m (pc + 1) ls (.int (lcmpW a b) :: st)) (fun _ q => XS.lcmp X.here k.1 rfl (hb k.2.2.1 hd0) rfl q) ?_
  exact if_ne k X hd ho py pn hy hn (fun q => h1 (mt (lw_eq a b).mpr q)) (fun q => h2 ((lw_eq a b).mp q))
/-! references -/
theorem ifnull_y (k : K p s m meth c Z y cd ml ret) (X : Stand p l e R s m args below meth c T locs cells slots) {o : Int} (hd : decode cd pc = .ok (.ifnull o, 3)) (ho : 0 ≤ (pc : Int) + o) (pc' : Nat) (hp : ((pc : Int) + o).toNat = pc') (h : Ends p e s below R Q T (mkF m pc' ls st)) : Ends p e s below R Q T (mkF m pc ls (.null :: st)) := by
  exact h.map fun _ q => XS.ifnullYes X.here k.1 rfl rfl (hb k.2.2.1 hd) rfl ho hp q
theorem ifnull_n (k : K p s m meth c Z y cd ml ret) (X : Stand p l e R s m args below meth c T locs cells slots) {o : Int} {a : Addr} (hd : decode cd pc = .ok (.ifnull o, 3)) (pc' : Nat) (hp : pc + 3 = pc') (h : Ends p e s below R Q T (mkF m pc' ls st)) : Ends p e s below R Q T (mkF m pc ls (.ref a :: st)) := by
  subst hp; exact h.map fun _ q => XS.ifnullNo X.here k.1 rfl (hb k.2.2.1 hd) rfl q
theorem ifnonnull_y (k : K p s m meth c Z y cd ml ret) (X : Stand p l e R s m args below meth c T locs cells slots) {o : Int} {a : Addr} (hd : decode cd pc = .ok (.ifnonnull o, 3)) (ho : 0 ≤ (pc : Int) + o) (pc' : Nat) (hp : ((pc : Int) + o).toNat = pc') (h : Ends p e s below R Q T (mkF m pc' ls st)) : Ends p e s below R Q T (mkF m pc ls (.ref a :: st)) := by
  exact h.map fun _ q => XS.ifnonnullYes X.here k.1 rfl rfl (hb k.2.2.1 hd) rfl ho hp q
theorem ifnonnull_n (k : K p s m meth c Z y cd ml ret) (X : Stand p l e R s m args below meth c T locs cells slots) {o : Int} (hd : decode cd pc = .ok (.ifnonnull o, 3)) (pc' : Nat) (hp : pc + 3 = pc') (h : Ends p e s below R Q T (mkF m pc' ls st)) : Ends p e s below R Q T (mkF m pc ls (.null :: st)) := by
  subst hp; exact h.map fun _ q => XS.ifnonnullNo X.here k.1 rfl (hb k.2.2.1 hd) rfl q
/-! returns -/
theorem ret_int (k : K p s m meth c Z y cd ml ret) (X : Stand p l e R s m args below meth c T locs cells slots) (hret : ret = some .int) {z : Int32} (hd : decode cd pc = .ok (.ireturn, 1)) (hc : cells ≤ R.cells) (hs : slots ≤ R.slots) (h : Q (some (.int z)) T.heap locs) : Ends p e s below R Q T (mkF m pc ls (.int z :: st)) := by
  have hl := k.2.2.2.2.2.2.1
  obtain ⟨fs, hr, hrun, hended, hW, hsame⟩ := X.leave (v := some (.int z)) (fun q => by rw [k.2.2.2.2.2.1, hret] at q; cases q)
  exact ⟨_, _, retOut X k.1 (t := .int) (k.2.2.2.2.2.1.trans hret) rfl (Or.inl ⟨rfl, Or.inl rfl, _, rfl⟩) (hb k.2.2.1 hd) hr, hrun, hended, _, _, rfl, h, ⟨_, rfl⟩, hW, hsame.mono hc hs⟩
theorem ret_bool (k : K p s m meth c Z y cd ml ret) (X : Stand p l e R s m args below meth c T locs cells slots) (hret : ret = some .boolean) {z : Int32} (hd : decode cd pc = .ok (.ireturn, 1)) (hc : cells ≤ R.cells) (hs : slots ≤ R.slots) (hz : z = 0 ∨ z = 1) (h : Q (some (.int z)) T.heap locs) : Ends p e s below R Q T (mkF m pc ls (.int z :: st)) := by
  have hl := k.2.2.2.2.2.2.1
  obtain ⟨fs, hr, hrun, hended, hW, hsame⟩ := X.leave (v := some (.int z)) (fun q => by rw [k.2.2.2.2.2.1, hret] at q; cases q)
  exact ⟨_, _, retOut X k.1 (t := .boolean) (k.2.2.2.2.2.1.trans hret) (by rcases hz with rfl | rfl <;> rfl) (Or.inl ⟨rfl, Or.inr (Or.inl rfl), _, rfl⟩) (hb k.2.2.1 hd) hr, hrun, hended, _, _, rfl, h, ⟨_, rfl⟩, hW, hsame.mono hc hs⟩
theorem ret_long (k : K p s m meth c Z y cd ml ret) (X : Stand p l e R s m args below meth c T locs cells slots) (hret : ret = some .long) {z : Int64} (hd : decode cd pc = .ok (.lreturn, 1)) (hc : cells ≤ R.cells) (hs : slots ≤ R.slots) (h : Q (some (.long z)) T.heap locs) : Ends p e s below R Q T (mkF m pc ls (.long z :: st)) := by
  have hl := k.2.2.2.2.2.2.1
  obtain ⟨fs, hr, hrun, hended, hW, hsame⟩ := X.leave (v := some (.long z)) (fun q => by rw [k.2.2.2.2.2.1, hret] at q; cases q)
  exact ⟨_, _, retOut X k.1 (t := .long) (k.2.2.2.2.2.1.trans hret) rfl (Or.inr (Or.inl ⟨rfl, rfl, _, rfl⟩)) (hb k.2.2.1 hd) hr, hrun, hended, _, _, rfl, h, ⟨_, rfl⟩, hW, hsame.mono hc hs⟩
theorem ret_ref (k : K p s m meth c Z y cd ml ret) (X : Stand p l e R s m args below meth c T locs cells slots) {t : FieldType} (hret : ret = some t) (ht : t.isReference = true) {z : Value} (hz : z.isRef = true) (hn : narrow t z = z) (hd : decode cd pc = .ok (.areturn, 1)) (hc : cells ≤ R.cells) (hs : slots ≤ R.slots) (h : Q (some z) T.heap locs) : Ends p e s below R Q T (mkF m pc ls (z :: st)) := by
  have hl := k.2.2.2.2.2.2.1
  obtain ⟨fs, hr, hrun, hended, hW, hsame⟩ := X.leave (v := some z) (fun q => by rw [k.2.2.2.2.2.1, hret] at q; cases q)
  exact ⟨_, _, retOut X k.1 (t := t) (k.2.2.2.2.2.1.trans hret) hn (Or.inr (Or.inr (Or.inr (Or.inr ⟨rfl, ht, hz⟩)))) (hb k.2.2.1 hd) hr, hrun, hended, _, _, rfl, h, ⟨_, rfl⟩, hW, hsame.mono hc hs⟩
theorem ret_void (k : K p s m meth c Z y cd ml ret) (X : Stand p l e R s m args below meth c T locs cells slots) (hret : ret = none) (hd : decode cd pc = .ok (.return_, 1)) (hc : cells ≤ R.cells) (hs : slots ≤ R.slots) (h : Q none T.heap locs) : Ends p e s below R Q T (mkF m pc ls []) := by
  have hl := k.2.2.2.2.2.2.1
  obtain ⟨fs, hr, hrun, hended, hW, hsame⟩ := X.leave (v := none) (fun _ => rfl)
  exact ⟨_, _, X.returnOut k.1 (k.2.2.2.2.2.1.trans hret) (hb k.2.2.1 hd) hr, hrun, hended, _, _, rfl, h, ⟨_, rfl⟩, hW, hsame.mono hc hs⟩
/-! the heap -/
theorem getfield (k : K p s m meth c Z y cd ml ret) (X : Stand p l e R s m args below meth c T locs cells slots) {R0 O n d host : String} {idx : Nat} {a : Addr} {v : Value} (hd : decode cd pc = .ok (.getfield idx, 3)) (wl : (Jvm.Cond.fieldLink y.cls idx R0 n d).before a0 Z = true ∨ (Jvm.Cond.fieldLinkNest y.cls idx R0 n d host).before a0 Z = true) (via : Via Z R0 O n d) (e0 : T.heap = h) (F : Fld Z h a O n d v) (pc' : Nat) (hp : pc + 3 = pc')
    (g : ∀ T' : State, Stand p l e R s m args below meth c T' locs cells slots → T'.heap = h → Ends p e s below R Q T' (mkF m pc' ls (v :: st))) : Ends p e s below R Q T (mkF m pc ls (.ref a :: st)) := by
  subst hp
  obtain ⟨T', X', e', q⟩ := getF X k.1 k.2.1 k.2.2.2.2.1 wl via e0 F (g := mkF m pc ls (.ref a :: st)) rfl rfl (hb k.2.2.1 hd)
  exact (g T' X' e').map q
theorem getstatic (k : K p s m meth c Z y cd ml ret) (X : Stand p l e R s m args below meth c T locs cells slots) {O n d host : String} {idx : Nat} {v : Value} (hd : decode cd pc = .ok (.getstatic idx, 3)) (wl : (Jvm.Cond.fieldLink y.cls idx O n d).before a0 Z = true ∨ (Jvm.Cond.fieldLinkNest y.cls idx O n d host).before a0 Z = true) (e0 : T.heap = h) (F : Sta Z h O n d v) (pc' : Nat) (hp : pc + 3 = pc')
    (g : ∀ T' : State, Stand p l e R s m args below meth c T' locs cells slots → T'.heap = h → Ends p e s below R Q T' (mkF m pc' ls (v :: st))) : Ends p e s below R Q T (mkF m pc ls st) := by
  subst hp
  obtain ⟨T', X', e', q⟩ := getS2 X k.1 k.2.1 k.2.2.2.2.1 wl Via.refl e0 F (g := mkF m pc ls st) rfl (hb k.2.2.1 hd)
  exact (g T' X' e').map q
theorem putfield (k : K p s m meth c Z y cd ml ret) (X : Stand p l e R s m args below meth c T locs cells slots) {R0 O n d host C : String} {idx kk : Nat} {ty : FieldType} {a : Addr} {v old : Value} (hd : decode cd pc = .ok (.putfield idx, 3)) (wl : (Jvm.Cond.fieldLink y.cls idx R0 n d).before a0 Z = true ∨ (Jvm.Cond.fieldLinkNest y.cls idx R0 n d host).before a0 Z = true) (via : Via Z R0 O n d) (e0 : T.heap = h) (F : Fld Z h a O n d old) (E : Exa Z h a C)
    (L : (Jvm.Cond.lays C O n d).before a0 Z = true ∨ ((Jvm.Cond.laysFinal C O n d).before a0 Z = true ∧ y.cls = O ∧ y.name = "<init>")) (wi : (Jvm.Cond.instantiable C kk).before a0 Z = true) (hty : parseFieldDescriptor d = some ty) (hn : narrow ty v = v) (hf : fits ty v = true) (pc' : Nat) (hp : pc + 3 = pc')
    (g : ∀ (T' : State) (h' : Heap), Stand p l e R s m args below meth c T' (locs ++ [⟨a, Jvm.RoadKit.slotOf Z O n d⟩]) cells slots → T'.heap = h' → Wr h h' a (Jvm.RoadKit.slotOf Z O n d) v → Ends p e s below R Q T' (mkF m pc' ls st)) : Ends p e s below R Q T (mkF m pc ls (v :: .ref a :: st)) := by
  subst hp
  obtain ⟨T', h', X', e', W', q⟩ := putF X k.1 k.2.1 k.2.2.2.2.1 wl via e0 F E (L.imp id fun q => ⟨q.1, q.2.1, k.2.2.2.2.2.2.2.trans q.2.2⟩) wi hty hn hf (g := mkF m pc ls (v :: .ref a :: st)) rfl rfl (hb k.2.2.1 hd)
  exact (g T' h' X' e' W').map q
theorem initObj (k : K p s m meth c Z y cd ml ret) (X : Stand p l e R s m args below meth c T locs cells slots) {idx : Nat} {a : Addr} {W : Nat} (hd : decode cd pc = .ok (.invokespecial idx, 3)) (w1 : (Jvm.Cond.methodLink y.cls idx Lib.objectInit).before a0 Z = true) (w2 : (Jvm.Cond.instanceMethod Lib.objectInit).before a0 Z = true) (w3 : (Jvm.Cond.code Lib.objectInit ⟨#[0xb1]⟩ 1 none).before a0 Z = true) (e0 : T.heap = h) (hsz : ls.size = ml) (hf : 1 ≤ R.frames) (hW : (st.map fun v => v.category).sum + 12 ≤ R.locals) (pc' : Nat) (hp : pc + 3 = pc')
    (g : ∀ T' : State, Stand p l e R s m args below meth c T' locs cells slots → T'.heap = h → Ends p e s below R Q T' (mkF m pc' ls st)) : Ends p e s below R Q T (mkF m pc ls (.ref a :: st)) := by
  subst hp
  obtain ⟨T', X', e', q⟩ := initO X k.1 k.2.1 k.2.2.2.2.1 w1 w2 w3 e0 (g := mkF m pc ls (.ref a :: st)) rfl (hsz.trans k.2.2.2.1.symm) rfl (hb k.2.2.1 hd) hf (W := (st.map fun v => v.category).sum) (by show 2 * 0 + _ ≤ _; rw [Nat.mul_zero, Nat.zero_add]; exact Nat.le_refl _) hW
  exact (g T' X' e').map q
theorem new (k : K p s m meth c Z y cd ml ret) (X : Stand p l e R s m args below meth c T locs cells slots) {C : String} {idx n : Nat} (hd : decode cd pc = .ok (.new idx, 3)) (wl : (Jvm.Cond.classLink y.cls idx C).before a0 Z = true) (wi : (Jvm.Cond.instantiable C n).before a0 Z = true) (wz : (Jvm.Cond.initialized C).before a0 Z = true) (e0 : T.heap = h) (hc : cells + 1 ≤ R.cells) (hs : slots + n ≤ R.slots) (pc' : Nat) (hp : pc + 3 = pc')
    (g : ∀ (T' : State) (h' : Heap) (a : Addr), a = h.size → Stand p l e R s m args below meth c T' locs (cells + 1) (slots + n) → T'.heap = h' → Ext h h' → Exa Z h' a C → (∀ {O nm d : String} {ty : FieldType}, Laid Z a0 C O nm d → parseFieldDescriptor d = some ty → Fld Z h' a O nm d (defaultValue ty)) → Ends p e s below R Q T' (mkF m pc' ls (.ref a :: st))) : Ends p e s below R Q T (mkF m pc ls st) := by
  subst hp
  obtain ⟨T', h', X', e', E', A', D', -, q⟩ := newO X k.1 k.2.1 k.2.2.2.2.1 wl wi wz e0 (g := mkF m pc ls st) rfl (hb k.2.2.1 hd) hc hs
  exact (g T' h' h.size rfl X' e' E' A' D').map q
theorem checkcast (k : K p s m meth c Z y cd ml ret) (X : Stand p l e R s m args below meth c T locs cells slots) {C : String} {idx : Nat} {a : Addr} (hd : decode cd pc = .ok (.checkcast idx, 3)) (wl : (Jvm.Cond.classLink y.cls idx C).before a0 Z = true) (e0 : T.heap = h) (F : Ins Z h a C true) (pc' : Nat) (hp : pc + 3 = pc')
    (g : ∀ T' : State, Stand p l e R s m args below meth c T' locs cells slots → T'.heap = h → Ends p e s below R Q T' (mkF m pc' ls (.ref a :: st))) : Ends p e s below R Q T (mkF m pc ls (.ref a :: st)) := by
  subst hp
  obtain ⟨T', X', e', q⟩ := castY X k.1 k.2.1 k.2.2.2.2.1 wl e0 F (g := mkF m pc ls (.ref a :: st)) rfl rfl (hb k.2.2.1 hd)
  exact (g T' X' e').map q
theorem inst_y (k : K p s m meth c Z y cd ml ret) (X : Stand p l e R s m args below meth c T locs cells slots) {C : String} {idx : Nat} {a : Addr} (hd : decode cd pc = .ok (.instanceof idx, 3)) (wl : (Jvm.Cond.classLink y.cls idx C).before a0 Z = true) (e0 : T.heap = h) (F : Ins Z h a C true) (pc' : Nat) (hp : pc + 3 = pc')
    (g : ∀ T' : State, Stand p l e R s m args below meth c T' locs cells slots → T'.heap = h → Ends p e s below R Q T' (mkF m pc' ls (.int 1 :: st))) : Ends p e s below R Q T (mkF m pc ls (.ref a :: st)) := by
  subst hp
  obtain ⟨T', X', e', q⟩ := instY X k.1 k.2.1 k.2.2.2.2.1 wl e0 F (g := mkF m pc ls (.ref a :: st)) rfl rfl (hb k.2.2.1 hd)
  exact (g T' X' e').map q
theorem acmp_same (k : K p s m meth c Z y cd ml ret) (X : Stand p l e R s m args below meth c T locs cells slots) {cnd : ACond} {o : Int} {a : Addr} (hd : decode cd pc = .ok (.if_acmp cnd o, 3)) (ho : 0 ≤ (pc : Int) + o) (pc' : Nat) (hp : pc' = if acV cnd true = true then ((pc : Int) + o).toNat else pc + 3) (h : Ends p e s below R Q T (mkF m pc' ls st)) : Ends p e s below R Q T (mkF m pc ls (.ref a :: .ref a :: st)) := by
  exact h.map fun _ q => Jvm.RoadKit.acmp (g := mkF m pc ls (.ref a :: .ref a :: st)) X k.1 rfl rfl rfl rfl (hb k.2.2.1 hd) rfl (decide_eq_true rfl) ho hp q
theorem acmp_diff (k : K p s m meth c Z y cd ml ret) (X : Stand p l e R s m args below meth c T locs cells slots) {cnd : ACond} {o : Int} {a : Addr} {v : Value} (hd : decode cd pc = .ok (.if_acmp cnd o, 3)) (hv : v.isRef = true) (hne : Value.ref a ≠ v) (ho : 0 ≤ (pc : Int) + o) (pc' : Nat) (hp : pc' = if acV cnd false = true then ((pc : Int) + o).toNat else pc + 3) (h : Ends p e s below R Q T (mkF m pc' ls st)) : Ends p e s below R Q T (mkF m pc ls (v :: .ref a :: st)) := by
  exact h.map fun _ q => Jvm.RoadKit.acmp (g := mkF m pc ls (v :: .ref a :: st)) X k.1 rfl rfl hv rfl (hb k.2.2.1 hd) rfl (decide_eq_false hne) ho hp q
theorem inst_null (k : K p s m meth c Z y cd ml ret) (X : Stand p l e R s m args below meth c T locs cells slots) {idx : Nat} (hd : decode cd pc = .ok (.instanceof idx, 3)) (pc' : Nat) (hp : pc + 3 = pc') (h : Ends p e s below R Q T (mkF m pc' ls (.int 0 :: st))) : Ends p e s below R Q T (mkF m pc ls (.null :: st)) := by
  subst hp; exact h.map fun _ q => X.instanceofNull k.1 (g := mkF m pc ls (.null :: st)) rfl rfl (hb k.2.2.1 hd) _ q
theorem inst_n (k : K p s m meth c Z y cd ml ret) (X : Stand p l e R s m args below meth c T locs cells slots) {C : String} {idx : Nat} {a : Addr} (hd : decode cd pc = .ok (.instanceof idx, 3)) (wl : (Jvm.Cond.classLink y.cls idx C).before a0 Z = true) (e0 : T.heap = h) (F : Ins Z h a C false) {C' : String} (E : Exa Z h a C') (pc' : Nat) (hp : pc + 3 = pc')
    (g : ∀ T' : State, Stand p l e R s m args below meth c T' locs cells slots → T'.heap = h → Ends p e s below R Q T' (mkF m pc' ls (.int 0 :: st))) : Ends p e s below R Q T (mkF m pc ls (.ref a :: st)) := by
  subst hp
  obtain ⟨cell, cT, h1, h2, h3⟩ := F
  obtain ⟨cell', kc, e1, -, e3, e4, -⟩ := E
  cases h1.symm.trans e1
  obtain ⟨k', q, -⟩ := k.2.1.alike.2.2 _ _ e3
  obtain ⟨vm', X', st'⟩ := Jvm.Sym.instanceofNoAt X k.1 k.2.2.2.2.1 (mvT k.2.1 wl) (by rw [e0]; exact h1) e4 q (by rw [k.2.1.alike.findClass]; exact h2) (by rw [k.2.1.alike.assignable]; simpa [e4] using h3) (g := mkF m pc ls (.ref a :: st)) rfl rfl (hb k.2.2.1 hd)
  exact (g _ X' e0).map st'
end
/-! arrays: the list of what they hold -/
def Arl (Z : State) (h : Heap) (a : Addr) (ty : FieldType) (vs : List Value) : Prop := ∃ c : Cell, Arr Z h a c ty ∧ c.slots.toList = vs ∧ vs.length < 2147483648
section
variable {Z : State} {h h' : Heap} {a b : Addr} {ty : FieldType} {vs : List Value} {sl : Nat} {v : Value} {ws : List Addr}
theorem Arl.lt (F : Arl Z h a ty vs) : a < h.size := by obtain ⟨c, A, -⟩ := F; exact A.lt
theorem Arl.ext (F : Arl Z h a ty vs) (E : Ext h h') : Arl Z h' a ty vs := by obtain ⟨c, A, r⟩ := F; exact ⟨c, A.ext E, r⟩
theorem Arl.other (F : Arl Z h b ty vs) (W : Wr h h' a sl v) (q : b ≠ a) : Arl Z h' b ty vs := by obtain ⟨c, A, r⟩ := F; exact ⟨c, A.other W q, r⟩
theorem Arl.keep (F : Arl Z h a ty vs) (K : Keep h h' ws) (q : a ∉ ws) : Arl Z h' a ty vs := by obtain ⟨c, A, r⟩ := F; exact ⟨c, ⟨K.2.1 a c A.1 q, A.2⟩, r⟩
theorem Arl.same (F : Arl Z h a ty vs) (W : Wr h h' a sl v) : Arl Z h' a ty (vs.set sl v) := by
  obtain ⟨c, A, rfl, hl⟩ := F
  refine ⟨c.setSlot sl v, A.same W, ?_, by rw [List.length_set]; exact hl⟩
  simp [Cell.setSlot]
theorem tnc {j : Int32} {i : Nat} (hj : j.toInt = i) : j.toNatClampNeg = i := by simp only [Int32.toNatClampNeg, hj]; rfl
theorem inb {j : Int32} {i n : Nat} (hj : j.toInt = i) (hi : i < n) : ¬ (j < 0 ∨ n ≤ j.toNatClampNeg) := by
  rw [tnc hj]; intro q
  rcases q with q | q
  · rw [Int32.lt_iff_toInt_lt] at q; have e0 : (0 : Int32).toInt = 0 := rfl; omega
  · omega
theorem lt_of_get {xs : List Int32} {i : Nat} {x : Int32} (q : xs[i]? = some x) : i < xs.length := (List.getElem?_eq_some_iff.mp q).1
end
section
variable {p : Program} {l : Launch} {e : Env} {R : Room} {s : State} {m : MethodId} {args : Array Value} {below : List Frame} {meth : Method} {c : Code} {T : State} {locs : List Loc} {cells slots : Nat} {Z : State} {a0 : Array Value} {h : Heap} {y : MethodName} {cd : ByteArray} {ml : Nat} {ret : Option FieldType} {Q : Option Value → Heap → List Loc → Prop} {pc pc' : Nat} {ls : Array Slot} {st : List Value}
theorem arraylength (k : K p s m meth c Z y cd ml ret) (X : Stand p l e R s m args below meth c T locs cells slots) {ty : FieldType} {vs : List Value} {a : Addr} (hd : decode cd pc = .ok (.arraylength, 1)) (e0 : T.heap = h) (A : Arl Z h a ty vs) (n : Int32) (hn : n.toInt = vs.length) (pc' : Nat) (hp : pc + 1 = pc') (g : Ends p e s below R Q T (mkF m pc' ls (.int n :: st))) : Ends p e s below R Q T (mkF m pc ls (.ref a :: st)) := by
  subst hp
  obtain ⟨cl, Ar, rfl, hl⟩ := A
  have q : cl.slots.size.toInt32 = n := by
    apply Int32.toInt_inj.mp
    rw [len_toInt (by simpa using hl), hn]; simp
  refine g.map fun _ r => X.arraylength k.1 (by rw [e0]; exact Ar.1) (State.isArrayOf_alike k.2.1.alike Ar.2.1) (g := mkF m pc ls (.ref a :: st)) rfl rfl (hb k.2.2.1 hd) _ ?_
  rw [q]; exact r
theorem iaload (k : K p s m meth c Z y cd ml ret) (X : Stand p l e R s m args below meth c T locs cells slots) {xs : List Int32} {a : Addr} {j : Int32} (hd : decode cd pc = .ok (.iaload, 1)) (e0 : T.heap = h) (A : Arl Z h a .int (xs.map .int)) (i : Nat) (hj : j.toInt = i) (x : Int32) (hx : xs[i]? = some x) (pc' : Nat) (hp : pc + 1 = pc') (g : Ends p e s below R Q T (mkF m pc' ls (.int x :: st))) : Ends p e s below R Q T (mkF m pc ls (.int j :: .ref a :: st)) := by
  subst hp
  obtain ⟨cl, Ar, hs, hl⟩ := A
  have hz : cl.slots.size = xs.length := by rw [← Array.length_toList, hs, List.length_map]
  refine g.map fun _ r => X.iaload k.1 (j := j) (v := .int x) (by rw [e0]; exact Ar.1) (State.isArrayOf_alike k.2.1.alike Ar.2.1) Ar.2.2 (inb hj (hz ▸ lt_of_get hx)) ?_ (g := mkF m pc ls (.int j :: .ref a :: st)) rfl rfl (hb k.2.2.1 hd) _ r
  rw [tnc hj, ← Array.getElem?_toList, hs, List.getElem?_map, hx]; rfl
theorem baload (k : K p s m meth c Z y cd ml ret) (X : Stand p l e R s m args below meth c T locs cells slots) {xs : List Int32} {a : Addr} {j : Int32} (hd : decode cd pc = .ok (.baload, 1)) (e0 : T.heap = h) (A : Arl Z h a .byte (xs.map .int)) (i : Nat) (hj : j.toInt = i) (x : Int32) (hx : xs[i]? = some x) (pc' : Nat) (hp : pc + 1 = pc') (g : Ends p e s below R Q T (mkF m pc' ls (.int x :: st))) : Ends p e s below R Q T (mkF m pc ls (.int j :: .ref a :: st)) := by
  subst hp
  obtain ⟨cl, Ar, hs, hl⟩ := A
  have hz : cl.slots.size = xs.length := by rw [← Array.length_toList, hs, List.length_map]
  refine g.map fun _ r => X.baloadBytes k.1 (j := j) (v := .int x) (by rw [e0]; exact Ar.1) (State.isArrayOf_alike k.2.1.alike Ar.2.1) Ar.2.2 (inb hj (hz ▸ lt_of_get hx)) ?_ (g := mkF m pc ls (.int j :: .ref a :: st)) rfl rfl (hb k.2.2.1 hd) _ r
  rw [tnc hj, ← Array.getElem?_toList, hs, List.getElem?_map, hx]; rfl
theorem iastore (k : K p s m meth c Z y cd ml ret) (X : Stand p l e R s m args below meth c T locs cells slots) {xs : List Int32} {a : Addr} {j x : Int32} (hd : decode cd pc = .ok (.iastore, 1)) (e0 : T.heap = h) (A : Arl Z h a .int (xs.map .int)) (i : Nat) (hj : j.toInt = i) (hi : i < xs.length) (pc' : Nat) (hp : pc + 1 = pc')
    (g : ∀ (T' : State) (h' : Heap), Stand p l e R s m args below meth c T' (locs ++ [⟨a, i⟩]) cells slots → T'.heap = h' → Wr h h' a i (.int x) → Arl Z h' a .int ((xs.set i x).map .int) → Ends p e s below R Q T' (mkF m pc' ls st)) : Ends p e s below R Q T (mkF m pc ls (.int x :: .int j :: .ref a :: st)) := by
  subst hp
  have A' := A
  obtain ⟨cl, Ar, hs, hl⟩ := A
  have hz : cl.slots.size = xs.length := by rw [← Array.length_toList, hs, List.length_map]
  obtain ⟨T', h', X', e', W', q⟩ := stI X k.1 k.2.1 e0 Ar (j := j) (x := x) (inb hj (hz ▸ hi)) (g := mkF m pc ls (.int x :: .int j :: .ref a :: st)) rfl rfl (hb k.2.2.1 hd)
  rw [tnc hj] at X' W'
  exact (g T' h' X' e' W' (by rw [List.map_set]; exact A'.same W')).map q
theorem bastore (k : K p s m meth c Z y cd ml ret) (X : Stand p l e R s m args below meth c T locs cells slots) {xs : List Int32} {a : Addr} {j x : Int32} (hd : decode cd pc = .ok (.bastore, 1)) (e0 : T.heap = h) (A : Arl Z h a .byte (xs.map .int)) (i : Nat) (hj : j.toInt = i) (hi : i < xs.length) (x' : Int32) (hx' : x.toInt8.toInt32 = x') (pc' : Nat) (hp : pc + 1 = pc')
    (g : ∀ (T' : State) (h' : Heap), Stand p l e R s m args below meth c T' (locs ++ [⟨a, i⟩]) cells slots → T'.heap = h' → Wr h h' a i (.int x') → Arl Z h' a .byte ((xs.set i x').map .int) → Ends p e s below R Q T' (mkF m pc' ls st)) : Ends p e s below R Q T (mkF m pc ls (.int x :: .int j :: .ref a :: st)) := by
  subst hp hx'
  have A' := A
  obtain ⟨cl, Ar, hs, hl⟩ := A
  have hz : cl.slots.size = xs.length := by rw [← Array.length_toList, hs, List.length_map]
  obtain ⟨T', h', X', e', W', q⟩ := stB X k.1 k.2.1 e0 Ar (j := j) (x := x) (inb hj (hz ▸ hi)) (g := mkF m pc ls (.int x :: .int j :: .ref a :: st)) rfl rfl (hb k.2.2.1 hd)
  rw [tnc hj] at X' W'
  exact (g T' h' X' e' W' (by rw [List.map_set]; exact A'.same W')).map q
theorem newarray (k : K p s m meth c Z y cd ml ret) (X : Stand p l e R s m args below meth c T locs cells slots) {aty : ArrayType} {n : Int32} (hd : decode cd pc = .ok (.newarray aty, 2)) (wa : (Jvm.Cond.arrayClass (newarray.typeOf aty)).before a0 Z = true) (e0 : T.heap = h) (i : Nat) (hn : n.toInt = i) (cap : Nat) (hcap : i ≤ cap) (hb8 : cap * 8 ≤ 536870912) (hc : cells + 1 ≤ R.cells) (hs : slots + cap ≤ R.slots) (pc' : Nat) (hp : pc + 2 = pc')
    (g : ∀ (T' : State) (h' : Heap) (a : Addr), a = h.size → Stand p l e R s m args below meth c T' locs (cells + 1) (slots + cap) → T'.heap = h' → Ext h h' → Arl Z h' a (newarray.typeOf aty) (List.replicate i (defaultValue (newarray.typeOf aty))) → Ends p e s below R Q T' (mkF m pc' ls (.ref a :: st))) : Ends p e s below R Q T (mkF m pc ls (.int n :: st)) := by
  subst hp
  have h0 : ¬ n < 0 := by rw [Int32.lt_iff_toInt_lt]; have e0 : (0 : Int32).toInt = 0 := rfl; omega
  obtain ⟨T', h', cA, X', e', E', A', q⟩ := newP X k.1 k.2.1 wa e0 (g := mkF m pc ls (.int n :: st)) rfl (hb k.2.2.1 hd) rfl h0 (cap := cap) (by rw [tnc hn]; exact hcap) hb8 hc hs
  refine (g T' h' h.size rfl X' e' E' ⟨_, A', ?_, ?_⟩).map q
  · simp [newA, tnc hn]
  · rw [List.length_replicate]; omega
/-! calls, by the callee's contract -/
theorem callS (k : K p s m meth c Z y cd ml ret) (X : Stand p l e R s m args below meth c T locs cells slots) {y' : MethodName} {cd' : ByteArray} {ml' : Nat} {ret' : Option FieldType} {rm' : Room} {Qc : Option Value → Heap → List Loc → Prop} {idx : Nat} {ps : List FieldType} {rt : Option FieldType} (as : List Value) (rest : List Value) (hd : decode cd pc = .ok (.invokestatic idx, 3)) (M : Met l y' cd' ml' ret' rm' as.toArray Z h Qc []) (e0 : T.heap = h)
    (w1 : (Jvm.Cond.methodLink y.cls idx y').before a0 Z = true) (w2 : (Jvm.Cond.static y').before a0 Z = true) (w3 : (Jvm.Cond.initialized y'.cls).before a0 Z = true) (w4 : (Jvm.Cond.code y' cd' ml' ret').before a0 Z = true) (hy : y'.cls ≠ "java/lang/invoke/MethodHandle" ∧ y'.cls ≠ "java/lang/invoke/VarHandle") (hsz : ls.size = ml) (hlen : parseMethodDescriptor y'.desc = some ⟨ps, rt⟩) (hl2 : as.length = ps.length) (hst : st = as.reverse ++ rest)
    (hf : rm'.frames + 1 ≤ R.frames) (hlo : (rest.map fun v => v.category).sum + (ml' + 11) + rm'.locals ≤ R.locals) (hc : cells + rm'.cells ≤ R.cells) (hs : slots + rm'.slots ≤ R.slots) (pc' : Nat) (hp : pc + 3 = pc')
    (g : ∀ (T' : State) (v : Option Value) (L : List Loc), Stand p l e R s m args below meth c T' (locs ++ L) (cells + rm'.cells) (slots + rm'.slots) → Qc v T'.heap L → Ends p e s below R Q T' (mkF m pc' ls (v.toList ++ rest))) : Ends p e s below R Q T (mkF m pc ls st) := by
  subst hp hst
  obtain ⟨v, _, ⟨T', L', c', n'⟩, -, X', ⟨Lc, hQ, q1, q2, q3⟩, q⟩ := Jvm.LawKit.callS X k.1 (y := y') k.2.2.2.2.1 (mvT k.2.1 w1) (mvT k.2.1 w2) (mvT k.2.1 w3) (mvT k.2.1 w4) hy (backOf (W := (rest.map fun v => v.category).sum) M k.2.1 w4 w3 hf hlo) (g := mkF m pc ls (as.reverse ++ rest)) rfl (hsz.trans k.2.2.2.1.symm) (argsL := as) (rest := rest) (lenOf hlen hl2) rfl (by show 2 * 0 + _ ≤ _; rw [Nat.mul_zero, Nat.zero_add]; exact Nat.le_refl _) (hb k.2.2.1 hd) (fun _ _ => ⟨rfl, e0, hc, hs⟩)
  dsimp only [Pt.U, Pt.locs, Pt.cells, Pt.slots] at X' q1 q2 q3 q hQ
  subst q1 q2 q3
  exact (g T' v Lc X' hQ).map q
theorem callI (k : K p s m meth c Z y cd ml ret) (X : Stand p l e R s m args below meth c T locs cells slots) {y' : MethodName} {cd' : ByteArray} {ml' : Nat} {rm' : Room} {Qc : Option Value → Heap → List Loc → Prop} {idx : Nat} {ps : List FieldType} {rt : Option FieldType} {a : Addr} (as : List Value) (rest : List Value) (hd : decode cd pc = .ok (.invokespecial idx, 3)) (M : Met l y' cd' ml' none rm' (.ref a :: as).toArray Z h Qc []) (e0 : T.heap = h) (hin : y'.name = "<init>")
    (w1 : (Jvm.Cond.methodLink y.cls idx y').before a0 Z = true) (w2 : (Jvm.Cond.instanceMethod y').before a0 Z = true) (w3 : (Jvm.Cond.initialized y'.cls).before a0 Z = true) (w4 : (Jvm.Cond.code y' cd' ml' none).before a0 Z = true) (hy : y'.cls ≠ "java/lang/invoke/MethodHandle" ∧ y'.cls ≠ "java/lang/invoke/VarHandle") (hsz : ls.size = ml) (hlen : parseMethodDescriptor y'.desc = some ⟨ps, rt⟩) (hl2 : as.length = ps.length) (hst : st = as.reverse ++ .ref a :: rest)
    (hf : rm'.frames + 1 ≤ R.frames) (hlo : (rest.map fun v => v.category).sum + (ml' + 11) + rm'.locals ≤ R.locals) (hc : cells + rm'.cells ≤ R.cells) (hs : slots + rm'.slots ≤ R.slots) (pc' : Nat) (hp : pc + 3 = pc')
    (g : ∀ (T' : State) (v : Option Value) (L : List Loc), Stand p l e R s m args below meth c T' (locs ++ L) (cells + rm'.cells) (slots + rm'.slots) → Qc v T'.heap L → Ends p e s below R Q T' (mkF m pc' ls (v.toList ++ rest))) : Ends p e s below R Q T (mkF m pc ls st) := by
  subst hp hst
  obtain ⟨v, _, ⟨T', L', c', n'⟩, -, X', ⟨Lc, hQ, q1, q2, q3⟩, q⟩ := X.specialBack k.1 (y := y') hin k.2.2.2.2.1 (mvT k.2.1 w1) (mvT k.2.1 w2) (mvT k.2.1 w4) hy (backOf (W := (rest.map fun v => v.category).sum) M k.2.1 w4 w3 hf hlo) (g := mkF m pc ls (as.reverse ++ .ref a :: rest)) rfl (hsz.trans k.2.2.2.1.symm) (Steps.refl _) (a := a) (argsL := as) (rest := rest) (lenOf hlen hl2) rfl (by show 2 * 0 + _ ≤ _; rw [Nat.mul_zero, Nat.zero_add]; exact Nat.le_refl _) (hb k.2.2.1 hd) (fun _ _ => ⟨rfl, e0, hc, hs⟩)
  dsimp only [Pt.U, Pt.locs, Pt.cells, Pt.slots] at X' q1 q2 q3 q hQ
  subst q1 q2 q3
  exact (g T' v Lc X' hQ).map fun _ r => q.trans r
theorem callV (k : K p s m meth c Z y cd ml ret) (X : Stand p l e R s m args below meth c T locs cells slots) {y' : MethodName} {cd' : ByteArray} {ml' : Nat} {ret' : Option FieldType} {rm' : Room} {Qc : Option Value → Heap → List Loc → Prop} {idx : Nat} {ps : List FieldType} {rt : Option FieldType} {a : Addr} (as : List Value) (rest : List Value) (hd : decode cd pc = .ok (.invokevirtual idx, 3)) (M : Met l y' cd' ml' ret' rm' (.ref a :: as).toArray Z h Qc []) (e0 : T.heap = h) (E : Exa Z h a y'.cls)
    (w1 : (Jvm.Cond.methodLink y.cls idx y').before a0 Z = true) (w0 : (Jvm.Cond.declares y').before a0 Z = true) (ws : (Jvm.Cond.selects y'.cls y' y').before a0 Z = true) (w2 : (Jvm.Cond.instanceMethod y').before a0 Z = true) (w3 : (Jvm.Cond.initialized y'.cls).before a0 Z = true) (w4 : (Jvm.Cond.code y' cd' ml' ret').before a0 Z = true) (hy : y'.cls ≠ "java/lang/invoke/MethodHandle" ∧ y'.cls ≠ "java/lang/invoke/VarHandle") (hsz : ls.size = ml) (hlen : parseMethodDescriptor y'.desc = some ⟨ps, rt⟩) (hl2 : as.length = ps.length) (hst : st = as.reverse ++ .ref a :: rest)
    (hf : rm'.frames + 1 ≤ R.frames) (hlo : (rest.map fun v => v.category).sum + (ml' + 11) + rm'.locals ≤ R.locals) (hc : cells + rm'.cells ≤ R.cells) (hs : slots + rm'.slots ≤ R.slots) (pc' : Nat) (hp : pc + 3 = pc')
    (g : ∀ (T' : State) (v : Option Value) (L : List Loc), Stand p l e R s m args below meth c T' (locs ++ L) (cells + rm'.cells) (slots + rm'.slots) → Qc v T'.heap L → Ends p e s below R Q T' (mkF m pc' ls (v.toList ++ rest))) : Ends p e s below R Q T (mkF m pc ls st) := by
  subst hp hst
  obtain ⟨cq, kq, qa, qb, qc⟩ := isOf k.2.1 e0 E
  obtain ⟨v, _, ⟨T', L', c', n'⟩, -, X', ⟨Lc, hQ, q1, q2, q3⟩, q⟩ := X.virtualBack k.1 (y := y') (z := y') k.2.2.2.2.1 (mvT k.2.1 w1) (mvT k.2.1 w0) (notFace_of_selects (args := #[]) (mvT k.2.1 ws)) (mvT k.2.1 ws) (mvT k.2.1 w2) hy (backOf (W := (rest.map fun v => v.category).sum) M k.2.1 w4 w3 hf hlo) qa qc (g := mkF m pc ls (as.reverse ++ .ref a :: rest)) rfl (hsz.trans k.2.2.2.1.symm) (Steps.refl _) (argsL := as) (rest := rest) (lenOf hlen hl2) rfl (by show 2 * 0 + _ ≤ _; rw [Nat.mul_zero, Nat.zero_add]; exact Nat.le_refl _) (hb k.2.2.1 hd) (fun _ _ => ⟨rfl, e0, hc, hs⟩)
  dsimp only [Pt.U, Pt.locs, Pt.cells, Pt.slots] at X' q1 q2 q3 q hQ
  subst q1 q2 q3
  exact (g T' v Lc X' hQ).map fun _ r => q.trans r
theorem callP (k : K p s m meth c Z y cd ml ret) (X : Stand p l e R s m args below meth c T locs cells slots) {y' : MethodName} {cd' : ByteArray} {ml' : Nat} {ret' : Option FieldType} {rm' : Room} {Qc : Option Value → Heap → List Loc → Prop} {idx : Nat} {ps : List FieldType} {rt : Option FieldType} {a : Addr} {C : String} {ni : Nat} (as : List Value) (rest : List Value) (hd : decode cd pc = .ok (.invokevirtual idx, 3)) (M : Met l y' cd' ml' ret' rm' (.ref a :: as).toArray Z h Qc []) (e0 : T.heap = h) (E : Exa Z h a C)
    (w1 : (Jvm.Cond.methodLink y.cls idx y').before a0 Z = true) (w0 : (Jvm.Cond.privateMethod y').before a0 Z = true) (wi : (Jvm.Cond.instantiable y'.cls ni).before a0 Z = true) (w2 : (Jvm.Cond.instanceMethod y').before a0 Z = true) (w3 : (Jvm.Cond.initialized y'.cls).before a0 Z = true) (w4 : (Jvm.Cond.code y' cd' ml' ret').before a0 Z = true) (hy : y'.cls ≠ "java/lang/invoke/MethodHandle" ∧ y'.cls ≠ "java/lang/invoke/VarHandle") (hsz : ls.size = ml) (hlen : parseMethodDescriptor y'.desc = some ⟨ps, rt⟩) (hl2 : as.length = ps.length) (hst : st = as.reverse ++ .ref a :: rest)
    (hf : rm'.frames + 1 ≤ R.frames) (hlo : (rest.map fun v => v.category).sum + (ml' + 11) + rm'.locals ≤ R.locals) (hc : cells + rm'.cells ≤ R.cells) (hs : slots + rm'.slots ≤ R.slots) (pc' : Nat) (hp : pc + 3 = pc')
    (g : ∀ (T' : State) (v : Option Value) (L : List Loc), Stand p l e R s m args below meth c T' (locs ++ L) (cells + rm'.cells) (slots + rm'.slots) → Qc v T'.heap L → Ends p e s below R Q T' (mkF m pc' ls (v.toList ++ rest))) : Ends p e s below R Q T (mkF m pc ls st) := by
  subst hp hst
  obtain ⟨cq, qa, qb⟩ := E.cell
  obtain ⟨ci, ki, i1, i2, -, i4, -, -⟩ := Cond.instantiable_spec wi
  have ws := Jvm.Stand.selects_self_of_private (args := a0) i1 i2 (Bool.or_eq_false_iff.mp i4).1 (Cond.privateMethod_at w0) w2 hy
  obtain ⟨v, _, ⟨T', L', c', n'⟩, -, X', ⟨Lc, hQ, q1, q2, q3⟩, q⟩ := X.privateBack k.1 (y := y') k.2.2.2.2.1 (mvT k.2.1 w1) (mvT k.2.1 w2) (mvT k.2.1 ws) (Cond.privateMethod_at (mvP k.2.1 w0 (args := #[]))) (mvT k.2.1 w4) hy (backOf (W := (rest.map fun v => v.category).sum) M k.2.1 w4 w3 hf hlo) (g := mkF m pc ls (as.reverse ++ .ref a :: rest)) rfl (hsz.trans k.2.2.2.1.symm) (Steps.refl _) (a := a) (by rw [e0]; exact qa) qb (argsL := as) (rest := rest) (lenOf hlen hl2) rfl (by show 2 * 0 + _ ≤ _; rw [Nat.mul_zero, Nat.zero_add]; exact Nat.le_refl _) (hb k.2.2.1 hd) (fun _ _ => ⟨rfl, e0, hc, hs⟩)
  dsimp only [Pt.U, Pt.locs, Pt.cells, Pt.slots] at X' q1 q2 q3 q hQ
  subst q1 q2 q3
  exact (g T' v Lc X' hQ).map fun _ r => q.trans r
end
end Wk
/-! own_: the open-addressing table as two lists; plain facts, no program in sight -/
def own_D (c a b : Nat) : Nat := (b + c - a) % c
def own_mix (k : Int32) : Int32 := (k * (-1640531527 : Int32)) ^^^ ((k * (-1640531527 : Int32)).toUInt32 >>> ((16 : Int32) &&& 31).toUInt32).toInt32
def own_H (c : Nat) (k : Int32) : Nat := ((own_mix k).toInt % (c : Int)).toNat
theorem own_H_lt {c : Nat} (hc : 0 < c) (k : Int32) : own_H c k < c := by
  have h1 := Int.emod_lt_of_pos (own_mix k).toInt (show (0 : Int) < c by omega)
  have h2 := Int.emod_nonneg (own_mix k).toInt (show (c : Int) ≠ 0 by omega)
  unfold own_H; omega
theorem own_sg {ks : List Int32} {s : Nat} {a : Int32} (h : s < ks.length) (x : Nat) : (ks.set s a).getD x 0 = if x = s then a else ks.getD x 0 := by
  rw [List.getD_eq_getElem?_getD, List.getElem?_set]
  by_cases q : s = x
  · subst q; rw [if_pos rfl, if_pos h, if_pos rfl]; rfl
  · rw [if_neg q, if_neg (fun r => q r.symm), List.getD_eq_getElem?_getD]
def own_cnt (ks : List Int32) : Nat := ks.countP (fun k => k != -1)
theorem own_gDe {ks : List Int32} {i : Nat} (h : i < ks.length) : ks.getD i 0 = ks[i] := by rw [List.getD_eq_getElem?_getD, List.getElem?_eq_getElem h]; rfl
theorem own_free {ks : List Int32} (h : own_cnt ks < ks.length) : ∃ e, e < ks.length ∧ ks.getD e 0 = -1 := by
  apply Classical.byContradiction
  intro hn
  have : own_cnt ks = ks.length := by
    apply List.countP_eq_length.mpr
    intro a ha
    obtain ⟨i, hi, rfl⟩ := List.mem_iff_getElem.mp ha
    rw [bne_iff_ne]
    intro q
    exact hn ⟨i, hi, by rw [own_gDe hi]; exact q⟩
  omega
theorem own_cnt_set {ks : List Int32} {i : Nat} {k : Int32} (h : i < ks.length) : own_cnt (ks.set i k) + (if ks.getD i 0 = -1 then 0 else 1) = own_cnt ks + (if k = -1 then 0 else 1) := by
  induction ks generalizing i with
  | nil => exact absurd h (Nat.not_lt_zero _)
  | cons a t ih =>
    cases i with
    | zero =>
      show own_cnt (k :: t) + (if a = -1 then 0 else 1) = own_cnt (a :: t) + _
      unfold own_cnt
      rw [List.countP_cons, List.countP_cons]
      by_cases q : a = -1 <;> by_cases r : k = -1 <;> simp [q, r]
    | succ i =>
      show own_cnt (a :: t.set i k) + (if t.getD i 0 = -1 then 0 else 1) = own_cnt (a :: t) + _
      have := ih (i := i) (Nat.lt_of_succ_lt_succ h)
      unfold own_cnt at *
      rw [List.countP_cons, List.countP_cons]
      omega
/-- the lists stand for the map M -/
def own_Rep (c : Nat) (ks vs : List Int32) (M : Int32 → Int32) : Prop :=
  ks.length = c ∧ vs.length = c ∧ (∀ j, j < c → ks.getD j 0 ≠ -1 → M (ks.getD j 0) = vs.getD j 0 ∧ vs.getD j 0 ≠ 0) ∧ (∀ q, M q ≠ 0 → ∃ j, j < c ∧ ks.getD j 0 = q) ∧
  (∀ i j, i < c → j < c → ks.getD i 0 ≠ -1 → ks.getD i 0 = ks.getD j 0 → i = j) ∧
  (∀ j, j < c → ks.getD j 0 ≠ -1 → ∀ x, x < c → own_D c (own_H c (ks.getD j 0)) x < own_D c (own_H c (ks.getD j 0)) j → ks.getD x 0 ≠ -1) ∧ M (-1) = 0
def own_upd (M : Int32 → Int32) (k v : Int32) : Int32 → Int32 := fun q => if q = k then v else M q
theorem own_D_inj {c h x y : Nat} (hc : c = 8 ∨ c = 16) (hh : h < c) (hx : x < c) (hy : y < c) (e : own_D c h x = own_D c h y) : x = y := by
  unfold own_D at e; rcases hc with rfl | rfl <;> omega
/-- what find has seen: nothing of k, nothing free, from k's own place up to s -/
def own_Seen (c : Nat) (ks : List Int32) (k : Int32) (s : Nat) : Prop := ∀ x, x < c → own_D c (own_H c k) x < own_D c (own_H c k) s → ks.getD x 0 ≠ k ∧ ks.getD x 0 ≠ -1
theorem own_absent {c : Nat} {ks vs : List Int32} {M : Int32 → Int32} {k : Int32} {s : Nat} (hc : c = 8 ∨ c = 16) (R : own_Rep c ks vs M) (hk : k ≠ -1) (hs : s < c) (S : own_Seen c ks k s) (hf : ks.getD s 0 = -1) : (∀ j, j < c → ks.getD j 0 ≠ k) ∧ M k = 0 := by
  obtain ⟨h1, h2, h3, h4, h5, h6, h7⟩ := R
  have hH : own_H c k < c := own_H_lt (by omega) k
  have key : ∀ j, j < c → ks.getD j 0 ≠ k := by
    intro j hj e
    have p := h6 j hj (by rw [e]; exact hk)
    rw [e] at p
    rcases Nat.lt_trichotomy (own_D c (own_H c k) j) (own_D c (own_H c k) s) with q | q | q
    · exact (S j hj q).1 e
    · have := own_D_inj hc hH hj hs q; subst this; exact hk (e.symm.trans hf)
    · exact p s hs q hf
  refine ⟨key, Classical.byContradiction fun q => ?_⟩
  obtain ⟨j, hj, e⟩ := h4 k q
  exact key j hj e
theorem own_put_new {c : Nat} {ks vs : List Int32} {M : Int32 → Int32} {k v : Int32} {s : Nat} (hc : c = 8 ∨ c = 16) (R : own_Rep c ks vs M) (hk : k ≠ -1) (hv : v ≠ 0) (hs : s < c) (S : own_Seen c ks k s) (hf : ks.getD s 0 = -1) : own_Rep c (ks.set s k) (vs.set s v) (own_upd M k v) := by
  obtain ⟨ab, -⟩ := own_absent hc R hk hs S hf
  obtain ⟨h1, h2, h3, h4, h5, h6, h7⟩ := R
  have g := own_sg (ks := ks) (s := s) (a := k) (by omega)
  have g' := own_sg (ks := vs) (s := s) (a := v) (by omega)
  refine ⟨by rw [List.length_set]; exact h1, by rw [List.length_set]; exact h2, ?_, ?_, ?_, ?_, by unfold own_upd; rw [if_neg (fun q => hk q.symm)]; exact h7⟩
  · intro j hj hn
    rw [g] at hn ⊢; rw [g']
    by_cases q : j = s
    · simp only [q, if_true, own_upd]; exact ⟨trivial, hv⟩
    · rw [if_neg q] at hn ⊢; rw [if_neg q]
      have := h3 j hj hn
      refine ⟨?_, this.2⟩
      unfold own_upd
      rw [if_neg (ab j hj)]; exact this.1
  · intro q hq
    by_cases e : q = k
    · exact ⟨s, hs, by rw [g, if_pos rfl, e]⟩
    · have hq' : M q ≠ 0 := by unfold own_upd at hq; rw [if_neg e] at hq; exact hq
      obtain ⟨j, hj, e2⟩ := h4 q hq'
      refine ⟨j, hj, ?_⟩
      rw [g, if_neg]
      · exact e2
      · intro r; subst r; rw [hf] at e2; rw [← e2] at hq'; exact hq' h7
  · intro i j hi hj hn e
    rw [g] at hn e; rw [g] at e
    by_cases qi : i = s
    · by_cases qj : j = s
      · rw [qi, qj]
      · rw [if_pos qi, if_neg qj] at e; exact absurd e.symm (ab j hj)
    · rw [if_neg qi] at hn e
      by_cases qj : j = s
      · rw [if_pos qj] at e; exact absurd e (ab i hi)
      · rw [if_neg qj] at e; exact h5 i j hi hj hn e
  · intro j hj hn x hx hd
    rw [g]
    by_cases qx : x = s
    · rw [if_pos qx]; exact hk
    · rw [if_neg qx]
      rw [g] at hn hd
      by_cases qj : j = s
      · rw [if_pos qj, qj] at hd; exact (S x hx hd).2
      · rw [if_neg qj] at hn hd; exact h6 j hj hn x hx hd
theorem own_put_old {c : Nat} {ks vs : List Int32} {M : Int32 → Int32} {k v : Int32} {s : Nat} (R : own_Rep c ks vs M) (hk : k ≠ -1) (hv : v ≠ 0) (hs : s < c) (hf : ks.getD s 0 = k) : own_Rep c ks (vs.set s v) (own_upd M k v) := by
  obtain ⟨h1, h2, h3, h4, h5, h6, h7⟩ := R
  have g' := own_sg (ks := vs) (s := s) (a := v) (by omega)
  refine ⟨h1, by rw [List.length_set]; exact h2, ?_, ?_, h5, h6, by unfold own_upd; rw [if_neg (fun q => hk q.symm)]; exact h7⟩
  · intro j hj hn
    rw [g']
    by_cases q : j = s
    · subst q; rw [if_pos rfl, hf]; exact ⟨by unfold own_upd; rw [if_pos rfl], hv⟩
    · rw [if_neg q]
      have e : ks.getD j 0 ≠ k := fun e => q (h5 j s hj hs hn (e.trans hf.symm))
      have := h3 j hj hn
      exact ⟨by unfold own_upd; rw [if_neg e]; exact this.1, this.2⟩
  · intro q hq
    by_cases e : q = k
    · exact ⟨s, hs, hf.trans e.symm⟩
    · unfold own_upd at hq; rw [if_neg e] at hq; exact h4 q hq
theorem own_put_none {c : Nat} {ks vs : List Int32} {M : Int32 → Int32} {k : Int32} (R : own_Rep c ks vs M) (h : M k = 0) : own_Rep c ks vs (own_upd M k 0) := by
  have e : own_upd M k 0 = M := by
    funext q; unfold own_upd
    by_cases r : q = k
    · rw [if_pos r, r, h]
    · rw [if_neg r]
  rw [e]; exact R
theorem own_get {c : Nat} {ks vs : List Int32} {M : Int32 → Int32} {k : Int32} {s : Nat} (R : own_Rep c ks vs M) (hk : k ≠ -1) (hs : s < c) (hf : ks.getD s 0 = k) : M k = vs.getD s 0 ∧ M k ≠ 0 := by
  have := R.2.2.1 s hs (by rw [hf]; exact hk)
  rw [hf] at this
  exact ⟨this.1, by rw [this.1]; exact this.2⟩
/-! removal: f is the hole, n the next place to look at -/
def own_Hole (ks vs : List Int32) (M : Int32 → Int32) (f n : Nat) : Prop :=
  ks.length = 8 ∧ vs.length = 8 ∧ f < 8 ∧ n < 8 ∧ ks.getD f 0 ≠ -1 ∧ (∀ j, j < 8 → j ≠ f → ks.getD j 0 ≠ -1 → M (ks.getD j 0) = vs.getD j 0 ∧ vs.getD j 0 ≠ 0) ∧ (∀ q, M q ≠ 0 → ∃ j, j < 8 ∧ j ≠ f ∧ ks.getD j 0 = q) ∧
  (∀ i j, i < 8 → j < 8 → i ≠ f → j ≠ f → ks.getD i 0 ≠ -1 → ks.getD i 0 = ks.getD j 0 → i = j) ∧
  (∀ j, j < 8 → j ≠ f → ks.getD j 0 ≠ -1 → ∀ x, x < 8 → own_D 8 (own_H 8 (ks.getD j 0)) x < own_D 8 (own_H 8 (ks.getD j 0)) j → ks.getD x 0 ≠ -1) ∧
  (∀ j, j < 8 → j ≠ f → ks.getD j 0 ≠ -1 → own_D 8 f j < own_D 8 f n → ¬ own_D 8 (own_H 8 (ks.getD j 0)) f < own_D 8 (own_H 8 (ks.getD j 0)) j) ∧
  (∀ j, j < 8 → own_D 8 f j < own_D 8 f n → ks.getD j 0 ≠ -1) ∧ 1 ≤ own_D 8 f n ∧ M (-1) = 0
theorem own_hole_start {ks vs : List Int32} {M : Int32 → Int32} {k : Int32} {s : Nat} (R : own_Rep 8 ks vs M) (hk : k ≠ -1) (hs : s < 8) (hf : ks.getD s 0 = k) : own_Hole ks vs (own_upd M k 0) s ((s + 1) % 8) := by
  obtain ⟨h1, h2, h3, h4, h5, h6, h7⟩ := R
  have hne : ∀ j, j < 8 → j ≠ s → ks.getD j 0 ≠ -1 → ks.getD j 0 ≠ k := fun j hj q hn e => q (h5 j s hj hs hn (e.trans hf.symm))
  have hD : own_D 8 s ((s + 1) % 8) = 1 := by unfold own_D; omega
  refine ⟨h1, h2, hs, Nat.mod_lt _ (by decide), by rw [hf]; exact hk, ?_, ?_, ?_, ?_, ?_, ?_, by omega, by unfold own_upd; rw [if_neg (fun q => hk q.symm)]; exact h7⟩
  · intro j hj q hn
    unfold own_upd; rw [if_neg (hne j hj q hn)]; exact h3 j hj hn
  · intro q hq
    by_cases e : q = k
    · unfold own_upd at hq; rw [if_pos e] at hq; exact absurd rfl hq
    · unfold own_upd at hq; rw [if_neg e] at hq
      obtain ⟨j, hj, ej⟩ := h4 q hq
      exact ⟨j, hj, fun r => e (by rw [← ej, r, hf]), ej⟩
  · intro i j hi hj _ _ hn e; exact h5 i j hi hj hn e
  · intro j hj _ hn; exact h6 j hj hn
  · intro j hj q hn hd
    rw [hD] at hd
    exact absurd (show j = s by unfold own_D at hd; omega) q
  · intro j hj hd
    rw [hD] at hd
    have : j = s := by unfold own_D at hd; omega
    rw [this, hf]; exact hk
theorem own_hole_skip {ks vs : List Int32} {M : Int32 → Int32} {f n : Nat} (R : own_Hole ks vs M f n) (hfr : ∃ e, e < 8 ∧ ks.getD e 0 = -1) (hn : ks.getD n 0 ≠ -1) (hd : own_D 8 (own_H 8 (ks.getD n 0)) n < own_D 8 f n) : own_Hole ks vs M f ((n + 1) % 8) := by
  obtain ⟨h1, h2, hf, hnn, hk, h3, h4, h5, h6, h8, h9, h10, h7⟩ := R
  obtain ⟨e, he, hee⟩ := hfr
  have hH := own_H_lt (c := 8) (by decide) (ks.getD n 0)
  have q1 : ¬ own_D 8 f e < own_D 8 f n := fun q => h9 e he q hee
  have q2 : e ≠ n := fun q => hn (q ▸ hee)
  have hD : own_D 8 f ((n + 1) % 8) = own_D 8 f n + 1 := by
    have : own_D 8 f e ≠ own_D 8 f n := fun q => q2 (own_D_inj (Or.inl rfl) hf he hnn q)
    unfold own_D at *; omega
  refine ⟨h1, h2, hf, Nat.mod_lt _ (by decide), hk, h3, h4, h5, h6, ?_, ?_, by omega, h7⟩
  · intro j hj q hj1 hjd
    rw [hD] at hjd
    rcases Nat.lt_or_ge (own_D 8 f j) (own_D 8 f n) with r | r
    · exact h8 j hj q hj1 r
    · have : j = n := own_D_inj (Or.inl rfl) hf hj hnn (by omega)
      subst this
      unfold own_D at *; omega
  · intro j hj hjd
    rw [hD] at hjd
    rcases Nat.lt_or_ge (own_D 8 f j) (own_D 8 f n) with r | r
    · exact h9 j hj r
    · have : j = n := own_D_inj (Or.inl rfl) hf hj hnn (by omega)
      subst this; exact hn
theorem own_hole_move {ks vs : List Int32} {M : Int32 → Int32} {f n : Nat} (R : own_Hole ks vs M f n) (hn : ks.getD n 0 ≠ -1) (hd : ¬ own_D 8 (own_H 8 (ks.getD n 0)) n < own_D 8 f n) : own_Hole (ks.set f (ks.getD n 0)) (vs.set f (vs.getD n 0)) M n ((n + 1) % 8) := by
  obtain ⟨h1, h2, hf, hnn, hk, h3, h4, h5, h6, h8, h9, h10, h7⟩ := R
  have hH := own_H_lt (c := 8) (by decide) (ks.getD n 0)
  have hnf : n ≠ f := fun q => by subst q; unfold own_D at h10; omega
  have g := own_sg (ks := ks) (s := f) (a := ks.getD n 0) (by omega)
  have g' := own_sg (ks := vs) (s := f) (a := vs.getD n 0) (by omega)
  have hD : own_D 8 n ((n + 1) % 8) = 1 := by unfold own_D; omega
  have hnz : ∀ x, x < 8 → ks.getD x 0 ≠ -1 → (ks.set f (ks.getD n 0)).getD x 0 ≠ -1 := fun x hx q => by
    rw [g]; by_cases r : x = f
    · rw [if_pos r]; exact hn
    · rw [if_neg r]; exact q
  refine ⟨by rw [List.length_set]; exact h1, by rw [List.length_set]; exact h2, hnn, Nat.mod_lt _ (by decide), by rw [g, if_neg hnf]; exact hn, ?_, ?_, ?_, ?_, ?_, ?_, by omega, h7⟩
  · intro j hj q hj1
    rw [g] at hj1 ⊢; rw [g']
    by_cases r : j = f
    · rw [if_pos r] at hj1 ⊢; rw [if_pos r]; exact h3 n hnn hnf hn
    · rw [if_neg r] at hj1 ⊢; rw [if_neg r]; exact h3 j hj r hj1
  · intro q hq
    obtain ⟨j, hj, hjf, e⟩ := h4 q hq
    by_cases r : j = n
    · exact ⟨f, hf, fun z => hnf z.symm, by rw [g, if_pos rfl, ← r]; exact e⟩
    · exact ⟨j, hj, r, by rw [g, if_neg hjf]; exact e⟩
  · intro i j hi hj qi qj hi1 e
    rw [g] at hi1 e; rw [g] at e
    by_cases ri : i = f
    · by_cases rj : j = f
      · rw [ri, rj]
      · rw [if_pos ri] at hi1 e; rw [if_neg rj] at e
        exact absurd (h5 n j hnn hj hnf rj hn e).symm qj
    · rw [if_neg ri] at hi1 e
      by_cases rj : j = f
      · rw [if_pos rj] at e
        exact absurd (h5 i n hi hnn ri hnf hi1 e) qi
      · rw [if_neg rj] at e; exact h5 i j hi hj ri rj hi1 e
  · intro j hj q hj1 x hx hxd
    rw [g] at hj1 hxd
    apply hnz x hx
    by_cases r : j = f
    · rw [if_pos r, r] at hxd
      exact h6 n hnn hnf hn x hx (by unfold own_D at *; omega)
    · rw [if_neg r] at hj1 hxd
      exact h6 j hj r hj1 x hx hxd
  · intro j hj q hj1 hjd
    rw [hD] at hjd
    exact absurd (show j = n by unfold own_D at hjd; omega) q
  · intro j hj hjd
    rw [hD] at hjd
    have : j = n := by unfold own_D at hjd; omega
    rw [this, g, if_neg hnf]; exact hn
theorem own_hole_end {ks vs : List Int32} {M : Int32 → Int32} {f n : Nat} (R : own_Hole ks vs M f n) (hn : ks.getD n 0 = -1) : own_Rep 8 (ks.set f (-1)) vs M := by
  obtain ⟨h1, h2, hf, hnn, hk, h3, h4, h5, h6, h8, h9, h10, h7⟩ := R
  have g := own_sg (ks := ks) (s := f) (a := -1) (by omega)
  refine ⟨by rw [List.length_set]; exact h1, h2, ?_, ?_, ?_, ?_, h7⟩
  · intro j hj hj1
    rw [g] at hj1 ⊢
    by_cases r : j = f
    · rw [if_pos r] at hj1; exact absurd rfl hj1
    · rw [if_neg r] at hj1 ⊢; exact h3 j hj r hj1
  · intro q hq
    obtain ⟨j, hj, hjf, e⟩ := h4 q hq
    exact ⟨j, hj, by rw [g, if_neg hjf]; exact e⟩
  · intro i j hi hj hi1 e
    rw [g] at hi1 e; rw [g] at e
    by_cases ri : i = f
    · rw [if_pos ri] at hi1; exact absurd rfl hi1
    · rw [if_neg ri] at hi1 e
      by_cases rj : j = f
      · rw [if_pos rj] at e; exact absurd e hi1
      · rw [if_neg rj] at e; exact h5 i j hi hj ri rj hi1 e
  · intro j hj hj1 x hx hxd
    rw [g] at hj1 hxd
    by_cases rj : j = f
    · rw [if_pos rj] at hj1; exact absurd rfl hj1
    · rw [if_neg rj] at hj1 hxd
      have hH := own_H_lt (c := 8) (by decide) (ks.getD j 0)
      have hpath := h6 j hj rj hj1
      have hxf : x ≠ f := by
        intro q; subst q
        rcases Nat.lt_trichotomy (own_D 8 x j) (own_D 8 x n) with r | r | r
        · exact h8 j hj rj hj1 r hxd
        · have : j = n := own_D_inj (Or.inl rfl) hx hj hnn r
          subst this; exact hj1 hn
        · exact hpath n hnn (by unfold own_D at *; omega) hn
      rw [g, if_neg hxf]; exact hpath x hx hxd
theorem own_oN {i : Nat} (h : i < 2147483648) : (Int32.ofNat i).toInt = (i : Int) := Int32.toInt_ofNat_of_lt (by omega)
theorem own_ltN {i n : Nat} (h : i < 2147483648) (h' : n < 2147483648) : Int32.ofNat i < Int32.ofNat n ↔ i < n := by rw [Int32.lt_iff_toInt_lt, own_oN h, own_oN h']; omega
theorem own_gD {xs : List Int32} {i : Nat} (h : i < xs.length) : xs[i]? = some (xs.getD i 0) := by rw [List.getD_eq_getElem?_getD, List.getElem?_eq_getElem h]; rfl
theorem own_Hmask {c : Nat} (hc : c = 8 ∨ c = 16) (k : Int32) : own_mix k &&& (Int32.ofNat c - (1 : Int32)) = Int32.ofNat (own_H c k) := by
  apply Int32.toInt_inj.mp
  have h1 := own_H_lt (c := c) (by omega) k
  rw [own_oN (by omega)]
  have h2 : 0 ≤ (own_mix k).toInt % (c : Int) := Int.emod_nonneg _ (by omega)
  rcases hc with rfl | rfl
  · rw [show (Int32.ofNat 8 - (1 : Int32)) = 7 from by decide, c_mask (own_mix k) 7 3 (by decide) (by decide)]
    unfold own_H; omega
  · rw [show (Int32.ofNat 16 - (1 : Int32)) = 15 from by decide, c_mask (own_mix k) 15 4 (by decide) (by decide)]
    unfold own_H; omega
theorem own_nx8 : ∀ s : Fin 8, (Int32.ofNat s.val + (1 : Int32)) &&& (Int32.ofNat 8 - (1 : Int32)) = Int32.ofNat ((s.val + 1) % 8) := by decide +kernel
theorem own_nx16 : ∀ s : Fin 16, (Int32.ofNat s.val + (1 : Int32)) &&& (Int32.ofNat 16 - (1 : Int32)) = Int32.ofNat ((s.val + 1) % 16) := by decide +kernel
theorem own_nx {c s : Nat} (hc : c = 8 ∨ c = 16) (hs : s < c) : (Int32.ofNat s + (1 : Int32)) &&& (Int32.ofNat c - (1 : Int32)) = Int32.ofNat ((s + 1) % c) := by
  rcases hc with rfl | rfl
  · exact own_nx8 ⟨s, hs⟩
  · exact own_nx16 ⟨s, hs⟩
theorem own_sb8 : ∀ a b : Fin 8, (Int32.ofNat b.val - Int32.ofNat a.val) &&& (Int32.ofNat 8 - (1 : Int32)) = Int32.ofNat (own_D 8 a.val b.val) := by decide +kernel
theorem own_sb {a b : Nat} (ha : a < 8) (hb : b < 8) : (Int32.ofNat b - Int32.ofNat a) &&& (Int32.ofNat 8 - (1 : Int32)) = Int32.ofNat (own_D 8 a b) := own_sb8 ⟨a, ha⟩ ⟨b, hb⟩
theorem own_D_lt {c : Nat} (hc : c = 8 ∨ c = 16) (a b : Nat) : own_D c a b < c := Nat.mod_lt _ (by omega)
theorem own_D_step {c s e : Nat} (hc : c = 8 ∨ c = 16) (hs : s < c) (he : e < c) {t : Nat} (h : own_D c s e = t + 1) : own_D c ((s + 1) % c) e = t := by
  unfold own_D at *; rcases hc with rfl | rfl <;> omega
theorem own_D_zero {c s e : Nat} (hc : c = 8 ∨ c = 16) (hs : s < c) (he : e < c) (h : own_D c s e = 0) : s = e := by
  unfold own_D at *; rcases hc with rfl | rfl <;> omega
theorem own_seen0 {c : Nat} {ks : List Int32} {k : Int32} (hc : c = 8 ∨ c = 16) : own_Seen c ks k (own_H c k) := by
  intro x hx hd
  have := own_H_lt (c := c) (by omega) k
  unfold own_D at hd; rcases hc with rfl | rfl <;> omega
theorem own_seen1 {c : Nat} {ks : List Int32} {k : Int32} {s : Nat} (hc : c = 8 ∨ c = 16) (hs : s < c) (S : own_Seen c ks k s) (h1 : ks.getD s 0 ≠ k) (h2 : ks.getD s 0 ≠ -1) : own_Seen c ks k ((s + 1) % c) := by
  intro x hx hd
  have hH := own_H_lt (c := c) (by omega) k
  by_cases q : x = s
  · subst q; exact ⟨h1, h2⟩
  · refine S x hx ?_
    have : own_D c (own_H c k) x ≠ own_D c (own_H c k) s := fun e => q (own_D_inj hc hH hx hs e)
    unfold own_D at *; rcases hc with rfl | rfl <;> omega
theorem own_len {c : Nat} {ks : List Int32} (hl : ks.length = c) : ((ks.map Value.int).length : Int) = (c : Int) := by rw [List.length_map, hl]
def own_fl (xs : List Int32) (v : Int32) : Nat → List Int32
  | 0 => xs
  | k + 1 => (own_fl xs v k).set k v
theorem own_fl_len (xs : List Int32) (v : Int32) : ∀ k, (own_fl xs v k).length = xs.length
  | 0 => rfl
  | k + 1 => by show ((own_fl xs v k).set k v).length = _; rw [List.length_set, own_fl_len]
theorem own_fl_get (xs : List Int32) (v : Int32) (j : Nat) (hj : j < xs.length) : ∀ k, (own_fl xs v k)[j]? = if j < k then some v else xs[j]?
  | 0 => by rw [if_neg (Nat.not_lt_zero _)]; rfl
  | k + 1 => by
    show ((own_fl xs v k).set k v)[j]? = _
    rw [List.getElem?_set, own_fl_len, own_fl_get xs v j hj k]
    by_cases q : k = j
    · subst q; rw [if_pos rfl, if_pos hj, if_pos (by omega)]
    · rw [if_neg q]
      by_cases r : j < k
      · rw [if_pos r, if_pos (by omega)]
      · rw [if_neg r, if_neg (by omega)]
theorem own_fl_all (xs : List Int32) (v : Int32) : own_fl xs v xs.length = List.replicate xs.length v := by
  apply List.ext_getElem?
  intro j
  by_cases h : j < xs.length
  · rw [own_fl_get xs v j h, if_pos h, List.getElem?_replicate, if_pos h]
  · rw [List.getElem?_eq_none (by rw [own_fl_len]; omega), List.getElem?_eq_none (by rw [List.length_replicate]; omega)]
theorem own_rep0 {c : Nat} (hc : c = 8 ∨ c = 16) : own_Rep c (List.replicate c (-1)) (List.replicate c 0) (fun _ => 0) := by
  have h : ∀ j, j < c → (List.replicate c (-1 : Int32)).getD j 0 = -1 := fun j hj => by rw [List.getD_eq_getElem?_getD, List.getElem?_replicate, if_pos hj]; rfl
  refine ⟨List.length_replicate, List.length_replicate, fun j hj q => absurd (h j hj) q, fun q hq => absurd rfl hq, fun i j hi hj q => absurd (h i hi) q, fun j hj q => absurd (h j hj) q, rfl⟩
theorem own_cnt0 (c : Nat) : own_cnt (List.replicate c (-1)) = 0 := by unfold own_cnt; rw [List.countP_replicate]; rfl
/-! moving to a greater table -/
def own_Mi (ks vs : List Int32) : Nat → Int32 → Int32
  | 0 => fun _ => 0
  | i + 1 => if ks.getD i 0 = -1 then own_Mi ks vs i else own_upd (own_Mi ks vs i) (ks.getD i 0) (vs.getD i 0)
theorem own_Mi_spec {c : Nat} {ks vs : List Int32} {M : Int32 → Int32} (R : own_Rep c ks vs M) : ∀ i, i ≤ c → ∀ q, (own_Mi ks vs i q = M q ∧ ∃ j, j < i ∧ ks.getD j 0 = q) ∨ (own_Mi ks vs i q = 0 ∧ ∀ j, j < i → ks.getD j 0 = q → q = -1) := by
  intro i
  induction i with
  | zero => intro _ q; exact Or.inr ⟨rfl, fun j hj => absurd hj (Nat.not_lt_zero _)⟩
  | succ i ih =>
    intro hi q
    show ((if ks.getD i 0 = -1 then own_Mi ks vs i else own_upd (own_Mi ks vs i) (ks.getD i 0) (vs.getD i 0)) q = M q ∧ _) ∨ ((if ks.getD i 0 = -1 then own_Mi ks vs i else own_upd (own_Mi ks vs i) (ks.getD i 0) (vs.getD i 0)) q = 0 ∧ _)
    by_cases e : ks.getD i 0 = -1
    · rw [if_pos e]
      rcases ih (by omega) q with ⟨h1, j, hj, h2⟩ | ⟨h1, h2⟩
      · exact Or.inl ⟨h1, j, by omega, h2⟩
      · refine Or.inr ⟨h1, fun j hj hq => ?_⟩
        rcases Nat.lt_or_ge j i with r | r
        · exact h2 j r hq
        · obtain rfl : j = i := by omega
          exact hq.symm.trans e
    · rw [if_neg e]
      by_cases r : q = ks.getD i 0
      · refine Or.inl ⟨?_, i, by omega, r.symm⟩
        unfold own_upd; rw [if_pos r, r]; exact (R.2.2.1 i (by omega) e).1.symm
      · unfold own_upd; rw [if_neg r]
        rcases ih (by omega) q with ⟨h1, j, hj, h2⟩ | ⟨h1, h2⟩
        · exact Or.inl ⟨h1, j, by omega, h2⟩
        · refine Or.inr ⟨h1, fun j hj hq => ?_⟩
          rcases Nat.lt_or_ge j i with z | z
          · exact h2 j z hq
          · obtain rfl : j = i := by omega
            exact absurd hq.symm r
theorem own_Mi_all {c : Nat} {ks vs : List Int32} {M : Int32 → Int32} (R : own_Rep c ks vs M) : own_Mi ks vs c = M := by
  funext q
  rcases own_Mi_spec R c (Nat.le_refl c) q with ⟨h1, -⟩ | ⟨h1, h2⟩
  · exact h1
  · rw [h1]
    apply Classical.byContradiction
    intro hn
    obtain ⟨j, hj, e⟩ := R.2.2.2.1 q (fun z => hn z.symm)
    have := h2 j hj e
    subst this
    exact hn R.2.2.2.2.2.2.symm
theorem own_small4 {z c : Nat} (hz : z ≤ 100) (hc : c = 8 ∨ c = 16) : ((4 : Int32) * Int32.ofNat z).toInt = ((4 * z : Nat) : Int) ∧ ((3 : Int32) * Int32.ofNat c).toInt = ((3 * c : Nat) : Int) := by
  have h1 := c_imul 4 (Int32.ofNat z)
  have h2 := rng32 ((4 : Int32) * Int32.ofNat z)
  have h3 := c_imul 3 (Int32.ofNat c)
  have h4 := rng32 ((3 : Int32) * Int32.ofNat c)
  rw [own_oN (by omega)] at h1 h3
  have t4 : (4 : Int32).toInt = 4 := rfl
  have t3 : (3 : Int32).toInt = 3 := rfl
  rw [t4] at h1; rw [t3] at h3
  omega
theorem own_inc32 (z : Nat) : Int32.ofNat z + (1 : Int32) = Int32.ofNat (z + 1) := (Int32.ofNat_add z 1).symm
theorem own_dec32 {z : Nat} (h : 1 ≤ z) (h2 : z < 1000) : Int32.ofNat z - (1 : Int32) = Int32.ofNat (z - 1) := by
  apply Int32.toInt_inj.mp
  have h1 := c_isub (Int32.ofNat z) 1
  have h3 := rng32 (Int32.ofNat z - 1)
  have t : (1 : Int32).toInt = 1 := rfl
  rw [own_oN (by omega)] at h1 ⊢
  omega

def own_Tab (Z : State) (h : Heap) (n0 : Nat) (o kA vA : Addr) (sz : Nat) (ks vs : List Int32) : Prop := Exa Z h o "com/example/sensebid/sensebid/IntMap" ∧ Fld Z h o "com/example/sensebid/sensebid/IntMap" "keys" "[I" (.ref kA) ∧ Fld Z h o "com/example/sensebid/sensebid/IntMap" "values" "[I" (.ref vA) ∧ Fld Z h o "com/example/sensebid/sensebid/IntMap" "size" "I" (.int (Int32.ofNat sz)) ∧ Wk.Arl Z h kA .int (ks.map Value.int) ∧ Wk.Arl Z h vA .int (vs.map Value.int) ∧ o ≠ kA ∧ o ≠ vA ∧ kA ≠ vA ∧ n0 ≤ o ∧ n0 ≤ kA ∧ n0 ≤ vA
theorem d_IntMap_mix_0 : decode prog_32_method_10_code 0 = .ok (.iload_n 0, 1) := by decide +kernel
theorem d_IntMap_mix_1 : decode prog_32_method_10_code 1 = .ok (.ldc 47, 2) := by decide +kernel
theorem d_IntMap_mix_3 : decode prog_32_method_10_code 3 = .ok (.imul, 1) := by decide +kernel
theorem d_IntMap_mix_4 : decode prog_32_method_10_code 4 = .ok (.istore_n 1, 1) := by decide +kernel
theorem d_IntMap_mix_5 : decode prog_32_method_10_code 5 = .ok (.iload_n 1, 1) := by decide +kernel
theorem d_IntMap_mix_6 : decode prog_32_method_10_code 6 = .ok (.iload_n 1, 1) := by decide +kernel
theorem d_IntMap_mix_7 : decode prog_32_method_10_code 7 = .ok (.bipush 16, 2) := by decide +kernel
theorem d_IntMap_mix_9 : decode prog_32_method_10_code 9 = .ok (.iushr, 1) := by decide +kernel
theorem d_IntMap_mix_10 : decode prog_32_method_10_code 10 = .ok (.ixor, 1) := by decide +kernel
theorem d_IntMap_mix_11 : decode prog_32_method_10_code 11 = .ok (.ireturn, 1) := by decide +kernel
theorem pn_IntMap_mix : plainFor (⟨"com/example/sensebid/sensebid/IntMap", "mix", "(I)I"⟩ : MethodName) = true := plainFor_of_name (by first | (simp [plainName, overriddenIn, x]; done) | decide +kernel)
theorem pd_IntMap_mix : parseMethodDescriptor "(I)I" = some ⟨[.int], (some .int)⟩ := by decide +kernel
theorem ef_mix (m : MethodId) (key : Int32) : entryFrame m #[(.int key)] 2 = mkF m 0 #[.val (.int key), .unset] [] := by first | (simp [entryFrame, mkF, argsToLocals, Value.category]; done) | rfl
set_option maxRecDepth 65536 in
set_option maxHeartbeats 40000000 in
theorem rm_mix (l : Launch) (Z : State) (a0 : Array Value) (hw : ∀ d ∈ tables_1, d.before a0 Z = true) (key : Int32) (h0 : Heap) : Wk.Met l (⟨"com/example/sensebid/sensebid/IntMap", "mix", "(I)I"⟩ : MethodName) prog_32_method_10_code 2 (some .int) ({ frames := 0, cells := 0, slots := 0, locals := 0 } : Room) #[(.int key)] Z h0 (fun r h L => r = some (.int (own_mix key)) ∧ h = h0 ∧ L = []) [] := by
  refine Wk.enter pn_IntMap_mix (fun p e s m below meth c T0 k X0 e0 => ?_)
  refine (Wk.Ends.cast (ef_mix m key) ?_)
  refine Wk.iload_n k X0 d_IntMap_mix_0 rfl 1 rfl ?_
  refine Wk.ldc k X0 (z := (-1640531527 : Int32)) d_IntMap_mix_1 (Wk.w hw 35 rfl) 3 rfl ?_
  refine Wk.imul k X0 d_IntMap_mix_3 4 rfl ?_
  refine Wk.istore_n k X0 d_IntMap_mix_4 #[.val (.int key), .val (.int (key * (-1640531527 : Int32)))] rfl 5 rfl ?_
  refine Wk.iload_n k X0 d_IntMap_mix_5 rfl 6 rfl ?_
  refine Wk.iload_n k X0 d_IntMap_mix_6 rfl 7 rfl ?_
  refine Wk.bipush k X0 d_IntMap_mix_7 (16 : Int32) rfl 9 rfl ?_
  refine Wk.iushr k X0 d_IntMap_mix_9 10 rfl ?_
  refine Wk.ixor k X0 d_IntMap_mix_10 11 rfl ?_
  exact Wk.ret_int k X0 rfl d_IntMap_mix_11 (by decide) (by decide) ⟨rfl, e0, rfl⟩
theorem d_Arrays_fill_0 : decode jdk_65_method_103_code 0 = .ok (.iconst 0, 1) := by decide +kernel
theorem d_Arrays_fill_1 : decode jdk_65_method_103_code 1 = .ok (.istore_n 2, 1) := by decide +kernel
theorem d_Arrays_fill_2 : decode jdk_65_method_103_code 2 = .ok (.aload_n 0, 1) := by decide +kernel
theorem d_Arrays_fill_3 : decode jdk_65_method_103_code 3 = .ok (.arraylength, 1) := by decide +kernel
theorem d_Arrays_fill_4 : decode jdk_65_method_103_code 4 = .ok (.istore_n 3, 1) := by decide +kernel
theorem d_Arrays_fill_5 : decode jdk_65_method_103_code 5 = .ok (.iload_n 2, 1) := by decide +kernel
theorem d_Arrays_fill_6 : decode jdk_65_method_103_code 6 = .ok (.iload_n 3, 1) := by decide +kernel
theorem d_Arrays_fill_7 : decode jdk_65_method_103_code 7 = .ok (.if_icmp .ge 13, 3) := by decide +kernel
theorem d_Arrays_fill_10 : decode jdk_65_method_103_code 10 = .ok (.aload_n 0, 1) := by decide +kernel
theorem d_Arrays_fill_11 : decode jdk_65_method_103_code 11 = .ok (.iload_n 2, 1) := by decide +kernel
theorem d_Arrays_fill_12 : decode jdk_65_method_103_code 12 = .ok (.iload_n 1, 1) := by decide +kernel
theorem d_Arrays_fill_13 : decode jdk_65_method_103_code 13 = .ok (.iastore, 1) := by decide +kernel
theorem d_Arrays_fill_14 : decode jdk_65_method_103_code 14 = .ok (.iinc 2 1, 3) := by decide +kernel
theorem d_Arrays_fill_17 : decode jdk_65_method_103_code 17 = .ok (.goto (-12), 3) := by decide +kernel
theorem d_Arrays_fill_20 : decode jdk_65_method_103_code 20 = .ok (.return_, 1) := by decide +kernel
theorem pn_Arrays_fill : plainFor (⟨"java/util/Arrays", "fill", "([II)V"⟩ : MethodName) = true := plainFor_of_name (by first | (simp [plainName, overriddenIn, x]; done) | decide +kernel)
theorem pd_Arrays_fill : parseMethodDescriptor "([II)V" = some ⟨[(.array .int), .int], none⟩ := by decide +kernel
set_option maxRecDepth 65536 in
set_option maxHeartbeats 40000000 in
theorem fill_5 {p : Program} {l : Launch} {e : Env} {s : State} {m : MethodId} {args : Array Value} {below : List Frame} {meth : Method} {c : Code} {Z : State} {a0 : Array Value} {h0 : Heap} {n0 : Nat} (hw : ∀ d ∈ tables_1, d.before a0 Z = true) (k : Wk.K p s m meth c Z (⟨"java/util/Arrays", "fill", "([II)V"⟩ : MethodName) jdk_65_method_103_code 4 none) (a : Addr) (w : Int32) (n : Nat) (xs : List Int32) (hl : xs.length = n) (hn : n < 1000) (g1 : n0 ≤ a) :
    ∀ (d i : Nat), i + d = n → ∀ (T0 : State) (h1 : Heap) (locs : List Loc), Stand p l e ({ frames := 0, cells := 0, slots := 0, locals := 0 } : Room) s m args below meth c T0 locs 0 0 → T0.heap = h1 → Keep h0 h1 [a] → Fr n0 locs → Wk.Arl Z h1 a .int ((own_fl xs w i).map Value.int) → Wk.Ends p e s below ({ frames := 0, cells := 0, slots := 0, locals := 0 } : Room) (fun r h L => r = none ∧ Fr n0 L ∧ Keep h0 h [a] ∧ Wk.Arl Z h a .int ((own_fl xs w n).map Value.int)) T0 (mkF m 5 #[.val (.ref a), .val (.int w), .val (.int (Int32.ofNat i)), .val (.int (Int32.ofNat n))] []) := by
  intro d
  induction d with
  | zero =>
    intro i hd T0 h1 locs X0 e0 K1 N1 A1
    obtain rfl : i = n := by omega
    refine Wk.iload_n k X0 d_Arrays_fill_5 rfl 6 rfl ?_
    refine Wk.iload_n k X0 d_Arrays_fill_6 rfl 7 rfl ?_
    refine Wk.icmp_ge k X0 d_Arrays_fill_7 (by decide) 20 10 (by decide) rfl (fun hc7 => ?_) (fun hc7 => ?_)
    · refine Wk.ret_void k X0 rfl d_Arrays_fill_20 (by decide) (by decide) ?_
      rw [e0]
      exact ⟨rfl, N1, K1, A1⟩
    · exact absurd hc7 Int32.lt_irrefl
  | succ d ih =>
    intro i hd T0 h1 locs X0 e0 K1 N1 A1
    refine Wk.iload_n k X0 d_Arrays_fill_5 rfl 6 rfl ?_
    refine Wk.iload_n k X0 d_Arrays_fill_6 rfl 7 rfl ?_
    refine Wk.icmp_ge k X0 d_Arrays_fill_7 (by decide) 20 10 (by decide) rfl (fun hc7 => ?_) (fun hc7 => ?_)
    · exact absurd ((own_ltN (by omega) (by omega)).mpr (by omega)) hc7
    · refine Wk.aload_n k X0 d_Arrays_fill_10 rfl rfl 11 rfl ?_
      refine Wk.iload_n k X0 d_Arrays_fill_11 rfl 12 rfl ?_
      refine Wk.iload_n k X0 d_Arrays_fill_12 rfl 13 rfl ?_
      refine Wk.iastore k X0 (x := w) d_Arrays_fill_13 e0 A1 i (own_oN (by omega)) (by rw [own_fl_len]; omega) 14 rfl fun T101 h101 X101 e101 W101 A101 => ?_
      have N102 := Fr.snoc X101 N1 g1
      have K103 := K1.wr W101 (Or.inl (List.mem_of_getElem? (i := 0) rfl))
      refine Wk.iinc k X101 d_Arrays_fill_14 rfl #[.val (.ref a), .val (.int w), .val (.int ((Int32.ofNat i) + (1 : Int32))), .val (.int (Int32.ofNat n))] rfl 17 rfl ?_
      refine Wk.goto k X101 d_Arrays_fill_17 (by decide) 5 (by decide) ?_
      rw [own_inc32]
      exact ih (i + 1) (by omega) _ _ _ X101 e101 K103 N102 A101
theorem ef_fill (m : MethodId) (a : Addr) (w : Int32) : entryFrame m #[(.ref a), (.int w)] 4 = mkF m 0 #[.val (.ref a), .val (.int w), .unset, .unset] [] := by first | (simp [entryFrame, mkF, argsToLocals, Value.category]; done) | rfl
set_option maxRecDepth 65536 in
set_option maxHeartbeats 40000000 in
theorem rm_fill (l : Launch) (Z : State) (a0 : Array Value) (hw : ∀ d ∈ tables_1, d.before a0 Z = true) (a : Addr) (w : Int32) (xs : List Int32) (h0 : Heap) (n0 : Nat) (hn : xs.length < 1000) (g1 : n0 ≤ a) (A1 : Wk.Arl Z h0 a .int (xs.map Value.int)) : Wk.Met l (⟨"java/util/Arrays", "fill", "([II)V"⟩ : MethodName) jdk_65_method_103_code 4 none ({ frames := 0, cells := 0, slots := 0, locals := 0 } : Room) #[(.ref a), (.int w)] Z h0 (fun r h L => r = none ∧ Fr n0 L ∧ Keep h0 h [a] ∧ Wk.Arl Z h a .int ((List.replicate xs.length w).map Value.int)) [] := by
  refine Wk.enter pn_Arrays_fill (fun p e s m below meth c T0 k X0 e0 => ?_)
  refine (Wk.Ends.cast (ef_fill m a w) ?_)
  refine Wk.iconst k X0 d_Arrays_fill_0 (0 : Int32) rfl 1 rfl ?_
  refine Wk.istore_n k X0 d_Arrays_fill_1 #[.val (.ref a), .val (.int w), .val (.int (0 : Int32)), .unset] rfl 2 rfl ?_
  refine Wk.aload_n k X0 d_Arrays_fill_2 rfl rfl 3 rfl ?_
  refine Wk.arraylength k X0 d_Arrays_fill_3 e0 A1 (Int32.ofNat xs.length) (by rw [List.length_map]; exact own_oN (by omega)) 4 rfl ?_
  refine Wk.istore_n k X0 d_Arrays_fill_4 #[.val (.ref a), .val (.int w), .val (.int (0 : Int32)), .val (.int (Int32.ofNat xs.length))] rfl 5 rfl ?_
  have q := fill_5 hw k a w xs.length xs rfl hn g1 xs.length 0 (by omega) _ _ _ X0 e0 (Keep.refl _ _) (Fr.nil _) A1
  rw [own_fl_all] at q
  exact q
theorem d_IntMap_find_0 : decode prog_32_method_7_code 0 = .ok (.aload_n 0, 1) := by decide +kernel
theorem d_IntMap_find_1 : decode prog_32_method_7_code 1 = .ok (.getfield 7, 3) := by decide +kernel
theorem d_IntMap_find_4 : decode prog_32_method_7_code 4 = .ok (.arraylength, 1) := by decide +kernel
theorem d_IntMap_find_5 : decode prog_32_method_7_code 5 = .ok (.iconst 1, 1) := by decide +kernel
theorem d_IntMap_find_6 : decode prog_32_method_7_code 6 = .ok (.isub, 1) := by decide +kernel
theorem d_IntMap_find_7 : decode prog_32_method_7_code 7 = .ok (.istore_n 2, 1) := by decide +kernel
theorem d_IntMap_find_8 : decode prog_32_method_7_code 8 = .ok (.iload_n 1, 1) := by decide +kernel
theorem d_IntMap_find_9 : decode prog_32_method_7_code 9 = .ok (.invokestatic 44, 3) := by decide +kernel
theorem d_IntMap_find_12 : decode prog_32_method_7_code 12 = .ok (.iload_n 2, 1) := by decide +kernel
theorem d_IntMap_find_13 : decode prog_32_method_7_code 13 = .ok (.iand, 1) := by decide +kernel
theorem d_IntMap_find_14 : decode prog_32_method_7_code 14 = .ok (.istore_n 3, 1) := by decide +kernel
theorem d_IntMap_find_15 : decode prog_32_method_7_code 15 = .ok (.aload_n 0, 1) := by decide +kernel
theorem d_IntMap_find_16 : decode prog_32_method_7_code 16 = .ok (.getfield 7, 3) := by decide +kernel
theorem d_IntMap_find_19 : decode prog_32_method_7_code 19 = .ok (.iload_n 3, 1) := by decide +kernel
theorem d_IntMap_find_20 : decode prog_32_method_7_code 20 = .ok (.iaload, 1) := by decide +kernel
theorem d_IntMap_find_21 : decode prog_32_method_7_code 21 = .ok (.iload_n 1, 1) := by decide +kernel
theorem d_IntMap_find_22 : decode prog_32_method_7_code 22 = .ok (.if_icmp .eq 22, 3) := by decide +kernel
theorem d_IntMap_find_25 : decode prog_32_method_7_code 25 = .ok (.aload_n 0, 1) := by decide +kernel
theorem d_IntMap_find_26 : decode prog_32_method_7_code 26 = .ok (.getfield 7, 3) := by decide +kernel
theorem d_IntMap_find_29 : decode prog_32_method_7_code 29 = .ok (.iload_n 3, 1) := by decide +kernel
theorem d_IntMap_find_30 : decode prog_32_method_7_code 30 = .ok (.iaload, 1) := by decide +kernel
theorem d_IntMap_find_31 : decode prog_32_method_7_code 31 = .ok (.iconst (-1), 1) := by decide +kernel
theorem d_IntMap_find_32 : decode prog_32_method_7_code 32 = .ok (.if_icmp .eq 12, 3) := by decide +kernel
theorem d_IntMap_find_35 : decode prog_32_method_7_code 35 = .ok (.iload_n 3, 1) := by decide +kernel
theorem d_IntMap_find_36 : decode prog_32_method_7_code 36 = .ok (.iconst 1, 1) := by decide +kernel
theorem d_IntMap_find_37 : decode prog_32_method_7_code 37 = .ok (.iadd, 1) := by decide +kernel
theorem d_IntMap_find_38 : decode prog_32_method_7_code 38 = .ok (.iload_n 2, 1) := by decide +kernel
theorem d_IntMap_find_39 : decode prog_32_method_7_code 39 = .ok (.iand, 1) := by decide +kernel
theorem d_IntMap_find_40 : decode prog_32_method_7_code 40 = .ok (.istore_n 3, 1) := by decide +kernel
theorem d_IntMap_find_41 : decode prog_32_method_7_code 41 = .ok (.goto (-26), 3) := by decide +kernel
theorem d_IntMap_find_44 : decode prog_32_method_7_code 44 = .ok (.iload_n 3, 1) := by decide +kernel
theorem d_IntMap_find_45 : decode prog_32_method_7_code 45 = .ok (.ireturn, 1) := by decide +kernel
theorem pn_IntMap_find : plainFor (⟨"com/example/sensebid/sensebid/IntMap", "find", "(I)I"⟩ : MethodName) = true := plainFor_of_name (by first | (simp [plainName, overriddenIn, x]; done) | decide +kernel)
theorem pd_IntMap_find : parseMethodDescriptor "(I)I" = some ⟨[.int], (some .int)⟩ := by decide +kernel
set_option maxRecDepth 65536 in
set_option maxHeartbeats 40000000 in
theorem find_15 {p : Program} {l : Launch} {e : Env} {s : State} {m : MethodId} {args : Array Value} {below : List Frame} {meth : Method} {c : Code} {Z : State} {a0 : Array Value} {h0 : Heap} (hw : ∀ d ∈ tables_1, d.before a0 Z = true) (k : Wk.K p s m meth c Z (⟨"com/example/sensebid/sensebid/IntMap", "find", "(I)I"⟩ : MethodName) prog_32_method_7_code 4 (some .int)) (o kA : Addr) (key : Int32) (cp fe : Nat) (ks : List Int32) (hcp : cp = 8 ∨ cp = 16) (hks : ks.length = cp) (hfe : fe < cp) (hfr : ks.getD fe 0 = -1) (TK : Fld Z h0 o "com/example/sensebid/sensebid/IntMap" "keys" "[I" (.ref kA)) (TA : Wk.Arl Z h0 kA .int (ks.map Value.int)) :
    ∀ (t sl : Nat), own_D cp sl fe = t → sl < cp → own_Seen cp ks key sl → ∀ (T0 : State), Stand p l e ({ frames := 1, cells := 0, slots := 0, locals := 13 } : Room) s m args below meth c T0 [] 0 0 → T0.heap = h0 → Wk.Ends p e s below ({ frames := 1, cells := 0, slots := 0, locals := 13 } : Room) (fun r h L => ∃ sl : Nat, sl < cp ∧ r = some (.int (Int32.ofNat sl)) ∧ own_Seen cp ks key sl ∧ (ks.getD sl 0 = key ∨ ks.getD sl 0 = -1) ∧ h = h0 ∧ L = []) T0 (mkF m 15 #[.val (.ref o), .val (.int key), .val (.int ((Int32.ofNat cp) - (1 : Int32))), .val (.int (Int32.ofNat sl))] []) := by
  intro t
  induction t with
  | zero =>
    intro sl ht hsl hseen T0 X0 e0
    refine Wk.aload_n k X0 d_IntMap_find_15 rfl rfl 16 rfl ?_
    refine Wk.getfield k X0 d_IntMap_find_16 (host := "") (Or.inl (Wk.w hw 15 rfl)) Via.refl e0 TK 19 rfl fun T101 X101 e101 => ?_
    refine Wk.iload_n k X101 d_IntMap_find_19 rfl 20 rfl ?_
    refine Wk.iaload k X101 d_IntMap_find_20 e101 TA sl (own_oN (by omega)) (ks.getD sl 0) (own_gD (by omega)) 21 rfl ?_
    refine Wk.iload_n k X101 d_IntMap_find_21 rfl 22 rfl ?_
    refine Wk.icmp_eq k X101 d_IntMap_find_22 (by decide) 44 25 (by decide) rfl (fun hc22 => ?_) (fun hc22 => ?_)
    · refine Wk.iload_n k X101 d_IntMap_find_44 rfl 45 rfl ?_
      exact Wk.ret_int k X101 rfl d_IntMap_find_45 (by decide) (by decide) ⟨sl, hsl, rfl, hseen, Or.inl hc22, e101, rfl⟩
    · refine Wk.aload_n k X101 d_IntMap_find_25 rfl rfl 26 rfl ?_
      refine Wk.getfield k X101 d_IntMap_find_26 (host := "") (Or.inl (Wk.w hw 15 rfl)) Via.refl e101 TK 29 rfl fun T102 X102 e102 => ?_
      refine Wk.iload_n k X102 d_IntMap_find_29 rfl 30 rfl ?_
      refine Wk.iaload k X102 d_IntMap_find_30 e102 TA sl (own_oN (by omega)) (ks.getD sl 0) (own_gD (by omega)) 31 rfl ?_
      refine Wk.iconst k X102 d_IntMap_find_31 (-1 : Int32) rfl 32 rfl ?_
      refine Wk.icmp_eq k X102 d_IntMap_find_32 (by decide) 44 35 (by decide) rfl (fun hc32 => ?_) (fun hc32 => ?_)
      · refine Wk.iload_n k X102 d_IntMap_find_44 rfl 45 rfl ?_
        exact Wk.ret_int k X102 rfl d_IntMap_find_45 (by decide) (by decide) ⟨sl, hsl, rfl, hseen, Or.inr hc32, e102, rfl⟩
      · exact absurd (by rw [own_D_zero hcp hsl hfe ht]; exact hfr) hc32
  | succ t ih =>
    intro sl ht hsl hseen T0 X0 e0
    refine Wk.aload_n k X0 d_IntMap_find_15 rfl rfl 16 rfl ?_
    refine Wk.getfield k X0 d_IntMap_find_16 (host := "") (Or.inl (Wk.w hw 15 rfl)) Via.refl e0 TK 19 rfl fun T101 X101 e101 => ?_
    refine Wk.iload_n k X101 d_IntMap_find_19 rfl 20 rfl ?_
    refine Wk.iaload k X101 d_IntMap_find_20 e101 TA sl (own_oN (by omega)) (ks.getD sl 0) (own_gD (by omega)) 21 rfl ?_
    refine Wk.iload_n k X101 d_IntMap_find_21 rfl 22 rfl ?_
    refine Wk.icmp_eq k X101 d_IntMap_find_22 (by decide) 44 25 (by decide) rfl (fun hc22 => ?_) (fun hc22 => ?_)
    · refine Wk.iload_n k X101 d_IntMap_find_44 rfl 45 rfl ?_
      exact Wk.ret_int k X101 rfl d_IntMap_find_45 (by decide) (by decide) ⟨sl, hsl, rfl, hseen, Or.inl hc22, e101, rfl⟩
    · refine Wk.aload_n k X101 d_IntMap_find_25 rfl rfl 26 rfl ?_
      refine Wk.getfield k X101 d_IntMap_find_26 (host := "") (Or.inl (Wk.w hw 15 rfl)) Via.refl e101 TK 29 rfl fun T102 X102 e102 => ?_
      refine Wk.iload_n k X102 d_IntMap_find_29 rfl 30 rfl ?_
      refine Wk.iaload k X102 d_IntMap_find_30 e102 TA sl (own_oN (by omega)) (ks.getD sl 0) (own_gD (by omega)) 31 rfl ?_
      refine Wk.iconst k X102 d_IntMap_find_31 (-1 : Int32) rfl 32 rfl ?_
      refine Wk.icmp_eq k X102 d_IntMap_find_32 (by decide) 44 35 (by decide) rfl (fun hc32 => ?_) (fun hc32 => ?_)
      · refine Wk.iload_n k X102 d_IntMap_find_44 rfl 45 rfl ?_
        exact Wk.ret_int k X102 rfl d_IntMap_find_45 (by decide) (by decide) ⟨sl, hsl, rfl, hseen, Or.inr hc32, e102, rfl⟩
      · refine Wk.iload_n k X102 d_IntMap_find_35 rfl 36 rfl ?_
        refine Wk.iconst k X102 d_IntMap_find_36 (1 : Int32) rfl 37 rfl ?_
        refine Wk.iadd k X102 d_IntMap_find_37 38 rfl ?_
        refine Wk.iload_n k X102 d_IntMap_find_38 rfl 39 rfl ?_
        refine Wk.iand k X102 d_IntMap_find_39 40 rfl ?_
        refine Wk.istore_n k X102 d_IntMap_find_40 #[.val (.ref o), .val (.int key), .val (.int ((Int32.ofNat cp) - (1 : Int32))), .val (.int (((Int32.ofNat sl) + (1 : Int32)) &&& ((Int32.ofNat cp) - (1 : Int32))))] rfl 41 rfl ?_
        refine Wk.goto k X102 d_IntMap_find_41 (by decide) 15 (by decide) ?_
        rw [own_nx hcp hsl]
        exact ih _ (own_D_step hcp hsl hfe ht) (Nat.mod_lt _ (by omega)) (own_seen1 hcp hsl hseen hc22 hc32) _ X102 e102
theorem ef_find (m : MethodId) (o : Addr) (key : Int32) : entryFrame m #[(.ref o), (.int key)] 4 = mkF m 0 #[.val (.ref o), .val (.int key), .unset, .unset] [] := by first | (simp [entryFrame, mkF, argsToLocals, Value.category]; done) | rfl
set_option maxRecDepth 65536 in
set_option maxHeartbeats 40000000 in
theorem rm_find (l : Launch) (Z : State) (a0 : Array Value) (hw : ∀ d ∈ tables_1, d.before a0 Z = true) (o : Addr) (key : Int32) (kA : Addr) (cp : Nat) (ks : List Int32) (h0 : Heap) (hcp : cp = 8 ∨ cp = 16) (hks : ks.length = cp) (hfree : ∃ fe, fe < cp ∧ ks.getD fe 0 = -1) (TK : Fld Z h0 o "com/example/sensebid/sensebid/IntMap" "keys" "[I" (.ref kA)) (TA : Wk.Arl Z h0 kA .int (ks.map Value.int)) : Wk.Met l (⟨"com/example/sensebid/sensebid/IntMap", "find", "(I)I"⟩ : MethodName) prog_32_method_7_code 4 (some .int) ({ frames := 1, cells := 0, slots := 0, locals := 13 } : Room) #[(.ref o), (.int key)] Z h0 (fun r h L => ∃ sl : Nat, sl < cp ∧ r = some (.int (Int32.ofNat sl)) ∧ own_Seen cp ks key sl ∧ (ks.getD sl 0 = key ∨ ks.getD sl 0 = -1) ∧ h = h0 ∧ L = []) [] := by
  refine Wk.enter pn_IntMap_find (fun p e s m below meth c T0 k X0 e0 => ?_)
  refine (Wk.Ends.cast (ef_find m o key) ?_)
  refine Wk.aload_n k X0 d_IntMap_find_0 rfl rfl 1 rfl ?_
  refine Wk.getfield k X0 d_IntMap_find_1 (host := "") (Or.inl (Wk.w hw 15 rfl)) Via.refl e0 TK 4 rfl fun T103 X103 e103 => ?_
  refine Wk.arraylength k X103 d_IntMap_find_4 e103 TA (Int32.ofNat cp) (by rw [own_len hks]; exact own_oN (by omega)) 5 rfl ?_
  refine Wk.iconst k X103 d_IntMap_find_5 (1 : Int32) rfl 6 rfl ?_
  refine Wk.isub k X103 d_IntMap_find_6 7 rfl ?_
  refine Wk.istore_n k X103 d_IntMap_find_7 #[.val (.ref o), .val (.int key), .val (.int ((Int32.ofNat cp) - (1 : Int32))), .unset] rfl 8 rfl ?_
  refine Wk.iload_n k X103 d_IntMap_find_8 rfl 9 rfl ?_
  refine Wk.callS k X103 [(.int key)] [] d_IntMap_find_9 (rm_mix l Z a0 hw key _) e103 (Wk.w hw 32 rfl) (Wk.w hw 33 rfl) (Wk.w hw 8 rfl) (Wk.w hw 34 rfl) (by decide) rfl pd_IntMap_mix rfl rfl (Nat.le_of_ble_eq_true rfl) (Nat.le_of_ble_eq_true rfl) (Nat.le_of_ble_eq_true rfl) (Nat.le_of_ble_eq_true rfl) 12 rfl fun T104 v104 L104 X104 hQ104 => ?_
  obtain ⟨rfl, e104, rfl⟩ := hQ104
  rw [List.append_nil] at X104
  show Wk.Ends _ _ _ _ _ _ _ (mkF m 12 _ [(.int (own_mix key))])
  refine Wk.iload_n k X104 d_IntMap_find_12 rfl 13 rfl ?_
  refine Wk.iand k X104 d_IntMap_find_13 14 rfl ?_
  refine Wk.istore_n k X104 d_IntMap_find_14 #[.val (.ref o), .val (.int key), .val (.int ((Int32.ofNat cp) - (1 : Int32))), .val (.int ((own_mix key) &&& ((Int32.ofNat cp) - (1 : Int32))))] rfl 15 rfl ?_
  rw [own_Hmask hcp]
  obtain ⟨fe, hfe, hfr⟩ := hfree
  exact find_15 hw k o kA key cp fe ks hcp hks hfe hfr TK TA _ _ rfl (own_H_lt (by omega) key) (own_seen0 hcp) _ X104 e104
theorem own_os5 {z0 z1 z2 z3 z4 : Value} {s5 : Slot} {v : Int32} (h : One s5) : storeLocals #[.val z0, .val z1, .val z2, .val z3, .val z4, s5] 5 (.int v) = some #[.val z0, .val z1, .val z2, .val z3, .val z4, .val (.int v)] := by
  rcases h with rfl | ⟨w, rfl, hw⟩
  · rfl
  · cases w <;> first | rfl | (simp [Value.category] at hw)
theorem d_IntMap_remove_0 : decode prog_32_method_8_code 0 = .ok (.aload_n 0, 1) := by decide +kernel
theorem d_IntMap_remove_1 : decode prog_32_method_8_code 1 = .ok (.getfield 7, 3) := by decide +kernel
theorem d_IntMap_remove_4 : decode prog_32_method_8_code 4 = .ok (.arraylength, 1) := by decide +kernel
theorem d_IntMap_remove_5 : decode prog_32_method_8_code 5 = .ok (.iconst 1, 1) := by decide +kernel
theorem d_IntMap_remove_6 : decode prog_32_method_8_code 6 = .ok (.isub, 1) := by decide +kernel
theorem d_IntMap_remove_7 : decode prog_32_method_8_code 7 = .ok (.istore_n 2, 1) := by decide +kernel
theorem d_IntMap_remove_8 : decode prog_32_method_8_code 8 = .ok (.iload_n 1, 1) := by decide +kernel
theorem d_IntMap_remove_9 : decode prog_32_method_8_code 9 = .ok (.istore_n 3, 1) := by decide +kernel
theorem d_IntMap_remove_10 : decode prog_32_method_8_code 10 = .ok (.iload_n 1, 1) := by decide +kernel
theorem d_IntMap_remove_11 : decode prog_32_method_8_code 11 = .ok (.iconst 1, 1) := by decide +kernel
theorem d_IntMap_remove_12 : decode prog_32_method_8_code 12 = .ok (.iadd, 1) := by decide +kernel
theorem d_IntMap_remove_13 : decode prog_32_method_8_code 13 = .ok (.iload_n 2, 1) := by decide +kernel
theorem d_IntMap_remove_14 : decode prog_32_method_8_code 14 = .ok (.iand, 1) := by decide +kernel
theorem d_IntMap_remove_15 : decode prog_32_method_8_code 15 = .ok (.istore 4, 2) := by decide +kernel
theorem d_IntMap_remove_17 : decode prog_32_method_8_code 17 = .ok (.aload_n 0, 1) := by decide +kernel
theorem d_IntMap_remove_18 : decode prog_32_method_8_code 18 = .ok (.getfield 7, 3) := by decide +kernel
theorem d_IntMap_remove_21 : decode prog_32_method_8_code 21 = .ok (.iload 4, 2) := by decide +kernel
theorem d_IntMap_remove_23 : decode prog_32_method_8_code 23 = .ok (.iaload, 1) := by decide +kernel
theorem d_IntMap_remove_24 : decode prog_32_method_8_code 24 = .ok (.iconst (-1), 1) := by decide +kernel
theorem d_IntMap_remove_25 : decode prog_32_method_8_code 25 = .ok (.if_icmp .eq 73, 3) := by decide +kernel
theorem d_IntMap_remove_28 : decode prog_32_method_8_code 28 = .ok (.aload_n 0, 1) := by decide +kernel
theorem d_IntMap_remove_29 : decode prog_32_method_8_code 29 = .ok (.getfield 7, 3) := by decide +kernel
theorem d_IntMap_remove_32 : decode prog_32_method_8_code 32 = .ok (.iload 4, 2) := by decide +kernel
theorem d_IntMap_remove_34 : decode prog_32_method_8_code 34 = .ok (.iaload, 1) := by decide +kernel
theorem d_IntMap_remove_35 : decode prog_32_method_8_code 35 = .ok (.invokestatic 44, 3) := by decide +kernel
theorem d_IntMap_remove_38 : decode prog_32_method_8_code 38 = .ok (.iload_n 2, 1) := by decide +kernel
theorem d_IntMap_remove_39 : decode prog_32_method_8_code 39 = .ok (.iand, 1) := by decide +kernel
theorem d_IntMap_remove_40 : decode prog_32_method_8_code 40 = .ok (.istore 5, 2) := by decide +kernel
theorem d_IntMap_remove_42 : decode prog_32_method_8_code 42 = .ok (.iload 4, 2) := by decide +kernel
theorem d_IntMap_remove_44 : decode prog_32_method_8_code 44 = .ok (.iload 5, 2) := by decide +kernel
theorem d_IntMap_remove_46 : decode prog_32_method_8_code 46 = .ok (.isub, 1) := by decide +kernel
theorem d_IntMap_remove_47 : decode prog_32_method_8_code 47 = .ok (.iload_n 2, 1) := by decide +kernel
theorem d_IntMap_remove_48 : decode prog_32_method_8_code 48 = .ok (.iand, 1) := by decide +kernel
theorem d_IntMap_remove_49 : decode prog_32_method_8_code 49 = .ok (.iload 4, 2) := by decide +kernel
theorem d_IntMap_remove_51 : decode prog_32_method_8_code 51 = .ok (.iload_n 3, 1) := by decide +kernel
theorem d_IntMap_remove_52 : decode prog_32_method_8_code 52 = .ok (.isub, 1) := by decide +kernel
theorem d_IntMap_remove_53 : decode prog_32_method_8_code 53 = .ok (.iload_n 2, 1) := by decide +kernel
theorem d_IntMap_remove_54 : decode prog_32_method_8_code 54 = .ok (.iand, 1) := by decide +kernel
theorem d_IntMap_remove_55 : decode prog_32_method_8_code 55 = .ok (.if_icmp .lt 32, 3) := by decide +kernel
theorem d_IntMap_remove_58 : decode prog_32_method_8_code 58 = .ok (.aload_n 0, 1) := by decide +kernel
theorem d_IntMap_remove_59 : decode prog_32_method_8_code 59 = .ok (.getfield 7, 3) := by decide +kernel
theorem d_IntMap_remove_62 : decode prog_32_method_8_code 62 = .ok (.iload_n 3, 1) := by decide +kernel
theorem d_IntMap_remove_63 : decode prog_32_method_8_code 63 = .ok (.aload_n 0, 1) := by decide +kernel
theorem d_IntMap_remove_64 : decode prog_32_method_8_code 64 = .ok (.getfield 7, 3) := by decide +kernel
theorem d_IntMap_remove_67 : decode prog_32_method_8_code 67 = .ok (.iload 4, 2) := by decide +kernel
theorem d_IntMap_remove_69 : decode prog_32_method_8_code 69 = .ok (.iaload, 1) := by decide +kernel
theorem d_IntMap_remove_70 : decode prog_32_method_8_code 70 = .ok (.iastore, 1) := by decide +kernel
theorem d_IntMap_remove_71 : decode prog_32_method_8_code 71 = .ok (.aload_n 0, 1) := by decide +kernel
theorem d_IntMap_remove_72 : decode prog_32_method_8_code 72 = .ok (.getfield 13, 3) := by decide +kernel
theorem d_IntMap_remove_75 : decode prog_32_method_8_code 75 = .ok (.iload_n 3, 1) := by decide +kernel
theorem d_IntMap_remove_76 : decode prog_32_method_8_code 76 = .ok (.aload_n 0, 1) := by decide +kernel
theorem d_IntMap_remove_77 : decode prog_32_method_8_code 77 = .ok (.getfield 13, 3) := by decide +kernel
theorem d_IntMap_remove_80 : decode prog_32_method_8_code 80 = .ok (.iload 4, 2) := by decide +kernel
theorem d_IntMap_remove_82 : decode prog_32_method_8_code 82 = .ok (.iaload, 1) := by decide +kernel
theorem d_IntMap_remove_83 : decode prog_32_method_8_code 83 = .ok (.iastore, 1) := by decide +kernel
theorem d_IntMap_remove_84 : decode prog_32_method_8_code 84 = .ok (.iload 4, 2) := by decide +kernel
theorem d_IntMap_remove_86 : decode prog_32_method_8_code 86 = .ok (.istore_n 3, 1) := by decide +kernel
theorem d_IntMap_remove_87 : decode prog_32_method_8_code 87 = .ok (.iload 4, 2) := by decide +kernel
theorem d_IntMap_remove_89 : decode prog_32_method_8_code 89 = .ok (.iconst 1, 1) := by decide +kernel
theorem d_IntMap_remove_90 : decode prog_32_method_8_code 90 = .ok (.iadd, 1) := by decide +kernel
theorem d_IntMap_remove_91 : decode prog_32_method_8_code 91 = .ok (.iload_n 2, 1) := by decide +kernel
theorem d_IntMap_remove_92 : decode prog_32_method_8_code 92 = .ok (.iand, 1) := by decide +kernel
theorem d_IntMap_remove_93 : decode prog_32_method_8_code 93 = .ok (.istore 4, 2) := by decide +kernel
theorem d_IntMap_remove_95 : decode prog_32_method_8_code 95 = .ok (.goto (-78), 3) := by decide +kernel
theorem d_IntMap_remove_98 : decode prog_32_method_8_code 98 = .ok (.aload_n 0, 1) := by decide +kernel
theorem d_IntMap_remove_99 : decode prog_32_method_8_code 99 = .ok (.getfield 7, 3) := by decide +kernel
theorem d_IntMap_remove_102 : decode prog_32_method_8_code 102 = .ok (.iload_n 3, 1) := by decide +kernel
theorem d_IntMap_remove_103 : decode prog_32_method_8_code 103 = .ok (.iconst (-1), 1) := by decide +kernel
theorem d_IntMap_remove_104 : decode prog_32_method_8_code 104 = .ok (.iastore, 1) := by decide +kernel
theorem d_IntMap_remove_105 : decode prog_32_method_8_code 105 = .ok (.aload_n 0, 1) := by decide +kernel
theorem d_IntMap_remove_106 : decode prog_32_method_8_code 106 = .ok (.dup, 1) := by decide +kernel
theorem d_IntMap_remove_107 : decode prog_32_method_8_code 107 = .ok (.getfield 22, 3) := by decide +kernel
theorem d_IntMap_remove_110 : decode prog_32_method_8_code 110 = .ok (.iconst 1, 1) := by decide +kernel
theorem d_IntMap_remove_111 : decode prog_32_method_8_code 111 = .ok (.isub, 1) := by decide +kernel
theorem d_IntMap_remove_112 : decode prog_32_method_8_code 112 = .ok (.putfield 22, 3) := by decide +kernel
theorem d_IntMap_remove_115 : decode prog_32_method_8_code 115 = .ok (.return_, 1) := by decide +kernel
theorem pn_IntMap_remove : plainFor (⟨"com/example/sensebid/sensebid/IntMap", "remove", "(I)V"⟩ : MethodName) = true := plainFor_of_name (by first | (simp [plainName, overriddenIn, x]; done) | decide +kernel)
theorem pd_IntMap_remove : parseMethodDescriptor "(I)V" = some ⟨[.int], none⟩ := by decide +kernel
set_option maxRecDepth 65536 in
set_option maxHeartbeats 40000000 in
theorem rem_17 {p : Program} {l : Launch} {e : Env} {s : State} {m : MethodId} {args : Array Value} {below : List Frame} {meth : Method} {c : Code} {Z : State} {a0 : Array Value} {h0 : Heap} {n0 : Nat} (hw : ∀ d ∈ tables_1, d.before a0 Z = true) (k : Wk.K p s m meth c Z (⟨"com/example/sensebid/sensebid/IntMap", "remove", "(I)V"⟩ : MethodName) prog_32_method_8_code 6 none) (o kA vA : Addr) (sl0 : Int32) (sz fe : Nat) (M : Int32 → Int32) (hsz : 1 ≤ sz ∧ sz < 8) (hfe : fe < 8) :
    ∀ (t f n : Nat) (ks vs : List Int32) (s5 : Slot), own_D 8 n fe = t → own_Hole ks vs M f n → ks.getD fe 0 = -1 → own_cnt ks = sz → One s5 → ∀ (T0 : State) (h1 : Heap) (locs : List Loc), Stand p l e ({ frames := 1, cells := 0, slots := 0, locals := 13 } : Room) s m args below meth c T0 locs 0 0 → T0.heap = h1 → Keep h0 h1 [o, kA, vA] → Fr n0 locs → own_Tab Z h1 n0 o kA vA sz ks vs → Wk.Ends p e s below ({ frames := 1, cells := 0, slots := 0, locals := 13 } : Room) (fun r h L => r = none ∧ Fr n0 L ∧ Keep h0 h [o, kA, vA] ∧ ∃ ks' vs' : List Int32, own_Tab Z h n0 o kA vA (sz - 1) ks' vs' ∧ own_Rep 8 ks' vs' M ∧ own_cnt ks' = sz - 1) T0 (mkF m 17 #[.val (.ref o), .val (.int sl0), .val (.int ((Int32.ofNat 8) - (1 : Int32))), .val (.int (Int32.ofNat f)), .val (.int (Int32.ofNat n)), s5] []) := by
  intro t
  induction t with
  | zero =>
    intro f n ks vs s5 ht hole hfr hcnt hs5 T0 h1 locs X0 e0 K1 N1 T1
    obtain ⟨TE, TK, TV, TS, TA, TB, n1, n2, n3, g1, g2, g3⟩ := T1
    have hkl := hole.1
    have hvl := hole.2.1
    have hf8 := hole.2.2.1
    have hn8 := hole.2.2.2.1
    have hkf := hole.2.2.2.2.1
    refine Wk.aload_n k X0 d_IntMap_remove_17 rfl rfl 18 rfl ?_
    refine Wk.getfield k X0 d_IntMap_remove_18 (host := "") (Or.inl (Wk.w hw 15 rfl)) Via.refl e0 TK 21 rfl fun T101 X101 e101 => ?_
    refine Wk.iload k X101 d_IntMap_remove_21 rfl 23 rfl ?_
    refine Wk.iaload k X101 d_IntMap_remove_23 e101 TA n (own_oN (by omega)) (ks.getD n 0) (own_gD (by omega)) 24 rfl ?_
    refine Wk.iconst k X101 d_IntMap_remove_24 (-1 : Int32) rfl 25 rfl ?_
    refine Wk.icmp_eq k X101 d_IntMap_remove_25 (by decide) 98 28 (by decide) rfl (fun hc25 => ?_) (fun hc25 => ?_)
    · refine Wk.aload_n k X101 d_IntMap_remove_98 rfl rfl 99 rfl ?_
      refine Wk.getfield k X101 d_IntMap_remove_99 (host := "") (Or.inl (Wk.w hw 15 rfl)) Via.refl e101 TK 102 rfl fun T102 X102 e102 => ?_
      refine Wk.iload_n k X102 d_IntMap_remove_102 rfl 103 rfl ?_
      refine Wk.iconst k X102 d_IntMap_remove_103 (-1 : Int32) rfl 104 rfl ?_
      refine Wk.iastore k X102 (x := (-1 : Int32)) d_IntMap_remove_104 e102 TA f (own_oN (by omega)) (by omega) 105 rfl fun T103 h103 X103 e103 W103 A103 => ?_
      have N104 := Fr.snoc X103 N1 g2
      have K105 := K1.wr W103 (Or.inl (List.mem_of_getElem? (i := 1) rfl))
      have f106 := Exa.wr W103 TE
      have f107 := Fld.other W103 TK (Or.inl n1)
      have f108 := Fld.other W103 TV (Or.inl n1)
      have f109 := Fld.other W103 TS (Or.inl n1)
      have f110 := TB.other W103 (Ne.symm n3)
      refine Wk.aload_n k X103 d_IntMap_remove_105 rfl rfl 106 rfl ?_
      refine Wk.dup k X103 d_IntMap_remove_106 rfl 107 rfl ?_
      refine Wk.getfield k X103 d_IntMap_remove_107 (host := "") (Or.inl (Wk.w hw 36 rfl)) Via.refl e103 f109 110 rfl fun T111 X111 e111 => ?_
      refine Wk.iconst k X111 d_IntMap_remove_110 (1 : Int32) rfl 111 rfl ?_
      refine Wk.isub k X111 d_IntMap_remove_111 112 rfl ?_
      refine Wk.putfield k X111 d_IntMap_remove_112 (host := "") (Or.inl (Wk.w hw 36 rfl)) Via.refl e111 f109 f106 (Or.inl (Wk.w hw 37 rfl)) (Wk.w hw 7 rfl) (ty := .int) (by decide) rfl rfl 115 rfl fun T112 h112 X112 e112 W112 => ?_
      have N113 := Fr.snoc X112 N104 g1
      have K114 := K105.wr W112 (Or.inl (List.mem_of_getElem? (i := 0) rfl))
      have f115 := Exa.wr W112 f106
      have f116 := Fld.other W112 f107 (Or.inr (slot_ne (Or.inl (Wk.w hw 16 rfl)) (Or.inl (Wk.w hw 37 rfl)) (by decide) (t := (.array .int)) (t' := .int) (by decide) (by decide)))
      have f117 := Fld.other W112 f108 (Or.inr (slot_ne (Or.inl (Wk.w hw 18 rfl)) (Or.inl (Wk.w hw 37 rfl)) (by decide) (t := (.array .int)) (t' := .int) (by decide) (by decide)))
      have f118 := A103.other W112 (Ne.symm n1)
      have f119 := f110.other W112 (Ne.symm n2)
      have f120 := Fld.same W112 f109
      refine Wk.ret_void k X112 rfl d_IntMap_remove_115 (by decide) (by decide) ?_
      rw [e112]
      refine ⟨rfl, N113, K114, _, _, ⟨f115, f116, f117, by rw [← own_dec32 (by omega) (by omega)]; exact f120, f118, f119, n1, n2, n3, g1, g2, g3⟩, own_hole_end hole hc25, ?_⟩
      have q := own_cnt_set (ks := ks) (i := f) (k := -1) (by omega)
      rw [if_neg hkf, if_pos rfl] at q
      omega
    · exact absurd (by rw [own_D_zero (Or.inl rfl) hn8 hfe ht]; exact hfr) hc25
  | succ t ih =>
    intro f n ks vs s5 ht hole hfr hcnt hs5 T0 h1 locs X0 e0 K1 N1 T1
    obtain ⟨TE, TK, TV, TS, TA, TB, n1, n2, n3, g1, g2, g3⟩ := T1
    have hkl := hole.1
    have hvl := hole.2.1
    have hf8 := hole.2.2.1
    have hn8 := hole.2.2.2.1
    have hkf := hole.2.2.2.2.1
    refine Wk.aload_n k X0 d_IntMap_remove_17 rfl rfl 18 rfl ?_
    refine Wk.getfield k X0 d_IntMap_remove_18 (host := "") (Or.inl (Wk.w hw 15 rfl)) Via.refl e0 TK 21 rfl fun T101 X101 e101 => ?_
    refine Wk.iload k X101 d_IntMap_remove_21 rfl 23 rfl ?_
    refine Wk.iaload k X101 d_IntMap_remove_23 e101 TA n (own_oN (by omega)) (ks.getD n 0) (own_gD (by omega)) 24 rfl ?_
    refine Wk.iconst k X101 d_IntMap_remove_24 (-1 : Int32) rfl 25 rfl ?_
    refine Wk.icmp_eq k X101 d_IntMap_remove_25 (by decide) 98 28 (by decide) rfl (fun hc25 => ?_) (fun hc25 => ?_)
    · refine Wk.aload_n k X101 d_IntMap_remove_98 rfl rfl 99 rfl ?_
      refine Wk.getfield k X101 d_IntMap_remove_99 (host := "") (Or.inl (Wk.w hw 15 rfl)) Via.refl e101 TK 102 rfl fun T102 X102 e102 => ?_
      refine Wk.iload_n k X102 d_IntMap_remove_102 rfl 103 rfl ?_
      refine Wk.iconst k X102 d_IntMap_remove_103 (-1 : Int32) rfl 104 rfl ?_
      refine Wk.iastore k X102 (x := (-1 : Int32)) d_IntMap_remove_104 e102 TA f (own_oN (by omega)) (by omega) 105 rfl fun T103 h103 X103 e103 W103 A103 => ?_
      have N104 := Fr.snoc X103 N1 g2
      have K105 := K1.wr W103 (Or.inl (List.mem_of_getElem? (i := 1) rfl))
      have f106 := Exa.wr W103 TE
      have f107 := Fld.other W103 TK (Or.inl n1)
      have f108 := Fld.other W103 TV (Or.inl n1)
      have f109 := Fld.other W103 TS (Or.inl n1)
      have f110 := TB.other W103 (Ne.symm n3)
      refine Wk.aload_n k X103 d_IntMap_remove_105 rfl rfl 106 rfl ?_
      refine Wk.dup k X103 d_IntMap_remove_106 rfl 107 rfl ?_
      refine Wk.getfield k X103 d_IntMap_remove_107 (host := "") (Or.inl (Wk.w hw 36 rfl)) Via.refl e103 f109 110 rfl fun T111 X111 e111 => ?_
      refine Wk.iconst k X111 d_IntMap_remove_110 (1 : Int32) rfl 111 rfl ?_
      refine Wk.isub k X111 d_IntMap_remove_111 112 rfl ?_
      refine Wk.putfield k X111 d_IntMap_remove_112 (host := "") (Or.inl (Wk.w hw 36 rfl)) Via.refl e111 f109 f106 (Or.inl (Wk.w hw 37 rfl)) (Wk.w hw 7 rfl) (ty := .int) (by decide) rfl rfl 115 rfl fun T112 h112 X112 e112 W112 => ?_
      have N113 := Fr.snoc X112 N104 g1
      have K114 := K105.wr W112 (Or.inl (List.mem_of_getElem? (i := 0) rfl))
      have f115 := Exa.wr W112 f106
      have f116 := Fld.other W112 f107 (Or.inr (slot_ne (Or.inl (Wk.w hw 16 rfl)) (Or.inl (Wk.w hw 37 rfl)) (by decide) (t := (.array .int)) (t' := .int) (by decide) (by decide)))
      have f117 := Fld.other W112 f108 (Or.inr (slot_ne (Or.inl (Wk.w hw 18 rfl)) (Or.inl (Wk.w hw 37 rfl)) (by decide) (t := (.array .int)) (t' := .int) (by decide) (by decide)))
      have f118 := A103.other W112 (Ne.symm n1)
      have f119 := f110.other W112 (Ne.symm n2)
      have f120 := Fld.same W112 f109
      refine Wk.ret_void k X112 rfl d_IntMap_remove_115 (by decide) (by decide) ?_
      rw [e112]
      refine ⟨rfl, N113, K114, _, _, ⟨f115, f116, f117, by rw [← own_dec32 (by omega) (by omega)]; exact f120, f118, f119, n1, n2, n3, g1, g2, g3⟩, own_hole_end hole hc25, ?_⟩
      have q := own_cnt_set (ks := ks) (i := f) (k := -1) (by omega)
      rw [if_neg hkf, if_pos rfl] at q
      omega
    · refine Wk.aload_n k X101 d_IntMap_remove_28 rfl rfl 29 rfl ?_
      refine Wk.getfield k X101 d_IntMap_remove_29 (host := "") (Or.inl (Wk.w hw 15 rfl)) Via.refl e101 TK 32 rfl fun T121 X121 e121 => ?_
      refine Wk.iload k X121 d_IntMap_remove_32 rfl 34 rfl ?_
      refine Wk.iaload k X121 d_IntMap_remove_34 e121 TA n (own_oN (by omega)) (ks.getD n 0) (own_gD (by omega)) 35 rfl ?_
      refine Wk.callS k X121 [(.int (ks.getD n 0))] [] d_IntMap_remove_35 (rm_mix l Z a0 hw (ks.getD n 0) _) e121 (Wk.w hw 32 rfl) (Wk.w hw 33 rfl) (Wk.w hw 8 rfl) (Wk.w hw 34 rfl) (by decide) rfl pd_IntMap_mix rfl rfl (Nat.le_of_ble_eq_true rfl) (Nat.le_of_ble_eq_true rfl) (Nat.le_of_ble_eq_true rfl) (Nat.le_of_ble_eq_true rfl) 38 rfl fun T122 v122 L122 X122 hQ122 => ?_
      obtain ⟨rfl, e122, rfl⟩ := hQ122
      rw [List.append_nil] at X122
      show Wk.Ends _ _ _ _ _ _ _ (mkF m 38 _ [(.int (own_mix (ks.getD n 0)))])
      refine Wk.iload_n k X122 d_IntMap_remove_38 rfl 39 rfl ?_
      refine Wk.iand k X122 d_IntMap_remove_39 40 rfl ?_
      rw [own_Hmask (Or.inl rfl)]
      refine Wk.istore k X122 d_IntMap_remove_40 #[.val (.ref o), .val (.int sl0), .val (.int ((Int32.ofNat 8) - (1 : Int32))), .val (.int (Int32.ofNat f)), .val (.int (Int32.ofNat n)), .val (.int (Int32.ofNat (own_H 8 (ks.getD n 0))))] (own_os5 hs5) 42 rfl ?_
      refine Wk.iload k X122 d_IntMap_remove_42 rfl 44 rfl ?_
      refine Wk.iload k X122 d_IntMap_remove_44 rfl 46 rfl ?_
      refine Wk.isub k X122 d_IntMap_remove_46 47 rfl ?_
      refine Wk.iload_n k X122 d_IntMap_remove_47 rfl 48 rfl ?_
      refine Wk.iand k X122 d_IntMap_remove_48 49 rfl ?_
      rw [own_sb (own_H_lt (by decide) _) (by omega)]
      refine Wk.iload k X122 d_IntMap_remove_49 rfl 51 rfl ?_
      refine Wk.iload_n k X122 d_IntMap_remove_51 rfl 52 rfl ?_
      refine Wk.isub k X122 d_IntMap_remove_52 53 rfl ?_
      refine Wk.iload_n k X122 d_IntMap_remove_53 rfl 54 rfl ?_
      refine Wk.iand k X122 d_IntMap_remove_54 55 rfl ?_
      rw [own_sb (by omega) (by omega)]
      refine Wk.icmp_lt k X122 d_IntMap_remove_55 (by decide) 87 58 (by decide) rfl (fun hc55 => ?_) (fun hc55 => ?_)
      · refine Wk.iload k X122 d_IntMap_remove_87 rfl 89 rfl ?_
        refine Wk.iconst k X122 d_IntMap_remove_89 (1 : Int32) rfl 90 rfl ?_
        refine Wk.iadd k X122 d_IntMap_remove_90 91 rfl ?_
        refine Wk.iload_n k X122 d_IntMap_remove_91 rfl 92 rfl ?_
        refine Wk.iand k X122 d_IntMap_remove_92 93 rfl ?_
        refine Wk.istore k X122 d_IntMap_remove_93 #[.val (.ref o), .val (.int sl0), .val (.int ((Int32.ofNat 8) - (1 : Int32))), .val (.int (Int32.ofNat f)), .val (.int (((Int32.ofNat n) + (1 : Int32)) &&& ((Int32.ofNat 8) - (1 : Int32)))), .val (.int (Int32.ofNat (own_H 8 (ks.getD n 0))))] rfl 95 rfl ?_
        refine Wk.goto k X122 d_IntMap_remove_95 (by decide) 17 (by decide) ?_
        rw [own_nx (Or.inl rfl) hn8]
        exact ih f ((n + 1) % 8) _ _ _ (own_D_step (Or.inl rfl) hn8 hfe ht) (own_hole_skip hole ⟨fe, hfe, hfr⟩ hc25 ((own_ltN (by have := own_D_lt (Or.inl rfl) (own_H 8 (ks.getD n 0)) n; omega) (by have := own_D_lt (Or.inl rfl) f n; omega)).mp hc55)) hfr hcnt (One.val rfl) _ _ _ X122 e122 K1 N1 ⟨TE, TK, TV, TS, TA, TB, n1, n2, n3, g1, g2, g3⟩
      · refine Wk.aload_n k X122 d_IntMap_remove_58 rfl rfl 59 rfl ?_
        refine Wk.getfield k X122 d_IntMap_remove_59 (host := "") (Or.inl (Wk.w hw 15 rfl)) Via.refl e122 TK 62 rfl fun T123 X123 e123 => ?_
        refine Wk.iload_n k X123 d_IntMap_remove_62 rfl 63 rfl ?_
        refine Wk.aload_n k X123 d_IntMap_remove_63 rfl rfl 64 rfl ?_
        refine Wk.getfield k X123 d_IntMap_remove_64 (host := "") (Or.inl (Wk.w hw 15 rfl)) Via.refl e123 TK 67 rfl fun T124 X124 e124 => ?_
        refine Wk.iload k X124 d_IntMap_remove_67 rfl 69 rfl ?_
        refine Wk.iaload k X124 d_IntMap_remove_69 e124 TA n (own_oN (by omega)) (ks.getD n 0) (own_gD (by omega)) 70 rfl ?_
        refine Wk.iastore k X124 (x := (ks.getD n 0)) d_IntMap_remove_70 e124 TA f (own_oN (by omega)) (by omega) 71 rfl fun T125 h125 X125 e125 W125 A125 => ?_
        have N126 := Fr.snoc X125 N1 g2
        have K127 := K1.wr W125 (Or.inl (List.mem_of_getElem? (i := 1) rfl))
        have f128 := Exa.wr W125 TE
        have f129 := Fld.other W125 TK (Or.inl n1)
        have f130 := Fld.other W125 TV (Or.inl n1)
        have f131 := Fld.other W125 TS (Or.inl n1)
        have f132 := TB.other W125 (Ne.symm n3)
        refine Wk.aload_n k X125 d_IntMap_remove_71 rfl rfl 72 rfl ?_
        refine Wk.getfield k X125 d_IntMap_remove_72 (host := "") (Or.inl (Wk.w hw 17 rfl)) Via.refl e125 f130 75 rfl fun T133 X133 e133 => ?_
        refine Wk.iload_n k X133 d_IntMap_remove_75 rfl 76 rfl ?_
        refine Wk.aload_n k X133 d_IntMap_remove_76 rfl rfl 77 rfl ?_
        refine Wk.getfield k X133 d_IntMap_remove_77 (host := "") (Or.inl (Wk.w hw 17 rfl)) Via.refl e133 f130 80 rfl fun T134 X134 e134 => ?_
        refine Wk.iload k X134 d_IntMap_remove_80 rfl 82 rfl ?_
        refine Wk.iaload k X134 d_IntMap_remove_82 e134 f132 n (own_oN (by omega)) (vs.getD n 0) (own_gD (by omega)) 83 rfl ?_
        refine Wk.iastore k X134 (x := (vs.getD n 0)) d_IntMap_remove_83 e134 f132 f (own_oN (by omega)) (by omega) 84 rfl fun T135 h135 X135 e135 W135 A135 => ?_
        have N136 := Fr.snoc X135 N126 g3
        have K137 := K127.wr W135 (Or.inl (List.mem_of_getElem? (i := 2) rfl))
        have f138 := Exa.wr W135 f128
        have f139 := Fld.other W135 f129 (Or.inl n2)
        have f140 := Fld.other W135 f130 (Or.inl n2)
        have f141 := Fld.other W135 f131 (Or.inl n2)
        have f142 := A125.other W135 n3
        refine Wk.iload k X135 d_IntMap_remove_84 rfl 86 rfl ?_
        refine Wk.istore_n k X135 d_IntMap_remove_86 #[.val (.ref o), .val (.int sl0), .val (.int ((Int32.ofNat 8) - (1 : Int32))), .val (.int (Int32.ofNat n)), .val (.int (Int32.ofNat n)), .val (.int (Int32.ofNat (own_H 8 (ks.getD n 0))))] rfl 87 rfl ?_
        refine Wk.iload k X135 d_IntMap_remove_87 rfl 89 rfl ?_
        refine Wk.iconst k X135 d_IntMap_remove_89 (1 : Int32) rfl 90 rfl ?_
        refine Wk.iadd k X135 d_IntMap_remove_90 91 rfl ?_
        refine Wk.iload_n k X135 d_IntMap_remove_91 rfl 92 rfl ?_
        refine Wk.iand k X135 d_IntMap_remove_92 93 rfl ?_
        refine Wk.istore k X135 d_IntMap_remove_93 #[.val (.ref o), .val (.int sl0), .val (.int ((Int32.ofNat 8) - (1 : Int32))), .val (.int (Int32.ofNat n)), .val (.int (((Int32.ofNat n) + (1 : Int32)) &&& ((Int32.ofNat 8) - (1 : Int32)))), .val (.int (Int32.ofNat (own_H 8 (ks.getD n 0))))] rfl 95 rfl ?_
        refine Wk.goto k X135 d_IntMap_remove_95 (by decide) 17 (by decide) ?_
        rw [own_nx (Or.inl rfl) hn8]
        exact ih n ((n + 1) % 8) _ _ _ (own_D_step (Or.inl rfl) hn8 hfe ht) (own_hole_move hole hc25 (fun z => hc55 ((own_ltN (by have := own_D_lt (Or.inl rfl) (own_H 8 (ks.getD n 0)) n; omega) (by have := own_D_lt (Or.inl rfl) f n; omega)).mpr z))) (by rw [own_sg (by omega), if_neg (fun (z : fe = f) => hkf (by rw [← z]; exact hfr))]; exact hfr) (by have q := own_cnt_set (ks := ks) (i := f) (k := ks.getD n 0) (by omega); rw [if_neg hkf, if_neg hc25] at q; omega) (One.val rfl) _ _ _ X135 e135 K137 N136 ⟨f138, f139, f140, f141, f142, A135, n1, n2, n3, g1, g2, g3⟩
theorem ef_rem (m : MethodId) (o : Addr) (z : Int32) : entryFrame m #[(.ref o), (.int z)] 6 = mkF m 0 #[.val (.ref o), .val (.int z), .unset, .unset, .unset, .unset] [] := by first | (simp [entryFrame, mkF, argsToLocals, Value.category]; done) | rfl
set_option maxRecDepth 65536 in
set_option maxHeartbeats 40000000 in
theorem rm_rem (l : Launch) (Z : State) (a0 : Array Value) (hw : ∀ d ∈ tables_1, d.before a0 Z = true) (o kA vA : Addr) (sl sz : Nat) (ks vs : List Int32) (M : Int32 → Int32) (key : Int32) (h0 : Heap) (n0 : Nat) (hsz : sz < 8) (hsl : sl < 8) (hkey : key ≠ -1) (hks : ks.getD sl 0 = key) (hrep : own_Rep 8 ks vs M) (hcnt : own_cnt ks = sz) (T1 : own_Tab Z h0 n0 o kA vA sz ks vs) : Wk.Met l (⟨"com/example/sensebid/sensebid/IntMap", "remove", "(I)V"⟩ : MethodName) prog_32_method_8_code 6 none ({ frames := 1, cells := 0, slots := 0, locals := 13 } : Room) #[(.ref o), (.int (Int32.ofNat sl))] Z h0 (fun r h L => r = none ∧ Fr n0 L ∧ Keep h0 h [o, kA, vA] ∧ ∃ ks' vs' : List Int32, own_Tab Z h n0 o kA vA (sz - 1) ks' vs' ∧ own_Rep 8 ks' vs' (own_upd M key 0) ∧ own_cnt ks' = sz - 1) [] := by
  have hkl := hrep.1
  have hsz : 1 ≤ sz ∧ sz < 8 := by
    have q := own_cnt_set (ks := ks) (i := sl) (k := -1) (by omega)
    rw [if_neg (by rw [hks]; exact hkey), if_pos rfl] at q
    omega
  refine Wk.enter pn_IntMap_remove (fun p e s m below meth c T0 k X0 e0 => ?_)
  refine (Wk.Ends.cast (ef_rem m o _) ?_)
  have T1' := T1
  obtain ⟨TE, TK, TV, TS, TA, TB, n1, n2, n3, g1, g2, g3⟩ := T1'
  refine Wk.aload_n k X0 d_IntMap_remove_0 rfl rfl 1 rfl ?_
  refine Wk.getfield k X0 d_IntMap_remove_1 (host := "") (Or.inl (Wk.w hw 15 rfl)) Via.refl e0 TK 4 rfl fun T143 X143 e143 => ?_
  refine Wk.arraylength k X143 d_IntMap_remove_4 e143 TA (Int32.ofNat 8) (by rw [own_len hkl]; exact own_oN (by omega)) 5 rfl ?_
  refine Wk.iconst k X143 d_IntMap_remove_5 (1 : Int32) rfl 6 rfl ?_
  refine Wk.isub k X143 d_IntMap_remove_6 7 rfl ?_
  refine Wk.istore_n k X143 d_IntMap_remove_7 #[.val (.ref o), .val (.int (Int32.ofNat sl)), .val (.int ((Int32.ofNat 8) - (1 : Int32))), .unset, .unset, .unset] rfl 8 rfl ?_
  refine Wk.iload_n k X143 d_IntMap_remove_8 rfl 9 rfl ?_
  refine Wk.istore_n k X143 d_IntMap_remove_9 #[.val (.ref o), .val (.int (Int32.ofNat sl)), .val (.int ((Int32.ofNat 8) - (1 : Int32))), .val (.int (Int32.ofNat sl)), .unset, .unset] rfl 10 rfl ?_
  refine Wk.iload_n k X143 d_IntMap_remove_10 rfl 11 rfl ?_
  refine Wk.iconst k X143 d_IntMap_remove_11 (1 : Int32) rfl 12 rfl ?_
  refine Wk.iadd k X143 d_IntMap_remove_12 13 rfl ?_
  refine Wk.iload_n k X143 d_IntMap_remove_13 rfl 14 rfl ?_
  refine Wk.iand k X143 d_IntMap_remove_14 15 rfl ?_
  refine Wk.istore k X143 d_IntMap_remove_15 #[.val (.ref o), .val (.int (Int32.ofNat sl)), .val (.int ((Int32.ofNat 8) - (1 : Int32))), .val (.int (Int32.ofNat sl)), .val (.int (((Int32.ofNat sl) + (1 : Int32)) &&& ((Int32.ofNat 8) - (1 : Int32)))), .unset] rfl 17 rfl ?_
  rw [own_nx (Or.inl rfl) hsl]
  obtain ⟨fe, hfe, hfr⟩ := own_free (ks := ks) (by omega)
  exact rem_17 hw k o kA vA (Int32.ofNat sl) sz fe (own_upd M key 0) hsz (by omega) _ sl ((sl + 1) % 8) ks vs .unset rfl (own_hole_start hrep hkey hsl hks) hfr hcnt One.u _ _ _ X143 e143 (Keep.refl _ _) (Fr.nil _) T1
theorem ef_put (m : MethodId) (o : Addr) (key v : Int32) : entryFrame m #[(.ref o), (.int key), (.int v)] 4 = mkF m 0 #[.val (.ref o), .val (.int key), .val (.int v), .unset] [] := by first | (simp [entryFrame, mkF, argsToLocals, Value.category]; done) | rfl
theorem d_IntMap_put_0 : decode prog_32_method_6_code 0 = .ok (.aload_n 0, 1) := by decide +kernel
theorem d_IntMap_put_1 : decode prog_32_method_6_code 1 = .ok (.iload_n 1, 1) := by decide +kernel
theorem d_IntMap_put_2 : decode prog_32_method_6_code 2 = .ok (.invokevirtual 26, 3) := by decide +kernel
theorem d_IntMap_put_5 : decode prog_32_method_6_code 5 = .ok (.istore_n 3, 1) := by decide +kernel
theorem d_IntMap_put_6 : decode prog_32_method_6_code 6 = .ok (.aload_n 0, 1) := by decide +kernel
theorem d_IntMap_put_7 : decode prog_32_method_6_code 7 = .ok (.getfield 7, 3) := by decide +kernel
theorem d_IntMap_put_10 : decode prog_32_method_6_code 10 = .ok (.iload_n 3, 1) := by decide +kernel
theorem d_IntMap_put_11 : decode prog_32_method_6_code 11 = .ok (.iaload, 1) := by decide +kernel
theorem d_IntMap_put_12 : decode prog_32_method_6_code 12 = .ok (.iload_n 1, 1) := by decide +kernel
theorem d_IntMap_put_13 : decode prog_32_method_6_code 13 = .ok (.if_icmp .ne 25, 3) := by decide +kernel
theorem d_IntMap_put_16 : decode prog_32_method_6_code 16 = .ok (.iload_n 2, 1) := by decide +kernel
theorem d_IntMap_put_17 : decode prog_32_method_6_code 17 = .ok (.ifCond .eq 13, 3) := by decide +kernel
theorem d_IntMap_put_20 : decode prog_32_method_6_code 20 = .ok (.aload_n 0, 1) := by decide +kernel
theorem d_IntMap_put_21 : decode prog_32_method_6_code 21 = .ok (.getfield 13, 3) := by decide +kernel
theorem d_IntMap_put_24 : decode prog_32_method_6_code 24 = .ok (.iload_n 3, 1) := by decide +kernel
theorem d_IntMap_put_25 : decode prog_32_method_6_code 25 = .ok (.iload_n 2, 1) := by decide +kernel
theorem d_IntMap_put_26 : decode prog_32_method_6_code 26 = .ok (.iastore, 1) := by decide +kernel
theorem d_IntMap_put_27 : decode prog_32_method_6_code 27 = .ok (.goto 59, 3) := by decide +kernel
theorem d_IntMap_put_30 : decode prog_32_method_6_code 30 = .ok (.aload_n 0, 1) := by decide +kernel
theorem d_IntMap_put_31 : decode prog_32_method_6_code 31 = .ok (.iload_n 3, 1) := by decide +kernel
theorem d_IntMap_put_32 : decode prog_32_method_6_code 32 = .ok (.invokevirtual 37, 3) := by decide +kernel
theorem d_IntMap_put_35 : decode prog_32_method_6_code 35 = .ok (.goto 51, 3) := by decide +kernel
theorem d_IntMap_put_38 : decode prog_32_method_6_code 38 = .ok (.iload_n 2, 1) := by decide +kernel
theorem d_IntMap_put_39 : decode prog_32_method_6_code 39 = .ok (.ifCond .eq 47, 3) := by decide +kernel
theorem d_IntMap_put_42 : decode prog_32_method_6_code 42 = .ok (.aload_n 0, 1) := by decide +kernel
theorem d_IntMap_put_43 : decode prog_32_method_6_code 43 = .ok (.getfield 7, 3) := by decide +kernel
theorem d_IntMap_put_46 : decode prog_32_method_6_code 46 = .ok (.iload_n 3, 1) := by decide +kernel
theorem d_IntMap_put_47 : decode prog_32_method_6_code 47 = .ok (.iload_n 1, 1) := by decide +kernel
theorem d_IntMap_put_48 : decode prog_32_method_6_code 48 = .ok (.iastore, 1) := by decide +kernel
theorem d_IntMap_put_49 : decode prog_32_method_6_code 49 = .ok (.aload_n 0, 1) := by decide +kernel
theorem d_IntMap_put_50 : decode prog_32_method_6_code 50 = .ok (.getfield 13, 3) := by decide +kernel
theorem d_IntMap_put_53 : decode prog_32_method_6_code 53 = .ok (.iload_n 3, 1) := by decide +kernel
theorem d_IntMap_put_54 : decode prog_32_method_6_code 54 = .ok (.iload_n 2, 1) := by decide +kernel
theorem d_IntMap_put_55 : decode prog_32_method_6_code 55 = .ok (.iastore, 1) := by decide +kernel
theorem d_IntMap_put_56 : decode prog_32_method_6_code 56 = .ok (.aload_n 0, 1) := by decide +kernel
theorem d_IntMap_put_57 : decode prog_32_method_6_code 57 = .ok (.dup, 1) := by decide +kernel
theorem d_IntMap_put_58 : decode prog_32_method_6_code 58 = .ok (.getfield 22, 3) := by decide +kernel
theorem d_IntMap_put_61 : decode prog_32_method_6_code 61 = .ok (.iconst 1, 1) := by decide +kernel
theorem d_IntMap_put_62 : decode prog_32_method_6_code 62 = .ok (.iadd, 1) := by decide +kernel
theorem d_IntMap_put_63 : decode prog_32_method_6_code 63 = .ok (.putfield 22, 3) := by decide +kernel
theorem d_IntMap_put_66 : decode prog_32_method_6_code 66 = .ok (.iconst 4, 1) := by decide +kernel
theorem d_IntMap_put_67 : decode prog_32_method_6_code 67 = .ok (.aload_n 0, 1) := by decide +kernel
theorem d_IntMap_put_68 : decode prog_32_method_6_code 68 = .ok (.getfield 22, 3) := by decide +kernel
theorem d_IntMap_put_71 : decode prog_32_method_6_code 71 = .ok (.imul, 1) := by decide +kernel
theorem d_IntMap_put_72 : decode prog_32_method_6_code 72 = .ok (.iconst 3, 1) := by decide +kernel
theorem d_IntMap_put_73 : decode prog_32_method_6_code 73 = .ok (.aload_n 0, 1) := by decide +kernel
theorem d_IntMap_put_74 : decode prog_32_method_6_code 74 = .ok (.getfield 7, 3) := by decide +kernel
theorem d_IntMap_put_77 : decode prog_32_method_6_code 77 = .ok (.arraylength, 1) := by decide +kernel
theorem d_IntMap_put_78 : decode prog_32_method_6_code 78 = .ok (.imul, 1) := by decide +kernel
theorem d_IntMap_put_79 : decode prog_32_method_6_code 79 = .ok (.if_icmp .le 7, 3) := by decide +kernel
theorem d_IntMap_put_82 : decode prog_32_method_6_code 82 = .ok (.aload_n 0, 1) := by decide +kernel
theorem d_IntMap_put_83 : decode prog_32_method_6_code 83 = .ok (.invokevirtual 41, 3) := by decide +kernel
theorem d_IntMap_put_86 : decode prog_32_method_6_code 86 = .ok (.return_, 1) := by decide +kernel
theorem pn_IntMap_put : plainFor (⟨"com/example/sensebid/sensebid/IntMap", "put", "(II)V"⟩ : MethodName) = true := plainFor_of_name (by first | (simp [plainName, overriddenIn, x]; done) | decide +kernel)
theorem pd_IntMap_put : parseMethodDescriptor "(II)V" = some ⟨[.int, .int], none⟩ := by decide +kernel
theorem own_cn {c : Nat} {ks : List Int32} {sl sz : Nat} {k : Int32} (hl : ks.length = c) (hs : sl < c) (hk : k ≠ -1) (hf : ks.getD sl 0 = -1) (h : own_cnt ks = sz) : own_cnt (ks.set sl k) = sz + 1 := by
  have q := own_cnt_set (ks := ks) (i := sl) (k := k) (by omega)
  rw [if_pos hf, if_neg hk] at q
  omega
set_option maxRecDepth 65536 in
set_option maxHeartbeats 40000000 in
theorem rm_put (l : Launch) (Z : State) (a0 : Array Value) (hw : ∀ d ∈ tables_1, d.before a0 Z = true) (o : Addr) (key v : Int32) (kA vA : Addr) (cp sz : Nat) (ks vs : List Int32) (M : Int32 → Int32) (h0 : Heap) (n0 : Nat) (hcp : cp = 8 ∨ cp = 16) (hkey : key ≠ -1) (hrep : own_Rep cp ks vs M) (hcnt : own_cnt ks = sz) (T1 : own_Tab Z h0 n0 o kA vA sz ks vs) (h16 : cp = 16 → ¬ v = 0) (hroom : 4 * (sz + 1) ≤ 3 * cp) : Wk.Met l (⟨"com/example/sensebid/sensebid/IntMap", "put", "(II)V"⟩ : MethodName) prog_32_method_6_code 4 none ({ frames := 2, cells := 0, slots := 0, locals := 30 } : Room) #[(.ref o), (.int key), (.int v)] Z h0 (fun r h L => r = none ∧ Fr n0 L ∧ Keep h0 h [o, kA, vA] ∧ ∃ (kB vB : Addr) (cq sq : Nat) (ks' vs' : List Int32), (cq = 8 ∨ cq = 16) ∧ own_Tab Z h n0 o kB vB sq ks' vs' ∧ own_Rep cq ks' vs' (own_upd M key v) ∧ own_cnt ks' = sq ∧ sq < cq ∧ kA = kB ∧ vA = vB ∧ cp = cq ∧ sq ≤ sz + 1) [] := by
  refine Wk.enter pn_IntMap_put (fun p e s m below meth c T0 k X0 e0 => ?_)
  refine (Wk.Ends.cast (ef_put m o key v) ?_)
  have T1' := T1
  obtain ⟨TE, TK, TV, TS, TA, TB, n1, n2, n3, g1, g2, g3⟩ := T1'
  have hkl := hrep.1
  have hvl := hrep.2.1
  have hfree : ∃ fe, fe < cp ∧ ks.getD fe 0 = -1 := by rw [← hkl]; exact own_free (by omega)
  have hP : ∀ {sl : Nat}, ks.getD sl 0 = key → ks.getD sl 0 = key := fun z => z
  refine Wk.aload_n k X0 d_IntMap_put_0 rfl rfl 1 rfl ?_
  refine Wk.iload_n k X0 d_IntMap_put_1 rfl 2 rfl ?_
  refine Wk.callP k X0 [(.int key)] [] d_IntMap_put_2 (rm_find l Z a0 hw o key kA cp ks h0 hcp hrep.1 hfree TK TA) e0 TE (Wk.w hw 28 rfl) (Wk.w hw 30 rfl) (Wk.w hw 7 rfl) (Wk.w hw 29 rfl) (Wk.w hw 8 rfl) (Wk.w hw 31 rfl) (by decide) rfl pd_IntMap_find rfl rfl (Nat.le_of_ble_eq_true rfl) (Nat.le_of_ble_eq_true rfl) (Nat.le_of_ble_eq_true rfl) (Nat.le_of_ble_eq_true rfl) 5 rfl fun T101 v101 L101 X101 hQ101 => ?_
  obtain ⟨sl, hsl, rfl, hseen, hor, e101, rfl⟩ := hQ101
  rw [List.append_nil] at X101
  show Wk.Ends _ _ _ _ _ _ _ (mkF m 5 _ [(.int (Int32.ofNat sl))])
  refine Wk.istore_n k X101 d_IntMap_put_5 #[.val (.ref o), .val (.int key), .val (.int v), .val (.int (Int32.ofNat sl))] rfl 6 rfl ?_
  refine Wk.aload_n k X101 d_IntMap_put_6 rfl rfl 7 rfl ?_
  refine Wk.getfield k X101 d_IntMap_put_7 (host := "") (Or.inl (Wk.w hw 15 rfl)) Via.refl e101 TK 10 rfl fun T102 X102 e102 => ?_
  refine Wk.iload_n k X102 d_IntMap_put_10 rfl 11 rfl ?_
  refine Wk.iaload k X102 d_IntMap_put_11 e102 TA sl (own_oN (by omega)) (ks.getD sl 0) (own_gD (by omega)) 12 rfl ?_
  refine Wk.iload_n k X102 d_IntMap_put_12 rfl 13 rfl ?_
  refine Wk.icmp_ne k X102 d_IntMap_put_13 (by decide) 38 16 (by decide) rfl (fun hc13 => ?_) (fun hc13 => ?_)
  · refine Wk.iload_n k X102 d_IntMap_put_38 rfl 39 rfl ?_
    refine Wk.if_eq k X102 d_IntMap_put_39 (by decide) 86 42 (by decide) rfl (fun hc39 => ?_) (fun hc39 => ?_)
    · refine Wk.ret_void k X102 rfl d_IntMap_put_86 (by decide) (by decide) ?_
      rw [e102]
      subst hc39
      exact ⟨rfl, (Fr.nil n0), (Keep.refl h0 [o, kA, vA]), kA, vA, cp, sz, ks, vs, hcp, ⟨TE, TK, TV, TS, TA, TB, n1, n2, n3, g1, g2, g3⟩, own_put_none hrep (own_absent hcp hrep hkey hsl hseen (hor.resolve_left hc13)).2, hcnt, by omega, rfl, rfl, rfl, by omega⟩
    · have hfree1 := hor.resolve_left hc13
      refine Wk.aload_n k X102 d_IntMap_put_42 rfl rfl 43 rfl ?_
      refine Wk.getfield k X102 d_IntMap_put_43 (host := "") (Or.inl (Wk.w hw 15 rfl)) Via.refl e102 TK 46 rfl fun T103 X103 e103 => ?_
      refine Wk.iload_n k X103 d_IntMap_put_46 rfl 47 rfl ?_
      refine Wk.iload_n k X103 d_IntMap_put_47 rfl 48 rfl ?_
      refine Wk.iastore k X103 (x := key) d_IntMap_put_48 e103 TA sl (own_oN (by omega)) (by omega) 49 rfl fun T104 h104 X104 e104 W104 A104 => ?_
      have N105 := Fr.snoc X104 (Fr.nil n0) g2
      have K106 := (Keep.refl h0 [o, kA, vA]).wr W104 (Or.inl (List.mem_of_getElem? (i := 1) rfl))
      have f107 := Exa.wr W104 TE
      have f108 := Fld.other W104 TK (Or.inl n1)
      have f109 := Fld.other W104 TV (Or.inl n1)
      have f110 := Fld.other W104 TS (Or.inl n1)
      have f111 := TB.other W104 (Ne.symm n3)
      refine Wk.aload_n k X104 d_IntMap_put_49 rfl rfl 50 rfl ?_
      refine Wk.getfield k X104 d_IntMap_put_50 (host := "") (Or.inl (Wk.w hw 17 rfl)) Via.refl e104 f109 53 rfl fun T112 X112 e112 => ?_
      refine Wk.iload_n k X112 d_IntMap_put_53 rfl 54 rfl ?_
      refine Wk.iload_n k X112 d_IntMap_put_54 rfl 55 rfl ?_
      refine Wk.iastore k X112 (x := v) d_IntMap_put_55 e112 f111 sl (own_oN (by omega)) (by omega) 56 rfl fun T113 h113 X113 e113 W113 A113 => ?_
      have N114 := Fr.snoc X113 N105 g3
      have K115 := K106.wr W113 (Or.inl (List.mem_of_getElem? (i := 2) rfl))
      have f116 := Exa.wr W113 f107
      have f117 := Fld.other W113 f108 (Or.inl n2)
      have f118 := Fld.other W113 f109 (Or.inl n2)
      have f119 := Fld.other W113 f110 (Or.inl n2)
      have f120 := A104.other W113 n3
      refine Wk.aload_n k X113 d_IntMap_put_56 rfl rfl 57 rfl ?_
      refine Wk.dup k X113 d_IntMap_put_57 rfl 58 rfl ?_
      refine Wk.getfield k X113 d_IntMap_put_58 (host := "") (Or.inl (Wk.w hw 36 rfl)) Via.refl e113 f119 61 rfl fun T121 X121 e121 => ?_
      refine Wk.iconst k X121 d_IntMap_put_61 (1 : Int32) rfl 62 rfl ?_
      refine Wk.iadd k X121 d_IntMap_put_62 63 rfl ?_
      refine Wk.putfield k X121 d_IntMap_put_63 (host := "") (Or.inl (Wk.w hw 36 rfl)) Via.refl e121 f119 f116 (Or.inl (Wk.w hw 37 rfl)) (Wk.w hw 7 rfl) (ty := .int) (by decide) rfl rfl 66 rfl fun T122 h122 X122 e122 W122 => ?_
      have N123 := Fr.snoc X122 N114 g1
      have K124 := K115.wr W122 (Or.inl (List.mem_of_getElem? (i := 0) rfl))
      have f125 := Exa.wr W122 f116
      have f126 := Fld.other W122 f117 (Or.inr (slot_ne (Or.inl (Wk.w hw 16 rfl)) (Or.inl (Wk.w hw 37 rfl)) (by decide) (t := (.array .int)) (t' := .int) (by decide) (by decide)))
      have f127 := Fld.other W122 f118 (Or.inr (slot_ne (Or.inl (Wk.w hw 18 rfl)) (Or.inl (Wk.w hw 37 rfl)) (by decide) (t := (.array .int)) (t' := .int) (by decide) (by decide)))
      have f128 := f120.other W122 (Ne.symm n1)
      have f129 := A113.other W122 (Ne.symm n2)
      have f130 := Fld.same W122 f119
      refine Wk.iconst k X122 d_IntMap_put_66 (4 : Int32) rfl 67 rfl ?_
      refine Wk.aload_n k X122 d_IntMap_put_67 rfl rfl 68 rfl ?_
      refine Wk.getfield k X122 d_IntMap_put_68 (host := "") (Or.inl (Wk.w hw 36 rfl)) Via.refl e122 f130 71 rfl fun T131 X131 e131 => ?_
      refine Wk.imul k X131 d_IntMap_put_71 72 rfl ?_
      refine Wk.iconst k X131 d_IntMap_put_72 (3 : Int32) rfl 73 rfl ?_
      refine Wk.aload_n k X131 d_IntMap_put_73 rfl rfl 74 rfl ?_
      refine Wk.getfield k X131 d_IntMap_put_74 (host := "") (Or.inl (Wk.w hw 15 rfl)) Via.refl e131 f126 77 rfl fun T132 X132 e132 => ?_
      refine Wk.arraylength k X132 d_IntMap_put_77 e132 f128 (Int32.ofNat cp) (by rw [List.length_map, List.length_set, hrep.1]; exact own_oN (by omega)) 78 rfl ?_
      refine Wk.imul k X132 d_IntMap_put_78 79 rfl ?_
      refine Wk.icmp_le k X132 d_IntMap_put_79 (by decide) 86 82 (by decide) rfl (fun hc79 => ?_) (fun hc79 => ?_)
      · refine Wk.ret_void k X132 rfl d_IntMap_put_86 (by decide) (by decide) ?_
        rw [e132]
        exact ⟨rfl, N123, K124, kA, vA, cp, sz + 1, _, _, hcp, ⟨f125, f126, f127, by rw [← own_inc32]; exact f130, f128, f129, n1, n2, n3, g1, g2, g3⟩, own_put_new hcp hrep hkey hc39 hsl hseen hfree1, own_cn hrep.1 hsl hkey hfree1 hcnt, by omega, rfl, rfl, rfl, by omega⟩
      · exact absurd hc79 (by rw [Int32.lt_iff_toInt_lt, own_inc32, (own_small4 (z := sz + 1) (by omega) hcp).1, (own_small4 (z := 0) (by omega) hcp).2]; omega)
  · refine Wk.iload_n k X102 d_IntMap_put_16 rfl 17 rfl ?_
    refine Wk.if_eq k X102 d_IntMap_put_17 (by decide) 30 20 (by decide) rfl (fun hc17 => ?_) (fun hc17 => ?_)
    · refine Wk.aload_n k X102 d_IntMap_put_30 rfl rfl 31 rfl ?_
      refine Wk.iload_n k X102 d_IntMap_put_31 rfl 32 rfl ?_
      obtain rfl : cp = 8 := hcp.resolve_right (fun z => h16 z hc17)
      refine Wk.callP k X102 [(.int (Int32.ofNat sl))] [] d_IntMap_put_32 (rm_rem l Z a0 hw o kA vA sl sz ks vs M key h0 n0 (by omega) hsl hkey (hP hc13) hrep hcnt T1) e102 TE (Wk.w hw 46 rfl) (Wk.w hw 48 rfl) (Wk.w hw 7 rfl) (Wk.w hw 47 rfl) (Wk.w hw 8 rfl) (Wk.w hw 49 rfl) (by decide) rfl pd_IntMap_remove rfl rfl (Nat.le_of_ble_eq_true rfl) (Nat.le_of_ble_eq_true rfl) (Nat.le_of_ble_eq_true rfl) (Nat.le_of_ble_eq_true rfl) 35 rfl fun T133 v133 L133 X133 hQ133 => ?_
      obtain ⟨rfl, N133, K133, ks', vs', T133', R133, C133⟩ := hQ133
      show Wk.Ends _ _ _ _ _ _ _ (mkF m 35 _ [])
      refine Wk.goto k X133 d_IntMap_put_35 (by decide) 86 (by decide) ?_
      refine Wk.ret_void k X133 rfl d_IntMap_put_86 (by decide) (by decide) ?_
      subst hc17
      exact ⟨rfl, N133, K133, kA, vA, 8, sz - 1, ks', vs', Or.inl rfl, T133', R133, C133, by omega, rfl, rfl, rfl, by omega⟩
    · refine Wk.aload_n k X102 d_IntMap_put_20 rfl rfl 21 rfl ?_
      refine Wk.getfield k X102 d_IntMap_put_21 (host := "") (Or.inl (Wk.w hw 17 rfl)) Via.refl e102 TV 24 rfl fun T134 X134 e134 => ?_
      refine Wk.iload_n k X134 d_IntMap_put_24 rfl 25 rfl ?_
      refine Wk.iload_n k X134 d_IntMap_put_25 rfl 26 rfl ?_
      refine Wk.iastore k X134 (x := v) d_IntMap_put_26 e134 TB sl (own_oN (by omega)) (by omega) 27 rfl fun T135 h135 X135 e135 W135 A135 => ?_
      have N136 := Fr.snoc X135 (Fr.nil n0) g3
      have K137 := (Keep.refl h0 [o, kA, vA]).wr W135 (Or.inl (List.mem_of_getElem? (i := 2) rfl))
      have f138 := Exa.wr W135 TE
      have f139 := Fld.other W135 TK (Or.inl n2)
      have f140 := Fld.other W135 TV (Or.inl n2)
      have f141 := Fld.other W135 TS (Or.inl n2)
      have f142 := TA.other W135 n3
      refine Wk.goto k X135 d_IntMap_put_27 (by decide) 86 (by decide) ?_
      refine Wk.ret_void k X135 rfl d_IntMap_put_86 (by decide) (by decide) ?_
      rw [e135]
      exact ⟨rfl, N136, K137, kA, vA, cp, sz, ks, _, hcp, ⟨f138, f139, f140, f141, f142, A135, n1, n2, n3, g1, g2, g3⟩, own_put_old hrep hkey hc17 hsl hc13, hcnt, by omega, rfl, rfl, rfl, by omega⟩
theorem d_IntMap_grow_0 : decode prog_32_method_9_code 0 = .ok (.aload_n 0, 1) := by decide +kernel
theorem d_IntMap_grow_1 : decode prog_32_method_9_code 1 = .ok (.getfield 7, 3) := by decide +kernel
theorem d_IntMap_grow_4 : decode prog_32_method_9_code 4 = .ok (.astore_n 1, 1) := by decide +kernel
theorem d_IntMap_grow_5 : decode prog_32_method_9_code 5 = .ok (.aload_n 0, 1) := by decide +kernel
theorem d_IntMap_grow_6 : decode prog_32_method_9_code 6 = .ok (.getfield 13, 3) := by decide +kernel
theorem d_IntMap_grow_9 : decode prog_32_method_9_code 9 = .ok (.astore_n 2, 1) := by decide +kernel
theorem d_IntMap_grow_10 : decode prog_32_method_9_code 10 = .ok (.aload_n 0, 1) := by decide +kernel
theorem d_IntMap_grow_11 : decode prog_32_method_9_code 11 = .ok (.iconst 2, 1) := by decide +kernel
theorem d_IntMap_grow_12 : decode prog_32_method_9_code 12 = .ok (.aload_n 1, 1) := by decide +kernel
theorem d_IntMap_grow_13 : decode prog_32_method_9_code 13 = .ok (.arraylength, 1) := by decide +kernel
theorem d_IntMap_grow_14 : decode prog_32_method_9_code 14 = .ok (.imul, 1) := by decide +kernel
theorem d_IntMap_grow_15 : decode prog_32_method_9_code 15 = .ok (.newarray .int, 2) := by decide +kernel
theorem d_IntMap_grow_17 : decode prog_32_method_9_code 17 = .ok (.putfield 7, 3) := by decide +kernel
theorem d_IntMap_grow_20 : decode prog_32_method_9_code 20 = .ok (.aload_n 0, 1) := by decide +kernel
theorem d_IntMap_grow_21 : decode prog_32_method_9_code 21 = .ok (.aload_n 0, 1) := by decide +kernel
theorem d_IntMap_grow_22 : decode prog_32_method_9_code 22 = .ok (.getfield 7, 3) := by decide +kernel
theorem d_IntMap_grow_25 : decode prog_32_method_9_code 25 = .ok (.arraylength, 1) := by decide +kernel
theorem d_IntMap_grow_26 : decode prog_32_method_9_code 26 = .ok (.newarray .int, 2) := by decide +kernel
theorem d_IntMap_grow_28 : decode prog_32_method_9_code 28 = .ok (.putfield 13, 3) := by decide +kernel
theorem d_IntMap_grow_31 : decode prog_32_method_9_code 31 = .ok (.aload_n 0, 1) := by decide +kernel
theorem d_IntMap_grow_32 : decode prog_32_method_9_code 32 = .ok (.getfield 7, 3) := by decide +kernel
theorem d_IntMap_grow_35 : decode prog_32_method_9_code 35 = .ok (.iconst (-1), 1) := by decide +kernel
theorem d_IntMap_grow_36 : decode prog_32_method_9_code 36 = .ok (.invokestatic 16, 3) := by decide +kernel
theorem d_IntMap_grow_39 : decode prog_32_method_9_code 39 = .ok (.aload_n 0, 1) := by decide +kernel
theorem d_IntMap_grow_40 : decode prog_32_method_9_code 40 = .ok (.iconst 0, 1) := by decide +kernel
theorem d_IntMap_grow_41 : decode prog_32_method_9_code 41 = .ok (.putfield 22, 3) := by decide +kernel
theorem d_IntMap_grow_44 : decode prog_32_method_9_code 44 = .ok (.iconst 0, 1) := by decide +kernel
theorem d_IntMap_grow_45 : decode prog_32_method_9_code 45 = .ok (.istore_n 3, 1) := by decide +kernel
theorem d_IntMap_grow_46 : decode prog_32_method_9_code 46 = .ok (.iload_n 3, 1) := by decide +kernel
theorem d_IntMap_grow_47 : decode prog_32_method_9_code 47 = .ok (.aload_n 1, 1) := by decide +kernel
theorem d_IntMap_grow_48 : decode prog_32_method_9_code 48 = .ok (.arraylength, 1) := by decide +kernel
theorem d_IntMap_grow_49 : decode prog_32_method_9_code 49 = .ok (.if_icmp .ge 26, 3) := by decide +kernel
theorem d_IntMap_grow_52 : decode prog_32_method_9_code 52 = .ok (.aload_n 1, 1) := by decide +kernel
theorem d_IntMap_grow_53 : decode prog_32_method_9_code 53 = .ok (.iload_n 3, 1) := by decide +kernel
theorem d_IntMap_grow_54 : decode prog_32_method_9_code 54 = .ok (.iaload, 1) := by decide +kernel
theorem d_IntMap_grow_55 : decode prog_32_method_9_code 55 = .ok (.iconst (-1), 1) := by decide +kernel
theorem d_IntMap_grow_56 : decode prog_32_method_9_code 56 = .ok (.if_icmp .eq 13, 3) := by decide +kernel
theorem d_IntMap_grow_59 : decode prog_32_method_9_code 59 = .ok (.aload_n 0, 1) := by decide +kernel
theorem d_IntMap_grow_60 : decode prog_32_method_9_code 60 = .ok (.aload_n 1, 1) := by decide +kernel
theorem d_IntMap_grow_61 : decode prog_32_method_9_code 61 = .ok (.iload_n 3, 1) := by decide +kernel
theorem d_IntMap_grow_62 : decode prog_32_method_9_code 62 = .ok (.iaload, 1) := by decide +kernel
theorem d_IntMap_grow_63 : decode prog_32_method_9_code 63 = .ok (.aload_n 2, 1) := by decide +kernel
theorem d_IntMap_grow_64 : decode prog_32_method_9_code 64 = .ok (.iload_n 3, 1) := by decide +kernel
theorem d_IntMap_grow_65 : decode prog_32_method_9_code 65 = .ok (.iaload, 1) := by decide +kernel
theorem d_IntMap_grow_66 : decode prog_32_method_9_code 66 = .ok (.invokevirtual 33, 3) := by decide +kernel
theorem d_IntMap_grow_69 : decode prog_32_method_9_code 69 = .ok (.iinc 3 1, 3) := by decide +kernel
theorem d_IntMap_grow_72 : decode prog_32_method_9_code 72 = .ok (.goto (-26), 3) := by decide +kernel
theorem d_IntMap_grow_75 : decode prog_32_method_9_code 75 = .ok (.return_, 1) := by decide +kernel
theorem pn_IntMap_grow : plainFor (⟨"com/example/sensebid/sensebid/IntMap", "grow", "()V"⟩ : MethodName) = true := plainFor_of_name (by first | (simp [plainName, overriddenIn, x]; done) | decide +kernel)
theorem pd_IntMap_grow : parseMethodDescriptor "()V" = some ⟨[], none⟩ := by decide +kernel
set_option maxRecDepth 65536 in
set_option maxHeartbeats 40000000 in
theorem grow_46 {p : Program} {l : Launch} {e : Env} {s : State} {m : MethodId} {args : Array Value} {below : List Frame} {meth : Method} {c : Code} {Z : State} {a0 : Array Value} {h0 : Heap} {n0 : Nat} (hw : ∀ d ∈ tables_1, d.before a0 Z = true) (k : Wk.K p s m meth c Z (⟨"com/example/sensebid/sensebid/IntMap", "grow", "()V"⟩ : MethodName) prog_32_method_9_code 4 none) (o kA vA kB vB : Addr) (ks vs : List Int32) (M : Int32 → Int32) (hrep : own_Rep 8 ks vs M) (m1 : o ≠ kA) (m2 : o ≠ vA) (m3 : kA ≠ kB) (m4 : kA ≠ vB) (m5 : vA ≠ kB) (m6 : vA ≠ vB) (s1 : h0.size ≤ kB) (s2 : h0.size ≤ vB) :
    ∀ (d i : Nat), i + d = 8 → ∀ (sq : Nat) (js us : List Int32), own_Rep 16 js us (own_Mi ks vs i) → own_cnt js = sq → sq ≤ i → ∀ (T0 : State) (h1 : Heap) (locs : List Loc), Stand p l e ({ frames := 3, cells := 2, slots := 32, locals := 46 } : Room) s m args below meth c T0 locs 2 32 → T0.heap = h1 → Keep h0 h1 [o] → Fr n0 locs → own_Tab Z h1 n0 o kB vB sq js us → Wk.Arl Z h1 kA .int (ks.map Value.int) → Wk.Arl Z h1 vA .int (vs.map Value.int) → Wk.Ends p e s below ({ frames := 3, cells := 2, slots := 32, locals := 46 } : Room) (fun r h L => r = none ∧ Fr n0 L ∧ Keep h0 h [o] ∧ ∃ (kB vB : Addr) (sq : Nat) (js us : List Int32), own_Tab Z h n0 o kB vB sq js us ∧ own_Rep 16 js us M ∧ own_cnt js = sq ∧ sq ≤ 8) T0 (mkF m 46 #[.val (.ref o), .val (.ref kA), .val (.ref vA), .val (.int (Int32.ofNat i))] []) := by
  intro d
  have hkl := hrep.1
  have hvl := hrep.2.1
  induction d with
  | zero =>
    intro i hd sq js us hrepI hcntI hle T0 h1 locs X0 e0 K1 N1 T1 OA OB
    obtain rfl : i = 8 := by omega
    have T1' := T1
    obtain ⟨TE, TK, TV, TS, TA, TB, n1, n2, n3, g1, g2, g3⟩ := T1'
    refine Wk.iload_n k X0 d_IntMap_grow_46 rfl 47 rfl ?_
    refine Wk.aload_n k X0 d_IntMap_grow_47 rfl rfl 48 rfl ?_
    refine Wk.arraylength k X0 d_IntMap_grow_48 e0 OA (Int32.ofNat 8) (by rw [own_len hrep.1]; exact own_oN (by omega)) 49 rfl ?_
    refine Wk.icmp_ge k X0 d_IntMap_grow_49 (by decide) 75 52 (by decide) rfl (fun hc49 => ?_) (fun hc49 => ?_)
    · refine Wk.ret_void k X0 rfl d_IntMap_grow_75 (by decide) (by decide) ?_
      rw [e0]
      exact ⟨rfl, N1, K1, kB, vB, sq, js, us, T1, by rw [← own_Mi_all hrep]; exact hrepI, hcntI, by omega⟩
    · exact absurd hc49 Int32.lt_irrefl
  | succ d ih =>
    intro i hd sq js us hrepI hcntI hle T0 h1 locs X0 e0 K1 N1 T1 OA OB
    have T1' := T1
    obtain ⟨TE, TK, TV, TS, TA, TB, n1, n2, n3, g1, g2, g3⟩ := T1'
    refine Wk.iload_n k X0 d_IntMap_grow_46 rfl 47 rfl ?_
    refine Wk.aload_n k X0 d_IntMap_grow_47 rfl rfl 48 rfl ?_
    refine Wk.arraylength k X0 d_IntMap_grow_48 e0 OA (Int32.ofNat 8) (by rw [own_len hrep.1]; exact own_oN (by omega)) 49 rfl ?_
    refine Wk.icmp_ge k X0 d_IntMap_grow_49 (by decide) 75 52 (by decide) rfl (fun hc49 => ?_) (fun hc49 => ?_)
    · exact absurd ((own_ltN (by omega) (by omega)).mpr (by omega)) hc49
    · refine Wk.aload_n k X0 d_IntMap_grow_52 rfl rfl 53 rfl ?_
      refine Wk.iload_n k X0 d_IntMap_grow_53 rfl 54 rfl ?_
      refine Wk.iaload k X0 d_IntMap_grow_54 e0 OA i (own_oN (by omega)) (ks.getD i 0) (own_gD (by omega)) 55 rfl ?_
      refine Wk.iconst k X0 d_IntMap_grow_55 (-1 : Int32) rfl 56 rfl ?_
      refine Wk.icmp_eq k X0 d_IntMap_grow_56 (by decide) 69 59 (by decide) rfl (fun hc56 => ?_) (fun hc56 => ?_)
      · refine Wk.iinc k X0 d_IntMap_grow_69 rfl #[.val (.ref o), .val (.ref kA), .val (.ref vA), .val (.int ((Int32.ofNat i) + (1 : Int32)))] rfl 72 rfl ?_
        refine Wk.goto k X0 d_IntMap_grow_72 (by decide) 46 (by decide) ?_
        rw [own_inc32]
        exact ih (i + 1) (by omega) _ _ _ (by show own_Rep 16 _ _ (if _ then _ else _); rw [if_pos hc56]; exact hrepI) hcntI (by omega) _ _ _ X0 e0 K1 N1 T1 OA OB
      · refine Wk.aload_n k X0 d_IntMap_grow_59 rfl rfl 60 rfl ?_
        refine Wk.aload_n k X0 d_IntMap_grow_60 rfl rfl 61 rfl ?_
        refine Wk.iload_n k X0 d_IntMap_grow_61 rfl 62 rfl ?_
        refine Wk.iaload k X0 d_IntMap_grow_62 e0 OA i (own_oN (by omega)) (ks.getD i 0) (own_gD (by omega)) 63 rfl ?_
        refine Wk.aload_n k X0 d_IntMap_grow_63 rfl rfl 64 rfl ?_
        refine Wk.iload_n k X0 d_IntMap_grow_64 rfl 65 rfl ?_
        refine Wk.iaload k X0 d_IntMap_grow_65 e0 OB i (own_oN (by omega)) (vs.getD i 0) (own_gD (by omega)) 66 rfl ?_
        refine Wk.callV k X0 [(.int (ks.getD i 0)), (.int (vs.getD i 0))] [] d_IntMap_grow_66 (rm_put l Z a0 hw o (ks.getD i 0) (vs.getD i 0) kB vB 16 sq js us (own_Mi ks vs i) h1 n0 (Or.inr rfl) hc56 hrepI hcntI T1 (fun _ => (hrep.2.2.1 i (by omega) hc56).2) (by omega)) e0 TE (Wk.w hw 54 rfl) (Wk.w hw 24 rfl) (Wk.w hw 26 rfl) (Wk.w hw 25 rfl) (Wk.w hw 8 rfl) (Wk.w hw 27 rfl) (by decide) rfl pd_IntMap_put rfl rfl (Nat.le_of_ble_eq_true rfl) (Nat.le_of_ble_eq_true rfl) (Nat.le_of_ble_eq_true rfl) (Nat.le_of_ble_eq_true rfl) 69 rfl fun T101 v101 L101 X101 hQ101 => ?_
        obtain ⟨rfl, N101q, K101q, kC, vC, cq, sq', js', us', hcq, T101', R101, C101, hsq', rfl, rfl, rfl, hsz'⟩ := hQ101
        show Wk.Ends _ _ _ _ _ _ _ (mkF m 69 _ [])
        have N101 := Fr.app N1 N101q
        have K101 := K1.trans K101q (allS (Or.inl (List.mem_of_getElem? (i := 0) rfl)) (allS (Or.inr s1) (allS (Or.inr s2) all0)))
        have f102 := OA.keep K101q (ninS (Ne.symm m1) (ninS m3 (ninS m4 nin0)))
        have f103 := OB.keep K101q (ninS (Ne.symm m2) (ninS m5 (ninS m6 nin0)))
        refine Wk.iinc k X101 d_IntMap_grow_69 rfl #[.val (.ref o), .val (.ref kA), .val (.ref vA), .val (.int ((Int32.ofNat i) + (1 : Int32)))] rfl 72 rfl ?_
        refine Wk.goto k X101 d_IntMap_grow_72 (by decide) 46 (by decide) ?_
        rw [own_inc32]
        exact ih (i + 1) (by omega) _ _ _ (by show own_Rep 16 _ _ (if _ then _ else _); rw [if_neg hc56]; exact R101) C101 (by omega) _ _ _ X101 (rfl : T101.heap = T101.heap) K101 N101 T101' f102 f103
theorem ef_grow (m : MethodId) (o : Addr) : entryFrame m #[(.ref o)] 4 = mkF m 0 #[.val (.ref o), .unset, .unset, .unset] [] := by first | (simp [entryFrame, mkF, argsToLocals, Value.category]; done) | rfl
set_option maxRecDepth 65536 in
set_option maxHeartbeats 40000000 in
theorem rm_grow (l : Launch) (Z : State) (a0 : Array Value) (hw : ∀ d ∈ tables_1, d.before a0 Z = true) (o : Addr) (kA vA : Addr) (sz : Nat) (ks vs : List Int32) (M : Int32 → Int32) (h0 : Heap) (n0 : Nat) (Z0 : n0 ≤ h0.size) (hrep : own_Rep 8 ks vs M) (T1 : own_Tab Z h0 n0 o kA vA sz ks vs) : Wk.Met l (⟨"com/example/sensebid/sensebid/IntMap", "grow", "()V"⟩ : MethodName) prog_32_method_9_code 4 none ({ frames := 3, cells := 2, slots := 32, locals := 46 } : Room) #[(.ref o)] Z h0 (fun r h L => r = none ∧ Fr n0 L ∧ Keep h0 h [o] ∧ ∃ (kB vB : Addr) (sq : Nat) (js us : List Int32), own_Tab Z h n0 o kB vB sq js us ∧ own_Rep 16 js us M ∧ own_cnt js = sq ∧ sq ≤ 8) [] := by
  refine Wk.enter pn_IntMap_grow (fun p e s m below meth c T0 k X0 e0 => ?_)
  refine (Wk.Ends.cast (ef_grow m o) ?_)
  obtain ⟨TE, TK, TV, TS, TA, TB, n1, n2, n3, g1, g2, g3⟩ := T1
  refine Wk.aload_n k X0 d_IntMap_grow_0 rfl rfl 1 rfl ?_
  refine Wk.getfield k X0 d_IntMap_grow_1 (host := "") (Or.inl (Wk.w hw 15 rfl)) Via.refl e0 TK 4 rfl fun T101 X101 e101 => ?_
  refine Wk.astore_n k X101 d_IntMap_grow_4 rfl #[.val (.ref o), .val (.ref kA), .unset, .unset] rfl 5 rfl ?_
  refine Wk.aload_n k X101 d_IntMap_grow_5 rfl rfl 6 rfl ?_
  refine Wk.getfield k X101 d_IntMap_grow_6 (host := "") (Or.inl (Wk.w hw 17 rfl)) Via.refl e101 TV 9 rfl fun T102 X102 e102 => ?_
  refine Wk.astore_n k X102 d_IntMap_grow_9 rfl #[.val (.ref o), .val (.ref kA), .val (.ref vA), .unset] rfl 10 rfl ?_
  refine Wk.aload_n k X102 d_IntMap_grow_10 rfl rfl 11 rfl ?_
  refine Wk.iconst k X102 d_IntMap_grow_11 (2 : Int32) rfl 12 rfl ?_
  refine Wk.aload_n k X102 d_IntMap_grow_12 rfl rfl 13 rfl ?_
  refine Wk.arraylength k X102 d_IntMap_grow_13 e102 TA (Int32.ofNat 8) (by rw [own_len hrep.1]; exact own_oN (by omega)) 14 rfl ?_
  refine Wk.imul k X102 d_IntMap_grow_14 15 rfl ?_
  refine Wk.newarray k X102 d_IntMap_grow_15 (Wk.w hw 1 rfl) e102 16 (by decide) 16 (by decide) (by decide) (by decide) (by decide) 17 rfl fun T103 h103 kB q103 X103 e103 E103 A103 => ?_
  have g103 : n0 ≤ kB := by rw [q103]; exact Z0
  have hs104 : h0.size ≤ kB := by rw [q103]; exact (Keep.refl h0 [o]).1
  have ne105 : o ≠ kB := by rw [q103]; exact Nat.ne_of_lt TE.lt
  have ne106 : kA ≠ kB := by rw [q103]; exact Nat.ne_of_lt TA.lt
  have ne107 : vA ≠ kB := by rw [q103]; exact Nat.ne_of_lt TB.lt
  have sz103 := Nat.le_trans Z0 E103.1
  have K108 := (Keep.refl h0 [o]).ext E103
  have f109 := Exa.ext E103 TE
  have f110 := Fld.ext E103 TK
  have f111 := Fld.ext E103 TV
  have f112 := Fld.ext E103 TS
  have f113 := TA.ext E103
  have f114 := TB.ext E103
  have A103' : Wk.Arl Z h103 kB .int (((List.replicate 16 (0 : Int32)) : List Int32).map Value.int) := by rw [List.map_replicate]; exact A103
  refine Wk.putfield k X103 d_IntMap_grow_17 (host := "") (Or.inl (Wk.w hw 15 rfl)) Via.refl e103 f110 f109 (Or.inl (Wk.w hw 16 rfl)) (Wk.w hw 7 rfl) (ty := (.array .int)) (by decide) rfl rfl 20 rfl fun T115 h115 X115 e115 W115 => ?_
  have sz115 : n0 ≤ h115.size := by rw [W115.size]; exact sz103
  have N116 := Fr.snoc X115 (Fr.nil n0) g1
  have K117 := K108.wr W115 (Or.inl (List.mem_of_getElem? (i := 0) rfl))
  have f118 := Exa.wr W115 f109
  have f119 := Fld.other W115 f111 (Or.inr (slot_ne (Or.inl (Wk.w hw 18 rfl)) (Or.inl (Wk.w hw 16 rfl)) (by decide) (t := (.array .int)) (t' := (.array .int)) (by decide) (by decide)))
  have f120 := Fld.other W115 f112 (Or.inr (slot_ne (Or.inl (Wk.w hw 37 rfl)) (Or.inl (Wk.w hw 16 rfl)) (by decide) (t := .int) (t' := (.array .int)) (by decide) (by decide)))
  have f121 := f113.other W115 (Ne.symm n1)
  have f122 := f114.other W115 (Ne.symm n2)
  have f123 := A103'.other W115 (Ne.symm ne105)
  have f124 := Fld.same W115 f110
  refine Wk.aload_n k X115 d_IntMap_grow_20 rfl rfl 21 rfl ?_
  refine Wk.aload_n k X115 d_IntMap_grow_21 rfl rfl 22 rfl ?_
  refine Wk.getfield k X115 d_IntMap_grow_22 (host := "") (Or.inl (Wk.w hw 15 rfl)) Via.refl e115 f124 25 rfl fun T125 X125 e125 => ?_
  refine Wk.arraylength k X125 d_IntMap_grow_25 e125 f123 (Int32.ofNat 16) (by rw [List.length_map, List.length_replicate]; rfl) 26 rfl ?_
  refine Wk.newarray k X125 d_IntMap_grow_26 (Wk.w hw 1 rfl) e125 16 (by decide) 16 (by decide) (by decide) (by decide) (by decide) 28 rfl fun T126 h126 vB q126 X126 e126 E126 A126 => ?_
  have g126 : n0 ≤ vB := by rw [q126]; exact sz115
  have hs127 : h0.size ≤ vB := by rw [q126]; exact K117.1
  have ne128 : o ≠ vB := by rw [q126]; exact Nat.ne_of_lt f118.lt
  have ne129 : kA ≠ vB := by rw [q126]; exact Nat.ne_of_lt f121.lt
  have ne130 : vA ≠ vB := by rw [q126]; exact Nat.ne_of_lt f122.lt
  have ne131 : kB ≠ vB := by rw [q126]; exact Nat.ne_of_lt f123.lt
  have sz126 := Nat.le_trans sz115 E126.1
  have K132 := K117.ext E126
  have f133 := Exa.ext E126 f118
  have f134 := Fld.ext E126 f124
  have f135 := Fld.ext E126 f119
  have f136 := Fld.ext E126 f120
  have f137 := f121.ext E126
  have f138 := f122.ext E126
  have f139 := f123.ext E126
  have A126' : Wk.Arl Z h126 vB .int (((List.replicate 16 (0 : Int32)) : List Int32).map Value.int) := by rw [List.map_replicate]; exact A126
  refine Wk.putfield k X126 d_IntMap_grow_28 (host := "") (Or.inl (Wk.w hw 17 rfl)) Via.refl e126 f135 f133 (Or.inl (Wk.w hw 18 rfl)) (Wk.w hw 7 rfl) (ty := (.array .int)) (by decide) rfl rfl 31 rfl fun T140 h140 X140 e140 W140 => ?_
  have sz140 : n0 ≤ h140.size := by rw [W140.size]; exact sz126
  have N141 := Fr.snoc X140 N116 g1
  have K142 := K132.wr W140 (Or.inl (List.mem_of_getElem? (i := 0) rfl))
  have f143 := Exa.wr W140 f133
  have f144 := Fld.other W140 f134 (Or.inr (slot_ne (Or.inl (Wk.w hw 16 rfl)) (Or.inl (Wk.w hw 18 rfl)) (by decide) (t := (.array .int)) (t' := (.array .int)) (by decide) (by decide)))
  have f145 := Fld.other W140 f136 (Or.inr (slot_ne (Or.inl (Wk.w hw 37 rfl)) (Or.inl (Wk.w hw 18 rfl)) (by decide) (t := .int) (t' := (.array .int)) (by decide) (by decide)))
  have f146 := f137.other W140 (Ne.symm n1)
  have f147 := f138.other W140 (Ne.symm n2)
  have f148 := f139.other W140 (Ne.symm ne105)
  have f149 := A126'.other W140 (Ne.symm ne128)
  have f150 := Fld.same W140 f135
  refine Wk.aload_n k X140 d_IntMap_grow_31 rfl rfl 32 rfl ?_
  refine Wk.getfield k X140 d_IntMap_grow_32 (host := "") (Or.inl (Wk.w hw 15 rfl)) Via.refl e140 f144 35 rfl fun T151 X151 e151 => ?_
  refine Wk.iconst k X151 d_IntMap_grow_35 (-1 : Int32) rfl 36 rfl ?_
  refine Wk.callS k X151 [(.ref kB), (.int (-1 : Int32))] [] d_IntMap_grow_36 (rm_fill l Z a0 hw kB (-1 : Int32) _ h140 n0 (by simp) g103 f148) e151 (Wk.w hw 19 rfl) (Wk.w hw 20 rfl) (Wk.w hw 21 rfl) (Wk.w hw 22 rfl) (by decide) rfl pd_Arrays_fill rfl rfl (Nat.le_of_ble_eq_true rfl) (Nat.le_of_ble_eq_true rfl) (Nat.le_of_ble_eq_true rfl) (Nat.le_of_ble_eq_true rfl) 39 rfl fun T152 v152 L152 X152 hQ152 => ?_
  obtain ⟨rfl, N152q, K152q, A152⟩ := hQ152
  show Wk.Ends _ _ _ _ _ _ _ (mkF m 39 _ [])
  have N152 := Fr.app N141 N152q
  have K153 := K142.trans K152q (allS (Or.inr hs104) all0)
  have f154 := f143.keep K152q
  have f155 := f144.keep K152q (ninS ne105 nin0)
  have f156 := f150.keep K152q (ninS ne105 nin0)
  have f157 := f145.keep K152q (ninS ne105 nin0)
  have f158 := f146.keep K152q (ninS ne106 nin0)
  have f159 := f147.keep K152q (ninS ne107 nin0)
  have f160 := f149.keep K152q (ninS (Ne.symm ne131) nin0)
  have sz152 := Nat.le_trans sz140 K152q.1
  refine Wk.aload_n k X152 d_IntMap_grow_39 rfl rfl 40 rfl ?_
  refine Wk.iconst k X152 d_IntMap_grow_40 (0 : Int32) rfl 41 rfl ?_
  refine Wk.putfield k X152 d_IntMap_grow_41 (host := "") (Or.inl (Wk.w hw 36 rfl)) Via.refl (rfl : T152.heap = T152.heap) f157 f154 (Or.inl (Wk.w hw 37 rfl)) (Wk.w hw 7 rfl) (ty := .int) (by decide) rfl rfl 44 rfl fun T161 h161 X161 e161 W161 => ?_
  have sz161 : n0 ≤ h161.size := by rw [W161.size]; exact sz152
  have N162 := Fr.snoc X161 N152 g1
  have K163 := K153.wr W161 (Or.inl (List.mem_of_getElem? (i := 0) rfl))
  have f164 := Exa.wr W161 f154
  have f165 := Fld.other W161 f155 (Or.inr (slot_ne (Or.inl (Wk.w hw 16 rfl)) (Or.inl (Wk.w hw 37 rfl)) (by decide) (t := (.array .int)) (t' := .int) (by decide) (by decide)))
  have f166 := Fld.other W161 f156 (Or.inr (slot_ne (Or.inl (Wk.w hw 18 rfl)) (Or.inl (Wk.w hw 37 rfl)) (by decide) (t := (.array .int)) (t' := .int) (by decide) (by decide)))
  have f167 := f158.other W161 (Ne.symm n1)
  have f168 := f159.other W161 (Ne.symm n2)
  have f169 := f160.other W161 (Ne.symm ne128)
  have f170 := A152.other W161 (Ne.symm ne105)
  have f171 := Fld.same W161 f157
  refine Wk.iconst k X161 d_IntMap_grow_44 (0 : Int32) rfl 45 rfl ?_
  refine Wk.istore_n k X161 d_IntMap_grow_45 #[.val (.ref o), .val (.ref kA), .val (.ref vA), .val (.int (0 : Int32))] rfl 46 rfl ?_
  exact grow_46 hw k o kA vA kB vB ks vs M hrep n1 n2 ne106 ne129 ne107 ne130 hs104 hs127 8 0 (by omega) _ _ _ (own_rep0 (Or.inr rfl)) (own_cnt0 16) (by omega) _ _ _ X161 e161 K163 N162 ⟨f164, f165, f166, f171, f170, f169, ne105, ne128, ne131, g1, g103, g126⟩ f167 f168
set_option maxRecDepth 65536 in
set_option maxHeartbeats 40000000 in
theorem rm_putG (l : Launch) (Z : State) (a0 : Array Value) (hw : ∀ d ∈ tables_1, d.before a0 Z = true) (o : Addr) (key v : Int32) (kA vA : Addr) (cp sz : Nat) (ks vs : List Int32) (M : Int32 → Int32) (h0 : Heap) (n0 : Nat) (hcp8 : cp = 8) (hkey : key ≠ -1) (hrep : own_Rep cp ks vs M) (hcnt : own_cnt ks = sz) (T1 : own_Tab Z h0 n0 o kA vA sz ks vs) (Z0 : n0 ≤ h0.size) (hsz6 : sz ≤ 6) : Wk.Met l (⟨"com/example/sensebid/sensebid/IntMap", "put", "(II)V"⟩ : MethodName) prog_32_method_6_code 4 none ({ frames := 4, cells := 2, slots := 32, locals := 62 } : Room) #[(.ref o), (.int key), (.int v)] Z h0 (fun r h L => r = none ∧ Fr n0 L ∧ Keep h0 h [o, kA, vA] ∧ ∃ (kB vB : Addr) (cq sq : Nat) (ks' vs' : List Int32), (cq = 8 ∨ cq = 16) ∧ own_Tab Z h n0 o kB vB sq ks' vs' ∧ own_Rep cq ks' vs' (own_upd M key v) ∧ own_cnt ks' = sq ∧ sq < cq) [] := by
  refine Wk.enter pn_IntMap_put (fun p e s m below meth c T0 k X0 e0 => ?_)
  refine (Wk.Ends.cast (ef_put m o key v) ?_)
  have hcp : cp = 8 ∨ cp = 16 := Or.inl hcp8
  have h16 : cp = 16 → ¬ v = 0 := fun z => by omega
  have T1' := T1
  obtain ⟨TE, TK, TV, TS, TA, TB, n1, n2, n3, g1, g2, g3⟩ := T1'
  have hkl := hrep.1
  have hvl := hrep.2.1
  have hfree : ∃ fe, fe < cp ∧ ks.getD fe 0 = -1 := by rw [← hkl]; exact own_free (by omega)
  have hP : ∀ {sl : Nat}, ks.getD sl 0 = key → ks.getD sl 0 = key := fun z => z
  refine Wk.aload_n k X0 d_IntMap_put_0 rfl rfl 1 rfl ?_
  refine Wk.iload_n k X0 d_IntMap_put_1 rfl 2 rfl ?_
  refine Wk.callP k X0 [(.int key)] [] d_IntMap_put_2 (rm_find l Z a0 hw o key kA cp ks h0 hcp hrep.1 hfree TK TA) e0 TE (Wk.w hw 28 rfl) (Wk.w hw 30 rfl) (Wk.w hw 7 rfl) (Wk.w hw 29 rfl) (Wk.w hw 8 rfl) (Wk.w hw 31 rfl) (by decide) rfl pd_IntMap_find rfl rfl (Nat.le_of_ble_eq_true rfl) (Nat.le_of_ble_eq_true rfl) (Nat.le_of_ble_eq_true rfl) (Nat.le_of_ble_eq_true rfl) 5 rfl fun T101 v101 L101 X101 hQ101 => ?_
  obtain ⟨sl, hsl, rfl, hseen, hor, e101, rfl⟩ := hQ101
  rw [List.append_nil] at X101
  show Wk.Ends _ _ _ _ _ _ _ (mkF m 5 _ [(.int (Int32.ofNat sl))])
  refine Wk.istore_n k X101 d_IntMap_put_5 #[.val (.ref o), .val (.int key), .val (.int v), .val (.int (Int32.ofNat sl))] rfl 6 rfl ?_
  refine Wk.aload_n k X101 d_IntMap_put_6 rfl rfl 7 rfl ?_
  refine Wk.getfield k X101 d_IntMap_put_7 (host := "") (Or.inl (Wk.w hw 15 rfl)) Via.refl e101 TK 10 rfl fun T102 X102 e102 => ?_
  refine Wk.iload_n k X102 d_IntMap_put_10 rfl 11 rfl ?_
  refine Wk.iaload k X102 d_IntMap_put_11 e102 TA sl (own_oN (by omega)) (ks.getD sl 0) (own_gD (by omega)) 12 rfl ?_
  refine Wk.iload_n k X102 d_IntMap_put_12 rfl 13 rfl ?_
  refine Wk.icmp_ne k X102 d_IntMap_put_13 (by decide) 38 16 (by decide) rfl (fun hc13 => ?_) (fun hc13 => ?_)
  · refine Wk.iload_n k X102 d_IntMap_put_38 rfl 39 rfl ?_
    refine Wk.if_eq k X102 d_IntMap_put_39 (by decide) 86 42 (by decide) rfl (fun hc39 => ?_) (fun hc39 => ?_)
    · refine Wk.ret_void k X102 rfl d_IntMap_put_86 (by decide) (by decide) ?_
      rw [e102]
      subst hc39
      exact ⟨rfl, (Fr.nil n0), (Keep.refl h0 [o, kA, vA]), kA, vA, cp, sz, ks, vs, hcp, ⟨TE, TK, TV, TS, TA, TB, n1, n2, n3, g1, g2, g3⟩, own_put_none hrep (own_absent hcp hrep hkey hsl hseen (hor.resolve_left hc13)).2, hcnt, by omega⟩
    · have hfree1 := hor.resolve_left hc13
      refine Wk.aload_n k X102 d_IntMap_put_42 rfl rfl 43 rfl ?_
      refine Wk.getfield k X102 d_IntMap_put_43 (host := "") (Or.inl (Wk.w hw 15 rfl)) Via.refl e102 TK 46 rfl fun T103 X103 e103 => ?_
      refine Wk.iload_n k X103 d_IntMap_put_46 rfl 47 rfl ?_
      refine Wk.iload_n k X103 d_IntMap_put_47 rfl 48 rfl ?_
      refine Wk.iastore k X103 (x := key) d_IntMap_put_48 e103 TA sl (own_oN (by omega)) (by omega) 49 rfl fun T104 h104 X104 e104 W104 A104 => ?_
      have sz104 : n0 ≤ h104.size := by rw [W104.size]; exact Z0
      have N105 := Fr.snoc X104 (Fr.nil n0) g2
      have K106 := (Keep.refl h0 [o, kA, vA]).wr W104 (Or.inl (List.mem_of_getElem? (i := 1) rfl))
      have f107 := Exa.wr W104 TE
      have f108 := Fld.other W104 TK (Or.inl n1)
      have f109 := Fld.other W104 TV (Or.inl n1)
      have f110 := Fld.other W104 TS (Or.inl n1)
      have f111 := TB.other W104 (Ne.symm n3)
      refine Wk.aload_n k X104 d_IntMap_put_49 rfl rfl 50 rfl ?_
      refine Wk.getfield k X104 d_IntMap_put_50 (host := "") (Or.inl (Wk.w hw 17 rfl)) Via.refl e104 f109 53 rfl fun T112 X112 e112 => ?_
      refine Wk.iload_n k X112 d_IntMap_put_53 rfl 54 rfl ?_
      refine Wk.iload_n k X112 d_IntMap_put_54 rfl 55 rfl ?_
      refine Wk.iastore k X112 (x := v) d_IntMap_put_55 e112 f111 sl (own_oN (by omega)) (by omega) 56 rfl fun T113 h113 X113 e113 W113 A113 => ?_
      have sz113 : n0 ≤ h113.size := by rw [W113.size]; exact sz104
      have N114 := Fr.snoc X113 N105 g3
      have K115 := K106.wr W113 (Or.inl (List.mem_of_getElem? (i := 2) rfl))
      have f116 := Exa.wr W113 f107
      have f117 := Fld.other W113 f108 (Or.inl n2)
      have f118 := Fld.other W113 f109 (Or.inl n2)
      have f119 := Fld.other W113 f110 (Or.inl n2)
      have f120 := A104.other W113 n3
      refine Wk.aload_n k X113 d_IntMap_put_56 rfl rfl 57 rfl ?_
      refine Wk.dup k X113 d_IntMap_put_57 rfl 58 rfl ?_
      refine Wk.getfield k X113 d_IntMap_put_58 (host := "") (Or.inl (Wk.w hw 36 rfl)) Via.refl e113 f119 61 rfl fun T121 X121 e121 => ?_
      refine Wk.iconst k X121 d_IntMap_put_61 (1 : Int32) rfl 62 rfl ?_
      refine Wk.iadd k X121 d_IntMap_put_62 63 rfl ?_
      refine Wk.putfield k X121 d_IntMap_put_63 (host := "") (Or.inl (Wk.w hw 36 rfl)) Via.refl e121 f119 f116 (Or.inl (Wk.w hw 37 rfl)) (Wk.w hw 7 rfl) (ty := .int) (by decide) rfl rfl 66 rfl fun T122 h122 X122 e122 W122 => ?_
      have sz122 : n0 ≤ h122.size := by rw [W122.size]; exact sz113
      have N123 := Fr.snoc X122 N114 g1
      have K124 := K115.wr W122 (Or.inl (List.mem_of_getElem? (i := 0) rfl))
      have f125 := Exa.wr W122 f116
      have f126 := Fld.other W122 f117 (Or.inr (slot_ne (Or.inl (Wk.w hw 16 rfl)) (Or.inl (Wk.w hw 37 rfl)) (by decide) (t := (.array .int)) (t' := .int) (by decide) (by decide)))
      have f127 := Fld.other W122 f118 (Or.inr (slot_ne (Or.inl (Wk.w hw 18 rfl)) (Or.inl (Wk.w hw 37 rfl)) (by decide) (t := (.array .int)) (t' := .int) (by decide) (by decide)))
      have f128 := f120.other W122 (Ne.symm n1)
      have f129 := A113.other W122 (Ne.symm n2)
      have f130 := Fld.same W122 f119
      refine Wk.iconst k X122 d_IntMap_put_66 (4 : Int32) rfl 67 rfl ?_
      refine Wk.aload_n k X122 d_IntMap_put_67 rfl rfl 68 rfl ?_
      refine Wk.getfield k X122 d_IntMap_put_68 (host := "") (Or.inl (Wk.w hw 36 rfl)) Via.refl e122 f130 71 rfl fun T131 X131 e131 => ?_
      refine Wk.imul k X131 d_IntMap_put_71 72 rfl ?_
      refine Wk.iconst k X131 d_IntMap_put_72 (3 : Int32) rfl 73 rfl ?_
      refine Wk.aload_n k X131 d_IntMap_put_73 rfl rfl 74 rfl ?_
      refine Wk.getfield k X131 d_IntMap_put_74 (host := "") (Or.inl (Wk.w hw 15 rfl)) Via.refl e131 f126 77 rfl fun T132 X132 e132 => ?_
      refine Wk.arraylength k X132 d_IntMap_put_77 e132 f128 (Int32.ofNat cp) (by rw [List.length_map, List.length_set, hrep.1]; exact own_oN (by omega)) 78 rfl ?_
      refine Wk.imul k X132 d_IntMap_put_78 79 rfl ?_
      refine Wk.icmp_le k X132 d_IntMap_put_79 (by decide) 86 82 (by decide) rfl (fun hc79 => ?_) (fun hc79 => ?_)
      · refine Wk.ret_void k X132 rfl d_IntMap_put_86 (by decide) (by decide) ?_
        rw [e132]
        exact ⟨rfl, N123, K124, kA, vA, cp, sz + 1, _, _, hcp, ⟨f125, f126, f127, by rw [← own_inc32]; exact f130, f128, f129, n1, n2, n3, g1, g2, g3⟩, own_put_new hcp hrep hkey hc39 hsl hseen hfree1, own_cn hrep.1 hsl hkey hfree1 hcnt, by omega⟩
      · refine Wk.aload_n k X132 d_IntMap_put_82 rfl rfl 83 rfl ?_
        obtain rfl : cp = 8 := hcp8
        refine Wk.callP k X132 [] [] d_IntMap_put_83 (rm_grow l Z a0 hw o kA vA (sz + 1) _ _ _ h122 n0 sz122 (own_put_new hcp hrep hkey hc39 hsl hseen hfree1) ⟨f125, f126, f127, by rw [← own_inc32]; exact f130, f128, f129, n1, n2, n3, g1, g2, g3⟩) e132 f125 (Wk.w hw 50 rfl) (Wk.w hw 52 rfl) (Wk.w hw 7 rfl) (Wk.w hw 51 rfl) (Wk.w hw 8 rfl) (Wk.w hw 53 rfl) (by decide) rfl pd_IntMap_grow rfl rfl (Nat.le_of_ble_eq_true rfl) (Nat.le_of_ble_eq_true rfl) (Nat.le_of_ble_eq_true rfl) (Nat.le_of_ble_eq_true rfl) 86 rfl fun T133 v133 L133 X133 hQ133 => ?_
        obtain ⟨rfl, N133q, K133q, kB, vB, sq, ks', vs', T133', R133, C133, hsq⟩ := hQ133
        show Wk.Ends _ _ _ _ _ _ _ (mkF m 86 _ [])
        have N133 := Fr.app N123 N133q
        have K133 := K124.trans K133q (allS (Or.inl (List.mem_of_getElem? (i := 0) rfl)) all0)
        refine Wk.ret_void k X133 rfl d_IntMap_put_86 (by decide) (by decide) ?_
        exact ⟨rfl, N133, K133, kB, vB, 16, _, ks', vs', Or.inr rfl, T133', R133, C133, by omega⟩
  · refine Wk.iload_n k X102 d_IntMap_put_16 rfl 17 rfl ?_
    refine Wk.if_eq k X102 d_IntMap_put_17 (by decide) 30 20 (by decide) rfl (fun hc17 => ?_) (fun hc17 => ?_)
    · refine Wk.aload_n k X102 d_IntMap_put_30 rfl rfl 31 rfl ?_
      refine Wk.iload_n k X102 d_IntMap_put_31 rfl 32 rfl ?_
      obtain rfl : cp = 8 := hcp.resolve_right (fun z => h16 z hc17)
      refine Wk.callP k X102 [(.int (Int32.ofNat sl))] [] d_IntMap_put_32 (rm_rem l Z a0 hw o kA vA sl sz ks vs M key h0 n0 (by omega) hsl hkey (hP hc13) hrep hcnt T1) e102 TE (Wk.w hw 46 rfl) (Wk.w hw 48 rfl) (Wk.w hw 7 rfl) (Wk.w hw 47 rfl) (Wk.w hw 8 rfl) (Wk.w hw 49 rfl) (by decide) rfl pd_IntMap_remove rfl rfl (Nat.le_of_ble_eq_true rfl) (Nat.le_of_ble_eq_true rfl) (Nat.le_of_ble_eq_true rfl) (Nat.le_of_ble_eq_true rfl) 35 rfl fun T134 v134 L134 X134 hQ134 => ?_
      obtain ⟨rfl, N134, K134, ks', vs', T134', R134, C134⟩ := hQ134
      show Wk.Ends _ _ _ _ _ _ _ (mkF m 35 _ [])
      refine Wk.goto k X134 d_IntMap_put_35 (by decide) 86 (by decide) ?_
      refine Wk.ret_void k X134 rfl d_IntMap_put_86 (by decide) (by decide) ?_
      subst hc17
      exact ⟨rfl, N134, K134, kA, vA, 8, sz - 1, ks', vs', Or.inl rfl, T134', R134, C134, by omega⟩
    · refine Wk.aload_n k X102 d_IntMap_put_20 rfl rfl 21 rfl ?_
      refine Wk.getfield k X102 d_IntMap_put_21 (host := "") (Or.inl (Wk.w hw 17 rfl)) Via.refl e102 TV 24 rfl fun T135 X135 e135 => ?_
      refine Wk.iload_n k X135 d_IntMap_put_24 rfl 25 rfl ?_
      refine Wk.iload_n k X135 d_IntMap_put_25 rfl 26 rfl ?_
      refine Wk.iastore k X135 (x := v) d_IntMap_put_26 e135 TB sl (own_oN (by omega)) (by omega) 27 rfl fun T136 h136 X136 e136 W136 A136 => ?_
      have sz136 : n0 ≤ h136.size := by rw [W136.size]; exact Z0
      have N137 := Fr.snoc X136 (Fr.nil n0) g3
      have K138 := (Keep.refl h0 [o, kA, vA]).wr W136 (Or.inl (List.mem_of_getElem? (i := 2) rfl))
      have f139 := Exa.wr W136 TE
      have f140 := Fld.other W136 TK (Or.inl n2)
      have f141 := Fld.other W136 TV (Or.inl n2)
      have f142 := Fld.other W136 TS (Or.inl n2)
      have f143 := TA.other W136 n3
      refine Wk.goto k X136 d_IntMap_put_27 (by decide) 86 (by decide) ?_
      refine Wk.ret_void k X136 rfl d_IntMap_put_86 (by decide) (by decide) ?_
      rw [e136]
      exact ⟨rfl, N137, K138, kA, vA, cp, sz, ks, _, hcp, ⟨f139, f140, f141, f142, f143, A136, n1, n2, n3, g1, g2, g3⟩, own_put_old hrep hkey hc17 hsl hc13, hcnt, by omega⟩

theorem d_IntMap_init_0 : decode prog_32_method_1_code 0 = .ok (.aload_n 0, 1) := by decide +kernel
theorem d_IntMap_init_1 : decode prog_32_method_1_code 1 = .ok (.invokespecial 1, 3) := by decide +kernel
theorem d_IntMap_init_4 : decode prog_32_method_1_code 4 = .ok (.aload_n 0, 1) := by decide +kernel
theorem d_IntMap_init_5 : decode prog_32_method_1_code 5 = .ok (.bipush 8, 2) := by decide +kernel
theorem d_IntMap_init_7 : decode prog_32_method_1_code 7 = .ok (.newarray .int, 2) := by decide +kernel
theorem d_IntMap_init_9 : decode prog_32_method_1_code 9 = .ok (.putfield 7, 3) := by decide +kernel
theorem d_IntMap_init_12 : decode prog_32_method_1_code 12 = .ok (.aload_n 0, 1) := by decide +kernel
theorem d_IntMap_init_13 : decode prog_32_method_1_code 13 = .ok (.bipush 8, 2) := by decide +kernel
theorem d_IntMap_init_15 : decode prog_32_method_1_code 15 = .ok (.newarray .int, 2) := by decide +kernel
theorem d_IntMap_init_17 : decode prog_32_method_1_code 17 = .ok (.putfield 13, 3) := by decide +kernel
theorem d_IntMap_init_20 : decode prog_32_method_1_code 20 = .ok (.aload_n 0, 1) := by decide +kernel
theorem d_IntMap_init_21 : decode prog_32_method_1_code 21 = .ok (.getfield 7, 3) := by decide +kernel
theorem d_IntMap_init_24 : decode prog_32_method_1_code 24 = .ok (.iconst (-1), 1) := by decide +kernel
theorem d_IntMap_init_25 : decode prog_32_method_1_code 25 = .ok (.invokestatic 16, 3) := by decide +kernel
theorem d_IntMap_init_28 : decode prog_32_method_1_code 28 = .ok (.return_, 1) := by decide +kernel
theorem pn_IntMap_init : plainFor (⟨"com/example/sensebid/sensebid/IntMap", "<init>", "()V"⟩ : MethodName) = true := plainFor_of_name (by first | (simp [plainName, overriddenIn, x]; done) | decide +kernel)
theorem pd_IntMap_init : parseMethodDescriptor "()V" = some ⟨[], none⟩ := by decide +kernel
theorem ef_ini (m : MethodId) (o : Addr) : entryFrame m #[(.ref o)] 1 = mkF m 0 #[.val (.ref o)] [] := by first | (simp [entryFrame, mkF, argsToLocals, Value.category]; done) | rfl
set_option maxRecDepth 65536 in
set_option maxHeartbeats 40000000 in
theorem rm_ini (l : Launch) (Z : State) (a0 : Array Value) (hw : ∀ d ∈ tables_1, d.before a0 Z = true) (o : Addr) (u1 u2 : Value) (h0 : Heap) (n0 : Nat) (Z0 : n0 ≤ h0.size) (E0 : Exa Z h0 o "com/example/sensebid/sensebid/IntMap") (F0 : Fld Z h0 o "com/example/sensebid/sensebid/IntMap" "keys" "[I" u1) (F1 : Fld Z h0 o "com/example/sensebid/sensebid/IntMap" "values" "[I" u2) (F2 : Fld Z h0 o "com/example/sensebid/sensebid/IntMap" "size" "I" (.int (0 : Int32))) (g0 : n0 ≤ o) : Wk.Met l (⟨"com/example/sensebid/sensebid/IntMap", "<init>", "()V"⟩ : MethodName) prog_32_method_1_code 1 none ({ frames := 1, cells := 2, slots := 16, locals := 15 } : Room) #[(.ref o)] Z h0 (fun r h L => r = none ∧ Fr n0 L ∧ Keep h0 h [o] ∧ ∃ kA vA : Addr, h0.size ≤ kA ∧ h0.size ≤ vA ∧ own_Tab Z h n0 o kA vA 0 (List.replicate 8 (-1)) (List.replicate 8 0)) [] := by
  refine Wk.enter pn_IntMap_init (fun p e s m below meth c T0 k X0 e0 => ?_)
  refine (Wk.Ends.cast (ef_ini m o) ?_)
  refine Wk.aload_n k X0 d_IntMap_init_0 rfl rfl 1 rfl ?_
  refine Wk.initObj (W := 0) k X0 d_IntMap_init_1 (Wk.w hw 12 rfl) (Wk.w hw 13 rfl) (Wk.w hw 14 rfl) e0 rfl (Nat.le_of_ble_eq_true rfl) (Nat.le_of_ble_eq_true rfl) 4 rfl fun T1 X1 e1 => ?_
  refine Wk.aload_n k X1 d_IntMap_init_4 rfl rfl 5 rfl ?_
  refine Wk.bipush k X1 d_IntMap_init_5 (8 : Int32) rfl 7 rfl ?_
  refine Wk.newarray k X1 d_IntMap_init_7 (Wk.w hw 1 rfl) e1 8 rfl 8 (by decide) (by decide) (by decide) (by decide) 9 rfl fun T2 h2 kA q2 X2 e2 E2 A2 => ?_
  have g2 : n0 ≤ kA := by rw [q2]; exact Z0
  have hs3 : h0.size ≤ kA := by rw [q2]; exact (Keep.refl h0 [o]).1
  have ne4 : o ≠ kA := by rw [q2]; exact Nat.ne_of_lt E0.lt
  have sz2 := Nat.le_trans Z0 E2.1
  have K5 := (Keep.refl h0 [o]).ext E2
  have f6 := Exa.ext E2 E0
  have f7 := Fld.ext E2 F0
  have f8 := Fld.ext E2 F1
  have f9 := Fld.ext E2 F2
  have A2' : Wk.Arl Z h2 kA .int (([(0 : Int32), (0 : Int32), (0 : Int32), (0 : Int32), (0 : Int32), (0 : Int32), (0 : Int32), (0 : Int32)] : List Int32).map Value.int) := A2
  refine Wk.putfield k X2 d_IntMap_init_9 (host := "") (Or.inl (Wk.w hw 15 rfl)) Via.refl e2 f7 f6 (Or.inl (Wk.w hw 16 rfl)) (Wk.w hw 7 rfl) (ty := (.array .int)) (by decide) rfl rfl 12 rfl fun T10 h10 X10 e10 W10 => ?_
  have sz10 : n0 ≤ h10.size := by rw [W10.size]; exact sz2
  have N11 := Fr.snoc X10 (Fr.nil n0) g0
  have K12 := K5.wr W10 (Or.inl (List.mem_of_getElem? (i := 0) rfl))
  have f13 := Exa.wr W10 f6
  have f14 := Fld.other W10 f8 (Or.inr (slot_ne (Or.inl (Wk.w hw 18 rfl)) (Or.inl (Wk.w hw 16 rfl)) (by decide) (t := (.array .int)) (t' := (.array .int)) (by decide) (by decide)))
  have f15 := Fld.other W10 f9 (Or.inr (slot_ne (Or.inl (Wk.w hw 37 rfl)) (Or.inl (Wk.w hw 16 rfl)) (by decide) (t := .int) (t' := (.array .int)) (by decide) (by decide)))
  have f16 := A2'.other W10 (Ne.symm ne4)
  have f17 := Fld.same W10 f7
  refine Wk.aload_n k X10 d_IntMap_init_12 rfl rfl 13 rfl ?_
  refine Wk.bipush k X10 d_IntMap_init_13 (8 : Int32) rfl 15 rfl ?_
  refine Wk.newarray k X10 d_IntMap_init_15 (Wk.w hw 1 rfl) e10 8 rfl 8 (by decide) (by decide) (by decide) (by decide) 17 rfl fun T18 h18 vA q18 X18 e18 E18 A18 => ?_
  have g18 : n0 ≤ vA := by rw [q18]; exact sz10
  have hs19 : h0.size ≤ vA := by rw [q18]; exact K12.1
  have ne20 : o ≠ vA := by rw [q18]; exact Nat.ne_of_lt f13.lt
  have ne21 : kA ≠ vA := by rw [q18]; exact Nat.ne_of_lt f16.lt
  have sz18 := Nat.le_trans sz10 E18.1
  have K22 := K12.ext E18
  have f23 := Exa.ext E18 f13
  have f24 := Fld.ext E18 f17
  have f25 := Fld.ext E18 f14
  have f26 := Fld.ext E18 f15
  have f27 := f16.ext E18
  have A18' : Wk.Arl Z h18 vA .int (([(0 : Int32), (0 : Int32), (0 : Int32), (0 : Int32), (0 : Int32), (0 : Int32), (0 : Int32), (0 : Int32)] : List Int32).map Value.int) := A18
  refine Wk.putfield k X18 d_IntMap_init_17 (host := "") (Or.inl (Wk.w hw 17 rfl)) Via.refl e18 f25 f23 (Or.inl (Wk.w hw 18 rfl)) (Wk.w hw 7 rfl) (ty := (.array .int)) (by decide) rfl rfl 20 rfl fun T28 h28 X28 e28 W28 => ?_
  have sz28 : n0 ≤ h28.size := by rw [W28.size]; exact sz18
  have N29 := Fr.snoc X28 N11 g0
  have K30 := K22.wr W28 (Or.inl (List.mem_of_getElem? (i := 0) rfl))
  have f31 := Exa.wr W28 f23
  have f32 := Fld.other W28 f24 (Or.inr (slot_ne (Or.inl (Wk.w hw 16 rfl)) (Or.inl (Wk.w hw 18 rfl)) (by decide) (t := (.array .int)) (t' := (.array .int)) (by decide) (by decide)))
  have f33 := Fld.other W28 f26 (Or.inr (slot_ne (Or.inl (Wk.w hw 37 rfl)) (Or.inl (Wk.w hw 18 rfl)) (by decide) (t := .int) (t' := (.array .int)) (by decide) (by decide)))
  have f34 := f27.other W28 (Ne.symm ne4)
  have f35 := A18'.other W28 (Ne.symm ne20)
  have f36 := Fld.same W28 f25
  refine Wk.aload_n k X28 d_IntMap_init_20 rfl rfl 21 rfl ?_
  refine Wk.getfield k X28 d_IntMap_init_21 (host := "") (Or.inl (Wk.w hw 15 rfl)) Via.refl e28 f32 24 rfl fun T37 X37 e37 => ?_
  refine Wk.iconst k X37 d_IntMap_init_24 (-1 : Int32) rfl 25 rfl ?_
  refine Wk.callS k X37 [(.ref kA), (.int (-1 : Int32))] [] d_IntMap_init_25 (rm_fill l Z a0 hw kA (-1 : Int32) _ h28 n0 (by simp) g2 f34) e37 (Wk.w hw 19 rfl) (Wk.w hw 20 rfl) (Wk.w hw 21 rfl) (Wk.w hw 22 rfl) (by decide) rfl pd_Arrays_fill rfl rfl (Nat.le_of_ble_eq_true rfl) (Nat.le_of_ble_eq_true rfl) (Nat.le_of_ble_eq_true rfl) (Nat.le_of_ble_eq_true rfl) 28 rfl fun T38 v38 L38 X38 hQ38 => ?_
  obtain ⟨rfl, N38q, K38q, A38⟩ := hQ38
  show Wk.Ends _ _ _ _ _ _ _ (mkF m 28 _ [])
  have N38 := Fr.app N29 N38q
  have K39 := K30.trans K38q (allS (Or.inr hs3) all0)
  have f40 := f31.keep K38q
  have f41 := f32.keep K38q (ninS ne4 nin0)
  have f42 := f36.keep K38q (ninS ne4 nin0)
  have f43 := f33.keep K38q (ninS ne4 nin0)
  have f44 := f35.keep K38q (ninS (Ne.symm ne21) nin0)
  have sz38 := Nat.le_trans sz28 K38q.1
  refine Wk.ret_void k X38 rfl d_IntMap_init_28 (by decide) (by decide) ?_
  exact ⟨rfl, N38, K39, kA, vA, hs3, hs19, ⟨f40, f41, f42, f43, A38, f44, ne4, ne20, ne21, g0, g2, g18⟩⟩
theorem d_IntMap_holds_0 : decode prog_32_method_4_code 0 = .ok (.aload_n 0, 1) := by decide +kernel
theorem d_IntMap_holds_1 : decode prog_32_method_4_code 1 = .ok (.getfield 7, 3) := by decide +kernel
theorem d_IntMap_holds_4 : decode prog_32_method_4_code 4 = .ok (.aload_n 0, 1) := by decide +kernel
theorem d_IntMap_holds_5 : decode prog_32_method_4_code 5 = .ok (.iload_n 1, 1) := by decide +kernel
theorem d_IntMap_holds_6 : decode prog_32_method_4_code 6 = .ok (.invokevirtual 26, 3) := by decide +kernel
theorem d_IntMap_holds_9 : decode prog_32_method_4_code 9 = .ok (.iaload, 1) := by decide +kernel
theorem d_IntMap_holds_10 : decode prog_32_method_4_code 10 = .ok (.iload_n 1, 1) := by decide +kernel
theorem d_IntMap_holds_11 : decode prog_32_method_4_code 11 = .ok (.if_icmp .ne 7, 3) := by decide +kernel
theorem d_IntMap_holds_14 : decode prog_32_method_4_code 14 = .ok (.iconst 1, 1) := by decide +kernel
theorem d_IntMap_holds_15 : decode prog_32_method_4_code 15 = .ok (.goto 4, 3) := by decide +kernel
theorem d_IntMap_holds_18 : decode prog_32_method_4_code 18 = .ok (.iconst 0, 1) := by decide +kernel
theorem d_IntMap_holds_19 : decode prog_32_method_4_code 19 = .ok (.ireturn, 1) := by decide +kernel
theorem pn_IntMap_holds : plainFor (⟨"com/example/sensebid/sensebid/IntMap", "holds", "(I)Z"⟩ : MethodName) = true := plainFor_of_name (by first | (simp [plainName, overriddenIn, x]; done) | decide +kernel)
theorem pd_IntMap_holds : parseMethodDescriptor "(I)Z" = some ⟨[.int], (some .boolean)⟩ := by decide +kernel
theorem ef_ho (m : MethodId) (o : Addr) (key : Int32) : entryFrame m #[(.ref o), (.int key)] 2 = mkF m 0 #[.val (.ref o), .val (.int key)] [] := by first | (simp [entryFrame, mkF, argsToLocals, Value.category]; done) | rfl
set_option maxRecDepth 65536 in
set_option maxHeartbeats 40000000 in
theorem rm_ho (l : Launch) (Z : State) (a0 : Array Value) (hw : ∀ d ∈ tables_1, d.before a0 Z = true) (o : Addr) (key : Int32) (kA vA : Addr) (cp sz : Nat) (ks vs : List Int32) (M : Int32 → Int32) (h0 : Heap) (n0 : Nat) (hcp : cp = 8 ∨ cp = 16) (hkey : key ≠ -1) (hrep : own_Rep cp ks vs M) (hcnt : own_cnt ks = sz) (hsz : sz < cp) (T1 : own_Tab Z h0 n0 o kA vA sz ks vs) : Wk.Met l (⟨"com/example/sensebid/sensebid/IntMap", "holds", "(I)Z"⟩ : MethodName) prog_32_method_4_code 2 (some .boolean) ({ frames := 2, cells := 0, slots := 0, locals := 29 } : Room) #[(.ref o), (.int key)] Z h0 (fun r h L => r = some (.int (if M key = 0 then (0 : Int32) else 1)) ∧ h = h0 ∧ L = []) [] := by
  refine Wk.enter pn_IntMap_holds (fun p e s m below meth c T0 k X0 e0 => ?_)
  refine (Wk.Ends.cast (ef_ho m o key) ?_)
  obtain ⟨TE, TK, TV, TS, TA, TB, n1, n2, n3, g1, g2, g3⟩ := T1
  have hkl := hrep.1
  have hvl := hrep.2.1
  have hfree : ∃ fe, fe < cp ∧ ks.getD fe 0 = -1 := by rw [← hkl]; exact own_free (by omega)
  refine Wk.aload_n k X0 d_IntMap_holds_0 rfl rfl 1 rfl ?_
  refine Wk.getfield k X0 d_IntMap_holds_1 (host := "") (Or.inl (Wk.w hw 15 rfl)) Via.refl e0 TK 4 rfl fun T1 X1 e1 => ?_
  refine Wk.aload_n k X1 d_IntMap_holds_4 rfl rfl 5 rfl ?_
  refine Wk.iload_n k X1 d_IntMap_holds_5 rfl 6 rfl ?_
  refine Wk.callP k X1 [(.int key)] [(.ref kA)] d_IntMap_holds_6 (rm_find l Z a0 hw o key kA cp ks h0 hcp hrep.1 hfree TK TA) e1 TE (Wk.w hw 28 rfl) (Wk.w hw 30 rfl) (Wk.w hw 7 rfl) (Wk.w hw 29 rfl) (Wk.w hw 8 rfl) (Wk.w hw 31 rfl) (by decide) rfl pd_IntMap_find rfl rfl (Nat.le_of_ble_eq_true rfl) (Nat.le_of_ble_eq_true rfl) (Nat.le_of_ble_eq_true rfl) (Nat.le_of_ble_eq_true rfl) 9 rfl fun T2 v2 L2 X2 hQ2 => ?_
  obtain ⟨sl, hsl, rfl, hseen, hor, e2, rfl⟩ := hQ2
  rw [List.append_nil] at X2
  show Wk.Ends _ _ _ _ _ _ _ (mkF m 9 _ [(.int (Int32.ofNat sl)), (.ref kA)])
  refine Wk.iaload k X2 d_IntMap_holds_9 e2 TA sl (own_oN (by omega)) (ks.getD sl 0) (own_gD (by omega)) 10 rfl ?_
  refine Wk.iload_n k X2 d_IntMap_holds_10 rfl 11 rfl ?_
  refine Wk.icmp_ne k X2 d_IntMap_holds_11 (by decide) 18 14 (by decide) rfl (fun hc11 => ?_) (fun hc11 => ?_)
  · refine Wk.iconst k X2 d_IntMap_holds_18 (0 : Int32) rfl 19 rfl ?_
    exact Wk.ret_bool k X2 rfl d_IntMap_holds_19 (by decide) (by decide) (by decide) ⟨by rw [if_pos (own_absent hcp hrep hkey hsl hseen (hor.resolve_left hc11)).2], e2, rfl⟩
  · refine Wk.iconst k X2 d_IntMap_holds_14 (1 : Int32) rfl 15 rfl ?_
    refine Wk.goto k X2 d_IntMap_holds_15 (by decide) 19 (by decide) ?_
    exact Wk.ret_bool k X2 rfl d_IntMap_holds_19 (by decide) (by decide) (by decide) ⟨by rw [if_neg (own_get hrep hkey hsl hc11).2], e2, rfl⟩
theorem d_IntMapHoldsPinLaw_val_0 : decode method_3_code 0 = .ok (.iload_n 2, 1) := by decide +kernel
theorem d_IntMapHoldsPinLaw_val_1 : decode method_3_code 1 = .ok (.iconst 4, 1) := by decide +kernel
theorem d_IntMapHoldsPinLaw_val_2 : decode method_3_code 2 = .ok (.iconst 2, 1) := by decide +kernel
theorem d_IntMapHoldsPinLaw_val_3 : decode method_3_code 3 = .ok (.iload_n 3, 1) := by decide +kernel
theorem d_IntMapHoldsPinLaw_val_4 : decode method_3_code 4 = .ok (.imul, 1) := by decide +kernel
theorem d_IntMapHoldsPinLaw_val_5 : decode method_3_code 5 = .ok (.iadd, 1) := by decide +kernel
theorem d_IntMapHoldsPinLaw_val_6 : decode method_3_code 6 = .ok (.iushr, 1) := by decide +kernel
theorem d_IntMapHoldsPinLaw_val_7 : decode method_3_code 7 = .ok (.iconst 3, 1) := by decide +kernel
theorem d_IntMapHoldsPinLaw_val_8 : decode method_3_code 8 = .ok (.iand, 1) := by decide +kernel
theorem d_IntMapHoldsPinLaw_val_9 : decode method_3_code 9 = .ok (.iconst 3, 1) := by decide +kernel
theorem d_IntMapHoldsPinLaw_val_10 : decode method_3_code 10 = .ok (.if_icmp .ne 5, 3) := by decide +kernel
theorem d_IntMapHoldsPinLaw_val_13 : decode method_3_code 13 = .ok (.iconst 0, 1) := by decide +kernel
theorem d_IntMapHoldsPinLaw_val_14 : decode method_3_code 14 = .ok (.ireturn, 1) := by decide +kernel
theorem d_IntMapHoldsPinLaw_val_15 : decode method_3_code 15 = .ok (.lload_n 0, 1) := by decide +kernel
theorem d_IntMapHoldsPinLaw_val_16 : decode method_3_code 16 = .ok (.iconst 5, 1) := by decide +kernel
theorem d_IntMapHoldsPinLaw_val_17 : decode method_3_code 17 = .ok (.iload_n 3, 1) := by decide +kernel
theorem d_IntMapHoldsPinLaw_val_18 : decode method_3_code 18 = .ok (.imul, 1) := by decide +kernel
theorem d_IntMapHoldsPinLaw_val_19 : decode method_3_code 19 = .ok (.lushr, 1) := by decide +kernel
theorem d_IntMapHoldsPinLaw_val_20 : decode method_3_code 20 = .ok (.l2i, 1) := by decide +kernel
theorem d_IntMapHoldsPinLaw_val_21 : decode method_3_code 21 = .ok (.ireturn, 1) := by decide +kernel
theorem pn_IntMapHoldsPinLaw_val : plainFor (⟨"com/example/sensebid/sensebid/IntMapHoldsPinLaw", "val", "(JII)I"⟩ : MethodName) = true := plainFor_of_name (by first | (simp [plainName, overriddenIn, x]; done) | decide +kernel)
theorem pd_IntMapHoldsPinLaw_val : parseMethodDescriptor "(JII)I" = some ⟨[.long, .int, .int], (some .int)⟩ := by decide +kernel
theorem ef_val (m : MethodId) (q0 : Int64) (p2 p3 : Int32) : entryFrame m #[(.long q0), (.int p2), (.int p3)] 4 = mkF m 0 #[.val (.long q0), .second, .val (.int p2), .val (.int p3)] [] := by first | (simp [entryFrame, mkF, argsToLocals, Value.category]; done) | rfl
set_option maxRecDepth 65536 in
set_option maxHeartbeats 40000000 in
theorem rm_val (l : Launch) (Z : State) (a0 : Array Value) (hw : ∀ d ∈ tables_1, d.before a0 Z = true) (q0 : Int64) (p2 p3 : Int32) (h0 : Heap) : Wk.Met l (⟨"com/example/sensebid/sensebid/IntMapHoldsPinLaw", "val", "(JII)I"⟩ : MethodName) method_3_code 4 (some .int) ({ frames := 0, cells := 0, slots := 0, locals := 0 } : Room) #[(.long q0), (.int p2), (.int p3)] Z h0 (fun r h L => ∃ z : Int32, r = some (.int z) ∧ h = h0 ∧ L = []) [] := by
  refine Wk.enter pn_IntMapHoldsPinLaw_val (fun p e s m below meth c T0 k X0 e0 => ?_)
  refine (Wk.Ends.cast (ef_val m q0 p2 p3) ?_)
  refine Wk.iload_n k X0 d_IntMapHoldsPinLaw_val_0 rfl 1 rfl ?_
  refine Wk.iconst k X0 d_IntMapHoldsPinLaw_val_1 (4 : Int32) rfl 2 rfl ?_
  refine Wk.iconst k X0 d_IntMapHoldsPinLaw_val_2 (2 : Int32) rfl 3 rfl ?_
  refine Wk.iload_n k X0 d_IntMapHoldsPinLaw_val_3 rfl 4 rfl ?_
  refine Wk.imul k X0 d_IntMapHoldsPinLaw_val_4 5 rfl ?_
  refine Wk.iadd k X0 d_IntMapHoldsPinLaw_val_5 6 rfl ?_
  refine Wk.iushr k X0 d_IntMapHoldsPinLaw_val_6 7 rfl ?_
  refine Wk.iconst k X0 d_IntMapHoldsPinLaw_val_7 (3 : Int32) rfl 8 rfl ?_
  refine Wk.iand k X0 d_IntMapHoldsPinLaw_val_8 9 rfl ?_
  refine Wk.iconst k X0 d_IntMapHoldsPinLaw_val_9 (3 : Int32) rfl 10 rfl ?_
  refine Wk.icmp_ne k X0 d_IntMapHoldsPinLaw_val_10 (by decide) 15 13 (by decide) rfl (fun hc10 => ?_) (fun hc10 => ?_)
  · refine Wk.lload_n k X0 d_IntMapHoldsPinLaw_val_15 rfl 16 rfl ?_
    refine Wk.iconst k X0 d_IntMapHoldsPinLaw_val_16 (5 : Int32) rfl 17 rfl ?_
    refine Wk.iload_n k X0 d_IntMapHoldsPinLaw_val_17 rfl 18 rfl ?_
    refine Wk.imul k X0 d_IntMapHoldsPinLaw_val_18 19 rfl ?_
    refine Wk.lushr k X0 d_IntMapHoldsPinLaw_val_19 20 rfl ?_
    refine Wk.l2i k X0 d_IntMapHoldsPinLaw_val_20 21 rfl ?_
    exact Wk.ret_int k X0 rfl d_IntMapHoldsPinLaw_val_21 (by decide) (by decide) ⟨_, rfl, e0, rfl⟩
  · refine Wk.iconst k X0 d_IntMapHoldsPinLaw_val_13 (0 : Int32) rfl 14 rfl ?_
    exact Wk.ret_int k X0 rfl d_IntMapHoldsPinLaw_val_14 (by decide) (by decide) ⟨_, rfl, e0, rfl⟩
theorem d_IntMapHoldsPinLaw_expected_0 : decode method_4_code 0 = .ok (.aload_n 0, 1) := by decide +kernel
theorem d_IntMapHoldsPinLaw_expected_1 : decode method_4_code 1 = .ok (.bipush 6, 2) := by decide +kernel
theorem d_IntMapHoldsPinLaw_expected_3 : decode method_4_code 3 = .ok (.iaload, 1) := by decide +kernel
theorem d_IntMapHoldsPinLaw_expected_4 : decode method_4_code 4 = .ok (.iload_n 2, 1) := by decide +kernel
theorem d_IntMapHoldsPinLaw_expected_5 : decode method_4_code 5 = .ok (.if_icmp .ne 16, 3) := by decide +kernel
theorem d_IntMapHoldsPinLaw_expected_8 : decode method_4_code 8 = .ok (.aload_n 1, 1) := by decide +kernel
theorem d_IntMapHoldsPinLaw_expected_9 : decode method_4_code 9 = .ok (.bipush 6, 2) := by decide +kernel
theorem d_IntMapHoldsPinLaw_expected_11 : decode method_4_code 11 = .ok (.iaload, 1) := by decide +kernel
theorem d_IntMapHoldsPinLaw_expected_12 : decode method_4_code 12 = .ok (.ifCond .eq 7, 3) := by decide +kernel
theorem d_IntMapHoldsPinLaw_expected_15 : decode method_4_code 15 = .ok (.iconst 1, 1) := by decide +kernel
theorem d_IntMapHoldsPinLaw_expected_16 : decode method_4_code 16 = .ok (.goto 4, 3) := by decide +kernel
theorem d_IntMapHoldsPinLaw_expected_19 : decode method_4_code 19 = .ok (.iconst 0, 1) := by decide +kernel
theorem d_IntMapHoldsPinLaw_expected_20 : decode method_4_code 20 = .ok (.ireturn, 1) := by decide +kernel
theorem d_IntMapHoldsPinLaw_expected_21 : decode method_4_code 21 = .ok (.aload_n 0, 1) := by decide +kernel
theorem d_IntMapHoldsPinLaw_expected_22 : decode method_4_code 22 = .ok (.iconst 5, 1) := by decide +kernel
theorem d_IntMapHoldsPinLaw_expected_23 : decode method_4_code 23 = .ok (.iaload, 1) := by decide +kernel
theorem d_IntMapHoldsPinLaw_expected_24 : decode method_4_code 24 = .ok (.iload_n 2, 1) := by decide +kernel
theorem d_IntMapHoldsPinLaw_expected_25 : decode method_4_code 25 = .ok (.if_icmp .ne 15, 3) := by decide +kernel
theorem d_IntMapHoldsPinLaw_expected_28 : decode method_4_code 28 = .ok (.aload_n 1, 1) := by decide +kernel
theorem d_IntMapHoldsPinLaw_expected_29 : decode method_4_code 29 = .ok (.iconst 5, 1) := by decide +kernel
theorem d_IntMapHoldsPinLaw_expected_30 : decode method_4_code 30 = .ok (.iaload, 1) := by decide +kernel
theorem d_IntMapHoldsPinLaw_expected_31 : decode method_4_code 31 = .ok (.ifCond .eq 7, 3) := by decide +kernel
theorem d_IntMapHoldsPinLaw_expected_34 : decode method_4_code 34 = .ok (.iconst 1, 1) := by decide +kernel
theorem d_IntMapHoldsPinLaw_expected_35 : decode method_4_code 35 = .ok (.goto 4, 3) := by decide +kernel
theorem d_IntMapHoldsPinLaw_expected_38 : decode method_4_code 38 = .ok (.iconst 0, 1) := by decide +kernel
theorem d_IntMapHoldsPinLaw_expected_39 : decode method_4_code 39 = .ok (.ireturn, 1) := by decide +kernel
theorem d_IntMapHoldsPinLaw_expected_40 : decode method_4_code 40 = .ok (.aload_n 0, 1) := by decide +kernel
theorem d_IntMapHoldsPinLaw_expected_41 : decode method_4_code 41 = .ok (.iconst 4, 1) := by decide +kernel
theorem d_IntMapHoldsPinLaw_expected_42 : decode method_4_code 42 = .ok (.iaload, 1) := by decide +kernel
theorem d_IntMapHoldsPinLaw_expected_43 : decode method_4_code 43 = .ok (.iload_n 2, 1) := by decide +kernel
theorem d_IntMapHoldsPinLaw_expected_44 : decode method_4_code 44 = .ok (.if_icmp .ne 15, 3) := by decide +kernel
theorem d_IntMapHoldsPinLaw_expected_47 : decode method_4_code 47 = .ok (.aload_n 1, 1) := by decide +kernel
theorem d_IntMapHoldsPinLaw_expected_48 : decode method_4_code 48 = .ok (.iconst 4, 1) := by decide +kernel
theorem d_IntMapHoldsPinLaw_expected_49 : decode method_4_code 49 = .ok (.iaload, 1) := by decide +kernel
theorem d_IntMapHoldsPinLaw_expected_50 : decode method_4_code 50 = .ok (.ifCond .eq 7, 3) := by decide +kernel
theorem d_IntMapHoldsPinLaw_expected_53 : decode method_4_code 53 = .ok (.iconst 1, 1) := by decide +kernel
theorem d_IntMapHoldsPinLaw_expected_54 : decode method_4_code 54 = .ok (.goto 4, 3) := by decide +kernel
theorem d_IntMapHoldsPinLaw_expected_57 : decode method_4_code 57 = .ok (.iconst 0, 1) := by decide +kernel
theorem d_IntMapHoldsPinLaw_expected_58 : decode method_4_code 58 = .ok (.ireturn, 1) := by decide +kernel
theorem d_IntMapHoldsPinLaw_expected_59 : decode method_4_code 59 = .ok (.aload_n 0, 1) := by decide +kernel
theorem d_IntMapHoldsPinLaw_expected_60 : decode method_4_code 60 = .ok (.iconst 3, 1) := by decide +kernel
theorem d_IntMapHoldsPinLaw_expected_61 : decode method_4_code 61 = .ok (.iaload, 1) := by decide +kernel
theorem d_IntMapHoldsPinLaw_expected_62 : decode method_4_code 62 = .ok (.iload_n 2, 1) := by decide +kernel
theorem d_IntMapHoldsPinLaw_expected_63 : decode method_4_code 63 = .ok (.if_icmp .ne 15, 3) := by decide +kernel
theorem d_IntMapHoldsPinLaw_expected_66 : decode method_4_code 66 = .ok (.aload_n 1, 1) := by decide +kernel
theorem d_IntMapHoldsPinLaw_expected_67 : decode method_4_code 67 = .ok (.iconst 3, 1) := by decide +kernel
theorem d_IntMapHoldsPinLaw_expected_68 : decode method_4_code 68 = .ok (.iaload, 1) := by decide +kernel
theorem d_IntMapHoldsPinLaw_expected_69 : decode method_4_code 69 = .ok (.ifCond .eq 7, 3) := by decide +kernel
theorem d_IntMapHoldsPinLaw_expected_72 : decode method_4_code 72 = .ok (.iconst 1, 1) := by decide +kernel
theorem d_IntMapHoldsPinLaw_expected_73 : decode method_4_code 73 = .ok (.goto 4, 3) := by decide +kernel
theorem d_IntMapHoldsPinLaw_expected_76 : decode method_4_code 76 = .ok (.iconst 0, 1) := by decide +kernel
theorem d_IntMapHoldsPinLaw_expected_77 : decode method_4_code 77 = .ok (.ireturn, 1) := by decide +kernel
theorem d_IntMapHoldsPinLaw_expected_78 : decode method_4_code 78 = .ok (.aload_n 0, 1) := by decide +kernel
theorem d_IntMapHoldsPinLaw_expected_79 : decode method_4_code 79 = .ok (.iconst 2, 1) := by decide +kernel
theorem d_IntMapHoldsPinLaw_expected_80 : decode method_4_code 80 = .ok (.iaload, 1) := by decide +kernel
theorem d_IntMapHoldsPinLaw_expected_81 : decode method_4_code 81 = .ok (.iload_n 2, 1) := by decide +kernel
theorem d_IntMapHoldsPinLaw_expected_82 : decode method_4_code 82 = .ok (.if_icmp .ne 15, 3) := by decide +kernel
theorem d_IntMapHoldsPinLaw_expected_85 : decode method_4_code 85 = .ok (.aload_n 1, 1) := by decide +kernel
theorem d_IntMapHoldsPinLaw_expected_86 : decode method_4_code 86 = .ok (.iconst 2, 1) := by decide +kernel
theorem d_IntMapHoldsPinLaw_expected_87 : decode method_4_code 87 = .ok (.iaload, 1) := by decide +kernel
theorem d_IntMapHoldsPinLaw_expected_88 : decode method_4_code 88 = .ok (.ifCond .eq 7, 3) := by decide +kernel
theorem d_IntMapHoldsPinLaw_expected_91 : decode method_4_code 91 = .ok (.iconst 1, 1) := by decide +kernel
theorem d_IntMapHoldsPinLaw_expected_92 : decode method_4_code 92 = .ok (.goto 4, 3) := by decide +kernel
theorem d_IntMapHoldsPinLaw_expected_95 : decode method_4_code 95 = .ok (.iconst 0, 1) := by decide +kernel
theorem d_IntMapHoldsPinLaw_expected_96 : decode method_4_code 96 = .ok (.ireturn, 1) := by decide +kernel
theorem d_IntMapHoldsPinLaw_expected_97 : decode method_4_code 97 = .ok (.aload_n 0, 1) := by decide +kernel
theorem d_IntMapHoldsPinLaw_expected_98 : decode method_4_code 98 = .ok (.iconst 1, 1) := by decide +kernel
theorem d_IntMapHoldsPinLaw_expected_99 : decode method_4_code 99 = .ok (.iaload, 1) := by decide +kernel
theorem d_IntMapHoldsPinLaw_expected_100 : decode method_4_code 100 = .ok (.iload_n 2, 1) := by decide +kernel
theorem d_IntMapHoldsPinLaw_expected_101 : decode method_4_code 101 = .ok (.if_icmp .ne 15, 3) := by decide +kernel
theorem d_IntMapHoldsPinLaw_expected_104 : decode method_4_code 104 = .ok (.aload_n 1, 1) := by decide +kernel
theorem d_IntMapHoldsPinLaw_expected_105 : decode method_4_code 105 = .ok (.iconst 1, 1) := by decide +kernel
theorem d_IntMapHoldsPinLaw_expected_106 : decode method_4_code 106 = .ok (.iaload, 1) := by decide +kernel
theorem d_IntMapHoldsPinLaw_expected_107 : decode method_4_code 107 = .ok (.ifCond .eq 7, 3) := by decide +kernel
theorem d_IntMapHoldsPinLaw_expected_110 : decode method_4_code 110 = .ok (.iconst 1, 1) := by decide +kernel
theorem d_IntMapHoldsPinLaw_expected_111 : decode method_4_code 111 = .ok (.goto 4, 3) := by decide +kernel
theorem d_IntMapHoldsPinLaw_expected_114 : decode method_4_code 114 = .ok (.iconst 0, 1) := by decide +kernel
theorem d_IntMapHoldsPinLaw_expected_115 : decode method_4_code 115 = .ok (.ireturn, 1) := by decide +kernel
theorem d_IntMapHoldsPinLaw_expected_116 : decode method_4_code 116 = .ok (.aload_n 0, 1) := by decide +kernel
theorem d_IntMapHoldsPinLaw_expected_117 : decode method_4_code 117 = .ok (.iconst 0, 1) := by decide +kernel
theorem d_IntMapHoldsPinLaw_expected_118 : decode method_4_code 118 = .ok (.iaload, 1) := by decide +kernel
theorem d_IntMapHoldsPinLaw_expected_119 : decode method_4_code 119 = .ok (.iload_n 2, 1) := by decide +kernel
theorem d_IntMapHoldsPinLaw_expected_120 : decode method_4_code 120 = .ok (.if_icmp .ne 15, 3) := by decide +kernel
theorem d_IntMapHoldsPinLaw_expected_123 : decode method_4_code 123 = .ok (.aload_n 1, 1) := by decide +kernel
theorem d_IntMapHoldsPinLaw_expected_124 : decode method_4_code 124 = .ok (.iconst 0, 1) := by decide +kernel
theorem d_IntMapHoldsPinLaw_expected_125 : decode method_4_code 125 = .ok (.iaload, 1) := by decide +kernel
theorem d_IntMapHoldsPinLaw_expected_126 : decode method_4_code 126 = .ok (.ifCond .eq 7, 3) := by decide +kernel
theorem d_IntMapHoldsPinLaw_expected_129 : decode method_4_code 129 = .ok (.iconst 1, 1) := by decide +kernel
theorem d_IntMapHoldsPinLaw_expected_130 : decode method_4_code 130 = .ok (.goto 4, 3) := by decide +kernel
theorem d_IntMapHoldsPinLaw_expected_133 : decode method_4_code 133 = .ok (.iconst 0, 1) := by decide +kernel
theorem d_IntMapHoldsPinLaw_expected_134 : decode method_4_code 134 = .ok (.ireturn, 1) := by decide +kernel
theorem d_IntMapHoldsPinLaw_expected_135 : decode method_4_code 135 = .ok (.iconst 0, 1) := by decide +kernel
theorem d_IntMapHoldsPinLaw_expected_136 : decode method_4_code 136 = .ok (.ireturn, 1) := by decide +kernel
theorem pn_IntMapHoldsPinLaw_expected : plainFor (⟨"com/example/sensebid/sensebid/IntMapHoldsPinLaw", "expected", "([I[II)Z"⟩ : MethodName) = true := plainFor_of_name (by first | (simp [plainName, overriddenIn, x]; done) | decide +kernel)
theorem pd_IntMapHoldsPinLaw_expected : parseMethodDescriptor "([I[II)Z" = some ⟨[(.array .int), (.array .int), .int], (some .boolean)⟩ := by decide +kernel
theorem ef_ex (m : MethodId) (ka va : Addr) (q : Int32) : entryFrame m #[(.ref ka), (.ref va), (.int q)] 3 = mkF m 0 #[.val (.ref ka), .val (.ref va), .val (.int q)] [] := by first | (simp [entryFrame, mkF, argsToLocals, Value.category]; done) | rfl
set_option maxRecDepth 65536 in
set_option maxHeartbeats 40000000 in
theorem rm_ex (l : Launch) (Z : State) (a0 : Array Value) (hw : ∀ d ∈ tables_1, d.before a0 Z = true) (ka va : Addr) (q : Int32) (k0 k1 k2 k3 k4 k5 k6 v0 v1 v2 v3 v4 v5 v6 : Int32) (h0 : Heap) (A1 : Wk.Arl Z h0 ka .int (([k0, k1, k2, k3, k4, k5, k6] : List Int32).map Value.int)) (A2 : Wk.Arl Z h0 va .int (([v0, v1, v2, v3, v4, v5, v6] : List Int32).map Value.int)) : Wk.Met l (⟨"com/example/sensebid/sensebid/IntMapHoldsPinLaw", "expected", "([I[II)Z"⟩ : MethodName) method_4_code 3 (some .boolean) ({ frames := 0, cells := 0, slots := 0, locals := 0 } : Room) #[(.ref ka), (.ref va), (.int q)] Z h0 (fun r h L => r = some (.int (if (own_upd (own_upd (own_upd (own_upd (own_upd (own_upd (own_upd (fun _ => (0 : Int32)) k0 v0) k1 v1) k2 v2) k3 v3) k4 v4) k5 v5) k6 v6) q = 0 then (0 : Int32) else 1)) ∧ h = h0 ∧ L = []) [] := by
  refine Wk.enter pn_IntMapHoldsPinLaw_expected (fun p e s m below meth c T0 k X0 e0 => ?_)
  refine (Wk.Ends.cast (ef_ex m ka va q) ?_)
  refine Wk.aload_n k X0 d_IntMapHoldsPinLaw_expected_0 rfl rfl 1 rfl ?_
  refine Wk.bipush k X0 d_IntMapHoldsPinLaw_expected_1 (6 : Int32) rfl 3 rfl ?_
  refine Wk.iaload k X0 d_IntMapHoldsPinLaw_expected_3 e0 A1 6 rfl k6 rfl 4 rfl ?_
  refine Wk.iload_n k X0 d_IntMapHoldsPinLaw_expected_4 rfl 5 rfl ?_
  refine Wk.icmp_ne k X0 d_IntMapHoldsPinLaw_expected_5 (by decide) 21 8 (by decide) rfl (fun hc5 => ?_) (fun hc5 => ?_)
  · refine Wk.aload_n k X0 d_IntMapHoldsPinLaw_expected_21 rfl rfl 22 rfl ?_
    refine Wk.iconst k X0 d_IntMapHoldsPinLaw_expected_22 (5 : Int32) rfl 23 rfl ?_
    refine Wk.iaload k X0 d_IntMapHoldsPinLaw_expected_23 e0 A1 5 rfl k5 rfl 24 rfl ?_
    refine Wk.iload_n k X0 d_IntMapHoldsPinLaw_expected_24 rfl 25 rfl ?_
    refine Wk.icmp_ne k X0 d_IntMapHoldsPinLaw_expected_25 (by decide) 40 28 (by decide) rfl (fun hc25 => ?_) (fun hc25 => ?_)
    · refine Wk.aload_n k X0 d_IntMapHoldsPinLaw_expected_40 rfl rfl 41 rfl ?_
      refine Wk.iconst k X0 d_IntMapHoldsPinLaw_expected_41 (4 : Int32) rfl 42 rfl ?_
      refine Wk.iaload k X0 d_IntMapHoldsPinLaw_expected_42 e0 A1 4 rfl k4 rfl 43 rfl ?_
      refine Wk.iload_n k X0 d_IntMapHoldsPinLaw_expected_43 rfl 44 rfl ?_
      refine Wk.icmp_ne k X0 d_IntMapHoldsPinLaw_expected_44 (by decide) 59 47 (by decide) rfl (fun hc44 => ?_) (fun hc44 => ?_)
      · refine Wk.aload_n k X0 d_IntMapHoldsPinLaw_expected_59 rfl rfl 60 rfl ?_
        refine Wk.iconst k X0 d_IntMapHoldsPinLaw_expected_60 (3 : Int32) rfl 61 rfl ?_
        refine Wk.iaload k X0 d_IntMapHoldsPinLaw_expected_61 e0 A1 3 rfl k3 rfl 62 rfl ?_
        refine Wk.iload_n k X0 d_IntMapHoldsPinLaw_expected_62 rfl 63 rfl ?_
        refine Wk.icmp_ne k X0 d_IntMapHoldsPinLaw_expected_63 (by decide) 78 66 (by decide) rfl (fun hc63 => ?_) (fun hc63 => ?_)
        · refine Wk.aload_n k X0 d_IntMapHoldsPinLaw_expected_78 rfl rfl 79 rfl ?_
          refine Wk.iconst k X0 d_IntMapHoldsPinLaw_expected_79 (2 : Int32) rfl 80 rfl ?_
          refine Wk.iaload k X0 d_IntMapHoldsPinLaw_expected_80 e0 A1 2 rfl k2 rfl 81 rfl ?_
          refine Wk.iload_n k X0 d_IntMapHoldsPinLaw_expected_81 rfl 82 rfl ?_
          refine Wk.icmp_ne k X0 d_IntMapHoldsPinLaw_expected_82 (by decide) 97 85 (by decide) rfl (fun hc82 => ?_) (fun hc82 => ?_)
          · refine Wk.aload_n k X0 d_IntMapHoldsPinLaw_expected_97 rfl rfl 98 rfl ?_
            refine Wk.iconst k X0 d_IntMapHoldsPinLaw_expected_98 (1 : Int32) rfl 99 rfl ?_
            refine Wk.iaload k X0 d_IntMapHoldsPinLaw_expected_99 e0 A1 1 rfl k1 rfl 100 rfl ?_
            refine Wk.iload_n k X0 d_IntMapHoldsPinLaw_expected_100 rfl 101 rfl ?_
            refine Wk.icmp_ne k X0 d_IntMapHoldsPinLaw_expected_101 (by decide) 116 104 (by decide) rfl (fun hc101 => ?_) (fun hc101 => ?_)
            · refine Wk.aload_n k X0 d_IntMapHoldsPinLaw_expected_116 rfl rfl 117 rfl ?_
              refine Wk.iconst k X0 d_IntMapHoldsPinLaw_expected_117 (0 : Int32) rfl 118 rfl ?_
              refine Wk.iaload k X0 d_IntMapHoldsPinLaw_expected_118 e0 A1 0 rfl k0 rfl 119 rfl ?_
              refine Wk.iload_n k X0 d_IntMapHoldsPinLaw_expected_119 rfl 120 rfl ?_
              refine Wk.icmp_ne k X0 d_IntMapHoldsPinLaw_expected_120 (by decide) 135 123 (by decide) rfl (fun hc120 => ?_) (fun hc120 => ?_)
              · refine Wk.iconst k X0 d_IntMapHoldsPinLaw_expected_135 (0 : Int32) rfl 136 rfl ?_
                exact Wk.ret_bool k X0 rfl d_IntMapHoldsPinLaw_expected_136 (by decide) (by decide) (by decide) ⟨by simp only [own_upd]; rw [if_neg (show ¬ q = k6 from fun z => hc5 z.symm), if_neg (show ¬ q = k5 from fun z => hc25 z.symm), if_neg (show ¬ q = k4 from fun z => hc44 z.symm), if_neg (show ¬ q = k3 from fun z => hc63 z.symm), if_neg (show ¬ q = k2 from fun z => hc82 z.symm), if_neg (show ¬ q = k1 from fun z => hc101 z.symm), if_neg (show ¬ q = k0 from fun z => hc120 z.symm), if_pos rfl], e0, rfl⟩
              · refine Wk.aload_n k X0 d_IntMapHoldsPinLaw_expected_123 rfl rfl 124 rfl ?_
                refine Wk.iconst k X0 d_IntMapHoldsPinLaw_expected_124 (0 : Int32) rfl 125 rfl ?_
                refine Wk.iaload k X0 d_IntMapHoldsPinLaw_expected_125 e0 A2 0 rfl v0 rfl 126 rfl ?_
                refine Wk.if_eq k X0 d_IntMapHoldsPinLaw_expected_126 (by decide) 133 129 (by decide) rfl (fun hc126 => ?_) (fun hc126 => ?_)
                · refine Wk.iconst k X0 d_IntMapHoldsPinLaw_expected_133 (0 : Int32) rfl 134 rfl ?_
                  exact Wk.ret_bool k X0 rfl d_IntMapHoldsPinLaw_expected_134 (by decide) (by decide) (by decide) ⟨by simp only [own_upd]; rw [if_neg (show ¬ q = k6 from fun z => hc5 z.symm), if_neg (show ¬ q = k5 from fun z => hc25 z.symm), if_neg (show ¬ q = k4 from fun z => hc44 z.symm), if_neg (show ¬ q = k3 from fun z => hc63 z.symm), if_neg (show ¬ q = k2 from fun z => hc82 z.symm), if_neg (show ¬ q = k1 from fun z => hc101 z.symm), if_pos (show q = k0 from hc120.symm), if_pos hc126], e0, rfl⟩
                · refine Wk.iconst k X0 d_IntMapHoldsPinLaw_expected_129 (1 : Int32) rfl 130 rfl ?_
                  refine Wk.goto k X0 d_IntMapHoldsPinLaw_expected_130 (by decide) 134 (by decide) ?_
                  exact Wk.ret_bool k X0 rfl d_IntMapHoldsPinLaw_expected_134 (by decide) (by decide) (by decide) ⟨by simp only [own_upd]; rw [if_neg (show ¬ q = k6 from fun z => hc5 z.symm), if_neg (show ¬ q = k5 from fun z => hc25 z.symm), if_neg (show ¬ q = k4 from fun z => hc44 z.symm), if_neg (show ¬ q = k3 from fun z => hc63 z.symm), if_neg (show ¬ q = k2 from fun z => hc82 z.symm), if_neg (show ¬ q = k1 from fun z => hc101 z.symm), if_pos (show q = k0 from hc120.symm), if_neg hc126], e0, rfl⟩
            · refine Wk.aload_n k X0 d_IntMapHoldsPinLaw_expected_104 rfl rfl 105 rfl ?_
              refine Wk.iconst k X0 d_IntMapHoldsPinLaw_expected_105 (1 : Int32) rfl 106 rfl ?_
              refine Wk.iaload k X0 d_IntMapHoldsPinLaw_expected_106 e0 A2 1 rfl v1 rfl 107 rfl ?_
              refine Wk.if_eq k X0 d_IntMapHoldsPinLaw_expected_107 (by decide) 114 110 (by decide) rfl (fun hc107 => ?_) (fun hc107 => ?_)
              · refine Wk.iconst k X0 d_IntMapHoldsPinLaw_expected_114 (0 : Int32) rfl 115 rfl ?_
                exact Wk.ret_bool k X0 rfl d_IntMapHoldsPinLaw_expected_115 (by decide) (by decide) (by decide) ⟨by simp only [own_upd]; rw [if_neg (show ¬ q = k6 from fun z => hc5 z.symm), if_neg (show ¬ q = k5 from fun z => hc25 z.symm), if_neg (show ¬ q = k4 from fun z => hc44 z.symm), if_neg (show ¬ q = k3 from fun z => hc63 z.symm), if_neg (show ¬ q = k2 from fun z => hc82 z.symm), if_pos (show q = k1 from hc101.symm), if_pos hc107], e0, rfl⟩
              · refine Wk.iconst k X0 d_IntMapHoldsPinLaw_expected_110 (1 : Int32) rfl 111 rfl ?_
                refine Wk.goto k X0 d_IntMapHoldsPinLaw_expected_111 (by decide) 115 (by decide) ?_
                exact Wk.ret_bool k X0 rfl d_IntMapHoldsPinLaw_expected_115 (by decide) (by decide) (by decide) ⟨by simp only [own_upd]; rw [if_neg (show ¬ q = k6 from fun z => hc5 z.symm), if_neg (show ¬ q = k5 from fun z => hc25 z.symm), if_neg (show ¬ q = k4 from fun z => hc44 z.symm), if_neg (show ¬ q = k3 from fun z => hc63 z.symm), if_neg (show ¬ q = k2 from fun z => hc82 z.symm), if_pos (show q = k1 from hc101.symm), if_neg hc107], e0, rfl⟩
          · refine Wk.aload_n k X0 d_IntMapHoldsPinLaw_expected_85 rfl rfl 86 rfl ?_
            refine Wk.iconst k X0 d_IntMapHoldsPinLaw_expected_86 (2 : Int32) rfl 87 rfl ?_
            refine Wk.iaload k X0 d_IntMapHoldsPinLaw_expected_87 e0 A2 2 rfl v2 rfl 88 rfl ?_
            refine Wk.if_eq k X0 d_IntMapHoldsPinLaw_expected_88 (by decide) 95 91 (by decide) rfl (fun hc88 => ?_) (fun hc88 => ?_)
            · refine Wk.iconst k X0 d_IntMapHoldsPinLaw_expected_95 (0 : Int32) rfl 96 rfl ?_
              exact Wk.ret_bool k X0 rfl d_IntMapHoldsPinLaw_expected_96 (by decide) (by decide) (by decide) ⟨by simp only [own_upd]; rw [if_neg (show ¬ q = k6 from fun z => hc5 z.symm), if_neg (show ¬ q = k5 from fun z => hc25 z.symm), if_neg (show ¬ q = k4 from fun z => hc44 z.symm), if_neg (show ¬ q = k3 from fun z => hc63 z.symm), if_pos (show q = k2 from hc82.symm), if_pos hc88], e0, rfl⟩
            · refine Wk.iconst k X0 d_IntMapHoldsPinLaw_expected_91 (1 : Int32) rfl 92 rfl ?_
              refine Wk.goto k X0 d_IntMapHoldsPinLaw_expected_92 (by decide) 96 (by decide) ?_
              exact Wk.ret_bool k X0 rfl d_IntMapHoldsPinLaw_expected_96 (by decide) (by decide) (by decide) ⟨by simp only [own_upd]; rw [if_neg (show ¬ q = k6 from fun z => hc5 z.symm), if_neg (show ¬ q = k5 from fun z => hc25 z.symm), if_neg (show ¬ q = k4 from fun z => hc44 z.symm), if_neg (show ¬ q = k3 from fun z => hc63 z.symm), if_pos (show q = k2 from hc82.symm), if_neg hc88], e0, rfl⟩
        · refine Wk.aload_n k X0 d_IntMapHoldsPinLaw_expected_66 rfl rfl 67 rfl ?_
          refine Wk.iconst k X0 d_IntMapHoldsPinLaw_expected_67 (3 : Int32) rfl 68 rfl ?_
          refine Wk.iaload k X0 d_IntMapHoldsPinLaw_expected_68 e0 A2 3 rfl v3 rfl 69 rfl ?_
          refine Wk.if_eq k X0 d_IntMapHoldsPinLaw_expected_69 (by decide) 76 72 (by decide) rfl (fun hc69 => ?_) (fun hc69 => ?_)
          · refine Wk.iconst k X0 d_IntMapHoldsPinLaw_expected_76 (0 : Int32) rfl 77 rfl ?_
            exact Wk.ret_bool k X0 rfl d_IntMapHoldsPinLaw_expected_77 (by decide) (by decide) (by decide) ⟨by simp only [own_upd]; rw [if_neg (show ¬ q = k6 from fun z => hc5 z.symm), if_neg (show ¬ q = k5 from fun z => hc25 z.symm), if_neg (show ¬ q = k4 from fun z => hc44 z.symm), if_pos (show q = k3 from hc63.symm), if_pos hc69], e0, rfl⟩
          · refine Wk.iconst k X0 d_IntMapHoldsPinLaw_expected_72 (1 : Int32) rfl 73 rfl ?_
            refine Wk.goto k X0 d_IntMapHoldsPinLaw_expected_73 (by decide) 77 (by decide) ?_
            exact Wk.ret_bool k X0 rfl d_IntMapHoldsPinLaw_expected_77 (by decide) (by decide) (by decide) ⟨by simp only [own_upd]; rw [if_neg (show ¬ q = k6 from fun z => hc5 z.symm), if_neg (show ¬ q = k5 from fun z => hc25 z.symm), if_neg (show ¬ q = k4 from fun z => hc44 z.symm), if_pos (show q = k3 from hc63.symm), if_neg hc69], e0, rfl⟩
      · refine Wk.aload_n k X0 d_IntMapHoldsPinLaw_expected_47 rfl rfl 48 rfl ?_
        refine Wk.iconst k X0 d_IntMapHoldsPinLaw_expected_48 (4 : Int32) rfl 49 rfl ?_
        refine Wk.iaload k X0 d_IntMapHoldsPinLaw_expected_49 e0 A2 4 rfl v4 rfl 50 rfl ?_
        refine Wk.if_eq k X0 d_IntMapHoldsPinLaw_expected_50 (by decide) 57 53 (by decide) rfl (fun hc50 => ?_) (fun hc50 => ?_)
        · refine Wk.iconst k X0 d_IntMapHoldsPinLaw_expected_57 (0 : Int32) rfl 58 rfl ?_
          exact Wk.ret_bool k X0 rfl d_IntMapHoldsPinLaw_expected_58 (by decide) (by decide) (by decide) ⟨by simp only [own_upd]; rw [if_neg (show ¬ q = k6 from fun z => hc5 z.symm), if_neg (show ¬ q = k5 from fun z => hc25 z.symm), if_pos (show q = k4 from hc44.symm), if_pos hc50], e0, rfl⟩
        · refine Wk.iconst k X0 d_IntMapHoldsPinLaw_expected_53 (1 : Int32) rfl 54 rfl ?_
          refine Wk.goto k X0 d_IntMapHoldsPinLaw_expected_54 (by decide) 58 (by decide) ?_
          exact Wk.ret_bool k X0 rfl d_IntMapHoldsPinLaw_expected_58 (by decide) (by decide) (by decide) ⟨by simp only [own_upd]; rw [if_neg (show ¬ q = k6 from fun z => hc5 z.symm), if_neg (show ¬ q = k5 from fun z => hc25 z.symm), if_pos (show q = k4 from hc44.symm), if_neg hc50], e0, rfl⟩
    · refine Wk.aload_n k X0 d_IntMapHoldsPinLaw_expected_28 rfl rfl 29 rfl ?_
      refine Wk.iconst k X0 d_IntMapHoldsPinLaw_expected_29 (5 : Int32) rfl 30 rfl ?_
      refine Wk.iaload k X0 d_IntMapHoldsPinLaw_expected_30 e0 A2 5 rfl v5 rfl 31 rfl ?_
      refine Wk.if_eq k X0 d_IntMapHoldsPinLaw_expected_31 (by decide) 38 34 (by decide) rfl (fun hc31 => ?_) (fun hc31 => ?_)
      · refine Wk.iconst k X0 d_IntMapHoldsPinLaw_expected_38 (0 : Int32) rfl 39 rfl ?_
        exact Wk.ret_bool k X0 rfl d_IntMapHoldsPinLaw_expected_39 (by decide) (by decide) (by decide) ⟨by simp only [own_upd]; rw [if_neg (show ¬ q = k6 from fun z => hc5 z.symm), if_pos (show q = k5 from hc25.symm), if_pos hc31], e0, rfl⟩
      · refine Wk.iconst k X0 d_IntMapHoldsPinLaw_expected_34 (1 : Int32) rfl 35 rfl ?_
        refine Wk.goto k X0 d_IntMapHoldsPinLaw_expected_35 (by decide) 39 (by decide) ?_
        exact Wk.ret_bool k X0 rfl d_IntMapHoldsPinLaw_expected_39 (by decide) (by decide) (by decide) ⟨by simp only [own_upd]; rw [if_neg (show ¬ q = k6 from fun z => hc5 z.symm), if_pos (show q = k5 from hc25.symm), if_neg hc31], e0, rfl⟩
  · refine Wk.aload_n k X0 d_IntMapHoldsPinLaw_expected_8 rfl rfl 9 rfl ?_
    refine Wk.bipush k X0 d_IntMapHoldsPinLaw_expected_9 (6 : Int32) rfl 11 rfl ?_
    refine Wk.iaload k X0 d_IntMapHoldsPinLaw_expected_11 e0 A2 6 rfl v6 rfl 12 rfl ?_
    refine Wk.if_eq k X0 d_IntMapHoldsPinLaw_expected_12 (by decide) 19 15 (by decide) rfl (fun hc12 => ?_) (fun hc12 => ?_)
    · refine Wk.iconst k X0 d_IntMapHoldsPinLaw_expected_19 (0 : Int32) rfl 20 rfl ?_
      exact Wk.ret_bool k X0 rfl d_IntMapHoldsPinLaw_expected_20 (by decide) (by decide) (by decide) ⟨by simp only [own_upd]; rw [if_pos (show q = k6 from hc5.symm), if_pos hc12], e0, rfl⟩
    · refine Wk.iconst k X0 d_IntMapHoldsPinLaw_expected_15 (1 : Int32) rfl 16 rfl ?_
      refine Wk.goto k X0 d_IntMapHoldsPinLaw_expected_16 (by decide) 20 (by decide) ?_
      exact Wk.ret_bool k X0 rfl d_IntMapHoldsPinLaw_expected_20 (by decide) (by decide) (by decide) ⟨by simp only [own_upd]; rw [if_pos (show q = k6 from hc5.symm), if_neg hc12], e0, rfl⟩
def own_top (x : Int32) : Bool := x.toBitVec.msb
theorem own_top_ne {x : Int32} (h : own_top x = false) : x ≠ -1 := by
  intro e; subst e; exact absurd h (by decide)
theorem own_top_and {x m : Int32} (h : own_top m = false) : own_top (x &&& m) = false := by
  show (x.toBitVec &&& m.toBitVec).msb = false
  rw [BitVec.msb_and]; unfold own_top at h; rw [h, Bool.and_false]
theorem own_top_xor {x m : Int32} (hx : own_top x = false) (h : own_top m = false) : own_top (x ^^^ m) = false := by
  show (x.toBitVec ^^^ m.toBitVec).msb = false
  rw [BitVec.msb_xor]; unfold own_top at h hx; rw [h, hx]; rfl
theorem own_sel (f : Int32) (h : (((f).toUInt32 >>> ((1 : Int32) &&& 31).toUInt32).toInt32 &&& (7 : Int32)) < (7 : Int32)) : (((f).toUInt32 >>> ((1 : Int32) &&& 31).toUInt32).toInt32 &&& (7 : Int32)).toInt = (((((f).toUInt32 >>> ((1 : Int32) &&& 31).toUInt32).toInt32 &&& (7 : Int32)).toInt.toNat : Nat) : Int) ∧ (((f).toUInt32 >>> ((1 : Int32) &&& 31).toUInt32).toInt32 &&& (7 : Int32)).toInt.toNat < 7 := by
  have h1 := c_mask (((f).toUInt32 >>> ((1 : Int32) &&& 31).toUInt32).toInt32) 7 3 (by decide) (by decide)
  rw [Int32.lt_iff_toInt_lt] at h
  have t : (7 : Int32).toInt = 7 := rfl
  omega
theorem own_all7 {k0 k1 k2 k3 k4 k5 k6 : Int32} (h0 : own_top k0 = false) (h1 : own_top k1 = false) (h2 : own_top k2 = false) (h3 : own_top k3 = false) (h4 : own_top k4 = false) (h5 : own_top k5 = false) (h6 : own_top k6 = false) (j : Nat) (hj : j < 7) : own_top (([k0, k1, k2, k3, k4, k5, k6] : List Int32).getD j 0) = false := by
  match j, hj with
  | 0, _ => exact h0
  | 1, _ => exact h1
  | 2, _ => exact h2
  | 3, _ => exact h3
  | 4, _ => exact h4
  | 5, _ => exact h5
  | 6, _ => exact h6
theorem pn_IntMapHoldsPinLaw_law : plainFor x = true := plainFor_of_name (by first | (simp [plainName, overriddenIn, x]; done) | decide +kernel)
set_option maxRecDepth 65536 in
set_option maxHeartbeats 40000000 in
theorem law_210 {p : Program} {l : Launch} {e : Env} {s : State} {m : MethodId} {args : Array Value} {below : List Frame} {meth : Method} {c : Code} {Z : State} {a0 : Array Value} {h0 : Heap} {n0 : Nat} {T0 : State} {locs : List Loc} (hw : ∀ d ∈ tables_1, d.before a0 Z = true) (k : Wk.K p s m meth c Z x code maxLocals ret) (X0 : Stand p l e room_1 s m args below meth c T0 locs 2 14) (p0 p1 p2 p3 : Int32) (j4 : Int64) (p6 : Int32) (x7 x10 q : Int32) (ka va : Addr) (k0 k1 k2 k3 k4 k5 k6 v0 v1 v2 v3 v4 v5 v6 : Int32) (e0 : T0.heap = h0) (Z0 : n0 ≤ h0.size) (N0 : Fr n0 locs) (hne : ka ≠ va) (AK : Wk.Arl Z h0 ka .int (([k0, k1, k2, k3, k4, k5, k6] : List Int32).map Value.int)) (AV : Wk.Arl Z h0 va .int (([v0, v1, v2, v3, v4, v5, v6] : List Int32).map Value.int)) (ht0 : own_top k0 = false) (ht1 : own_top k1 = false) (ht2 : own_top k2 = false) (ht3 : own_top k3 = false) (ht4 : own_top k4 = false) (ht5 : own_top k5 = false) (ht6 : own_top k6 = false) (hq : q ≠ -1) : Wk.Ends p e s below room_1 (fun v _ L => v = some (.int 1) ∧ Fr n0 L) T0 (mkF m 210 #[.val (.int p0), .val (.int p1), .val (.int p2), .val (.int p3), .val (.long j4), .second, .val (.int p6), .val (.int x7), .val (.ref ka), .val (.ref va), .val (.int x10), .val (.int q), .unset] []) := by
  refine Wk.new k X0 at_210 (Wk.w hw 6 rfl) (Wk.w hw 7 rfl) (Wk.w hw 8 rfl) e0 (by decide) (by decide) 213 rfl fun T1 h1 b1 q1 X1 e1 E1 A1 D1 => ?_
  have g1 : n0 ≤ b1 := by rw [q1]; exact Z0
  have ne2 : ka ≠ b1 := by rw [q1]; exact Nat.ne_of_lt AK.lt
  have ne3 : va ≠ b1 := by rw [q1]; exact Nat.ne_of_lt AV.lt
  have sz1 := Nat.le_trans Z0 E1.1
  have f4 := AK.ext E1
  have f5 := AV.ext E1
  have f6 : Fld Z h1 b1 "com/example/sensebid/sensebid/IntMap" "keys" "[I" .null := D1 (Or.inl (Wk.w hw 16 rfl)) (ty := (.array .int)) (by decide)
  have f7 : Fld Z h1 b1 "com/example/sensebid/sensebid/IntMap" "values" "[I" .null := D1 (Or.inl (Wk.w hw 18 rfl)) (ty := (.array .int)) (by decide)
  have f8 : Fld Z h1 b1 "com/example/sensebid/sensebid/IntMap" "size" "I" (.int (0 : Int32)) := D1 (Or.inl (Wk.w hw 37 rfl)) (ty := .int) (by decide)
  refine Wk.dup k X1 at_213 rfl 214 rfl ?_
  refine Wk.callI k X1 [] [(.ref b1)] at_214 (rm_ini l Z a0 hw b1 _ _ h1 n0 sz1 A1 f6 f7 f8 g1) e1 rfl (Wk.w hw 9 rfl) (Wk.w hw 10 rfl) (Wk.w hw 8 rfl) (Wk.w hw 11 rfl) (by decide) rfl pd_IntMap_init rfl rfl (Nat.le_of_ble_eq_true rfl) (Nat.le_of_ble_eq_true rfl) (Nat.le_of_ble_eq_true rfl) (Nat.le_of_ble_eq_true rfl) 217 rfl fun T9 v9 L9 X9 hQ9 => ?_
  obtain ⟨rfl, N9q, K9, kA, vA, hkA, hvA, T9'⟩ := hQ9
  show Wk.Ends _ _ _ _ _ _ _ (mkF m 217 _ [(.ref b1)])
  have N9 := Fr.app N0 N9q
  have sz9 := Nat.le_trans sz1 K9.1
  have R0 := own_rep0 (c := 8) (Or.inl rfl)
  have c0 := own_cnt0 8
  have f10 := f4.keep K9 (ninS ne2 nin0)
  have f11 := f5.keep K9 (ninS ne3 nin0)
  have dka1 : ka ≠ kA := Nat.ne_of_lt (Nat.lt_of_lt_of_le f4.lt hkA)
  have dka2 : ka ≠ vA := Nat.ne_of_lt (Nat.lt_of_lt_of_le f4.lt hvA)
  have dva1 : va ≠ kA := Nat.ne_of_lt (Nat.lt_of_lt_of_le f5.lt hkA)
  have dva2 : va ≠ vA := Nat.ne_of_lt (Nat.lt_of_lt_of_le f5.lt hvA)
  refine Wk.astore k X9 at_217 rfl #[.val (.int p0), .val (.int p1), .val (.int p2), .val (.int p3), .val (.long j4), .second, .val (.int p6), .val (.int x7), .val (.ref ka), .val (.ref va), .val (.int x10), .val (.int q), .val (.ref b1)] rfl 219 rfl ?_
  refine Wk.aload k X9 at_219 rfl rfl 221 rfl ?_
  refine Wk.aload k X9 at_221 rfl rfl 223 rfl ?_
  refine Wk.iconst k X9 at_223 (0 : Int32) rfl 224 rfl ?_
  refine Wk.iaload k X9 at_224 (rfl : T9.heap = T9.heap) f10 0 rfl k0 rfl 225 rfl ?_
  refine Wk.aload k X9 at_225 rfl rfl 227 rfl ?_
  refine Wk.iconst k X9 at_227 (0 : Int32) rfl 228 rfl ?_
  refine Wk.iaload k X9 at_228 (rfl : T9.heap = T9.heap) f11 0 rfl v0 rfl 229 rfl ?_
  refine Wk.callV k X9 [(.int k0), (.int v0)] [] at_229 (rm_put l Z a0 hw b1 k0 v0 kA vA 8 _ _ _ _ T9.heap n0 (Or.inl rfl) (own_top_ne ht0) R0 c0 T9' (fun z => absurd z (by decide)) (by omega)) (rfl : T9.heap = T9.heap) T9'.1 (Wk.w hw 23 rfl) (Wk.w hw 24 rfl) (Wk.w hw 26 rfl) (Wk.w hw 25 rfl) (Wk.w hw 8 rfl) (Wk.w hw 27 rfl) (by decide) rfl pd_IntMap_put rfl rfl (Nat.le_of_ble_eq_true rfl) (Nat.le_of_ble_eq_true rfl) (Nat.le_of_ble_eq_true rfl) (Nat.le_of_ble_eq_true rfl) 232 rfl fun T12 v12 L12 X12 hQ12 => ?_
  obtain ⟨rfl, N12q, K12, kB12, vB12, cq12, sq12, ks12, vs12, hc12', T12', R12, C12, hl12, rfl, rfl, rfl, hs12⟩ := hQ12
  show Wk.Ends _ _ _ _ _ _ _ (mkF m 232 _ [])
  have N12 := Fr.app N9 N12q
  have sz12 := Nat.le_trans sz9 K12.1
  have f13 := f10.keep K12 (ninS ne2 (ninS dka1 (ninS dka2 nin0)))
  have f14 := f11.keep K12 (ninS ne3 (ninS dva1 (ninS dva2 nin0)))
  refine Wk.aload k X12 at_232 rfl rfl 234 rfl ?_
  refine Wk.aload k X12 at_234 rfl rfl 236 rfl ?_
  refine Wk.iconst k X12 at_236 (1 : Int32) rfl 237 rfl ?_
  refine Wk.iaload k X12 at_237 (rfl : T12.heap = T12.heap) f13 1 rfl k1 rfl 238 rfl ?_
  refine Wk.aload k X12 at_238 rfl rfl 240 rfl ?_
  refine Wk.iconst k X12 at_240 (1 : Int32) rfl 241 rfl ?_
  refine Wk.iaload k X12 at_241 (rfl : T12.heap = T12.heap) f14 1 rfl v1 rfl 242 rfl ?_
  refine Wk.callV k X12 [(.int k1), (.int v1)] [] at_242 (rm_put l Z a0 hw b1 k1 v1 kA vA 8 _ _ _ _ T12.heap n0 (Or.inl rfl) (own_top_ne ht1) R12 C12 T12' (fun z => absurd z (by decide)) (by omega)) (rfl : T12.heap = T12.heap) T12'.1 (Wk.w hw 23 rfl) (Wk.w hw 24 rfl) (Wk.w hw 26 rfl) (Wk.w hw 25 rfl) (Wk.w hw 8 rfl) (Wk.w hw 27 rfl) (by decide) rfl pd_IntMap_put rfl rfl (Nat.le_of_ble_eq_true rfl) (Nat.le_of_ble_eq_true rfl) (Nat.le_of_ble_eq_true rfl) (Nat.le_of_ble_eq_true rfl) 245 rfl fun T15 v15 L15 X15 hQ15 => ?_
  obtain ⟨rfl, N15q, K15, kB15, vB15, cq15, sq15, ks15, vs15, hc15', T15', R15, C15, hl15, rfl, rfl, rfl, hs15⟩ := hQ15
  show Wk.Ends _ _ _ _ _ _ _ (mkF m 245 _ [])
  have N15 := Fr.app N12 N15q
  have sz15 := Nat.le_trans sz12 K15.1
  have f16 := f13.keep K15 (ninS ne2 (ninS dka1 (ninS dka2 nin0)))
  have f17 := f14.keep K15 (ninS ne3 (ninS dva1 (ninS dva2 nin0)))
  refine Wk.aload k X15 at_245 rfl rfl 247 rfl ?_
  refine Wk.aload k X15 at_247 rfl rfl 249 rfl ?_
  refine Wk.iconst k X15 at_249 (2 : Int32) rfl 250 rfl ?_
  refine Wk.iaload k X15 at_250 (rfl : T15.heap = T15.heap) f16 2 rfl k2 rfl 251 rfl ?_
  refine Wk.aload k X15 at_251 rfl rfl 253 rfl ?_
  refine Wk.iconst k X15 at_253 (2 : Int32) rfl 254 rfl ?_
  refine Wk.iaload k X15 at_254 (rfl : T15.heap = T15.heap) f17 2 rfl v2 rfl 255 rfl ?_
  refine Wk.callV k X15 [(.int k2), (.int v2)] [] at_255 (rm_put l Z a0 hw b1 k2 v2 kA vA 8 _ _ _ _ T15.heap n0 (Or.inl rfl) (own_top_ne ht2) R15 C15 T15' (fun z => absurd z (by decide)) (by omega)) (rfl : T15.heap = T15.heap) T15'.1 (Wk.w hw 23 rfl) (Wk.w hw 24 rfl) (Wk.w hw 26 rfl) (Wk.w hw 25 rfl) (Wk.w hw 8 rfl) (Wk.w hw 27 rfl) (by decide) rfl pd_IntMap_put rfl rfl (Nat.le_of_ble_eq_true rfl) (Nat.le_of_ble_eq_true rfl) (Nat.le_of_ble_eq_true rfl) (Nat.le_of_ble_eq_true rfl) 258 rfl fun T18 v18 L18 X18 hQ18 => ?_
  obtain ⟨rfl, N18q, K18, kB18, vB18, cq18, sq18, ks18, vs18, hc18', T18', R18, C18, hl18, rfl, rfl, rfl, hs18⟩ := hQ18
  show Wk.Ends _ _ _ _ _ _ _ (mkF m 258 _ [])
  have N18 := Fr.app N15 N18q
  have sz18 := Nat.le_trans sz15 K18.1
  have f19 := f16.keep K18 (ninS ne2 (ninS dka1 (ninS dka2 nin0)))
  have f20 := f17.keep K18 (ninS ne3 (ninS dva1 (ninS dva2 nin0)))
  refine Wk.aload k X18 at_258 rfl rfl 260 rfl ?_
  refine Wk.aload k X18 at_260 rfl rfl 262 rfl ?_
  refine Wk.iconst k X18 at_262 (3 : Int32) rfl 263 rfl ?_
  refine Wk.iaload k X18 at_263 (rfl : T18.heap = T18.heap) f19 3 rfl k3 rfl 264 rfl ?_
  refine Wk.aload k X18 at_264 rfl rfl 266 rfl ?_
  refine Wk.iconst k X18 at_266 (3 : Int32) rfl 267 rfl ?_
  refine Wk.iaload k X18 at_267 (rfl : T18.heap = T18.heap) f20 3 rfl v3 rfl 268 rfl ?_
  refine Wk.callV k X18 [(.int k3), (.int v3)] [] at_268 (rm_put l Z a0 hw b1 k3 v3 kA vA 8 _ _ _ _ T18.heap n0 (Or.inl rfl) (own_top_ne ht3) R18 C18 T18' (fun z => absurd z (by decide)) (by omega)) (rfl : T18.heap = T18.heap) T18'.1 (Wk.w hw 23 rfl) (Wk.w hw 24 rfl) (Wk.w hw 26 rfl) (Wk.w hw 25 rfl) (Wk.w hw 8 rfl) (Wk.w hw 27 rfl) (by decide) rfl pd_IntMap_put rfl rfl (Nat.le_of_ble_eq_true rfl) (Nat.le_of_ble_eq_true rfl) (Nat.le_of_ble_eq_true rfl) (Nat.le_of_ble_eq_true rfl) 271 rfl fun T21 v21 L21 X21 hQ21 => ?_
  obtain ⟨rfl, N21q, K21, kB21, vB21, cq21, sq21, ks21, vs21, hc21', T21', R21, C21, hl21, rfl, rfl, rfl, hs21⟩ := hQ21
  show Wk.Ends _ _ _ _ _ _ _ (mkF m 271 _ [])
  have N21 := Fr.app N18 N21q
  have sz21 := Nat.le_trans sz18 K21.1
  have f22 := f19.keep K21 (ninS ne2 (ninS dka1 (ninS dka2 nin0)))
  have f23 := f20.keep K21 (ninS ne3 (ninS dva1 (ninS dva2 nin0)))
  refine Wk.aload k X21 at_271 rfl rfl 273 rfl ?_
  refine Wk.aload k X21 at_273 rfl rfl 275 rfl ?_
  refine Wk.iconst k X21 at_275 (4 : Int32) rfl 276 rfl ?_
  refine Wk.iaload k X21 at_276 (rfl : T21.heap = T21.heap) f22 4 rfl k4 rfl 277 rfl ?_
  refine Wk.aload k X21 at_277 rfl rfl 279 rfl ?_
  refine Wk.iconst k X21 at_279 (4 : Int32) rfl 280 rfl ?_
  refine Wk.iaload k X21 at_280 (rfl : T21.heap = T21.heap) f23 4 rfl v4 rfl 281 rfl ?_
  refine Wk.callV k X21 [(.int k4), (.int v4)] [] at_281 (rm_put l Z a0 hw b1 k4 v4 kA vA 8 _ _ _ _ T21.heap n0 (Or.inl rfl) (own_top_ne ht4) R21 C21 T21' (fun z => absurd z (by decide)) (by omega)) (rfl : T21.heap = T21.heap) T21'.1 (Wk.w hw 23 rfl) (Wk.w hw 24 rfl) (Wk.w hw 26 rfl) (Wk.w hw 25 rfl) (Wk.w hw 8 rfl) (Wk.w hw 27 rfl) (by decide) rfl pd_IntMap_put rfl rfl (Nat.le_of_ble_eq_true rfl) (Nat.le_of_ble_eq_true rfl) (Nat.le_of_ble_eq_true rfl) (Nat.le_of_ble_eq_true rfl) 284 rfl fun T24 v24 L24 X24 hQ24 => ?_
  obtain ⟨rfl, N24q, K24, kB24, vB24, cq24, sq24, ks24, vs24, hc24', T24', R24, C24, hl24, rfl, rfl, rfl, hs24⟩ := hQ24
  show Wk.Ends _ _ _ _ _ _ _ (mkF m 284 _ [])
  have N24 := Fr.app N21 N24q
  have sz24 := Nat.le_trans sz21 K24.1
  have f25 := f22.keep K24 (ninS ne2 (ninS dka1 (ninS dka2 nin0)))
  have f26 := f23.keep K24 (ninS ne3 (ninS dva1 (ninS dva2 nin0)))
  refine Wk.aload k X24 at_284 rfl rfl 286 rfl ?_
  refine Wk.aload k X24 at_286 rfl rfl 288 rfl ?_
  refine Wk.iconst k X24 at_288 (5 : Int32) rfl 289 rfl ?_
  refine Wk.iaload k X24 at_289 (rfl : T24.heap = T24.heap) f25 5 rfl k5 rfl 290 rfl ?_
  refine Wk.aload k X24 at_290 rfl rfl 292 rfl ?_
  refine Wk.iconst k X24 at_292 (5 : Int32) rfl 293 rfl ?_
  refine Wk.iaload k X24 at_293 (rfl : T24.heap = T24.heap) f26 5 rfl v5 rfl 294 rfl ?_
  refine Wk.callV k X24 [(.int k5), (.int v5)] [] at_294 (rm_put l Z a0 hw b1 k5 v5 kA vA 8 _ _ _ _ T24.heap n0 (Or.inl rfl) (own_top_ne ht5) R24 C24 T24' (fun z => absurd z (by decide)) (by omega)) (rfl : T24.heap = T24.heap) T24'.1 (Wk.w hw 23 rfl) (Wk.w hw 24 rfl) (Wk.w hw 26 rfl) (Wk.w hw 25 rfl) (Wk.w hw 8 rfl) (Wk.w hw 27 rfl) (by decide) rfl pd_IntMap_put rfl rfl (Nat.le_of_ble_eq_true rfl) (Nat.le_of_ble_eq_true rfl) (Nat.le_of_ble_eq_true rfl) (Nat.le_of_ble_eq_true rfl) 297 rfl fun T27 v27 L27 X27 hQ27 => ?_
  obtain ⟨rfl, N27q, K27, kB27, vB27, cq27, sq27, ks27, vs27, hc27', T27', R27, C27, hl27, rfl, rfl, rfl, hs27⟩ := hQ27
  show Wk.Ends _ _ _ _ _ _ _ (mkF m 297 _ [])
  have N27 := Fr.app N24 N27q
  have sz27 := Nat.le_trans sz24 K27.1
  have f28 := f25.keep K27 (ninS ne2 (ninS dka1 (ninS dka2 nin0)))
  have f29 := f26.keep K27 (ninS ne3 (ninS dva1 (ninS dva2 nin0)))
  refine Wk.aload k X27 at_297 rfl rfl 299 rfl ?_
  refine Wk.aload k X27 at_299 rfl rfl 301 rfl ?_
  refine Wk.bipush k X27 at_301 (6 : Int32) rfl 303 rfl ?_
  refine Wk.iaload k X27 at_303 (rfl : T27.heap = T27.heap) f28 6 rfl k6 rfl 304 rfl ?_
  refine Wk.aload k X27 at_304 rfl rfl 306 rfl ?_
  refine Wk.bipush k X27 at_306 (6 : Int32) rfl 308 rfl ?_
  refine Wk.iaload k X27 at_308 (rfl : T27.heap = T27.heap) f29 6 rfl v6 rfl 309 rfl ?_
  refine Wk.callV k X27 [(.int k6), (.int v6)] [] at_309 (rm_putG l Z a0 hw b1 k6 v6 kA vA 8 _ _ _ _ T27.heap n0 rfl (own_top_ne ht6) R27 C27 T27' sz27 (by omega)) (rfl : T27.heap = T27.heap) T27'.1 (Wk.w hw 23 rfl) (Wk.w hw 24 rfl) (Wk.w hw 26 rfl) (Wk.w hw 25 rfl) (Wk.w hw 8 rfl) (Wk.w hw 27 rfl) (by decide) rfl pd_IntMap_put rfl rfl (Nat.le_of_ble_eq_true rfl) (Nat.le_of_ble_eq_true rfl) (Nat.le_of_ble_eq_true rfl) (Nat.le_of_ble_eq_true rfl) 312 rfl fun T30 v30 L30 X30 hQ30 => ?_
  obtain ⟨rfl, N30q, K30, kB, vB, cq, sq30, ks30, vs30, hcq, T30', R30, C30, hl30⟩ := hQ30
  show Wk.Ends _ _ _ _ _ _ _ (mkF m 312 _ [])
  have N30 := Fr.app N27 N30q
  have sz30 := Nat.le_trans sz27 K30.1
  have f31 := f28.keep K30 (ninS ne2 (ninS dka1 (ninS dka2 nin0)))
  have f32 := f29.keep K30 (ninS ne3 (ninS dva1 (ninS dva2 nin0)))
  refine Wk.aload k X30 at_312 rfl rfl 314 rfl ?_
  refine Wk.iload k X30 at_314 rfl 316 rfl ?_
  refine Wk.callV k X30 [(.int q)] [] at_316 (rm_ho l Z a0 hw b1 q kB vB cq _ _ _ _ T30.heap n0 hcq hq R30 C30 hl30 T30') (rfl : T30.heap = T30.heap) T30'.1 (Wk.w hw 38 rfl) (Wk.w hw 39 rfl) (Wk.w hw 41 rfl) (Wk.w hw 40 rfl) (Wk.w hw 8 rfl) (Wk.w hw 42 rfl) (by decide) rfl pd_IntMap_holds rfl rfl (Nat.le_of_ble_eq_true rfl) (Nat.le_of_ble_eq_true rfl) (Nat.le_of_ble_eq_true rfl) (Nat.le_of_ble_eq_true rfl) 319 rfl fun T33 v33 L33 X33 hQ33 => ?_
  obtain ⟨rfl, e33, rfl⟩ := hQ33
  rw [List.append_nil] at X33
  show Wk.Ends _ _ _ _ _ _ _ (mkF m 319 _ [(.int (if (own_upd (own_upd (own_upd (own_upd (own_upd (own_upd (own_upd (fun _ => (0 : Int32)) k0 v0) k1 v1) k2 v2) k3 v3) k4 v4) k5 v5) k6 v6) q = 0 then (0 : Int32) else 1))])
  refine Wk.aload k X33 at_319 rfl rfl 321 rfl ?_
  refine Wk.aload k X33 at_321 rfl rfl 323 rfl ?_
  refine Wk.iload k X33 at_323 rfl 325 rfl ?_
  refine Wk.callS k X33 [(.ref ka), (.ref va), (.int q)] [(.int (if (own_upd (own_upd (own_upd (own_upd (own_upd (own_upd (own_upd (fun _ => (0 : Int32)) k0 v0) k1 v1) k2 v2) k3 v3) k4 v4) k5 v5) k6 v6) q = 0 then (0 : Int32) else 1))] at_325 (rm_ex l Z a0 hw ka va q k0 k1 k2 k3 k4 k5 k6 v0 v1 v2 v3 v4 v5 v6 _ f31 f32) e33 (Wk.w hw 43 rfl) (Wk.w hw 44 rfl) (Wk.w hw 4 rfl) (Wk.w hw 45 rfl) (by decide) rfl pd_IntMapHoldsPinLaw_expected rfl rfl (Nat.le_of_ble_eq_true rfl) (Nat.le_of_ble_eq_true rfl) (Nat.le_of_ble_eq_true rfl) (Nat.le_of_ble_eq_true rfl) 328 rfl fun T34 v34 L34 X34 hQ34 => ?_
  obtain ⟨rfl, e34, rfl⟩ := hQ34
  rw [List.append_nil] at X34
  show Wk.Ends _ _ _ _ _ _ _ (mkF m 328 _ [(.int (if (own_upd (own_upd (own_upd (own_upd (own_upd (own_upd (own_upd (fun _ => (0 : Int32)) k0 v0) k1 v1) k2 v2) k3 v3) k4 v4) k5 v5) k6 v6) q = 0 then (0 : Int32) else 1)), (.int (if (own_upd (own_upd (own_upd (own_upd (own_upd (own_upd (own_upd (fun _ => (0 : Int32)) k0 v0) k1 v1) k2 v2) k3 v3) k4 v4) k5 v5) k6 v6) q = 0 then (0 : Int32) else 1))])
  refine Wk.icmp_ne k X34 at_328 (by decide) 335 331 (by decide) rfl (fun hc328 => ?_) (fun hc328 => ?_)
  · exact absurd rfl hc328
  · refine Wk.iconst k X34 at_331 (1 : Int32) rfl 332 rfl ?_
    refine Wk.goto k X34 at_332 (by decide) 336 (by decide) ?_
    exact Wk.ret_bool k X34 rfl at_336 (by decide) (by decide) (by decide) ⟨rfl, N30⟩
set_option maxRecDepth 65536 in
set_option maxHeartbeats 40000000 in
theorem law_177 {p : Program} {l : Launch} {e : Env} {s : State} {m : MethodId} {args : Array Value} {below : List Frame} {meth : Method} {c : Code} {Z : State} {a0 : Array Value} {h0 : Heap} {n0 : Nat} {T0 : State} {locs : List Loc} (hw : ∀ d ∈ tables_1, d.before a0 Z = true) (k : Wk.K p s m meth c Z x code maxLocals ret) (X0 : Stand p l e room_1 s m args below meth c T0 locs 2 14) (p0 p1 p2 p3 : Int32) (j4 : Int64) (p6 : Int32) (x7 : Int32) (ka va : Addr) (k0 k1 k2 k3 k4 k5 k6 v0 v1 v2 v3 v4 v5 v6 : Int32) (e0 : T0.heap = h0) (Z0 : n0 ≤ h0.size) (N0 : Fr n0 locs) (hne : ka ≠ va) (AK : Wk.Arl Z h0 ka .int (([k0, k1, k2, k3, k4, k5, k6] : List Int32).map Value.int)) (AV : Wk.Arl Z h0 va .int (([v0, v1, v2, v3, v4, v5, v6] : List Int32).map Value.int)) (ht0 : own_top k0 = false) (ht1 : own_top k1 = false) (ht2 : own_top k2 = false) (ht3 : own_top k3 = false) (ht4 : own_top k4 = false) (ht5 : own_top k5 = false) (ht6 : own_top k6 = false) : Wk.Ends p e s below room_1 (fun v _ L => v = some (.int 1) ∧ Fr n0 L) T0 (mkF m 177 #[.val (.int p0), .val (.int p1), .val (.int p2), .val (.int p3), .val (.long j4), .second, .val (.int p6), .val (.int x7), .val (.ref ka), .val (.ref va), .unset, .unset, .unset] []) := by
  refine Wk.iload k X0 at_177 rfl 179 rfl ?_
  refine Wk.iconst k X0 at_179 (1 : Int32) rfl 180 rfl ?_
  refine Wk.iushr k X0 at_180 181 rfl ?_
  refine Wk.bipush k X0 at_181 (7 : Int32) rfl 183 rfl ?_
  refine Wk.iand k X0 at_183 184 rfl ?_
  refine Wk.istore k X0 at_184 #[.val (.int p0), .val (.int p1), .val (.int p2), .val (.int p3), .val (.long j4), .second, .val (.int p6), .val (.int x7), .val (.ref ka), .val (.ref va), .val (.int ((((p6).toUInt32 >>> ((1 : Int32) &&& 31).toUInt32).toInt32) &&& (7 : Int32))), .unset, .unset] rfl 186 rfl ?_
  refine Wk.iload k X0 at_186 rfl 188 rfl ?_
  refine Wk.bipush k X0 at_188 (7 : Int32) rfl 190 rfl ?_
  refine Wk.icmp_ge k X0 at_190 (by decide) 201 193 (by decide) rfl (fun hc190 => ?_) (fun hc190 => ?_)
  · refine Wk.aload k X0 at_201 rfl rfl 203 rfl ?_
    refine Wk.bipush k X0 at_203 (6 : Int32) rfl 205 rfl ?_
    refine Wk.iaload k X0 at_205 e0 AK 6 rfl k6 rfl 206 rfl ?_
    refine Wk.iconst k X0 at_206 (2 : Int32) rfl 207 rfl ?_
    refine Wk.ixor k X0 at_207 208 rfl ?_
    refine Wk.istore k X0 at_208 #[.val (.int p0), .val (.int p1), .val (.int p2), .val (.int p3), .val (.long j4), .second, .val (.int p6), .val (.int x7), .val (.ref ka), .val (.ref va), .val (.int ((((p6).toUInt32 >>> ((1 : Int32) &&& 31).toUInt32).toInt32) &&& (7 : Int32))), .val (.int (k6 ^^^ (2 : Int32))), .unset] rfl 210 rfl ?_
    exact law_210 hw k X0 p0 p1 p2 p3 j4 p6 _ _ _ ka va k0 k1 k2 k3 k4 k5 k6 v0 v1 v2 v3 v4 v5 v6 e0 Z0 N0 hne AK AV ht0 ht1 ht2 ht3 ht4 ht5 ht6 (own_top_ne (own_top_xor ht6 (by decide)))
  · refine Wk.aload k X0 at_193 rfl rfl 195 rfl ?_
    refine Wk.iload k X0 at_195 rfl 197 rfl ?_
    have hsl := own_sel p6 hc190
    refine Wk.iaload k X0 at_197 e0 AK (((((p6).toUInt32 >>> ((1 : Int32) &&& 31).toUInt32).toInt32) &&& (7 : Int32))).toInt.toNat hsl.1 (([k0, k1, k2, k3, k4, k5, k6] : List Int32).getD (((((p6).toUInt32 >>> ((1 : Int32) &&& 31).toUInt32).toInt32) &&& (7 : Int32))).toInt.toNat 0) (own_gD hsl.2) 198 rfl ?_
    refine Wk.goto k X0 at_198 (by decide) 208 (by decide) ?_
    refine Wk.istore k X0 at_208 #[.val (.int p0), .val (.int p1), .val (.int p2), .val (.int p3), .val (.long j4), .second, .val (.int p6), .val (.int x7), .val (.ref ka), .val (.ref va), .val (.int ((((p6).toUInt32 >>> ((1 : Int32) &&& 31).toUInt32).toInt32) &&& (7 : Int32))), .val (.int (([k0, k1, k2, k3, k4, k5, k6] : List Int32).getD (((((p6).toUInt32 >>> ((1 : Int32) &&& 31).toUInt32).toInt32) &&& (7 : Int32))).toInt.toNat 0)), .unset] rfl 210 rfl ?_
    exact law_210 hw k X0 p0 p1 p2 p3 j4 p6 _ _ _ ka va k0 k1 k2 k3 k4 k5 k6 v0 v1 v2 v3 v4 v5 v6 e0 Z0 N0 hne AK AV ht0 ht1 ht2 ht3 ht4 ht5 ht6 (own_top_ne (own_all7 ht0 ht1 ht2 ht3 ht4 ht5 ht6 _ (by have := hsl.2; exact this)))
set_option maxRecDepth 65536 in
set_option maxHeartbeats 40000000 in
theorem law_16 {p : Program} {l : Launch} {e : Env} {s : State} {m : MethodId} {args : Array Value} {below : List Frame} {meth : Method} {c : Code} {Z : State} {a0 : Array Value} {h0 : Heap} {n0 : Nat} {T0 : State} (hw : ∀ d ∈ tables_1, d.before a0 Z = true) (k : Wk.K p s m meth c Z x code maxLocals ret) (X0 : Stand p l e room_1 s m args below meth c T0 [] 0 0) (p0 p1 p2 p3 : Int32) (j4 : Int64) (p6 : Int32) (mk : Int32) (e0 : T0.heap = h0) (Z0 : n0 ≤ h0.size) (N0 : Fr n0 []) (hm : own_top mk = false) : Wk.Ends p e s below room_1 (fun v _ L => v = some (.int 1) ∧ Fr n0 L) T0 (mkF m 16 #[.val (.int p0), .val (.int p1), .val (.int p2), .val (.int p3), .val (.long j4), .second, .val (.int p6), .val (.int mk), .unset, .unset, .unset, .unset, .unset] []) := by
  refine Wk.bipush k X0 at_16 (7 : Int32) rfl 18 rfl ?_
  refine Wk.newarray k X0 at_18 (Wk.w hw 1 rfl) e0 7 rfl 7 (by decide) (by decide) (by decide) (by decide) 20 rfl fun T35 h35 ka q35 X35 e35 E35 A35 => ?_
  have g35 : n0 ≤ ka := by rw [q35]; exact Z0
  have sz35 := Nat.le_trans Z0 E35.1
  have A35' : Wk.Arl Z h35 ka .int (([(0 : Int32), (0 : Int32), (0 : Int32), (0 : Int32), (0 : Int32), (0 : Int32), (0 : Int32)] : List Int32).map Value.int) := A35
  refine Wk.astore k X35 at_20 rfl #[.val (.int p0), .val (.int p1), .val (.int p2), .val (.int p3), .val (.long j4), .second, .val (.int p6), .val (.int mk), .val (.ref ka), .unset, .unset, .unset, .unset] rfl 22 rfl ?_
  refine Wk.aload k X35 at_22 rfl rfl 24 rfl ?_
  refine Wk.iconst k X35 at_24 (0 : Int32) rfl 25 rfl ?_
  refine Wk.iload_n k X35 at_25 rfl 26 rfl ?_
  refine Wk.iload k X35 at_26 rfl 28 rfl ?_
  refine Wk.iand k X35 at_28 29 rfl ?_
  refine Wk.iastore k X35 (x := (p0 &&& mk)) at_29 e35 A35' 0 rfl (show 0 < 7 from by decide) 30 rfl fun T36 h36 X36 e36 W36 A36 => ?_
  have sz36 : n0 ≤ h36.size := by rw [W36.size]; exact sz35
  have N37 := Fr.snoc X36 N0 g35
  have A36' : Wk.Arl Z h36 ka .int (([(p0 &&& mk), (0 : Int32), (0 : Int32), (0 : Int32), (0 : Int32), (0 : Int32), (0 : Int32)] : List Int32).map Value.int) := A36
  refine Wk.aload k X36 at_30 rfl rfl 32 rfl ?_
  refine Wk.iconst k X36 at_32 (1 : Int32) rfl 33 rfl ?_
  refine Wk.iload_n k X36 at_33 rfl 34 rfl ?_
  refine Wk.iload k X36 at_34 rfl 36 rfl ?_
  refine Wk.iand k X36 at_36 37 rfl ?_
  refine Wk.iastore k X36 (x := (p1 &&& mk)) at_37 e36 A36' 1 rfl (show 1 < 7 from by decide) 38 rfl fun T38 h38 X38 e38 W38 A38 => ?_
  have sz38 : n0 ≤ h38.size := by rw [W38.size]; exact sz36
  have N39 := Fr.snoc X38 N37 g35
  have A38' : Wk.Arl Z h38 ka .int (([(p0 &&& mk), (p1 &&& mk), (0 : Int32), (0 : Int32), (0 : Int32), (0 : Int32), (0 : Int32)] : List Int32).map Value.int) := A38
  refine Wk.aload k X38 at_38 rfl rfl 40 rfl ?_
  refine Wk.iconst k X38 at_40 (2 : Int32) rfl 41 rfl ?_
  refine Wk.iload_n k X38 at_41 rfl 42 rfl ?_
  refine Wk.iload k X38 at_42 rfl 44 rfl ?_
  refine Wk.iand k X38 at_44 45 rfl ?_
  refine Wk.iastore k X38 (x := (p2 &&& mk)) at_45 e38 A38' 2 rfl (show 2 < 7 from by decide) 46 rfl fun T40 h40 X40 e40 W40 A40 => ?_
  have sz40 : n0 ≤ h40.size := by rw [W40.size]; exact sz38
  have N41 := Fr.snoc X40 N39 g35
  have A40' : Wk.Arl Z h40 ka .int (([(p0 &&& mk), (p1 &&& mk), (p2 &&& mk), (0 : Int32), (0 : Int32), (0 : Int32), (0 : Int32)] : List Int32).map Value.int) := A40
  refine Wk.aload k X40 at_46 rfl rfl 48 rfl ?_
  refine Wk.iconst k X40 at_48 (3 : Int32) rfl 49 rfl ?_
  refine Wk.aload k X40 at_49 rfl rfl 51 rfl ?_
  refine Wk.iconst k X40 at_51 (0 : Int32) rfl 52 rfl ?_
  refine Wk.iaload k X40 at_52 e40 A40' 0 rfl (p0 &&& mk) rfl 53 rfl ?_
  refine Wk.iconst k X40 at_53 (1 : Int32) rfl 54 rfl ?_
  refine Wk.ixor k X40 at_54 55 rfl ?_
  refine Wk.iastore k X40 (x := ((p0 &&& mk) ^^^ (1 : Int32))) at_55 e40 A40' 3 rfl (show 3 < 7 from by decide) 56 rfl fun T42 h42 X42 e42 W42 A42 => ?_
  have sz42 : n0 ≤ h42.size := by rw [W42.size]; exact sz40
  have N43 := Fr.snoc X42 N41 g35
  have A42' : Wk.Arl Z h42 ka .int (([(p0 &&& mk), (p1 &&& mk), (p2 &&& mk), ((p0 &&& mk) ^^^ (1 : Int32)), (0 : Int32), (0 : Int32), (0 : Int32)] : List Int32).map Value.int) := A42
  refine Wk.aload k X42 at_56 rfl rfl 58 rfl ?_
  refine Wk.iconst k X42 at_58 (4 : Int32) rfl 59 rfl ?_
  refine Wk.aload k X42 at_59 rfl rfl 61 rfl ?_
  refine Wk.iconst k X42 at_61 (1 : Int32) rfl 62 rfl ?_
  refine Wk.iaload k X42 at_62 e42 A42' 1 rfl (p1 &&& mk) rfl 63 rfl ?_
  refine Wk.iconst k X42 at_63 (1 : Int32) rfl 64 rfl ?_
  refine Wk.ixor k X42 at_64 65 rfl ?_
  refine Wk.iastore k X42 (x := ((p1 &&& mk) ^^^ (1 : Int32))) at_65 e42 A42' 4 rfl (show 4 < 7 from by decide) 66 rfl fun T44 h44 X44 e44 W44 A44 => ?_
  have sz44 : n0 ≤ h44.size := by rw [W44.size]; exact sz42
  have N45 := Fr.snoc X44 N43 g35
  have A44' : Wk.Arl Z h44 ka .int (([(p0 &&& mk), (p1 &&& mk), (p2 &&& mk), ((p0 &&& mk) ^^^ (1 : Int32)), ((p1 &&& mk) ^^^ (1 : Int32)), (0 : Int32), (0 : Int32)] : List Int32).map Value.int) := A44
  refine Wk.aload k X44 at_66 rfl rfl 68 rfl ?_
  refine Wk.iconst k X44 at_68 (5 : Int32) rfl 69 rfl ?_
  refine Wk.aload k X44 at_69 rfl rfl 71 rfl ?_
  refine Wk.iconst k X44 at_71 (2 : Int32) rfl 72 rfl ?_
  refine Wk.iaload k X44 at_72 e44 A44' 2 rfl (p2 &&& mk) rfl 73 rfl ?_
  refine Wk.iconst k X44 at_73 (1 : Int32) rfl 74 rfl ?_
  refine Wk.ixor k X44 at_74 75 rfl ?_
  refine Wk.iastore k X44 (x := ((p2 &&& mk) ^^^ (1 : Int32))) at_75 e44 A44' 5 rfl (show 5 < 7 from by decide) 76 rfl fun T46 h46 X46 e46 W46 A46 => ?_
  have sz46 : n0 ≤ h46.size := by rw [W46.size]; exact sz44
  have N47 := Fr.snoc X46 N45 g35
  have A46' : Wk.Arl Z h46 ka .int (([(p0 &&& mk), (p1 &&& mk), (p2 &&& mk), ((p0 &&& mk) ^^^ (1 : Int32)), ((p1 &&& mk) ^^^ (1 : Int32)), ((p2 &&& mk) ^^^ (1 : Int32)), (0 : Int32)] : List Int32).map Value.int) := A46
  refine Wk.aload k X46 at_76 rfl rfl 78 rfl ?_
  refine Wk.bipush k X46 at_78 (6 : Int32) rfl 80 rfl ?_
  refine Wk.iload_n k X46 at_80 rfl 81 rfl ?_
  refine Wk.iload k X46 at_81 rfl 83 rfl ?_
  refine Wk.iand k X46 at_83 84 rfl ?_
  refine Wk.iastore k X46 (x := (p3 &&& mk)) at_84 e46 A46' 6 rfl (show 6 < 7 from by decide) 85 rfl fun T48 h48 X48 e48 W48 A48 => ?_
  have sz48 : n0 ≤ h48.size := by rw [W48.size]; exact sz46
  have N49 := Fr.snoc X48 N47 g35
  have A48' : Wk.Arl Z h48 ka .int (([(p0 &&& mk), (p1 &&& mk), (p2 &&& mk), ((p0 &&& mk) ^^^ (1 : Int32)), ((p1 &&& mk) ^^^ (1 : Int32)), ((p2 &&& mk) ^^^ (1 : Int32)), (p3 &&& mk)] : List Int32).map Value.int) := A48
  refine Wk.bipush k X48 at_85 (7 : Int32) rfl 87 rfl ?_
  refine Wk.newarray k X48 at_87 (Wk.w hw 1 rfl) e48 7 rfl 7 (by decide) (by decide) (by decide) (by decide) 89 rfl fun T50 h50 va q50 X50 e50 E50 A50 => ?_
  have g50 : n0 ≤ va := by rw [q50]; exact sz48
  have ne51 : ka ≠ va := by rw [q50]; exact Nat.ne_of_lt A48'.lt
  have sz50 := Nat.le_trans sz48 E50.1
  have f52 := A48'.ext E50
  have A50' : Wk.Arl Z h50 va .int (([(0 : Int32), (0 : Int32), (0 : Int32), (0 : Int32), (0 : Int32), (0 : Int32), (0 : Int32)] : List Int32).map Value.int) := A50
  refine Wk.astore k X50 at_89 rfl #[.val (.int p0), .val (.int p1), .val (.int p2), .val (.int p3), .val (.long j4), .second, .val (.int p6), .val (.int mk), .val (.ref ka), .val (.ref va), .unset, .unset, .unset] rfl 91 rfl ?_
  refine Wk.aload k X50 at_91 rfl rfl 93 rfl ?_
  refine Wk.iconst k X50 at_93 (0 : Int32) rfl 94 rfl ?_
  refine Wk.lload k X50 at_94 rfl 96 rfl ?_
  refine Wk.iload k X50 at_96 rfl 98 rfl ?_
  refine Wk.iconst k X50 at_98 (0 : Int32) rfl 99 rfl ?_
  refine Wk.callS k X50 [(.long j4), (.int p6), (.int (0 : Int32))] [(.int (0 : Int32)), (.ref va)] at_99 (rm_val l Z a0 hw _ _ _ _) e50 (Wk.w hw 2 rfl) (Wk.w hw 3 rfl) (Wk.w hw 4 rfl) (Wk.w hw 5 rfl) (by decide) rfl pd_IntMapHoldsPinLaw_val rfl rfl (Nat.le_of_ble_eq_true rfl) (Nat.le_of_ble_eq_true rfl) (Nat.le_of_ble_eq_true rfl) (Nat.le_of_ble_eq_true rfl) 102 rfl fun T53 v53 L53 X53 hQ53 => ?_
  obtain ⟨v0, rfl, e53, rfl⟩ := hQ53
  rw [List.append_nil] at X53
  show Wk.Ends _ _ _ _ _ _ _ (mkF m 102 _ [(.int v0), (.int (0 : Int32)), (.ref va)])
  refine Wk.iastore k X53 (x := v0) at_102 e53 A50' 0 rfl (show 0 < 7 from by decide) 103 rfl fun T54 h54 X54 e54 W54 A54 => ?_
  have sz54 : n0 ≤ h54.size := by rw [W54.size]; exact sz50
  have N55 := Fr.snoc X54 N49 g50
  have f56 := f52.other W54 ne51
  have A54' : Wk.Arl Z h54 va .int (([v0, (0 : Int32), (0 : Int32), (0 : Int32), (0 : Int32), (0 : Int32), (0 : Int32)] : List Int32).map Value.int) := A54
  refine Wk.aload k X54 at_103 rfl rfl 105 rfl ?_
  refine Wk.iconst k X54 at_105 (1 : Int32) rfl 106 rfl ?_
  refine Wk.lload k X54 at_106 rfl 108 rfl ?_
  refine Wk.iload k X54 at_108 rfl 110 rfl ?_
  refine Wk.iconst k X54 at_110 (1 : Int32) rfl 111 rfl ?_
  refine Wk.callS k X54 [(.long j4), (.int p6), (.int (1 : Int32))] [(.int (1 : Int32)), (.ref va)] at_111 (rm_val l Z a0 hw _ _ _ _) e54 (Wk.w hw 2 rfl) (Wk.w hw 3 rfl) (Wk.w hw 4 rfl) (Wk.w hw 5 rfl) (by decide) rfl pd_IntMapHoldsPinLaw_val rfl rfl (Nat.le_of_ble_eq_true rfl) (Nat.le_of_ble_eq_true rfl) (Nat.le_of_ble_eq_true rfl) (Nat.le_of_ble_eq_true rfl) 114 rfl fun T57 v57 L57 X57 hQ57 => ?_
  obtain ⟨v1, rfl, e57, rfl⟩ := hQ57
  rw [List.append_nil] at X57
  show Wk.Ends _ _ _ _ _ _ _ (mkF m 114 _ [(.int v1), (.int (1 : Int32)), (.ref va)])
  refine Wk.iastore k X57 (x := v1) at_114 e57 A54' 1 rfl (show 1 < 7 from by decide) 115 rfl fun T58 h58 X58 e58 W58 A58 => ?_
  have sz58 : n0 ≤ h58.size := by rw [W58.size]; exact sz54
  have N59 := Fr.snoc X58 N55 g50
  have f60 := f56.other W58 ne51
  have A58' : Wk.Arl Z h58 va .int (([v0, v1, (0 : Int32), (0 : Int32), (0 : Int32), (0 : Int32), (0 : Int32)] : List Int32).map Value.int) := A58
  refine Wk.aload k X58 at_115 rfl rfl 117 rfl ?_
  refine Wk.iconst k X58 at_117 (2 : Int32) rfl 118 rfl ?_
  refine Wk.lload k X58 at_118 rfl 120 rfl ?_
  refine Wk.iload k X58 at_120 rfl 122 rfl ?_
  refine Wk.iconst k X58 at_122 (2 : Int32) rfl 123 rfl ?_
  refine Wk.callS k X58 [(.long j4), (.int p6), (.int (2 : Int32))] [(.int (2 : Int32)), (.ref va)] at_123 (rm_val l Z a0 hw _ _ _ _) e58 (Wk.w hw 2 rfl) (Wk.w hw 3 rfl) (Wk.w hw 4 rfl) (Wk.w hw 5 rfl) (by decide) rfl pd_IntMapHoldsPinLaw_val rfl rfl (Nat.le_of_ble_eq_true rfl) (Nat.le_of_ble_eq_true rfl) (Nat.le_of_ble_eq_true rfl) (Nat.le_of_ble_eq_true rfl) 126 rfl fun T61 v61 L61 X61 hQ61 => ?_
  obtain ⟨v2, rfl, e61, rfl⟩ := hQ61
  rw [List.append_nil] at X61
  show Wk.Ends _ _ _ _ _ _ _ (mkF m 126 _ [(.int v2), (.int (2 : Int32)), (.ref va)])
  refine Wk.iastore k X61 (x := v2) at_126 e61 A58' 2 rfl (show 2 < 7 from by decide) 127 rfl fun T62 h62 X62 e62 W62 A62 => ?_
  have sz62 : n0 ≤ h62.size := by rw [W62.size]; exact sz58
  have N63 := Fr.snoc X62 N59 g50
  have f64 := f60.other W62 ne51
  have A62' : Wk.Arl Z h62 va .int (([v0, v1, v2, (0 : Int32), (0 : Int32), (0 : Int32), (0 : Int32)] : List Int32).map Value.int) := A62
  refine Wk.aload k X62 at_127 rfl rfl 129 rfl ?_
  refine Wk.iconst k X62 at_129 (3 : Int32) rfl 130 rfl ?_
  refine Wk.lload k X62 at_130 rfl 132 rfl ?_
  refine Wk.iload k X62 at_132 rfl 134 rfl ?_
  refine Wk.iconst k X62 at_134 (3 : Int32) rfl 135 rfl ?_
  refine Wk.callS k X62 [(.long j4), (.int p6), (.int (3 : Int32))] [(.int (3 : Int32)), (.ref va)] at_135 (rm_val l Z a0 hw _ _ _ _) e62 (Wk.w hw 2 rfl) (Wk.w hw 3 rfl) (Wk.w hw 4 rfl) (Wk.w hw 5 rfl) (by decide) rfl pd_IntMapHoldsPinLaw_val rfl rfl (Nat.le_of_ble_eq_true rfl) (Nat.le_of_ble_eq_true rfl) (Nat.le_of_ble_eq_true rfl) (Nat.le_of_ble_eq_true rfl) 138 rfl fun T65 v65 L65 X65 hQ65 => ?_
  obtain ⟨v3, rfl, e65, rfl⟩ := hQ65
  rw [List.append_nil] at X65
  show Wk.Ends _ _ _ _ _ _ _ (mkF m 138 _ [(.int v3), (.int (3 : Int32)), (.ref va)])
  refine Wk.iastore k X65 (x := v3) at_138 e65 A62' 3 rfl (show 3 < 7 from by decide) 139 rfl fun T66 h66 X66 e66 W66 A66 => ?_
  have sz66 : n0 ≤ h66.size := by rw [W66.size]; exact sz62
  have N67 := Fr.snoc X66 N63 g50
  have f68 := f64.other W66 ne51
  have A66' : Wk.Arl Z h66 va .int (([v0, v1, v2, v3, (0 : Int32), (0 : Int32), (0 : Int32)] : List Int32).map Value.int) := A66
  refine Wk.aload k X66 at_139 rfl rfl 141 rfl ?_
  refine Wk.iconst k X66 at_141 (4 : Int32) rfl 142 rfl ?_
  refine Wk.lload k X66 at_142 rfl 144 rfl ?_
  refine Wk.iload k X66 at_144 rfl 146 rfl ?_
  refine Wk.iconst k X66 at_146 (4 : Int32) rfl 147 rfl ?_
  refine Wk.callS k X66 [(.long j4), (.int p6), (.int (4 : Int32))] [(.int (4 : Int32)), (.ref va)] at_147 (rm_val l Z a0 hw _ _ _ _) e66 (Wk.w hw 2 rfl) (Wk.w hw 3 rfl) (Wk.w hw 4 rfl) (Wk.w hw 5 rfl) (by decide) rfl pd_IntMapHoldsPinLaw_val rfl rfl (Nat.le_of_ble_eq_true rfl) (Nat.le_of_ble_eq_true rfl) (Nat.le_of_ble_eq_true rfl) (Nat.le_of_ble_eq_true rfl) 150 rfl fun T69 v69 L69 X69 hQ69 => ?_
  obtain ⟨v4, rfl, e69, rfl⟩ := hQ69
  rw [List.append_nil] at X69
  show Wk.Ends _ _ _ _ _ _ _ (mkF m 150 _ [(.int v4), (.int (4 : Int32)), (.ref va)])
  refine Wk.iastore k X69 (x := v4) at_150 e69 A66' 4 rfl (show 4 < 7 from by decide) 151 rfl fun T70 h70 X70 e70 W70 A70 => ?_
  have sz70 : n0 ≤ h70.size := by rw [W70.size]; exact sz66
  have N71 := Fr.snoc X70 N67 g50
  have f72 := f68.other W70 ne51
  have A70' : Wk.Arl Z h70 va .int (([v0, v1, v2, v3, v4, (0 : Int32), (0 : Int32)] : List Int32).map Value.int) := A70
  refine Wk.aload k X70 at_151 rfl rfl 153 rfl ?_
  refine Wk.iconst k X70 at_153 (5 : Int32) rfl 154 rfl ?_
  refine Wk.lload k X70 at_154 rfl 156 rfl ?_
  refine Wk.iload k X70 at_156 rfl 158 rfl ?_
  refine Wk.iconst k X70 at_158 (5 : Int32) rfl 159 rfl ?_
  refine Wk.callS k X70 [(.long j4), (.int p6), (.int (5 : Int32))] [(.int (5 : Int32)), (.ref va)] at_159 (rm_val l Z a0 hw _ _ _ _) e70 (Wk.w hw 2 rfl) (Wk.w hw 3 rfl) (Wk.w hw 4 rfl) (Wk.w hw 5 rfl) (by decide) rfl pd_IntMapHoldsPinLaw_val rfl rfl (Nat.le_of_ble_eq_true rfl) (Nat.le_of_ble_eq_true rfl) (Nat.le_of_ble_eq_true rfl) (Nat.le_of_ble_eq_true rfl) 162 rfl fun T73 v73 L73 X73 hQ73 => ?_
  obtain ⟨v5, rfl, e73, rfl⟩ := hQ73
  rw [List.append_nil] at X73
  show Wk.Ends _ _ _ _ _ _ _ (mkF m 162 _ [(.int v5), (.int (5 : Int32)), (.ref va)])
  refine Wk.iastore k X73 (x := v5) at_162 e73 A70' 5 rfl (show 5 < 7 from by decide) 163 rfl fun T74 h74 X74 e74 W74 A74 => ?_
  have sz74 : n0 ≤ h74.size := by rw [W74.size]; exact sz70
  have N75 := Fr.snoc X74 N71 g50
  have f76 := f72.other W74 ne51
  have A74' : Wk.Arl Z h74 va .int (([v0, v1, v2, v3, v4, v5, (0 : Int32)] : List Int32).map Value.int) := A74
  refine Wk.aload k X74 at_163 rfl rfl 165 rfl ?_
  refine Wk.bipush k X74 at_165 (6 : Int32) rfl 167 rfl ?_
  refine Wk.lload k X74 at_167 rfl 169 rfl ?_
  refine Wk.iload k X74 at_169 rfl 171 rfl ?_
  refine Wk.bipush k X74 at_171 (6 : Int32) rfl 173 rfl ?_
  refine Wk.callS k X74 [(.long j4), (.int p6), (.int (6 : Int32))] [(.int (6 : Int32)), (.ref va)] at_173 (rm_val l Z a0 hw _ _ _ _) e74 (Wk.w hw 2 rfl) (Wk.w hw 3 rfl) (Wk.w hw 4 rfl) (Wk.w hw 5 rfl) (by decide) rfl pd_IntMapHoldsPinLaw_val rfl rfl (Nat.le_of_ble_eq_true rfl) (Nat.le_of_ble_eq_true rfl) (Nat.le_of_ble_eq_true rfl) (Nat.le_of_ble_eq_true rfl) 176 rfl fun T77 v77 L77 X77 hQ77 => ?_
  obtain ⟨v6, rfl, e77, rfl⟩ := hQ77
  rw [List.append_nil] at X77
  show Wk.Ends _ _ _ _ _ _ _ (mkF m 176 _ [(.int v6), (.int (6 : Int32)), (.ref va)])
  refine Wk.iastore k X77 (x := v6) at_176 e77 A74' 6 rfl (show 6 < 7 from by decide) 177 rfl fun T78 h78 X78 e78 W78 A78 => ?_
  have sz78 : n0 ≤ h78.size := by rw [W78.size]; exact sz74
  have N79 := Fr.snoc X78 N75 g50
  have f80 := f76.other W78 ne51
  have A78' : Wk.Arl Z h78 va .int (([v0, v1, v2, v3, v4, v5, v6] : List Int32).map Value.int) := A78
  exact law_177 hw k X78 p0 p1 p2 p3 j4 p6 mk ka va _ _ _ _ _ _ _ v0 v1 v2 v3 v4 v5 v6 e78 sz78 N79 ne51 f80 A78' (own_top_and hm) (own_top_and hm) (own_top_and hm) (own_top_xor (own_top_and hm) (by decide)) (own_top_xor (own_top_and hm) (by decide)) (own_top_xor (own_top_and hm) (by decide)) (own_top_and hm)
theorem ef_law (m : MethodId) (p0 p1 p2 p3 : Int32) (j4 : Int64) (p6 : Int32) : entryFrame m #[(.int p0), (.int p1), (.int p2), (.int p3), (.long j4), (.int p6)] maxLocals = mkF m 0 #[.val (.int p0), .val (.int p1), .val (.int p2), .val (.int p3), .val (.long j4), .second, .val (.int p6), .unset, .unset, .unset, .unset, .unset, .unset] [] := by first | (simp [entryFrame, mkF, argsToLocals, Value.category, maxLocals]; done) | rfl
set_option maxRecDepth 65536 in
set_option maxHeartbeats 40000000 in
theorem rm0 (l : Launch) (Z : State) (a0 : Array Value) (hw : ∀ d ∈ tables_1, d.before a0 Z = true) (ws : List Jvm.Cond) (p0 p1 p2 p3 : Int32) (j4 : Int64) (p6 : Int32) (h0 : Heap) (n0 : Nat) (Z0 : n0 ≤ h0.size) : Wk.Met l x code maxLocals ret room_1 #[(.int p0), (.int p1), (.int p2), (.int p3), (.long j4), (.int p6)] Z h0 (fun v _ L => v = some (.int 1) ∧ Fr n0 L) ws := by
  refine Wk.enter pn_IntMapHoldsPinLaw_law (fun p e s m below meth c T0 k X0 e0 => ?_)
  refine (Wk.Ends.cast (ef_law m p0 p1 p2 p3 j4 p6) ?_)
  refine Wk.iload k X0 at_0 rfl 2 rfl ?_
  refine Wk.iconst k X0 at_2 (1 : Int32) rfl 3 rfl ?_
  refine Wk.iand k X0 at_3 4 rfl ?_
  refine Wk.if_eq k X0 at_4 (by decide) 12 7 (by decide) rfl (fun hc4 => ?_) (fun hc4 => ?_)
  · refine Wk.ldc k X0 (z := (2147483647 : Int32)) at_12 (Wk.w hw 0 rfl) 14 rfl ?_
    refine Wk.istore k X0 at_14 #[.val (.int p0), .val (.int p1), .val (.int p2), .val (.int p3), .val (.long j4), .second, .val (.int p6), .val (.int (2147483647 : Int32)), .unset, .unset, .unset, .unset, .unset] rfl 16 rfl ?_
    exact law_16 hw k X0 p0 p1 p2 p3 j4 p6 _ e0 Z0 (Fr.nil _) (by decide)
  · refine Wk.bipush k X0 at_7 (15 : Int32) rfl 9 rfl ?_
    refine Wk.goto k X0 at_9 (by decide) 14 (by decide) ?_
    refine Wk.istore k X0 at_14 #[.val (.int p0), .val (.int p1), .val (.int p2), .val (.int p3), .val (.long j4), .second, .val (.int p6), .val (.int (15 : Int32)), .unset, .unset, .unset, .unset, .unset] rfl 16 rfl ?_
    exact law_16 hw k X0 p0 p1 p2 p3 j4 p6 _ e0 Z0 (Fr.nil _) (by decide)
set_option maxRecDepth 65536 in
set_option maxHeartbeats 40000000 in
theorem comes_1 {Post : Tables → Env → Array Value → State → Outcome → State → Prop} (hpost : ∀ tb e args s v u, (limb_1_1.after args s (.returned v) u = true ∧ limb_1_2.after args s (.returned v) u = true) → FrameEnd s (.returned v) u (Jvm.fieldLocs frame_1_writes args s ++ Jvm.arrayLocs frame_1_arrays args s ++ Jvm.staticLocs frame_1_statics s) 24 256 → Post tb e args s (.returned v) u) :
    ArmFor flags0 classFile x code maxLocals ret World_1 tables_1 room_1 Calls_1 rest_1 Pre_1 Post := by
  intro l hfl _ _ p e ha hc hk s m args below hf hA hF happ hP
  obtain ⟨hcalls, hrest, hpre⟩ := hP
  obtain ⟨-, -, -, hnamed, -, -, -, hat⟩ := (Spec.applies_iff hf).mp happ
  obtain ⟨hg, hn⟩ := and_e (Cond.before_iff.mp (show (Jvm.Cond.and given_1 narrow_1).before args s = true from hpre))
  obtain ⟨gc, g0⟩ := and_e hg
  obtain ⟨q0, g1⟩ := and_e g0
  obtain ⟨q1, g2⟩ := and_e g1
  obtain ⟨q2, g3⟩ := and_e g2
  obtain ⟨q3, g4⟩ := and_e g3
  obtain ⟨q4, g5⟩ := and_e g4
  have q5 := g5
  obtain ⟨w0, w1, w2, w3, w4, w5, rfl⟩ : ∃ w0 w1 w2 w3 w4 w5 : Value, args = #[w0, w1, w2, w3, w4, w5] := by
    have hs : args.size = 6 := by simpa [Cond.value, given_1] using gc
    obtain ⟨L⟩ := args
    match L, hs with
    | [w0, w1, w2, w3, w4, w5], _ => exact ⟨w0, w1, w2, w3, w4, w5, rfl⟩
  have hw := fun d (hd : d ∈ tables_1) => atoms_spec (ws := Jvm.Cond.code x code maxLocals ret :: tables_1) hat d (List.mem_cons_of_mem _ hd)
  have hfit : Fit s := fun {y c} hc i hi => by
    obtain ⟨ha, rfl⟩ := Array.getElem?_eq_some_iff.mp hc
    have q := List.all_eq_true.mp ((Array.all_eq_true_iff_forall_mem.mp hF) _ (Array.getElem_mem ha)) i (List.mem_range.mpr hi)
    simpa [Array.getElem?_eq_getElem hi] using q
  obtain ⟨i0, ei0⟩ := is_v q0
  obtain rfl : w0 = (.int i0) := Option.some.inj ei0
  obtain ⟨i1, ei1⟩ := is_v q1
  obtain rfl : w1 = (.int i1) := Option.some.inj ei1
  obtain ⟨i2, ei2⟩ := is_v q2
  obtain rfl : w2 = (.int i2) := Option.some.inj ei2
  obtain ⟨i3, ei3⟩ := is_v q3
  obtain rfl : w3 = (.int i3) := Option.some.inj ei3
  obtain ⟨i4, ei4⟩ := isL_v q4
  obtain rfl : w4 = (.long i4) := Option.some.inj ei4
  obtain ⟨i5, ei5⟩ := is_v q5
  obtain rfl : w5 = (.int i5) := Option.some.inj ei5
  obtain ⟨n, o, h1, h2, h3, _, L, rfl, ⟨rfl, N⟩, hq⟩ := rm0 l s _ hw tables_1 i0 i1 i2 i3 i4 i5 s.heap s.heap.size (Nat.le_refl _) p e ha hc hk s m _ below hf ((Spec.applies_iff_loose hf).mp happ).1 ⟨rfl, State.Warmed39.refl s, rfl⟩ trivial
  exact ⟨n, _, h1, h2, h3, hpost _ _ _ _ _ _ ⟨Cond.after_iff.mpr rfl, Cond.after_iff.mpr (eq_i res_at (Term.int_eval (1)) rfl)⟩ ⟨hq.1, hq.2.1, (hq.2.2.sift fun y hy => Or.inr (N y hy)).mono (by decide) (by decide)⟩⟩
theorem main_1_1 : Claimed_1_1 := comes_1 fun _ _ _ _ _ _ h hF => ⟨h.1, hF⟩
theorem main_1_2 : Claimed_1_2 := comes_1 fun _ _ _ _ _ _ h hF => ⟨h.2, hF⟩
end Jvm.Pilot.@@N@@
namespace Jvm.Pilot.@@N@@
open Jvm Jvm.ClassFile Sem Op Lib Jvm.Free Jvm.Stand Jvm.Pilot.@@N@@.Jvm.D
/-! MADE BY PROGRAM (witnessworld.py) out of the Statement's table words and the real class files: 10 classes; the members and pool entries that the words name. The judged class is class 1, her method 1. -/
namespace start1
open Jvm.ClassFile
def u (s : String) : CpInfo := .utf8 (stringToUtf16 s)
/-- a pool by its gaps: so many unusable entries, then the entry; so many at the end -/
def gap : Nat → List CpInfo → List CpInfo
  | 0, r => r
  | n + 1, r => .unusable :: gap n r
def poolList (es : List (Nat × CpInfo)) (last : Nat) : List CpInfo := es.foldr (fun e r => gap e.1 (e.2 :: r)) (gap last [])
def pool (es : List (Nat × CpInfo)) (last : Nat) : Array CpInfo := ⟨poolList es last⟩
def fileOf (pool : Array CpInfo) (this : Nat) (attrs : Array Attribute := #[]) (ms : Array MethodInfo := #[]) (fl : Nat := 33) (sup : Nat := 0) (ifs : Array Nat := #[]) (fds : Array FieldInfo := #[]) : ClassFile where
  minorVersion := 0
  majorVersion := 65
  constantPool := pool
  accessFlags := fl
  thisClass := this
  superClass := sup
  interfaces := ifs
  fields := fds
  methods := ms
  attributes := attrs
def plain (name : String) (sup : Option ClassId) : Class where
  name := name
  kind := .ordinary
  loader := none
  accessFlags := 33
  super := sup
  interfaces := #[]
  cf := none
  fields := #[]
  methods := #[]
  instanceTypes := #[]
  staticTypes := #[]
  resolved := #[]
  callSites := []
  init := .initialized
  statics := none
  mirror := none

def pool0 : Array CpInfo := pool [(5, u "<init>"), (0, u "()V"), (1, .class_ 10), (1, u "java/lang/Object")] 113

def k0c0 : Code := { maxStack := 0, maxLocals := 1, code := object_method_1_code, exceptionTable := #[], attributes := #[] }
def k0m0 : Method := { name := "<init>", desc := "()V", sig := { parameters := [], returnType := none }, accessFlags := 1, code := some k0c0 }
/-- java/lang/Object -/
def k0 : Class := { plain "java/lang/Object" none with
  accessFlags := 33
  interfaces := #[]
  cf := some (fileOf pool0 8 #[] #[{ accessFlags := 1, nameIndex := 5, descriptorIndex := 6, attributes := #[] }] 33 0 #[] #[])
  fields := #[]
  methods := #[k0m0]
  instanceTypes := #[]
  staticTypes := #[]
  resolved := Array.replicate 124 none
  statics := none }

def pool1 : Array CpInfo := pool [(2, .class_ 4), (0, .nameAndType 5 6), (0, u "java/lang/Object"), (0, u "<init>"), (0, u "()V"), (0, .integer 2147483647), (0, .methodref 9 10), (0, .class_ 11), (0, .nameAndType 12 13), (0, u "com/example/sensebid/sensebid/IntMapHoldsPinLaw"), (0, u "val"), (0, u "(JII)I"), (0, .class_ 15), (0, u "com/example/sensebid/sensebid/IntMap"), (0, .methodref 14 3), (0, .methodref 14 18), (0, .nameAndType 19 20), (0, u "put"), (0, u "(II)V"), (0, .methodref 14 22), (0, .nameAndType 23 24), (0, u "holds"), (0, u "(I)Z"), (0, .methodref 9 26), (0, .nameAndType 27 28), (0, u "expected"), (0, u "([I[II)Z"), (2, u "law"), (0, u "(IIIIJI)Z")] 5

def k1m0 : Method := { name := "<init>", desc := "()V", sig := { parameters := [], returnType := none }, accessFlags := 1, code := none }
def k1c1 : Code := { maxStack := 6, maxLocals := 13, code := code, exceptionTable := #[], attributes := #[] }
def k1m1 : Method := { name := "law", desc := "(IIIIJI)Z", sig := { parameters := [.int, .int, .int, .int, .long, .int], returnType := some .boolean }, accessFlags := 9, code := some k1c1 }
def k1c2 : Code := { maxStack := 4, maxLocals := 4, code := method_3_code, exceptionTable := #[], attributes := #[] }
def k1m2 : Method := { name := "val", desc := "(JII)I", sig := { parameters := [.long, .int, .int], returnType := some .int }, accessFlags := 10, code := some k1c2 }
def k1c3 : Code := { maxStack := 2, maxLocals := 3, code := method_4_code, exceptionTable := #[], attributes := #[] }
def k1m3 : Method := { name := "expected", desc := "([I[II)Z", sig := { parameters := [(.array .int), (.array .int), .int], returnType := some .boolean }, accessFlags := 10, code := some k1c3 }
/-- com/example/sensebid/sensebid/IntMapHoldsPinLaw -/
def k1 : Class := { plain "com/example/sensebid/sensebid/IntMapHoldsPinLaw" (some 0) with
  accessFlags := 49
  interfaces := #[]
  cf := some (fileOf pool1 9 #[] #[{ accessFlags := 1, nameIndex := 5, descriptorIndex := 6, attributes := #[] }, { accessFlags := 9, nameIndex := 31, descriptorIndex := 32, attributes := #[] }, { accessFlags := 10, nameIndex := 12, descriptorIndex := 13, attributes := #[] }, { accessFlags := 10, nameIndex := 27, descriptorIndex := 28, attributes := #[] }] 49 2 #[] #[])
  fields := #[]
  methods := #[k1m0, k1m1, k1m2, k1m3]
  instanceTypes := #[]
  staticTypes := #[]
  resolved := Array.replicate 38 none
  statics := none }

def pool2 : Array CpInfo := pool [(1, .methodref 2 3), (0, .class_ 4), (0, .nameAndType 5 6), (0, u "java/lang/Object"), (0, u "<init>"), (0, u "()V"), (0, .fieldref 8 9), (0, .class_ 10), (0, .nameAndType 11 12), (0, u "com/example/sensebid/sensebid/IntMap"), (0, u "keys"), (0, u "[I"), (0, .fieldref 8 14), (0, .nameAndType 15 12), (0, u "values"), (0, .methodref 17 18), (0, .class_ 19), (0, .nameAndType 20 21), (0, u "java/util/Arrays"), (0, u "fill"), (0, u "([II)V"), (0, .fieldref 8 23), (0, .nameAndType 24 25), (0, u "size"), (0, u "I"), (0, .methodref 8 27), (0, .nameAndType 28 29), (0, u "find"), (0, u "(I)I"), (3, .methodref 8 34), (0, .nameAndType 35 36), (0, u "put"), (0, u "(II)V"), (0, .methodref 8 38), (0, .nameAndType 39 40), (0, u "remove"), (0, u "(I)V"), (0, .methodref 8 42), (0, .nameAndType 43 6), (0, u "grow"), (0, .methodref 8 45), (0, .nameAndType 46 29), (0, u "mix"), (0, .integer 2654435769), (0, u "FREE"), (6, u "holds"), (0, u "(I)Z")] 5

def k2c0 : Code := { maxStack := 2, maxLocals := 1, code := prog_32_method_1_code, exceptionTable := #[], attributes := #[] }
def k2m0 : Method := { name := "<init>", desc := "()V", sig := { parameters := [], returnType := none }, accessFlags := 0, code := some k2c0 }
def k2c1 : Code := { maxStack := 3, maxLocals := 2, code := prog_32_method_4_code, exceptionTable := #[], attributes := #[] }
def k2m1 : Method := { name := "holds", desc := "(I)Z", sig := { parameters := [.int], returnType := some .boolean }, accessFlags := 0, code := some k2c1 }
def k2c2 : Code := { maxStack := 3, maxLocals := 4, code := prog_32_method_6_code, exceptionTable := #[], attributes := #[] }
def k2m2 : Method := { name := "put", desc := "(II)V", sig := { parameters := [.int, .int], returnType := none }, accessFlags := 0, code := some k2c2 }
def k2c3 : Code := { maxStack := 2, maxLocals := 4, code := prog_32_method_7_code, exceptionTable := #[], attributes := #[] }
def k2m3 : Method := { name := "find", desc := "(I)I", sig := { parameters := [.int], returnType := some .int }, accessFlags := 2, code := some k2c3 }
def k2c4 : Code := { maxStack := 4, maxLocals := 6, code := prog_32_method_8_code, exceptionTable := #[], attributes := #[] }
def k2m4 : Method := { name := "remove", desc := "(I)V", sig := { parameters := [.int], returnType := none }, accessFlags := 2, code := some k2c4 }
def k2c5 : Code := { maxStack := 4, maxLocals := 4, code := prog_32_method_9_code, exceptionTable := #[], attributes := #[] }
def k2m5 : Method := { name := "grow", desc := "()V", sig := { parameters := [], returnType := none }, accessFlags := 2, code := some k2c5 }
def k2c6 : Code := { maxStack := 3, maxLocals := 2, code := prog_32_method_10_code, exceptionTable := #[], attributes := #[] }
def k2m6 : Method := { name := "mix", desc := "(I)I", sig := { parameters := [.int], returnType := some .int }, accessFlags := 10, code := some k2c6 }
/-- com/example/sensebid/sensebid/IntMap -/
def k2 : Class := { plain "com/example/sensebid/sensebid/IntMap" (some 0) with
  accessFlags := 48
  interfaces := #[]
  cf := some (fileOf pool2 8 #[] #[{ accessFlags := 0, nameIndex := 5, descriptorIndex := 6, attributes := #[] }, { accessFlags := 0, nameIndex := 55, descriptorIndex := 56, attributes := #[] }, { accessFlags := 0, nameIndex := 35, descriptorIndex := 36, attributes := #[] }, { accessFlags := 2, nameIndex := 28, descriptorIndex := 29, attributes := #[] }, { accessFlags := 2, nameIndex := 39, descriptorIndex := 40, attributes := #[] }, { accessFlags := 2, nameIndex := 43, descriptorIndex := 6, attributes := #[] }, { accessFlags := 10, nameIndex := 46, descriptorIndex := 29, attributes := #[] }] 48 2 #[] #[{ accessFlags := 26, nameIndex := 48, descriptorIndex := 25, attributes := #[] }, { accessFlags := 2, nameIndex := 11, descriptorIndex := 12, attributes := #[] }, { accessFlags := 2, nameIndex := 15, descriptorIndex := 12, attributes := #[] }, { accessFlags := 2, nameIndex := 24, descriptorIndex := 25, attributes := #[] }])
  fields := #[{ name := "FREE", type := .int, accessFlags := 26, slot := 0, constantValue := 0 }, { name := "keys", type := (.array .int), accessFlags := 2, slot := 0, constantValue := 0 }, { name := "values", type := (.array .int), accessFlags := 2, slot := 1, constantValue := 0 }, { name := "size", type := .int, accessFlags := 2, slot := 2, constantValue := 0 }]
  methods := #[k2m0, k2m1, k2m2, k2m3, k2m4, k2m5, k2m6]
  instanceTypes := #[(.array .int), (.array .int), .int]
  staticTypes := #[.int]
  resolved := Array.replicate 62 none
  statics := none }

def pool3 : Array CpInfo := pool [(2, .class_ 4), (1, u "java/lang/Object"), (0, u "<init>"), (0, u "()V"), (7, .class_ 16), (1, u "java/util/Arrays"), (57, .class_ 76), (1, u "java/util/Arrays$NaturalOrder"), (36, .class_ 115), (1, u "java/util/Arrays$LegacyMergeSort"), (1, u "Z"), (257, .class_ 376), (0, u "java/util/Arrays$ArrayList"), (68, u "$assertionsDisabled"), (269, u "MIN_ARRAY_SORT_GRAN"), (0, u "I"), (2, u "INSERTIONSORT_THRESHOLD"), (120, u "fill"), (4, u "([II)V"), (129, .class_ 976), (0, u "java/util/Arrays$ArrayItr")] 52

def k3m0 : Method := { name := "<init>", desc := "()V", sig := { parameters := [], returnType := none }, accessFlags := 2, code := none }
def k3c1 : Code := { maxStack := 3, maxLocals := 4, code := jdk_65_method_103_code, exceptionTable := #[], attributes := #[] }
def k3m1 : Method := { name := "fill", desc := "([II)V", sig := { parameters := [(.array .int), .int], returnType := none }, accessFlags := 9, code := some k3c1 }
/-- java/util/Arrays -/
def k3 : Class := { plain "java/util/Arrays" (some 0) with
  accessFlags := 49
  interfaces := #[]
  cf := some (fileOf pool3 14 #[.nestMembers #[975, 375, 113, 74]] #[{ accessFlags := 2, nameIndex := 5, descriptorIndex := 6, attributes := #[] }, { accessFlags := 9, nameIndex := 840, descriptorIndex := 845, attributes := #[] }] 49 2 #[] #[{ accessFlags := 26, nameIndex := 715, descriptorIndex := 716, attributes := #[] }, { accessFlags := 26, nameIndex := 719, descriptorIndex := 716, attributes := #[] }, { accessFlags := 4120, nameIndex := 445, descriptorIndex := 117, attributes := #[] }])
  fields := #[{ name := "MIN_ARRAY_SORT_GRAN", type := .int, accessFlags := 26, slot := 0, constantValue := 0 }, { name := "INSERTIONSORT_THRESHOLD", type := .int, accessFlags := 26, slot := 1, constantValue := 0 }, { name := "$assertionsDisabled", type := .boolean, accessFlags := 4120, slot := 2, constantValue := 0 }]
  methods := #[k3m0, k3m1]
  instanceTypes := #[]
  staticTypes := #[.int, .int, .boolean]
  resolved := Array.replicate 1029 none
  statics := none }

def pool4 : Array CpInfo := pool [(1, u "java/lang/Cloneable"), (0, .class_ 1), (0, u "java/lang/Object"), (0, .class_ 3)] 3

/-- java/lang/Cloneable -/
def k4 : Class := { plain "java/lang/Cloneable" (some 0) with
  accessFlags := 1537
  interfaces := #[]
  cf := some (fileOf pool4 2 #[] #[] 1537 4 #[] #[])
  fields := #[]
  methods := #[]
  instanceTypes := #[]
  staticTypes := #[]
  resolved := Array.replicate 8 none
  statics := none }

def pool5 : Array CpInfo := pool [(1, u "java/io/Serializable"), (0, .class_ 1), (0, u "java/lang/Object"), (0, .class_ 3)] 3

/-- java/io/Serializable -/
def k5 : Class := { plain "java/io/Serializable" (some 0) with
  accessFlags := 1537
  interfaces := #[]
  cf := some (fileOf pool5 2 #[] #[] 1537 4 #[] #[])
  fields := #[]
  methods := #[]
  instanceTypes := #[]
  staticTypes := #[]
  resolved := Array.replicate 8 none
  statics := none }

/-- the primitive byte -/
def k6 : Class := { plain "byte" none with kind := .primitive 'B', accessFlags := 0x411 }
/-- [B -/
def k7 : Class := { plain "[B" (some 0) with kind := .array 6 .byte, interfaces := #[4, 5], accessFlags := 1041 }

/-- the primitive int -/
def k8 : Class := { plain "int" none with kind := .primitive 'I', accessFlags := 0x411 }
/-- [I -/
def k9 : Class := { plain "[I" (some 0) with kind := .array 8 .int, interfaces := #[4, 5], accessFlags := 1041 }

def heap : Heap := #[]
def classes : Array Class := #[k0, k1, k2, k3, k4, k5, k6, k7, k8, k9]
def interned : List (Array UInt16 × Addr) := []
def slotsUsed : Nat := 0
def theMethod : MethodId := ⟨1, 1⟩
def args0 : Array Value := #[.int 3, .int 4, .int 5, .int 6, .long 3, .int 2]
def aboutOver (below : List Frame) : State where
  vm := { classes := classes, interned := interned.toArray }
  heap := heap
  slotsUsed := slotsUsed
  threads := #[{ frames := .invoking theMethod args0 :: below }]
def below0 : List Frame := [.native { method := ⟨0, 0⟩, args := #[] }]
def about1 : State := aboutOver below0
def p0 : Program := .bare "" "" ""
def e0 : Env := launch0.env 0 0 0
theorem w_frames : about1.frames = Frame.invoking theMethod args0 :: below0 := rfl
set_option maxRecDepth 65536 in
theorem w_args : argsFit about1.vm theMethod args0 = true := by decide +kernel
set_option maxRecDepth 65536 in
theorem w_heap : heapFits about1 = true := by decide +kernel
set_option maxRecDepth 65536 in
theorem w_runnable : about1.curStatus? = some .runnable := by decide +kernel
set_option maxRecDepth 65536 in
theorem w_alone : about1.alone = true := by decide +kernel
set_option maxRecDepth 65536 in
theorem w_named : about1.methodNamed? x = some theMethod := by decide +kernel
set_option maxRecDepth 65536 in
theorem w_hears : about1.hears theMethod below0 = true := by decide +kernel
set_option maxRecDepth 65536 in
theorem w_ripe : about1.ripe theMethod args0 below0 = true := by decide +kernel
theorem w_running : about1.status = .running := rfl
set_option maxRecDepth 65536 in
theorem w_room : about1.hasRoom e0.platform room_1 = true :=
  launch0.hasRoom_least _ room_1 (by decide +kernel) (by decide +kernel) (by decide +kernel) (by decide +kernel) (by decide +kernel) (by decide +kernel)
theorem allAtoms_all (ts : List Jvm.Cond) (a : Array Jvm.Value) (st : Jvm.State) : (allAtoms ts).before a st = ts.all (fun c => c.before a st) := by
  induction ts with
  | nil => rfl
  | cons c t ih =>
    show (Jvm.Cond.and c (allAtoms t)).before a st = _
    rw [Jvm.Cond.before_and, ih, List.all_cons]
def words1 : List Jvm.Cond := Jvm.Cond.code x code maxLocals ret :: tables_1
/-- a 'code' word, met by the world's own term for the bytes: nothing is compared byte by byte -/
theorem code_word {y : MethodName} {bytes : ByteArray} {mx : Nat} {rt : Option FieldType} {a : Array Value} {s : State} {m : MethodId} {meth : Method} {c : Code} (h1 : s.methodNamed? y = some m) (h2 : s.vm.method? m = some meth) (h3 : meth.code = some c) (h4 : c.code = bytes)
    (h5 : (c.maxLocals == mx && c.exceptionTable.isEmpty && decide (c.maxStack ≤ mostOperands) && decide (meth.sig.returnType = rt) && !meth.locks && decide (parseMethodDescriptor y.desc = some meth.sig)) = true) : (Jvm.Cond.code y bytes mx rt).before a s = true := by
  simp only [Bool.and_eq_true, beq_iff_eq, Bool.not_eq_true', decide_eq_true_eq] at h5
  obtain ⟨⟨⟨⟨⟨g1, g2⟩, g3⟩, g4⟩, g5⟩, g6⟩ := h5
  simp [Cond.before, Cond.holds, Cond.value, h1, h2, h3, h4, g1, g2, g3, g4, g5, g6]
def isCode : Jvm.Cond → Bool
  | .code _ _ _ _ => true
  | _ => false
theorem all_split {L : List Jvm.Cond} {P : Jvm.Cond → Bool} (h1 : L.all (fun c => isCode c || P c) = true) (h2 : ∀ c ∈ L.filter isCode, P c = true) : L.all P = true := by
  refine List.all_eq_true.mpr fun c hc => ?_
  have h := List.all_eq_true.mp h1 c hc
  rcases Bool.eq_false_or_eq_true (isCode c) with hi | hi
  · exact h2 c (List.mem_filter.mpr ⟨hc, hi⟩)
  · simpa [hi] using h
set_option maxRecDepth 65536 in
theorem w_c0 : (Jvm.Cond.code x code maxLocals ret).before args0 about1 = true := code_word (m := ⟨1, 1⟩) (meth := k1m1) (c := k1c1) (by decide +kernel) rfl rfl rfl (by decide +kernel)
set_option maxRecDepth 65536 in
theorem w_c1 : (Jvm.Cond.code ({ cls := "com/example/sensebid/sensebid/IntMapHoldsPinLaw", name := "val", desc := "(JII)I" } : Jvm.MethodName) method_3_code (4 : Nat) (Option.some Jvm.ClassFile.FieldType.int)).before args0 about1 = true := code_word (m := ⟨1, 2⟩) (meth := k1m2) (c := k1c2) (by decide +kernel) rfl rfl rfl (by decide +kernel)
set_option maxRecDepth 65536 in
theorem w_c2 : (Jvm.Cond.code ({ cls := "com/example/sensebid/sensebid/IntMap", name := "<init>", desc := "()V" } : Jvm.MethodName) prog_32_method_1_code (1 : Nat) (Option.none : Option Jvm.ClassFile.FieldType)).before args0 about1 = true := code_word (m := ⟨2, 0⟩) (meth := k2m0) (c := k2c0) (by decide +kernel) rfl rfl rfl (by decide +kernel)
set_option maxRecDepth 65536 in
theorem w_c3 : (Jvm.Cond.code ({ cls := "java/lang/Object", name := "<init>", desc := "()V" } : Jvm.MethodName) object_method_1_code (1 : Nat) (Option.none : Option Jvm.ClassFile.FieldType)).before args0 about1 = true := code_word (m := ⟨0, 0⟩) (meth := k0m0) (c := k0c0) (by decide +kernel) rfl rfl rfl (by decide +kernel)
set_option maxRecDepth 65536 in
theorem w_c4 : (Jvm.Cond.code ({ cls := "java/util/Arrays", name := "fill", desc := "([II)V" } : Jvm.MethodName) jdk_65_method_103_code (4 : Nat) (Option.none : Option Jvm.ClassFile.FieldType)).before args0 about1 = true := code_word (m := ⟨3, 1⟩) (meth := k3m1) (c := k3c1) (by decide +kernel) rfl rfl rfl (by decide +kernel)
set_option maxRecDepth 65536 in
theorem w_c5 : (Jvm.Cond.code ({ cls := "com/example/sensebid/sensebid/IntMap", name := "put", desc := "(II)V" } : Jvm.MethodName) prog_32_method_6_code (4 : Nat) (Option.none : Option Jvm.ClassFile.FieldType)).before args0 about1 = true := code_word (m := ⟨2, 2⟩) (meth := k2m2) (c := k2c2) (by decide +kernel) rfl rfl rfl (by decide +kernel)
set_option maxRecDepth 65536 in
theorem w_c6 : (Jvm.Cond.code ({ cls := "com/example/sensebid/sensebid/IntMap", name := "find", desc := "(I)I" } : Jvm.MethodName) prog_32_method_7_code (4 : Nat) (Option.some Jvm.ClassFile.FieldType.int)).before args0 about1 = true := code_word (m := ⟨2, 3⟩) (meth := k2m3) (c := k2c3) (by decide +kernel) rfl rfl rfl (by decide +kernel)
set_option maxRecDepth 65536 in
theorem w_c7 : (Jvm.Cond.code ({ cls := "com/example/sensebid/sensebid/IntMap", name := "mix", desc := "(I)I" } : Jvm.MethodName) prog_32_method_10_code (2 : Nat) (Option.some Jvm.ClassFile.FieldType.int)).before args0 about1 = true := code_word (m := ⟨2, 6⟩) (meth := k2m6) (c := k2c6) (by decide +kernel) rfl rfl rfl (by decide +kernel)
set_option maxRecDepth 65536 in
theorem w_c8 : (Jvm.Cond.code ({ cls := "com/example/sensebid/sensebid/IntMap", name := "holds", desc := "(I)Z" } : Jvm.MethodName) prog_32_method_4_code (2 : Nat) (Option.some Jvm.ClassFile.FieldType.boolean)).before args0 about1 = true := code_word (m := ⟨2, 1⟩) (meth := k2m1) (c := k2c1) (by decide +kernel) rfl rfl rfl (by decide +kernel)
set_option maxRecDepth 65536 in
theorem w_c9 : (Jvm.Cond.code ({ cls := "com/example/sensebid/sensebid/IntMapHoldsPinLaw", name := "expected", desc := "([I[II)Z" } : Jvm.MethodName) method_4_code (3 : Nat) (Option.some Jvm.ClassFile.FieldType.boolean)).before args0 about1 = true := code_word (m := ⟨1, 3⟩) (meth := k1m3) (c := k1c3) (by decide +kernel) rfl rfl rfl (by decide +kernel)
set_option maxRecDepth 65536 in
theorem w_c10 : (Jvm.Cond.code ({ cls := "com/example/sensebid/sensebid/IntMap", name := "remove", desc := "(I)V" } : Jvm.MethodName) prog_32_method_8_code (6 : Nat) (Option.none : Option Jvm.ClassFile.FieldType)).before args0 about1 = true := code_word (m := ⟨2, 4⟩) (meth := k2m4) (c := k2c4) (by decide +kernel) rfl rfl rfl (by decide +kernel)
set_option maxRecDepth 65536 in
theorem w_c11 : (Jvm.Cond.code ({ cls := "com/example/sensebid/sensebid/IntMap", name := "grow", desc := "()V" } : Jvm.MethodName) prog_32_method_9_code (4 : Nat) (Option.none : Option Jvm.ClassFile.FieldType)).before args0 about1 = true := code_word (m := ⟨2, 5⟩) (meth := k2m5) (c := k2c5) (by decide +kernel) rfl rfl rfl (by decide +kernel)
def codes1 : List Jvm.Cond := [Jvm.Cond.code x code maxLocals ret, Jvm.Cond.code ({ cls := "com/example/sensebid/sensebid/IntMapHoldsPinLaw", name := "val", desc := "(JII)I" } : Jvm.MethodName) method_3_code (4 : Nat) (Option.some Jvm.ClassFile.FieldType.int), Jvm.Cond.code ({ cls := "com/example/sensebid/sensebid/IntMap", name := "<init>", desc := "()V" } : Jvm.MethodName) prog_32_method_1_code (1 : Nat) (Option.none : Option Jvm.ClassFile.FieldType), Jvm.Cond.code ({ cls := "java/lang/Object", name := "<init>", desc := "()V" } : Jvm.MethodName) object_method_1_code (1 : Nat) (Option.none : Option Jvm.ClassFile.FieldType), Jvm.Cond.code ({ cls := "java/util/Arrays", name := "fill", desc := "([II)V" } : Jvm.MethodName) jdk_65_method_103_code (4 : Nat) (Option.none : Option Jvm.ClassFile.FieldType), Jvm.Cond.code ({ cls := "com/example/sensebid/sensebid/IntMap", name := "put", desc := "(II)V" } : Jvm.MethodName) prog_32_method_6_code (4 : Nat) (Option.none : Option Jvm.ClassFile.FieldType), Jvm.Cond.code ({ cls := "com/example/sensebid/sensebid/IntMap", name := "find", desc := "(I)I" } : Jvm.MethodName) prog_32_method_7_code (4 : Nat) (Option.some Jvm.ClassFile.FieldType.int), Jvm.Cond.code ({ cls := "com/example/sensebid/sensebid/IntMap", name := "mix", desc := "(I)I" } : Jvm.MethodName) prog_32_method_10_code (2 : Nat) (Option.some Jvm.ClassFile.FieldType.int), Jvm.Cond.code ({ cls := "com/example/sensebid/sensebid/IntMap", name := "holds", desc := "(I)Z" } : Jvm.MethodName) prog_32_method_4_code (2 : Nat) (Option.some Jvm.ClassFile.FieldType.boolean), Jvm.Cond.code ({ cls := "com/example/sensebid/sensebid/IntMapHoldsPinLaw", name := "expected", desc := "([I[II)Z" } : Jvm.MethodName) method_4_code (3 : Nat) (Option.some Jvm.ClassFile.FieldType.boolean), Jvm.Cond.code ({ cls := "com/example/sensebid/sensebid/IntMap", name := "remove", desc := "(I)V" } : Jvm.MethodName) prog_32_method_8_code (6 : Nat) (Option.none : Option Jvm.ClassFile.FieldType), Jvm.Cond.code ({ cls := "com/example/sensebid/sensebid/IntMap", name := "grow", desc := "()V" } : Jvm.MethodName) prog_32_method_9_code (4 : Nat) (Option.none : Option Jvm.ClassFile.FieldType)]
set_option maxRecDepth 65536 in
theorem codes_eq : words1.filter isCode = codes1 := rfl
theorem w_codes : ∀ c ∈ words1.filter isCode, c.before args0 about1 = true := by
  rw [codes_eq]
  intro c hc
  simp only [codes1, List.mem_cons, List.not_mem_nil, or_false] at hc
  rcases hc with rfl | rfl | rfl | rfl | rfl | rfl | rfl | rfl | rfl | rfl | rfl | rfl
  · exact w_c0
  · exact w_c1
  · exact w_c2
  · exact w_c3
  · exact w_c4
  · exact w_c5
  · exact w_c6
  · exact w_c7
  · exact w_c8
  · exact w_c9
  · exact w_c10
  · exact w_c11
set_option maxRecDepth 65536 in
theorem w_t1 : (words1.take 24).all (fun c => isCode c || c.before args0 about1) = true := by decide +kernel
set_option maxRecDepth 65536 in
theorem w_t2 : ((words1.drop 24).take 24).all (fun c => isCode c || c.before args0 about1) = true := by decide +kernel
set_option maxRecDepth 65536 in
theorem w_t3 : ((words1.drop 24).drop 24).all (fun c => isCode c || c.before args0 about1) = true := by decide +kernel
theorem w_tables : (allAtoms (Jvm.Cond.code x code maxLocals ret :: tables_1)).before args0 about1 = true := by
  rw [allAtoms_all]
  show words1.all (fun c => c.before args0 about1) = true
  refine all_split ?_ w_codes
  rw [← List.take_append_drop 24 words1, List.all_append, w_t1, ← List.take_append_drop 24 (words1.drop 24), List.all_append, w_t2, w_t3]
  rfl
set_option maxRecDepth 65536 in
theorem w_case : (Jvm.Cond.and given_1 narrow_1).before args0 about1 = true := by decide +kernel
theorem w_applies : (headSpec (Jvm.Cond.code x code maxLocals ret :: tables_1) room_1).applies x e0.platform about1 = true :=
  (Spec.applies_iff w_frames).mpr ⟨w_running, w_runnable, w_alone, w_named, w_hears, w_ripe, w_room, w_tables⟩
theorem atStart : AtStart classFile x code maxLocals ret World_1 tables_1 room_1 Calls_1 rest_1 Pre_1 launch0 p0 e0 about1 theMethod args0 below0 :=
  ⟨lists_1, trivial, launch0.admits_env _ _ _, launch0.least_env, fairChoices_fair.cas, fairChoices_fair.clock, w_frames, w_args, w_heap, w_applies, trivial, trivial, w_case⟩
end start1
theorem witness_1 : WitnessClaimed_1 := ⟨start1.p0, start1.e0, start1.about1, start1.theMethod, start1.args0, start1.below0, start1.atStart⟩
end Jvm.Pilot.@@N@@
