import JvmDerived
import JvmDerived.Pilot.@@N@@Statement
import JvmDerived.Pilot.@@N@@Code
set_option linter.unusedVariables false
set_option linter.unusedSimpArgs false
namespace Jvm.Pilot.@@N@@
open Jvm Jvm.ClassFile Sem Op Lib Jvm.Free Jvm.Stand Jvm.LawKit Jvm.RoadKit Bundle Jvm.Pilot.@@N@@.Jvm.D
/-! own_: a walk in backward style: 'Ends': from here the body comes to its end and Q holds there. One law an instruction, over frames written mkF. -/
namespace Wk
section
variable {p : Program} {l : Launch} {e : Env} {R : Room} {s : State} {m : MethodId} {args : Array Value} {below : List Frame} {meth : Method} {c : Code} {T : State} {locs : List Loc} {cells slots : Nat} {Z : State} {a0 : Array Value} {h : Heap} {y : MethodName} {cd : ByteArray} {ml : Nat} {ret : Option FieldType} {Q : Option Value → Heap → List Loc → Prop} {pc pc' : Nat} {ls : Array Slot} {st : List Value}
/-- the run from T with the frame f comes to the body's end, and Q holds there -/
def Ends (p : Program) (e : Env) (s : State) (below : List Frame) (R : Room) (Q : Option Value → Heap → List Loc → Prop) (T : State) (f : JFrame) : Prop :=
  ∃ s₂ o, Steps p.tables e below (T.setTop f) s₂ ∧ s₂.status = .running ∧ Ended s₂ below o ∧ ∃ v L, o = .returned v ∧ Q v s₂.heap L ∧ FrameEnd s o s₂ L R.cells R.slots
/-- what stands still while one body is walked -/
def K (p : Program) (s : State) (m : MethodId) (meth : Method) (c : Code) (Z : State) (y : MethodName) (cd : ByteArray) (ml : Nat) (ret : Option FieldType) : Prop :=
  p.tables.exec = Jvm.exec ∧ Z.Warmed39 s.vm ∧ c.code = cd ∧ c.maxLocals = ml ∧ s.vm.findClass y.cls = some m.cls ∧ meth.sig.returnType = ret ∧ meth.locks = false ∧ meth.name = y.name
/-- a body's contract: called with as' over the heap h it returns, and Q holds -/
def Met (l : Launch) (y : MethodName) (cd : ByteArray) (ml : Nat) (ret : Option FieldType) (rm : Room) (as' : Array Value) (Z : State) (h : Heap) (Q : Option Value → Heap → List Loc → Prop) (ws : List Jvm.Cond) : Prop :=
  MetFree l y (head1 (Jvm.Cond.code y cd ml ret :: ws) rm) (fun a U => a = as' ∧ Z.Warmed39 U.vm ∧ U.heap = h) (fun _ _ _ _ _ => True) (fun _ U o U' => ∃ v L, o = .returned v ∧ Q v U'.heap L ∧ FrameEnd U o U' L rm.cells rm.slots)
theorem enter {rm : Room} {as' : Array Value} {ws : List Jvm.Cond} (hpl : plainFor y = true)
    (body : ∀ (p : Program) (e : Env) (s : State) (m : MethodId) (below : List Frame) (meth : Method) (c : Code) (T : State), K p s m meth c Z y cd ml ret → Stand p l e rm s m as' below meth c T [] 0 0 → T.heap = h → Ends p e s below rm Q T (entryFrame m as' ml)) :
    Met l y cd ml ret rm as' Z h Q ws := by
  refine MetFree.of_bodySF hpl hisR ?_
  intro p e s m args below meth c s₁ Bd hml0 hP hK
  obtain ⟨rfl, hZ, hh⟩ := hP
  exact body p e s m below meth c s₁ ⟨Bd.exec, hZ, Bd.bytes, hml0, findClass_of_methodNamed Bd.named, Bd.returns, Bd.notSynchronized, (name_of_methodNamed Bd.named Bd.method).1⟩ (Stand.of_body Bd) (by rw [← hh, Bd.state]; rfl)
theorem Ends.map {T' : State} {f f' : JFrame} (st : ∀ target, Steps p.tables e below (T'.setTop f') target → Steps p.tables e below (T.setTop f) target) (h : Ends p e s below R Q T' f') : Ends p e s below R Q T f := by
  obtain ⟨s₂, o, h1, h2⟩ := h
  exact ⟨s₂, o, st _ h1, h2⟩
theorem Ends.cast {f f' : JFrame} (q : f = f') (h : Ends p e s below R Q T f') : Ends p e s below R Q T f := q ▸ h
theorem w {ws : List Jvm.Cond} (hw : ∀ d ∈ ws, d.before a0 Z = true) (i : Nat) {d : Jvm.Cond} (q : ws[i]? = some d) : d.before a0 Z = true := hw d (List.mem_of_getElem? q)
/-! loads, stores, constants -/
theorem iload_n (k : K p s m meth c Z y cd ml ret) (X : Stand p l e R s m args below meth c T locs cells slots) {i : Fin 4} {v : Int32} (hd : decode cd pc = .ok (.iload_n i, 1)) (hl : ls[i.val]? = some (.val (.int v))) (pc' : Nat) (hp : pc + 1 = pc') (h : Ends p e s below R Q T (mkF m pc' ls (.int v :: st))) : Ends p e s below R Q T (mkF m pc ls st) := by
  subst hp; exact h.map fun _ q => XS.iloadN X.here k.1 rfl (hb k.2.2.1 hd) hl q
theorem iload (k : K p s m meth c Z y cd ml ret) (X : Stand p l e R s m args below meth c T locs cells slots) {i : Nat} {v : Int32} (hd : decode cd pc = .ok (.iload i, 2)) (hl : ls[i]? = some (.val (.int v))) (pc' : Nat) (hp : pc + 2 = pc') (h : Ends p e s below R Q T (mkF m pc' ls (.int v :: st))) : Ends p e s below R Q T (mkF m pc ls st) := by
  subst hp; exact h.map fun _ q => XS.iload X.here k.1 rfl (hb k.2.2.1 hd) hl q
theorem lload_n (k : K p s m meth c Z y cd ml ret) (X : Stand p l e R s m args below meth c T locs cells slots) {i : Fin 4} {v : Int64} (hd : decode cd pc = .ok (.lload_n i, 1)) (hl : ls[i.val]? = some (.val (.long v))) (pc' : Nat) (hp : pc + 1 = pc') (h : Ends p e s below R Q T (mkF m pc' ls (.long v :: st))) : Ends p e s below R Q T (mkF m pc ls st) := by
  subst hp; exact h.map fun _ q => XS.lloadN X.here k.1 rfl (hb k.2.2.1 hd) hl q
theorem lload (k : K p s m meth c Z y cd ml ret) (X : Stand p l e R s m args below meth c T locs cells slots) {i : Nat} {v : Int64} (hd : decode cd pc = .ok (.lload i, 2)) (hl : ls[i]? = some (.val (.long v))) (pc' : Nat) (hp : pc + 2 = pc') (h : Ends p e s below R Q T (mkF m pc' ls (.long v :: st))) : Ends p e s below R Q T (mkF m pc ls st) := by
  subst hp; exact h.map fun _ q => XS.lload X.here k.1 rfl (hb k.2.2.1 hd) hl q
theorem aload_n (k : K p s m meth c Z y cd ml ret) (X : Stand p l e R s m args below meth c T locs cells slots) {i : Fin 4} {v : Value} (hd : decode cd pc = .ok (.aload_n i, 1)) (hl : ls[i.val]? = some (.val v)) (hv : v.isRef = true) (pc' : Nat) (hp : pc + 1 = pc') (h : Ends p e s below R Q T (mkF m pc' ls (v :: st))) : Ends p e s below R Q T (mkF m pc ls st) := by
  subst hp; exact h.map fun _ q => XS.aloadN X.here k.1 rfl (hb k.2.2.1 hd) hl hv q
theorem aload (k : K p s m meth c Z y cd ml ret) (X : Stand p l e R s m args below meth c T locs cells slots) {i : Nat} {v : Value} (hd : decode cd pc = .ok (.aload i, 2)) (hl : ls[i]? = some (.val v)) (hv : v.isRef = true) (pc' : Nat) (hp : pc + 2 = pc') (h : Ends p e s below R Q T (mkF m pc' ls (v :: st))) : Ends p e s below R Q T (mkF m pc ls st) := by
  subst hp; exact h.map fun _ q => XS.aload X.here k.1 rfl (hb k.2.2.1 hd) hl hv q
theorem istore_n (k : K p s m meth c Z y cd ml ret) (X : Stand p l e R s m args below meth c T locs cells slots) {i : Fin 4} {v : Int32} (hd : decode cd pc = .ok (.istore_n i, 1)) (ls' : Array Slot) (hl : storeLocals ls i.val (.int v) = some ls') (pc' : Nat) (hp : pc + 1 = pc') (h : Ends p e s below R Q T (mkF m pc' ls' st)) : Ends p e s below R Q T (mkF m pc ls (.int v :: st)) := by
  subst hp; exact h.map fun _ q => XS.istoreN X.here k.1 rfl (hb k.2.2.1 hd) rfl hl q
theorem istore (k : K p s m meth c Z y cd ml ret) (X : Stand p l e R s m args below meth c T locs cells slots) {i : Nat} {v : Int32} (hd : decode cd pc = .ok (.istore i, 2)) (ls' : Array Slot) (hl : storeLocals ls i (.int v) = some ls') (pc' : Nat) (hp : pc + 2 = pc') (h : Ends p e s below R Q T (mkF m pc' ls' st)) : Ends p e s below R Q T (mkF m pc ls (.int v :: st)) := by
  subst hp; exact h.map fun _ q => XS.istore X.here k.1 rfl (hb k.2.2.1 hd) rfl hl q
theorem lstore_n (k : K p s m meth c Z y cd ml ret) (X : Stand p l e R s m args below meth c T locs cells slots) {i : Fin 4} {v : Int64} (hd : decode cd pc = .ok (.lstore_n i, 1)) (ls' : Array Slot) (hl : storeLocals ls i.val (.long v) = some ls') (pc' : Nat) (hp : pc + 1 = pc') (h : Ends p e s below R Q T (mkF m pc' ls' st)) : Ends p e s below R Q T (mkF m pc ls (.long v :: st)) := by
  subst hp; exact h.map fun _ q => XS.lstoreN X.here k.1 rfl (hb k.2.2.1 hd) rfl hl q
theorem lstore (k : K p s m meth c Z y cd ml ret) (X : Stand p l e R s m args below meth c T locs cells slots) {i : Nat} {v : Int64} (hd : decode cd pc = .ok (.lstore i, 2)) (ls' : Array Slot) (hl : storeLocals ls i (.long v) = some ls') (pc' : Nat) (hp : pc + 2 = pc') (h : Ends p e s below R Q T (mkF m pc' ls' st)) : Ends p e s below R Q T (mkF m pc ls (.long v :: st)) := by
  subst hp; exact h.map fun _ q => XS.lstore X.here k.1 rfl (hb k.2.2.1 hd) rfl hl q
theorem astore_n (k : K p s m meth c Z y cd ml ret) (X : Stand p l e R s m args below meth c T locs cells slots) {i : Fin 4} {v : Value} (hd : decode cd pc = .ok (.astore_n i, 1)) (hv : v.isRef = true) (ls' : Array Slot) (hl : storeLocals ls i.val v = some ls') (pc' : Nat) (hp : pc + 1 = pc') (h : Ends p e s below R Q T (mkF m pc' ls' st)) : Ends p e s below R Q T (mkF m pc ls (v :: st)) := by
  subst hp; exact h.map fun _ q => XS.astoreN X.here k.1 rfl (hb k.2.2.1 hd) rfl hv hl q
theorem astore (k : K p s m meth c Z y cd ml ret) (X : Stand p l e R s m args below meth c T locs cells slots) {i : Nat} {v : Value} (hd : decode cd pc = .ok (.astore i, 2)) (hv : v.isRef = true) (ls' : Array Slot) (hl : storeLocals ls i v = some ls') (pc' : Nat) (hp : pc + 2 = pc') (h : Ends p e s below R Q T (mkF m pc' ls' st)) : Ends p e s below R Q T (mkF m pc ls (v :: st)) := by
  subst hp; exact h.map fun _ q => XS.astore X.here k.1 rfl (hb k.2.2.1 hd) rfl hv hl q
theorem iinc (k : K p s m meth c Z y cd ml ret) (X : Stand p l e R s m args below meth c T locs cells slots) {i : Nat} {n : Int} {v : Int32} (hd : decode cd pc = .ok (.iinc i n, 3)) (hl : ls[i]? = some (.val (.int v))) (ls' : Array Slot) (hl' : storeLocals ls i (.int (v + Int32.ofInt n)) = some ls') (pc' : Nat) (hp : pc + 3 = pc') (h : Ends p e s below R Q T (mkF m pc' ls' st)) : Ends p e s below R Q T (mkF m pc ls st) := by
  subst hp; exact h.map fun _ q => XS.iinc X.here k.1 rfl (hb k.2.2.1 hd) hl hl' q
theorem iconst (k : K p s m meth c Z y cd ml ret) (X : Stand p l e R s m args below meth c T locs cells slots) {i : Int} (hd : decode cd pc = .ok (.iconst i, 1)) (z : Int32) (hz : Int32.ofInt i = z) (pc' : Nat) (hp : pc + 1 = pc') (h : Ends p e s below R Q T (mkF m pc' ls (.int z :: st))) : Ends p e s below R Q T (mkF m pc ls st) := by
  subst hp hz; exact h.map fun _ q => XS.iconst X.here k.1 rfl (hb k.2.2.1 hd) q
theorem bipush (k : K p s m meth c Z y cd ml ret) (X : Stand p l e R s m args below meth c T locs cells slots) {i : Int} (hd : decode cd pc = .ok (.bipush i, 2)) (z : Int32) (hz : (Int8.ofInt i).toInt32 = z) (pc' : Nat) (hp : pc + 2 = pc') (h : Ends p e s below R Q T (mkF m pc' ls (.int z :: st))) : Ends p e s below R Q T (mkF m pc ls st) := by
  subst hp hz; exact h.map fun _ q => XS.bipush X.here k.1 rfl (hb k.2.2.1 hd) q
theorem sipush (k : K p s m meth c Z y cd ml ret) (X : Stand p l e R s m args below meth c T locs cells slots) {i : Int} (hd : decode cd pc = .ok (.sipush i, 3)) (z : Int32) (hz : (Int16.ofInt i).toInt32 = z) (pc' : Nat) (hp : pc + 3 = pc') (h : Ends p e s below R Q T (mkF m pc' ls (.int z :: st))) : Ends p e s below R Q T (mkF m pc ls st) := by
  subst hp hz; exact h.map fun _ q => XS.sipush X.here k.1 rfl (hb k.2.2.1 hd) q
theorem lconst (k : K p s m meth c Z y cd ml ret) (X : Stand p l e R s m args below meth c T locs cells slots) {i : Fin 2} (hd : decode cd pc = .ok (.lconst i, 1)) (z : Int64) (hz : Int64.ofNat i = z) (pc' : Nat) (hp : pc + 1 = pc') (h : Ends p e s below R Q T (mkF m pc' ls (.long z :: st))) : Ends p e s below R Q T (mkF m pc ls st) := by
  subst hp hz; exact h.map fun _ q => XS.lconst X.here k.1 rfl (hb k.2.2.1 hd) q
theorem aconst_null (k : K p s m meth c Z y cd ml ret) (X : Stand p l e R s m args below meth c T locs cells slots) (hd : decode cd pc = .ok (.aconst_null, 1)) (pc' : Nat) (hp : pc + 1 = pc') (h : Ends p e s below R Q T (mkF m pc' ls (.null :: st))) : Ends p e s below R Q T (mkF m pc ls st) := by
  subst hp; exact h.map fun _ q => XS.aconstNull X.here k.1 rfl (hb k.2.2.1 hd) q
theorem ldc (k : K p s m meth c Z y cd ml ret) (X : Stand p l e R s m args below meth c T locs cells slots) {i : Nat} {z : Int32} (hd : decode cd pc = .ok (.ldc i, 2)) (hc : (Jvm.Cond.constant y.cls i z).before a0 Z = true) (pc' : Nat) (hp : pc + 2 = pc') (h : Ends p e s below R Q T (mkF m pc' ls (.int z :: st))) : Ends p e s below R Q T (mkF m pc ls st) := by
  subst hp; exact h.map (X.ldcInt k.1 k.2.2.2.2.1 (mvT k.2.1 hc) rfl (hb k.2.2.1 hd))
theorem ldc2_w (k : K p s m meth c Z y cd ml ret) (X : Stand p l e R s m args below meth c T locs cells slots) {i : Nat} {z : Int64} (hd : decode cd pc = .ok (.ldc2_w i, 3)) (hc : (Jvm.Cond.constantLong y.cls i z).before a0 Z = true) (pc' : Nat) (hp : pc + 3 = pc') (h : Ends p e s below R Q T (mkF m pc' ls (.long z :: st))) : Ends p e s below R Q T (mkF m pc ls st) := by
  subst hp; exact h.map (X.ldc2Long k.1 k.2.2.2.2.1 (mvT k.2.1 hc) rfl (hb k.2.2.1 hd))
theorem ldcF (k : K p s m meth c Z y cd ml ret) (X : Stand p l e R s m args below meth c T locs cells slots) {i : Nat} {z : UInt32} (hd : decode cd pc = .ok (.ldc i, 2)) (hc : (Jvm.Cond.constantFloat y.cls i z).before a0 Z = true) (pc' : Nat) (hp : pc + 2 = pc') (h : Ends p e s below R Q T (mkF m pc' ls (.float z :: st))) : Ends p e s below R Q T (mkF m pc ls st) := by
  subst hp; exact h.map (X.ldcFloatC k.1 k.2.2.2.2.1 (mvT k.2.1 hc) rfl (hb k.2.2.1 hd))
/-! arithmetic -/
theorem iadd (k : K p s m meth c Z y cd ml ret) (X : Stand p l e R s m args below meth c T locs cells slots) {a : Int32} {b : Int32} (hd : decode cd pc = .ok (.iadd, 1)) (pc' : Nat) (hp : pc + 1 = pc') (h : Ends p e s below R Q T (mkF m pc' ls (.int (a + b) :: st))) : Ends p e s below R Q T (mkF m pc ls (.int b :: .int a :: st)) := by
  subst hp; exact h.map fun _ q => XS.iadd X.here k.1 rfl (hb k.2.2.1 hd) rfl q
theorem ladd (k : K p s m meth c Z y cd ml ret) (X : Stand p l e R s m args below meth c T locs cells slots) {a : Int64} {b : Int64} (hd : decode cd pc = .ok (.ladd, 1)) (pc' : Nat) (hp : pc + 1 = pc') (h : Ends p e s below R Q T (mkF m pc' ls (.long (a + b) :: st))) : Ends p e s below R Q T (mkF m pc ls (.long b :: .long a :: st)) := by
  subst hp; exact h.map fun _ q => XS.ladd X.here k.1 rfl (hb k.2.2.1 hd) rfl q
theorem isub (k : K p s m meth c Z y cd ml ret) (X : Stand p l e R s m args below meth c T locs cells slots) {a : Int32} {b : Int32} (hd : decode cd pc = .ok (.isub, 1)) (pc' : Nat) (hp : pc + 1 = pc') (h : Ends p e s below R Q T (mkF m pc' ls (.int (a - b) :: st))) : Ends p e s below R Q T (mkF m pc ls (.int b :: .int a :: st)) := by
  subst hp; exact h.map fun _ q => XS.isub X.here k.1 rfl (hb k.2.2.1 hd) rfl q
theorem lsub (k : K p s m meth c Z y cd ml ret) (X : Stand p l e R s m args below meth c T locs cells slots) {a : Int64} {b : Int64} (hd : decode cd pc = .ok (.lsub, 1)) (pc' : Nat) (hp : pc + 1 = pc') (h : Ends p e s below R Q T (mkF m pc' ls (.long (a - b) :: st))) : Ends p e s below R Q T (mkF m pc ls (.long b :: .long a :: st)) := by
  subst hp; exact h.map fun _ q => XS.lsub X.here k.1 rfl (hb k.2.2.1 hd) rfl q
theorem imul (k : K p s m meth c Z y cd ml ret) (X : Stand p l e R s m args below meth c T locs cells slots) {a : Int32} {b : Int32} (hd : decode cd pc = .ok (.imul, 1)) (pc' : Nat) (hp : pc + 1 = pc') (h : Ends p e s below R Q T (mkF m pc' ls (.int (a * b) :: st))) : Ends p e s below R Q T (mkF m pc ls (.int b :: .int a :: st)) := by
  subst hp; exact h.map fun _ q => XS.imul X.here k.1 rfl (hb k.2.2.1 hd) rfl q
theorem lmul (k : K p s m meth c Z y cd ml ret) (X : Stand p l e R s m args below meth c T locs cells slots) {a : Int64} {b : Int64} (hd : decode cd pc = .ok (.lmul, 1)) (pc' : Nat) (hp : pc + 1 = pc') (h : Ends p e s below R Q T (mkF m pc' ls (.long (a * b) :: st))) : Ends p e s below R Q T (mkF m pc ls (.long b :: .long a :: st)) := by
  subst hp; exact h.map fun _ q => XS.lmul X.here k.1 rfl (hb k.2.2.1 hd) rfl q
theorem iand (k : K p s m meth c Z y cd ml ret) (X : Stand p l e R s m args below meth c T locs cells slots) {a : Int32} {b : Int32} (hd : decode cd pc = .ok (.iand, 1)) (pc' : Nat) (hp : pc + 1 = pc') (h : Ends p e s below R Q T (mkF m pc' ls (.int (a &&& b) :: st))) : Ends p e s below R Q T (mkF m pc ls (.int b :: .int a :: st)) := by
  subst hp; exact h.map fun _ q => XS.iand X.here k.1 rfl (hb k.2.2.1 hd) rfl q
theorem land (k : K p s m meth c Z y cd ml ret) (X : Stand p l e R s m args below meth c T locs cells slots) {a : Int64} {b : Int64} (hd : decode cd pc = .ok (.land, 1)) (pc' : Nat) (hp : pc + 1 = pc') (h : Ends p e s below R Q T (mkF m pc' ls (.long (a &&& b) :: st))) : Ends p e s below R Q T (mkF m pc ls (.long b :: .long a :: st)) := by
  subst hp; exact h.map fun _ q => XS.land X.here k.1 rfl (hb k.2.2.1 hd) rfl q
theorem ior (k : K p s m meth c Z y cd ml ret) (X : Stand p l e R s m args below meth c T locs cells slots) {a : Int32} {b : Int32} (hd : decode cd pc = .ok (.ior, 1)) (pc' : Nat) (hp : pc + 1 = pc') (h : Ends p e s below R Q T (mkF m pc' ls (.int (a ||| b) :: st))) : Ends p e s below R Q T (mkF m pc ls (.int b :: .int a :: st)) := by
  subst hp; exact h.map fun _ q => XS.ior X.here k.1 rfl (hb k.2.2.1 hd) rfl q
theorem lor (k : K p s m meth c Z y cd ml ret) (X : Stand p l e R s m args below meth c T locs cells slots) {a : Int64} {b : Int64} (hd : decode cd pc = .ok (.lor, 1)) (pc' : Nat) (hp : pc + 1 = pc') (h : Ends p e s below R Q T (mkF m pc' ls (.long (a ||| b) :: st))) : Ends p e s below R Q T (mkF m pc ls (.long b :: .long a :: st)) := by
  subst hp; exact h.map fun _ q => XS.lor X.here k.1 rfl (hb k.2.2.1 hd) rfl q
theorem ixor (k : K p s m meth c Z y cd ml ret) (X : Stand p l e R s m args below meth c T locs cells slots) {a : Int32} {b : Int32} (hd : decode cd pc = .ok (.ixor, 1)) (pc' : Nat) (hp : pc + 1 = pc') (h : Ends p e s below R Q T (mkF m pc' ls (.int (a ^^^ b) :: st))) : Ends p e s below R Q T (mkF m pc ls (.int b :: .int a :: st)) := by
  subst hp; exact h.map fun _ q => XS.ixor X.here k.1 rfl (hb k.2.2.1 hd) rfl q
theorem lxor (k : K p s m meth c Z y cd ml ret) (X : Stand p l e R s m args below meth c T locs cells slots) {a : Int64} {b : Int64} (hd : decode cd pc = .ok (.lxor, 1)) (pc' : Nat) (hp : pc + 1 = pc') (h : Ends p e s below R Q T (mkF m pc' ls (.long (a ^^^ b) :: st))) : Ends p e s below R Q T (mkF m pc ls (.long b :: .long a :: st)) := by
  subst hp; exact h.map fun _ q => XS.lxor X.here k.1 rfl (hb k.2.2.1 hd) rfl q
theorem idiv (k : K p s m meth c Z y cd ml ret) (X : Stand p l e R s m args below meth c T locs cells slots) {a : Int32} {b : Int32} (hd : decode cd pc = .ok (.idiv, 1)) (hy : b ≠ 0) (pc' : Nat) (hp : pc + 1 = pc') (h : Ends p e s below R Q T (mkF m pc' ls (.int (a / b) :: st))) : Ends p e s below R Q T (mkF m pc ls (.int b :: .int a :: st)) := by
  subst hp; exact h.map fun _ q => XS.idiv X.here k.1 rfl (hb k.2.2.1 hd) rfl hy q
theorem ldiv (k : K p s m meth c Z y cd ml ret) (X : Stand p l e R s m args below meth c T locs cells slots) {a : Int64} {b : Int64} (hd : decode cd pc = .ok (.ldiv, 1)) (hy : b ≠ 0) (pc' : Nat) (hp : pc + 1 = pc') (h : Ends p e s below R Q T (mkF m pc' ls (.long (a / b) :: st))) : Ends p e s below R Q T (mkF m pc ls (.long b :: .long a :: st)) := by
  subst hp; exact h.map fun _ q => XS.ldiv X.here k.1 rfl (hb k.2.2.1 hd) rfl hy q
theorem ishl (k : K p s m meth c Z y cd ml ret) (X : Stand p l e R s m args below meth c T locs cells slots) {a : Int32} {b : Int32} (hd : decode cd pc = .ok (.ishl, 1)) (pc' : Nat) (hp : pc + 1 = pc') (h : Ends p e s below R Q T (mkF m pc' ls (.int (a <<< (b &&& 31)) :: st))) : Ends p e s below R Q T (mkF m pc ls (.int b :: .int a :: st)) := by
  subst hp; exact h.map fun _ q => XS.ishl X.here k.1 rfl (hb k.2.2.1 hd) rfl q
theorem ishr (k : K p s m meth c Z y cd ml ret) (X : Stand p l e R s m args below meth c T locs cells slots) {a : Int32} {b : Int32} (hd : decode cd pc = .ok (.ishr, 1)) (pc' : Nat) (hp : pc + 1 = pc') (h : Ends p e s below R Q T (mkF m pc' ls (.int (a >>> (b &&& 31)) :: st))) : Ends p e s below R Q T (mkF m pc ls (.int b :: .int a :: st)) := by
  subst hp; exact h.map fun _ q => XS.ishr X.here k.1 rfl (hb k.2.2.1 hd) rfl q
theorem iushr (k : K p s m meth c Z y cd ml ret) (X : Stand p l e R s m args below meth c T locs cells slots) {a : Int32} {b : Int32} (hd : decode cd pc = .ok (.iushr, 1)) (pc' : Nat) (hp : pc + 1 = pc') (h : Ends p e s below R Q T (mkF m pc' ls (.int ((a.toUInt32 >>> (b &&& 31).toUInt32).toInt32) :: st))) : Ends p e s below R Q T (mkF m pc ls (.int b :: .int a :: st)) := by
  subst hp; exact h.map fun _ q => XS.iushr X.here k.1 rfl (hb k.2.2.1 hd) rfl q
theorem lshl (k : K p s m meth c Z y cd ml ret) (X : Stand p l e R s m args below meth c T locs cells slots) {a : Int64} {b : Int32} (hd : decode cd pc = .ok (.lshl, 1)) (pc' : Nat) (hp : pc + 1 = pc') (h : Ends p e s below R Q T (mkF m pc' ls (.long (a <<< (b &&& 0x3f).toInt64) :: st))) : Ends p e s below R Q T (mkF m pc ls (.int b :: .long a :: st)) := by
  subst hp; exact h.map fun _ q => XS.lshl X.here k.1 rfl (hb k.2.2.1 hd) rfl q
theorem lshr (k : K p s m meth c Z y cd ml ret) (X : Stand p l e R s m args below meth c T locs cells slots) {a : Int64} {b : Int32} (hd : decode cd pc = .ok (.lshr, 1)) (pc' : Nat) (hp : pc + 1 = pc') (h : Ends p e s below R Q T (mkF m pc' ls (.long (a >>> (b &&& 0x3f).toInt64) :: st))) : Ends p e s below R Q T (mkF m pc ls (.int b :: .long a :: st)) := by
  subst hp; exact h.map fun _ q => XS.lshr X.here k.1 rfl (hb k.2.2.1 hd) rfl q
theorem lushr (k : K p s m meth c Z y cd ml ret) (X : Stand p l e R s m args below meth c T locs cells slots) {a : Int64} {b : Int32} (hd : decode cd pc = .ok (.lushr, 1)) (pc' : Nat) (hp : pc + 1 = pc') (h : Ends p e s below R Q T (mkF m pc' ls (.long ((a.toUInt64 >>> (b &&& 0x3f).toInt64.toUInt64).toInt64) :: st))) : Ends p e s below R Q T (mkF m pc ls (.int b :: .long a :: st)) := by
  subst hp; exact h.map fun _ q => XS.lushr X.here k.1 rfl (hb k.2.2.1 hd) rfl q
theorem irem (k : K p s m meth c Z y cd ml ret) (X : Stand p l e R s m args below meth c T locs cells slots) {a b : Int32} (hd : decode cd pc = .ok (.irem, 1)) (hy : b ≠ 0) (pc' : Nat) (hp : pc + 1 = pc') (h : Ends p e s below R Q T (mkF m pc' ls (.int (a % b) :: st))) : Ends p e s below R Q T (mkF m pc ls (.int b :: .int a :: st)) := by
  subst hp; exact h.map fun _ q => iremM X k.1 rfl (hb k.2.2.1 hd) rfl hy q
theorem ineg (k : K p s m meth c Z y cd ml ret) (X : Stand p l e R s m args below meth c T locs cells slots) {a : Int32} (hd : decode cd pc = .ok (.ineg, 1)) (pc' : Nat) (hp : pc + 1 = pc') (h : Ends p e s below R Q T (mkF m pc' ls (.int (-a) :: st))) : Ends p e s below R Q T (mkF m pc ls (.int a :: st)) := by
  subst hp; exact h.map fun _ q => XS.ineg X.here k.1 rfl (hb k.2.2.1 hd) rfl q
theorem lneg (k : K p s m meth c Z y cd ml ret) (X : Stand p l e R s m args below meth c T locs cells slots) {a : Int64} (hd : decode cd pc = .ok (.lneg, 1)) (pc' : Nat) (hp : pc + 1 = pc') (h : Ends p e s below R Q T (mkF m pc' ls (.long (-a) :: st))) : Ends p e s below R Q T (mkF m pc ls (.long a :: st)) := by
  subst hp; exact h.map fun _ q => XS.lneg X.here k.1 rfl (hb k.2.2.1 hd) rfl q
theorem i2l (k : K p s m meth c Z y cd ml ret) (X : Stand p l e R s m args below meth c T locs cells slots) {a : Int32} (hd : decode cd pc = .ok (.i2l, 1)) (pc' : Nat) (hp : pc + 1 = pc') (h : Ends p e s below R Q T (mkF m pc' ls (.long (a.toInt64) :: st))) : Ends p e s below R Q T (mkF m pc ls (.int a :: st)) := by
  subst hp; exact h.map fun _ q => XS.i2l X.here k.1 rfl (hb k.2.2.1 hd) rfl q
theorem l2i (k : K p s m meth c Z y cd ml ret) (X : Stand p l e R s m args below meth c T locs cells slots) {a : Int64} (hd : decode cd pc = .ok (.l2i, 1)) (pc' : Nat) (hp : pc + 1 = pc') (h : Ends p e s below R Q T (mkF m pc' ls (.int (a.toInt32) :: st))) : Ends p e s below R Q T (mkF m pc ls (.long a :: st)) := by
  subst hp; exact h.map fun _ q => XS.l2i X.here k.1 rfl (hb k.2.2.1 hd) rfl q
theorem i2b (k : K p s m meth c Z y cd ml ret) (X : Stand p l e R s m args below meth c T locs cells slots) {a : Int32} (hd : decode cd pc = .ok (.i2b, 1)) (pc' : Nat) (hp : pc + 1 = pc') (h : Ends p e s below R Q T (mkF m pc' ls (.int (a.toInt8.toInt32) :: st))) : Ends p e s below R Q T (mkF m pc ls (.int a :: st)) := by
  subst hp; exact h.map fun _ q => XS.i2b X.here k.1 rfl (hb k.2.2.1 hd) rfl q
theorem i2s (k : K p s m meth c Z y cd ml ret) (X : Stand p l e R s m args below meth c T locs cells slots) {a : Int32} (hd : decode cd pc = .ok (.i2s, 1)) (pc' : Nat) (hp : pc + 1 = pc') (h : Ends p e s below R Q T (mkF m pc' ls (.int (a.toInt16.toInt32) :: st))) : Ends p e s below R Q T (mkF m pc ls (.int a :: st)) := by
  subst hp; exact h.map fun _ q => XS.i2s X.here k.1 rfl (hb k.2.2.1 hd) rfl q
theorem i2c (k : K p s m meth c Z y cd ml ret) (X : Stand p l e R s m args below meth c T locs cells slots) {a : Int32} (hd : decode cd pc = .ok (.i2c, 1)) (pc' : Nat) (hp : pc + 1 = pc') (h : Ends p e s below R Q T (mkF m pc' ls (.int (a.toUInt32.toUInt16.toUInt32.toInt32) :: st))) : Ends p e s below R Q T (mkF m pc ls (.int a :: st)) := by
  subst hp; exact h.map fun _ q => XS.i2c X.here k.1 rfl (hb k.2.2.1 hd) rfl q
/-! stack, jumps -/
theorem dup (k : K p s m meth c Z y cd ml ret) (X : Stand p l e R s m args below meth c T locs cells slots) {v : Value} (hd : decode cd pc = .ok (.dup, 1)) (hc : v.category = 1) (pc' : Nat) (hp : pc + 1 = pc') (h : Ends p e s below R Q T (mkF m pc' ls (v :: v :: st))) : Ends p e s below R Q T (mkF m pc ls (v :: st)) := by
  subst hp; exact h.map fun _ q => XS.dup X.here k.1 rfl (hb k.2.2.1 hd) rfl hc q
theorem pop (k : K p s m meth c Z y cd ml ret) (X : Stand p l e R s m args below meth c T locs cells slots) {v : Value} (hd : decode cd pc = .ok (.pop, 1)) (hc : v.category = 1) (pc' : Nat) (hp : pc + 1 = pc') (h : Ends p e s below R Q T (mkF m pc' ls st)) : Ends p e s below R Q T (mkF m pc ls (v :: st)) := by
  subst hp; exact h.map fun _ q => XS.pop X.here k.1 rfl (hb k.2.2.1 hd) rfl hc q
theorem dup_x1 (k : K p s m meth c Z y cd ml ret) (X : Stand p l e R s m args below meth c T locs cells slots) {v v' : Value} (hd : decode cd pc = .ok (.dup_x1, 1)) (hc : v.category = 1) (hc' : v'.category = 1) (pc' : Nat) (hp : pc + 1 = pc') (h : Ends p e s below R Q T (mkF m pc' ls (v :: v' :: v :: st))) : Ends p e s below R Q T (mkF m pc ls (v :: v' :: st)) := by
  subst hp; exact h.map fun _ q => XS.dupX1 X.here k.1 rfl (hb k.2.2.1 hd) rfl hc hc' q
theorem dup2 (k : K p s m meth c Z y cd ml ret) (X : Stand p l e R s m args below meth c T locs cells slots) {v v' : Value} (hd : decode cd pc = .ok (.dup2, 1)) (hc : v.category = 1) (hc' : v'.category = 1) (pc' : Nat) (hp : pc + 1 = pc') (h : Ends p e s below R Q T (mkF m pc' ls (v :: v' :: v :: v' :: st))) : Ends p e s below R Q T (mkF m pc ls (v :: v' :: st)) := by
  subst hp; exact h.map fun _ q => Jvm.Free.XT.dup2 X.here k.1 rfl (hb k.2.2.1 hd) rfl hc hc' q
theorem goto (k : K p s m meth c Z y cd ml ret) (X : Stand p l e R s m args below meth c T locs cells slots) {o : Int} (hd : decode cd pc = .ok (.goto o, 3)) (ho : 0 ≤ (pc : Int) + o) (pc' : Nat) (hp : ((pc : Int) + o).toNat = pc') (h : Ends p e s below R Q T (mkF m pc' ls st)) : Ends p e s below R Q T (mkF m pc ls st) := by
  exact h.map fun _ q => XS.goto X.here k.1 rfl rfl (hb k.2.2.1 hd) ho hp q
theorem icmp_lt (k : K p s m meth c Z y cd ml ret) (X : Stand p l e R s m args below meth c T locs cells slots) {a b : Int32} {o : Int} (hd : decode cd pc = .ok (.if_icmp .lt o, 3)) (ho : 0 ≤ (pc : Int) + o) (py pn : Nat) (hy : ((pc : Int) + o).toNat = py) (hn : pc + 3 = pn) (h1 : a < b → Ends p e s below R Q T (mkF m py ls st)) (h2 : ¬ a < b → Ends p e s below R Q T (mkF m pn ls st)) : Ends p e s below R Q T (mkF m pc ls (.int b :: .int a :: st)) := by
  subst hn
  by_cases q : a < b
  · exact (h1 q).map fun _ r => XS.icmpYes X.here k.1 rfl rfl (hb k.2.2.1 hd) rfl (tlt q).1 ho hy r
  · exact (h2 q).map fun _ r => XS.icmpNo X.here k.1 rfl (hb k.2.2.1 hd) rfl (flt q).1 r
theorem if_lt (k : K p s m meth c Z y cd ml ret) (X : Stand p l e R s m args below meth c T locs cells slots) {a : Int32} {o : Int} (hd : decode cd pc = .ok (.ifCond .lt o, 3)) (ho : 0 ≤ (pc : Int) + o) (py pn : Nat) (hy : ((pc : Int) + o).toNat = py) (hn : pc + 3 = pn) (h1 : a < 0 → Ends p e s below R Q T (mkF m py ls st)) (h2 : ¬ a < 0 → Ends p e s below R Q T (mkF m pn ls st)) : Ends p e s below R Q T (mkF m pc ls (.int a :: st)) := by
  subst hn
  by_cases q : a < 0
  · exact (h1 q).map fun _ r => XS.ifYes X.here k.1 rfl rfl (hb k.2.2.1 hd) rfl ((if0 _ _).trans (tlt q).1) ho hy r
  · exact (h2 q).map fun _ r => XS.ifNo X.here k.1 rfl (hb k.2.2.1 hd) rfl ((if0 _ _).trans (flt q).1) r
theorem icmp_ge (k : K p s m meth c Z y cd ml ret) (X : Stand p l e R s m args below meth c T locs cells slots) {a b : Int32} {o : Int} (hd : decode cd pc = .ok (.if_icmp .ge o, 3)) (ho : 0 ≤ (pc : Int) + o) (py pn : Nat) (hy : ((pc : Int) + o).toNat = py) (hn : pc + 3 = pn) (h1 : ¬ a < b → Ends p e s below R Q T (mkF m py ls st)) (h2 : a < b → Ends p e s below R Q T (mkF m pn ls st)) : Ends p e s below R Q T (mkF m pc ls (.int b :: .int a :: st)) := by
  subst hn
  by_cases q : a < b
  · exact (h2 q).map fun _ r => XS.icmpNo X.here k.1 rfl (hb k.2.2.1 hd) rfl (tlt q).2.1 r
  · exact (h1 q).map fun _ r => XS.icmpYes X.here k.1 rfl rfl (hb k.2.2.1 hd) rfl (flt q).2.1 ho hy r
theorem if_ge (k : K p s m meth c Z y cd ml ret) (X : Stand p l e R s m args below meth c T locs cells slots) {a : Int32} {o : Int} (hd : decode cd pc = .ok (.ifCond .ge o, 3)) (ho : 0 ≤ (pc : Int) + o) (py pn : Nat) (hy : ((pc : Int) + o).toNat = py) (hn : pc + 3 = pn) (h1 : ¬ a < 0 → Ends p e s below R Q T (mkF m py ls st)) (h2 : a < 0 → Ends p e s below R Q T (mkF m pn ls st)) : Ends p e s below R Q T (mkF m pc ls (.int a :: st)) := by
  subst hn
  by_cases q : a < 0
  · exact (h2 q).map fun _ r => XS.ifNo X.here k.1 rfl (hb k.2.2.1 hd) rfl ((if0 _ _).trans (tlt q).2.1) r
  · exact (h1 q).map fun _ r => XS.ifYes X.here k.1 rfl rfl (hb k.2.2.1 hd) rfl ((if0 _ _).trans (flt q).2.1) ho hy r
theorem icmp_gt (k : K p s m meth c Z y cd ml ret) (X : Stand p l e R s m args below meth c T locs cells slots) {a b : Int32} {o : Int} (hd : decode cd pc = .ok (.if_icmp .gt o, 3)) (ho : 0 ≤ (pc : Int) + o) (py pn : Nat) (hy : ((pc : Int) + o).toNat = py) (hn : pc + 3 = pn) (h1 : b < a → Ends p e s below R Q T (mkF m py ls st)) (h2 : ¬ b < a → Ends p e s below R Q T (mkF m pn ls st)) : Ends p e s below R Q T (mkF m pc ls (.int b :: .int a :: st)) := by
  subst hn
  by_cases q : b < a
  · exact (h1 q).map fun _ r => XS.icmpYes X.here k.1 rfl rfl (hb k.2.2.1 hd) rfl (tlt q).2.2.1 ho hy r
  · exact (h2 q).map fun _ r => XS.icmpNo X.here k.1 rfl (hb k.2.2.1 hd) rfl (flt q).2.2.1 r
theorem if_gt (k : K p s m meth c Z y cd ml ret) (X : Stand p l e R s m args below meth c T locs cells slots) {a : Int32} {o : Int} (hd : decode cd pc = .ok (.ifCond .gt o, 3)) (ho : 0 ≤ (pc : Int) + o) (py pn : Nat) (hy : ((pc : Int) + o).toNat = py) (hn : pc + 3 = pn) (h1 : 0 < a → Ends p e s below R Q T (mkF m py ls st)) (h2 : ¬ 0 < a → Ends p e s below R Q T (mkF m pn ls st)) : Ends p e s below R Q T (mkF m pc ls (.int a :: st)) := by
  subst hn
  by_cases q : 0 < a
  · exact (h1 q).map fun _ r => XS.ifYes X.here k.1 rfl rfl (hb k.2.2.1 hd) rfl ((if0 _ _).trans (tlt q).2.2.1) ho hy r
  · exact (h2 q).map fun _ r => XS.ifNo X.here k.1 rfl (hb k.2.2.1 hd) rfl ((if0 _ _).trans (flt q).2.2.1) r
theorem icmp_le (k : K p s m meth c Z y cd ml ret) (X : Stand p l e R s m args below meth c T locs cells slots) {a b : Int32} {o : Int} (hd : decode cd pc = .ok (.if_icmp .le o, 3)) (ho : 0 ≤ (pc : Int) + o) (py pn : Nat) (hy : ((pc : Int) + o).toNat = py) (hn : pc + 3 = pn) (h1 : ¬ b < a → Ends p e s below R Q T (mkF m py ls st)) (h2 : b < a → Ends p e s below R Q T (mkF m pn ls st)) : Ends p e s below R Q T (mkF m pc ls (.int b :: .int a :: st)) := by
  subst hn
  by_cases q : b < a
  · exact (h2 q).map fun _ r => XS.icmpNo X.here k.1 rfl (hb k.2.2.1 hd) rfl (tlt q).2.2.2 r
  · exact (h1 q).map fun _ r => XS.icmpYes X.here k.1 rfl rfl (hb k.2.2.1 hd) rfl (flt q).2.2.2 ho hy r
theorem if_le (k : K p s m meth c Z y cd ml ret) (X : Stand p l e R s m args below meth c T locs cells slots) {a : Int32} {o : Int} (hd : decode cd pc = .ok (.ifCond .le o, 3)) (ho : 0 ≤ (pc : Int) + o) (py pn : Nat) (hy : ((pc : Int) + o).toNat = py) (hn : pc + 3 = pn) (h1 : ¬ 0 < a → Ends p e s below R Q T (mkF m py ls st)) (h2 : 0 < a → Ends p e s below R Q T (mkF m pn ls st)) : Ends p e s below R Q T (mkF m pc ls (.int a :: st)) := by
  subst hn
  by_cases q : 0 < a
  · exact (h2 q).map fun _ r => XS.ifNo X.here k.1 rfl (hb k.2.2.1 hd) rfl ((if0 _ _).trans (tlt q).2.2.2) r
  · exact (h1 q).map fun _ r => XS.ifYes X.here k.1 rfl rfl (hb k.2.2.1 hd) rfl ((if0 _ _).trans (flt q).2.2.2) ho hy r
theorem icmp_eq (k : K p s m meth c Z y cd ml ret) (X : Stand p l e R s m args below meth c T locs cells slots) {a b : Int32} {o : Int} (hd : decode cd pc = .ok (.if_icmp .eq o, 3)) (ho : 0 ≤ (pc : Int) + o) (py pn : Nat) (hy : ((pc : Int) + o).toNat = py) (hn : pc + 3 = pn) (h1 : a = b → Ends p e s below R Q T (mkF m py ls st)) (h2 : ¬ a = b → Ends p e s below R Q T (mkF m pn ls st)) : Ends p e s below R Q T (mkF m pc ls (.int b :: .int a :: st)) := by
  subst hn
  by_cases q : a = b
  · exact (h1 q).map fun _ r => XS.icmpYes X.here k.1 rfl rfl (hb k.2.2.1 hd) rfl (teq q).1 ho hy r
  · exact (h2 q).map fun _ r => XS.icmpNo X.here k.1 rfl (hb k.2.2.1 hd) rfl (feq q).1 r
theorem if_eq (k : K p s m meth c Z y cd ml ret) (X : Stand p l e R s m args below meth c T locs cells slots) {a : Int32} {o : Int} (hd : decode cd pc = .ok (.ifCond .eq o, 3)) (ho : 0 ≤ (pc : Int) + o) (py pn : Nat) (hy : ((pc : Int) + o).toNat = py) (hn : pc + 3 = pn) (h1 : a = 0 → Ends p e s below R Q T (mkF m py ls st)) (h2 : ¬ a = 0 → Ends p e s below R Q T (mkF m pn ls st)) : Ends p e s below R Q T (mkF m pc ls (.int a :: st)) := by
  subst hn
  by_cases q : a = 0
  · exact (h1 q).map fun _ r => XS.ifYes X.here k.1 rfl rfl (hb k.2.2.1 hd) rfl ((if0 _ _).trans (teq q).1) ho hy r
  · exact (h2 q).map fun _ r => XS.ifNo X.here k.1 rfl (hb k.2.2.1 hd) rfl ((if0 _ _).trans (feq q).1) r
theorem icmp_ne (k : K p s m meth c Z y cd ml ret) (X : Stand p l e R s m args below meth c T locs cells slots) {a b : Int32} {o : Int} (hd : decode cd pc = .ok (.if_icmp .ne o, 3)) (ho : 0 ≤ (pc : Int) + o) (py pn : Nat) (hy : ((pc : Int) + o).toNat = py) (hn : pc + 3 = pn) (h1 : ¬ a = b → Ends p e s below R Q T (mkF m py ls st)) (h2 : a = b → Ends p e s below R Q T (mkF m pn ls st)) : Ends p e s below R Q T (mkF m pc ls (.int b :: .int a :: st)) := by
  subst hn
  by_cases q : a = b
  · exact (h2 q).map fun _ r => XS.icmpNo X.here k.1 rfl (hb k.2.2.1 hd) rfl (teq q).2 r
  · exact (h1 q).map fun _ r => XS.icmpYes X.here k.1 rfl rfl (hb k.2.2.1 hd) rfl (feq q).2 ho hy r
theorem if_ne (k : K p s m meth c Z y cd ml ret) (X : Stand p l e R s m args below meth c T locs cells slots) {a : Int32} {o : Int} (hd : decode cd pc = .ok (.ifCond .ne o, 3)) (ho : 0 ≤ (pc : Int) + o) (py pn : Nat) (hy : ((pc : Int) + o).toNat = py) (hn : pc + 3 = pn) (h1 : ¬ a = 0 → Ends p e s below R Q T (mkF m py ls st)) (h2 : a = 0 → Ends p e s below R Q T (mkF m pn ls st)) : Ends p e s below R Q T (mkF m pc ls (.int a :: st)) := by
  subst hn
  by_cases q : a = 0
  · exact (h2 q).map fun _ r => XS.ifNo X.here k.1 rfl (hb k.2.2.1 hd) rfl ((if0 _ _).trans (teq q).2) r
  · exact (h1 q).map fun _ r => XS.ifYes X.here k.1 rfl rfl (hb k.2.2.1 hd) rfl ((if0 _ _).trans (feq q).2) ho hy r
theorem lcmp_lt (k : K p s m meth c Z y cd ml ret) (X : Stand p l e R s m args below meth c T locs cells slots) {a b : Int64} {o : Int} (hd0 : decode cd pc = .ok (.lcmp, 1)) (pc1 : Nat) (hp1 : pc + 1 = pc1) (hd : decode cd pc1 = .ok (.ifCond .lt o, 3)) (ho : 0 ≤ (pc1 : Int) + o) (py pn : Nat) (hy : ((pc1 : Int) + o).toNat = py) (hn : pc1 + 3 = pn) (h1 : a < b → Ends p e s below R Q T (mkF m py ls st)) (h2 : ¬ a < b → Ends p e s below R Q T (mkF m pn ls st)) : Ends p e s below R Q T (mkF m pc ls (.long b :: .long a :: st)) := by
  subst hp1
  refine Ends.map (T' := T) (f' := mkF m (pc + 1) ls (.int (lcmpW a b) :: st)) (fun _ q => XS.lcmp X.here k.1 rfl (hb k.2.2.1 hd0) rfl q) ?_
  exact if_lt k X hd ho py pn hy hn (fun q => h1 ((lw_lt a b).mp q)) (fun q => h2 (mt (lw_lt a b).mpr q))
theorem lcmp_ge (k : K p s m meth c Z y cd ml ret) (X : Stand p l e R s m args below meth c T locs cells slots) {a b : Int64} {o : Int} (hd0 : decode cd pc = .ok (.lcmp, 1)) (pc1 : Nat) (hp1 : pc + 1 = pc1) (hd : decode cd pc1 = .ok (.ifCond .ge o, 3)) (ho : 0 ≤ (pc1 : Int) + o) (py pn : Nat) (hy : ((pc1 : Int) + o).toNat = py) (hn : pc1 + 3 = pn) (h1 : ¬ a < b → Ends p e s below R Q T (mkF m py ls st)) (h2 : a < b → Ends p e s below R Q T (mkF m pn ls st)) : Ends p e s below R Q T (mkF m pc ls (.long b :: .long a :: st)) := by
  subst hp1
  refine Ends.map (T' := T) (f' := mkF m (pc + 1) ls (.int (lcmpW a b) :: st)) (fun _ q => XS.lcmp X.here k.1 rfl (hb k.2.2.1 hd0) rfl q) ?_
  exact if_ge k X hd ho py pn hy hn (fun q => h1 (mt (lw_lt a b).mpr q)) (fun q => h2 ((lw_lt a b).mp q))
theorem lcmp_gt (k : K p s m meth c Z y cd ml ret) (X : Stand p l e R s m args below meth c T locs cells slots) {a b : Int64} {o : Int} (hd0 : decode cd pc = .ok (.lcmp, 1)) (pc1 : Nat) (hp1 : pc + 1 = pc1) (hd : decode cd pc1 = .ok (.ifCond .gt o, 3)) (ho : 0 ≤ (pc1 : Int) + o) (py pn : Nat) (hy : ((pc1 : Int) + o).toNat = py) (hn : pc1 + 3 = pn) (h1 : b < a → Ends p e s below R Q T (mkF m py ls st)) (h2 : ¬ b < a → Ends p e s below R Q T (mkF m pn ls st)) : Ends p e s below R Q T (mkF m pc ls (.long b :: .long a :: st)) := by
  subst hp1
  refine Ends.map (T' := T) (f' := mkF m (pc + 1) ls (.int (lcmpW a b) :: st)) (fun _ q => XS.lcmp X.here k.1 rfl (hb k.2.2.1 hd0) rfl q) ?_
  exact if_gt k X hd ho py pn hy hn (fun q => h1 ((lw_gt a b).mp q)) (fun q => h2 (mt (lw_gt a b).mpr q))
theorem lcmp_le (k : K p s m meth c Z y cd ml ret) (X : Stand p l e R s m args below meth c T locs cells slots) {a b : Int64} {o : Int} (hd0 : decode cd pc = .ok (.lcmp, 1)) (pc1 : Nat) (hp1 : pc + 1 = pc1) (hd : decode cd pc1 = .ok (.ifCond .le o, 3)) (ho : 0 ≤ (pc1 : Int) + o) (py pn : Nat) (hy : ((pc1 : Int) + o).toNat = py) (hn : pc1 + 3 = pn) (h1 : ¬ b < a → Ends p e s below R Q T (mkF m py ls st)) (h2 : b < a → Ends p e s below R Q T (mkF m pn ls st)) : Ends p e s below R Q T (mkF m pc ls (.long b :: .long a :: st)) := by
  subst hp1
  refine Ends.map (T' := T) (f' := mkF m (pc + 1) ls (.int (lcmpW a b) :: st)) (fun _ q => XS.lcmp X.here k.1 rfl (hb k.2.2.1 hd0) rfl q) ?_
  exact if_le k X hd ho py pn hy hn (fun q => h1 (mt (lw_gt a b).mpr q)) (fun q => h2 ((lw_gt a b).mp q))
theorem lcmp_eq (k : K p s m meth c Z y cd ml ret) (X : Stand p l e R s m args below meth c T locs cells slots) {a b : Int64} {o : Int} (hd0 : decode cd pc = .ok (.lcmp, 1)) (pc1 : Nat) (hp1 : pc + 1 = pc1) (hd : decode cd pc1 = .ok (.ifCond .eq o, 3)) (ho : 0 ≤ (pc1 : Int) + o) (py pn : Nat) (hy : ((pc1 : Int) + o).toNat = py) (hn : pc1 + 3 = pn) (h1 : a = b → Ends p e s below R Q T (mkF m py ls st)) (h2 : ¬ a = b → Ends p e s below R Q T (mkF m pn ls st)) : Ends p e s below R Q T (mkF m pc ls (.long b :: .long a :: st)) := by
  subst hp1
  refine Ends.map (T' := T) (f' := mkF m (pc + 1) ls (.int (lcmpW a b) :: st)) (fun _ q => XS.lcmp X.here k.1 rfl (hb k.2.2.1 hd0) rfl q) ?_
  exact if_eq k X hd ho py pn hy hn (fun q => h1 ((lw_eq a b).mp q)) (fun q => h2 (mt (lw_eq a b).mpr q))
theorem lcmp_ne (k : K p s m meth c Z y cd ml ret) (X : Stand p l e R s m args below meth c T locs cells slots) {a b : Int64} {o : Int} (hd0 : decode cd pc = .ok (.lcmp, 1)) (pc1 : Nat) (hp1 : pc + 1 = pc1) (hd : decode cd pc1 = .ok (.ifCond .ne o, 3)) (ho : 0 ≤ (pc1 : Int) + o) (py pn : Nat) (hy : ((pc1 : Int) + o).toNat = py) (hn : pc1 + 3 = pn) (h1 : ¬ a = b → Ends p e s below R Q T (mkF m py ls st)) (h2 : a = b → Ends p e s below R Q T (mkF m pn ls st)) : Ends p e s below R Q T (mkF m pc ls (.long b :: .long a :: st)) := by
  subst hp1
  refine Ends.map (T' := T) (f' := mkF m (pc + 1) ls (.int (lcmpW a b) :: st)) (fun _ q => XS.lcmp X.here k.1 rfl (hb k.2.2.1 hd0) rfl q) ?_
  exact if_ne k X hd ho py pn hy hn (fun q => h1 (mt (lw_eq a b).mpr q)) (fun q => h2 ((lw_eq a b).mp q))
/-! references -/
theorem ifnull_y (k : K p s m meth c Z y cd ml ret) (X : Stand p l e R s m args below meth c T locs cells slots) {o : Int} (hd : decode cd pc = .ok (.ifnull o, 3)) (ho : 0 ≤ (pc : Int) + o) (pc' : Nat) (hp : ((pc : Int) + o).toNat = pc') (h : Ends p e s below R Q T (mkF m pc' ls st)) : Ends p e s below R Q T (mkF m pc ls (.null :: st)) := by
  exact h.map fun _ q => XS.ifnullYes X.here k.1 rfl rfl (hb k.2.2.1 hd) rfl ho hp q
theorem ifnull_n (k : K p s m meth c Z y cd ml ret) (X : Stand p l e R s m args below meth c T locs cells slots) {o : Int} {a : Addr} (hd : decode cd pc = .ok (.ifnull o, 3)) (pc' : Nat) (hp : pc + 3 = pc') (h : Ends p e s below R Q T (mkF m pc' ls st)) : Ends p e s below R Q T (mkF m pc ls (.ref a :: st)) := by
  subst hp; exact h.map fun _ q => XS.ifnullNo X.here k.1 rfl (hb k.2.2.1 hd) rfl q
theorem ifnonnull_y (k : K p s m meth c Z y cd ml ret) (X : Stand p l e R s m args below meth c T locs cells slots) {o : Int} {a : Addr} (hd : decode cd pc = .ok (.ifnonnull o, 3)) (ho : 0 ≤ (pc : Int) + o) (pc' : Nat) (hp : ((pc : Int) + o).toNat = pc') (h : Ends p e s below R Q T (mkF m pc' ls st)) : Ends p e s below R Q T (mkF m pc ls (.ref a :: st)) := by
  exact h.map fun _ q => XS.ifnonnullYes X.here k.1 rfl rfl (hb k.2.2.1 hd) rfl ho hp q
theorem ifnonnull_n (k : K p s m meth c Z y cd ml ret) (X : Stand p l e R s m args below meth c T locs cells slots) {o : Int} (hd : decode cd pc = .ok (.ifnonnull o, 3)) (pc' : Nat) (hp : pc + 3 = pc') (h : Ends p e s below R Q T (mkF m pc' ls st)) : Ends p e s below R Q T (mkF m pc ls (.null :: st)) := by
  subst hp; exact h.map fun _ q => XS.ifnonnullNo X.here k.1 rfl (hb k.2.2.1 hd) rfl q
/-! returns -/
theorem ret_int (k : K p s m meth c Z y cd ml ret) (X : Stand p l e R s m args below meth c T locs cells slots) (hret : ret = some .int) {z : Int32} (hd : decode cd pc = .ok (.ireturn, 1)) (hc : cells ≤ R.cells) (hs : slots ≤ R.slots) (h : Q (some (.int z)) T.heap locs) : Ends p e s below R Q T (mkF m pc ls (.int z :: st)) := by
  have hl := k.2.2.2.2.2.2.1
  obtain ⟨fs, hr, hrun, hended, hW, hsame⟩ := X.leave (v := some (.int z)) (fun q => by rw [k.2.2.2.2.2.1, hret] at q; cases q)
  exact ⟨_, _, retOut X k.1 (t := .int) (k.2.2.2.2.2.1.trans hret) rfl (Or.inl ⟨rfl, Or.inl rfl, _, rfl⟩) (hb k.2.2.1 hd) hr, hrun, hended, _, _, rfl, h, ⟨_, rfl⟩, hW, hsame.mono hc hs⟩
theorem ret_bool (k : K p s m meth c Z y cd ml ret) (X : Stand p l e R s m args below meth c T locs cells slots) (hret : ret = some .boolean) {z : Int32} (hd : decode cd pc = .ok (.ireturn, 1)) (hc : cells ≤ R.cells) (hs : slots ≤ R.slots) (hz : z = 0 ∨ z = 1) (h : Q (some (.int z)) T.heap locs) : Ends p e s below R Q T (mkF m pc ls (.int z :: st)) := by
  have hl := k.2.2.2.2.2.2.1
  obtain ⟨fs, hr, hrun, hended, hW, hsame⟩ := X.leave (v := some (.int z)) (fun q => by rw [k.2.2.2.2.2.1, hret] at q; cases q)
  exact ⟨_, _, retOut X k.1 (t := .boolean) (k.2.2.2.2.2.1.trans hret) (by rcases hz with rfl | rfl <;> rfl) (Or.inl ⟨rfl, Or.inr (Or.inl rfl), _, rfl⟩) (hb k.2.2.1 hd) hr, hrun, hended, _, _, rfl, h, ⟨_, rfl⟩, hW, hsame.mono hc hs⟩
theorem ret_long (k : K p s m meth c Z y cd ml ret) (X : Stand p l e R s m args below meth c T locs cells slots) (hret : ret = some .long) {z : Int64} (hd : decode cd pc = .ok (.lreturn, 1)) (hc : cells ≤ R.cells) (hs : slots ≤ R.slots) (h : Q (some (.long z)) T.heap locs) : Ends p e s below R Q T (mkF m pc ls (.long z :: st)) := by
  have hl := k.2.2.2.2.2.2.1
  obtain ⟨fs, hr, hrun, hended, hW, hsame⟩ := X.leave (v := some (.long z)) (fun q => by rw [k.2.2.2.2.2.1, hret] at q; cases q)
  exact ⟨_, _, retOut X k.1 (t := .long) (k.2.2.2.2.2.1.trans hret) rfl (Or.inr (Or.inl ⟨rfl, rfl, _, rfl⟩)) (hb k.2.2.1 hd) hr, hrun, hended, _, _, rfl, h, ⟨_, rfl⟩, hW, hsame.mono hc hs⟩
theorem ret_ref (k : K p s m meth c Z y cd ml ret) (X : Stand p l e R s m args below meth c T locs cells slots) {t : FieldType} (hret : ret = some t) (ht : t.isReference = true) {z : Value} (hz : z.isRef = true) (hn : narrow t z = z) (hd : decode cd pc = .ok (.areturn, 1)) (hc : cells ≤ R.cells) (hs : slots ≤ R.slots) (h : Q (some z) T.heap locs) : Ends p e s below R Q T (mkF m pc ls (z :: st)) := by
  have hl := k.2.2.2.2.2.2.1
  obtain ⟨fs, hr, hrun, hended, hW, hsame⟩ := X.leave (v := some z) (fun q => by rw [k.2.2.2.2.2.1, hret] at q; cases q)
  exact ⟨_, _, retOut X k.1 (t := t) (k.2.2.2.2.2.1.trans hret) hn (Or.inr (Or.inr (Or.inr (Or.inr ⟨rfl, ht, hz⟩)))) (hb k.2.2.1 hd) hr, hrun, hended, _, _, rfl, h, ⟨_, rfl⟩, hW, hsame.mono hc hs⟩
theorem ret_void (k : K p s m meth c Z y cd ml ret) (X : Stand p l e R s m args below meth c T locs cells slots) (hret : ret = none) (hd : decode cd pc = .ok (.return_, 1)) (hc : cells ≤ R.cells) (hs : slots ≤ R.slots) (h : Q none T.heap locs) : Ends p e s below R Q T (mkF m pc ls []) := by
  have hl := k.2.2.2.2.2.2.1
  obtain ⟨fs, hr, hrun, hended, hW, hsame⟩ := X.leave (v := none) (fun _ => rfl)
  exact ⟨_, _, X.returnOut k.1 (k.2.2.2.2.2.1.trans hret) (hb k.2.2.1 hd) hr, hrun, hended, _, _, rfl, h, ⟨_, rfl⟩, hW, hsame.mono hc hs⟩
/-! the heap -/
theorem getfield (k : K p s m meth c Z y cd ml ret) (X : Stand p l e R s m args below meth c T locs cells slots) {R0 O n d host : String} {idx : Nat} {a : Addr} {v : Value} (hd : decode cd pc = .ok (.getfield idx, 3)) (wl : (Jvm.Cond.fieldLink y.cls idx R0 n d).before a0 Z = true ∨ (Jvm.Cond.fieldLinkNest y.cls idx R0 n d host).before a0 Z = true) (via : Via Z R0 O n d) (e0 : T.heap = h) (F : Fld Z h a O n d v) (pc' : Nat) (hp : pc + 3 = pc')
    (g : ∀ T' : State, Stand p l e R s m args below meth c T' locs cells slots → T'.heap = h → Ends p e s below R Q T' (mkF m pc' ls (v :: st))) : Ends p e s below R Q T (mkF m pc ls (.ref a :: st)) := by
  subst hp
  obtain ⟨T', X', e', q⟩ := getF X k.1 k.2.1 k.2.2.2.2.1 wl via e0 F (g := mkF m pc ls (.ref a :: st)) rfl rfl (hb k.2.2.1 hd)
  exact (g T' X' e').map q
theorem getstatic (k : K p s m meth c Z y cd ml ret) (X : Stand p l e R s m args below meth c T locs cells slots) {O n d host : String} {idx : Nat} {v : Value} (hd : decode cd pc = .ok (.getstatic idx, 3)) (wl : (Jvm.Cond.fieldLink y.cls idx O n d).before a0 Z = true ∨ (Jvm.Cond.fieldLinkNest y.cls idx O n d host).before a0 Z = true) (e0 : T.heap = h) (F : Sta Z h O n d v) (pc' : Nat) (hp : pc + 3 = pc')
    (g : ∀ T' : State, Stand p l e R s m args below meth c T' locs cells slots → T'.heap = h → Ends p e s below R Q T' (mkF m pc' ls (v :: st))) : Ends p e s below R Q T (mkF m pc ls st) := by
  subst hp
  obtain ⟨T', X', e', q⟩ := getS2 X k.1 k.2.1 k.2.2.2.2.1 wl Via.refl e0 F (g := mkF m pc ls st) rfl (hb k.2.2.1 hd)
  exact (g T' X' e').map q
theorem putfield (k : K p s m meth c Z y cd ml ret) (X : Stand p l e R s m args below meth c T locs cells slots) {R0 O n d host C : String} {idx kk : Nat} {ty : FieldType} {a : Addr} {v old : Value} (hd : decode cd pc = .ok (.putfield idx, 3)) (wl : (Jvm.Cond.fieldLink y.cls idx R0 n d).before a0 Z = true ∨ (Jvm.Cond.fieldLinkNest y.cls idx R0 n d host).before a0 Z = true) (via : Via Z R0 O n d) (e0 : T.heap = h) (F : Fld Z h a O n d old) (E : Exa Z h a C)
    (L : (Jvm.Cond.lays C O n d).before a0 Z = true ∨ ((Jvm.Cond.laysFinal C O n d).before a0 Z = true ∧ y.cls = O ∧ y.name = "<init>")) (wi : (Jvm.Cond.instantiable C kk).before a0 Z = true) (hty : parseFieldDescriptor d = some ty) (hn : narrow ty v = v) (hf : fits ty v = true) (pc' : Nat) (hp : pc + 3 = pc')
    (g : ∀ (T' : State) (h' : Heap), Stand p l e R s m args below meth c T' (locs ++ [⟨a, Jvm.RoadKit.slotOf Z O n d⟩]) cells slots → T'.heap = h' → Wr h h' a (Jvm.RoadKit.slotOf Z O n d) v → Ends p e s below R Q T' (mkF m pc' ls st)) : Ends p e s below R Q T (mkF m pc ls (v :: .ref a :: st)) := by
  subst hp
  obtain ⟨T', h', X', e', W', q⟩ := putF X k.1 k.2.1 k.2.2.2.2.1 wl via e0 F E (L.imp id fun q => ⟨q.1, q.2.1, k.2.2.2.2.2.2.2.trans q.2.2⟩) wi hty hn hf (g := mkF m pc ls (v :: .ref a :: st)) rfl rfl (hb k.2.2.1 hd)
  exact (g T' h' X' e' W').map q
theorem initObj (k : K p s m meth c Z y cd ml ret) (X : Stand p l e R s m args below meth c T locs cells slots) {idx : Nat} {a : Addr} {W : Nat} (hd : decode cd pc = .ok (.invokespecial idx, 3)) (w1 : (Jvm.Cond.methodLink y.cls idx Lib.objectInit).before a0 Z = true) (w2 : (Jvm.Cond.instanceMethod Lib.objectInit).before a0 Z = true) (w3 : (Jvm.Cond.code Lib.objectInit ⟨#[0xb1]⟩ 1 none).before a0 Z = true) (e0 : T.heap = h) (hsz : ls.size = ml) (hf : 1 ≤ R.frames) (hW : (st.map fun v => v.category).sum + 12 ≤ R.locals) (pc' : Nat) (hp : pc + 3 = pc')
    (g : ∀ T' : State, Stand p l e R s m args below meth c T' locs cells slots → T'.heap = h → Ends p e s below R Q T' (mkF m pc' ls st)) : Ends p e s below R Q T (mkF m pc ls (.ref a :: st)) := by
  subst hp
  obtain ⟨T', X', e', q⟩ := initO X k.1 k.2.1 k.2.2.2.2.1 w1 w2 w3 e0 (g := mkF m pc ls (.ref a :: st)) rfl (hsz.trans k.2.2.2.1.symm) rfl (hb k.2.2.1 hd) hf (W := (st.map fun v => v.category).sum) (by show 2 * 0 + _ ≤ _; rw [Nat.mul_zero, Nat.zero_add]; exact Nat.le_refl _) hW
  exact (g T' X' e').map q
theorem new (k : K p s m meth c Z y cd ml ret) (X : Stand p l e R s m args below meth c T locs cells slots) {C : String} {idx n : Nat} (hd : decode cd pc = .ok (.new idx, 3)) (wl : (Jvm.Cond.classLink y.cls idx C).before a0 Z = true) (wi : (Jvm.Cond.instantiable C n).before a0 Z = true) (wz : (Jvm.Cond.initialized C).before a0 Z = true) (e0 : T.heap = h) (hc : cells + 1 ≤ R.cells) (hs : slots + n ≤ R.slots) (pc' : Nat) (hp : pc + 3 = pc')
    (g : ∀ (T' : State) (h' : Heap) (a : Addr), a = h.size → Stand p l e R s m args below meth c T' locs (cells + 1) (slots + n) → T'.heap = h' → Ext h h' → Exa Z h' a C → (∀ {O nm d : String} {ty : FieldType}, Laid Z a0 C O nm d → parseFieldDescriptor d = some ty → Fld Z h' a O nm d (defaultValue ty)) → Ends p e s below R Q T' (mkF m pc' ls (.ref a :: st))) : Ends p e s below R Q T (mkF m pc ls st) := by
  subst hp
  obtain ⟨T', h', X', e', E', A', D', -, q⟩ := newO X k.1 k.2.1 k.2.2.2.2.1 wl wi wz e0 (g := mkF m pc ls st) rfl (hb k.2.2.1 hd) hc hs
  exact (g T' h' h.size rfl X' e' E' A' D').map q
theorem checkcast (k : K p s m meth c Z y cd ml ret) (X : Stand p l e R s m args below meth c T locs cells slots) {C : String} {idx : Nat} {a : Addr} (hd : decode cd pc = .ok (.checkcast idx, 3)) (wl : (Jvm.Cond.classLink y.cls idx C).before a0 Z = true) (e0 : T.heap = h) (F : Ins Z h a C true) (pc' : Nat) (hp : pc + 3 = pc')
    (g : ∀ T' : State, Stand p l e R s m args below meth c T' locs cells slots → T'.heap = h → Ends p e s below R Q T' (mkF m pc' ls (.ref a :: st))) : Ends p e s below R Q T (mkF m pc ls (.ref a :: st)) := by
  subst hp
  obtain ⟨T', X', e', q⟩ := castY X k.1 k.2.1 k.2.2.2.2.1 wl e0 F (g := mkF m pc ls (.ref a :: st)) rfl rfl (hb k.2.2.1 hd)
  exact (g T' X' e').map q
theorem inst_y (k : K p s m meth c Z y cd ml ret) (X : Stand p l e R s m args below meth c T locs cells slots) {C : String} {idx : Nat} {a : Addr} (hd : decode cd pc = .ok (.instanceof idx, 3)) (wl : (Jvm.Cond.classLink y.cls idx C).before a0 Z = true) (e0 : T.heap = h) (F : Ins Z h a C true) (pc' : Nat) (hp : pc + 3 = pc')
    (g : ∀ T' : State, Stand p l e R s m args below meth c T' locs cells slots → T'.heap = h → Ends p e s below R Q T' (mkF m pc' ls (.int 1 :: st))) : Ends p e s below R Q T (mkF m pc ls (.ref a :: st)) := by
  subst hp
  obtain ⟨T', X', e', q⟩ := instY X k.1 k.2.1 k.2.2.2.2.1 wl e0 F (g := mkF m pc ls (.ref a :: st)) rfl rfl (hb k.2.2.1 hd)
  exact (g T' X' e').map q
theorem acmp_same (k : K p s m meth c Z y cd ml ret) (X : Stand p l e R s m args below meth c T locs cells slots) {cnd : ACond} {o : Int} {a : Addr} (hd : decode cd pc = .ok (.if_acmp cnd o, 3)) (ho : 0 ≤ (pc : Int) + o) (pc' : Nat) (hp : pc' = if acV cnd true = true then ((pc : Int) + o).toNat else pc + 3) (h : Ends p e s below R Q T (mkF m pc' ls st)) : Ends p e s below R Q T (mkF m pc ls (.ref a :: .ref a :: st)) := by
  exact h.map fun _ q => Jvm.RoadKit.acmp (g := mkF m pc ls (.ref a :: .ref a :: st)) X k.1 rfl rfl rfl rfl (hb k.2.2.1 hd) rfl (decide_eq_true rfl) ho hp q
theorem acmp_diff (k : K p s m meth c Z y cd ml ret) (X : Stand p l e R s m args below meth c T locs cells slots) {cnd : ACond} {o : Int} {a : Addr} {v : Value} (hd : decode cd pc = .ok (.if_acmp cnd o, 3)) (hv : v.isRef = true) (hne : Value.ref a ≠ v) (ho : 0 ≤ (pc : Int) + o) (pc' : Nat) (hp : pc' = if acV cnd false = true then ((pc : Int) + o).toNat else pc + 3) (h : Ends p e s below R Q T (mkF m pc' ls st)) : Ends p e s below R Q T (mkF m pc ls (v :: .ref a :: st)) := by
  exact h.map fun _ q => Jvm.RoadKit.acmp (g := mkF m pc ls (v :: .ref a :: st)) X k.1 rfl rfl hv rfl (hb k.2.2.1 hd) rfl (decide_eq_false hne) ho hp q
theorem inst_null (k : K p s m meth c Z y cd ml ret) (X : Stand p l e R s m args below meth c T locs cells slots) {idx : Nat} (hd : decode cd pc = .ok (.instanceof idx, 3)) (pc' : Nat) (hp : pc + 3 = pc') (h : Ends p e s below R Q T (mkF m pc' ls (.int 0 :: st))) : Ends p e s below R Q T (mkF m pc ls (.null :: st)) := by
  subst hp; exact h.map fun _ q => X.instanceofNull k.1 (g := mkF m pc ls (.null :: st)) rfl rfl (hb k.2.2.1 hd) _ q
theorem inst_n (k : K p s m meth c Z y cd ml ret) (X : Stand p l e R s m args below meth c T locs cells slots) {C : String} {idx : Nat} {a : Addr} (hd : decode cd pc = .ok (.instanceof idx, 3)) (wl : (Jvm.Cond.classLink y.cls idx C).before a0 Z = true) (e0 : T.heap = h) (F : Ins Z h a C false) {C' : String} (E : Exa Z h a C') (pc' : Nat) (hp : pc + 3 = pc')
    (g : ∀ T' : State, Stand p l e R s m args below meth c T' locs cells slots → T'.heap = h → Ends p e s below R Q T' (mkF m pc' ls (.int 0 :: st))) : Ends p e s below R Q T (mkF m pc ls (.ref a :: st)) := by
  subst hp
  obtain ⟨cell, cT, h1, h2, h3⟩ := F
  obtain ⟨cell', kc, e1, -, e3, e4, -⟩ := E
  cases h1.symm.trans e1
  obtain ⟨k', q, -⟩ := k.2.1.alike.2.2 _ _ e3
  obtain ⟨vm', X', st'⟩ := Jvm.Sym.instanceofNoAt X k.1 k.2.2.2.2.1 (mvT k.2.1 wl) (by rw [e0]; exact h1) e4 q (by rw [k.2.1.alike.findClass]; exact h2) (by rw [k.2.1.alike.assignable]; simpa [e4] using h3) (g := mkF m pc ls (.ref a :: st)) rfl rfl (hb k.2.2.1 hd)
  exact (g _ X' e0).map st'
end
/-! arrays: the list of what they hold -/
def Arl (Z : State) (h : Heap) (a : Addr) (ty : FieldType) (vs : List Value) : Prop := ∃ c : Cell, Arr Z h a c ty ∧ c.slots.toList = vs ∧ vs.length < 2147483648
section
variable {Z : State} {h h' : Heap} {a b : Addr} {ty : FieldType} {vs : List Value} {sl : Nat} {v : Value} {ws : List Addr}
theorem Arl.lt (F : Arl Z h a ty vs) : a < h.size := by obtain ⟨c, A, -⟩ := F; exact A.lt
theorem Arl.ext (F : Arl Z h a ty vs) (E : Ext h h') : Arl Z h' a ty vs := by obtain ⟨c, A, r⟩ := F; exact ⟨c, A.ext E, r⟩
theorem Arl.other (F : Arl Z h b ty vs) (W : Wr h h' a sl v) (q : b ≠ a) : Arl Z h' b ty vs := by obtain ⟨c, A, r⟩ := F; exact ⟨c, A.other W q, r⟩
theorem Arl.keep (F : Arl Z h a ty vs) (K : Keep h h' ws) (q : a ∉ ws) : Arl Z h' a ty vs := by obtain ⟨c, A, r⟩ := F; exact ⟨c, ⟨K.2.1 a c A.1 q, A.2⟩, r⟩
theorem Arl.same (F : Arl Z h a ty vs) (W : Wr h h' a sl v) : Arl Z h' a ty (vs.set sl v) := by
  obtain ⟨c, A, rfl, hl⟩ := F
  refine ⟨c.setSlot sl v, A.same W, ?_, by rw [List.length_set]; exact hl⟩
  simp [Cell.setSlot]
theorem tnc {j : Int32} {i : Nat} (hj : j.toInt = i) : j.toNatClampNeg = i := by simp only [Int32.toNatClampNeg, hj]; rfl
theorem inb {j : Int32} {i n : Nat} (hj : j.toInt = i) (hi : i < n) : ¬ (j < 0 ∨ n ≤ j.toNatClampNeg) := by
  rw [tnc hj]; intro q
  rcases q with q | q
  · rw [Int32.lt_iff_toInt_lt] at q; have e0 : (0 : Int32).toInt = 0 := rfl; omega
  · omega
theorem lt_of_get {xs : List Int32} {i : Nat} {x : Int32} (q : xs[i]? = some x) : i < xs.length := (List.getElem?_eq_some_iff.mp q).1
end
section
variable {p : Program} {l : Launch} {e : Env} {R : Room} {s : State} {m : MethodId} {args : Array Value} {below : List Frame} {meth : Method} {c : Code} {T : State} {locs : List Loc} {cells slots : Nat} {Z : State} {a0 : Array Value} {h : Heap} {y : MethodName} {cd : ByteArray} {ml : Nat} {ret : Option FieldType} {Q : Option Value → Heap → List Loc → Prop} {pc pc' : Nat} {ls : Array Slot} {st : List Value}
theorem arraylength (k : K p s m meth c Z y cd ml ret) (X : Stand p l e R s m args below meth c T locs cells slots) {ty : FieldType} {vs : List Value} {a : Addr} (hd : decode cd pc = .ok (.arraylength, 1)) (e0 : T.heap = h) (A : Arl Z h a ty vs) (n : Int32) (hn : n.toInt = vs.length) (pc' : Nat) (hp : pc + 1 = pc') (g : Ends p e s below R Q T (mkF m pc' ls (.int n :: st))) : Ends p e s below R Q T (mkF m pc ls (.ref a :: st)) := by
  subst hp
  obtain ⟨cl, Ar, rfl, hl⟩ := A
  have q : cl.slots.size.toInt32 = n := by
    apply Int32.toInt_inj.mp
    rw [len_toInt (by simpa using hl), hn]; simp
  refine g.map fun _ r => X.arraylength k.1 (by rw [e0]; exact Ar.1) (State.isArrayOf_alike k.2.1.alike Ar.2.1) (g := mkF m pc ls (.ref a :: st)) rfl rfl (hb k.2.2.1 hd) _ ?_
  rw [q]; exact r
theorem iaload (k : K p s m meth c Z y cd ml ret) (X : Stand p l e R s m args below meth c T locs cells slots) {xs : List Int32} {a : Addr} {j : Int32} (hd : decode cd pc = .ok (.iaload, 1)) (e0 : T.heap = h) (A : Arl Z h a .int (xs.map .int)) (i : Nat) (hj : j.toInt = i) (x : Int32) (hx : xs[i]? = some x) (pc' : Nat) (hp : pc + 1 = pc') (g : Ends p e s below R Q T (mkF m pc' ls (.int x :: st))) : Ends p e s below R Q T (mkF m pc ls (.int j :: .ref a :: st)) := by
  subst hp
  obtain ⟨cl, Ar, hs, hl⟩ := A
  have hz : cl.slots.size = xs.length := by rw [← Array.length_toList, hs, List.length_map]
  refine g.map fun _ r => X.iaload k.1 (j := j) (v := .int x) (by rw [e0]; exact Ar.1) (State.isArrayOf_alike k.2.1.alike Ar.2.1) Ar.2.2 (inb hj (hz ▸ lt_of_get hx)) ?_ (g := mkF m pc ls (.int j :: .ref a :: st)) rfl rfl (hb k.2.2.1 hd) _ r
  rw [tnc hj, ← Array.getElem?_toList, hs, List.getElem?_map, hx]; rfl
theorem baload (k : K p s m meth c Z y cd ml ret) (X : Stand p l e R s m args below meth c T locs cells slots) {xs : List Int32} {a : Addr} {j : Int32} (hd : decode cd pc = .ok (.baload, 1)) (e0 : T.heap = h) (A : Arl Z h a .byte (xs.map .int)) (i : Nat) (hj : j.toInt = i) (x : Int32) (hx : xs[i]? = some x) (pc' : Nat) (hp : pc + 1 = pc') (g : Ends p e s below R Q T (mkF m pc' ls (.int x :: st))) : Ends p e s below R Q T (mkF m pc ls (.int j :: .ref a :: st)) := by
  subst hp
  obtain ⟨cl, Ar, hs, hl⟩ := A
  have hz : cl.slots.size = xs.length := by rw [← Array.length_toList, hs, List.length_map]
  refine g.map fun _ r => X.baloadBytes k.1 (j := j) (v := .int x) (by rw [e0]; exact Ar.1) (State.isArrayOf_alike k.2.1.alike Ar.2.1) Ar.2.2 (inb hj (hz ▸ lt_of_get hx)) ?_ (g := mkF m pc ls (.int j :: .ref a :: st)) rfl rfl (hb k.2.2.1 hd) _ r
  rw [tnc hj, ← Array.getElem?_toList, hs, List.getElem?_map, hx]; rfl
theorem iastore (k : K p s m meth c Z y cd ml ret) (X : Stand p l e R s m args below meth c T locs cells slots) {xs : List Int32} {a : Addr} {j x : Int32} (hd : decode cd pc = .ok (.iastore, 1)) (e0 : T.heap = h) (A : Arl Z h a .int (xs.map .int)) (i : Nat) (hj : j.toInt = i) (hi : i < xs.length) (pc' : Nat) (hp : pc + 1 = pc')
    (g : ∀ (T' : State) (h' : Heap), Stand p l e R s m args below meth c T' (locs ++ [⟨a, i⟩]) cells slots → T'.heap = h' → Wr h h' a i (.int x) → Arl Z h' a .int ((xs.set i x).map .int) → Ends p e s below R Q T' (mkF m pc' ls st)) : Ends p e s below R Q T (mkF m pc ls (.int x :: .int j :: .ref a :: st)) := by
  subst hp
  have A' := A
  obtain ⟨cl, Ar, hs, hl⟩ := A
  have hz : cl.slots.size = xs.length := by rw [← Array.length_toList, hs, List.length_map]
  obtain ⟨T', h', X', e', W', q⟩ := stI X k.1 k.2.1 e0 Ar (j := j) (x := x) (inb hj (hz ▸ hi)) (g := mkF m pc ls (.int x :: .int j :: .ref a :: st)) rfl rfl (hb k.2.2.1 hd)
  rw [tnc hj] at X' W'
  exact (g T' h' X' e' W' (by rw [List.map_set]; exact A'.same W')).map q
theorem bastore (k : K p s m meth c Z y cd ml ret) (X : Stand p l e R s m args below meth c T locs cells slots) {xs : List Int32} {a : Addr} {j x : Int32} (hd : decode cd pc = .ok (.bastore, 1)) (e0 : T.heap = h) (A : Arl Z h a .byte (xs.map .int)) (i : Nat) (hj : j.toInt = i) (hi : i < xs.length) (x' : Int32) (hx' : x.toInt8.toInt32 = x') (pc' : Nat) (hp : pc + 1 = pc')
    (g : ∀ (T' : State) (h' : Heap), Stand p l e R s m args below meth c T' (locs ++ [⟨a, i⟩]) cells slots → T'.heap = h' → Wr h h' a i (.int x') → Arl Z h' a .byte ((xs.set i x').map .int) → Ends p e s below R Q T' (mkF m pc' ls st)) : Ends p e s below R Q T (mkF m pc ls (.int x :: .int j :: .ref a :: st)) := by
  subst hp hx'
  have A' := A
  obtain ⟨cl, Ar, hs, hl⟩ := A
  have hz : cl.slots.size = xs.length := by rw [← Array.length_toList, hs, List.length_map]
  obtain ⟨T', h', X', e', W', q⟩ := stB X k.1 k.2.1 e0 Ar (j := j) (x := x) (inb hj (hz ▸ hi)) (g := mkF m pc ls (.int x :: .int j :: .ref a :: st)) rfl rfl (hb k.2.2.1 hd)
  rw [tnc hj] at X' W'
  exact (g T' h' X' e' W' (by rw [List.map_set]; exact A'.same W')).map q
theorem newarray (k : K p s m meth c Z y cd ml ret) (X : Stand p l e R s m args below meth c T locs cells slots) {aty : ArrayType} {n : Int32} (hd : decode cd pc = .ok (.newarray aty, 2)) (wa : (Jvm.Cond.arrayClass (newarray.typeOf aty)).before a0 Z = true) (e0 : T.heap = h) (i : Nat) (hn : n.toInt = i) (cap : Nat) (hcap : i ≤ cap) (hb8 : cap * 8 ≤ 536870912) (hc : cells + 1 ≤ R.cells) (hs : slots + cap ≤ R.slots) (pc' : Nat) (hp : pc + 2 = pc')
    (g : ∀ (T' : State) (h' : Heap) (a : Addr), a = h.size → Stand p l e R s m args below meth c T' locs (cells + 1) (slots + cap) → T'.heap = h' → Ext h h' → Arl Z h' a (newarray.typeOf aty) (List.replicate i (defaultValue (newarray.typeOf aty))) → Ends p e s below R Q T' (mkF m pc' ls (.ref a :: st))) : Ends p e s below R Q T (mkF m pc ls (.int n :: st)) := by
  subst hp
  have h0 : ¬ n < 0 := by rw [Int32.lt_iff_toInt_lt]; have e0 : (0 : Int32).toInt = 0 := rfl; omega
  obtain ⟨T', h', cA, X', e', E', A', q⟩ := newP X k.1 k.2.1 wa e0 (g := mkF m pc ls (.int n :: st)) rfl (hb k.2.2.1 hd) rfl h0 (cap := cap) (by rw [tnc hn]; exact hcap) hb8 hc hs
  refine (g T' h' h.size rfl X' e' E' ⟨_, A', ?_, ?_⟩).map q
  · simp [newA, tnc hn]
  · rw [List.length_replicate]; omega
/-! calls, by the callee's contract -/
theorem callS (k : K p s m meth c Z y cd ml ret) (X : Stand p l e R s m args below meth c T locs cells slots) {y' : MethodName} {cd' : ByteArray} {ml' : Nat} {ret' : Option FieldType} {rm' : Room} {Qc : Option Value → Heap → List Loc → Prop} {idx : Nat} {ps : List FieldType} {rt : Option FieldType} (as : List Value) (rest : List Value) (hd : decode cd pc = .ok (.invokestatic idx, 3)) (M : Met l y' cd' ml' ret' rm' as.toArray Z h Qc []) (e0 : T.heap = h)
    (w1 : (Jvm.Cond.methodLink y.cls idx y').before a0 Z = true) (w2 : (Jvm.Cond.static y').before a0 Z = true) (w3 : (Jvm.Cond.initialized y'.cls).before a0 Z = true) (w4 : (Jvm.Cond.code y' cd' ml' ret').before a0 Z = true) (hy : y'.cls ≠ "java/lang/invoke/MethodHandle" ∧ y'.cls ≠ "java/lang/invoke/VarHandle") (hsz : ls.size = ml) (hlen : parseMethodDescriptor y'.desc = some ⟨ps, rt⟩) (hl2 : as.length = ps.length) (hst : st = as.reverse ++ rest)
    (hf : rm'.frames + 1 ≤ R.frames) (hlo : (rest.map fun v => v.category).sum + (ml' + 11) + rm'.locals ≤ R.locals) (hc : cells + rm'.cells ≤ R.cells) (hs : slots + rm'.slots ≤ R.slots) (pc' : Nat) (hp : pc + 3 = pc')
    (g : ∀ (T' : State) (v : Option Value) (L : List Loc), Stand p l e R s m args below meth c T' (locs ++ L) (cells + rm'.cells) (slots + rm'.slots) → Qc v T'.heap L → Ends p e s below R Q T' (mkF m pc' ls (v.toList ++ rest))) : Ends p e s below R Q T (mkF m pc ls st) := by
  subst hp hst
  obtain ⟨v, _, ⟨T', L', c', n'⟩, -, X', ⟨Lc, hQ, q1, q2, q3⟩, q⟩ := Jvm.LawKit.callS X k.1 (y := y') k.2.2.2.2.1 (mvT k.2.1 w1) (mvT k.2.1 w2) (mvT k.2.1 w3) (mvT k.2.1 w4) hy (backOf (W := (rest.map fun v => v.category).sum) M k.2.1 w4 w3 hf hlo) (g := mkF m pc ls (as.reverse ++ rest)) rfl (hsz.trans k.2.2.2.1.symm) (argsL := as) (rest := rest) (lenOf hlen hl2) rfl (by show 2 * 0 + _ ≤ _; rw [Nat.mul_zero, Nat.zero_add]; exact Nat.le_refl _) (hb k.2.2.1 hd) (fun _ _ => ⟨rfl, e0, hc, hs⟩)
  dsimp only [Pt.U, Pt.locs, Pt.cells, Pt.slots] at X' q1 q2 q3 q hQ
  subst q1 q2 q3
  exact (g T' v Lc X' hQ).map q
theorem callI (k : K p s m meth c Z y cd ml ret) (X : Stand p l e R s m args below meth c T locs cells slots) {y' : MethodName} {cd' : ByteArray} {ml' : Nat} {rm' : Room} {Qc : Option Value → Heap → List Loc → Prop} {idx : Nat} {ps : List FieldType} {rt : Option FieldType} {a : Addr} (as : List Value) (rest : List Value) (hd : decode cd pc = .ok (.invokespecial idx, 3)) (M : Met l y' cd' ml' none rm' (.ref a :: as).toArray Z h Qc []) (e0 : T.heap = h) (hin : y'.name = "<init>")
    (w1 : (Jvm.Cond.methodLink y.cls idx y').before a0 Z = true) (w2 : (Jvm.Cond.instanceMethod y').before a0 Z = true) (w3 : (Jvm.Cond.initialized y'.cls).before a0 Z = true) (w4 : (Jvm.Cond.code y' cd' ml' none).before a0 Z = true) (hy : y'.cls ≠ "java/lang/invoke/MethodHandle" ∧ y'.cls ≠ "java/lang/invoke/VarHandle") (hsz : ls.size = ml) (hlen : parseMethodDescriptor y'.desc = some ⟨ps, rt⟩) (hl2 : as.length = ps.length) (hst : st = as.reverse ++ .ref a :: rest)
    (hf : rm'.frames + 1 ≤ R.frames) (hlo : (rest.map fun v => v.category).sum + (ml' + 11) + rm'.locals ≤ R.locals) (hc : cells + rm'.cells ≤ R.cells) (hs : slots + rm'.slots ≤ R.slots) (pc' : Nat) (hp : pc + 3 = pc')
    (g : ∀ (T' : State) (v : Option Value) (L : List Loc), Stand p l e R s m args below meth c T' (locs ++ L) (cells + rm'.cells) (slots + rm'.slots) → Qc v T'.heap L → Ends p e s below R Q T' (mkF m pc' ls (v.toList ++ rest))) : Ends p e s below R Q T (mkF m pc ls st) := by
  subst hp hst
  obtain ⟨v, _, ⟨T', L', c', n'⟩, -, X', ⟨Lc, hQ, q1, q2, q3⟩, q⟩ := X.specialBack k.1 (y := y') hin k.2.2.2.2.1 (mvT k.2.1 w1) (mvT k.2.1 w2) (mvT k.2.1 w4) hy (backOf (W := (rest.map fun v => v.category).sum) M k.2.1 w4 w3 hf hlo) (g := mkF m pc ls (as.reverse ++ .ref a :: rest)) rfl (hsz.trans k.2.2.2.1.symm) (Steps.refl _) (a := a) (argsL := as) (rest := rest) (lenOf hlen hl2) rfl (by show 2 * 0 + _ ≤ _; rw [Nat.mul_zero, Nat.zero_add]; exact Nat.le_refl _) (hb k.2.2.1 hd) (fun _ _ => ⟨rfl, e0, hc, hs⟩)
  dsimp only [Pt.U, Pt.locs, Pt.cells, Pt.slots] at X' q1 q2 q3 q hQ
  subst q1 q2 q3
  exact (g T' v Lc X' hQ).map fun _ r => q.trans r
theorem callV (k : K p s m meth c Z y cd ml ret) (X : Stand p l e R s m args below meth c T locs cells slots) {y' : MethodName} {cd' : ByteArray} {ml' : Nat} {ret' : Option FieldType} {rm' : Room} {Qc : Option Value → Heap → List Loc → Prop} {idx : Nat} {ps : List FieldType} {rt : Option FieldType} {a : Addr} (as : List Value) (rest : List Value) (hd : decode cd pc = .ok (.invokevirtual idx, 3)) (M : Met l y' cd' ml' ret' rm' (.ref a :: as).toArray Z h Qc []) (e0 : T.heap = h) (E : Exa Z h a y'.cls)
    (w1 : (Jvm.Cond.methodLink y.cls idx y').before a0 Z = true) (w0 : (Jvm.Cond.declares y').before a0 Z = true) (ws : (Jvm.Cond.selects y'.cls y' y').before a0 Z = true) (w2 : (Jvm.Cond.instanceMethod y').before a0 Z = true) (w3 : (Jvm.Cond.initialized y'.cls).before a0 Z = true) (w4 : (Jvm.Cond.code y' cd' ml' ret').before a0 Z = true) (hy : y'.cls ≠ "java/lang/invoke/MethodHandle" ∧ y'.cls ≠ "java/lang/invoke/VarHandle") (hsz : ls.size = ml) (hlen : parseMethodDescriptor y'.desc = some ⟨ps, rt⟩) (hl2 : as.length = ps.length) (hst : st = as.reverse ++ .ref a :: rest)
    (hf : rm'.frames + 1 ≤ R.frames) (hlo : (rest.map fun v => v.category).sum + (ml' + 11) + rm'.locals ≤ R.locals) (hc : cells + rm'.cells ≤ R.cells) (hs : slots + rm'.slots ≤ R.slots) (pc' : Nat) (hp : pc + 3 = pc')
    (g : ∀ (T' : State) (v : Option Value) (L : List Loc), Stand p l e R s m args below meth c T' (locs ++ L) (cells + rm'.cells) (slots + rm'.slots) → Qc v T'.heap L → Ends p e s below R Q T' (mkF m pc' ls (v.toList ++ rest))) : Ends p e s below R Q T (mkF m pc ls st) := by
  subst hp hst
  obtain ⟨cq, kq, qa, qb, qc⟩ := isOf k.2.1 e0 E
  obtain ⟨v, _, ⟨T', L', c', n'⟩, -, X', ⟨Lc, hQ, q1, q2, q3⟩, q⟩ := X.virtualBack k.1 (y := y') (z := y') k.2.2.2.2.1 (mvT k.2.1 w1) (mvT k.2.1 w0) (notFace_of_selects (args := #[]) (mvT k.2.1 ws)) (mvT k.2.1 ws) (mvT k.2.1 w2) hy (backOf (W := (rest.map fun v => v.category).sum) M k.2.1 w4 w3 hf hlo) qa qc (g := mkF m pc ls (as.reverse ++ .ref a :: rest)) rfl (hsz.trans k.2.2.2.1.symm) (Steps.refl _) (argsL := as) (rest := rest) (lenOf hlen hl2) rfl (by show 2 * 0 + _ ≤ _; rw [Nat.mul_zero, Nat.zero_add]; exact Nat.le_refl _) (hb k.2.2.1 hd) (fun _ _ => ⟨rfl, e0, hc, hs⟩)
  dsimp only [Pt.U, Pt.locs, Pt.cells, Pt.slots] at X' q1 q2 q3 q hQ
  subst q1 q2 q3
  exact (g T' v Lc X' hQ).map fun _ r => q.trans r
theorem callP (k : K p s m meth c Z y cd ml ret) (X : Stand p l e R s m args below meth c T locs cells slots) {y' : MethodName} {cd' : ByteArray} {ml' : Nat} {ret' : Option FieldType} {rm' : Room} {Qc : Option Value → Heap → List Loc → Prop} {idx : Nat} {ps : List FieldType} {rt : Option FieldType} {a : Addr} {C : String} {ni : Nat} (as : List Value) (rest : List Value) (hd : decode cd pc = .ok (.invokevirtual idx, 3)) (M : Met l y' cd' ml' ret' rm' (.ref a :: as).toArray Z h Qc []) (e0 : T.heap = h) (E : Exa Z h a C)
    (w1 : (Jvm.Cond.methodLink y.cls idx y').before a0 Z = true) (w0 : (Jvm.Cond.privateMethod y').before a0 Z = true) (wi : (Jvm.Cond.instantiable y'.cls ni).before a0 Z = true) (w2 : (Jvm.Cond.instanceMethod y').before a0 Z = true) (w3 : (Jvm.Cond.initialized y'.cls).before a0 Z = true) (w4 : (Jvm.Cond.code y' cd' ml' ret').before a0 Z = true) (hy : y'.cls ≠ "java/lang/invoke/MethodHandle" ∧ y'.cls ≠ "java/lang/invoke/VarHandle") (hsz : ls.size = ml) (hlen : parseMethodDescriptor y'.desc = some ⟨ps, rt⟩) (hl2 : as.length = ps.length) (hst : st = as.reverse ++ .ref a :: rest)
    (hf : rm'.frames + 1 ≤ R.frames) (hlo : (rest.map fun v => v.category).sum + (ml' + 11) + rm'.locals ≤ R.locals) (hc : cells + rm'.cells ≤ R.cells) (hs : slots + rm'.slots ≤ R.slots) (pc' : Nat) (hp : pc + 3 = pc')
    (g : ∀ (T' : State) (v : Option Value) (L : List Loc), Stand p l e R s m args below meth c T' (locs ++ L) (cells + rm'.cells) (slots + rm'.slots) → Qc v T'.heap L → Ends p e s below R Q T' (mkF m pc' ls (v.toList ++ rest))) : Ends p e s below R Q T (mkF m pc ls st) := by
  subst hp hst
  obtain ⟨cq, qa, qb⟩ := E.cell
  obtain ⟨ci, ki, i1, i2, -, i4, -, -⟩ := Cond.instantiable_spec wi
  have ws := Jvm.Stand.selects_self_of_private (args := a0) i1 i2 (Bool.or_eq_false_iff.mp i4).1 (Cond.privateMethod_at w0) w2 hy
  obtain ⟨v, _, ⟨T', L', c', n'⟩, -, X', ⟨Lc, hQ, q1, q2, q3⟩, q⟩ := X.privateBack k.1 (y := y') k.2.2.2.2.1 (mvT k.2.1 w1) (mvT k.2.1 w2) (mvT k.2.1 ws) (Cond.privateMethod_at (mvP k.2.1 w0 (args := #[]))) (mvT k.2.1 w4) hy (backOf (W := (rest.map fun v => v.category).sum) M k.2.1 w4 w3 hf hlo) (g := mkF m pc ls (as.reverse ++ .ref a :: rest)) rfl (hsz.trans k.2.2.2.1.symm) (Steps.refl _) (a := a) (by rw [e0]; exact qa) qb (argsL := as) (rest := rest) (lenOf hlen hl2) rfl (by show 2 * 0 + _ ≤ _; rw [Nat.mul_zero, Nat.zero_add]; exact Nat.le_refl _) (hb k.2.2.1 hd) (fun _ _ => ⟨rfl, e0, hc, hs⟩)
  dsimp only [Pt.U, Pt.locs, Pt.cells, Pt.slots] at X' q1 q2 q3 q hQ
  subst q1 q2 q3
  exact (g T' v Lc X' hQ).map fun _ r => q.trans r
end
end Wk

theorem d_AbstractCollection_init_0 : decode jdk_22_method_1_code 0 = .ok (.aload_n 0, 1) := by decide +kernel
theorem d_AbstractCollection_init_1 : decode jdk_22_method_1_code 1 = .ok (.invokespecial 1, 3) := by decide +kernel
theorem d_AbstractCollection_init_4 : decode jdk_22_method_1_code 4 = .ok (.return_, 1) := by decide +kernel
theorem pn_AbstractCollection_init : plainFor (⟨"java/util/AbstractCollection", "<init>", "()V"⟩ : MethodName) = true := plainFor_of_name (by first | (simp [plainName, overriddenIn, x]; done) | decide +kernel)
theorem pd_AbstractCollection_init : parseMethodDescriptor "()V" = some ⟨[], none⟩ := by decide +kernel
theorem ef_ac (m : MethodId) (o : Addr) : entryFrame m #[(.ref o)] 1 = mkF m 0 #[.val (.ref o)] [] := by first | (simp [entryFrame, mkF, argsToLocals, Value.category]; done) | rfl
set_option maxRecDepth 65536 in
set_option maxHeartbeats 40000000 in
theorem rm_ac (l : Launch) (Z : State) (a0 : Array Value) (hw : ∀ d ∈ tables_1, d.before a0 Z = true) (o : Addr) (h0 : Heap) : Wk.Met l (⟨"java/util/AbstractCollection", "<init>", "()V"⟩ : MethodName) jdk_22_method_1_code 1 none ({ frames := 1, cells := 0, slots := 0, locals := 12 } : Room) #[(.ref o)] Z h0 (fun r h L => r = none ∧ h = h0 ∧ L = []) [] := by
  refine Wk.enter pn_AbstractCollection_init (fun p e s m below meth c T0 k X0 e0 => ?_)
  refine (Wk.Ends.cast (ef_ac m o) ?_)
  refine Wk.aload_n k X0 d_AbstractCollection_init_0 rfl rfl 1 rfl ?_
  refine Wk.initObj (W := 0) k X0 d_AbstractCollection_init_1 (Wk.w hw 27 rfl) (Wk.w hw 7 rfl) (Wk.w hw 8 rfl) e0 rfl (Nat.le_of_ble_eq_true rfl) (Nat.le_of_ble_eq_true rfl) 4 rfl fun T1 X1 e1 => ?_
  exact Wk.ret_void k X1 rfl d_AbstractCollection_init_4 (by decide) (by decide) ⟨rfl, e1, rfl⟩
theorem d_AbstractMap_init_0 : decode jdk_71_method_1_code 0 = .ok (.aload_n 0, 1) := by decide +kernel
theorem d_AbstractMap_init_1 : decode jdk_71_method_1_code 1 = .ok (.invokespecial 1, 3) := by decide +kernel
theorem d_AbstractMap_init_4 : decode jdk_71_method_1_code 4 = .ok (.return_, 1) := by decide +kernel
theorem pn_AbstractMap_init : plainFor (⟨"java/util/AbstractMap", "<init>", "()V"⟩ : MethodName) = true := plainFor_of_name (by first | (simp [plainName, overriddenIn, x]; done) | decide +kernel)
theorem pd_AbstractMap_init : parseMethodDescriptor "()V" = some ⟨[], none⟩ := by decide +kernel
theorem ef_am (m : MethodId) (o : Addr) : entryFrame m #[(.ref o)] 1 = mkF m 0 #[.val (.ref o)] [] := by first | (simp [entryFrame, mkF, argsToLocals, Value.category]; done) | rfl
set_option maxRecDepth 65536 in
set_option maxHeartbeats 40000000 in
theorem rm_am (l : Launch) (Z : State) (a0 : Array Value) (hw : ∀ d ∈ tables_1, d.before a0 Z = true) (o : Addr) (h0 : Heap) : Wk.Met l (⟨"java/util/AbstractMap", "<init>", "()V"⟩ : MethodName) jdk_71_method_1_code 1 none ({ frames := 1, cells := 0, slots := 0, locals := 12 } : Room) #[(.ref o)] Z h0 (fun r h L => r = none ∧ h = h0 ∧ L = []) [] := by
  refine Wk.enter pn_AbstractMap_init (fun p e s m below meth c T0 k X0 e0 => ?_)
  refine (Wk.Ends.cast (ef_am m o) ?_)
  refine Wk.aload_n k X0 d_AbstractMap_init_0 rfl rfl 1 rfl ?_
  refine Wk.initObj (W := 0) k X0 d_AbstractMap_init_1 (Wk.w hw 47 rfl) (Wk.w hw 7 rfl) (Wk.w hw 8 rfl) e0 rfl (Nat.le_of_ble_eq_true rfl) (Nat.le_of_ble_eq_true rfl) 4 rfl fun T1 X1 e1 => ?_
  exact Wk.ret_void k X1 rfl d_AbstractMap_init_4 (by decide) (by decide) ⟨rfl, e1, rfl⟩
theorem d_AbstractList_init_0 : decode jdk_39_method_1_code 0 = .ok (.aload_n 0, 1) := by decide +kernel
theorem d_AbstractList_init_1 : decode jdk_39_method_1_code 1 = .ok (.invokespecial 1, 3) := by decide +kernel
theorem d_AbstractList_init_4 : decode jdk_39_method_1_code 4 = .ok (.aload_n 0, 1) := by decide +kernel
theorem d_AbstractList_init_5 : decode jdk_39_method_1_code 5 = .ok (.iconst 0, 1) := by decide +kernel
theorem d_AbstractList_init_6 : decode jdk_39_method_1_code 6 = .ok (.putfield 7, 3) := by decide +kernel
theorem d_AbstractList_init_9 : decode jdk_39_method_1_code 9 = .ok (.return_, 1) := by decide +kernel
theorem pn_AbstractList_init : plainFor (⟨"java/util/AbstractList", "<init>", "()V"⟩ : MethodName) = true := plainFor_of_name (by first | (simp [plainName, overriddenIn, x]; done) | decide +kernel)
theorem pd_AbstractList_init : parseMethodDescriptor "()V" = some ⟨[], none⟩ := by decide +kernel
theorem ef_li (m : MethodId) (o : Addr) : entryFrame m #[(.ref o)] 1 = mkF m 0 #[.val (.ref o)] [] := by first | (simp [entryFrame, mkF, argsToLocals, Value.category]; done) | rfl
set_option maxRecDepth 65536 in
set_option maxHeartbeats 40000000 in
theorem rm_li (l : Launch) (Z : State) (a0 : Array Value) (hw : ∀ d ∈ tables_1, d.before a0 Z = true) (o : Addr) (u1 u2 : Value) (h0 : Heap) (n0 : Nat) (E0 : Exa Z h0 o "java/util/ArrayList") (F0 : Fld Z h0 o "java/util/AbstractList" "modCount" "I" u1) (F1 : Fld Z h0 o "java/util/ArrayList" "elementData" "[Ljava/lang/Object;" u2) (g0 : n0 ≤ o) : Wk.Met l (⟨"java/util/AbstractList", "<init>", "()V"⟩ : MethodName) jdk_39_method_1_code 1 none ({ frames := 2, cells := 0, slots := 0, locals := 24 } : Room) #[(.ref o)] Z h0 (fun r h L => r = none ∧ Fr n0 L ∧ Keep h0 h [o] ∧ Exa Z h o "java/util/ArrayList" ∧ Fld Z h o "java/util/ArrayList" "elementData" "[Ljava/lang/Object;" u2) [] := by
  refine Wk.enter pn_AbstractList_init (fun p e s m below meth c T0 k X0 e0 => ?_)
  refine (Wk.Ends.cast (ef_li m o) ?_)
  refine Wk.aload_n k X0 d_AbstractList_init_0 rfl rfl 1 rfl ?_
  refine Wk.callI k X0 [] [] d_AbstractList_init_1 (rm_ac l Z a0 hw o _) e0 rfl (Wk.w hw 21 rfl) (Wk.w hw 22 rfl) (Wk.w hw 25 rfl) (Wk.w hw 26 rfl) (by decide) rfl pd_AbstractCollection_init rfl rfl (Nat.le_of_ble_eq_true rfl) (Nat.le_of_ble_eq_true rfl) (Nat.le_of_ble_eq_true rfl) (Nat.le_of_ble_eq_true rfl) 4 rfl fun T1 v1 L1 X1 hQ1 => ?_
  obtain ⟨rfl, e1, rfl⟩ := hQ1
  rw [List.append_nil] at X1
  show Wk.Ends _ _ _ _ _ _ _ (mkF m 4 _ [])
  refine Wk.aload_n k X1 d_AbstractList_init_4 rfl rfl 5 rfl ?_
  refine Wk.iconst k X1 d_AbstractList_init_5 (0 : Int32) rfl 6 rfl ?_
  refine Wk.putfield k X1 d_AbstractList_init_6 (host := "") (Or.inl (Wk.w hw 28 rfl)) Via.refl e1 F0 E0 (Or.inl (Wk.w hw 29 rfl)) (Wk.w hw 10 rfl) (ty := .int) (by decide) rfl rfl 9 rfl fun T2 h2 X2 e2 W2 => ?_
  have N3 := Fr.snoc X2 (Fr.nil n0) g0
  have K4 := (Keep.refl h0 [o]).wr W2 (Or.inl (List.mem_of_getElem? (i := 0) rfl))
  have f5 := Exa.wr W2 E0
  have f6 := Fld.other W2 F1 (Or.inr (slot_ne (Or.inl (Wk.w hw 32 rfl)) (Or.inl (Wk.w hw 29 rfl)) (by decide) (t := (.array (.object "java/lang/Object"))) (t' := .int) (by decide) (by decide)))
  have f7 := Fld.same W2 F0
  refine Wk.ret_void k X2 rfl d_AbstractList_init_9 (by decide) (by decide) ?_
  rw [e2]
  exact ⟨rfl, N3, K4, f5, f6⟩
theorem d_ArrayList_init_0 : decode jdk_38_method_2_code 0 = .ok (.aload_n 0, 1) := by decide +kernel
theorem d_ArrayList_init_1 : decode jdk_38_method_2_code 1 = .ok (.invokespecial 1, 3) := by decide +kernel
theorem d_ArrayList_init_4 : decode jdk_38_method_2_code 4 = .ok (.aload_n 0, 1) := by decide +kernel
theorem d_ArrayList_init_5 : decode jdk_38_method_2_code 5 = .ok (.getstatic 39, 3) := by decide +kernel
theorem d_ArrayList_init_8 : decode jdk_38_method_2_code 8 = .ok (.putfield 9, 3) := by decide +kernel
theorem d_ArrayList_init_11 : decode jdk_38_method_2_code 11 = .ok (.return_, 1) := by decide +kernel
theorem pn_ArrayList_init : plainFor (⟨"java/util/ArrayList", "<init>", "()V"⟩ : MethodName) = true := plainFor_of_name (by first | (simp [plainName, overriddenIn, x]; done) | decide +kernel)
theorem pd_ArrayList_init : parseMethodDescriptor "()V" = some ⟨[], none⟩ := by decide +kernel
theorem ef_al (m : MethodId) (o : Addr) : entryFrame m #[(.ref o)] 1 = mkF m 0 #[.val (.ref o)] [] := by first | (simp [entryFrame, mkF, argsToLocals, Value.category]; done) | rfl
set_option maxRecDepth 65536 in
set_option maxHeartbeats 40000000 in
theorem rm_al (l : Launch) (Z : State) (a0 : Array Value) (hw : ∀ d ∈ tables_1, d.before a0 Z = true) (o : Addr) (sa : Addr) (u1 u2 : Value) (h0 : Heap) (n0 : Nat) (E0 : Exa Z h0 o "java/util/ArrayList") (F0 : Fld Z h0 o "java/util/AbstractList" "modCount" "I" u1) (F1 : Fld Z h0 o "java/util/ArrayList" "elementData" "[Ljava/lang/Object;" u2) (g0 : n0 ≤ o) (O0 : Old Z n0 h0) (S0 : Sta Z Z.heap "java/util/ArrayList" "DEFAULTCAPACITY_EMPTY_ELEMENTDATA" "[Ljava/lang/Object;" (.ref sa)) : Wk.Met l (⟨"java/util/ArrayList", "<init>", "()V"⟩ : MethodName) jdk_38_method_2_code 1 none ({ frames := 3, cells := 0, slots := 0, locals := 36 } : Room) #[(.ref o)] Z h0 (fun r h L => r = none ∧ Fr n0 L ∧ Keep h0 h [o]) [] := by
  refine Wk.enter pn_ArrayList_init (fun p e s m below meth c T0 k X0 e0 => ?_)
  refine (Wk.Ends.cast (ef_al m o) ?_)
  refine Wk.aload_n k X0 d_ArrayList_init_0 rfl rfl 1 rfl ?_
  refine Wk.callI k X0 [] [] d_ArrayList_init_1 (rm_li l Z a0 hw o _ _ h0 n0 E0 F0 F1 g0) e0 rfl (Wk.w hw 15 rfl) (Wk.w hw 16 rfl) (Wk.w hw 19 rfl) (Wk.w hw 20 rfl) (by decide) rfl pd_AbstractList_init rfl rfl (Nat.le_of_ble_eq_true rfl) (Nat.le_of_ble_eq_true rfl) (Nat.le_of_ble_eq_true rfl) (Nat.le_of_ble_eq_true rfl) 4 rfl fun T1 v1 L1 X1 hQ1 => ?_
  obtain ⟨rfl, N1, K1, E1, F1⟩ := hQ1
  show Wk.Ends _ _ _ _ _ _ _ (mkF m 4 _ [])
  have O1 := O0.keep K1 (allS g0 all0)
  have S1 := Sta.ext O1.2 S0
  refine Wk.aload_n k X1 d_ArrayList_init_4 rfl rfl 5 rfl ?_
  refine Wk.getstatic k X1 d_ArrayList_init_5 (host := "") (Or.inl (Wk.w hw 30 rfl)) (rfl : T1.heap = T1.heap) S1 8 rfl fun T2 X2 e2 => ?_
  refine Wk.putfield k X2 d_ArrayList_init_8 (host := "") (Or.inl (Wk.w hw 31 rfl)) Via.refl e2 F1 E1 (Or.inl (Wk.w hw 32 rfl)) (Wk.w hw 10 rfl) (ty := (.array (.object "java/lang/Object"))) (by decide) rfl rfl 11 rfl fun T3 h3 X3 e3 W3 => ?_
  have N4 := Fr.snoc X3 N1 g0
  have K5 := K1.wr W3 (Or.inl (List.mem_of_getElem? (i := 0) rfl))
  have f6 := Exa.wr W3 E1
  have f7 := Sta.wr W3 S1
  have f8 := Fld.same W3 F1
  refine Wk.ret_void k X3 rfl d_ArrayList_init_11 (by decide) (by decide) ?_
  rw [e3]
  exact ⟨rfl, N4, K5⟩
theorem d_HashMap_init_0 : decode jdk_69_method_7_code 0 = .ok (.aload_n 0, 1) := by decide +kernel
theorem d_HashMap_init_1 : decode jdk_69_method_7_code 1 = .ok (.invokespecial 43, 3) := by decide +kernel
theorem d_HashMap_init_4 : decode jdk_69_method_7_code 4 = .ok (.aload_n 0, 1) := by decide +kernel
theorem d_HashMap_init_5 : decode jdk_69_method_7_code 5 = .ok (.ldc 92, 2) := by decide +kernel
theorem d_HashMap_init_7 : decode jdk_69_method_7_code 7 = .ok (.putfield 81, 3) := by decide +kernel
theorem d_HashMap_init_10 : decode jdk_69_method_7_code 10 = .ok (.return_, 1) := by decide +kernel
theorem pn_HashMap_init : plainFor (⟨"java/util/HashMap", "<init>", "()V"⟩ : MethodName) = true := plainFor_of_name (by first | (simp [plainName, overriddenIn, x]; done) | decide +kernel)
theorem pd_HashMap_init : parseMethodDescriptor "()V" = some ⟨[], none⟩ := by decide +kernel
theorem ef_hm (m : MethodId) (o : Addr) : entryFrame m #[(.ref o)] 1 = mkF m 0 #[.val (.ref o)] [] := by first | (simp [entryFrame, mkF, argsToLocals, Value.category]; done) | rfl
set_option maxRecDepth 65536 in
set_option maxHeartbeats 40000000 in
theorem rm_hm (l : Launch) (Z : State) (a0 : Array Value) (hw : ∀ d ∈ tables_1, d.before a0 Z = true) (o : Addr) (u1 : Value) (h0 : Heap) (n0 : Nat) (E0 : Exa Z h0 o "java/util/HashMap") (F0 : Fld Z h0 o "java/util/HashMap" "loadFactor" "F" u1) (g0 : n0 ≤ o) : Wk.Met l (⟨"java/util/HashMap", "<init>", "()V"⟩ : MethodName) jdk_69_method_7_code 1 none ({ frames := 2, cells := 0, slots := 0, locals := 24 } : Room) #[(.ref o)] Z h0 (fun r h L => r = none ∧ Fr n0 L ∧ Keep h0 h [o]) [] := by
  refine Wk.enter pn_HashMap_init (fun p e s m below meth c T0 k X0 e0 => ?_)
  refine (Wk.Ends.cast (ef_hm m o) ?_)
  refine Wk.aload_n k X0 d_HashMap_init_0 rfl rfl 1 rfl ?_
  refine Wk.callI k X0 [] [] d_HashMap_init_1 (rm_am l Z a0 hw o _) e0 rfl (Wk.w hw 41 rfl) (Wk.w hw 42 rfl) (Wk.w hw 45 rfl) (Wk.w hw 46 rfl) (by decide) rfl pd_AbstractMap_init rfl rfl (Nat.le_of_ble_eq_true rfl) (Nat.le_of_ble_eq_true rfl) (Nat.le_of_ble_eq_true rfl) (Nat.le_of_ble_eq_true rfl) 4 rfl fun T1 v1 L1 X1 hQ1 => ?_
  obtain ⟨rfl, e1, rfl⟩ := hQ1
  rw [List.append_nil] at X1
  show Wk.Ends _ _ _ _ _ _ _ (mkF m 4 _ [])
  refine Wk.aload_n k X1 d_HashMap_init_4 rfl rfl 5 rfl ?_
  refine Wk.ldcF k X1 (z := (1061158912 : UInt32)) d_HashMap_init_5 (Wk.w hw 48 rfl) 7 rfl ?_
  refine Wk.putfield k X1 d_HashMap_init_7 (host := "") (Or.inl (Wk.w hw 49 rfl)) Via.refl e1 F0 E0 (Or.inr ⟨(Wk.w hw 50 rfl), rfl, rfl⟩) (Wk.w hw 36 rfl) (ty := .float) (by decide) rfl rfl 10 rfl fun T2 h2 X2 e2 W2 => ?_
  have N3 := Fr.snoc X2 (Fr.nil n0) g0
  have K4 := (Keep.refl h0 [o]).wr W2 (Or.inl (List.mem_of_getElem? (i := 0) rfl))
  have f5 := Exa.wr W2 E0
  have f6 := Fld.same W2 F0
  refine Wk.ret_void k X2 rfl d_HashMap_init_10 (by decide) (by decide) ?_
  rw [e2]
  exact ⟨rfl, N3, K4⟩
theorem d_BitSet_wordIndex_0 : decode jdk_92_method_1_code 0 = .ok (.iload_n 0, 1) := by decide +kernel
theorem d_BitSet_wordIndex_1 : decode jdk_92_method_1_code 1 = .ok (.bipush 6, 2) := by decide +kernel
theorem d_BitSet_wordIndex_3 : decode jdk_92_method_1_code 3 = .ok (.ishr, 1) := by decide +kernel
theorem d_BitSet_wordIndex_4 : decode jdk_92_method_1_code 4 = .ok (.ireturn, 1) := by decide +kernel
theorem pn_BitSet_wordIndex : plainFor (⟨"java/util/BitSet", "wordIndex", "(I)I"⟩ : MethodName) = true := plainFor_of_name (by first | (simp [plainName, overriddenIn, x]; done) | decide +kernel)
theorem pd_BitSet_wordIndex : parseMethodDescriptor "(I)I" = some ⟨[.int], (some .int)⟩ := by decide +kernel
theorem ef_wi (m : MethodId) (z : Int32) : entryFrame m #[(.int z)] 1 = mkF m 0 #[.val (.int z)] [] := by first | (simp [entryFrame, mkF, argsToLocals, Value.category]; done) | rfl
set_option maxRecDepth 65536 in
set_option maxHeartbeats 40000000 in
theorem rm_wi (l : Launch) (Z : State) (a0 : Array Value) (hw : ∀ d ∈ tables_1, d.before a0 Z = true) (z : Int32) (h0 : Heap) : Wk.Met l (⟨"java/util/BitSet", "wordIndex", "(I)I"⟩ : MethodName) jdk_92_method_1_code 1 (some .int) ({ frames := 0, cells := 0, slots := 0, locals := 0 } : Room) #[(.int z)] Z h0 (fun r h L => r = some (.int (z >>> ((6 : Int32) &&& 31))) ∧ h = h0 ∧ L = []) [] := by
  refine Wk.enter pn_BitSet_wordIndex (fun p e s m below meth c T0 k X0 e0 => ?_)
  refine (Wk.Ends.cast (ef_wi m z) ?_)
  refine Wk.iload_n k X0 d_BitSet_wordIndex_0 rfl 1 rfl ?_
  refine Wk.bipush k X0 d_BitSet_wordIndex_1 (6 : Int32) rfl 3 rfl ?_
  refine Wk.ishr k X0 d_BitSet_wordIndex_3 4 rfl ?_
  exact Wk.ret_int k X0 rfl d_BitSet_wordIndex_4 (by decide) (by decide) ⟨rfl, e0, rfl⟩
theorem d_BitSet_initWords_0 : decode jdk_92_method_6_code 0 = .ok (.aload_n 0, 1) := by decide +kernel
theorem d_BitSet_initWords_1 : decode jdk_92_method_6_code 1 = .ok (.iload_n 1, 1) := by decide +kernel
theorem d_BitSet_initWords_2 : decode jdk_92_method_6_code 2 = .ok (.iconst 1, 1) := by decide +kernel
theorem d_BitSet_initWords_3 : decode jdk_92_method_6_code 3 = .ok (.isub, 1) := by decide +kernel
theorem d_BitSet_initWords_4 : decode jdk_92_method_6_code 4 = .ok (.invokestatic 52, 3) := by decide +kernel
theorem d_BitSet_initWords_7 : decode jdk_92_method_6_code 7 = .ok (.iconst 1, 1) := by decide +kernel
theorem d_BitSet_initWords_8 : decode jdk_92_method_6_code 8 = .ok (.iadd, 1) := by decide +kernel
theorem d_BitSet_initWords_9 : decode jdk_92_method_6_code 9 = .ok (.newarray .long, 2) := by decide +kernel
theorem d_BitSet_initWords_11 : decode jdk_92_method_6_code 11 = .ok (.putfield 11, 3) := by decide +kernel
theorem d_BitSet_initWords_14 : decode jdk_92_method_6_code 14 = .ok (.return_, 1) := by decide +kernel
theorem pn_BitSet_initWords : plainFor (⟨"java/util/BitSet", "initWords", "(I)V"⟩ : MethodName) = true := plainFor_of_name (by first | (simp [plainName, overriddenIn, x]; done) | decide +kernel)
theorem pd_BitSet_initWords : parseMethodDescriptor "(I)V" = some ⟨[.int], none⟩ := by decide +kernel
theorem ef_iw (m : MethodId) (o : Addr) : entryFrame m #[(.ref o), (.int (64 : Int32))] 2 = mkF m 0 #[.val (.ref o), .val (.int (64 : Int32))] [] := by first | (simp [entryFrame, mkF, argsToLocals, Value.category]; done) | rfl
set_option maxRecDepth 65536 in
set_option maxHeartbeats 40000000 in
theorem rm_iw (l : Launch) (Z : State) (a0 : Array Value) (hw : ∀ d ∈ tables_1, d.before a0 Z = true) (o : Addr) (u1 u2 : Value) (h0 : Heap) (n0 : Nat) (Z0 : n0 ≤ h0.size) (E0 : Exa Z h0 o "java/util/BitSet") (F0 : Fld Z h0 o "java/util/BitSet" "words" "[J" u1) (F1 : Fld Z h0 o "java/util/BitSet" "sizeIsSticky" "Z" u2) (g0 : n0 ≤ o) : Wk.Met l (⟨"java/util/BitSet", "initWords", "(I)V"⟩ : MethodName) jdk_92_method_6_code 2 none ({ frames := 1, cells := 1, slots := 1, locals := 16 } : Room) #[(.ref o), (.int (64 : Int32))] Z h0 (fun r h L => r = none ∧ Fr n0 L ∧ Keep h0 h [o] ∧ Exa Z h o "java/util/BitSet" ∧ Fld Z h o "java/util/BitSet" "sizeIsSticky" "Z" u2) [] := by
  refine Wk.enter pn_BitSet_initWords (fun p e s m below meth c T0 k X0 e0 => ?_)
  refine (Wk.Ends.cast (ef_iw m o) ?_)
  refine Wk.aload_n k X0 d_BitSet_initWords_0 rfl rfl 1 rfl ?_
  refine Wk.iload_n k X0 d_BitSet_initWords_1 rfl 2 rfl ?_
  refine Wk.iconst k X0 d_BitSet_initWords_2 (1 : Int32) rfl 3 rfl ?_
  refine Wk.isub k X0 d_BitSet_initWords_3 4 rfl ?_
  refine Wk.callS k X0 [(.int ((64 : Int32) - (1 : Int32)))] [(.ref o)] d_BitSet_initWords_4 (rm_wi l Z a0 hw _ _) e0 (Wk.w hw 69 rfl) (Wk.w hw 70 rfl) (Wk.w hw 55 rfl) (Wk.w hw 71 rfl) (by decide) rfl pd_BitSet_wordIndex rfl rfl (Nat.le_of_ble_eq_true rfl) (Nat.le_of_ble_eq_true rfl) (Nat.le_of_ble_eq_true rfl) (Nat.le_of_ble_eq_true rfl) 7 rfl fun T1 v1 L1 X1 hQ1 => ?_
  obtain ⟨rfl, e1, rfl⟩ := hQ1
  rw [List.append_nil] at X1
  show Wk.Ends _ _ _ _ _ _ _ (mkF m 7 _ [(.int ((((64 : Int32) - (1 : Int32))) >>> ((6 : Int32) &&& 31))), (.ref o)])
  refine Wk.iconst k X1 d_BitSet_initWords_7 (1 : Int32) rfl 8 rfl ?_
  refine Wk.iadd k X1 d_BitSet_initWords_8 9 rfl ?_
  refine Wk.newarray k X1 d_BitSet_initWords_9 (Wk.w hw 72 rfl) e1 1 (by decide) 1 (by decide) (by decide) (by decide) (by decide) 11 rfl fun T2 h2 t q2 X2 e2 E2 A2 => ?_
  have g2 : n0 ≤ t := by rw [q2]; exact Z0
  have hs3 : h0.size ≤ t := by rw [q2]; exact (Keep.refl h0 [o]).1
  have ne4 : o ≠ t := by rw [q2]; exact Nat.ne_of_lt E0.lt
  have sz2 := Nat.le_trans Z0 E2.1
  have K5 := (Keep.refl h0 [o]).ext E2
  have f6 := Exa.ext E2 E0
  have f7 := Fld.ext E2 F0
  have f8 := Fld.ext E2 F1
  refine Wk.putfield k X2 d_BitSet_initWords_11 (host := "") (Or.inl (Wk.w hw 73 rfl)) Via.refl e2 f7 f6 (Or.inl (Wk.w hw 74 rfl)) (Wk.w hw 54 rfl) (ty := (.array .long)) (by decide) rfl rfl 14 rfl fun T9 h9 X9 e9 W9 => ?_
  have sz9 : n0 ≤ h9.size := by rw [W9.size]; exact sz2
  have N10 := Fr.snoc X9 (Fr.nil n0) g0
  have K11 := K5.wr W9 (Or.inl (List.mem_of_getElem? (i := 0) rfl))
  have f12 := Exa.wr W9 f6
  have f13 := Fld.other W9 f8 (Or.inr (slot_ne (Or.inl (Wk.w hw 63 rfl)) (Or.inl (Wk.w hw 74 rfl)) (by decide) (t := .boolean) (t' := (.array .long)) (by decide) (by decide)))
  have f14 := Fld.same W9 f7
  refine Wk.ret_void k X9 rfl d_BitSet_initWords_14 (by decide) (by decide) ?_
  rw [e9]
  exact ⟨rfl, N10, K11, f12, f13⟩
theorem d_BitSet_init_0 : decode jdk_92_method_4_code 0 = .ok (.aload_n 0, 1) := by decide +kernel
theorem d_BitSet_init_1 : decode jdk_92_method_4_code 1 = .ok (.invokespecial 21, 3) := by decide +kernel
theorem d_BitSet_init_4 : decode jdk_92_method_4_code 4 = .ok (.aload_n 0, 1) := by decide +kernel
theorem d_BitSet_init_5 : decode jdk_92_method_4_code 5 = .ok (.iconst 0, 1) := by decide +kernel
theorem d_BitSet_init_6 : decode jdk_92_method_4_code 6 = .ok (.putfield 7, 3) := by decide +kernel
theorem d_BitSet_init_9 : decode jdk_92_method_4_code 9 = .ok (.aload_n 0, 1) := by decide +kernel
theorem d_BitSet_init_10 : decode jdk_92_method_4_code 10 = .ok (.iconst 0, 1) := by decide +kernel
theorem d_BitSet_init_11 : decode jdk_92_method_4_code 11 = .ok (.putfield 24, 3) := by decide +kernel
theorem d_BitSet_init_14 : decode jdk_92_method_4_code 14 = .ok (.aload_n 0, 1) := by decide +kernel
theorem d_BitSet_init_15 : decode jdk_92_method_4_code 15 = .ok (.bipush 64, 2) := by decide +kernel
theorem d_BitSet_init_17 : decode jdk_92_method_4_code 17 = .ok (.invokevirtual 27, 3) := by decide +kernel
theorem d_BitSet_init_20 : decode jdk_92_method_4_code 20 = .ok (.aload_n 0, 1) := by decide +kernel
theorem d_BitSet_init_21 : decode jdk_92_method_4_code 21 = .ok (.iconst 0, 1) := by decide +kernel
theorem d_BitSet_init_22 : decode jdk_92_method_4_code 22 = .ok (.putfield 24, 3) := by decide +kernel
theorem d_BitSet_init_25 : decode jdk_92_method_4_code 25 = .ok (.return_, 1) := by decide +kernel
theorem pn_BitSet_init : plainFor (⟨"java/util/BitSet", "<init>", "()V"⟩ : MethodName) = true := plainFor_of_name (by first | (simp [plainName, overriddenIn, x]; done) | decide +kernel)
theorem pd_BitSet_init : parseMethodDescriptor "()V" = some ⟨[], none⟩ := by decide +kernel
theorem ef_bs (m : MethodId) (o : Addr) : entryFrame m #[(.ref o)] 1 = mkF m 0 #[.val (.ref o)] [] := by first | (simp [entryFrame, mkF, argsToLocals, Value.category]; done) | rfl
set_option maxRecDepth 65536 in
set_option maxHeartbeats 40000000 in
theorem rm_bs (l : Launch) (Z : State) (a0 : Array Value) (hw : ∀ d ∈ tables_1, d.before a0 Z = true) (o : Addr) (u1 u2 u3 : Value) (h0 : Heap) (n0 : Nat) (Z0 : n0 ≤ h0.size) (E0 : Exa Z h0 o "java/util/BitSet") (F0 : Fld Z h0 o "java/util/BitSet" "words" "[J" u1) (F1 : Fld Z h0 o "java/util/BitSet" "sizeIsSticky" "Z" u2) (F2 : Fld Z h0 o "java/util/BitSet" "wordsInUse" "I" u3) (g0 : n0 ≤ o) : Wk.Met l (⟨"java/util/BitSet", "<init>", "()V"⟩ : MethodName) jdk_92_method_4_code 1 none ({ frames := 2, cells := 1, slots := 1, locals := 32 } : Room) #[(.ref o)] Z h0 (fun r h L => r = none ∧ Fr n0 L ∧ Keep h0 h [o]) [] := by
  refine Wk.enter pn_BitSet_init (fun p e s m below meth c T0 k X0 e0 => ?_)
  refine (Wk.Ends.cast (ef_bs m o) ?_)
  refine Wk.aload_n k X0 d_BitSet_init_0 rfl rfl 1 rfl ?_
  refine Wk.initObj (W := 0) k X0 d_BitSet_init_1 (Wk.w hw 59 rfl) (Wk.w hw 7 rfl) (Wk.w hw 8 rfl) e0 rfl (Nat.le_of_ble_eq_true rfl) (Nat.le_of_ble_eq_true rfl) 4 rfl fun T1 X1 e1 => ?_
  refine Wk.aload_n k X1 d_BitSet_init_4 rfl rfl 5 rfl ?_
  refine Wk.iconst k X1 d_BitSet_init_5 (0 : Int32) rfl 6 rfl ?_
  refine Wk.putfield k X1 d_BitSet_init_6 (host := "") (Or.inl (Wk.w hw 60 rfl)) Via.refl e1 F2 E0 (Or.inl (Wk.w hw 61 rfl)) (Wk.w hw 54 rfl) (ty := .int) (by decide) rfl rfl 9 rfl fun T2 h2 X2 e2 W2 => ?_
  have sz2 : n0 ≤ h2.size := by rw [W2.size]; exact Z0
  have N3 := Fr.snoc X2 (Fr.nil n0) g0
  have K4 := (Keep.refl h0 [o]).wr W2 (Or.inl (List.mem_of_getElem? (i := 0) rfl))
  have f5 := Exa.wr W2 E0
  have f6 := Fld.other W2 F0 (Or.inr (slot_ne (Or.inl (Wk.w hw 74 rfl)) (Or.inl (Wk.w hw 61 rfl)) (by decide) (t := (.array .long)) (t' := .int) (by decide) (by decide)))
  have f7 := Fld.other W2 F1 (Or.inr (slot_ne (Or.inl (Wk.w hw 63 rfl)) (Or.inl (Wk.w hw 61 rfl)) (by decide) (t := .boolean) (t' := .int) (by decide) (by decide)))
  have f8 := Fld.same W2 F2
  refine Wk.aload_n k X2 d_BitSet_init_9 rfl rfl 10 rfl ?_
  refine Wk.iconst k X2 d_BitSet_init_10 (0 : Int32) rfl 11 rfl ?_
  refine Wk.putfield k X2 d_BitSet_init_11 (host := "") (Or.inl (Wk.w hw 62 rfl)) Via.refl e2 f7 f5 (Or.inl (Wk.w hw 63 rfl)) (Wk.w hw 54 rfl) (ty := .boolean) (by decide) rfl rfl 14 rfl fun T9 h9 X9 e9 W9 => ?_
  have sz9 : n0 ≤ h9.size := by rw [W9.size]; exact sz2
  have N10 := Fr.snoc X9 N3 g0
  have K11 := K4.wr W9 (Or.inl (List.mem_of_getElem? (i := 0) rfl))
  have f12 := Exa.wr W9 f5
  have f13 := Fld.other W9 f6 (Or.inr (slot_ne (Or.inl (Wk.w hw 74 rfl)) (Or.inl (Wk.w hw 63 rfl)) (by decide) (t := (.array .long)) (t' := .boolean) (by decide) (by decide)))
  have f14 := Fld.other W9 f8 (Or.inr (slot_ne (Or.inl (Wk.w hw 61 rfl)) (Or.inl (Wk.w hw 63 rfl)) (by decide) (t := .int) (t' := .boolean) (by decide) (by decide)))
  have f15 := Fld.same W9 f7
  refine Wk.aload_n k X9 d_BitSet_init_14 rfl rfl 15 rfl ?_
  refine Wk.bipush k X9 d_BitSet_init_15 (64 : Int32) rfl 17 rfl ?_
  refine Wk.callP k X9 [(.int (64 : Int32))] [] d_BitSet_init_17 (rm_iw l Z a0 hw o _ _ h9 n0 sz9 f12 f13 f15 g0) e9 f12 (Wk.w hw 64 rfl) (Wk.w hw 66 rfl) (Wk.w hw 54 rfl) (Wk.w hw 65 rfl) (Wk.w hw 55 rfl) (Wk.w hw 68 rfl) (by decide) rfl pd_BitSet_initWords rfl rfl (Nat.le_of_ble_eq_true rfl) (Nat.le_of_ble_eq_true rfl) (Nat.le_of_ble_eq_true rfl) (Nat.le_of_ble_eq_true rfl) 20 rfl fun T16 v16 L16 X16 hQ16 => ?_
  obtain ⟨rfl, N16q, K16, E16, F16⟩ := hQ16
  show Wk.Ends _ _ _ _ _ _ _ (mkF m 20 _ [])
  have N16 := Fr.app N10 N16q
  have KK16 := K11.trans K16 (allS (Or.inl (List.mem_of_getElem? (i := 0) rfl)) all0)
  refine Wk.aload_n k X16 d_BitSet_init_20 rfl rfl 21 rfl ?_
  refine Wk.iconst k X16 d_BitSet_init_21 (0 : Int32) rfl 22 rfl ?_
  refine Wk.putfield k X16 d_BitSet_init_22 (host := "") (Or.inl (Wk.w hw 62 rfl)) Via.refl (rfl : T16.heap = T16.heap) F16 E16 (Or.inl (Wk.w hw 63 rfl)) (Wk.w hw 54 rfl) (ty := .boolean) (by decide) rfl rfl 25 rfl fun T17 h17 X17 e17 W17 => ?_
  have N18 := Fr.snoc X17 N16 g0
  have K19 := KK16.wr W17 (Or.inl (List.mem_of_getElem? (i := 0) rfl))
  have f20 := Exa.wr W17 E16
  have f21 := Fld.same W17 F16
  refine Wk.ret_void k X17 rfl d_BitSet_init_25 (by decide) (by decide) ?_
  rw [e17]
  exact ⟨rfl, N18, K19⟩
theorem d_Transitions_init_0 : decode prog_31_method_1_code 0 = .ok (.aload_n 0, 1) := by decide +kernel
theorem d_Transitions_init_1 : decode prog_31_method_1_code 1 = .ok (.invokespecial 1, 3) := by decide +kernel
theorem d_Transitions_init_4 : decode prog_31_method_1_code 4 = .ok (.aload_n 0, 1) := by decide +kernel
theorem d_Transitions_init_5 : decode prog_31_method_1_code 5 = .ok (.bipush 64, 2) := by decide +kernel
theorem d_Transitions_init_7 : decode prog_31_method_1_code 7 = .ok (.newarray .int, 2) := by decide +kernel
theorem d_Transitions_init_9 : decode prog_31_method_1_code 9 = .ok (.putfield 9, 3) := by decide +kernel
theorem d_Transitions_init_12 : decode prog_31_method_1_code 12 = .ok (.aload_n 0, 1) := by decide +kernel
theorem d_Transitions_init_13 : decode prog_31_method_1_code 13 = .ok (.bipush 64, 2) := by decide +kernel
theorem d_Transitions_init_15 : decode prog_31_method_1_code 15 = .ok (.newarray .int, 2) := by decide +kernel
theorem d_Transitions_init_17 : decode prog_31_method_1_code 17 = .ok (.putfield 13, 3) := by decide +kernel
theorem d_Transitions_init_20 : decode prog_31_method_1_code 20 = .ok (.aload_n 0, 1) := by decide +kernel
theorem d_Transitions_init_21 : decode prog_31_method_1_code 21 = .ok (.bipush 64, 2) := by decide +kernel
theorem d_Transitions_init_23 : decode prog_31_method_1_code 23 = .ok (.newarray .int, 2) := by decide +kernel
theorem d_Transitions_init_25 : decode prog_31_method_1_code 25 = .ok (.putfield 16, 3) := by decide +kernel
theorem d_Transitions_init_28 : decode prog_31_method_1_code 28 = .ok (.return_, 1) := by decide +kernel
theorem pn_Transitions_init : plainFor (⟨"com/example/acomp/acomp/Transitions", "<init>", "()V"⟩ : MethodName) = true := plainFor_of_name (by first | (simp [plainName, overriddenIn, x]; done) | decide +kernel)
theorem pd_Transitions_init : parseMethodDescriptor "()V" = some ⟨[], none⟩ := by decide +kernel
theorem ef_tr (m : MethodId) (o : Addr) : entryFrame m #[(.ref o)] 1 = mkF m 0 #[.val (.ref o)] [] := by first | (simp [entryFrame, mkF, argsToLocals, Value.category]; done) | rfl
set_option maxRecDepth 65536 in
set_option maxHeartbeats 40000000 in
theorem rm_tr (l : Launch) (Z : State) (a0 : Array Value) (hw : ∀ d ∈ tables_1, d.before a0 Z = true) (o : Addr) (u1 u2 u3 : Value) (h0 : Heap) (n0 : Nat) (Z0 : n0 ≤ h0.size) (E0 : Exa Z h0 o "com/example/acomp/acomp/Transitions") (F0 : Fld Z h0 o "com/example/acomp/acomp/Transitions" "sources" "[I" u1) (F1 : Fld Z h0 o "com/example/acomp/acomp/Transitions" "letters" "[I" u2) (F2 : Fld Z h0 o "com/example/acomp/acomp/Transitions" "targets" "[I" u3) (g0 : n0 ≤ o) : Wk.Met l (⟨"com/example/acomp/acomp/Transitions", "<init>", "()V"⟩ : MethodName) prog_31_method_1_code 1 none ({ frames := 1, cells := 3, slots := 192, locals := 12 } : Room) #[(.ref o)] Z h0 (fun r h L => r = none ∧ Fr n0 L ∧ Keep h0 h [o]) [] := by
  refine Wk.enter pn_Transitions_init (fun p e s m below meth c T0 k X0 e0 => ?_)
  refine (Wk.Ends.cast (ef_tr m o) ?_)
  refine Wk.aload_n k X0 d_Transitions_init_0 rfl rfl 1 rfl ?_
  refine Wk.initObj (W := 0) k X0 d_Transitions_init_1 (Wk.w hw 85 rfl) (Wk.w hw 7 rfl) (Wk.w hw 8 rfl) e0 rfl (Nat.le_of_ble_eq_true rfl) (Nat.le_of_ble_eq_true rfl) 4 rfl fun T1 X1 e1 => ?_
  refine Wk.aload_n k X1 d_Transitions_init_4 rfl rfl 5 rfl ?_
  refine Wk.bipush k X1 d_Transitions_init_5 (64 : Int32) rfl 7 rfl ?_
  refine Wk.newarray k X1 d_Transitions_init_7 (Wk.w hw 86 rfl) e1 64 rfl 64 (by decide) (by decide) (by decide) (by decide) 9 rfl fun T2 h2 b2 q2 X2 e2 E2 A2 => ?_
  have g2 : n0 ≤ b2 := by rw [q2]; exact Z0
  have hs3 : h0.size ≤ b2 := by rw [q2]; exact (Keep.refl h0 [o]).1
  have ne4 : o ≠ b2 := by rw [q2]; exact Nat.ne_of_lt E0.lt
  have sz2 := Nat.le_trans Z0 E2.1
  have K5 := (Keep.refl h0 [o]).ext E2
  have f6 := Exa.ext E2 E0
  have f7 := Fld.ext E2 F0
  have f8 := Fld.ext E2 F1
  have f9 := Fld.ext E2 F2
  have A2' : Wk.Arl Z h2 b2 .int (([(0 : Int32), (0 : Int32), (0 : Int32), (0 : Int32), (0 : Int32), (0 : Int32), (0 : Int32), (0 : Int32), (0 : Int32), (0 : Int32), (0 : Int32), (0 : Int32), (0 : Int32), (0 : Int32), (0 : Int32), (0 : Int32), (0 : Int32), (0 : Int32), (0 : Int32), (0 : Int32), (0 : Int32), (0 : Int32), (0 : Int32), (0 : Int32), (0 : Int32), (0 : Int32), (0 : Int32), (0 : Int32), (0 : Int32), (0 : Int32), (0 : Int32), (0 : Int32), (0 : Int32), (0 : Int32), (0 : Int32), (0 : Int32), (0 : Int32), (0 : Int32), (0 : Int32), (0 : Int32), (0 : Int32), (0 : Int32), (0 : Int32), (0 : Int32), (0 : Int32), (0 : Int32), (0 : Int32), (0 : Int32), (0 : Int32), (0 : Int32), (0 : Int32), (0 : Int32), (0 : Int32), (0 : Int32), (0 : Int32), (0 : Int32), (0 : Int32), (0 : Int32), (0 : Int32), (0 : Int32), (0 : Int32), (0 : Int32), (0 : Int32), (0 : Int32)] : List Int32).map Value.int) := A2
  refine Wk.putfield k X2 d_Transitions_init_9 (host := "") (Or.inl (Wk.w hw 87 rfl)) Via.refl e2 f7 f6 (Or.inl (Wk.w hw 88 rfl)) (Wk.w hw 80 rfl) (ty := (.array .int)) (by decide) rfl rfl 12 rfl fun T10 h10 X10 e10 W10 => ?_
  have sz10 : n0 ≤ h10.size := by rw [W10.size]; exact sz2
  have N11 := Fr.snoc X10 (Fr.nil n0) g0
  have K12 := K5.wr W10 (Or.inl (List.mem_of_getElem? (i := 0) rfl))
  have f13 := Exa.wr W10 f6
  have f14 := Fld.other W10 f8 (Or.inr (slot_ne (Or.inl (Wk.w hw 90 rfl)) (Or.inl (Wk.w hw 88 rfl)) (by decide) (t := (.array .int)) (t' := (.array .int)) (by decide) (by decide)))
  have f15 := Fld.other W10 f9 (Or.inr (slot_ne (Or.inl (Wk.w hw 92 rfl)) (Or.inl (Wk.w hw 88 rfl)) (by decide) (t := (.array .int)) (t' := (.array .int)) (by decide) (by decide)))
  have f16 := A2'.other W10 (Ne.symm ne4)
  have f17 := Fld.same W10 f7
  refine Wk.aload_n k X10 d_Transitions_init_12 rfl rfl 13 rfl ?_
  refine Wk.bipush k X10 d_Transitions_init_13 (64 : Int32) rfl 15 rfl ?_
  refine Wk.newarray k X10 d_Transitions_init_15 (Wk.w hw 86 rfl) e10 64 rfl 64 (by decide) (by decide) (by decide) (by decide) 17 rfl fun T18 h18 b18 q18 X18 e18 E18 A18 => ?_
  have g18 : n0 ≤ b18 := by rw [q18]; exact sz10
  have hs19 : h0.size ≤ b18 := by rw [q18]; exact K12.1
  have ne20 : o ≠ b18 := by rw [q18]; exact Nat.ne_of_lt f13.lt
  have ne21 : b2 ≠ b18 := by rw [q18]; exact Nat.ne_of_lt f16.lt
  have sz18 := Nat.le_trans sz10 E18.1
  have K22 := K12.ext E18
  have f23 := Exa.ext E18 f13
  have f24 := Fld.ext E18 f17
  have f25 := Fld.ext E18 f14
  have f26 := Fld.ext E18 f15
  have f27 := f16.ext E18
  have A18' : Wk.Arl Z h18 b18 .int (([(0 : Int32), (0 : Int32), (0 : Int32), (0 : Int32), (0 : Int32), (0 : Int32), (0 : Int32), (0 : Int32), (0 : Int32), (0 : Int32), (0 : Int32), (0 : Int32), (0 : Int32), (0 : Int32), (0 : Int32), (0 : Int32), (0 : Int32), (0 : Int32), (0 : Int32), (0 : Int32), (0 : Int32), (0 : Int32), (0 : Int32), (0 : Int32), (0 : Int32), (0 : Int32), (0 : Int32), (0 : Int32), (0 : Int32), (0 : Int32), (0 : Int32), (0 : Int32), (0 : Int32), (0 : Int32), (0 : Int32), (0 : Int32), (0 : Int32), (0 : Int32), (0 : Int32), (0 : Int32), (0 : Int32), (0 : Int32), (0 : Int32), (0 : Int32), (0 : Int32), (0 : Int32), (0 : Int32), (0 : Int32), (0 : Int32), (0 : Int32), (0 : Int32), (0 : Int32), (0 : Int32), (0 : Int32), (0 : Int32), (0 : Int32), (0 : Int32), (0 : Int32), (0 : Int32), (0 : Int32), (0 : Int32), (0 : Int32), (0 : Int32), (0 : Int32)] : List Int32).map Value.int) := A18
  refine Wk.putfield k X18 d_Transitions_init_17 (host := "") (Or.inl (Wk.w hw 89 rfl)) Via.refl e18 f25 f23 (Or.inl (Wk.w hw 90 rfl)) (Wk.w hw 80 rfl) (ty := (.array .int)) (by decide) rfl rfl 20 rfl fun T28 h28 X28 e28 W28 => ?_
  have sz28 : n0 ≤ h28.size := by rw [W28.size]; exact sz18
  have N29 := Fr.snoc X28 N11 g0
  have K30 := K22.wr W28 (Or.inl (List.mem_of_getElem? (i := 0) rfl))
  have f31 := Exa.wr W28 f23
  have f32 := Fld.other W28 f24 (Or.inr (slot_ne (Or.inl (Wk.w hw 88 rfl)) (Or.inl (Wk.w hw 90 rfl)) (by decide) (t := (.array .int)) (t' := (.array .int)) (by decide) (by decide)))
  have f33 := Fld.other W28 f26 (Or.inr (slot_ne (Or.inl (Wk.w hw 92 rfl)) (Or.inl (Wk.w hw 90 rfl)) (by decide) (t := (.array .int)) (t' := (.array .int)) (by decide) (by decide)))
  have f34 := f27.other W28 (Ne.symm ne4)
  have f35 := A18'.other W28 (Ne.symm ne20)
  have f36 := Fld.same W28 f25
  refine Wk.aload_n k X28 d_Transitions_init_20 rfl rfl 21 rfl ?_
  refine Wk.bipush k X28 d_Transitions_init_21 (64 : Int32) rfl 23 rfl ?_
  refine Wk.newarray k X28 d_Transitions_init_23 (Wk.w hw 86 rfl) e28 64 rfl 64 (by decide) (by decide) (by decide) (by decide) 25 rfl fun T37 h37 b37 q37 X37 e37 E37 A37 => ?_
  have g37 : n0 ≤ b37 := by rw [q37]; exact sz28
  have hs38 : h0.size ≤ b37 := by rw [q37]; exact K30.1
  have ne39 : o ≠ b37 := by rw [q37]; exact Nat.ne_of_lt f31.lt
  have ne40 : b2 ≠ b37 := by rw [q37]; exact Nat.ne_of_lt f34.lt
  have ne41 : b18 ≠ b37 := by rw [q37]; exact Nat.ne_of_lt f35.lt
  have sz37 := Nat.le_trans sz28 E37.1
  have K42 := K30.ext E37
  have f43 := Exa.ext E37 f31
  have f44 := Fld.ext E37 f32
  have f45 := Fld.ext E37 f36
  have f46 := Fld.ext E37 f33
  have f47 := f34.ext E37
  have f48 := f35.ext E37
  have A37' : Wk.Arl Z h37 b37 .int (([(0 : Int32), (0 : Int32), (0 : Int32), (0 : Int32), (0 : Int32), (0 : Int32), (0 : Int32), (0 : Int32), (0 : Int32), (0 : Int32), (0 : Int32), (0 : Int32), (0 : Int32), (0 : Int32), (0 : Int32), (0 : Int32), (0 : Int32), (0 : Int32), (0 : Int32), (0 : Int32), (0 : Int32), (0 : Int32), (0 : Int32), (0 : Int32), (0 : Int32), (0 : Int32), (0 : Int32), (0 : Int32), (0 : Int32), (0 : Int32), (0 : Int32), (0 : Int32), (0 : Int32), (0 : Int32), (0 : Int32), (0 : Int32), (0 : Int32), (0 : Int32), (0 : Int32), (0 : Int32), (0 : Int32), (0 : Int32), (0 : Int32), (0 : Int32), (0 : Int32), (0 : Int32), (0 : Int32), (0 : Int32), (0 : Int32), (0 : Int32), (0 : Int32), (0 : Int32), (0 : Int32), (0 : Int32), (0 : Int32), (0 : Int32), (0 : Int32), (0 : Int32), (0 : Int32), (0 : Int32), (0 : Int32), (0 : Int32), (0 : Int32), (0 : Int32)] : List Int32).map Value.int) := A37
  refine Wk.putfield k X37 d_Transitions_init_25 (host := "") (Or.inl (Wk.w hw 91 rfl)) Via.refl e37 f46 f43 (Or.inl (Wk.w hw 92 rfl)) (Wk.w hw 80 rfl) (ty := (.array .int)) (by decide) rfl rfl 28 rfl fun T49 h49 X49 e49 W49 => ?_
  have sz49 : n0 ≤ h49.size := by rw [W49.size]; exact sz37
  have N50 := Fr.snoc X49 N29 g0
  have K51 := K42.wr W49 (Or.inl (List.mem_of_getElem? (i := 0) rfl))
  have f52 := Exa.wr W49 f43
  have f53 := Fld.other W49 f44 (Or.inr (slot_ne (Or.inl (Wk.w hw 88 rfl)) (Or.inl (Wk.w hw 92 rfl)) (by decide) (t := (.array .int)) (t' := (.array .int)) (by decide) (by decide)))
  have f54 := Fld.other W49 f45 (Or.inr (slot_ne (Or.inl (Wk.w hw 90 rfl)) (Or.inl (Wk.w hw 92 rfl)) (by decide) (t := (.array .int)) (t' := (.array .int)) (by decide) (by decide)))
  have f55 := f47.other W49 (Ne.symm ne4)
  have f56 := f48.other W49 (Ne.symm ne20)
  have f57 := A37'.other W49 (Ne.symm ne39)
  have f58 := Fld.same W49 f46
  refine Wk.ret_void k X49 rfl d_Transitions_init_28 (by decide) (by decide) ?_
  rw [e49]
  exact ⟨rfl, N50, K51⟩
theorem d_Builder_init_0 : decode prog_6_method_1_code 0 = .ok (.aload_n 0, 1) := by decide +kernel
theorem d_Builder_init_1 : decode prog_6_method_1_code 1 = .ok (.invokespecial 3, 3) := by decide +kernel
theorem d_Builder_init_4 : decode prog_6_method_1_code 4 = .ok (.aload_n 0, 1) := by decide +kernel
theorem d_Builder_init_5 : decode prog_6_method_1_code 5 = .ok (.new 9, 3) := by decide +kernel
theorem d_Builder_init_8 : decode prog_6_method_1_code 8 = .ok (.dup, 1) := by decide +kernel
theorem d_Builder_init_9 : decode prog_6_method_1_code 9 = .ok (.invokespecial 11, 3) := by decide +kernel
theorem d_Builder_init_12 : decode prog_6_method_1_code 12 = .ok (.putfield 12, 3) := by decide +kernel
theorem d_Builder_init_15 : decode prog_6_method_1_code 15 = .ok (.aload_n 0, 1) := by decide +kernel
theorem d_Builder_init_16 : decode prog_6_method_1_code 16 = .ok (.new 18, 3) := by decide +kernel
theorem d_Builder_init_19 : decode prog_6_method_1_code 19 = .ok (.dup, 1) := by decide +kernel
theorem d_Builder_init_20 : decode prog_6_method_1_code 20 = .ok (.invokespecial 20, 3) := by decide +kernel
theorem d_Builder_init_23 : decode prog_6_method_1_code 23 = .ok (.putfield 21, 3) := by decide +kernel
theorem d_Builder_init_26 : decode prog_6_method_1_code 26 = .ok (.aload_n 0, 1) := by decide +kernel
theorem d_Builder_init_27 : decode prog_6_method_1_code 27 = .ok (.new 25, 3) := by decide +kernel
theorem d_Builder_init_30 : decode prog_6_method_1_code 30 = .ok (.dup, 1) := by decide +kernel
theorem d_Builder_init_31 : decode prog_6_method_1_code 31 = .ok (.invokespecial 27, 3) := by decide +kernel
theorem d_Builder_init_34 : decode prog_6_method_1_code 34 = .ok (.putfield 28, 3) := by decide +kernel
theorem d_Builder_init_37 : decode prog_6_method_1_code 37 = .ok (.aload_n 0, 1) := by decide +kernel
theorem d_Builder_init_38 : decode prog_6_method_1_code 38 = .ok (.new 25, 3) := by decide +kernel
theorem d_Builder_init_41 : decode prog_6_method_1_code 41 = .ok (.dup, 1) := by decide +kernel
theorem d_Builder_init_42 : decode prog_6_method_1_code 42 = .ok (.invokespecial 27, 3) := by decide +kernel
theorem d_Builder_init_45 : decode prog_6_method_1_code 45 = .ok (.putfield 32, 3) := by decide +kernel
theorem d_Builder_init_48 : decode prog_6_method_1_code 48 = .ok (.aload_n 0, 1) := by decide +kernel
theorem d_Builder_init_49 : decode prog_6_method_1_code 49 = .ok (.new 35, 3) := by decide +kernel
theorem d_Builder_init_52 : decode prog_6_method_1_code 52 = .ok (.dup, 1) := by decide +kernel
theorem d_Builder_init_53 : decode prog_6_method_1_code 53 = .ok (.invokespecial 37, 3) := by decide +kernel
theorem d_Builder_init_56 : decode prog_6_method_1_code 56 = .ok (.putfield 38, 3) := by decide +kernel
theorem d_Builder_init_59 : decode prog_6_method_1_code 59 = .ok (.return_, 1) := by decide +kernel
theorem pn_Builder_init : plainFor (⟨"com/example/acomp/acomp/BuchiAutomaton$Builder", "<init>", "()V"⟩ : MethodName) = true := plainFor_of_name (by first | (simp [plainName, overriddenIn, x]; done) | decide +kernel)
theorem pd_Builder_init : parseMethodDescriptor "()V" = some ⟨[], none⟩ := by decide +kernel
theorem ef_bb (m : MethodId) (o : Addr) : entryFrame m #[(.ref o)] 1 = mkF m 0 #[.val (.ref o)] [] := by first | (simp [entryFrame, mkF, argsToLocals, Value.category]; done) | rfl
set_option maxRecDepth 65536 in
set_option maxHeartbeats 40000000 in
theorem rm_bb (l : Launch) (Z : State) (a0 : Array Value) (hw : ∀ d ∈ tables_1, d.before a0 Z = true) (o : Addr) (sa : Addr) (u0 u1 u2 u3 u4 w0 : Value) (h0 : Heap) (n0 : Nat) (Z0 : n0 ≤ h0.size) (E0 : Exa Z h0 o "com/example/acomp/acomp/BuchiAutomaton$Builder") (F0 : Fld Z h0 o "com/example/acomp/acomp/BuchiAutomaton$Builder" "letters" "Ljava/util/List;" u0) (F1 : Fld Z h0 o "com/example/acomp/acomp/BuchiAutomaton$Builder" "letterNumbers" "Ljava/util/Map;" u1) (F2 : Fld Z h0 o "com/example/acomp/acomp/BuchiAutomaton$Builder" "initialStates" "Ljava/util/BitSet;" u2) (F3 : Fld Z h0 o "com/example/acomp/acomp/BuchiAutomaton$Builder" "acceptingStates" "Ljava/util/BitSet;" u3) (F4 : Fld Z h0 o "com/example/acomp/acomp/BuchiAutomaton$Builder" "transitions" "Lcom/example/acomp/acomp/Transitions;" u4) (F5 : Fld Z h0 o "com/example/acomp/acomp/BuchiAutomaton$Builder" "stateCount" "I" w0) (g0 : n0 ≤ o) (O0 : Old Z n0 h0) (S0 : Sta Z Z.heap "java/util/ArrayList" "DEFAULTCAPACITY_EMPTY_ELEMENTDATA" "[Ljava/lang/Object;" (.ref sa)) : Wk.Met l (⟨"com/example/acomp/acomp/BuchiAutomaton$Builder", "<init>", "()V"⟩ : MethodName) prog_6_method_1_code 1 none ({ frames := 5, cells := 10, slots := 215, locals := 60 } : Room) #[(.ref o)] Z h0 (fun r h L => r = none ∧ Fr n0 L ∧ Exa Z h o "com/example/acomp/acomp/BuchiAutomaton$Builder" ∧ Fld Z h o "com/example/acomp/acomp/BuchiAutomaton$Builder" "stateCount" "I" w0) [] := by
  refine Wk.enter pn_Builder_init (fun p e s m below meth c T0 k X0 e0 => ?_)
  refine (Wk.Ends.cast (ef_bb m o) ?_)
  refine Wk.aload_n k X0 d_Builder_init_0 rfl rfl 1 rfl ?_
  refine Wk.initObj (W := 0) k X0 d_Builder_init_1 (Wk.w hw 6 rfl) (Wk.w hw 7 rfl) (Wk.w hw 8 rfl) e0 rfl (Nat.le_of_ble_eq_true rfl) (Nat.le_of_ble_eq_true rfl) 4 rfl fun T1 X1 e1 => ?_
  refine Wk.aload_n k X1 d_Builder_init_4 rfl rfl 5 rfl ?_
  refine Wk.new k X1 d_Builder_init_5 (Wk.w hw 9 rfl) (Wk.w hw 10 rfl) (Wk.w hw 11 rfl) e1 (by decide) (by decide) 8 rfl fun T2 h2 b2 q2 X2 e2 E2 A2 D2 => ?_
  have g2 : n0 ≤ b2 := by rw [q2]; exact Z0
  have ne3 : o ≠ b2 := by rw [q2]; exact Nat.ne_of_lt E0.lt
  have sz2 := Nat.le_trans Z0 E2.1
  have f4 := Exa.ext E2 E0
  have f5 := Fld.ext E2 F0
  have f6 := Fld.ext E2 F1
  have f7 := Fld.ext E2 F2
  have f8 := Fld.ext E2 F3
  have f9 := Fld.ext E2 F4
  have f10 := Fld.ext E2 F5
  have f11 : Fld Z h2 b2 "java/util/AbstractList" "modCount" "I" (.int (0 : Int32)) := D2 (Or.inl (Wk.w hw 29 rfl)) (ty := .int) (by decide)
  have f12 : Fld Z h2 b2 "java/util/ArrayList" "elementData" "[Ljava/lang/Object;" .null := D2 (Or.inl (Wk.w hw 32 rfl)) (ty := (.array (.object "java/lang/Object"))) (by decide)
  have O13 := O0.ext E2
  refine Wk.dup k X2 d_Builder_init_8 rfl 9 rfl ?_
  refine Wk.callI k X2 [] [(.ref b2), (.ref o)] d_Builder_init_9 (rm_al l Z a0 hw b2 sa _ _ h2 n0 A2 f11 f12 g2 O13 S0) e2 rfl (Wk.w hw 12 rfl) (Wk.w hw 13 rfl) (Wk.w hw 11 rfl) (Wk.w hw 14 rfl) (by decide) rfl pd_ArrayList_init rfl rfl (Nat.le_of_ble_eq_true rfl) (Nat.le_of_ble_eq_true rfl) (Nat.le_of_ble_eq_true rfl) (Nat.le_of_ble_eq_true rfl) 12 rfl fun T14 v14 L14 X14 hQ14 => ?_
  obtain ⟨rfl, N14q, K14⟩ := hQ14
  show Wk.Ends _ _ _ _ _ _ _ (mkF m 12 _ [(.ref b2), (.ref o)])
  have N14 := Fr.app (Fr.nil n0) N14q
  have sz14 := Nat.le_trans sz2 K14.1
  have f15 := f4.keep K14
  have f16 := f5.keep K14 (ninS ne3 nin0)
  have f17 := f6.keep K14 (ninS ne3 nin0)
  have f18 := f7.keep K14 (ninS ne3 nin0)
  have f19 := f8.keep K14 (ninS ne3 nin0)
  have f20 := f9.keep K14 (ninS ne3 nin0)
  have f21 := f10.keep K14 (ninS ne3 nin0)
  refine Wk.putfield k X14 d_Builder_init_12 (host := "") (Or.inl (Wk.w hw 33 rfl)) Via.refl (rfl : T14.heap = T14.heap) f16 f15 (Or.inr ⟨(Wk.w hw 34 rfl), rfl, rfl⟩) (Wk.w hw 1 rfl) (ty := (.object "java/util/List")) (by decide) rfl rfl 15 rfl fun T22 h22 X22 e22 W22 => ?_
  have sz22 : n0 ≤ h22.size := by rw [W22.size]; exact sz14
  have N23 := Fr.snoc X22 N14 g0
  have f24 := Exa.wr W22 f15
  have f25 := Fld.other W22 f17 (Or.inr (slot_ne (Or.inr (Wk.w hw 52 rfl)) (Or.inr (Wk.w hw 34 rfl)) (by decide) (t := (.object "java/util/Map")) (t' := (.object "java/util/List")) (by decide) (by decide)))
  have f26 := Fld.other W22 f18 (Or.inr (slot_ne (Or.inr (Wk.w hw 76 rfl)) (Or.inr (Wk.w hw 34 rfl)) (by decide) (t := (.object "java/util/BitSet")) (t' := (.object "java/util/List")) (by decide) (by decide)))
  have f27 := Fld.other W22 f19 (Or.inr (slot_ne (Or.inr (Wk.w hw 78 rfl)) (Or.inr (Wk.w hw 34 rfl)) (by decide) (t := (.object "java/util/BitSet")) (t' := (.object "java/util/List")) (by decide) (by decide)))
  have f28 := Fld.other W22 f20 (Or.inr (slot_ne (Or.inr (Wk.w hw 94 rfl)) (Or.inr (Wk.w hw 34 rfl)) (by decide) (t := (.object "com/example/acomp/acomp/Transitions")) (t' := (.object "java/util/List")) (by decide) (by decide)))
  have f29 := Fld.other W22 f21 (Or.inr (slot_ne (Or.inl (Wk.w hw 101 rfl)) (Or.inr (Wk.w hw 34 rfl)) (by decide) (t := .int) (t' := (.object "java/util/List")) (by decide) (by decide)))
  have f30 := Fld.same W22 f16
  refine Wk.aload_n k X22 d_Builder_init_15 rfl rfl 16 rfl ?_
  refine Wk.new k X22 d_Builder_init_16 (Wk.w hw 35 rfl) (Wk.w hw 36 rfl) (Wk.w hw 37 rfl) e22 (by decide) (by decide) 19 rfl fun T31 h31 b31 q31 X31 e31 E31 A31 D31 => ?_
  have g31 : n0 ≤ b31 := by rw [q31]; exact sz22
  have ne32 : o ≠ b31 := by rw [q31]; exact Nat.ne_of_lt f24.lt
  have sz31 := Nat.le_trans sz22 E31.1
  have f33 := Exa.ext E31 f24
  have f34 := Fld.ext E31 f30
  have f35 := Fld.ext E31 f25
  have f36 := Fld.ext E31 f26
  have f37 := Fld.ext E31 f27
  have f38 := Fld.ext E31 f28
  have f39 := Fld.ext E31 f29
  have f40 : Fld Z h31 b31 "java/util/HashMap" "loadFactor" "F" (defaultValue .float) := D31 (Or.inr (Wk.w hw 50 rfl)) (ty := .float) (by decide)
  refine Wk.dup k X31 d_Builder_init_19 rfl 20 rfl ?_
  refine Wk.callI k X31 [] [(.ref b31), (.ref o)] d_Builder_init_20 (rm_hm l Z a0 hw b31 _ h31 n0 A31 f40 g31) e31 rfl (Wk.w hw 38 rfl) (Wk.w hw 39 rfl) (Wk.w hw 37 rfl) (Wk.w hw 40 rfl) (by decide) rfl pd_HashMap_init rfl rfl (Nat.le_of_ble_eq_true rfl) (Nat.le_of_ble_eq_true rfl) (Nat.le_of_ble_eq_true rfl) (Nat.le_of_ble_eq_true rfl) 23 rfl fun T41 v41 L41 X41 hQ41 => ?_
  obtain ⟨rfl, N41q, K41⟩ := hQ41
  show Wk.Ends _ _ _ _ _ _ _ (mkF m 23 _ [(.ref b31), (.ref o)])
  have N41 := Fr.app N23 N41q
  have sz41 := Nat.le_trans sz31 K41.1
  have f42 := f33.keep K41
  have f43 := f34.keep K41 (ninS ne32 nin0)
  have f44 := f35.keep K41 (ninS ne32 nin0)
  have f45 := f36.keep K41 (ninS ne32 nin0)
  have f46 := f37.keep K41 (ninS ne32 nin0)
  have f47 := f38.keep K41 (ninS ne32 nin0)
  have f48 := f39.keep K41 (ninS ne32 nin0)
  refine Wk.putfield k X41 d_Builder_init_23 (host := "") (Or.inl (Wk.w hw 51 rfl)) Via.refl (rfl : T41.heap = T41.heap) f44 f42 (Or.inr ⟨(Wk.w hw 52 rfl), rfl, rfl⟩) (Wk.w hw 1 rfl) (ty := (.object "java/util/Map")) (by decide) rfl rfl 26 rfl fun T49 h49 X49 e49 W49 => ?_
  have sz49 : n0 ≤ h49.size := by rw [W49.size]; exact sz41
  have N50 := Fr.snoc X49 N41 g0
  have f51 := Exa.wr W49 f42
  have f52 := Fld.other W49 f43 (Or.inr (slot_ne (Or.inr (Wk.w hw 34 rfl)) (Or.inr (Wk.w hw 52 rfl)) (by decide) (t := (.object "java/util/List")) (t' := (.object "java/util/Map")) (by decide) (by decide)))
  have f53 := Fld.other W49 f45 (Or.inr (slot_ne (Or.inr (Wk.w hw 76 rfl)) (Or.inr (Wk.w hw 52 rfl)) (by decide) (t := (.object "java/util/BitSet")) (t' := (.object "java/util/Map")) (by decide) (by decide)))
  have f54 := Fld.other W49 f46 (Or.inr (slot_ne (Or.inr (Wk.w hw 78 rfl)) (Or.inr (Wk.w hw 52 rfl)) (by decide) (t := (.object "java/util/BitSet")) (t' := (.object "java/util/Map")) (by decide) (by decide)))
  have f55 := Fld.other W49 f47 (Or.inr (slot_ne (Or.inr (Wk.w hw 94 rfl)) (Or.inr (Wk.w hw 52 rfl)) (by decide) (t := (.object "com/example/acomp/acomp/Transitions")) (t' := (.object "java/util/Map")) (by decide) (by decide)))
  have f56 := Fld.other W49 f48 (Or.inr (slot_ne (Or.inl (Wk.w hw 101 rfl)) (Or.inr (Wk.w hw 52 rfl)) (by decide) (t := .int) (t' := (.object "java/util/Map")) (by decide) (by decide)))
  have f57 := Fld.same W49 f44
  refine Wk.aload_n k X49 d_Builder_init_26 rfl rfl 27 rfl ?_
  refine Wk.new k X49 d_Builder_init_27 (Wk.w hw 53 rfl) (Wk.w hw 54 rfl) (Wk.w hw 55 rfl) e49 (by decide) (by decide) 30 rfl fun T58 h58 b58 q58 X58 e58 E58 A58 D58 => ?_
  have g58 : n0 ≤ b58 := by rw [q58]; exact sz49
  have ne59 : o ≠ b58 := by rw [q58]; exact Nat.ne_of_lt f51.lt
  have sz58 := Nat.le_trans sz49 E58.1
  have f60 := Exa.ext E58 f51
  have f61 := Fld.ext E58 f52
  have f62 := Fld.ext E58 f57
  have f63 := Fld.ext E58 f53
  have f64 := Fld.ext E58 f54
  have f65 := Fld.ext E58 f55
  have f66 := Fld.ext E58 f56
  have f67 : Fld Z h58 b58 "java/util/BitSet" "wordsInUse" "I" (.int (0 : Int32)) := D58 (Or.inl (Wk.w hw 61 rfl)) (ty := .int) (by decide)
  have f68 : Fld Z h58 b58 "java/util/BitSet" "sizeIsSticky" "Z" (.int (0 : Int32)) := D58 (Or.inl (Wk.w hw 63 rfl)) (ty := .boolean) (by decide)
  have f69 : Fld Z h58 b58 "java/util/BitSet" "words" "[J" .null := D58 (Or.inl (Wk.w hw 74 rfl)) (ty := (.array .long)) (by decide)
  refine Wk.dup k X58 d_Builder_init_30 rfl 31 rfl ?_
  refine Wk.callI k X58 [] [(.ref b58), (.ref o)] d_Builder_init_31 (rm_bs l Z a0 hw b58 _ _ _ h58 n0 sz58 A58 f69 f68 f67 g58) e58 rfl (Wk.w hw 56 rfl) (Wk.w hw 57 rfl) (Wk.w hw 55 rfl) (Wk.w hw 58 rfl) (by decide) rfl pd_BitSet_init rfl rfl (Nat.le_of_ble_eq_true rfl) (Nat.le_of_ble_eq_true rfl) (Nat.le_of_ble_eq_true rfl) (Nat.le_of_ble_eq_true rfl) 34 rfl fun T70 v70 L70 X70 hQ70 => ?_
  obtain ⟨rfl, N70q, K70⟩ := hQ70
  show Wk.Ends _ _ _ _ _ _ _ (mkF m 34 _ [(.ref b58), (.ref o)])
  have N70 := Fr.app N50 N70q
  have sz70 := Nat.le_trans sz58 K70.1
  have f71 := f60.keep K70
  have f72 := f61.keep K70 (ninS ne59 nin0)
  have f73 := f62.keep K70 (ninS ne59 nin0)
  have f74 := f63.keep K70 (ninS ne59 nin0)
  have f75 := f64.keep K70 (ninS ne59 nin0)
  have f76 := f65.keep K70 (ninS ne59 nin0)
  have f77 := f66.keep K70 (ninS ne59 nin0)
  refine Wk.putfield k X70 d_Builder_init_34 (host := "") (Or.inl (Wk.w hw 75 rfl)) Via.refl (rfl : T70.heap = T70.heap) f74 f71 (Or.inr ⟨(Wk.w hw 76 rfl), rfl, rfl⟩) (Wk.w hw 1 rfl) (ty := (.object "java/util/BitSet")) (by decide) rfl rfl 37 rfl fun T78 h78 X78 e78 W78 => ?_
  have sz78 : n0 ≤ h78.size := by rw [W78.size]; exact sz70
  have N79 := Fr.snoc X78 N70 g0
  have f80 := Exa.wr W78 f71
  have f81 := Fld.other W78 f72 (Or.inr (slot_ne (Or.inr (Wk.w hw 34 rfl)) (Or.inr (Wk.w hw 76 rfl)) (by decide) (t := (.object "java/util/List")) (t' := (.object "java/util/BitSet")) (by decide) (by decide)))
  have f82 := Fld.other W78 f73 (Or.inr (slot_ne (Or.inr (Wk.w hw 52 rfl)) (Or.inr (Wk.w hw 76 rfl)) (by decide) (t := (.object "java/util/Map")) (t' := (.object "java/util/BitSet")) (by decide) (by decide)))
  have f83 := Fld.other W78 f75 (Or.inr (slot_ne (Or.inr (Wk.w hw 78 rfl)) (Or.inr (Wk.w hw 76 rfl)) (by decide) (t := (.object "java/util/BitSet")) (t' := (.object "java/util/BitSet")) (by decide) (by decide)))
  have f84 := Fld.other W78 f76 (Or.inr (slot_ne (Or.inr (Wk.w hw 94 rfl)) (Or.inr (Wk.w hw 76 rfl)) (by decide) (t := (.object "com/example/acomp/acomp/Transitions")) (t' := (.object "java/util/BitSet")) (by decide) (by decide)))
  have f85 := Fld.other W78 f77 (Or.inr (slot_ne (Or.inl (Wk.w hw 101 rfl)) (Or.inr (Wk.w hw 76 rfl)) (by decide) (t := .int) (t' := (.object "java/util/BitSet")) (by decide) (by decide)))
  have f86 := Fld.same W78 f74
  refine Wk.aload_n k X78 d_Builder_init_37 rfl rfl 38 rfl ?_
  refine Wk.new k X78 d_Builder_init_38 (Wk.w hw 53 rfl) (Wk.w hw 54 rfl) (Wk.w hw 55 rfl) e78 (by decide) (by decide) 41 rfl fun T87 h87 b87 q87 X87 e87 E87 A87 D87 => ?_
  have g87 : n0 ≤ b87 := by rw [q87]; exact sz78
  have ne88 : o ≠ b87 := by rw [q87]; exact Nat.ne_of_lt f80.lt
  have sz87 := Nat.le_trans sz78 E87.1
  have f89 := Exa.ext E87 f80
  have f90 := Fld.ext E87 f81
  have f91 := Fld.ext E87 f82
  have f92 := Fld.ext E87 f86
  have f93 := Fld.ext E87 f83
  have f94 := Fld.ext E87 f84
  have f95 := Fld.ext E87 f85
  have f96 : Fld Z h87 b87 "java/util/BitSet" "wordsInUse" "I" (.int (0 : Int32)) := D87 (Or.inl (Wk.w hw 61 rfl)) (ty := .int) (by decide)
  have f97 : Fld Z h87 b87 "java/util/BitSet" "sizeIsSticky" "Z" (.int (0 : Int32)) := D87 (Or.inl (Wk.w hw 63 rfl)) (ty := .boolean) (by decide)
  have f98 : Fld Z h87 b87 "java/util/BitSet" "words" "[J" .null := D87 (Or.inl (Wk.w hw 74 rfl)) (ty := (.array .long)) (by decide)
  refine Wk.dup k X87 d_Builder_init_41 rfl 42 rfl ?_
  refine Wk.callI k X87 [] [(.ref b87), (.ref o)] d_Builder_init_42 (rm_bs l Z a0 hw b87 _ _ _ h87 n0 sz87 A87 f98 f97 f96 g87) e87 rfl (Wk.w hw 56 rfl) (Wk.w hw 57 rfl) (Wk.w hw 55 rfl) (Wk.w hw 58 rfl) (by decide) rfl pd_BitSet_init rfl rfl (Nat.le_of_ble_eq_true rfl) (Nat.le_of_ble_eq_true rfl) (Nat.le_of_ble_eq_true rfl) (Nat.le_of_ble_eq_true rfl) 45 rfl fun T99 v99 L99 X99 hQ99 => ?_
  obtain ⟨rfl, N99q, K99⟩ := hQ99
  show Wk.Ends _ _ _ _ _ _ _ (mkF m 45 _ [(.ref b87), (.ref o)])
  have N99 := Fr.app N79 N99q
  have sz99 := Nat.le_trans sz87 K99.1
  have f100 := f89.keep K99
  have f101 := f90.keep K99 (ninS ne88 nin0)
  have f102 := f91.keep K99 (ninS ne88 nin0)
  have f103 := f92.keep K99 (ninS ne88 nin0)
  have f104 := f93.keep K99 (ninS ne88 nin0)
  have f105 := f94.keep K99 (ninS ne88 nin0)
  have f106 := f95.keep K99 (ninS ne88 nin0)
  refine Wk.putfield k X99 d_Builder_init_45 (host := "") (Or.inl (Wk.w hw 77 rfl)) Via.refl (rfl : T99.heap = T99.heap) f104 f100 (Or.inr ⟨(Wk.w hw 78 rfl), rfl, rfl⟩) (Wk.w hw 1 rfl) (ty := (.object "java/util/BitSet")) (by decide) rfl rfl 48 rfl fun T107 h107 X107 e107 W107 => ?_
  have sz107 : n0 ≤ h107.size := by rw [W107.size]; exact sz99
  have N108 := Fr.snoc X107 N99 g0
  have f109 := Exa.wr W107 f100
  have f110 := Fld.other W107 f101 (Or.inr (slot_ne (Or.inr (Wk.w hw 34 rfl)) (Or.inr (Wk.w hw 78 rfl)) (by decide) (t := (.object "java/util/List")) (t' := (.object "java/util/BitSet")) (by decide) (by decide)))
  have f111 := Fld.other W107 f102 (Or.inr (slot_ne (Or.inr (Wk.w hw 52 rfl)) (Or.inr (Wk.w hw 78 rfl)) (by decide) (t := (.object "java/util/Map")) (t' := (.object "java/util/BitSet")) (by decide) (by decide)))
  have f112 := Fld.other W107 f103 (Or.inr (slot_ne (Or.inr (Wk.w hw 76 rfl)) (Or.inr (Wk.w hw 78 rfl)) (by decide) (t := (.object "java/util/BitSet")) (t' := (.object "java/util/BitSet")) (by decide) (by decide)))
  have f113 := Fld.other W107 f105 (Or.inr (slot_ne (Or.inr (Wk.w hw 94 rfl)) (Or.inr (Wk.w hw 78 rfl)) (by decide) (t := (.object "com/example/acomp/acomp/Transitions")) (t' := (.object "java/util/BitSet")) (by decide) (by decide)))
  have f114 := Fld.other W107 f106 (Or.inr (slot_ne (Or.inl (Wk.w hw 101 rfl)) (Or.inr (Wk.w hw 78 rfl)) (by decide) (t := .int) (t' := (.object "java/util/BitSet")) (by decide) (by decide)))
  have f115 := Fld.same W107 f104
  refine Wk.aload_n k X107 d_Builder_init_48 rfl rfl 49 rfl ?_
  refine Wk.new k X107 d_Builder_init_49 (Wk.w hw 79 rfl) (Wk.w hw 80 rfl) (Wk.w hw 81 rfl) e107 (by decide) (by decide) 52 rfl fun T116 h116 b116 q116 X116 e116 E116 A116 D116 => ?_
  have g116 : n0 ≤ b116 := by rw [q116]; exact sz107
  have ne117 : o ≠ b116 := by rw [q116]; exact Nat.ne_of_lt f109.lt
  have sz116 := Nat.le_trans sz107 E116.1
  have f118 := Exa.ext E116 f109
  have f119 := Fld.ext E116 f110
  have f120 := Fld.ext E116 f111
  have f121 := Fld.ext E116 f112
  have f122 := Fld.ext E116 f115
  have f123 := Fld.ext E116 f113
  have f124 := Fld.ext E116 f114
  have f125 : Fld Z h116 b116 "com/example/acomp/acomp/Transitions" "sources" "[I" .null := D116 (Or.inl (Wk.w hw 88 rfl)) (ty := (.array .int)) (by decide)
  have f126 : Fld Z h116 b116 "com/example/acomp/acomp/Transitions" "letters" "[I" .null := D116 (Or.inl (Wk.w hw 90 rfl)) (ty := (.array .int)) (by decide)
  have f127 : Fld Z h116 b116 "com/example/acomp/acomp/Transitions" "targets" "[I" .null := D116 (Or.inl (Wk.w hw 92 rfl)) (ty := (.array .int)) (by decide)
  refine Wk.dup k X116 d_Builder_init_52 rfl 53 rfl ?_
  refine Wk.callI k X116 [] [(.ref b116), (.ref o)] d_Builder_init_53 (rm_tr l Z a0 hw b116 _ _ _ h116 n0 sz116 A116 f125 f126 f127 g116) e116 rfl (Wk.w hw 82 rfl) (Wk.w hw 83 rfl) (Wk.w hw 81 rfl) (Wk.w hw 84 rfl) (by decide) rfl pd_Transitions_init rfl rfl (Nat.le_of_ble_eq_true rfl) (Nat.le_of_ble_eq_true rfl) (Nat.le_of_ble_eq_true rfl) (Nat.le_of_ble_eq_true rfl) 56 rfl fun T128 v128 L128 X128 hQ128 => ?_
  obtain ⟨rfl, N128q, K128⟩ := hQ128
  show Wk.Ends _ _ _ _ _ _ _ (mkF m 56 _ [(.ref b116), (.ref o)])
  have N128 := Fr.app N108 N128q
  have sz128 := Nat.le_trans sz116 K128.1
  have f129 := f118.keep K128
  have f130 := f119.keep K128 (ninS ne117 nin0)
  have f131 := f120.keep K128 (ninS ne117 nin0)
  have f132 := f121.keep K128 (ninS ne117 nin0)
  have f133 := f122.keep K128 (ninS ne117 nin0)
  have f134 := f123.keep K128 (ninS ne117 nin0)
  have f135 := f124.keep K128 (ninS ne117 nin0)
  refine Wk.putfield k X128 d_Builder_init_56 (host := "") (Or.inl (Wk.w hw 93 rfl)) Via.refl (rfl : T128.heap = T128.heap) f134 f129 (Or.inr ⟨(Wk.w hw 94 rfl), rfl, rfl⟩) (Wk.w hw 1 rfl) (ty := (.object "com/example/acomp/acomp/Transitions")) (by decide) rfl rfl 59 rfl fun T136 h136 X136 e136 W136 => ?_
  have sz136 : n0 ≤ h136.size := by rw [W136.size]; exact sz128
  have N137 := Fr.snoc X136 N128 g0
  have f138 := Exa.wr W136 f129
  have f139 := Fld.other W136 f130 (Or.inr (slot_ne (Or.inr (Wk.w hw 34 rfl)) (Or.inr (Wk.w hw 94 rfl)) (by decide) (t := (.object "java/util/List")) (t' := (.object "com/example/acomp/acomp/Transitions")) (by decide) (by decide)))
  have f140 := Fld.other W136 f131 (Or.inr (slot_ne (Or.inr (Wk.w hw 52 rfl)) (Or.inr (Wk.w hw 94 rfl)) (by decide) (t := (.object "java/util/Map")) (t' := (.object "com/example/acomp/acomp/Transitions")) (by decide) (by decide)))
  have f141 := Fld.other W136 f132 (Or.inr (slot_ne (Or.inr (Wk.w hw 76 rfl)) (Or.inr (Wk.w hw 94 rfl)) (by decide) (t := (.object "java/util/BitSet")) (t' := (.object "com/example/acomp/acomp/Transitions")) (by decide) (by decide)))
  have f142 := Fld.other W136 f133 (Or.inr (slot_ne (Or.inr (Wk.w hw 78 rfl)) (Or.inr (Wk.w hw 94 rfl)) (by decide) (t := (.object "java/util/BitSet")) (t' := (.object "com/example/acomp/acomp/Transitions")) (by decide) (by decide)))
  have f143 := Fld.other W136 f135 (Or.inr (slot_ne (Or.inl (Wk.w hw 101 rfl)) (Or.inr (Wk.w hw 94 rfl)) (by decide) (t := .int) (t' := (.object "com/example/acomp/acomp/Transitions")) (by decide) (by decide)))
  have f144 := Fld.same W136 f134
  refine Wk.ret_void k X136 rfl d_Builder_init_59 (by decide) (by decide) ?_
  rw [e136]
  exact ⟨rfl, N137, f138, f143⟩
theorem d_Builder_stateCount_0 : decode prog_6_method_9_code 0 = .ok (.aload_n 0, 1) := by decide +kernel
theorem d_Builder_stateCount_1 : decode prog_6_method_9_code 1 = .ok (.getfield 93, 3) := by decide +kernel
theorem d_Builder_stateCount_4 : decode prog_6_method_9_code 4 = .ok (.ireturn, 1) := by decide +kernel
theorem pn_Builder_stateCount : plainFor (⟨"com/example/acomp/acomp/BuchiAutomaton$Builder", "stateCount", "()I"⟩ : MethodName) = true := plainFor_of_name (by first | (simp [plainName, overriddenIn, x]; done) | decide +kernel)
theorem pd_Builder_stateCount : parseMethodDescriptor "()I" = some ⟨[], (some .int)⟩ := by decide +kernel
theorem ef_sc (m : MethodId) (o : Addr) : entryFrame m #[(.ref o)] 1 = mkF m 0 #[.val (.ref o)] [] := by first | (simp [entryFrame, mkF, argsToLocals, Value.category]; done) | rfl
set_option maxRecDepth 65536 in
set_option maxHeartbeats 40000000 in
theorem rm_sc (l : Launch) (Z : State) (a0 : Array Value) (hw : ∀ d ∈ tables_1, d.before a0 Z = true) (o : Addr) (w : Int32) (h0 : Heap) (F0 : Fld Z h0 o "com/example/acomp/acomp/BuchiAutomaton$Builder" "stateCount" "I" (.int w)) : Wk.Met l (⟨"com/example/acomp/acomp/BuchiAutomaton$Builder", "stateCount", "()I"⟩ : MethodName) prog_6_method_9_code 1 (some .int) ({ frames := 0, cells := 0, slots := 0, locals := 0 } : Room) #[(.ref o)] Z h0 (fun r h L => r = some (.int w) ∧ h = h0 ∧ L = []) [] := by
  refine Wk.enter pn_Builder_stateCount (fun p e s m below meth c T0 k X0 e0 => ?_)
  refine (Wk.Ends.cast (ef_sc m o) ?_)
  refine Wk.aload_n k X0 d_Builder_stateCount_0 rfl rfl 1 rfl ?_
  refine Wk.getfield k X0 d_Builder_stateCount_1 (host := "") (Or.inl (Wk.w hw 100 rfl)) Via.refl e0 F0 4 rfl fun T1 X1 e1 => ?_
  exact Wk.ret_int k X1 rfl d_Builder_stateCount_4 (by decide) (by decide) ⟨rfl, e1, rfl⟩
theorem d_Builder_addState_0 : decode prog_6_method_4_code 0 = .ok (.aload_n 0, 1) := by decide +kernel
theorem d_Builder_addState_1 : decode prog_6_method_4_code 1 = .ok (.getfield 93, 3) := by decide +kernel
theorem d_Builder_addState_4 : decode prog_6_method_4_code 4 = .ok (.ldc 99, 2) := by decide +kernel
theorem d_Builder_addState_6 : decode prog_6_method_4_code 6 = .ok (.if_icmp .ne 13, 3) := by decide +kernel
theorem d_Builder_addState_19 : decode prog_6_method_4_code 19 = .ok (.aload_n 0, 1) := by decide +kernel
theorem d_Builder_addState_20 : decode prog_6_method_4_code 20 = .ok (.dup, 1) := by decide +kernel
theorem d_Builder_addState_21 : decode prog_6_method_4_code 21 = .ok (.getfield 93, 3) := by decide +kernel
theorem d_Builder_addState_24 : decode prog_6_method_4_code 24 = .ok (.dup_x1, 1) := by decide +kernel
theorem d_Builder_addState_25 : decode prog_6_method_4_code 25 = .ok (.iconst 1, 1) := by decide +kernel
theorem d_Builder_addState_26 : decode prog_6_method_4_code 26 = .ok (.iadd, 1) := by decide +kernel
theorem d_Builder_addState_27 : decode prog_6_method_4_code 27 = .ok (.putfield 93, 3) := by decide +kernel
theorem d_Builder_addState_30 : decode prog_6_method_4_code 30 = .ok (.ireturn, 1) := by decide +kernel
theorem pn_Builder_addState : plainFor (⟨"com/example/acomp/acomp/BuchiAutomaton$Builder", "addState", "()I"⟩ : MethodName) = true := plainFor_of_name (by first | (simp [plainName, overriddenIn, x]; done) | decide +kernel)
theorem pd_Builder_addState : parseMethodDescriptor "()I" = some ⟨[], (some .int)⟩ := by decide +kernel
theorem ef_as (m : MethodId) (o : Addr) : entryFrame m #[(.ref o)] 1 = mkF m 0 #[.val (.ref o)] [] := by first | (simp [entryFrame, mkF, argsToLocals, Value.category]; done) | rfl
set_option maxRecDepth 65536 in
set_option maxHeartbeats 40000000 in
theorem rm_as (l : Launch) (Z : State) (a0 : Array Value) (hw : ∀ d ∈ tables_1, d.before a0 Z = true) (o : Addr) (w : Int32) (h0 : Heap) (n0 : Nat) (hmx : ¬ w = (2147483647 : Int32)) (E0 : Exa Z h0 o "com/example/acomp/acomp/BuchiAutomaton$Builder") (F0 : Fld Z h0 o "com/example/acomp/acomp/BuchiAutomaton$Builder" "stateCount" "I" (.int w)) (g0 : n0 ≤ o) : Wk.Met l (⟨"com/example/acomp/acomp/BuchiAutomaton$Builder", "addState", "()I"⟩ : MethodName) prog_6_method_4_code 1 (some .int) ({ frames := 0, cells := 0, slots := 0, locals := 0 } : Room) #[(.ref o)] Z h0 (fun r h L => r = some (.int w) ∧ Fr n0 L ∧ Exa Z h o "com/example/acomp/acomp/BuchiAutomaton$Builder" ∧ Fld Z h o "com/example/acomp/acomp/BuchiAutomaton$Builder" "stateCount" "I" (.int (w + (1 : Int32)))) [] := by
  refine Wk.enter pn_Builder_addState (fun p e s m below meth c T0 k X0 e0 => ?_)
  refine (Wk.Ends.cast (ef_as m o) ?_)
  refine Wk.aload_n k X0 d_Builder_addState_0 rfl rfl 1 rfl ?_
  refine Wk.getfield k X0 d_Builder_addState_1 (host := "") (Or.inl (Wk.w hw 100 rfl)) Via.refl e0 F0 4 rfl fun T1 X1 e1 => ?_
  refine Wk.ldc k X1 (z := (2147483647 : Int32)) d_Builder_addState_4 (Wk.w hw 107 rfl) 6 rfl ?_
  refine Wk.icmp_ne k X1 d_Builder_addState_6 (by decide) 19 9 (by decide) rfl (fun hc6 => ?_) (fun hc6 => ?_)
  · refine Wk.aload_n k X1 d_Builder_addState_19 rfl rfl 20 rfl ?_
    refine Wk.dup k X1 d_Builder_addState_20 rfl 21 rfl ?_
    refine Wk.getfield k X1 d_Builder_addState_21 (host := "") (Or.inl (Wk.w hw 100 rfl)) Via.refl e1 F0 24 rfl fun T2 X2 e2 => ?_
    refine Wk.dup_x1 k X2 d_Builder_addState_24 rfl rfl 25 rfl ?_
    refine Wk.iconst k X2 d_Builder_addState_25 (1 : Int32) rfl 26 rfl ?_
    refine Wk.iadd k X2 d_Builder_addState_26 27 rfl ?_
    refine Wk.putfield k X2 d_Builder_addState_27 (host := "") (Or.inl (Wk.w hw 100 rfl)) Via.refl e2 F0 E0 (Or.inl (Wk.w hw 101 rfl)) (Wk.w hw 1 rfl) (ty := .int) (by decide) rfl rfl 30 rfl fun T3 h3 X3 e3 W3 => ?_
    have N4 := Fr.snoc X3 (Fr.nil n0) g0
    have f5 := Exa.wr W3 E0
    have f6 := Fld.same W3 F0
    refine Wk.ret_int k X3 rfl d_Builder_addState_30 (by decide) (by decide) ?_
    rw [e3]
    exact ⟨rfl, N4, f5, f6⟩
  · exact absurd hc6 hmx
theorem pn_BuilderAddStatePinLaw_law : plainFor x = true := plainFor_of_name (by first | (simp [plainName, overriddenIn, x]; done) | decide +kernel)
set_option maxRecDepth 65536 in
set_option maxHeartbeats 40000000 in
theorem law_4_0 {p : Program} {l : Launch} {e : Env} {s : State} {m : MethodId} {args : Array Value} {below : List Frame} {meth : Method} {c : Code} {Z : State} {a0 : Array Value} {h0 : Heap} {n0 : Nat} {T0 : State} (hw : ∀ d ∈ tables_1, d.before a0 Z = true) (k : Wk.K p s m meth c Z x code maxLocals ret) (X0 : Stand p l e room_1 s m args below meth c T0 [] 0 0) (p0 : Int32) (sa : Addr) (e0 : T0.heap = h0) (Z0 : n0 ≤ h0.size) (N0 : Fr n0 []) (O0 : Old Z n0 h0) (S0 : Sta Z Z.heap "java/util/ArrayList" "DEFAULTCAPACITY_EMPTY_ELEMENTDATA" "[Ljava/lang/Object;" (.ref sa)) : Wk.Ends p e s below room_1 (fun v _ L => v = some (.int 1) ∧ Fr n0 L) T0 (mkF m 4 #[.val (.int p0), .val (.int (0 : Int32)), .unset, .unset, .unset] []) := by
  refine Wk.new k X0 at_4 (Wk.w hw 0 rfl) (Wk.w hw 1 rfl) (Wk.w hw 2 rfl) e0 (by decide) (by decide) 7 rfl fun T1 h1 b1 q1 X1 e1 E1 A1 D1 => ?_
  have g1 : n0 ≤ b1 := by rw [q1]; exact Z0
  have sz1 := Nat.le_trans Z0 E1.1
  have f2 : Fld Z h1 b1 "com/example/acomp/acomp/BuchiAutomaton$Builder" "letters" "Ljava/util/List;" .null := D1 (Or.inr (Wk.w hw 34 rfl)) (ty := (.object "java/util/List")) (by decide)
  have f3 : Fld Z h1 b1 "com/example/acomp/acomp/BuchiAutomaton$Builder" "letterNumbers" "Ljava/util/Map;" .null := D1 (Or.inr (Wk.w hw 52 rfl)) (ty := (.object "java/util/Map")) (by decide)
  have f4 : Fld Z h1 b1 "com/example/acomp/acomp/BuchiAutomaton$Builder" "initialStates" "Ljava/util/BitSet;" .null := D1 (Or.inr (Wk.w hw 76 rfl)) (ty := (.object "java/util/BitSet")) (by decide)
  have f5 : Fld Z h1 b1 "com/example/acomp/acomp/BuchiAutomaton$Builder" "acceptingStates" "Ljava/util/BitSet;" .null := D1 (Or.inr (Wk.w hw 78 rfl)) (ty := (.object "java/util/BitSet")) (by decide)
  have f6 : Fld Z h1 b1 "com/example/acomp/acomp/BuchiAutomaton$Builder" "transitions" "Lcom/example/acomp/acomp/Transitions;" .null := D1 (Or.inr (Wk.w hw 94 rfl)) (ty := (.object "com/example/acomp/acomp/Transitions")) (by decide)
  have f7 : Fld Z h1 b1 "com/example/acomp/acomp/BuchiAutomaton$Builder" "stateCount" "I" (.int (0 : Int32)) := D1 (Or.inl (Wk.w hw 101 rfl)) (ty := .int) (by decide)
  refine Wk.dup k X1 at_7 rfl 8 rfl ?_
  refine Wk.callI k X1 [] [(.ref b1)] at_8 (rm_bb l Z a0 hw b1 sa _ _ _ _ _ _ h1 n0 sz1 A1 f2 f3 f4 f5 f6 f7 g1 (O0.ext E1) S0) e1 rfl (Wk.w hw 3 rfl) (Wk.w hw 4 rfl) (Wk.w hw 2 rfl) (Wk.w hw 5 rfl) (by decide) rfl pd_Builder_init rfl rfl (Nat.le_of_ble_eq_true rfl) (Nat.le_of_ble_eq_true rfl) (Nat.le_of_ble_eq_true rfl) (Nat.le_of_ble_eq_true rfl) 11 rfl fun T8 v8 L8 X8 hQ8 => ?_
  obtain ⟨rfl, N8q, E8, F8⟩ := hQ8
  show Wk.Ends _ _ _ _ _ _ _ (mkF m 11 _ [(.ref b1)])
  have N8 := Fr.app N0 N8q
  refine Wk.astore_n k X8 at_11 rfl #[.val (.int p0), .val (.int (0 : Int32)), .val (.ref b1), .unset, .unset] rfl 12 rfl ?_
  refine Wk.aload_n k X8 at_12 rfl rfl 13 rfl ?_
  refine Wk.callV k X8 [] [] at_13 (rm_sc l Z a0 hw b1 _ _ F8) (rfl : T8.heap = T8.heap) E8 (Wk.w hw 95 rfl) (Wk.w hw 96 rfl) (Wk.w hw 98 rfl) (Wk.w hw 97 rfl) (Wk.w hw 2 rfl) (Wk.w hw 99 rfl) (by decide) rfl pd_Builder_stateCount rfl rfl (Nat.le_of_ble_eq_true rfl) (Nat.le_of_ble_eq_true rfl) (Nat.le_of_ble_eq_true rfl) (Nat.le_of_ble_eq_true rfl) 16 rfl fun T9 v9 L9 X9 hQ9 => ?_
  obtain ⟨rfl, e9, rfl⟩ := hQ9
  rw [List.append_nil] at X9
  show Wk.Ends _ _ _ _ _ _ _ (mkF m 16 _ [(.int (0 : Int32))])
  refine Wk.if_ne k X9 at_16 (by decide) 23 19 (by decide) rfl (fun hc16 => ?_) (fun hc16 => ?_)
  · first | exact absurd hc16 (by decide) | exact absurd (by decide) hc16
  · refine Wk.iconst k X9 at_19 (1 : Int32) rfl 20 rfl ?_
    refine Wk.goto k X9 at_20 (by decide) 24 (by decide) ?_
    refine Wk.istore_n k X9 at_24 #[.val (.int p0), .val (.int (0 : Int32)), .val (.ref b1), .val (.int (1 : Int32)), .unset] rfl 25 rfl ?_
    refine Wk.iload_n k X9 at_25 rfl 26 rfl ?_
    refine Wk.iconst k X9 at_26 (1 : Int32) rfl 27 rfl ?_
    refine Wk.icmp_lt k X9 at_27 (by decide) 51 30 (by decide) rfl (fun hc27 => ?_) (fun hc27 => ?_)
    · refine Wk.iload_n k X9 at_51 rfl 52 rfl ?_
      refine Wk.iconst k X9 at_52 (2 : Int32) rfl 53 rfl ?_
      refine Wk.icmp_lt k X9 at_53 (by decide) 78 56 (by decide) rfl (fun hc53 => ?_) (fun hc53 => ?_)
      · refine Wk.iload_n k X9 at_78 rfl 79 rfl ?_
        refine Wk.iconst k X9 at_79 (3 : Int32) rfl 80 rfl ?_
        refine Wk.icmp_lt k X9 at_80 (by decide) 105 83 (by decide) rfl (fun hc80 => ?_) (fun hc80 => ?_)
        · refine Wk.iload_n k X9 at_105 rfl 106 rfl ?_
          refine Wk.if_eq k X9 at_106 (by decide) 121 109 (by decide) rfl (fun hc106 => ?_) (fun hc106 => ?_)
          · first | exact absurd hc106 (by decide) | exact absurd (by decide) hc106
          · refine Wk.aload_n k X9 at_109 rfl rfl 110 rfl ?_
            refine Wk.callV k X9 [] [] at_110 (rm_sc l Z a0 hw b1 _ _ F8) e9 E8 (Wk.w hw 95 rfl) (Wk.w hw 96 rfl) (Wk.w hw 98 rfl) (Wk.w hw 97 rfl) (Wk.w hw 2 rfl) (Wk.w hw 99 rfl) (by decide) rfl pd_Builder_stateCount rfl rfl (Nat.le_of_ble_eq_true rfl) (Nat.le_of_ble_eq_true rfl) (Nat.le_of_ble_eq_true rfl) (Nat.le_of_ble_eq_true rfl) 113 rfl fun T10 v10 L10 X10 hQ10 => ?_
            obtain ⟨rfl, e10, rfl⟩ := hQ10
            rw [List.append_nil] at X10
            show Wk.Ends _ _ _ _ _ _ _ (mkF m 113 _ [(.int (0 : Int32))])
            refine Wk.iload_n k X10 at_113 rfl 114 rfl ?_
            refine Wk.icmp_ne k X10 at_114 (by decide) 121 117 (by decide) rfl (fun hc114 => ?_) (fun hc114 => ?_)
            · first | exact absurd hc114 (by decide) | exact absurd (by decide) hc114
            · refine Wk.iconst k X10 at_117 (1 : Int32) rfl 118 rfl ?_
              refine Wk.goto k X10 at_118 (by decide) 122 (by decide) ?_
              exact Wk.ret_bool k X10 rfl at_122 (by decide) (by decide) (by decide) ⟨rfl, N8⟩
        · first | exact absurd hc80 (by decide) | exact absurd (by decide) hc80
      · first | exact absurd hc53 (by decide) | exact absurd (by decide) hc53
    · first | exact absurd hc27 (by decide) | exact absurd (by decide) hc27
set_option maxRecDepth 65536 in
set_option maxHeartbeats 40000000 in
theorem law_4_1 {p : Program} {l : Launch} {e : Env} {s : State} {m : MethodId} {args : Array Value} {below : List Frame} {meth : Method} {c : Code} {Z : State} {a0 : Array Value} {h0 : Heap} {n0 : Nat} {T0 : State} (hw : ∀ d ∈ tables_1, d.before a0 Z = true) (k : Wk.K p s m meth c Z x code maxLocals ret) (X0 : Stand p l e room_1 s m args below meth c T0 [] 0 0) (p0 : Int32) (sa : Addr) (e0 : T0.heap = h0) (Z0 : n0 ≤ h0.size) (N0 : Fr n0 []) (O0 : Old Z n0 h0) (S0 : Sta Z Z.heap "java/util/ArrayList" "DEFAULTCAPACITY_EMPTY_ELEMENTDATA" "[Ljava/lang/Object;" (.ref sa)) : Wk.Ends p e s below room_1 (fun v _ L => v = some (.int 1) ∧ Fr n0 L) T0 (mkF m 4 #[.val (.int p0), .val (.int (1 : Int32)), .unset, .unset, .unset] []) := by
  refine Wk.new k X0 at_4 (Wk.w hw 0 rfl) (Wk.w hw 1 rfl) (Wk.w hw 2 rfl) e0 (by decide) (by decide) 7 rfl fun T1 h1 b1 q1 X1 e1 E1 A1 D1 => ?_
  have g1 : n0 ≤ b1 := by rw [q1]; exact Z0
  have sz1 := Nat.le_trans Z0 E1.1
  have f2 : Fld Z h1 b1 "com/example/acomp/acomp/BuchiAutomaton$Builder" "letters" "Ljava/util/List;" .null := D1 (Or.inr (Wk.w hw 34 rfl)) (ty := (.object "java/util/List")) (by decide)
  have f3 : Fld Z h1 b1 "com/example/acomp/acomp/BuchiAutomaton$Builder" "letterNumbers" "Ljava/util/Map;" .null := D1 (Or.inr (Wk.w hw 52 rfl)) (ty := (.object "java/util/Map")) (by decide)
  have f4 : Fld Z h1 b1 "com/example/acomp/acomp/BuchiAutomaton$Builder" "initialStates" "Ljava/util/BitSet;" .null := D1 (Or.inr (Wk.w hw 76 rfl)) (ty := (.object "java/util/BitSet")) (by decide)
  have f5 : Fld Z h1 b1 "com/example/acomp/acomp/BuchiAutomaton$Builder" "acceptingStates" "Ljava/util/BitSet;" .null := D1 (Or.inr (Wk.w hw 78 rfl)) (ty := (.object "java/util/BitSet")) (by decide)
  have f6 : Fld Z h1 b1 "com/example/acomp/acomp/BuchiAutomaton$Builder" "transitions" "Lcom/example/acomp/acomp/Transitions;" .null := D1 (Or.inr (Wk.w hw 94 rfl)) (ty := (.object "com/example/acomp/acomp/Transitions")) (by decide)
  have f7 : Fld Z h1 b1 "com/example/acomp/acomp/BuchiAutomaton$Builder" "stateCount" "I" (.int (0 : Int32)) := D1 (Or.inl (Wk.w hw 101 rfl)) (ty := .int) (by decide)
  refine Wk.dup k X1 at_7 rfl 8 rfl ?_
  refine Wk.callI k X1 [] [(.ref b1)] at_8 (rm_bb l Z a0 hw b1 sa _ _ _ _ _ _ h1 n0 sz1 A1 f2 f3 f4 f5 f6 f7 g1 (O0.ext E1) S0) e1 rfl (Wk.w hw 3 rfl) (Wk.w hw 4 rfl) (Wk.w hw 2 rfl) (Wk.w hw 5 rfl) (by decide) rfl pd_Builder_init rfl rfl (Nat.le_of_ble_eq_true rfl) (Nat.le_of_ble_eq_true rfl) (Nat.le_of_ble_eq_true rfl) (Nat.le_of_ble_eq_true rfl) 11 rfl fun T8 v8 L8 X8 hQ8 => ?_
  obtain ⟨rfl, N8q, E8, F8⟩ := hQ8
  show Wk.Ends _ _ _ _ _ _ _ (mkF m 11 _ [(.ref b1)])
  have N8 := Fr.app N0 N8q
  refine Wk.astore_n k X8 at_11 rfl #[.val (.int p0), .val (.int (1 : Int32)), .val (.ref b1), .unset, .unset] rfl 12 rfl ?_
  refine Wk.aload_n k X8 at_12 rfl rfl 13 rfl ?_
  refine Wk.callV k X8 [] [] at_13 (rm_sc l Z a0 hw b1 _ _ F8) (rfl : T8.heap = T8.heap) E8 (Wk.w hw 95 rfl) (Wk.w hw 96 rfl) (Wk.w hw 98 rfl) (Wk.w hw 97 rfl) (Wk.w hw 2 rfl) (Wk.w hw 99 rfl) (by decide) rfl pd_Builder_stateCount rfl rfl (Nat.le_of_ble_eq_true rfl) (Nat.le_of_ble_eq_true rfl) (Nat.le_of_ble_eq_true rfl) (Nat.le_of_ble_eq_true rfl) 16 rfl fun T9 v9 L9 X9 hQ9 => ?_
  obtain ⟨rfl, e9, rfl⟩ := hQ9
  rw [List.append_nil] at X9
  show Wk.Ends _ _ _ _ _ _ _ (mkF m 16 _ [(.int (0 : Int32))])
  refine Wk.if_ne k X9 at_16 (by decide) 23 19 (by decide) rfl (fun hc16 => ?_) (fun hc16 => ?_)
  · first | exact absurd hc16 (by decide) | exact absurd (by decide) hc16
  · refine Wk.iconst k X9 at_19 (1 : Int32) rfl 20 rfl ?_
    refine Wk.goto k X9 at_20 (by decide) 24 (by decide) ?_
    refine Wk.istore_n k X9 at_24 #[.val (.int p0), .val (.int (1 : Int32)), .val (.ref b1), .val (.int (1 : Int32)), .unset] rfl 25 rfl ?_
    refine Wk.iload_n k X9 at_25 rfl 26 rfl ?_
    refine Wk.iconst k X9 at_26 (1 : Int32) rfl 27 rfl ?_
    refine Wk.icmp_lt k X9 at_27 (by decide) 51 30 (by decide) rfl (fun hc27 => ?_) (fun hc27 => ?_)
    · first | exact absurd hc27 (by decide) | exact absurd (by decide) hc27
    · refine Wk.aload_n k X9 at_30 rfl rfl 31 rfl ?_
      refine Wk.callV k X9 [] [] at_31 (rm_as l Z a0 hw b1 _ T8.heap n0 (by decide) E8 F8 g1) e9 E8 (Wk.w hw 102 rfl) (Wk.w hw 103 rfl) (Wk.w hw 105 rfl) (Wk.w hw 104 rfl) (Wk.w hw 2 rfl) (Wk.w hw 106 rfl) (by decide) rfl pd_Builder_addState rfl rfl (Nat.le_of_ble_eq_true rfl) (Nat.le_of_ble_eq_true rfl) (Nat.le_of_ble_eq_true rfl) (Nat.le_of_ble_eq_true rfl) 34 rfl fun T10 v10 L10 X10 hQ10 => ?_
      obtain ⟨rfl, N10q, E10, F10⟩ := hQ10
      show Wk.Ends _ _ _ _ _ _ _ (mkF m 34 _ [(.int (0 : Int32))])
      have N10 := Fr.app N8 N10q
      refine Wk.istore k X10 at_34 #[.val (.int p0), .val (.int (1 : Int32)), .val (.ref b1), .val (.int (1 : Int32)), .val (.int (0 : Int32))] rfl 36 rfl ?_
      refine Wk.iload_n k X10 at_36 rfl 37 rfl ?_
      refine Wk.if_eq k X10 at_37 (by decide) 49 40 (by decide) rfl (fun hc37 => ?_) (fun hc37 => ?_)
      · first | exact absurd hc37 (by decide) | exact absurd (by decide) hc37
      · refine Wk.iload k X10 at_40 rfl 42 rfl ?_
        refine Wk.if_ne k X10 at_42 (by decide) 49 45 (by decide) rfl (fun hc42 => ?_) (fun hc42 => ?_)
        · first | exact absurd hc42 (by decide) | exact absurd (by decide) hc42
        · refine Wk.iconst k X10 at_45 (1 : Int32) rfl 46 rfl ?_
          refine Wk.goto k X10 at_46 (by decide) 50 (by decide) ?_
          refine Wk.istore_n k X10 at_50 #[.val (.int p0), .val (.int (1 : Int32)), .val (.ref b1), .val (.int (1 : Int32)), .val (.int (0 : Int32))] rfl 51 rfl ?_
          refine Wk.iload_n k X10 at_51 rfl 52 rfl ?_
          refine Wk.iconst k X10 at_52 (2 : Int32) rfl 53 rfl ?_
          refine Wk.icmp_lt k X10 at_53 (by decide) 78 56 (by decide) rfl (fun hc53 => ?_) (fun hc53 => ?_)
          · refine Wk.iload_n k X10 at_78 rfl 79 rfl ?_
            refine Wk.iconst k X10 at_79 (3 : Int32) rfl 80 rfl ?_
            refine Wk.icmp_lt k X10 at_80 (by decide) 105 83 (by decide) rfl (fun hc80 => ?_) (fun hc80 => ?_)
            · refine Wk.iload_n k X10 at_105 rfl 106 rfl ?_
              refine Wk.if_eq k X10 at_106 (by decide) 121 109 (by decide) rfl (fun hc106 => ?_) (fun hc106 => ?_)
              · first | exact absurd hc106 (by decide) | exact absurd (by decide) hc106
              · refine Wk.aload_n k X10 at_109 rfl rfl 110 rfl ?_
                refine Wk.callV k X10 [] [] at_110 (rm_sc l Z a0 hw b1 _ _ F10) (rfl : T10.heap = T10.heap) E10 (Wk.w hw 95 rfl) (Wk.w hw 96 rfl) (Wk.w hw 98 rfl) (Wk.w hw 97 rfl) (Wk.w hw 2 rfl) (Wk.w hw 99 rfl) (by decide) rfl pd_Builder_stateCount rfl rfl (Nat.le_of_ble_eq_true rfl) (Nat.le_of_ble_eq_true rfl) (Nat.le_of_ble_eq_true rfl) (Nat.le_of_ble_eq_true rfl) 113 rfl fun T11 v11 L11 X11 hQ11 => ?_
                obtain ⟨rfl, e11, rfl⟩ := hQ11
                rw [List.append_nil] at X11
                show Wk.Ends _ _ _ _ _ _ _ (mkF m 113 _ [(.int ((0 : Int32) + (1 : Int32)))])
                refine Wk.iload_n k X11 at_113 rfl 114 rfl ?_
                refine Wk.icmp_ne k X11 at_114 (by decide) 121 117 (by decide) rfl (fun hc114 => ?_) (fun hc114 => ?_)
                · first | exact absurd hc114 (by decide) | exact absurd (by decide) hc114
                · refine Wk.iconst k X11 at_117 (1 : Int32) rfl 118 rfl ?_
                  refine Wk.goto k X11 at_118 (by decide) 122 (by decide) ?_
                  exact Wk.ret_bool k X11 rfl at_122 (by decide) (by decide) (by decide) ⟨rfl, N10⟩
            · first | exact absurd hc80 (by decide) | exact absurd (by decide) hc80
          · first | exact absurd hc53 (by decide) | exact absurd (by decide) hc53
set_option maxRecDepth 65536 in
set_option maxHeartbeats 40000000 in
theorem law_4_2 {p : Program} {l : Launch} {e : Env} {s : State} {m : MethodId} {args : Array Value} {below : List Frame} {meth : Method} {c : Code} {Z : State} {a0 : Array Value} {h0 : Heap} {n0 : Nat} {T0 : State} (hw : ∀ d ∈ tables_1, d.before a0 Z = true) (k : Wk.K p s m meth c Z x code maxLocals ret) (X0 : Stand p l e room_1 s m args below meth c T0 [] 0 0) (p0 : Int32) (sa : Addr) (e0 : T0.heap = h0) (Z0 : n0 ≤ h0.size) (N0 : Fr n0 []) (O0 : Old Z n0 h0) (S0 : Sta Z Z.heap "java/util/ArrayList" "DEFAULTCAPACITY_EMPTY_ELEMENTDATA" "[Ljava/lang/Object;" (.ref sa)) : Wk.Ends p e s below room_1 (fun v _ L => v = some (.int 1) ∧ Fr n0 L) T0 (mkF m 4 #[.val (.int p0), .val (.int (2 : Int32)), .unset, .unset, .unset] []) := by
  refine Wk.new k X0 at_4 (Wk.w hw 0 rfl) (Wk.w hw 1 rfl) (Wk.w hw 2 rfl) e0 (by decide) (by decide) 7 rfl fun T1 h1 b1 q1 X1 e1 E1 A1 D1 => ?_
  have g1 : n0 ≤ b1 := by rw [q1]; exact Z0
  have sz1 := Nat.le_trans Z0 E1.1
  have f2 : Fld Z h1 b1 "com/example/acomp/acomp/BuchiAutomaton$Builder" "letters" "Ljava/util/List;" .null := D1 (Or.inr (Wk.w hw 34 rfl)) (ty := (.object "java/util/List")) (by decide)
  have f3 : Fld Z h1 b1 "com/example/acomp/acomp/BuchiAutomaton$Builder" "letterNumbers" "Ljava/util/Map;" .null := D1 (Or.inr (Wk.w hw 52 rfl)) (ty := (.object "java/util/Map")) (by decide)
  have f4 : Fld Z h1 b1 "com/example/acomp/acomp/BuchiAutomaton$Builder" "initialStates" "Ljava/util/BitSet;" .null := D1 (Or.inr (Wk.w hw 76 rfl)) (ty := (.object "java/util/BitSet")) (by decide)
  have f5 : Fld Z h1 b1 "com/example/acomp/acomp/BuchiAutomaton$Builder" "acceptingStates" "Ljava/util/BitSet;" .null := D1 (Or.inr (Wk.w hw 78 rfl)) (ty := (.object "java/util/BitSet")) (by decide)
  have f6 : Fld Z h1 b1 "com/example/acomp/acomp/BuchiAutomaton$Builder" "transitions" "Lcom/example/acomp/acomp/Transitions;" .null := D1 (Or.inr (Wk.w hw 94 rfl)) (ty := (.object "com/example/acomp/acomp/Transitions")) (by decide)
  have f7 : Fld Z h1 b1 "com/example/acomp/acomp/BuchiAutomaton$Builder" "stateCount" "I" (.int (0 : Int32)) := D1 (Or.inl (Wk.w hw 101 rfl)) (ty := .int) (by decide)
  refine Wk.dup k X1 at_7 rfl 8 rfl ?_
  refine Wk.callI k X1 [] [(.ref b1)] at_8 (rm_bb l Z a0 hw b1 sa _ _ _ _ _ _ h1 n0 sz1 A1 f2 f3 f4 f5 f6 f7 g1 (O0.ext E1) S0) e1 rfl (Wk.w hw 3 rfl) (Wk.w hw 4 rfl) (Wk.w hw 2 rfl) (Wk.w hw 5 rfl) (by decide) rfl pd_Builder_init rfl rfl (Nat.le_of_ble_eq_true rfl) (Nat.le_of_ble_eq_true rfl) (Nat.le_of_ble_eq_true rfl) (Nat.le_of_ble_eq_true rfl) 11 rfl fun T8 v8 L8 X8 hQ8 => ?_
  obtain ⟨rfl, N8q, E8, F8⟩ := hQ8
  show Wk.Ends _ _ _ _ _ _ _ (mkF m 11 _ [(.ref b1)])
  have N8 := Fr.app N0 N8q
  refine Wk.astore_n k X8 at_11 rfl #[.val (.int p0), .val (.int (2 : Int32)), .val (.ref b1), .unset, .unset] rfl 12 rfl ?_
  refine Wk.aload_n k X8 at_12 rfl rfl 13 rfl ?_
  refine Wk.callV k X8 [] [] at_13 (rm_sc l Z a0 hw b1 _ _ F8) (rfl : T8.heap = T8.heap) E8 (Wk.w hw 95 rfl) (Wk.w hw 96 rfl) (Wk.w hw 98 rfl) (Wk.w hw 97 rfl) (Wk.w hw 2 rfl) (Wk.w hw 99 rfl) (by decide) rfl pd_Builder_stateCount rfl rfl (Nat.le_of_ble_eq_true rfl) (Nat.le_of_ble_eq_true rfl) (Nat.le_of_ble_eq_true rfl) (Nat.le_of_ble_eq_true rfl) 16 rfl fun T9 v9 L9 X9 hQ9 => ?_
  obtain ⟨rfl, e9, rfl⟩ := hQ9
  rw [List.append_nil] at X9
  show Wk.Ends _ _ _ _ _ _ _ (mkF m 16 _ [(.int (0 : Int32))])
  refine Wk.if_ne k X9 at_16 (by decide) 23 19 (by decide) rfl (fun hc16 => ?_) (fun hc16 => ?_)
  · first | exact absurd hc16 (by decide) | exact absurd (by decide) hc16
  · refine Wk.iconst k X9 at_19 (1 : Int32) rfl 20 rfl ?_
    refine Wk.goto k X9 at_20 (by decide) 24 (by decide) ?_
    refine Wk.istore_n k X9 at_24 #[.val (.int p0), .val (.int (2 : Int32)), .val (.ref b1), .val (.int (1 : Int32)), .unset] rfl 25 rfl ?_
    refine Wk.iload_n k X9 at_25 rfl 26 rfl ?_
    refine Wk.iconst k X9 at_26 (1 : Int32) rfl 27 rfl ?_
    refine Wk.icmp_lt k X9 at_27 (by decide) 51 30 (by decide) rfl (fun hc27 => ?_) (fun hc27 => ?_)
    · first | exact absurd hc27 (by decide) | exact absurd (by decide) hc27
    · refine Wk.aload_n k X9 at_30 rfl rfl 31 rfl ?_
      refine Wk.callV k X9 [] [] at_31 (rm_as l Z a0 hw b1 _ T8.heap n0 (by decide) E8 F8 g1) e9 E8 (Wk.w hw 102 rfl) (Wk.w hw 103 rfl) (Wk.w hw 105 rfl) (Wk.w hw 104 rfl) (Wk.w hw 2 rfl) (Wk.w hw 106 rfl) (by decide) rfl pd_Builder_addState rfl rfl (Nat.le_of_ble_eq_true rfl) (Nat.le_of_ble_eq_true rfl) (Nat.le_of_ble_eq_true rfl) (Nat.le_of_ble_eq_true rfl) 34 rfl fun T10 v10 L10 X10 hQ10 => ?_
      obtain ⟨rfl, N10q, E10, F10⟩ := hQ10
      show Wk.Ends _ _ _ _ _ _ _ (mkF m 34 _ [(.int (0 : Int32))])
      have N10 := Fr.app N8 N10q
      refine Wk.istore k X10 at_34 #[.val (.int p0), .val (.int (2 : Int32)), .val (.ref b1), .val (.int (1 : Int32)), .val (.int (0 : Int32))] rfl 36 rfl ?_
      refine Wk.iload_n k X10 at_36 rfl 37 rfl ?_
      refine Wk.if_eq k X10 at_37 (by decide) 49 40 (by decide) rfl (fun hc37 => ?_) (fun hc37 => ?_)
      · first | exact absurd hc37 (by decide) | exact absurd (by decide) hc37
      · refine Wk.iload k X10 at_40 rfl 42 rfl ?_
        refine Wk.if_ne k X10 at_42 (by decide) 49 45 (by decide) rfl (fun hc42 => ?_) (fun hc42 => ?_)
        · first | exact absurd hc42 (by decide) | exact absurd (by decide) hc42
        · refine Wk.iconst k X10 at_45 (1 : Int32) rfl 46 rfl ?_
          refine Wk.goto k X10 at_46 (by decide) 50 (by decide) ?_
          refine Wk.istore_n k X10 at_50 #[.val (.int p0), .val (.int (2 : Int32)), .val (.ref b1), .val (.int (1 : Int32)), .val (.int (0 : Int32))] rfl 51 rfl ?_
          refine Wk.iload_n k X10 at_51 rfl 52 rfl ?_
          refine Wk.iconst k X10 at_52 (2 : Int32) rfl 53 rfl ?_
          refine Wk.icmp_lt k X10 at_53 (by decide) 78 56 (by decide) rfl (fun hc53 => ?_) (fun hc53 => ?_)
          · first | exact absurd hc53 (by decide) | exact absurd (by decide) hc53
          · refine Wk.aload_n k X10 at_56 rfl rfl 57 rfl ?_
            refine Wk.callV k X10 [] [] at_57 (rm_as l Z a0 hw b1 _ T10.heap n0 (by decide) E10 F10 g1) (rfl : T10.heap = T10.heap) E10 (Wk.w hw 102 rfl) (Wk.w hw 103 rfl) (Wk.w hw 105 rfl) (Wk.w hw 104 rfl) (Wk.w hw 2 rfl) (Wk.w hw 106 rfl) (by decide) rfl pd_Builder_addState rfl rfl (Nat.le_of_ble_eq_true rfl) (Nat.le_of_ble_eq_true rfl) (Nat.le_of_ble_eq_true rfl) (Nat.le_of_ble_eq_true rfl) 60 rfl fun T11 v11 L11 X11 hQ11 => ?_
            obtain ⟨rfl, N11q, E11, F11⟩ := hQ11
            show Wk.Ends _ _ _ _ _ _ _ (mkF m 60 _ [(.int ((0 : Int32) + (1 : Int32)))])
            have N11 := Fr.app N10 N11q
            refine Wk.istore k X11 at_60 #[.val (.int p0), .val (.int (2 : Int32)), .val (.ref b1), .val (.int (1 : Int32)), .val (.int ((0 : Int32) + (1 : Int32)))] rfl 62 rfl ?_
            refine Wk.iload_n k X11 at_62 rfl 63 rfl ?_
            refine Wk.if_eq k X11 at_63 (by decide) 76 66 (by decide) rfl (fun hc63 => ?_) (fun hc63 => ?_)
            · first | exact absurd hc63 (by decide) | exact absurd (by decide) hc63
            · refine Wk.iload k X11 at_66 rfl 68 rfl ?_
              refine Wk.iconst k X11 at_68 (1 : Int32) rfl 69 rfl ?_
              refine Wk.icmp_ne k X11 at_69 (by decide) 76 72 (by decide) rfl (fun hc69 => ?_) (fun hc69 => ?_)
              · first | exact absurd hc69 (by decide) | exact absurd (by decide) hc69
              · refine Wk.iconst k X11 at_72 (1 : Int32) rfl 73 rfl ?_
                refine Wk.goto k X11 at_73 (by decide) 77 (by decide) ?_
                refine Wk.istore_n k X11 at_77 #[.val (.int p0), .val (.int (2 : Int32)), .val (.ref b1), .val (.int (1 : Int32)), .val (.int ((0 : Int32) + (1 : Int32)))] rfl 78 rfl ?_
                refine Wk.iload_n k X11 at_78 rfl 79 rfl ?_
                refine Wk.iconst k X11 at_79 (3 : Int32) rfl 80 rfl ?_
                refine Wk.icmp_lt k X11 at_80 (by decide) 105 83 (by decide) rfl (fun hc80 => ?_) (fun hc80 => ?_)
                · refine Wk.iload_n k X11 at_105 rfl 106 rfl ?_
                  refine Wk.if_eq k X11 at_106 (by decide) 121 109 (by decide) rfl (fun hc106 => ?_) (fun hc106 => ?_)
                  · first | exact absurd hc106 (by decide) | exact absurd (by decide) hc106
                  · refine Wk.aload_n k X11 at_109 rfl rfl 110 rfl ?_
                    refine Wk.callV k X11 [] [] at_110 (rm_sc l Z a0 hw b1 _ _ F11) (rfl : T11.heap = T11.heap) E11 (Wk.w hw 95 rfl) (Wk.w hw 96 rfl) (Wk.w hw 98 rfl) (Wk.w hw 97 rfl) (Wk.w hw 2 rfl) (Wk.w hw 99 rfl) (by decide) rfl pd_Builder_stateCount rfl rfl (Nat.le_of_ble_eq_true rfl) (Nat.le_of_ble_eq_true rfl) (Nat.le_of_ble_eq_true rfl) (Nat.le_of_ble_eq_true rfl) 113 rfl fun T12 v12 L12 X12 hQ12 => ?_
                    obtain ⟨rfl, e12, rfl⟩ := hQ12
                    rw [List.append_nil] at X12
                    show Wk.Ends _ _ _ _ _ _ _ (mkF m 113 _ [(.int (((0 : Int32) + (1 : Int32)) + (1 : Int32)))])
                    refine Wk.iload_n k X12 at_113 rfl 114 rfl ?_
                    refine Wk.icmp_ne k X12 at_114 (by decide) 121 117 (by decide) rfl (fun hc114 => ?_) (fun hc114 => ?_)
                    · first | exact absurd hc114 (by decide) | exact absurd (by decide) hc114
                    · refine Wk.iconst k X12 at_117 (1 : Int32) rfl 118 rfl ?_
                      refine Wk.goto k X12 at_118 (by decide) 122 (by decide) ?_
                      exact Wk.ret_bool k X12 rfl at_122 (by decide) (by decide) (by decide) ⟨rfl, N11⟩
                · first | exact absurd hc80 (by decide) | exact absurd (by decide) hc80
set_option maxRecDepth 65536 in
set_option maxHeartbeats 40000000 in
theorem law_4_3 {p : Program} {l : Launch} {e : Env} {s : State} {m : MethodId} {args : Array Value} {below : List Frame} {meth : Method} {c : Code} {Z : State} {a0 : Array Value} {h0 : Heap} {n0 : Nat} {T0 : State} (hw : ∀ d ∈ tables_1, d.before a0 Z = true) (k : Wk.K p s m meth c Z x code maxLocals ret) (X0 : Stand p l e room_1 s m args below meth c T0 [] 0 0) (p0 : Int32) (sa : Addr) (e0 : T0.heap = h0) (Z0 : n0 ≤ h0.size) (N0 : Fr n0 []) (O0 : Old Z n0 h0) (S0 : Sta Z Z.heap "java/util/ArrayList" "DEFAULTCAPACITY_EMPTY_ELEMENTDATA" "[Ljava/lang/Object;" (.ref sa)) : Wk.Ends p e s below room_1 (fun v _ L => v = some (.int 1) ∧ Fr n0 L) T0 (mkF m 4 #[.val (.int p0), .val (.int (3 : Int32)), .unset, .unset, .unset] []) := by
  refine Wk.new k X0 at_4 (Wk.w hw 0 rfl) (Wk.w hw 1 rfl) (Wk.w hw 2 rfl) e0 (by decide) (by decide) 7 rfl fun T1 h1 b1 q1 X1 e1 E1 A1 D1 => ?_
  have g1 : n0 ≤ b1 := by rw [q1]; exact Z0
  have sz1 := Nat.le_trans Z0 E1.1
  have f2 : Fld Z h1 b1 "com/example/acomp/acomp/BuchiAutomaton$Builder" "letters" "Ljava/util/List;" .null := D1 (Or.inr (Wk.w hw 34 rfl)) (ty := (.object "java/util/List")) (by decide)
  have f3 : Fld Z h1 b1 "com/example/acomp/acomp/BuchiAutomaton$Builder" "letterNumbers" "Ljava/util/Map;" .null := D1 (Or.inr (Wk.w hw 52 rfl)) (ty := (.object "java/util/Map")) (by decide)
  have f4 : Fld Z h1 b1 "com/example/acomp/acomp/BuchiAutomaton$Builder" "initialStates" "Ljava/util/BitSet;" .null := D1 (Or.inr (Wk.w hw 76 rfl)) (ty := (.object "java/util/BitSet")) (by decide)
  have f5 : Fld Z h1 b1 "com/example/acomp/acomp/BuchiAutomaton$Builder" "acceptingStates" "Ljava/util/BitSet;" .null := D1 (Or.inr (Wk.w hw 78 rfl)) (ty := (.object "java/util/BitSet")) (by decide)
  have f6 : Fld Z h1 b1 "com/example/acomp/acomp/BuchiAutomaton$Builder" "transitions" "Lcom/example/acomp/acomp/Transitions;" .null := D1 (Or.inr (Wk.w hw 94 rfl)) (ty := (.object "com/example/acomp/acomp/Transitions")) (by decide)
  have f7 : Fld Z h1 b1 "com/example/acomp/acomp/BuchiAutomaton$Builder" "stateCount" "I" (.int (0 : Int32)) := D1 (Or.inl (Wk.w hw 101 rfl)) (ty := .int) (by decide)
  refine Wk.dup k X1 at_7 rfl 8 rfl ?_
  refine Wk.callI k X1 [] [(.ref b1)] at_8 (rm_bb l Z a0 hw b1 sa _ _ _ _ _ _ h1 n0 sz1 A1 f2 f3 f4 f5 f6 f7 g1 (O0.ext E1) S0) e1 rfl (Wk.w hw 3 rfl) (Wk.w hw 4 rfl) (Wk.w hw 2 rfl) (Wk.w hw 5 rfl) (by decide) rfl pd_Builder_init rfl rfl (Nat.le_of_ble_eq_true rfl) (Nat.le_of_ble_eq_true rfl) (Nat.le_of_ble_eq_true rfl) (Nat.le_of_ble_eq_true rfl) 11 rfl fun T8 v8 L8 X8 hQ8 => ?_
  obtain ⟨rfl, N8q, E8, F8⟩ := hQ8
  show Wk.Ends _ _ _ _ _ _ _ (mkF m 11 _ [(.ref b1)])
  have N8 := Fr.app N0 N8q
  refine Wk.astore_n k X8 at_11 rfl #[.val (.int p0), .val (.int (3 : Int32)), .val (.ref b1), .unset, .unset] rfl 12 rfl ?_
  refine Wk.aload_n k X8 at_12 rfl rfl 13 rfl ?_
  refine Wk.callV k X8 [] [] at_13 (rm_sc l Z a0 hw b1 _ _ F8) (rfl : T8.heap = T8.heap) E8 (Wk.w hw 95 rfl) (Wk.w hw 96 rfl) (Wk.w hw 98 rfl) (Wk.w hw 97 rfl) (Wk.w hw 2 rfl) (Wk.w hw 99 rfl) (by decide) rfl pd_Builder_stateCount rfl rfl (Nat.le_of_ble_eq_true rfl) (Nat.le_of_ble_eq_true rfl) (Nat.le_of_ble_eq_true rfl) (Nat.le_of_ble_eq_true rfl) 16 rfl fun T9 v9 L9 X9 hQ9 => ?_
  obtain ⟨rfl, e9, rfl⟩ := hQ9
  rw [List.append_nil] at X9
  show Wk.Ends _ _ _ _ _ _ _ (mkF m 16 _ [(.int (0 : Int32))])
  refine Wk.if_ne k X9 at_16 (by decide) 23 19 (by decide) rfl (fun hc16 => ?_) (fun hc16 => ?_)
  · first | exact absurd hc16 (by decide) | exact absurd (by decide) hc16
  · refine Wk.iconst k X9 at_19 (1 : Int32) rfl 20 rfl ?_
    refine Wk.goto k X9 at_20 (by decide) 24 (by decide) ?_
    refine Wk.istore_n k X9 at_24 #[.val (.int p0), .val (.int (3 : Int32)), .val (.ref b1), .val (.int (1 : Int32)), .unset] rfl 25 rfl ?_
    refine Wk.iload_n k X9 at_25 rfl 26 rfl ?_
    refine Wk.iconst k X9 at_26 (1 : Int32) rfl 27 rfl ?_
    refine Wk.icmp_lt k X9 at_27 (by decide) 51 30 (by decide) rfl (fun hc27 => ?_) (fun hc27 => ?_)
    · first | exact absurd hc27 (by decide) | exact absurd (by decide) hc27
    · refine Wk.aload_n k X9 at_30 rfl rfl 31 rfl ?_
      refine Wk.callV k X9 [] [] at_31 (rm_as l Z a0 hw b1 _ T8.heap n0 (by decide) E8 F8 g1) e9 E8 (Wk.w hw 102 rfl) (Wk.w hw 103 rfl) (Wk.w hw 105 rfl) (Wk.w hw 104 rfl) (Wk.w hw 2 rfl) (Wk.w hw 106 rfl) (by decide) rfl pd_Builder_addState rfl rfl (Nat.le_of_ble_eq_true rfl) (Nat.le_of_ble_eq_true rfl) (Nat.le_of_ble_eq_true rfl) (Nat.le_of_ble_eq_true rfl) 34 rfl fun T10 v10 L10 X10 hQ10 => ?_
      obtain ⟨rfl, N10q, E10, F10⟩ := hQ10
      show Wk.Ends _ _ _ _ _ _ _ (mkF m 34 _ [(.int (0 : Int32))])
      have N10 := Fr.app N8 N10q
      refine Wk.istore k X10 at_34 #[.val (.int p0), .val (.int (3 : Int32)), .val (.ref b1), .val (.int (1 : Int32)), .val (.int (0 : Int32))] rfl 36 rfl ?_
      refine Wk.iload_n k X10 at_36 rfl 37 rfl ?_
      refine Wk.if_eq k X10 at_37 (by decide) 49 40 (by decide) rfl (fun hc37 => ?_) (fun hc37 => ?_)
      · first | exact absurd hc37 (by decide) | exact absurd (by decide) hc37
      · refine Wk.iload k X10 at_40 rfl 42 rfl ?_
        refine Wk.if_ne k X10 at_42 (by decide) 49 45 (by decide) rfl (fun hc42 => ?_) (fun hc42 => ?_)
        · first | exact absurd hc42 (by decide) | exact absurd (by decide) hc42
        · refine Wk.iconst k X10 at_45 (1 : Int32) rfl 46 rfl ?_
          refine Wk.goto k X10 at_46 (by decide) 50 (by decide) ?_
          refine Wk.istore_n k X10 at_50 #[.val (.int p0), .val (.int (3 : Int32)), .val (.ref b1), .val (.int (1 : Int32)), .val (.int (0 : Int32))] rfl 51 rfl ?_
          refine Wk.iload_n k X10 at_51 rfl 52 rfl ?_
          refine Wk.iconst k X10 at_52 (2 : Int32) rfl 53 rfl ?_
          refine Wk.icmp_lt k X10 at_53 (by decide) 78 56 (by decide) rfl (fun hc53 => ?_) (fun hc53 => ?_)
          · first | exact absurd hc53 (by decide) | exact absurd (by decide) hc53
          · refine Wk.aload_n k X10 at_56 rfl rfl 57 rfl ?_
            refine Wk.callV k X10 [] [] at_57 (rm_as l Z a0 hw b1 _ T10.heap n0 (by decide) E10 F10 g1) (rfl : T10.heap = T10.heap) E10 (Wk.w hw 102 rfl) (Wk.w hw 103 rfl) (Wk.w hw 105 rfl) (Wk.w hw 104 rfl) (Wk.w hw 2 rfl) (Wk.w hw 106 rfl) (by decide) rfl pd_Builder_addState rfl rfl (Nat.le_of_ble_eq_true rfl) (Nat.le_of_ble_eq_true rfl) (Nat.le_of_ble_eq_true rfl) (Nat.le_of_ble_eq_true rfl) 60 rfl fun T11 v11 L11 X11 hQ11 => ?_
            obtain ⟨rfl, N11q, E11, F11⟩ := hQ11
            show Wk.Ends _ _ _ _ _ _ _ (mkF m 60 _ [(.int ((0 : Int32) + (1 : Int32)))])
            have N11 := Fr.app N10 N11q
            refine Wk.istore k X11 at_60 #[.val (.int p0), .val (.int (3 : Int32)), .val (.ref b1), .val (.int (1 : Int32)), .val (.int ((0 : Int32) + (1 : Int32)))] rfl 62 rfl ?_
            refine Wk.iload_n k X11 at_62 rfl 63 rfl ?_
            refine Wk.if_eq k X11 at_63 (by decide) 76 66 (by decide) rfl (fun hc63 => ?_) (fun hc63 => ?_)
            · first | exact absurd hc63 (by decide) | exact absurd (by decide) hc63
            · refine Wk.iload k X11 at_66 rfl 68 rfl ?_
              refine Wk.iconst k X11 at_68 (1 : Int32) rfl 69 rfl ?_
              refine Wk.icmp_ne k X11 at_69 (by decide) 76 72 (by decide) rfl (fun hc69 => ?_) (fun hc69 => ?_)
              · first | exact absurd hc69 (by decide) | exact absurd (by decide) hc69
              · refine Wk.iconst k X11 at_72 (1 : Int32) rfl 73 rfl ?_
                refine Wk.goto k X11 at_73 (by decide) 77 (by decide) ?_
                refine Wk.istore_n k X11 at_77 #[.val (.int p0), .val (.int (3 : Int32)), .val (.ref b1), .val (.int (1 : Int32)), .val (.int ((0 : Int32) + (1 : Int32)))] rfl 78 rfl ?_
                refine Wk.iload_n k X11 at_78 rfl 79 rfl ?_
                refine Wk.iconst k X11 at_79 (3 : Int32) rfl 80 rfl ?_
                refine Wk.icmp_lt k X11 at_80 (by decide) 105 83 (by decide) rfl (fun hc80 => ?_) (fun hc80 => ?_)
                · first | exact absurd hc80 (by decide) | exact absurd (by decide) hc80
                · refine Wk.aload_n k X11 at_83 rfl rfl 84 rfl ?_
                  refine Wk.callV k X11 [] [] at_84 (rm_as l Z a0 hw b1 _ T11.heap n0 (by decide) E11 F11 g1) (rfl : T11.heap = T11.heap) E11 (Wk.w hw 102 rfl) (Wk.w hw 103 rfl) (Wk.w hw 105 rfl) (Wk.w hw 104 rfl) (Wk.w hw 2 rfl) (Wk.w hw 106 rfl) (by decide) rfl pd_Builder_addState rfl rfl (Nat.le_of_ble_eq_true rfl) (Nat.le_of_ble_eq_true rfl) (Nat.le_of_ble_eq_true rfl) (Nat.le_of_ble_eq_true rfl) 87 rfl fun T12 v12 L12 X12 hQ12 => ?_
                  obtain ⟨rfl, N12q, E12, F12⟩ := hQ12
                  show Wk.Ends _ _ _ _ _ _ _ (mkF m 87 _ [(.int (((0 : Int32) + (1 : Int32)) + (1 : Int32)))])
                  have N12 := Fr.app N11 N12q
                  refine Wk.istore k X12 at_87 #[.val (.int p0), .val (.int (3 : Int32)), .val (.ref b1), .val (.int (1 : Int32)), .val (.int (((0 : Int32) + (1 : Int32)) + (1 : Int32)))] rfl 89 rfl ?_
                  refine Wk.iload_n k X12 at_89 rfl 90 rfl ?_
                  refine Wk.if_eq k X12 at_90 (by decide) 103 93 (by decide) rfl (fun hc90 => ?_) (fun hc90 => ?_)
                  · first | exact absurd hc90 (by decide) | exact absurd (by decide) hc90
                  · refine Wk.iload k X12 at_93 rfl 95 rfl ?_
                    refine Wk.iconst k X12 at_95 (2 : Int32) rfl 96 rfl ?_
                    refine Wk.icmp_ne k X12 at_96 (by decide) 103 99 (by decide) rfl (fun hc96 => ?_) (fun hc96 => ?_)
                    · first | exact absurd hc96 (by decide) | exact absurd (by decide) hc96
                    · refine Wk.iconst k X12 at_99 (1 : Int32) rfl 100 rfl ?_
                      refine Wk.goto k X12 at_100 (by decide) 104 (by decide) ?_
                      refine Wk.istore_n k X12 at_104 #[.val (.int p0), .val (.int (3 : Int32)), .val (.ref b1), .val (.int (1 : Int32)), .val (.int (((0 : Int32) + (1 : Int32)) + (1 : Int32)))] rfl 105 rfl ?_
                      refine Wk.iload_n k X12 at_105 rfl 106 rfl ?_
                      refine Wk.if_eq k X12 at_106 (by decide) 121 109 (by decide) rfl (fun hc106 => ?_) (fun hc106 => ?_)
                      · first | exact absurd hc106 (by decide) | exact absurd (by decide) hc106
                      · refine Wk.aload_n k X12 at_109 rfl rfl 110 rfl ?_
                        refine Wk.callV k X12 [] [] at_110 (rm_sc l Z a0 hw b1 _ _ F12) (rfl : T12.heap = T12.heap) E12 (Wk.w hw 95 rfl) (Wk.w hw 96 rfl) (Wk.w hw 98 rfl) (Wk.w hw 97 rfl) (Wk.w hw 2 rfl) (Wk.w hw 99 rfl) (by decide) rfl pd_Builder_stateCount rfl rfl (Nat.le_of_ble_eq_true rfl) (Nat.le_of_ble_eq_true rfl) (Nat.le_of_ble_eq_true rfl) (Nat.le_of_ble_eq_true rfl) 113 rfl fun T13 v13 L13 X13 hQ13 => ?_
                        obtain ⟨rfl, e13, rfl⟩ := hQ13
                        rw [List.append_nil] at X13
                        show Wk.Ends _ _ _ _ _ _ _ (mkF m 113 _ [(.int ((((0 : Int32) + (1 : Int32)) + (1 : Int32)) + (1 : Int32)))])
                        refine Wk.iload_n k X13 at_113 rfl 114 rfl ?_
                        refine Wk.icmp_ne k X13 at_114 (by decide) 121 117 (by decide) rfl (fun hc114 => ?_) (fun hc114 => ?_)
                        · first | exact absurd hc114 (by decide) | exact absurd (by decide) hc114
                        · refine Wk.iconst k X13 at_117 (1 : Int32) rfl 118 rfl ?_
                          refine Wk.goto k X13 at_118 (by decide) 122 (by decide) ?_
                          exact Wk.ret_bool k X13 rfl at_122 (by decide) (by decide) (by decide) ⟨rfl, N12⟩
theorem own_k4 (x : Int32) : x &&& (3 : Int32) = 0 ∨ x &&& (3 : Int32) = 1 ∨ x &&& (3 : Int32) = 2 ∨ x &&& (3 : Int32) = 3 := by
  have h := c_mask x 3 2 (by decide) (by decide)
  have h2 : (x &&& (3 : Int32)).toInt = 0 ∨ (x &&& (3 : Int32)).toInt = 1 ∨ (x &&& (3 : Int32)).toInt = 2 ∨ (x &&& (3 : Int32)).toInt = 3 := by omega
  rcases h2 with q | q | q | q
  · exact Or.inl (Int32.toInt_inj.mp q)
  · exact Or.inr (Or.inl (Int32.toInt_inj.mp q))
  · exact Or.inr (Or.inr (Or.inl (Int32.toInt_inj.mp q)))
  · exact Or.inr (Or.inr (Or.inr (Int32.toInt_inj.mp q)))
theorem ef_law (m : MethodId) (p0 : Int32) : entryFrame m #[(.int p0)] maxLocals = mkF m 0 #[.val (.int p0), .unset, .unset, .unset, .unset] [] := by first | (simp [entryFrame, mkF, argsToLocals, Value.category, maxLocals]; done) | rfl
set_option maxRecDepth 65536 in
set_option maxHeartbeats 40000000 in
theorem rm0 (l : Launch) (Z : State) (a0 : Array Value) (hw : ∀ d ∈ tables_1, d.before a0 Z = true) (ws : List Jvm.Cond) (p0 : Int32) (h0 : Heap) (n0 : Nat) (Z0 : n0 ≤ h0.size) (hx0 : Old Z n0 h0 ∧ ∃ sa : Addr, Sta Z Z.heap "java/util/ArrayList" "DEFAULTCAPACITY_EMPTY_ELEMENTDATA" "[Ljava/lang/Object;" (.ref sa)) : Wk.Met l x code maxLocals ret room_1 #[(.int p0)] Z h0 (fun v _ L => v = some (.int 1) ∧ Fr n0 L) ws := by
  obtain ⟨O0, sa, S0⟩ := hx0
  refine Wk.enter pn_BuilderAddStatePinLaw_law (fun p e s m below meth c T0 k X0 e0 => ?_)
  refine (Wk.Ends.cast (ef_law m p0) ?_)
  refine Wk.iload_n k X0 at_0 rfl 1 rfl ?_
  refine Wk.iconst k X0 at_1 (3 : Int32) rfl 2 rfl ?_
  refine Wk.iand k X0 at_2 3 rfl ?_
  refine Wk.istore_n k X0 at_3 #[.val (.int p0), .val (.int (p0 &&& (3 : Int32))), .unset, .unset, .unset] rfl 4 rfl ?_
  rcases own_k4 p0 with h | h | h | h <;> rw [h]
  · exact law_4_0 hw k X0 p0 sa e0 Z0 (Fr.nil _) O0 S0
  · exact law_4_1 hw k X0 p0 sa e0 Z0 (Fr.nil _) O0 S0
  · exact law_4_2 hw k X0 p0 sa e0 Z0 (Fr.nil _) O0 S0
  · exact law_4_3 hw k X0 p0 sa e0 Z0 (Fr.nil _) O0 S0
set_option maxRecDepth 65536 in
set_option maxHeartbeats 40000000 in
theorem comes_1 {Post : Tables → Env → Array Value → State → Outcome → State → Prop} (hpost : ∀ tb e args s v u, (limb_1_1.after args s (.returned v) u = true ∧ limb_1_2.after args s (.returned v) u = true) → FrameEnd s (.returned v) u (Jvm.fieldLocs frame_1_writes args s ++ Jvm.arrayLocs frame_1_arrays args s ++ Jvm.staticLocs frame_1_statics s) 32 512 → Post tb e args s (.returned v) u) :
    ArmFor flags0 classFile x code maxLocals ret World_1 tables_1 room_1 Calls_1 rest_1 Pre_1 Post := by
  intro l hfl _ _ p e ha hc hk s m args below hf hA hF happ hP
  obtain ⟨hcalls, hrest, hpre⟩ := hP
  obtain ⟨-, -, -, hnamed, -, -, -, hat⟩ := (Spec.applies_iff hf).mp happ
  obtain ⟨hg, hn⟩ := and_e (Cond.before_iff.mp (show (Jvm.Cond.and given_1 narrow_1).before args s = true from hpre))
  obtain ⟨gc, g0⟩ := and_e hg
  have q0 := g0
  obtain ⟨w0, rfl⟩ : ∃ w0 : Value, args = #[w0] := by
    have hs : args.size = 1 := by simpa [Cond.value, given_1] using gc
    obtain ⟨L⟩ := args
    match L, hs with
    | [w0], _ => exact ⟨w0, rfl⟩
  have hw := fun d (hd : d ∈ tables_1) => atoms_spec (ws := Jvm.Cond.code x code maxLocals ret :: tables_1) hat d (List.mem_cons_of_mem _ hd)
  have hfit : Fit s := fun {y c} hc i hi => by
    obtain ⟨ha, rfl⟩ := Array.getElem?_eq_some_iff.mp hc
    have q := List.all_eq_true.mp ((Array.all_eq_true_iff_forall_mem.mp hF) _ (Array.getElem_mem ha)) i (List.mem_range.mpr hi)
    simpa [Array.getElem?_eq_getElem hi] using q
  obtain ⟨i0, ei0⟩ := is_v q0
  obtain rfl : w0 = (.int i0) := Option.some.inj ei0
  obtain ⟨hsets, hown0⟩ := atoms_of _ (rest_1_c_eq ▸ (show rest_1_c.before _ s = true from hrest))
  have hx0 : Old s s.heap.size s.heap ∧ ∃ sa : Addr, Sta s s.heap "java/util/ArrayList" "DEFAULTCAPACITY_EMPTY_ELEMENTDATA" "[Ljava/lang/Object;" (.ref sa) := by
    refine ⟨Old.start s, ?_⟩
    obtain ⟨sa, ea⟩ := exa_v (Cond.before_iff.mp (hsets _ (List.mem_of_getElem? (i := 7) rfl)))
    exact ⟨sa, Sta.start ea (Or.inr ⟨(Wk.w hw 11 rfl), hsets _ (List.mem_of_getElem? (i := 2) rfl)⟩)⟩
  obtain ⟨n, o, h1, h2, h3, _, L, rfl, ⟨rfl, N⟩, hq⟩ := rm0 l s _ hw tables_1 i0 s.heap s.heap.size (Nat.le_refl _) hx0 p e ha hc hk s m _ below hf ((Spec.applies_iff_loose hf).mp happ).1 ⟨rfl, State.Warmed39.refl s, rfl⟩ trivial
  exact ⟨n, _, h1, h2, h3, hpost _ _ _ _ _ _ ⟨Cond.after_iff.mpr rfl, Cond.after_iff.mpr (eq_i res_at (Term.int_eval (1)) rfl)⟩ ⟨hq.1, hq.2.1, (hq.2.2.sift fun y hy => Or.inr (N y hy)).mono (by decide) (by decide)⟩⟩
theorem main_1_1 : Claimed_1_1 := comes_1 fun _ _ _ _ _ _ h hF => ⟨h.1, hF⟩
theorem main_1_2 : Claimed_1_2 := comes_1 fun _ _ _ _ _ _ h hF => ⟨h.2, hF⟩
end Jvm.Pilot.@@N@@
namespace Jvm.Pilot.@@N@@
open Jvm Jvm.ClassFile Sem Op Lib Jvm.Free Jvm.Stand Jvm.Pilot.@@N@@.Jvm.D
/-! MADE BY PROGRAM (witnessworld.py) out of the Statement's table words and the real class files: 25 classes; the members and pool entries that the words name. The judged class is class 1, her method 1. -/
namespace start1
open Jvm.ClassFile
def u (s : String) : CpInfo := .utf8 (stringToUtf16 s)
/-- a pool by its gaps: so many unusable entries, then the entry; so many at the end -/
def gap : Nat → List CpInfo → List CpInfo
  | 0, r => r
  | n + 1, r => .unusable :: gap n r
def poolList (es : List (Nat × CpInfo)) (last : Nat) : List CpInfo := es.foldr (fun e r => gap e.1 (e.2 :: r)) (gap last [])
def pool (es : List (Nat × CpInfo)) (last : Nat) : Array CpInfo := ⟨poolList es last⟩
def fileOf (pool : Array CpInfo) (this : Nat) (attrs : Array Attribute := #[]) (ms : Array MethodInfo := #[]) (fl : Nat := 33) (sup : Nat := 0) (ifs : Array Nat := #[]) (fds : Array FieldInfo := #[]) : ClassFile where
  minorVersion := 0
  majorVersion := 65
  constantPool := pool
  accessFlags := fl
  thisClass := this
  superClass := sup
  interfaces := ifs
  fields := fds
  methods := ms
  attributes := attrs
def plain (name : String) (sup : Option ClassId) : Class where
  name := name
  kind := .ordinary
  loader := none
  accessFlags := 33
  super := sup
  interfaces := #[]
  cf := none
  fields := #[]
  methods := #[]
  instanceTypes := #[]
  staticTypes := #[]
  resolved := #[]
  callSites := []
  init := .initialized
  statics := none
  mirror := none

def pool0 : Array CpInfo := pool [(5, u "<init>"), (0, u "()V"), (1, .class_ 10), (1, u "java/lang/Object")] 113

def k0c0 : Code := { maxStack := 0, maxLocals := 1, code := object_method_1_code, exceptionTable := #[], attributes := #[] }
def k0m0 : Method := { name := "<init>", desc := "()V", sig := { parameters := [], returnType := none }, accessFlags := 1, code := some k0c0 }
/-- java/lang/Object -/
def k0 : Class := { plain "java/lang/Object" none with
  accessFlags := 33
  interfaces := #[]
  cf := some (fileOf pool0 8 #[] #[{ accessFlags := 1, nameIndex := 5, descriptorIndex := 6, attributes := #[] }] 33 0 #[] #[])
  fields := #[]
  methods := #[k0m0]
  instanceTypes := #[]
  staticTypes := #[]
  resolved := Array.replicate 124 none
  statics := none }

def pool1 : Array CpInfo := pool [(2, .class_ 4), (0, .nameAndType 5 6), (0, u "java/lang/Object"), (0, u "<init>"), (0, u "()V"), (0, .class_ 8), (0, u "com/example/acomp/acomp/BuchiAutomaton$Builder"), (0, .methodref 7 3), (0, .methodref 7 11), (0, .nameAndType 12 13), (0, u "stateCount"), (0, u "()I"), (0, .methodref 7 15), (0, .nameAndType 16 13), (0, u "addState"), (0, .class_ 18), (0, u "com/example/acomp/acomp/BuilderAddStatePinLaw"), (2, u "law"), (0, u "(I)Z")] 7

def k1m0 : Method := { name := "<init>", desc := "()V", sig := { parameters := [], returnType := none }, accessFlags := 2, code := none }
def k1c1 : Code := { maxStack := 2, maxLocals := 5, code := code, exceptionTable := #[], attributes := #[] }
def k1m1 : Method := { name := "law", desc := "(I)Z", sig := { parameters := [.int], returnType := some .boolean }, accessFlags := 9, code := some k1c1 }
/-- com/example/acomp/acomp/BuilderAddStatePinLaw -/
def k1 : Class := { plain "com/example/acomp/acomp/BuilderAddStatePinLaw" (some 0) with
  accessFlags := 49
  interfaces := #[]
  cf := some (fileOf pool1 17 #[] #[{ accessFlags := 2, nameIndex := 5, descriptorIndex := 6, attributes := #[] }, { accessFlags := 9, nameIndex := 21, descriptorIndex := 22, attributes := #[] }] 49 2 #[] #[])
  fields := #[]
  methods := #[k1m0, k1m1]
  instanceTypes := #[]
  staticTypes := #[]
  resolved := Array.replicate 30 none
  statics := none }

def pool2 : Array CpInfo := pool [(1, .class_ 2), (0, u "com/example/acomp/acomp/BuchiAutomaton"), (0, .methodref 4 5), (0, .class_ 6), (0, .nameAndType 7 8), (0, u "java/lang/Object"), (0, u "<init>"), (0, u "()V"), (0, .class_ 10), (0, u "java/util/ArrayList"), (0, .methodref 9 5), (0, .fieldref 13 14), (0, .class_ 15), (0, .nameAndType 16 17), (0, u "com/example/acomp/acomp/BuchiAutomaton$Builder"), (0, u "letters"), (0, u "Ljava/util/List;"), (0, .class_ 19), (0, u "java/util/HashMap"), (0, .methodref 18 5), (0, .fieldref 13 22), (0, .nameAndType 23 24), (0, u "letterNumbers"), (0, u "Ljava/util/Map;"), (0, .class_ 26), (0, u "java/util/BitSet"), (0, .methodref 25 5), (0, .fieldref 13 29), (0, .nameAndType 30 31), (0, u "initialStates"), (0, u "Ljava/util/BitSet;"), (0, .fieldref 13 33), (0, .nameAndType 34 31), (0, u "acceptingStates"), (0, .class_ 36), (0, u "com/example/acomp/acomp/Transitions"), (0, .methodref 35 5), (0, .fieldref 13 39), (0, .nameAndType 40 41), (0, u "transitions"), (0, u "Lcom/example/acomp/acomp/Transitions;"), (9, u "()I"), (20, u "propositions"), (20, .fieldref 13 94), (0, .nameAndType 95 96), (0, u "stateCount"), (0, u "I"), (2, .integer 2147483647), (60, u "addState")] 46

def k2c0 : Code := { maxStack := 3, maxLocals := 1, code := prog_6_method_1_code, exceptionTable := #[], attributes := #[] }
def k2m0 : Method := { name := "<init>", desc := "()V", sig := { parameters := [], returnType := none }, accessFlags := 1, code := some k2c0 }
def k2c1 : Code := { maxStack := 4, maxLocals := 1, code := prog_6_method_4_code, exceptionTable := #[], attributes := #[] }
def k2m1 : Method := { name := "addState", desc := "()I", sig := { parameters := [], returnType := some .int }, accessFlags := 1, code := some k2c1 }
def k2c2 : Code := { maxStack := 1, maxLocals := 1, code := prog_6_method_9_code, exceptionTable := #[], attributes := #[] }
def k2m2 : Method := { name := "stateCount", desc := "()I", sig := { parameters := [], returnType := some .int }, accessFlags := 1, code := some k2c2 }
/-- com/example/acomp/acomp/BuchiAutomaton$Builder -/
def k2 : Class := { plain "com/example/acomp/acomp/BuchiAutomaton$Builder" (some 0) with
  accessFlags := 33
  interfaces := #[]
  cf := some (fileOf pool2 13 #[.nestHost 1] #[{ accessFlags := 1, nameIndex := 7, descriptorIndex := 8, attributes := #[] }, { accessFlags := 1, nameIndex := 160, descriptorIndex := 51, attributes := #[] }, { accessFlags := 1, nameIndex := 95, descriptorIndex := 51, attributes := #[] }] 33 4 #[] #[{ accessFlags := 18, nameIndex := 16, descriptorIndex := 17, attributes := #[] }, { accessFlags := 18, nameIndex := 23, descriptorIndex := 24, attributes := #[] }, { accessFlags := 2, nameIndex := 72, descriptorIndex := 17, attributes := #[] }, { accessFlags := 2, nameIndex := 95, descriptorIndex := 96, attributes := #[] }, { accessFlags := 18, nameIndex := 30, descriptorIndex := 31, attributes := #[] }, { accessFlags := 18, nameIndex := 34, descriptorIndex := 31, attributes := #[] }, { accessFlags := 18, nameIndex := 40, descriptorIndex := 41, attributes := #[] }])
  fields := #[{ name := "letters", type := (.object "java/util/List"), accessFlags := 18, slot := 0, constantValue := 0 }, { name := "letterNumbers", type := (.object "java/util/Map"), accessFlags := 18, slot := 1, constantValue := 0 }, { name := "propositions", type := (.object "java/util/List"), accessFlags := 2, slot := 2, constantValue := 0 }, { name := "stateCount", type := .int, accessFlags := 2, slot := 3, constantValue := 0 }, { name := "initialStates", type := (.object "java/util/BitSet"), accessFlags := 18, slot := 4, constantValue := 0 }, { name := "acceptingStates", type := (.object "java/util/BitSet"), accessFlags := 18, slot := 5, constantValue := 0 }, { name := "transitions", type := (.object "com/example/acomp/acomp/Transitions"), accessFlags := 18, slot := 6, constantValue := 0 }]
  methods := #[k2m0, k2m1, k2m2]
  instanceTypes := #[(.object "java/util/List"), (.object "java/util/Map"), (.object "java/util/List"), .int, (.object "java/util/BitSet"), (.object "java/util/BitSet"), (.object "com/example/acomp/acomp/Transitions")]
  staticTypes := #[]
  resolved := Array.replicate 207 none
  statics := none }

def pool3 : Array CpInfo := pool [(8, .class_ 10), (1, u "java/lang/Iterable"), (24, .class_ 36), (0, u "java/lang/Object")] 25

/-- java/lang/Iterable -/
def k3 : Class := { plain "java/lang/Iterable" (some 0) with
  accessFlags := 1537
  interfaces := #[]
  cf := some (fileOf pool3 8 #[] #[] 1537 35 #[] #[])
  fields := #[]
  methods := #[]
  instanceTypes := #[]
  staticTypes := #[]
  resolved := Array.replicate 62 none
  statics := none }

def pool4 : Array CpInfo := pool [(10, .class_ 12), (1, u "java/util/Collection"), (47, .class_ 61), (0, u "java/lang/Object"), (0, .class_ 63), (0, u "java/lang/Iterable")] 51

/-- java/util/Collection -/
def k4 : Class := { plain "java/util/Collection" (some 0) with
  accessFlags := 1537
  interfaces := #[3]
  cf := some (fileOf pool4 10 #[] #[] 1537 60 #[62] #[])
  fields := #[]
  methods := #[]
  instanceTypes := #[]
  staticTypes := #[]
  resolved := Array.replicate 115 none
  statics := none }

def pool5 : Array CpInfo := pool [(1, .methodref 2 3), (0, .class_ 4), (0, .nameAndType 5 6), (0, u "java/lang/Object"), (0, u "<init>"), (0, u "()V"), (1, .class_ 10), (1, u "java/util/AbstractCollection"), (66, .class_ 78), (0, u "java/util/Collection")] 81

def k5c0 : Code := { maxStack := 1, maxLocals := 1, code := jdk_22_method_1_code, exceptionTable := #[], attributes := #[] }
def k5m0 : Method := { name := "<init>", desc := "()V", sig := { parameters := [], returnType := none }, accessFlags := 4, code := some k5c0 }
/-- java/util/AbstractCollection -/
def k5 : Class := { plain "java/util/AbstractCollection" (some 0) with
  accessFlags := 1057
  interfaces := #[4]
  cf := some (fileOf pool5 8 #[] #[{ accessFlags := 4, nameIndex := 5, descriptorIndex := 6, attributes := #[] }] 1057 2 #[77] #[])
  fields := #[]
  methods := #[k5m0]
  instanceTypes := #[]
  staticTypes := #[]
  resolved := Array.replicate 160 none
  statics := none }

def pool6 : Array CpInfo := pool [(8, .class_ 10), (1, u "java/util/SequencedCollection"), (15, .class_ 27), (0, u "java/lang/Object"), (0, .class_ 29), (0, u "java/util/Collection")] 27

/-- java/util/SequencedCollection -/
def k6 : Class := { plain "java/util/SequencedCollection" (some 0) with
  accessFlags := 1537
  interfaces := #[4]
  cf := some (fileOf pool6 8 #[] #[] 1537 26 #[28] #[])
  fields := #[]
  methods := #[]
  instanceTypes := #[]
  staticTypes := #[]
  resolved := Array.replicate 57 none
  statics := none }

def pool7 : Array CpInfo := pool [(8, .class_ 10), (1, u "java/util/List"), (92, .class_ 104), (0, u "java/lang/Object"), (15, .class_ 121), (0, u "java/util/SequencedCollection")] 129

/-- java/util/List -/
def k7 : Class := { plain "java/util/List" (some 0) with
  accessFlags := 1537
  interfaces := #[6]
  cf := some (fileOf pool7 8 #[] #[] 1537 103 #[120] #[])
  fields := #[]
  methods := #[]
  instanceTypes := #[]
  staticTypes := #[]
  resolved := Array.replicate 251 none
  statics := none }

def pool8 : Array CpInfo := pool [(1, .methodref 2 3), (0, .class_ 4), (0, .nameAndType 5 6), (0, u "java/util/AbstractCollection"), (0, u "<init>"), (0, u "()V"), (0, .fieldref 8 9), (0, .class_ 10), (0, .nameAndType 11 12), (0, u "java/util/AbstractList"), (0, u "modCount"), (0, u "I"), (64, .class_ 78), (0, u "java/util/AbstractList$Itr"), (3, .class_ 83), (0, u "java/util/AbstractList$ListItr"), (9, .class_ 94), (0, u "java/util/AbstractList$RandomAccessSubList"), (3, .class_ 99), (0, u "java/util/AbstractList$SubList"), (33, .class_ 134), (0, u "java/util/List"), (73, .class_ 209), (0, u "java/util/AbstractList$SubList$1"), (0, .class_ 211), (0, u "java/util/AbstractList$RandomAccessSpliterator")] 6

def k8c0 : Code := { maxStack := 2, maxLocals := 1, code := jdk_39_method_1_code, exceptionTable := #[], attributes := #[] }
def k8m0 : Method := { name := "<init>", desc := "()V", sig := { parameters := [], returnType := none }, accessFlags := 4, code := some k8c0 }
/-- java/util/AbstractList -/
def k8 : Class := { plain "java/util/AbstractList" (some 5) with
  accessFlags := 1057
  interfaces := #[7]
  cf := some (fileOf pool8 8 #[.nestMembers #[93, 98, 208, 210, 82, 77]] #[{ accessFlags := 4, nameIndex := 5, descriptorIndex := 6, attributes := #[] }] 1057 2 #[133] #[{ accessFlags := 132, nameIndex := 11, descriptorIndex := 12, attributes := #[] }])
  fields := #[{ name := "modCount", type := .int, accessFlags := 132, slot := 0, constantValue := 0 }]
  methods := #[k8m0]
  instanceTypes := #[.int]
  staticTypes := #[]
  resolved := Array.replicate 218 none
  statics := none }

def pool9 : Array CpInfo := pool [(1, .class_ 2), (0, u "java/util/RandomAccess"), (0, .class_ 4), (0, u "java/lang/Object")] 2

/-- java/util/RandomAccess -/
def k9 : Class := { plain "java/util/RandomAccess" (some 0) with
  accessFlags := 1537
  interfaces := #[]
  cf := some (fileOf pool9 1 #[] #[] 1537 3 #[] #[])
  fields := #[]
  methods := #[]
  instanceTypes := #[]
  staticTypes := #[]
  resolved := Array.replicate 7 none
  statics := none }

def pool10 : Array CpInfo := pool [(1, .class_ 2), (0, u "java/lang/Cloneable"), (0, .class_ 4), (0, u "java/lang/Object")] 2

/-- java/lang/Cloneable -/
def k10 : Class := { plain "java/lang/Cloneable" (some 0) with
  accessFlags := 1537
  interfaces := #[]
  cf := some (fileOf pool10 1 #[] #[] 1537 3 #[] #[])
  fields := #[]
  methods := #[]
  instanceTypes := #[]
  staticTypes := #[]
  resolved := Array.replicate 7 none
  statics := none }

def pool11 : Array CpInfo := pool [(1, .class_ 2), (0, u "java/io/Serializable"), (0, .class_ 4), (0, u "java/lang/Object")] 2

/-- java/io/Serializable -/
def k11 : Class := { plain "java/io/Serializable" (some 0) with
  accessFlags := 1537
  interfaces := #[]
  cf := some (fileOf pool11 1 #[] #[] 1537 3 #[] #[])
  fields := #[]
  methods := #[]
  instanceTypes := #[]
  staticTypes := #[]
  resolved := Array.replicate 7 none
  statics := none }

def pool12 : Array CpInfo := pool [(1, .methodref 2 3), (0, .class_ 4), (0, .nameAndType 5 6), (0, u "java/util/AbstractList"), (0, u "<init>"), (0, u "()V"), (2, .fieldref 10 11), (0, .class_ 12), (0, .nameAndType 13 14), (0, u "java/util/ArrayList"), (0, u "elementData"), (0, u "[Ljava/lang/Object;"), (2, u "EMPTY_ELEMENTDATA"), (21, .fieldref 10 40), (0, .nameAndType 41 14), (0, u "DEFAULTCAPACITY_EMPTY_ELEMENTDATA"), (8, u "size"), (0, u "I"), (96, .class_ 149), (0, u "java/util/List"), (112, .class_ 263), (0, u "java/util/ArrayList$ListItr"), (3, .class_ 268), (0, u "java/util/ArrayList$Itr"), (7, .class_ 277), (0, u "java/util/ArrayList$SubList"), (12, .class_ 291), (0, u "java/util/ArrayList$ArrayListSpliterator"), (37, .class_ 330), (0, u "java/util/RandomAccess"), (0, .class_ 332), (0, u "java/lang/Cloneable"), (0, .class_ 334), (0, u "java/io/Serializable"), (0, u "serialVersionUID"), (0, u "J"), (3, u "DEFAULT_CAPACITY"), (159, .class_ 501), (0, u "java/util/ArrayList$SubList$2"), (0, .class_ 503), (0, u "java/util/ArrayList$SubList$1")] 5

def k12c0 : Code := { maxStack := 2, maxLocals := 1, code := jdk_38_method_2_code, exceptionTable := #[], attributes := #[] }
def k12m0 : Method := { name := "<init>", desc := "()V", sig := { parameters := [], returnType := none }, accessFlags := 1, code := some k12c0 }
/-- java/util/ArrayList -/
def k12 : Class := { plain "java/util/ArrayList" (some 8) with
  accessFlags := 33
  interfaces := #[7, 9, 10, 11]
  cf := some (fileOf pool12 10 #[.nestMembers #[290, 276, 500, 502, 262, 267]] #[{ accessFlags := 1, nameIndex := 5, descriptorIndex := 6, attributes := #[] }] 33 2 #[148, 329, 331, 333] #[{ accessFlags := 26, nameIndex := 335, descriptorIndex := 336, attributes := #[] }, { accessFlags := 26, nameIndex := 340, descriptorIndex := 51, attributes := #[] }, { accessFlags := 26, nameIndex := 17, descriptorIndex := 14, attributes := #[] }, { accessFlags := 26, nameIndex := 41, descriptorIndex := 14, attributes := #[] }, { accessFlags := 128, nameIndex := 13, descriptorIndex := 14, attributes := #[] }, { accessFlags := 2, nameIndex := 50, descriptorIndex := 51, attributes := #[] }])
  fields := #[{ name := "serialVersionUID", type := .long, accessFlags := 26, slot := 0, constantValue := 0 }, { name := "DEFAULT_CAPACITY", type := .int, accessFlags := 26, slot := 1, constantValue := 0 }, { name := "EMPTY_ELEMENTDATA", type := (.array (.object "java/lang/Object")), accessFlags := 26, slot := 2, constantValue := 0 }, { name := "DEFAULTCAPACITY_EMPTY_ELEMENTDATA", type := (.array (.object "java/lang/Object")), accessFlags := 26, slot := 3, constantValue := 0 }, { name := "elementData", type := (.array (.object "java/lang/Object")), accessFlags := 128, slot := 1, constantValue := 0 }, { name := "size", type := .int, accessFlags := 2, slot := 2, constantValue := 0 }]
  methods := #[k12m0]
  instanceTypes := #[.int, (.array (.object "java/lang/Object")), .int]
  staticTypes := #[.long, .int, (.array (.object "java/lang/Object")), (.array (.object "java/lang/Object"))]
  resolved := Array.replicate 509 none
  statics := some 0 }

def pool13 : Array CpInfo := pool [(2, .class_ 4), (1, u "java/util/Map"), (31, .class_ 37), (0, u "java/util/Map$Entry"), (55, .class_ 94), (0, u "java/lang/Object")] 168

/-- java/util/Map -/
def k13 : Class := { plain "java/util/Map" (some 0) with
  accessFlags := 1537
  interfaces := #[]
  cf := some (fileOf pool13 2 #[.nestMembers #[36]] #[] 1537 93 #[] #[])
  fields := #[]
  methods := #[]
  instanceTypes := #[]
  staticTypes := #[]
  resolved := Array.replicate 263 none
  statics := none }

def pool14 : Array CpInfo := pool [(1, .methodref 2 3), (0, .class_ 4), (0, .nameAndType 5 6), (0, u "java/lang/Object"), (0, u "<init>"), (0, u "()V"), (1, .class_ 10), (1, u "java/util/AbstractMap"), (42, .class_ 54), (0, u "java/util/Map"), (9, u "keySet"), (0, u "Ljava/util/Set;"), (0, .class_ 67), (0, u "java/util/AbstractMap$1"), (5, u "values"), (0, u "Ljava/util/Collection;"), (0, .class_ 76), (0, u "java/util/AbstractMap$2"), (104, .class_ 182), (0, u "java/util/AbstractMap$ViewCollection"), (0, .class_ 184), (0, u "java/util/AbstractMap$SimpleImmutableEntry"), (0, .class_ 186), (0, u "java/util/AbstractMap$SimpleEntry"), (0, .class_ 188), (0, u "java/util/AbstractMap$2$1"), (0, .class_ 190), (0, u "java/util/AbstractMap$1$1")] 5

def k14c0 : Code := { maxStack := 1, maxLocals := 1, code := jdk_71_method_1_code, exceptionTable := #[], attributes := #[] }
def k14m0 : Method := { name := "<init>", desc := "()V", sig := { parameters := [], returnType := none }, accessFlags := 4, code := some k14c0 }
/-- java/util/AbstractMap -/
def k14 : Class := { plain "java/util/AbstractMap" (some 0) with
  accessFlags := 1057
  interfaces := #[13]
  cf := some (fileOf pool14 8 #[.nestMembers #[181, 183, 185, 75, 187, 66, 189]] #[{ accessFlags := 4, nameIndex := 5, descriptorIndex := 6, attributes := #[] }] 1057 2 #[53] #[{ accessFlags := 128, nameIndex := 64, descriptorIndex := 65, attributes := #[] }, { accessFlags := 128, nameIndex := 73, descriptorIndex := 74, attributes := #[] }])
  fields := #[{ name := "keySet", type := (.object "java/util/Set"), accessFlags := 128, slot := 0, constantValue := 0 }, { name := "values", type := (.object "java/util/Collection"), accessFlags := 128, slot := 1, constantValue := 0 }]
  methods := #[k14m0]
  instanceTypes := #[(.object "java/util/Set"), (.object "java/util/Collection")]
  staticTypes := #[]
  resolved := Array.replicate 196 none
  statics := none }

def pool15 : Array CpInfo := pool [(40, .class_ 41), (0, u "java/util/HashMap"), (1, .methodref 44 45), (0, .class_ 46), (0, .nameAndType 47 48), (0, u "java/util/AbstractMap"), (0, u "<init>"), (0, u "()V"), (32, .fieldref 40 82), (0, .nameAndType 83 84), (0, u "loadFactor"), (0, u "F"), (5, u "threshold"), (0, u "I"), (0, .float 1061158912), (8, .class_ 103), (1, u "java/util/Map"), (0, u "size"), (2, u "table"), (0, u "[Ljava/util/HashMap$Node;"), (14, u "entrySet"), (39, .class_ 165), (1, u "java/util/HashMap$Node"), (14, .class_ 181), (0, u "java/util/HashMap$TreeNode"), (22, u "modCount"), (37, u "Ljava/util/Set;"), (0, .class_ 244), (0, u "java/util/HashMap$KeySet"), (18, .class_ 264), (0, u "java/util/HashMap$Values"), (3, .class_ 269), (0, u "java/util/HashMap$EntrySet"), (76, .class_ 348), (1, u "java/util/HashMap$UnsafeHolder"), (43, .class_ 393), (0, u "java/lang/Cloneable"), (0, .class_ 395), (0, u "java/io/Serializable"), (0, u "serialVersionUID"), (0, u "J"), (3, u "DEFAULT_INITIAL_CAPACITY"), (1, u "MAXIMUM_CAPACITY"), (0, u "DEFAULT_LOAD_FACTOR"), (0, u "TREEIFY_THRESHOLD"), (1, u "UNTREEIFY_THRESHOLD"), (1, u "MIN_TREEIFY_CAPACITY"), (186, .class_ 597), (0, u "java/util/HashMap$EntrySpliterator"), (0, .class_ 599), (0, u "java/util/HashMap$ValueSpliterator"), (0, .class_ 601), (0, u "java/util/HashMap$KeySpliterator"), (0, .class_ 603), (0, u "java/util/HashMap$HashMapSpliterator"), (0, .class_ 605), (0, u "java/util/HashMap$EntryIterator"), (0, .class_ 607), (0, u "java/util/HashMap$ValueIterator"), (0, .class_ 609), (0, u "java/util/HashMap$KeyIterator"), (0, .class_ 611), (0, u "java/util/HashMap$HashIterator")] 17

def k15c0 : Code := { maxStack := 2, maxLocals := 1, code := jdk_69_method_7_code, exceptionTable := #[], attributes := #[] }
def k15m0 : Method := { name := "<init>", desc := "()V", sig := { parameters := [], returnType := none }, accessFlags := 1, code := some k15c0 }
/-- java/util/HashMap -/
def k15 : Class := { plain "java/util/HashMap" (some 14) with
  accessFlags := 33
  interfaces := #[13, 10, 11]
  cf := some (fileOf pool15 40 #[.nestMembers #[180, 596, 598, 600, 602, 604, 606, 608, 610, 346, 268, 263, 243, 163]] #[{ accessFlags := 1, nameIndex := 47, descriptorIndex := 48, attributes := #[] }] 33 44 #[101, 392, 394] #[{ accessFlags := 26, nameIndex := 396, descriptorIndex := 397, attributes := #[] }, { accessFlags := 24, nameIndex := 401, descriptorIndex := 91, attributes := #[] }, { accessFlags := 24, nameIndex := 403, descriptorIndex := 91, attributes := #[] }, { accessFlags := 24, nameIndex := 404, descriptorIndex := 84, attributes := #[] }, { accessFlags := 24, nameIndex := 405, descriptorIndex := 91, attributes := #[] }, { accessFlags := 24, nameIndex := 407, descriptorIndex := 91, attributes := #[] }, { accessFlags := 24, nameIndex := 409, descriptorIndex := 91, attributes := #[] }, { accessFlags := 128, nameIndex := 107, descriptorIndex := 108, attributes := #[] }, { accessFlags := 128, nameIndex := 123, descriptorIndex := 242, attributes := #[] }, { accessFlags := 128, nameIndex := 104, descriptorIndex := 91, attributes := #[] }, { accessFlags := 128, nameIndex := 204, descriptorIndex := 91, attributes := #[] }, { accessFlags := 0, nameIndex := 90, descriptorIndex := 91, attributes := #[] }, { accessFlags := 16, nameIndex := 83, descriptorIndex := 84, attributes := #[] }])
  fields := #[{ name := "serialVersionUID", type := .long, accessFlags := 26, slot := 0, constantValue := 0 }, { name := "DEFAULT_INITIAL_CAPACITY", type := .int, accessFlags := 24, slot := 1, constantValue := 0 }, { name := "MAXIMUM_CAPACITY", type := .int, accessFlags := 24, slot := 2, constantValue := 0 }, { name := "DEFAULT_LOAD_FACTOR", type := .float, accessFlags := 24, slot := 3, constantValue := 0 }, { name := "TREEIFY_THRESHOLD", type := .int, accessFlags := 24, slot := 4, constantValue := 0 }, { name := "UNTREEIFY_THRESHOLD", type := .int, accessFlags := 24, slot := 5, constantValue := 0 }, { name := "MIN_TREEIFY_CAPACITY", type := .int, accessFlags := 24, slot := 6, constantValue := 0 }, { name := "table", type := (.array (.object "java/util/HashMap$Node")), accessFlags := 128, slot := 2, constantValue := 0 }, { name := "entrySet", type := (.object "java/util/Set"), accessFlags := 128, slot := 3, constantValue := 0 }, { name := "size", type := .int, accessFlags := 128, slot := 4, constantValue := 0 }, { name := "modCount", type := .int, accessFlags := 128, slot := 5, constantValue := 0 }, { name := "threshold", type := .int, accessFlags := 0, slot := 6, constantValue := 0 }, { name := "loadFactor", type := .float, accessFlags := 16, slot := 7, constantValue := 0 }]
  methods := #[k15m0]
  instanceTypes := #[(.object "java/util/Set"), (.object "java/util/Collection"), (.array (.object "java/util/HashMap$Node")), (.object "java/util/Set"), .int, .int, .int, .float]
  staticTypes := #[.long, .int, .int, .float, .int, .int, .int]
  resolved := Array.replicate 629 none
  statics := none }

def pool16 : Array CpInfo := pool [(1, .class_ 2), (0, u "java/util/BitSet"), (2, u "$assertionsDisabled"), (0, u "Z"), (0, .fieldref 1 8), (0, .nameAndType 9 10), (0, u "wordsInUse"), (0, u "I"), (0, .fieldref 1 12), (0, .nameAndType 13 14), (0, u "words"), (0, u "[J"), (3, .nameAndType 19 20), (0, u "<init>"), (0, u "()V"), (0, .methodref 22 18), (0, .class_ 23), (0, u "java/lang/Object"), (0, .fieldref 1 25), (0, .nameAndType 26 6), (0, u "sizeIsSticky"), (0, .methodref 1 28), (0, .nameAndType 29 30), (0, u "initWords"), (0, u "(I)V"), (21, .methodref 1 53), (0, .nameAndType 54 55), (0, u "wordIndex"), (0, u "(I)I"), (213, .class_ 270), (0, u "java/util/BitSet$1BitSetSpliterator"), (22, u "serialPersistentFields"), (0, u "[Ljava/io/ObjectStreamField;"), (0, .class_ 296), (0, u "java/lang/Cloneable"), (0, .class_ 298), (0, u "java/io/Serializable"), (0, u "ADDRESS_BITS_PER_WORD"), (2, u "BITS_PER_WORD"), (1, u "BIT_INDEX_MASK"), (1, u "WORD_MASK"), (0, u "J"), (0, u "serialVersionUID")] 108

def k16c0 : Code := { maxStack := 2, maxLocals := 1, code := jdk_92_method_1_code, exceptionTable := #[], attributes := #[] }
def k16m0 : Method := { name := "wordIndex", desc := "(I)I", sig := { parameters := [.int], returnType := some .int }, accessFlags := 10, code := some k16c0 }
def k16c1 : Code := { maxStack := 2, maxLocals := 1, code := jdk_92_method_4_code, exceptionTable := #[], attributes := #[] }
def k16m1 : Method := { name := "<init>", desc := "()V", sig := { parameters := [], returnType := none }, accessFlags := 1, code := some k16c1 }
def k16c2 : Code := { maxStack := 3, maxLocals := 2, code := jdk_92_method_6_code, exceptionTable := #[], attributes := #[] }
def k16m2 : Method := { name := "initWords", desc := "(I)V", sig := { parameters := [.int], returnType := none }, accessFlags := 2, code := some k16c2 }
/-- java/util/BitSet -/
def k16 : Class := { plain "java/util/BitSet" (some 0) with
  accessFlags := 33
  interfaces := #[10, 11]
  cf := some (fileOf pool16 1 #[.nestMembers #[269]] #[{ accessFlags := 10, nameIndex := 54, descriptorIndex := 55, attributes := #[] }, { accessFlags := 1, nameIndex := 19, descriptorIndex := 20, attributes := #[] }, { accessFlags := 2, nameIndex := 29, descriptorIndex := 30, attributes := #[] }] 33 22 #[295, 297] #[{ accessFlags := 26, nameIndex := 299, descriptorIndex := 10, attributes := #[] }, { accessFlags := 26, nameIndex := 302, descriptorIndex := 10, attributes := #[] }, { accessFlags := 26, nameIndex := 304, descriptorIndex := 10, attributes := #[] }, { accessFlags := 26, nameIndex := 306, descriptorIndex := 307, attributes := #[] }, { accessFlags := 26, nameIndex := 293, descriptorIndex := 294, attributes := #[] }, { accessFlags := 2, nameIndex := 13, descriptorIndex := 14, attributes := #[] }, { accessFlags := 130, nameIndex := 9, descriptorIndex := 10, attributes := #[] }, { accessFlags := 130, nameIndex := 26, descriptorIndex := 6, attributes := #[] }, { accessFlags := 26, nameIndex := 308, descriptorIndex := 307, attributes := #[] }, { accessFlags := 4120, nameIndex := 5, descriptorIndex := 6, attributes := #[] }])
  fields := #[{ name := "ADDRESS_BITS_PER_WORD", type := .int, accessFlags := 26, slot := 0, constantValue := 0 }, { name := "BITS_PER_WORD", type := .int, accessFlags := 26, slot := 1, constantValue := 0 }, { name := "BIT_INDEX_MASK", type := .int, accessFlags := 26, slot := 2, constantValue := 0 }, { name := "WORD_MASK", type := .long, accessFlags := 26, slot := 3, constantValue := 0 }, { name := "serialPersistentFields", type := (.array (.object "java/io/ObjectStreamField")), accessFlags := 26, slot := 4, constantValue := 0 }, { name := "words", type := (.array .long), accessFlags := 2, slot := 0, constantValue := 0 }, { name := "wordsInUse", type := .int, accessFlags := 130, slot := 1, constantValue := 0 }, { name := "sizeIsSticky", type := .boolean, accessFlags := 130, slot := 2, constantValue := 0 }, { name := "serialVersionUID", type := .long, accessFlags := 26, slot := 5, constantValue := 0 }, { name := "$assertionsDisabled", type := .boolean, accessFlags := 4120, slot := 6, constantValue := 0 }]
  methods := #[k16m0, k16m1, k16m2]
  instanceTypes := #[(.array .long), .int, .boolean]
  staticTypes := #[.int, .int, .int, .long, (.array (.object "java/io/ObjectStreamField")), .long, .boolean]
  resolved := Array.replicate 417 none
  statics := none }

def pool17 : Array CpInfo := pool [(1, .methodref 2 3), (0, .class_ 4), (0, .nameAndType 5 6), (0, u "java/lang/Object"), (0, u "<init>"), (0, u "()V"), (0, .class_ 8), (0, u "com/example/acomp/acomp/Transitions"), (0, .fieldref 7 10), (0, .nameAndType 11 12), (0, u "sources"), (0, u "[I"), (0, .fieldref 7 14), (0, .nameAndType 15 12), (0, u "letters"), (0, .fieldref 7 17), (0, .nameAndType 18 12), (0, u "targets"), (2, u "size"), (0, u "I"), (12, u "INITIAL_CAPACITY")] 13

def k17c0 : Code := { maxStack := 2, maxLocals := 1, code := prog_31_method_1_code, exceptionTable := #[], attributes := #[] }
def k17m0 : Method := { name := "<init>", desc := "()V", sig := { parameters := [], returnType := none }, accessFlags := 0, code := some k17c0 }
/-- com/example/acomp/acomp/Transitions -/
def k17 : Class := { plain "com/example/acomp/acomp/Transitions" (some 0) with
  accessFlags := 32
  interfaces := #[]
  cf := some (fileOf pool17 7 #[] #[{ accessFlags := 0, nameIndex := 5, descriptorIndex := 6, attributes := #[] }] 32 2 #[] #[{ accessFlags := 26, nameIndex := 35, descriptorIndex := 22, attributes := #[] }, { accessFlags := 2, nameIndex := 11, descriptorIndex := 12, attributes := #[] }, { accessFlags := 2, nameIndex := 15, descriptorIndex := 12, attributes := #[] }, { accessFlags := 2, nameIndex := 18, descriptorIndex := 12, attributes := #[] }, { accessFlags := 2, nameIndex := 21, descriptorIndex := 22, attributes := #[] }])
  fields := #[{ name := "INITIAL_CAPACITY", type := .int, accessFlags := 26, slot := 0, constantValue := 0 }, { name := "sources", type := (.array .int), accessFlags := 2, slot := 0, constantValue := 0 }, { name := "letters", type := (.array .int), accessFlags := 2, slot := 1, constantValue := 0 }, { name := "targets", type := (.array .int), accessFlags := 2, slot := 2, constantValue := 0 }, { name := "size", type := .int, accessFlags := 2, slot := 3, constantValue := 0 }]
  methods := #[k17m0]
  instanceTypes := #[(.array .int), (.array .int), (.array .int), .int]
  staticTypes := #[.int]
  resolved := Array.replicate 49 none
  statics := none }

/-- the primitive byte -/
def k18 : Class := { plain "byte" none with kind := .primitive 'B', accessFlags := 0x411 }
/-- [B -/
def k19 : Class := { plain "[B" (some 0) with kind := .array 18 .byte, interfaces := #[10, 11], accessFlags := 1041 }

/-- the primitive int -/
def k20 : Class := { plain "int" none with kind := .primitive 'I', accessFlags := 0x411 }
/-- [I -/
def k21 : Class := { plain "[I" (some 0) with kind := .array 20 .int, interfaces := #[10, 11], accessFlags := 1041 }

/-- the primitive long -/
def k22 : Class := { plain "long" none with kind := .primitive 'J', accessFlags := 0x411 }
/-- [J -/
def k23 : Class := { plain "[J" (some 0) with kind := .array 22 .long, interfaces := #[10, 11], accessFlags := 1041 }

/-- [Ljava/lang/Object; -/
def k24 : Class := { plain "[Ljava/lang/Object;" (some 0) with kind := .array 0 (.object "java/lang/Object"), interfaces := #[10, 11], accessFlags := 1041 }

def heap : Heap := #[{ cls := 12, slots := #[.long 0, .int 0, .ref 1, .ref 2], vm := .statics 12 },
  { cls := 24, slots := #[], vm := .none },
  { cls := 24, slots := #[], vm := .none }]
def classes : Array Class := #[k0, k1, k2, k3, k4, k5, k6, k7, k8, k9, k10, k11, k12, k13, k14, k15, k16, k17, k18, k19, k20, k21, k22, k23, k24]
def interned : List (Array UInt16 × Addr) := []
def slotsUsed : Nat := 4
def theMethod : MethodId := ⟨1, 1⟩
def args0 : Array Value := #[.int 3]
def aboutOver (below : List Frame) : State where
  vm := { classes := classes, interned := interned.toArray }
  heap := heap
  slotsUsed := slotsUsed
  threads := #[{ frames := .invoking theMethod args0 :: below }]
def below0 : List Frame := [.native { method := ⟨0, 0⟩, args := #[] }]
def about1 : State := aboutOver below0
def p0 : Program := .bare "" "" ""
def e0 : Env := launch0.env 0 0 0
theorem w_frames : about1.frames = Frame.invoking theMethod args0 :: below0 := rfl
set_option maxRecDepth 65536 in
theorem w_args : argsFit about1.vm theMethod args0 = true := by decide +kernel
set_option maxRecDepth 65536 in
theorem w_heap : heapFits about1 = true := by decide +kernel
set_option maxRecDepth 65536 in
theorem w_runnable : about1.curStatus? = some .runnable := by decide +kernel
set_option maxRecDepth 65536 in
theorem w_alone : about1.alone = true := by decide +kernel
set_option maxRecDepth 65536 in
theorem w_named : about1.methodNamed? x = some theMethod := by decide +kernel
set_option maxRecDepth 65536 in
theorem w_hears : about1.hears theMethod below0 = true := by decide +kernel
set_option maxRecDepth 65536 in
theorem w_ripe : about1.ripe theMethod args0 below0 = true := by decide +kernel
theorem w_running : about1.status = .running := rfl
set_option maxRecDepth 65536 in
theorem w_room : about1.hasRoom e0.platform room_1 = true :=
  launch0.hasRoom_least _ room_1 (by decide +kernel) (by decide +kernel) (by decide +kernel) (by decide +kernel) (by decide +kernel) (by decide +kernel)
theorem allAtoms_all (ts : List Jvm.Cond) (a : Array Jvm.Value) (st : Jvm.State) : (allAtoms ts).before a st = ts.all (fun c => c.before a st) := by
  induction ts with
  | nil => rfl
  | cons c t ih =>
    show (Jvm.Cond.and c (allAtoms t)).before a st = _
    rw [Jvm.Cond.before_and, ih, List.all_cons]
def words1 : List Jvm.Cond := Jvm.Cond.code x code maxLocals ret :: tables_1
/-- a 'code' word, met by the world's own term for the bytes: nothing is compared byte by byte -/
theorem code_word {y : MethodName} {bytes : ByteArray} {mx : Nat} {rt : Option FieldType} {a : Array Value} {s : State} {m : MethodId} {meth : Method} {c : Code} (h1 : s.methodNamed? y = some m) (h2 : s.vm.method? m = some meth) (h3 : meth.code = some c) (h4 : c.code = bytes)
    (h5 : (c.maxLocals == mx && c.exceptionTable.isEmpty && decide (c.maxStack ≤ mostOperands) && decide (meth.sig.returnType = rt) && !meth.locks && decide (parseMethodDescriptor y.desc = some meth.sig)) = true) : (Jvm.Cond.code y bytes mx rt).before a s = true := by
  simp only [Bool.and_eq_true, beq_iff_eq, Bool.not_eq_true', decide_eq_true_eq] at h5
  obtain ⟨⟨⟨⟨⟨g1, g2⟩, g3⟩, g4⟩, g5⟩, g6⟩ := h5
  simp [Cond.before, Cond.holds, Cond.value, h1, h2, h3, h4, g1, g2, g3, g4, g5, g6]
def isCode : Jvm.Cond → Bool
  | .code _ _ _ _ => true
  | _ => false
theorem all_split {L : List Jvm.Cond} {P : Jvm.Cond → Bool} (h1 : L.all (fun c => isCode c || P c) = true) (h2 : ∀ c ∈ L.filter isCode, P c = true) : L.all P = true := by
  refine List.all_eq_true.mpr fun c hc => ?_
  have h := List.all_eq_true.mp h1 c hc
  rcases Bool.eq_false_or_eq_true (isCode c) with hi | hi
  · exact h2 c (List.mem_filter.mpr ⟨hc, hi⟩)
  · simpa [hi] using h
set_option maxRecDepth 65536 in
theorem w_c0 : (Jvm.Cond.code x code maxLocals ret).before args0 about1 = true := code_word (m := ⟨1, 1⟩) (meth := k1m1) (c := k1c1) (by decide +kernel) rfl rfl rfl (by decide +kernel)
set_option maxRecDepth 65536 in
theorem w_c1 : (Jvm.Cond.code ({ cls := "com/example/acomp/acomp/BuchiAutomaton$Builder", name := "<init>", desc := "()V" } : Jvm.MethodName) prog_6_method_1_code (1 : Nat) (Option.none : Option Jvm.ClassFile.FieldType)).before args0 about1 = true := code_word (m := ⟨2, 0⟩) (meth := k2m0) (c := k2c0) (by decide +kernel) rfl rfl rfl (by decide +kernel)
set_option maxRecDepth 65536 in
theorem w_c2 : (Jvm.Cond.code ({ cls := "java/lang/Object", name := "<init>", desc := "()V" } : Jvm.MethodName) object_method_1_code (1 : Nat) (Option.none : Option Jvm.ClassFile.FieldType)).before args0 about1 = true := code_word (m := ⟨0, 0⟩) (meth := k0m0) (c := k0c0) (by decide +kernel) rfl rfl rfl (by decide +kernel)
set_option maxRecDepth 65536 in
theorem w_c3 : (Jvm.Cond.code ({ cls := "java/util/ArrayList", name := "<init>", desc := "()V" } : Jvm.MethodName) jdk_38_method_2_code (1 : Nat) (Option.none : Option Jvm.ClassFile.FieldType)).before args0 about1 = true := code_word (m := ⟨12, 0⟩) (meth := k12m0) (c := k12c0) (by decide +kernel) rfl rfl rfl (by decide +kernel)
set_option maxRecDepth 65536 in
theorem w_c4 : (Jvm.Cond.code ({ cls := "java/util/AbstractList", name := "<init>", desc := "()V" } : Jvm.MethodName) jdk_39_method_1_code (1 : Nat) (Option.none : Option Jvm.ClassFile.FieldType)).before args0 about1 = true := code_word (m := ⟨8, 0⟩) (meth := k8m0) (c := k8c0) (by decide +kernel) rfl rfl rfl (by decide +kernel)
set_option maxRecDepth 65536 in
theorem w_c5 : (Jvm.Cond.code ({ cls := "java/util/AbstractCollection", name := "<init>", desc := "()V" } : Jvm.MethodName) jdk_22_method_1_code (1 : Nat) (Option.none : Option Jvm.ClassFile.FieldType)).before args0 about1 = true := code_word (m := ⟨5, 0⟩) (meth := k5m0) (c := k5c0) (by decide +kernel) rfl rfl rfl (by decide +kernel)
set_option maxRecDepth 65536 in
theorem w_c6 : (Jvm.Cond.code ({ cls := "java/util/HashMap", name := "<init>", desc := "()V" } : Jvm.MethodName) jdk_69_method_7_code (1 : Nat) (Option.none : Option Jvm.ClassFile.FieldType)).before args0 about1 = true := code_word (m := ⟨15, 0⟩) (meth := k15m0) (c := k15c0) (by decide +kernel) rfl rfl rfl (by decide +kernel)
set_option maxRecDepth 65536 in
theorem w_c7 : (Jvm.Cond.code ({ cls := "java/util/AbstractMap", name := "<init>", desc := "()V" } : Jvm.MethodName) jdk_71_method_1_code (1 : Nat) (Option.none : Option Jvm.ClassFile.FieldType)).before args0 about1 = true := code_word (m := ⟨14, 0⟩) (meth := k14m0) (c := k14c0) (by decide +kernel) rfl rfl rfl (by decide +kernel)
set_option maxRecDepth 65536 in
theorem w_c8 : (Jvm.Cond.code ({ cls := "java/util/BitSet", name := "<init>", desc := "()V" } : Jvm.MethodName) jdk_92_method_4_code (1 : Nat) (Option.none : Option Jvm.ClassFile.FieldType)).before args0 about1 = true := code_word (m := ⟨16, 1⟩) (meth := k16m1) (c := k16c1) (by decide +kernel) rfl rfl rfl (by decide +kernel)
set_option maxRecDepth 65536 in
theorem w_c9 : (Jvm.Cond.code ({ cls := "java/util/BitSet", name := "initWords", desc := "(I)V" } : Jvm.MethodName) jdk_92_method_6_code (2 : Nat) (Option.none : Option Jvm.ClassFile.FieldType)).before args0 about1 = true := code_word (m := ⟨16, 2⟩) (meth := k16m2) (c := k16c2) (by decide +kernel) rfl rfl rfl (by decide +kernel)
set_option maxRecDepth 65536 in
theorem w_c10 : (Jvm.Cond.code ({ cls := "java/util/BitSet", name := "wordIndex", desc := "(I)I" } : Jvm.MethodName) jdk_92_method_1_code (1 : Nat) (Option.some Jvm.ClassFile.FieldType.int)).before args0 about1 = true := code_word (m := ⟨16, 0⟩) (meth := k16m0) (c := k16c0) (by decide +kernel) rfl rfl rfl (by decide +kernel)
set_option maxRecDepth 65536 in
theorem w_c11 : (Jvm.Cond.code ({ cls := "com/example/acomp/acomp/Transitions", name := "<init>", desc := "()V" } : Jvm.MethodName) prog_31_method_1_code (1 : Nat) (Option.none : Option Jvm.ClassFile.FieldType)).before args0 about1 = true := code_word (m := ⟨17, 0⟩) (meth := k17m0) (c := k17c0) (by decide +kernel) rfl rfl rfl (by decide +kernel)
set_option maxRecDepth 65536 in
theorem w_c12 : (Jvm.Cond.code ({ cls := "com/example/acomp/acomp/BuchiAutomaton$Builder", name := "stateCount", desc := "()I" } : Jvm.MethodName) prog_6_method_9_code (1 : Nat) (Option.some Jvm.ClassFile.FieldType.int)).before args0 about1 = true := code_word (m := ⟨2, 2⟩) (meth := k2m2) (c := k2c2) (by decide +kernel) rfl rfl rfl (by decide +kernel)
set_option maxRecDepth 65536 in
theorem w_c13 : (Jvm.Cond.code ({ cls := "com/example/acomp/acomp/BuchiAutomaton$Builder", name := "addState", desc := "()I" } : Jvm.MethodName) prog_6_method_4_code (1 : Nat) (Option.some Jvm.ClassFile.FieldType.int)).before args0 about1 = true := code_word (m := ⟨2, 1⟩) (meth := k2m1) (c := k2c1) (by decide +kernel) rfl rfl rfl (by decide +kernel)
def codes1 : List Jvm.Cond := [Jvm.Cond.code x code maxLocals ret, Jvm.Cond.code ({ cls := "com/example/acomp/acomp/BuchiAutomaton$Builder", name := "<init>", desc := "()V" } : Jvm.MethodName) prog_6_method_1_code (1 : Nat) (Option.none : Option Jvm.ClassFile.FieldType), Jvm.Cond.code ({ cls := "java/lang/Object", name := "<init>", desc := "()V" } : Jvm.MethodName) object_method_1_code (1 : Nat) (Option.none : Option Jvm.ClassFile.FieldType), Jvm.Cond.code ({ cls := "java/util/ArrayList", name := "<init>", desc := "()V" } : Jvm.MethodName) jdk_38_method_2_code (1 : Nat) (Option.none : Option Jvm.ClassFile.FieldType), Jvm.Cond.code ({ cls := "java/util/AbstractList", name := "<init>", desc := "()V" } : Jvm.MethodName) jdk_39_method_1_code (1 : Nat) (Option.none : Option Jvm.ClassFile.FieldType), Jvm.Cond.code ({ cls := "java/util/AbstractCollection", name := "<init>", desc := "()V" } : Jvm.MethodName) jdk_22_method_1_code (1 : Nat) (Option.none : Option Jvm.ClassFile.FieldType), Jvm.Cond.code ({ cls := "java/util/HashMap", name := "<init>", desc := "()V" } : Jvm.MethodName) jdk_69_method_7_code (1 : Nat) (Option.none : Option Jvm.ClassFile.FieldType), Jvm.Cond.code ({ cls := "java/util/AbstractMap", name := "<init>", desc := "()V" } : Jvm.MethodName) jdk_71_method_1_code (1 : Nat) (Option.none : Option Jvm.ClassFile.FieldType), Jvm.Cond.code ({ cls := "java/util/BitSet", name := "<init>", desc := "()V" } : Jvm.MethodName) jdk_92_method_4_code (1 : Nat) (Option.none : Option Jvm.ClassFile.FieldType), Jvm.Cond.code ({ cls := "java/util/BitSet", name := "initWords", desc := "(I)V" } : Jvm.MethodName) jdk_92_method_6_code (2 : Nat) (Option.none : Option Jvm.ClassFile.FieldType), Jvm.Cond.code ({ cls := "java/util/BitSet", name := "wordIndex", desc := "(I)I" } : Jvm.MethodName) jdk_92_method_1_code (1 : Nat) (Option.some Jvm.ClassFile.FieldType.int), Jvm.Cond.code ({ cls := "com/example/acomp/acomp/Transitions", name := "<init>", desc := "()V" } : Jvm.MethodName) prog_31_method_1_code (1 : Nat) (Option.none : Option Jvm.ClassFile.FieldType), Jvm.Cond.code ({ cls := "com/example/acomp/acomp/BuchiAutomaton$Builder", name := "stateCount", desc := "()I" } : Jvm.MethodName) prog_6_method_9_code (1 : Nat) (Option.some Jvm.ClassFile.FieldType.int), Jvm.Cond.code ({ cls := "com/example/acomp/acomp/BuchiAutomaton$Builder", name := "addState", desc := "()I" } : Jvm.MethodName) prog_6_method_4_code (1 : Nat) (Option.some Jvm.ClassFile.FieldType.int)]
set_option maxRecDepth 65536 in
theorem codes_eq : words1.filter isCode = codes1 := rfl
theorem w_codes : ∀ c ∈ words1.filter isCode, c.before args0 about1 = true := by
  rw [codes_eq]
  intro c hc
  simp only [codes1, List.mem_cons, List.not_mem_nil, or_false] at hc
  rcases hc with rfl | rfl | rfl | rfl | rfl | rfl | rfl | rfl | rfl | rfl | rfl | rfl | rfl | rfl
  · exact w_c0
  · exact w_c1
  · exact w_c2
  · exact w_c3
  · exact w_c4
  · exact w_c5
  · exact w_c6
  · exact w_c7
  · exact w_c8
  · exact w_c9
  · exact w_c10
  · exact w_c11
  · exact w_c12
  · exact w_c13
set_option maxRecDepth 65536 in
theorem w_t1 : (words1.take 24).all (fun c => isCode c || c.before args0 about1) = true := by decide +kernel
set_option maxRecDepth 65536 in
theorem w_t2 : ((words1.drop 24).take 24).all (fun c => isCode c || c.before args0 about1) = true := by decide +kernel
set_option maxRecDepth 65536 in
theorem w_t3 : (((words1.drop 24).drop 24).take 24).all (fun c => isCode c || c.before args0 about1) = true := by decide +kernel
set_option maxRecDepth 65536 in
theorem w_t4 : ((((words1.drop 24).drop 24).drop 24).take 24).all (fun c => isCode c || c.before args0 about1) = true := by decide +kernel
set_option maxRecDepth 65536 in
theorem w_t5 : ((((words1.drop 24).drop 24).drop 24).drop 24).all (fun c => isCode c || c.before args0 about1) = true := by decide +kernel
theorem w_tables : (allAtoms (Jvm.Cond.code x code maxLocals ret :: tables_1)).before args0 about1 = true := by
  rw [allAtoms_all]
  show words1.all (fun c => c.before args0 about1) = true
  refine all_split ?_ w_codes
  rw [← List.take_append_drop 24 words1, List.all_append, w_t1, ← List.take_append_drop 24 (words1.drop 24), List.all_append, w_t2, ← List.take_append_drop 24 ((words1.drop 24).drop 24), List.all_append, w_t3, ← List.take_append_drop 24 (((words1.drop 24).drop 24).drop 24), List.all_append, w_t4, w_t5]
  rfl
set_option maxRecDepth 65536 in
theorem w_rest : rest_1_c.before args0 about1 = true := by decide +kernel
set_option maxRecDepth 65536 in
theorem w_case : (Jvm.Cond.and given_1 narrow_1).before args0 about1 = true := by decide +kernel
theorem w_applies : (headSpec (Jvm.Cond.code x code maxLocals ret :: tables_1) room_1).applies x e0.platform about1 = true :=
  (Spec.applies_iff w_frames).mpr ⟨w_running, w_runnable, w_alone, w_named, w_hears, w_ripe, w_room, w_tables⟩
theorem atStart : AtStart classFile x code maxLocals ret World_1 tables_1 room_1 Calls_1 rest_1 Pre_1 launch0 p0 e0 about1 theMethod args0 below0 :=
  ⟨lists_1, trivial, launch0.admits_env _ _ _, launch0.least_env, fairChoices_fair.cas, fairChoices_fair.clock, w_frames, w_args, w_heap, w_applies, trivial, w_rest, w_case⟩
end start1
theorem witness_1 : WitnessClaimed_1 := ⟨start1.p0, start1.e0, start1.about1, start1.theMethod, start1.args0, start1.below0, start1.atStart⟩
end Jvm.Pilot.@@N@@
