import JvmDerived
import JvmDerived.Pilot.@@N@@Statement
import JvmDerived.Pilot.@@N@@Code
set_option linter.unusedVariables false
set_option linter.unusedSimpArgs false
namespace Jvm.Pilot.@@N@@
open Jvm Jvm.ClassFile Sem Op Lib Jvm.Free Jvm.Stand Jvm.LawKit Jvm.RoadKit Bundle Jvm.Pilot.@@N@@.Jvm.D
/-! own_: a walk in backward style: 'Ends': from here the body comes to its end and Q holds there. One law an instruction, over frames written mkF. -/
namespace Wk
section
variable {p : Program} {l : Launch} {e : Env} {R : Room} {s : State} {m : MethodId} {args : Array Value} {below : List Frame} {meth : Method} {c : Code} {T : State} {locs : List Loc} {cells slots : Nat} {Z : State} {a0 : Array Value} {h : Heap} {y : MethodName} {cd : ByteArray} {ml : Nat} {ret : Option FieldType} {Q : Option Value → Heap → List Loc → Prop} {pc pc' : Nat} {ls : Array Slot} {st : List Value}
/-- the run from T with the frame f comes to the body's end, and Q holds there -/
def Ends (p : Program) (e : Env) (s : State) (below : List Frame) (R : Room) (Q : Option Value → Heap → List Loc → Prop) (T : State) (f : JFrame) : Prop :=
  ∃ s₂ o, Steps p.tables e below (T.setTop f) s₂ ∧ s₂.status = .running ∧ Ended s₂ below o ∧ ∃ v L, o = .returned v ∧ Q v s₂.heap L ∧ FrameEnd s o s₂ L R.cells R.slots
/-- what stands still while one body is walked -/
def K (p : Program) (s : State) (m : MethodId) (meth : Method) (c : Code) (Z : State) (y : MethodName) (cd : ByteArray) (ml : Nat) (ret : Option FieldType) : Prop :=
  p.tables.exec = Jvm.exec ∧ Z.Warmed39 s.vm ∧ c.code = cd ∧ c.maxLocals = ml ∧ s.vm.findClass y.cls = some m.cls ∧ meth.sig.returnType = ret ∧ meth.locks = false ∧ meth.name = y.name
/-- a body's contract: called with as' over the heap h it returns, and Q holds -/
def Met (l : Launch) (y : MethodName) (cd : ByteArray) (ml : Nat) (ret : Option FieldType) (rm : Room) (as' : Array Value) (Z : State) (h : Heap) (Q : Option Value → Heap → List Loc → Prop) (ws : List Jvm.Cond) : Prop :=
  MetFree l y (head1 (Jvm.Cond.code y cd ml ret :: ws) rm) (fun a U => a = as' ∧ Z.Warmed39 U.vm ∧ U.heap = h) (fun _ _ _ _ _ => True) (fun _ U o U' => ∃ v L, o = .returned v ∧ Q v U'.heap L ∧ FrameEnd U o U' L rm.cells rm.slots)
theorem enter {rm : Room} {as' : Array Value} {ws : List Jvm.Cond} (hpl : plainFor y = true)
    (body : ∀ (p : Program) (e : Env) (s : State) (m : MethodId) (below : List Frame) (meth : Method) (c : Code) (T : State), K p s m meth c Z y cd ml ret → Stand p l e rm s m as' below meth c T [] 0 0 → T.heap = h → Ends p e s below rm Q T (entryFrame m as' ml)) :
    Met l y cd ml ret rm as' Z h Q ws := by
  refine MetFree.of_bodySF hpl hisR ?_
  intro p e s m args below meth c s₁ Bd hml0 hP hK
  obtain ⟨rfl, hZ, hh⟩ := hP
  exact body p e s m below meth c s₁ ⟨Bd.exec, hZ, Bd.bytes, hml0, findClass_of_methodNamed Bd.named, Bd.returns, Bd.notSynchronized, (name_of_methodNamed Bd.named Bd.method).1⟩ (Stand.of_body Bd) (by rw [← hh, Bd.state]; rfl)
theorem Ends.map {T' : State} {f f' : JFrame} (st : ∀ target, Steps p.tables e below (T'.setTop f') target → Steps p.tables e below (T.setTop f) target) (h : Ends p e s below R Q T' f') : Ends p e s below R Q T f := by
  obtain ⟨s₂, o, h1, h2⟩ := h
  exact ⟨s₂, o, st _ h1, h2⟩
theorem Ends.cast {f f' : JFrame} (q : f = f') (h : Ends p e s below R Q T f') : Ends p e s below R Q T f := q ▸ h
theorem w {ws : List Jvm.Cond} (hw : ∀ d ∈ ws, d.before a0 Z = true) (i : Nat) {d : Jvm.Cond} (q : ws[i]? = some d) : d.before a0 Z = true := hw d (List.mem_of_getElem? q)
/-! loads, stores, constants -/
theorem iload_n (k : K p s m meth c Z y cd ml ret) (X : Stand p l e R s m args below meth c T locs cells slots) {i : Fin 4} {v : Int32} (hd : decode cd pc = .ok (.iload_n i, 1)) (hl : ls[i.val]? = some (.val (.int v))) (pc' : Nat) (hp : pc + 1 = pc') (h : Ends p e s below R Q T (mkF m pc' ls (.int v :: st))) : Ends p e s below R Q T (mkF m pc ls st) := by
  subst hp; exact h.map fun _ q => XS.iloadN X.here k.1 rfl (hb k.2.2.1 hd) hl q
theorem iload (k : K p s m meth c Z y cd ml ret) (X : Stand p l e R s m args below meth c T locs cells slots) {i : Nat} {v : Int32} (hd : decode cd pc = .ok (.iload i, 2)) (hl : ls[i]? = some (.val (.int v))) (pc' : Nat) (hp : pc + 2 = pc') (h : Ends p e s below R Q T (mkF m pc' ls (.int v :: st))) : Ends p e s below R Q T (mkF m pc ls st) := by
  subst hp; exact h.map fun _ q => XS.iload X.here k.1 rfl (hb k.2.2.1 hd) hl q
theorem lload_n (k : K p s m meth c Z y cd ml ret) (X : Stand p l e R s m args below meth c T locs cells slots) {i : Fin 4} {v : Int64} (hd : decode cd pc = .ok (.lload_n i, 1)) (hl : ls[i.val]? = some (.val (.long v))) (pc' : Nat) (hp : pc + 1 = pc') (h : Ends p e s below R Q T (mkF m pc' ls (.long v :: st))) : Ends p e s below R Q T (mkF m pc ls st) := by
  subst hp; exact h.map fun _ q => XS.lloadN X.here k.1 rfl (hb k.2.2.1 hd) hl q
theorem lload (k : K p s m meth c Z y cd ml ret) (X : Stand p l e R s m args below meth c T locs cells slots) {i : Nat} {v : Int64} (hd : decode cd pc = .ok (.lload i, 2)) (hl : ls[i]? = some (.val (.long v))) (pc' : Nat) (hp : pc + 2 = pc') (h : Ends p e s below R Q T (mkF m pc' ls (.long v :: st))) : Ends p e s below R Q T (mkF m pc ls st) := by
  subst hp; exact h.map fun _ q => XS.lload X.here k.1 rfl (hb k.2.2.1 hd) hl q
theorem aload_n (k : K p s m meth c Z y cd ml ret) (X : Stand p l e R s m args below meth c T locs cells slots) {i : Fin 4} {v : Value} (hd : decode cd pc = .ok (.aload_n i, 1)) (hl : ls[i.val]? = some (.val v)) (hv : v.isRef = true) (pc' : Nat) (hp : pc + 1 = pc') (h : Ends p e s below R Q T (mkF m pc' ls (v :: st))) : Ends p e s below R Q T (mkF m pc ls st) := by
  subst hp; exact h.map fun _ q => XS.aloadN X.here k.1 rfl (hb k.2.2.1 hd) hl hv q
theorem aload (k : K p s m meth c Z y cd ml ret) (X : Stand p l e R s m args below meth c T locs cells slots) {i : Nat} {v : Value} (hd : decode cd pc = .ok (.aload i, 2)) (hl : ls[i]? = some (.val v)) (hv : v.isRef = true) (pc' : Nat) (hp : pc + 2 = pc') (h : Ends p e s below R Q T (mkF m pc' ls (v :: st))) : Ends p e s below R Q T (mkF m pc ls st) := by
  subst hp; exact h.map fun _ q => XS.aload X.here k.1 rfl (hb k.2.2.1 hd) hl hv q
theorem istore_n (k : K p s m meth c Z y cd ml ret) (X : Stand p l e R s m args below meth c T locs cells slots) {i : Fin 4} {v : Int32} (hd : decode cd pc = .ok (.istore_n i, 1)) (ls' : Array Slot) (hl : storeLocals ls i.val (.int v) = some ls') (pc' : Nat) (hp : pc + 1 = pc') (h : Ends p e s below R Q T (mkF m pc' ls' st)) : Ends p e s below R Q T (mkF m pc ls (.int v :: st)) := by
  subst hp; exact h.map fun _ q => XS.istoreN X.here k.1 rfl (hb k.2.2.1 hd) rfl hl q
theorem istore (k : K p s m meth c Z y cd ml ret) (X : Stand p l e R s m args below meth c T locs cells slots) {i : Nat} {v : Int32} (hd : decode cd pc = .ok (.istore i, 2)) (ls' : Array Slot) (hl : storeLocals ls i (.int v) = some ls') (pc' : Nat) (hp : pc + 2 = pc') (h : Ends p e s below R Q T (mkF m pc' ls' st)) : Ends p e s below R Q T (mkF m pc ls (.int v :: st)) := by
  subst hp; exact h.map fun _ q => XS.istore X.here k.1 rfl (hb k.2.2.1 hd) rfl hl q
theorem lstore_n (k : K p s m meth c Z y cd ml ret) (X : Stand p l e R s m args below meth c T locs cells slots) {i : Fin 4} {v : Int64} (hd : decode cd pc = .ok (.lstore_n i, 1)) (ls' : Array Slot) (hl : storeLocals ls i.val (.long v) = some ls') (pc' : Nat) (hp : pc + 1 = pc') (h : Ends p e s below R Q T (mkF m pc' ls' st)) : Ends p e s below R Q T (mkF m pc ls (.long v :: st)) := by
  subst hp; exact h.map fun _ q => XS.lstoreN X.here k.1 rfl (hb k.2.2.1 hd) rfl hl q
theorem lstore (k : K p s m meth c Z y cd ml ret) (X : Stand p l e R s m args below meth c T locs cells slots) {i : Nat} {v : Int64} (hd : decode cd pc = .ok (.lstore i, 2)) (ls' : Array Slot) (hl : storeLocals ls i (.long v) = some ls') (pc' : Nat) (hp : pc + 2 = pc') (h : Ends p e s below R Q T (mkF m pc' ls' st)) : Ends p e s below R Q T (mkF m pc ls (.long v :: st)) := by
  subst hp; exact h.map fun _ q => XS.lstore X.here k.1 rfl (hb k.2.2.1 hd) rfl hl q
theorem astore_n (k : K p s m meth c Z y cd ml ret) (X : Stand p l e R s m args below meth c T locs cells slots) {i : Fin 4} {v : Value} (hd : decode cd pc = .ok (.astore_n i, 1)) (hv : v.isRef = true) (ls' : Array Slot) (hl : storeLocals ls i.val v = some ls') (pc' : Nat) (hp : pc + 1 = pc') (h : Ends p e s below R Q T (mkF m pc' ls' st)) : Ends p e s below R Q T (mkF m pc ls (v :: st)) := by
  subst hp; exact h.map fun _ q => XS.astoreN X.here k.1 rfl (hb k.2.2.1 hd) rfl hv hl q
theorem astore (k : K p s m meth c Z y cd ml ret) (X : Stand p l e R s m args below meth c T locs cells slots) {i : Nat} {v : Value} (hd : decode cd pc = .ok (.astore i, 2)) (hv : v.isRef = true) (ls' : Array Slot) (hl : storeLocals ls i v = some ls') (pc' : Nat) (hp : pc + 2 = pc') (h : Ends p e s below R Q T (mkF m pc' ls' st)) : Ends p e s below R Q T (mkF m pc ls (v :: st)) := by
  subst hp; exact h.map fun _ q => XS.astore X.here k.1 rfl (hb k.2.2.1 hd) rfl hv hl q
theorem iinc (k : K p s m meth c Z y cd ml ret) (X : Stand p l e R s m args below meth c T locs cells slots) {i : Nat} {n : Int} {v : Int32} (hd : decode cd pc = .ok (.iinc i n, 3)) (hl : ls[i]? = some (.val (.int v))) (ls' : Array Slot) (hl' : storeLocals ls i (.int (v + Int32.ofInt n)) = some ls') (pc' : Nat) (hp : pc + 3 = pc') (h : Ends p e s below R Q T (mkF m pc' ls' st)) : Ends p e s below R Q T (mkF m pc ls st) := by
  subst hp; exact h.map fun _ q => XS.iinc X.here k.1 rfl (hb k.2.2.1 hd) hl hl' q
theorem iconst (k : K p s m meth c Z y cd ml ret) (X : Stand p l e R s m args below meth c T locs cells slots) {i : Int} (hd : decode cd pc = .ok (.iconst i, 1)) (z : Int32) (hz : Int32.ofInt i = z) (pc' : Nat) (hp : pc + 1 = pc') (h : Ends p e s below R Q T (mkF m pc' ls (.int z :: st))) : Ends p e s below R Q T (mkF m pc ls st) := by
  subst hp hz; exact h.map fun _ q => XS.iconst X.here k.1 rfl (hb k.2.2.1 hd) q
theorem bipush (k : K p s m meth c Z y cd ml ret) (X : Stand p l e R s m args below meth c T locs cells slots) {i : Int} (hd : decode cd pc = .ok (.bipush i, 2)) (z : Int32) (hz : (Int8.ofInt i).toInt32 = z) (pc' : Nat) (hp : pc + 2 = pc') (h : Ends p e s below R Q T (mkF m pc' ls (.int z :: st))) : Ends p e s below R Q T (mkF m pc ls st) := by
  subst hp hz; exact h.map fun _ q => XS.bipush X.here k.1 rfl (hb k.2.2.1 hd) q
theorem sipush (k : K p s m meth c Z y cd ml ret) (X : Stand p l e R s m args below meth c T locs cells slots) {i : Int} (hd : decode cd pc = .ok (.sipush i, 3)) (z : Int32) (hz : (Int16.ofInt i).toInt32 = z) (pc' : Nat) (hp : pc + 3 = pc') (h : Ends p e s below R Q T (mkF m pc' ls (.int z :: st))) : Ends p e s below R Q T (mkF m pc ls st) := by
  subst hp hz; exact h.map fun _ q => XS.sipush X.here k.1 rfl (hb k.2.2.1 hd) q
theorem lconst (k : K p s m meth c Z y cd ml ret) (X : Stand p l e R s m args below meth c T locs cells slots) {i : Fin 2} (hd : decode cd pc = .ok (.lconst i, 1)) (z : Int64) (hz : Int64.ofNat i = z) (pc' : Nat) (hp : pc + 1 = pc') (h : Ends p e s below R Q T (mkF m pc' ls (.long z :: st))) : Ends p e s below R Q T (mkF m pc ls st) := by
  subst hp hz; exact h.map fun _ q => XS.lconst X.here k.1 rfl (hb k.2.2.1 hd) q
theorem aconst_null (k : K p s m meth c Z y cd ml ret) (X : Stand p l e R s m args below meth c T locs cells slots) (hd : decode cd pc = .ok (.aconst_null, 1)) (pc' : Nat) (hp : pc + 1 = pc') (h : Ends p e s below R Q T (mkF m pc' ls (.null :: st))) : Ends p e s below R Q T (mkF m pc ls st) := by
  subst hp; exact h.map fun _ q => XS.aconstNull X.here k.1 rfl (hb k.2.2.1 hd) q
theorem ldc (k : K p s m meth c Z y cd ml ret) (X : Stand p l e R s m args below meth c T locs cells slots) {i : Nat} {z : Int32} (hd : decode cd pc = .ok (.ldc i, 2)) (hc : (Jvm.Cond.constant y.cls i z).before a0 Z = true) (pc' : Nat) (hp : pc + 2 = pc') (h : Ends p e s below R Q T (mkF m pc' ls (.int z :: st))) : Ends p e s below R Q T (mkF m pc ls st) := by
  subst hp; exact h.map (X.ldcInt k.1 k.2.2.2.2.1 (mvT k.2.1 hc) rfl (hb k.2.2.1 hd))
theorem ldc2_w (k : K p s m meth c Z y cd ml ret) (X : Stand p l e R s m args below meth c T locs cells slots) {i : Nat} {z : Int64} (hd : decode cd pc = .ok (.ldc2_w i, 3)) (hc : (Jvm.Cond.constantLong y.cls i z).before a0 Z = true) (pc' : Nat) (hp : pc + 3 = pc') (h : Ends p e s below R Q T (mkF m pc' ls (.long z :: st))) : Ends p e s below R Q T (mkF m pc ls st) := by
  subst hp; exact h.map (X.ldc2Long k.1 k.2.2.2.2.1 (mvT k.2.1 hc) rfl (hb k.2.2.1 hd))
theorem ldcF (k : K p s m meth c Z y cd ml ret) (X : Stand p l e R s m args below meth c T locs cells slots) {i : Nat} {z : UInt32} (hd : decode cd pc = .ok (.ldc i, 2)) (hc : (Jvm.Cond.constantFloat y.cls i z).before a0 Z = true) (pc' : Nat) (hp : pc + 2 = pc') (h : Ends p e s below R Q T (mkF m pc' ls (.float z :: st))) : Ends p e s below R Q T (mkF m pc ls st) := by
  subst hp; exact h.map (X.ldcFloatC k.1 k.2.2.2.2.1 (mvT k.2.1 hc) rfl (hb k.2.2.1 hd))
/-! arithmetic -/
theorem iadd (k : K p s m meth c Z y cd ml ret) (X : Stand p l e R s m args below meth c T locs cells slots) {a : Int32} {b : Int32} (hd : decode cd pc = .ok (.iadd, 1)) (pc' : Nat) (hp : pc + 1 = pc') (h : Ends p e s below R Q T (mkF m pc' ls (.int (a + b) :: st))) : Ends p e s below R Q T (mkF m pc ls (.int b :: .int a :: st)) := by
  subst hp; exact h.map fun _ q => XS.iadd X.here k.1 rfl (hb k.2.2.1 hd) rfl q
theorem ladd (k : K p s m meth c Z y cd ml ret) (X : Stand p l e R s m args below meth c T locs cells slots) {a : Int64} {b : Int64} (hd : decode cd pc = .ok (.ladd, 1)) (pc' : Nat) (hp : pc + 1 = pc') (h : Ends p e s below R Q T (mkF m pc' ls (.long (a + b) :: st))) : Ends p e s below R Q T (mkF m pc ls (.long b :: .long a :: st)) := by
  subst hp; exact h.map fun _ q => XS.ladd X.here k.1 rfl (hb k.2.2.1 hd) rfl q
theorem isub (k : K p s m meth c Z y cd ml ret) (X : Stand p l e R s m args below meth c T locs cells slots) {a : Int32} {b : Int32} (hd : decode cd pc = .ok (.isub, 1)) (pc' : Nat) (hp : pc + 1 = pc') (h : Ends p e s below R Q T (mkF m pc' ls (.int (a - b) :: st))) : Ends p e s below R Q T (mkF m pc ls (.int b :: .int a :: st)) := by
  subst hp; exact h.map fun _ q => XS.isub X.here k.1 rfl (hb k.2.2.1 hd) rfl q
theorem lsub (k : K p s m meth c Z y cd ml ret) (X : Stand p l e R s m args below meth c T locs cells slots) {a : Int64} {b : Int64} (hd : decode cd pc = .ok (.lsub, 1)) (pc' : Nat) (hp : pc + 1 = pc') (h : Ends p e s below R Q T (mkF m pc' ls (.long (a - b) :: st))) : Ends p e s below R Q T (mkF m pc ls (.long b :: .long a :: st)) := by
  subst hp; exact h.map fun _ q => XS.lsub X.here k.1 rfl (hb k.2.2.1 hd) rfl q
theorem imul (k : K p s m meth c Z y cd ml ret) (X : Stand p l e R s m args below meth c T locs cells slots) {a : Int32} {b : Int32} (hd : decode cd pc = .ok (.imul, 1)) (pc' : Nat) (hp : pc + 1 = pc') (h : Ends p e s below R Q T (mkF m pc' ls (.int (a * b) :: st))) : Ends p e s below R Q T (mkF m pc ls (.int b :: .int a :: st)) := by
  subst hp; exact h.map fun _ q => XS.imul X.here k.1 rfl (hb k.2.2.1 hd) rfl q
theorem lmul (k : K p s m meth c Z y cd ml ret) (X : Stand p l e R s m args below meth c T locs cells slots) {a : Int64} {b : Int64} (hd : decode cd pc = .ok (.lmul, 1)) (pc' : Nat) (hp : pc + 1 = pc') (h : Ends p e s below R Q T (mkF m pc' ls (.long (a * b) :: st))) : Ends p e s below R Q T (mkF m pc ls (.long b :: .long a :: st)) := by
  subst hp; exact h.map fun _ q => XS.lmul X.here k.1 rfl (hb k.2.2.1 hd) rfl q
theorem iand (k : K p s m meth c Z y cd ml ret) (X : Stand p l e R s m args below meth c T locs cells slots) {a : Int32} {b : Int32} (hd : decode cd pc = .ok (.iand, 1)) (pc' : Nat) (hp : pc + 1 = pc') (h : Ends p e s below R Q T (mkF m pc' ls (.int (a &&& b) :: st))) : Ends p e s below R Q T (mkF m pc ls (.int b :: .int a :: st)) := by
  subst hp; exact h.map fun _ q => XS.iand X.here k.1 rfl (hb k.2.2.1 hd) rfl q
theorem land (k : K p s m meth c Z y cd ml ret) (X : Stand p l e R s m args below meth c T locs cells slots) {a : Int64} {b : Int64} (hd : decode cd pc = .ok (.land, 1)) (pc' : Nat) (hp : pc + 1 = pc') (h : Ends p e s below R Q T (mkF m pc' ls (.long (a &&& b) :: st))) : Ends p e s below R Q T (mkF m pc ls (.long b :: .long a :: st)) := by
  subst hp; exact h.map fun _ q => XS.land X.here k.1 rfl (hb k.2.2.1 hd) rfl q
theorem ior (k : K p s m meth c Z y cd ml ret) (X : Stand p l e R s m args below meth c T locs cells slots) {a : Int32} {b : Int32} (hd : decode cd pc = .ok (.ior, 1)) (pc' : Nat) (hp : pc + 1 = pc') (h : Ends p e s below R Q T (mkF m pc' ls (.int (a ||| b) :: st))) : Ends p e s below R Q T (mkF m pc ls (.int b :: .int a :: st)) := by
  subst hp; exact h.map fun _ q => XS.ior X.here k.1 rfl (hb k.2.2.1 hd) rfl q
theorem lor (k : K p s m meth c Z y cd ml ret) (X : Stand p l e R s m args below meth c T locs cells slots) {a : Int64} {b : Int64} (hd : decode cd pc = .ok (.lor, 1)) (pc' : Nat) (hp : pc + 1 = pc') (h : Ends p e s below R Q T (mkF m pc' ls (.long (a ||| b) :: st))) : Ends p e s below R Q T (mkF m pc ls (.long b :: .long a :: st)) := by
  subst hp; exact h.map fun _ q => XS.lor X.here k.1 rfl (hb k.2.2.1 hd) rfl q
theorem ixor (k : K p s m meth c Z y cd ml ret) (X : Stand p l e R s m args below meth c T locs cells slots) {a : Int32} {b : Int32} (hd : decode cd pc = .ok (.ixor, 1)) (pc' : Nat) (hp : pc + 1 = pc') (h : Ends p e s below R Q T (mkF m pc' ls (.int (a ^^^ b) :: st))) : Ends p e s below R Q T (mkF m pc ls (.int b :: .int a :: st)) := by
  subst hp; exact h.map fun _ q => XS.ixor X.here k.1 rfl (hb k.2.2.1 hd) rfl q
theorem lxor (k : K p s m meth c Z y cd ml ret) (X : Stand p l e R s m args below meth c T locs cells slots) {a : Int64} {b : Int64} (hd : decode cd pc = .ok (.lxor, 1)) (pc' : Nat) (hp : pc + 1 = pc') (h : Ends p e s below R Q T (mkF m pc' ls (.long (a ^^^ b) :: st))) : Ends p e s below R Q T (mkF m pc ls (.long b :: .long a :: st)) := by
  subst hp; exact h.map fun _ q => XS.lxor X.here k.1 rfl (hb k.2.2.1 hd) rfl q
theorem idiv (k : K p s m meth c Z y cd ml ret) (X : Stand p l e R s m args below meth c T locs cells slots) {a : Int32} {b : Int32} (hd : decode cd pc = .ok (.idiv, 1)) (hy : b ≠ 0) (pc' : Nat) (hp : pc + 1 = pc') (h : Ends p e s below R Q T (mkF m pc' ls (.int (a / b) :: st))) : Ends p e s below R Q T (mkF m pc ls (.int b :: .int a :: st)) := by
  subst hp; exact h.map fun _ q => XS.idiv X.here k.1 rfl (hb k.2.2.1 hd) rfl hy q
theorem ldiv (k : K p s m meth c Z y cd ml ret) (X : Stand p l e R s m args below meth c T locs cells slots) {a : Int64} {b : Int64} (hd : decode cd pc = .ok (.ldiv, 1)) (hy : b ≠ 0) (pc' : Nat) (hp : pc + 1 = pc') (h : Ends p e s below R Q T (mkF m pc' ls (.long (a / b) :: st))) : Ends p e s below R Q T (mkF m pc ls (.long b :: .long a :: st)) := by
  subst hp; exact h.map fun _ q => XS.ldiv X.here k.1 rfl (hb k.2.2.1 hd) rfl hy q
theorem ishl (k : K p s m meth c Z y cd ml ret) (X : Stand p l e R s m args below meth c T locs cells slots) {a : Int32} {b : Int32} (hd : decode cd pc = .ok (.ishl, 1)) (pc' : Nat) (hp : pc + 1 = pc') (h : Ends p e s below R Q T (mkF m pc' ls (.int (a <<< (b &&& 31)) :: st))) : Ends p e s below R Q T (mkF m pc ls (.int b :: .int a :: st)) := by
  subst hp; exact h.map fun _ q => XS.ishl X.here k.1 rfl (hb k.2.2.1 hd) rfl q
theorem ishr (k : K p s m meth c Z y cd ml ret) (X : Stand p l e R s m args below meth c T locs cells slots) {a : Int32} {b : Int32} (hd : decode cd pc = .ok (.ishr, 1)) (pc' : Nat) (hp : pc + 1 = pc') (h : Ends p e s below R Q T (mkF m pc' ls (.int (a >>> (b &&& 31)) :: st))) : Ends p e s below R Q T (mkF m pc ls (.int b :: .int a :: st)) := by
  subst hp; exact h.map fun _ q => XS.ishr X.here k.1 rfl (hb k.2.2.1 hd) rfl q
theorem iushr (k : K p s m meth c Z y cd ml ret) (X : Stand p l e R s m args below meth c T locs cells slots) {a : Int32} {b : Int32} (hd : decode cd pc = .ok (.iushr, 1)) (pc' : Nat) (hp : pc + 1 = pc') (h : Ends p e s below R Q T (mkF m pc' ls (.int ((a.toUInt32 >>> (b &&& 31).toUInt32).toInt32) :: st))) : Ends p e s below R Q T (mkF m pc ls (.int b :: .int a :: st)) := by
  subst hp; exact h.map fun _ q => XS.iushr X.here k.1 rfl (hb k.2.2.1 hd) rfl q
theorem lshl (k : K p s m meth c Z y cd ml ret) (X : Stand p l e R s m args below meth c T locs cells slots) {a : Int64} {b : Int32} (hd : decode cd pc = .ok (.lshl, 1)) (pc' : Nat) (hp : pc + 1 = pc') (h : Ends p e s below R Q T (mkF m pc' ls (.long (a <<< (b &&& 0x3f).toInt64) :: st))) : Ends p e s below R Q T (mkF m pc ls (.int b :: .long a :: st)) := by
  subst hp; exact h.map fun _ q => XS.lshl X.here k.1 rfl (hb k.2.2.1 hd) rfl q
theorem lshr (k : K p s m meth c Z y cd ml ret) (X : Stand p l e R s m args below meth c T locs cells slots) {a : Int64} {b : Int32} (hd : decode cd pc = .ok (.lshr, 1)) (pc' : Nat) (hp : pc + 1 = pc') (h : Ends p e s below R Q T (mkF m pc' ls (.long (a >>> (b &&& 0x3f).toInt64) :: st))) : Ends p e s below R Q T (mkF m pc ls (.int b :: .long a :: st)) := by
  subst hp; exact h.map fun _ q => XS.lshr X.here k.1 rfl (hb k.2.2.1 hd) rfl q
theorem lushr (k : K p s m meth c Z y cd ml ret) (X : Stand p l e R s m args below meth c T locs cells slots) {a : Int64} {b : Int32} (hd : decode cd pc = .ok (.lushr, 1)) (pc' : Nat) (hp : pc + 1 = pc') (h : Ends p e s below R Q T (mkF m pc' ls (.long ((a.toUInt64 >>> (b &&& 0x3f).toInt64.toUInt64).toInt64) :: st))) : Ends p e s below R Q T (mkF m pc ls (.int b :: .long a :: st)) := by
  subst hp; exact h.map fun _ q => XS.lushr X.here k.1 rfl (hb k.2.2.1 hd) rfl q
theorem irem (k : K p s m meth c Z y cd ml ret) (X : Stand p l e R s m args below meth c T locs cells slots) {a b : Int32} (hd : decode cd pc = .ok (.irem, 1)) (hy : b ≠ 0) (pc' : Nat) (hp : pc + 1 = pc') (h : Ends p e s below R Q T (mkF m pc' ls (.int (a % b) :: st))) : Ends p e s below R Q T (mkF m pc ls (.int b :: .int a :: st)) := by
  subst hp; exact h.map fun _ q => iremM X k.1 rfl (hb k.2.2.1 hd) rfl hy q
theorem ineg (k : K p s m meth c Z y cd ml ret) (X : Stand p l e R s m args below meth c T locs cells slots) {a : Int32} (hd : decode cd pc = .ok (.ineg, 1)) (pc' : Nat) (hp : pc + 1 = pc') (h : Ends p e s below R Q T (mkF m pc' ls (.int (-a) :: st))) : Ends p e s below R Q T (mkF m pc ls (.int a :: st)) := by
  subst hp; exact h.map fun _ q => XS.ineg X.here k.1 rfl (hb k.2.2.1 hd) rfl q
theorem lneg (k : K p s m meth c Z y cd ml ret) (X : Stand p l e R s m args below meth c T locs cells slots) {a : Int64} (hd : decode cd pc = .ok (.lneg, 1)) (pc' : Nat) (hp : pc + 1 = pc') (h : Ends p e s below R Q T (mkF m pc' ls (.long (-a) :: st))) : Ends p e s below R Q T (mkF m pc ls (.long a :: st)) := by
  subst hp; exact h.map fun _ q => XS.lneg X.here k.1 rfl (hb k.2.2.1 hd) rfl q
theorem i2l (k : K p s m meth c Z y cd ml ret) (X : Stand p l e R s m args below meth c T locs cells slots) {a : Int32} (hd : decode cd pc = .ok (.i2l, 1)) (pc' : Nat) (hp : pc + 1 = pc') (h : Ends p e s below R Q T (mkF m pc' ls (.long (a.toInt64) :: st))) : Ends p e s below R Q T (mkF m pc ls (.int a :: st)) := by
  subst hp; exact h.map fun _ q => XS.i2l X.here k.1 rfl (hb k.2.2.1 hd) rfl q
theorem l2i (k : K p s m meth c Z y cd ml ret) (X : Stand p l e R s m args below meth c T locs cells slots) {a : Int64} (hd : decode cd pc = .ok (.l2i, 1)) (pc' : Nat) (hp : pc + 1 = pc') (h : Ends p e s below R Q T (mkF m pc' ls (.int (a.toInt32) :: st))) : Ends p e s below R Q T (mkF m pc ls (.long a :: st)) := by
  subst hp; exact h.map fun _ q => XS.l2i X.here k.1 rfl (hb k.2.2.1 hd) rfl q
theorem i2b (k : K p s m meth c Z y cd ml ret) (X : Stand p l e R s m args below meth c T locs cells slots) {a : Int32} (hd : decode cd pc = .ok (.i2b, 1)) (pc' : Nat) (hp : pc + 1 = pc') (h : Ends p e s below R Q T (mkF m pc' ls (.int (a.toInt8.toInt32) :: st))) : Ends p e s below R Q T (mkF m pc ls (.int a :: st)) := by
  subst hp; exact h.map fun _ q => XS.i2b X.here k.1 rfl (hb k.2.2.1 hd) rfl q
theorem i2s (k : K p s m meth c Z y cd ml ret) (X : Stand p l e R s m args below meth c T locs cells slots) {a : Int32} (hd : decode cd pc = .ok (.i2s, 1)) (pc' : Nat) (hp : pc + 1 = pc') (h : Ends p e s below R Q T (mkF m pc' ls (.int (a.toInt16.toInt32) :: st))) : Ends p e s below R Q T (mkF m pc ls (.int a :: st)) := by
  subst hp; exact h.map fun _ q => XS.i2s X.here k.1 rfl (hb k.2.2.1 hd) rfl q
theorem i2c (k : K p s m meth c Z y cd ml ret) (X : Stand p l e R s m args below meth c T locs cells slots) {a : Int32} (hd : decode cd pc = .ok (.i2c, 1)) (pc' : Nat) (hp : pc + 1 = pc') (h : Ends p e s below R Q T (mkF m pc' ls (.int (a.toUInt32.toUInt16.toUInt32.toInt32) :: st))) : Ends p e s below R Q T (mkF m pc ls (.int a :: st)) := by
  subst hp; exact h.map fun _ q => XS.i2c X.here k.1 rfl (hb k.2.2.1 hd) rfl q
/-! stack, jumps -/
theorem dup (k : K p s m meth c Z y cd ml ret) (X : Stand p l e R s m args below meth c T locs cells slots) {v : Value} (hd : decode cd pc = .ok (.dup, 1)) (hc : v.category = 1) (pc' : Nat) (hp : pc + 1 = pc') (h : Ends p e s below R Q T (mkF m pc' ls (v :: v :: st))) : Ends p e s below R Q T (mkF m pc ls (v :: st)) := by
  subst hp; exact h.map fun _ q => XS.dup X.here k.1 rfl (hb k.2.2.1 hd) rfl hc q
theorem pop (k : K p s m meth c Z y cd ml ret) (X : Stand p l e R s m args below meth c T locs cells slots) {v : Value} (hd : decode cd pc = .ok (.pop, 1)) (hc : v.category = 1) (pc' : Nat) (hp : pc + 1 = pc') (h : Ends p e s below R Q T (mkF m pc' ls st)) : Ends p e s below R Q T (mkF m pc ls (v :: st)) := by
  subst hp; exact h.map fun _ q => XS.pop X.here k.1 rfl (hb k.2.2.1 hd) rfl hc q
theorem dup_x1 (k : K p s m meth c Z y cd ml ret) (X : Stand p l e R s m args below meth c T locs cells slots) {v v' : Value} (hd : decode cd pc = .ok (.dup_x1, 1)) (hc : v.category = 1) (hc' : v'.category = 1) (pc' : Nat) (hp : pc + 1 = pc') (h : Ends p e s below R Q T (mkF m pc' ls (v :: v' :: v :: st))) : Ends p e s below R Q T (mkF m pc ls (v :: v' :: st)) := by
  subst hp; exact h.map fun _ q => XS.dupX1 X.here k.1 rfl (hb k.2.2.1 hd) rfl hc hc' q
theorem dup2 (k : K p s m meth c Z y cd ml ret) (X : Stand p l e R s m args below meth c T locs cells slots) {v v' : Value} (hd : decode cd pc = .ok (.dup2, 1)) (hc : v.category = 1) (hc' : v'.category = 1) (pc' : Nat) (hp : pc + 1 = pc') (h : Ends p e s below R Q T (mkF m pc' ls (v :: v' :: v :: v' :: st))) : Ends p e s below R Q T (mkF m pc ls (v :: v' :: st)) := by
  subst hp; exact h.map fun _ q => Jvm.Free.XT.dup2 X.here k.1 rfl (hb k.2.2.1 hd) rfl hc hc' q
theorem goto (k : K p s m meth c Z y cd ml ret) (X : Stand p l e R s m args below meth c T locs cells slots) {o : Int} (hd : decode cd pc = .ok (.goto o, 3)) (ho : 0 ≤ (pc : Int) + o) (pc' : Nat) (hp : ((pc : Int) + o).toNat = pc') (h : Ends p e s below R Q T (mkF m pc' ls st)) : Ends p e s below R Q T (mkF m pc ls st) := by
  exact h.map fun _ q => XS.goto X.here k.1 rfl rfl (hb k.2.2.1 hd) ho hp q
theorem icmp_lt (k : K p s m meth c Z y cd ml ret) (X : Stand p l e R s m args below meth c T locs cells slots) {a b : Int32} {o : Int} (hd : decode cd pc = .ok (.if_icmp .lt o, 3)) (ho : 0 ≤ (pc : Int) + o) (py pn : Nat) (hy : ((pc : Int) + o).toNat = py) (hn : pc + 3 = pn) (h1 : a < b → Ends p e s below R Q T (mkF m py ls st)) (h2 : ¬ a < b → Ends p e s below R Q T (mkF m pn ls st)) : Ends p e s below R Q T (mkF m pc ls (.int b :: .int a :: st)) := by
  subst hn
  by_cases q : a < b
  · exact (h1 q).map fun _ r => XS.icmpYes X.here k.1 rfl rfl (hb k.2.2.1 hd) rfl (tlt q).1 ho hy r
  · exact (h2 q).map fun _ r => XS.icmpNo X.here k.1 rfl (hb k.2.2.1 hd) rfl (flt q).1 r
theorem if_lt (k : K p s m meth c Z y cd ml ret) (X : Stand p l e R s m args below meth c T locs cells slots) {a : Int32} {o : Int} (hd : decode cd pc = .ok (.ifCond .lt o, 3)) (ho : 0 ≤ (pc : Int) + o) (py pn : Nat) (hy : ((pc : Int) + o).toNat = py) (hn : pc + 3 = pn) (h1 : a < 0 → Ends p e s below R Q T (mkF m py ls st)) (h2 : ¬ a < 0 → Ends p e s below R Q T (mkF m pn ls st)) : Ends p e s below R Q T (mkF m pc ls (.int a :: st)) := by
  subst hn
  by_cases q : a < 0
  · exact (h1 q).map fun _ r => XS.ifYes X.here k.1 rfl rfl (hb k.2.2.1 hd) rfl ((if0 _ _).trans (tlt q).1) ho hy r
  · exact (h2 q).map fun _ r => XS.ifNo X.here k.1 rfl (hb k.2.2.1 hd) rfl ((if0 _ _).trans (flt q).1) r
theorem icmp_ge (k : K p s m meth c Z y cd ml ret) (X : Stand p l e R s m args below meth c T locs cells slots) {a b : Int32} {o : Int} (hd : decode cd pc = .ok (.if_icmp .ge o, 3)) (ho : 0 ≤ (pc : Int) + o) (py pn : Nat) (hy : ((pc : Int) + o).toNat = py) (hn : pc + 3 = pn) (h1 : ¬ a < b → Ends p e s below R Q T (mkF m py ls st)) (h2 : a < b → Ends p e s below R Q T (mkF m pn ls st)) : Ends p e s below R Q T (mkF m pc ls (.int b :: .int a :: st)) := by
  subst hn
  by_cases q : a < b
  · exact (h2 q).map fun _ r => XS.icmpNo X.here k.1 rfl (hb k.2.2.1 hd) rfl (tlt q).2.1 r
  · exact (h1 q).map fun _ r => XS.icmpYes X.here k.1 rfl rfl (hb k.2.2.1 hd) rfl (flt q).2.1 ho hy r
theorem if_ge (k : K p s m meth c Z y cd ml ret) (X : Stand p l e R s m args below meth c T locs cells slots) {a : Int32} {o : Int} (hd : decode cd pc = .ok (.ifCond .ge o, 3)) (ho : 0 ≤ (pc : Int) + o) (py pn : Nat) (hy : ((pc : Int) + o).toNat = py) (hn : pc + 3 = pn) (h1 : ¬ a < 0 → Ends p e s below R Q T (mkF m py ls st)) (h2 : a < 0 → Ends p e s below R Q T (mkF m pn ls st)) : Ends p e s below R Q T (mkF m pc ls (.int a :: st)) := by
  subst hn
  by_cases q : a < 0
  · exact (h2 q).map fun _ r => XS.ifNo X.here k.1 rfl (hb k.2.2.1 hd) rfl ((if0 _ _).trans (tlt q).2.1) r
  · exact (h1 q).map fun _ r => XS.ifYes X.here k.1 rfl rfl (hb k.2.2.1 hd) rfl ((if0 _ _).trans (flt q).2.1) ho hy r
theorem icmp_gt (k : K p s m meth c Z y cd ml ret) (X : Stand p l e R s m args below meth c T locs cells slots) {a b : Int32} {o : Int} (hd : decode cd pc = .ok (.if_icmp .gt o, 3)) (ho : 0 ≤ (pc : Int) + o) (py pn : Nat) (hy : ((pc : Int) + o).toNat = py) (hn : pc + 3 = pn) (h1 : b < a → Ends p e s below R Q T (mkF m py ls st)) (h2 : ¬ b < a → Ends p e s below R Q T (mkF m pn ls st)) : Ends p e s below R Q T (mkF m pc ls (.int b :: .int a :: st)) := by
  subst hn
  by_cases q : b < a
  · exact (h1 q).map fun _ r => XS.icmpYes X.here k.1 rfl rfl (hb k.2.2.1 hd) rfl (tlt q).2.2.1 ho hy r
  · exact (h2 q).map fun _ r => XS.icmpNo X.here k.1 rfl (hb k.2.2.1 hd) rfl (flt q).2.2.1 r
theorem if_gt (k : K p s m meth c Z y cd ml ret) (X : Stand p l e R s m args below meth c T locs cells slots) {a : Int32} {o : Int} (hd : decode cd pc = .ok (.ifCond .gt o, 3)) (ho : 0 ≤ (pc : Int) + o) (py pn : Nat) (hy : ((pc : Int) + o).toNat = py) (hn : pc + 3 = pn) (h1 : 0 < a → Ends p e s below R Q T (mkF m py ls st)) (h2 : ¬ 0 < a → Ends p e s below R Q T (mkF m pn ls st)) : Ends p e s below R Q T (mkF m pc ls (.int a :: st)) := by
  subst hn
  by_cases q : 0 < a
  · exact (h1 q).map fun _ r => XS.ifYes X.here k.1 rfl rfl (hb k.2.2.1 hd) rfl ((if0 _ _).trans (tlt q).2.2.1) ho hy r
  · exact (h2 q).map fun _ r => XS.ifNo X.here k.1 rfl (hb k.2.2.1 hd) rfl ((if0 _ _).trans (flt q).2.2.1) r
theorem icmp_le (k : K p s m meth c Z y cd ml ret) (X : Stand p l e R s m args below meth c T locs cells slots) {a b : Int32} {o : Int} (hd : decode cd pc = .ok (.if_icmp .le o, 3)) (ho : 0 ≤ (pc : Int) + o) (py pn : Nat) (hy : ((pc : Int) + o).toNat = py) (hn : pc + 3 = pn) (h1 : ¬ b < a → Ends p e s below R Q T (mkF m py ls st)) (h2 : b < a → Ends p e s below R Q T (mkF m pn ls st)) : Ends p e s below R Q T (mkF m pc ls (.int b :: .int a :: st)) := by
  subst hn
  by_cases q : b < a
  · exact (h2 q).map fun _ r => XS.icmpNo X.here k.1 rfl (hb k.2.2.1 hd) rfl (tlt q).2.2.2 r
  · exact (h1 q).map fun _ r => XS.icmpYes X.here k.1 rfl rfl (hb k.2.2.1 hd) rfl (flt q).2.2.2 ho hy r
theorem if_le (k : K p s m meth c Z y cd ml ret) (X : Stand p l e R s m args below meth c T locs cells slots) {a : Int32} {o : Int} (hd : decode cd pc = .ok (.ifCond .le o, 3)) (ho : 0 ≤ (pc : Int) + o) (py pn : Nat) (hy : ((pc : Int) + o).toNat = py) (hn : pc + 3 = pn) (h1 : ¬ 0 < a → Ends p e s below R Q T (mkF m py ls st)) (h2 : 0 < a → Ends p e s below R Q T (mkF m pn ls st)) : Ends p e s below R Q T (mkF m pc ls (.int a :: st)) := by
  subst hn
  by_cases q : 0 < a
  · exact (h2 q).map fun _ r => XS.ifNo X.here k.1 rfl (hb k.2.2.1 hd) rfl ((if0 _ _).trans (tlt q).2.2.2) r
  · exact (h1 q).map fun _ r => XS.ifYes X.here k.1 rfl rfl (hb k.2.2.1 hd) rfl ((if0 _ _).trans (flt q).2.2.2) ho hy r
theorem icmp_eq (k : K p s m meth c Z y cd ml ret) (X : Stand p l e R s m args below meth c T locs cells slots) {a b : Int32} {o : Int} (hd : decode cd pc = .ok (.if_icmp .eq o, 3)) (ho : 0 ≤ (pc : Int) + o) (py pn : Nat) (hy : ((pc : Int) + o).toNat = py) (hn : pc + 3 = pn) (h1 : a = b → Ends p e s below R Q T (mkF m py ls st)) (h2 : ¬ a = b → Ends p e s below R Q T (mkF m pn ls st)) : Ends p e s below R Q T (mkF m pc ls (.int b :: .int a :: st)) := by
  subst hn
  by_cases q : a = b
  · exact (h1 q).map fun _ r => XS.icmpYes X.here k.1 rfl rfl (hb k.2.2.1 hd) rfl (teq q).1 ho hy r
  · exact (h2 q).map fun _ r => XS.icmpNo X.here k.1 rfl (hb k.2.2.1 hd) rfl (feq q).1 r
theorem if_eq (k : K p s m meth c Z y cd ml ret) (X : Stand p l e R s m args below meth c T locs cells slots) {a : Int32} {o : Int} (hd : decode cd pc = .ok (.ifCond .eq o, 3)) (ho : 0 ≤ (pc : Int) + o) (py pn : Nat) (hy : ((pc : Int) + o).toNat = py) (hn : pc + 3 = pn) (h1 : a = 0 → Ends p e s below R Q T (mkF m py ls st)) (h2 : ¬ a = 0 → Ends p e s below R Q T (mkF m pn ls st)) : Ends p e s below R Q T (mkF m pc ls (.int a :: st)) := by
  subst hn
  by_cases q : a = 0
  · exact (h1 q).map fun _ r => XS.ifYes X.here k.1 rfl rfl (hb k.2.2.1 hd) rfl ((if0 _ _).trans (teq q).1) ho hy r
  · exact (h2 q).map fun _ r => XS.ifNo X.here k.1 rfl (hb k.2.2.1 hd) rfl ((if0 _ _).trans (feq q).1) r
theorem icmp_ne (k : K p s m meth c Z y cd ml ret) (X : Stand p l e R s m args below meth c T locs cells slots) {a b : Int32} {o : Int} (hd : decode cd pc = .ok (.if_icmp .ne o, 3)) (ho : 0 ≤ (pc : Int) + o) (py pn : Nat) (hy : ((pc : Int) + o).toNat = py) (hn : pc + 3 = pn) (h1 : ¬ a = b → Ends p e s below R Q T (mkF m py ls st)) (h2 : a = b → Ends p e s below R Q T (mkF m pn ls st)) : Ends p e s below R Q T (mkF m pc ls (.int b :: .int a :: st)) := by
  subst hn
  by_cases q : a = b
  · exact (h2 q).map fun _ r => XS.icmpNo X.here k.1 rfl (hb k.2.2.1 hd) rfl (teq q).2 r
  · exact (h1 q).map fun _ r => XS.icmpYes X.here k.1 rfl rfl (hb k.2.2.1 hd) rfl (feq q).2 ho hy r
theorem if_ne (k : K p s m meth c Z y cd ml ret) (X : Stand p l e R s m args below meth c T locs cells slots) {a : Int32} {o : Int} (hd : decode cd pc = .ok (.ifCond .ne o, 3)) (ho : 0 ≤ (pc : Int) + o) (py pn : Nat) (hy : ((pc : Int) + o).toNat = py) (hn : pc + 3 = pn) (h1 : ¬ a = 0 → Ends p e s below R Q T (mkF m py ls st)) (h2 : a = 0 → Ends p e s below R Q T (mkF m pn ls st)) : Ends p e s below R Q T (mkF m pc ls (.int a :: st)) := by
  subst hn
  by_cases q : a = 0
  · exact (h2 q).map fun _ r => XS.ifNo X.here k.1 rfl (hb k.2.2.1 hd) rfl ((if0 _ _).trans (teq q).2) r
  · exact (h1 q).map fun _ r => XS.ifYes X.here k.1 rfl rfl (hb k.2.2.1 hd) rfl ((if0 _ _).trans (feq q).2) ho hy r
theorem lcmp_lt (k : K p s m meth c Z y cd ml ret) (X : Stand p l e R s m args below meth c T locs cells slots) {a b : Int64} {o : Int} (hd0 : decode cd pc = .ok (.lcmp, 1)) (pc1 : Nat) (hp1 : pc + 1 = pc1) (hd : decode cd pc1 = .ok (.ifCond .lt o, 3)) (ho : 0 ≤ (pc1 : Int) + o) (py pn : Nat) (hy : ((pc1 : Int) + o).toNat = py) (hn : pc1 + 3 = pn) (h1 : a < b → Ends p e s below R Q T (mkF m py ls st)) (h2 : ¬ a < b → Ends p e s below R Q T (mkF m pn ls st)) : Ends p e s below R Q T (mkF m pc ls (.long b :: .long a :: st)) := by
  subst hp1
  refine Ends.map (T' := T) (f' := mkF m (pc + 1) ls (.int (lcmpW a b) :: st)) (fun _ q => XS.lcmp X.here k.1 rfl (hb k.2.2.1 hd0) rfl q) ?_
  exact if_lt k X hd ho py pn hy hn (fun q => h1 ((lw_lt a b).mp q)) (fun q => h2 (mt (lw_lt a b).mpr q))
theorem lcmp_ge (k : K p s m meth c Z y cd ml ret) (X : Stand p l e R s m args below meth c T locs cells slots) {a b : Int64} {o : Int} (hd0 : decode cd pc = .ok (.lcmp, 1)) (pc1 : Nat) (hp1 : pc + 1 = pc1) (hd : decode cd pc1 = .ok (.ifCond .ge o, 3)) (ho : 0 ≤ (pc1 : Int) + o) (py pn : Nat) (hy : ((pc1 : Int) + o).toNat = py) (hn : pc1 + 3 = pn) (h1 : ¬ a < b → Ends p e s below R Q T (mkF m py ls st)) (h2 : a < b → Ends p e s below R Q T (mkF m pn ls st)) : Ends p e s below R Q T (mkF m pc ls (.long b :: .long a :: st)) := by
  subst hp1
  refine Ends.map (T' := T) (f' := mkF m (pc + 1) ls (.int (lcmpW a b) :: st)) (fun _ q => XS.lcmp X.here k.1 rfl (hb k.2.2.1 hd0) rfl q) ?_
  exact if_ge k X hd ho py pn hy hn (fun q => h1 (mt (lw_lt a b).mpr q)) (fun q => h2 ((lw_lt a b).mp q))
theorem lcmp_gt (k : K p s m meth c Z y cd ml ret) (X : Stand p l e R s m args below meth c T locs cells slots) {a b : Int64} {o : Int} (hd0 : decode cd pc = .ok (.lcmp, 1)) (pc1 : Nat) (hp1 : pc + 1 = pc1) (hd : decode cd pc1 = .ok (.ifCond .gt o, 3)) (ho : 0 ≤ (pc1 : Int) + o) (py pn : Nat) (hy : ((pc1 : Int) + o).toNat = py) (hn : pc1 + 3 = pn) (h1 : b < a → Ends p e s below R Q T (mkF m py ls st)) (h2 : ¬ b < a → Ends p e s below R Q T (mkF m pn ls st)) : Ends p e s below R Q T (mkF m pc ls (.long b :: .long a :: st)) := by
  subst hp1
  refine Ends.map (T' := T) (f' := mkF m (pc + 1) ls (.int (lcmpW a b) :: st)) (fun _ q => XS.lcmp X.here k.1 rfl (hb k.2.2.1 hd0) rfl q) ?_
  exact if_gt k X hd ho py pn hy hn (fun q => h1 ((lw_gt a b).mp q)) (fun q => h2 (mt (lw_gt a b).mpr q))
theorem lcmp_le (k : K p s m meth c Z y cd ml ret) (X : Stand p l e R s m args below meth c T locs cells slots) {a b : Int64} {o : Int} (hd0 : decode cd pc = .ok (.lcmp, 1)) (pc1 : Nat) (hp1 : pc + 1 = pc1) (hd : decode cd pc1 = .ok (.ifCond .le o, 3)) (ho : 0 ≤ (pc1 : Int) + o) (py pn : Nat) (hy : ((pc1 : Int) + o).toNat = py) (hn : pc1 + 3 = pn) (h1 : ¬ b < a → Ends p e s below R Q T (mkF m py ls st)) (h2 : b < a → Ends p e s below R Q T (mkF m pn ls st)) : Ends p e s below R Q T (mkF m pc ls (.long b :: .long a :: st)) := by
  subst hp1
  refine Ends.map (T' := T) (f' := mkF m (pc + 1) ls (.int (lcmpW a b) :: st)) (fun _ q => XS.lcmp X.here k.1 rfl (hb k.2.2.1 hd0) rfl q) ?_
  exact if_le k X hd ho py pn hy hn (fun q => h1 (mt (lw_gt a b).mpr q)) (fun q => h2 ((lw_gt a b).mp q))
theorem lcmp_eq (k : K p s m meth c Z y cd ml ret) (X : Stand p l e R s m args below meth c T locs cells slots) {a b : Int64} {o : Int} (hd0 : decode cd pc = .ok (.lcmp, 1)) (pc1 : Nat) (hp1 : pc + 1 = pc1) (hd : decode cd pc1 = .ok (.ifCond .eq o, 3)) (ho : 0 ≤ (pc1 : Int) + o) (py pn : Nat) (hy : ((pc1 : Int) + o).toNat = py) (hn : pc1 + 3 = pn) (h1 : a = b → Ends p e s below R Q T (mkF m py ls st)) (h2 : ¬ a = b → Ends p e s below R Q T (mkF m pn ls st)) : Ends p e s below R Q T (mkF m pc ls (.long b :: .long a :: st)) := by
  subst hp1
  refine Ends.map (T' := T) (f' := mkF m (pc + 1) ls (.int (lcmpW a b) :: st)) (fun _ q => XS.lcmp X.here k.1 rfl (hb k.2.2.1 hd0) rfl q) ?_
  exact if_eq k X hd ho py pn hy hn (fun q => h1 ((lw_eq a b).mp q)) (fun q => h2 (mt (lw_eq a b).mpr q))
theorem lcmp_ne (k : K p s m meth c Z y cd ml ret) (X : Stand p l e R s m args below meth c T locs cells slots) {a b : Int64} {o : Int} (hd0 : decode cd pc = .ok (.lcmp, 1)) (pc1 : Nat) (hp1 : pc + 1 = pc1) (hd : decode cd pc1 = .ok (.ifCond .ne o, 3)) (ho : 0 ≤ (pc1 : Int) + o) (py pn : Nat) (hy : ((pc1 : Int) + o).toNat = py) (hn : pc1 + 3 = pn) (h1 : ¬ a = b → Ends p e s below R Q T (mkF m py ls st)) (h2 : a = b → Ends p e s below R Q T (mkF m pn ls st)) : Ends p e s below R Q T (mkF m pc ls (.long b :: .long a :: st)) := by
  subst hp1
  refine Ends.map (T' := T) (f' := mkF m (pc + 1) ls (.int (lcmpW a b) :: st)) (fun _ q => XS.lcmp X.here k.1 rfl (hb k.2.2.1 hd0) rfl q) ?_
  exact if_ne k X hd ho py pn hy hn (fun q => h1 (mt (lw_eq a b).mpr q)) (fun q => h2 ((lw_eq a b).mp q))
/-! references -/
theorem ifnull_y (k : K p s m meth c Z y cd ml ret) (X : Stand p l e R s m args below meth c T locs cells slots) {o : Int} (hd : decode cd pc = .ok (.ifnull o, 3)) (ho : 0 ≤ (pc : Int) + o) (pc' : Nat) (hp : ((pc : Int) + o).toNat = pc') (h : Ends p e s below R Q T (mkF m pc' ls st)) : Ends p e s below R Q T (mkF m pc ls (.null :: st)) := by
  exact h.map fun _ q => XS.ifnullYes X.here k.1 rfl rfl (hb k.2.2.1 hd) rfl ho hp q
theorem ifnull_n (k : K p s m meth c Z y cd ml ret) (X : Stand p l e R s m args below meth c T locs cells slots) {o : Int} {a : Addr} (hd : decode cd pc = .ok (.ifnull o, 3)) (pc' : Nat) (hp : pc + 3 = pc') (h : Ends p e s below R Q T (mkF m pc' ls st)) : Ends p e s below R Q T (mkF m pc ls (.ref a :: st)) := by
  subst hp; exact h.map fun _ q => XS.ifnullNo X.here k.1 rfl (hb k.2.2.1 hd) rfl q
theorem ifnonnull_y (k : K p s m meth c Z y cd ml ret) (X : Stand p l e R s m args below meth c T locs cells slots) {o : Int} {a : Addr} (hd : decode cd pc = .ok (.ifnonnull o, 3)) (ho : 0 ≤ (pc : Int) + o) (pc' : Nat) (hp : ((pc : Int) + o).toNat = pc') (h : Ends p e s below R Q T (mkF m pc' ls st)) : Ends p e s below R Q T (mkF m pc ls (.ref a :: st)) := by
  exact h.map fun _ q => XS.ifnonnullYes X.here k.1 rfl rfl (hb k.2.2.1 hd) rfl ho hp q
theorem ifnonnull_n (k : K p s m meth c Z y cd ml ret) (X : Stand p l e R s m args below meth c T locs cells slots) {o : Int} (hd : decode cd pc = .ok (.ifnonnull o, 3)) (pc' : Nat) (hp : pc + 3 = pc') (h : Ends p e s below R Q T (mkF m pc' ls st)) : Ends p e s below R Q T (mkF m pc ls (.null :: st)) := by
  subst hp; exact h.map fun _ q => XS.ifnonnullNo X.here k.1 rfl (hb k.2.2.1 hd) rfl q
/-! returns -/
theorem ret_int (k : K p s m meth c Z y cd ml ret) (X : Stand p l e R s m args below meth c T locs cells slots) (hret : ret = some .int) {z : Int32} (hd : decode cd pc = .ok (.ireturn, 1)) (hc : cells ≤ R.cells) (hs : slots ≤ R.slots) (h : Q (some (.int z)) T.heap locs) : Ends p e s below R Q T (mkF m pc ls (.int z :: st)) := by
  have hl := k.2.2.2.2.2.2.1
  obtain ⟨fs, hr, hrun, hended, hW, hsame⟩ := X.leave (v := some (.int z)) (fun q => by rw [k.2.2.2.2.2.1, hret] at q; cases q)
  exact ⟨_, _, retOut X k.1 (t := .int) (k.2.2.2.2.2.1.trans hret) rfl (Or.inl ⟨rfl, Or.inl rfl, _, rfl⟩) (hb k.2.2.1 hd) hr, hrun, hended, _, _, rfl, h, ⟨_, rfl⟩, hW, hsame.mono hc hs⟩
theorem ret_bool (k : K p s m meth c Z y cd ml ret) (X : Stand p l e R s m args below meth c T locs cells slots) (hret : ret = some .boolean) {z : Int32} (hd : decode cd pc = .ok (.ireturn, 1)) (hc : cells ≤ R.cells) (hs : slots ≤ R.slots) (hz : z = 0 ∨ z = 1) (h : Q (some (.int z)) T.heap locs) : Ends p e s below R Q T (mkF m pc ls (.int z :: st)) := by
  have hl := k.2.2.2.2.2.2.1
  obtain ⟨fs, hr, hrun, hended, hW, hsame⟩ := X.leave (v := some (.int z)) (fun q => by rw [k.2.2.2.2.2.1, hret] at q; cases q)
  exact ⟨_, _, retOut X k.1 (t := .boolean) (k.2.2.2.2.2.1.trans hret) (by rcases hz with rfl | rfl <;> rfl) (Or.inl ⟨rfl, Or.inr (Or.inl rfl), _, rfl⟩) (hb k.2.2.1 hd) hr, hrun, hended, _, _, rfl, h, ⟨_, rfl⟩, hW, hsame.mono hc hs⟩
theorem ret_long (k : K p s m meth c Z y cd ml ret) (X : Stand p l e R s m args below meth c T locs cells slots) (hret : ret = some .long) {z : Int64} (hd : decode cd pc = .ok (.lreturn, 1)) (hc : cells ≤ R.cells) (hs : slots ≤ R.slots) (h : Q (some (.long z)) T.heap locs) : Ends p e s below R Q T (mkF m pc ls (.long z :: st)) := by
  have hl := k.2.2.2.2.2.2.1
  obtain ⟨fs, hr, hrun, hended, hW, hsame⟩ := X.leave (v := some (.long z)) (fun q => by rw [k.2.2.2.2.2.1, hret] at q; cases q)
  exact ⟨_, _, retOut X k.1 (t := .long) (k.2.2.2.2.2.1.trans hret) rfl (Or.inr (Or.inl ⟨rfl, rfl, _, rfl⟩)) (hb k.2.2.1 hd) hr, hrun, hended, _, _, rfl, h, ⟨_, rfl⟩, hW, hsame.mono hc hs⟩
theorem ret_ref (k : K p s m meth c Z y cd ml ret) (X : Stand p l e R s m args below meth c T locs cells slots) {t : FieldType} (hret : ret = some t) (ht : t.isReference = true) {z : Value} (hz : z.isRef = true) (hn : narrow t z = z) (hd : decode cd pc = .ok (.areturn, 1)) (hc : cells ≤ R.cells) (hs : slots ≤ R.slots) (h : Q (some z) T.heap locs) : Ends p e s below R Q T (mkF m pc ls (z :: st)) := by
  have hl := k.2.2.2.2.2.2.1
  obtain ⟨fs, hr, hrun, hended, hW, hsame⟩ := X.leave (v := some z) (fun q => by rw [k.2.2.2.2.2.1, hret] at q; cases q)
  exact ⟨_, _, retOut X k.1 (t := t) (k.2.2.2.2.2.1.trans hret) hn (Or.inr (Or.inr (Or.inr (Or.inr ⟨rfl, ht, hz⟩)))) (hb k.2.2.1 hd) hr, hrun, hended, _, _, rfl, h, ⟨_, rfl⟩, hW, hsame.mono hc hs⟩
theorem ret_void (k : K p s m meth c Z y cd ml ret) (X : Stand p l e R s m args below meth c T locs cells slots) (hret : ret = none) (hd : decode cd pc = .ok (.return_, 1)) (hc : cells ≤ R.cells) (hs : slots ≤ R.slots) (h : Q none T.heap locs) : Ends p e s below R Q T (mkF m pc ls []) := by
  have hl := k.2.2.2.2.2.2.1
  obtain ⟨fs, hr, hrun, hended, hW, hsame⟩ := X.leave (v := none) (fun _ => rfl)
  exact ⟨_, _, X.returnOut k.1 (k.2.2.2.2.2.1.trans hret) (hb k.2.2.1 hd) hr, hrun, hended, _, _, rfl, h, ⟨_, rfl⟩, hW, hsame.mono hc hs⟩
/-! the heap -/
theorem getfield (k : K p s m meth c Z y cd ml ret) (X : Stand p l e R s m args below meth c T locs cells slots) {R0 O n d host : String} {idx : Nat} {a : Addr} {v : Value} (hd : decode cd pc = .ok (.getfield idx, 3)) (wl : (Jvm.Cond.fieldLink y.cls idx R0 n d).before a0 Z = true ∨ (Jvm.Cond.fieldLinkNest y.cls idx R0 n d host).before a0 Z = true) (via : Via Z R0 O n d) (e0 : T.heap = h) (F : Fld Z h a O n d v) (pc' : Nat) (hp : pc + 3 = pc')
    (g : ∀ T' : State, Stand p l e R s m args below meth c T' locs cells slots → T'.heap = h → Ends p e s below R Q T' (mkF m pc' ls (v :: st))) : Ends p e s below R Q T (mkF m pc ls (.ref a :: st)) := by
  subst hp
  obtain ⟨T', X', e', q⟩ := getF X k.1 k.2.1 k.2.2.2.2.1 wl via e0 F (g := mkF m pc ls (.ref a :: st)) rfl rfl (hb k.2.2.1 hd)
  exact (g T' X' e').map q
theorem getstatic (k : K p s m meth c Z y cd ml ret) (X : Stand p l e R s m args below meth c T locs cells slots) {O n d host : String} {idx : Nat} {v : Value} (hd : decode cd pc = .ok (.getstatic idx, 3)) (wl : (Jvm.Cond.fieldLink y.cls idx O n d).before a0 Z = true ∨ (Jvm.Cond.fieldLinkNest y.cls idx O n d host).before a0 Z = true) (e0 : T.heap = h) (F : Sta Z h O n d v) (pc' : Nat) (hp : pc + 3 = pc')
    (g : ∀ T' : State, Stand p l e R s m args below meth c T' locs cells slots → T'.heap = h → Ends p e s below R Q T' (mkF m pc' ls (v :: st))) : Ends p e s below R Q T (mkF m pc ls st) := by
  subst hp
  obtain ⟨T', X', e', q⟩ := getS2 X k.1 k.2.1 k.2.2.2.2.1 wl Via.refl e0 F (g := mkF m pc ls st) rfl (hb k.2.2.1 hd)
  exact (g T' X' e').map q
theorem putfield (k : K p s m meth c Z y cd ml ret) (X : Stand p l e R s m args below meth c T locs cells slots) {R0 O n d host C : String} {idx kk : Nat} {ty : FieldType} {a : Addr} {v old : Value} (hd : decode cd pc = .ok (.putfield idx, 3)) (wl : (Jvm.Cond.fieldLink y.cls idx R0 n d).before a0 Z = true ∨ (Jvm.Cond.fieldLinkNest y.cls idx R0 n d host).before a0 Z = true) (via : Via Z R0 O n d) (e0 : T.heap = h) (F : Fld Z h a O n d old) (E : Exa Z h a C)
    (L : (Jvm.Cond.lays C O n d).before a0 Z = true ∨ ((Jvm.Cond.laysFinal C O n d).before a0 Z = true ∧ y.cls = O ∧ y.name = "<init>")) (wi : (Jvm.Cond.instantiable C kk).before a0 Z = true) (hty : parseFieldDescriptor d = some ty) (hn : narrow ty v = v) (hf : fits ty v = true) (pc' : Nat) (hp : pc + 3 = pc')
    (g : ∀ (T' : State) (h' : Heap), Stand p l e R s m args below meth c T' (locs ++ [⟨a, Jvm.RoadKit.slotOf Z O n d⟩]) cells slots → T'.heap = h' → Wr h h' a (Jvm.RoadKit.slotOf Z O n d) v → Ends p e s below R Q T' (mkF m pc' ls st)) : Ends p e s below R Q T (mkF m pc ls (v :: .ref a :: st)) := by
  subst hp
  obtain ⟨T', h', X', e', W', q⟩ := putF X k.1 k.2.1 k.2.2.2.2.1 wl via e0 F E (L.imp id fun q => ⟨q.1, q.2.1, k.2.2.2.2.2.2.2.trans q.2.2⟩) wi hty hn hf (g := mkF m pc ls (v :: .ref a :: st)) rfl rfl (hb k.2.2.1 hd)
  exact (g T' h' X' e' W').map q
theorem initObj (k : K p s m meth c Z y cd ml ret) (X : Stand p l e R s m args below meth c T locs cells slots) {idx : Nat} {a : Addr} {W : Nat} (hd : decode cd pc = .ok (.invokespecial idx, 3)) (w1 : (Jvm.Cond.methodLink y.cls idx Lib.objectInit).before a0 Z = true) (w2 : (Jvm.Cond.instanceMethod Lib.objectInit).before a0 Z = true) (w3 : (Jvm.Cond.code Lib.objectInit ⟨#[0xb1]⟩ 1 none).before a0 Z = true) (e0 : T.heap = h) (hsz : ls.size = ml) (hf : 1 ≤ R.frames) (hW : (st.map fun v => v.category).sum + 12 ≤ R.locals) (pc' : Nat) (hp : pc + 3 = pc')
    (g : ∀ T' : State, Stand p l e R s m args below meth c T' locs cells slots → T'.heap = h → Ends p e s below R Q T' (mkF m pc' ls st)) : Ends p e s below R Q T (mkF m pc ls (.ref a :: st)) := by
  subst hp
  obtain ⟨T', X', e', q⟩ := initO X k.1 k.2.1 k.2.2.2.2.1 w1 w2 w3 e0 (g := mkF m pc ls (.ref a :: st)) rfl (hsz.trans k.2.2.2.1.symm) rfl (hb k.2.2.1 hd) hf (W := (st.map fun v => v.category).sum) (by show 2 * 0 + _ ≤ _; rw [Nat.mul_zero, Nat.zero_add]; exact Nat.le_refl _) hW
  exact (g T' X' e').map q
theorem new (k : K p s m meth c Z y cd ml ret) (X : Stand p l e R s m args below meth c T locs cells slots) {C : String} {idx n : Nat} (hd : decode cd pc = .ok (.new idx, 3)) (wl : (Jvm.Cond.classLink y.cls idx C).before a0 Z = true) (wi : (Jvm.Cond.instantiable C n).before a0 Z = true) (wz : (Jvm.Cond.initialized C).before a0 Z = true) (e0 : T.heap = h) (hc : cells + 1 ≤ R.cells) (hs : slots + n ≤ R.slots) (pc' : Nat) (hp : pc + 3 = pc')
    (g : ∀ (T' : State) (h' : Heap) (a : Addr), a = h.size → Stand p l e R s m args below meth c T' locs (cells + 1) (slots + n) → T'.heap = h' → Ext h h' → Exa Z h' a C → (∀ {O nm d : String} {ty : FieldType}, Laid Z a0 C O nm d → parseFieldDescriptor d = some ty → Fld Z h' a O nm d (defaultValue ty)) → Ends p e s below R Q T' (mkF m pc' ls (.ref a :: st))) : Ends p e s below R Q T (mkF m pc ls st) := by
  subst hp
  obtain ⟨T', h', X', e', E', A', D', -, q⟩ := newO X k.1 k.2.1 k.2.2.2.2.1 wl wi wz e0 (g := mkF m pc ls st) rfl (hb k.2.2.1 hd) hc hs
  exact (g T' h' h.size rfl X' e' E' A' D').map q
theorem checkcast (k : K p s m meth c Z y cd ml ret) (X : Stand p l e R s m args below meth c T locs cells slots) {C : String} {idx : Nat} {a : Addr} (hd : decode cd pc = .ok (.checkcast idx, 3)) (wl : (Jvm.Cond.classLink y.cls idx C).before a0 Z = true) (e0 : T.heap = h) (F : Ins Z h a C true) (pc' : Nat) (hp : pc + 3 = pc')
    (g : ∀ T' : State, Stand p l e R s m args below meth c T' locs cells slots → T'.heap = h → Ends p e s below R Q T' (mkF m pc' ls (.ref a :: st))) : Ends p e s below R Q T (mkF m pc ls (.ref a :: st)) := by
  subst hp
  obtain ⟨T', X', e', q⟩ := castY X k.1 k.2.1 k.2.2.2.2.1 wl e0 F (g := mkF m pc ls (.ref a :: st)) rfl rfl (hb k.2.2.1 hd)
  exact (g T' X' e').map q
theorem inst_y (k : K p s m meth c Z y cd ml ret) (X : Stand p l e R s m args below meth c T locs cells slots) {C : String} {idx : Nat} {a : Addr} (hd : decode cd pc = .ok (.instanceof idx, 3)) (wl : (Jvm.Cond.classLink y.cls idx C).before a0 Z = true) (e0 : T.heap = h) (F : Ins Z h a C true) (pc' : Nat) (hp : pc + 3 = pc')
    (g : ∀ T' : State, Stand p l e R s m args below meth c T' locs cells slots → T'.heap = h → Ends p e s below R Q T' (mkF m pc' ls (.int 1 :: st))) : Ends p e s below R Q T (mkF m pc ls (.ref a :: st)) := by
  subst hp
  obtain ⟨T', X', e', q⟩ := instY X k.1 k.2.1 k.2.2.2.2.1 wl e0 F (g := mkF m pc ls (.ref a :: st)) rfl rfl (hb k.2.2.1 hd)
  exact (g T' X' e').map q
theorem acmp_same (k : K p s m meth c Z y cd ml ret) (X : Stand p l e R s m args below meth c T locs cells slots) {cnd : ACond} {o : Int} {a : Addr} (hd : decode cd pc = .ok (.if_acmp cnd o, 3)) (ho : 0 ≤ (pc : Int) + o) (pc' : Nat) (hp : pc' = if acV cnd true = true then ((pc : Int) + o).toNat else pc + 3) (h : Ends p e s below R Q T (mkF m pc' ls st)) : Ends p e s below R Q T (mkF m pc ls (.ref a :: .ref a :: st)) := by
  exact h.map fun _ q => Jvm.RoadKit.acmp (g := mkF m pc ls (.ref a :: .ref a :: st)) X k.1 rfl rfl rfl rfl (hb k.2.2.1 hd) rfl (decide_eq_true rfl) ho hp q
theorem acmp_diff (k : K p s m meth c Z y cd ml ret) (X : Stand p l e R s m args below meth c T locs cells slots) {cnd : ACond} {o : Int} {a : Addr} {v : Value} (hd : decode cd pc = .ok (.if_acmp cnd o, 3)) (hv : v.isRef = true) (hne : Value.ref a ≠ v) (ho : 0 ≤ (pc : Int) + o) (pc' : Nat) (hp : pc' = if acV cnd false = true then ((pc : Int) + o).toNat else pc + 3) (h : Ends p e s below R Q T (mkF m pc' ls st)) : Ends p e s below R Q T (mkF m pc ls (v :: .ref a :: st)) := by
  exact h.map fun _ q => Jvm.RoadKit.acmp (g := mkF m pc ls (v :: .ref a :: st)) X k.1 rfl rfl hv rfl (hb k.2.2.1 hd) rfl (decide_eq_false hne) ho hp q
theorem inst_null (k : K p s m meth c Z y cd ml ret) (X : Stand p l e R s m args below meth c T locs cells slots) {idx : Nat} (hd : decode cd pc = .ok (.instanceof idx, 3)) (pc' : Nat) (hp : pc + 3 = pc') (h : Ends p e s below R Q T (mkF m pc' ls (.int 0 :: st))) : Ends p e s below R Q T (mkF m pc ls (.null :: st)) := by
  subst hp; exact h.map fun _ q => X.instanceofNull k.1 (g := mkF m pc ls (.null :: st)) rfl rfl (hb k.2.2.1 hd) _ q
theorem inst_n (k : K p s m meth c Z y cd ml ret) (X : Stand p l e R s m args below meth c T locs cells slots) {C : String} {idx : Nat} {a : Addr} (hd : decode cd pc = .ok (.instanceof idx, 3)) (wl : (Jvm.Cond.classLink y.cls idx C).before a0 Z = true) (e0 : T.heap = h) (F : Ins Z h a C false) {C' : String} (E : Exa Z h a C') (pc' : Nat) (hp : pc + 3 = pc')
    (g : ∀ T' : State, Stand p l e R s m args below meth c T' locs cells slots → T'.heap = h → Ends p e s below R Q T' (mkF m pc' ls (.int 0 :: st))) : Ends p e s below R Q T (mkF m pc ls (.ref a :: st)) := by
  subst hp
  obtain ⟨cell, cT, h1, h2, h3⟩ := F
  obtain ⟨cell', kc, e1, -, e3, e4, -⟩ := E
  cases h1.symm.trans e1
  obtain ⟨k', q, -⟩ := k.2.1.alike.2.2 _ _ e3
  obtain ⟨vm', X', st'⟩ := Jvm.Sym.instanceofNoAt X k.1 k.2.2.2.2.1 (mvT k.2.1 wl) (by rw [e0]; exact h1) e4 q (by rw [k.2.1.alike.findClass]; exact h2) (by rw [k.2.1.alike.assignable]; simpa [e4] using h3) (g := mkF m pc ls (.ref a :: st)) rfl rfl (hb k.2.2.1 hd)
  exact (g _ X' e0).map st'
end
/-! arrays: the list of what they hold -/
def Arl (Z : State) (h : Heap) (a : Addr) (ty : FieldType) (vs : List Value) : Prop := ∃ c : Cell, Arr Z h a c ty ∧ c.slots.toList = vs ∧ vs.length < 2147483648
section
variable {Z : State} {h h' : Heap} {a b : Addr} {ty : FieldType} {vs : List Value} {sl : Nat} {v : Value} {ws : List Addr}
theorem Arl.lt (F : Arl Z h a ty vs) : a < h.size := by obtain ⟨c, A, -⟩ := F; exact A.lt
theorem Arl.ext (F : Arl Z h a ty vs) (E : Ext h h') : Arl Z h' a ty vs := by obtain ⟨c, A, r⟩ := F; exact ⟨c, A.ext E, r⟩
theorem Arl.other (F : Arl Z h b ty vs) (W : Wr h h' a sl v) (q : b ≠ a) : Arl Z h' b ty vs := by obtain ⟨c, A, r⟩ := F; exact ⟨c, A.other W q, r⟩
theorem Arl.keep (F : Arl Z h a ty vs) (K : Keep h h' ws) (q : a ∉ ws) : Arl Z h' a ty vs := by obtain ⟨c, A, r⟩ := F; exact ⟨c, ⟨K.2.1 a c A.1 q, A.2⟩, r⟩
theorem Arl.same (F : Arl Z h a ty vs) (W : Wr h h' a sl v) : Arl Z h' a ty (vs.set sl v) := by
  obtain ⟨c, A, rfl, hl⟩ := F
  refine ⟨c.setSlot sl v, A.same W, ?_, by rw [List.length_set]; exact hl⟩
  simp [Cell.setSlot]
theorem tnc {j : Int32} {i : Nat} (hj : j.toInt = i) : j.toNatClampNeg = i := by simp only [Int32.toNatClampNeg, hj]; rfl
theorem inb {j : Int32} {i n : Nat} (hj : j.toInt = i) (hi : i < n) : ¬ (j < 0 ∨ n ≤ j.toNatClampNeg) := by
  rw [tnc hj]; intro q
  rcases q with q | q
  · rw [Int32.lt_iff_toInt_lt] at q; have e0 : (0 : Int32).toInt = 0 := rfl; omega
  · omega
theorem lt_of_get {xs : List Int32} {i : Nat} {x : Int32} (q : xs[i]? = some x) : i < xs.length := (List.getElem?_eq_some_iff.mp q).1
end
section
variable {p : Program} {l : Launch} {e : Env} {R : Room} {s : State} {m : MethodId} {args : Array Value} {below : List Frame} {meth : Method} {c : Code} {T : State} {locs : List Loc} {cells slots : Nat} {Z : State} {a0 : Array Value} {h : Heap} {y : MethodName} {cd : ByteArray} {ml : Nat} {ret : Option FieldType} {Q : Option Value → Heap → List Loc → Prop} {pc pc' : Nat} {ls : Array Slot} {st : List Value}
theorem arraylength (k : K p s m meth c Z y cd ml ret) (X : Stand p l e R s m args below meth c T locs cells slots) {ty : FieldType} {vs : List Value} {a : Addr} (hd : decode cd pc = .ok (.arraylength, 1)) (e0 : T.heap = h) (A : Arl Z h a ty vs) (n : Int32) (hn : n.toInt = vs.length) (pc' : Nat) (hp : pc + 1 = pc') (g : Ends p e s below R Q T (mkF m pc' ls (.int n :: st))) : Ends p e s below R Q T (mkF m pc ls (.ref a :: st)) := by
  subst hp
  obtain ⟨cl, Ar, rfl, hl⟩ := A
  have q : cl.slots.size.toInt32 = n := by
    apply Int32.toInt_inj.mp
    rw [len_toInt (by simpa using hl), hn]; simp
  refine g.map fun _ r => X.arraylength k.1 (by rw [e0]; exact Ar.1) (State.isArrayOf_alike k.2.1.alike Ar.2.1) (g := mkF m pc ls (.ref a :: st)) rfl rfl (hb k.2.2.1 hd) _ ?_
  rw [q]; exact r
theorem iaload (k : K p s m meth c Z y cd ml ret) (X : Stand p l e R s m args below meth c T locs cells slots) {xs : List Int32} {a : Addr} {j : Int32} (hd : decode cd pc = .ok (.iaload, 1)) (e0 : T.heap = h) (A : Arl Z h a .int (xs.map .int)) (i : Nat) (hj : j.toInt = i) (x : Int32) (hx : xs[i]? = some x) (pc' : Nat) (hp : pc + 1 = pc') (g : Ends p e s below R Q T (mkF m pc' ls (.int x :: st))) : Ends p e s below R Q T (mkF m pc ls (.int j :: .ref a :: st)) := by
  subst hp
  obtain ⟨cl, Ar, hs, hl⟩ := A
  have hz : cl.slots.size = xs.length := by rw [← Array.length_toList, hs, List.length_map]
  refine g.map fun _ r => X.iaload k.1 (j := j) (v := .int x) (by rw [e0]; exact Ar.1) (State.isArrayOf_alike k.2.1.alike Ar.2.1) Ar.2.2 (inb hj (hz ▸ lt_of_get hx)) ?_ (g := mkF m pc ls (.int j :: .ref a :: st)) rfl rfl (hb k.2.2.1 hd) _ r
  rw [tnc hj, ← Array.getElem?_toList, hs, List.getElem?_map, hx]; rfl
theorem baload (k : K p s m meth c Z y cd ml ret) (X : Stand p l e R s m args below meth c T locs cells slots) {xs : List Int32} {a : Addr} {j : Int32} (hd : decode cd pc = .ok (.baload, 1)) (e0 : T.heap = h) (A : Arl Z h a .byte (xs.map .int)) (i : Nat) (hj : j.toInt = i) (x : Int32) (hx : xs[i]? = some x) (pc' : Nat) (hp : pc + 1 = pc') (g : Ends p e s below R Q T (mkF m pc' ls (.int x :: st))) : Ends p e s below R Q T (mkF m pc ls (.int j :: .ref a :: st)) := by
  subst hp
  obtain ⟨cl, Ar, hs, hl⟩ := A
  have hz : cl.slots.size = xs.length := by rw [← Array.length_toList, hs, List.length_map]
  refine g.map fun _ r => X.baloadBytes k.1 (j := j) (v := .int x) (by rw [e0]; exact Ar.1) (State.isArrayOf_alike k.2.1.alike Ar.2.1) Ar.2.2 (inb hj (hz ▸ lt_of_get hx)) ?_ (g := mkF m pc ls (.int j :: .ref a :: st)) rfl rfl (hb k.2.2.1 hd) _ r
  rw [tnc hj, ← Array.getElem?_toList, hs, List.getElem?_map, hx]; rfl
theorem iastore (k : K p s m meth c Z y cd ml ret) (X : Stand p l e R s m args below meth c T locs cells slots) {xs : List Int32} {a : Addr} {j x : Int32} (hd : decode cd pc = .ok (.iastore, 1)) (e0 : T.heap = h) (A : Arl Z h a .int (xs.map .int)) (i : Nat) (hj : j.toInt = i) (hi : i < xs.length) (pc' : Nat) (hp : pc + 1 = pc')
    (g : ∀ (T' : State) (h' : Heap), Stand p l e R s m args below meth c T' (locs ++ [⟨a, i⟩]) cells slots → T'.heap = h' → Wr h h' a i (.int x) → Arl Z h' a .int ((xs.set i x).map .int) → Ends p e s below R Q T' (mkF m pc' ls st)) : Ends p e s below R Q T (mkF m pc ls (.int x :: .int j :: .ref a :: st)) := by
  subst hp
  have A' := A
  obtain ⟨cl, Ar, hs, hl⟩ := A
  have hz : cl.slots.size = xs.length := by rw [← Array.length_toList, hs, List.length_map]
  obtain ⟨T', h', X', e', W', q⟩ := stI X k.1 k.2.1 e0 Ar (j := j) (x := x) (inb hj (hz ▸ hi)) (g := mkF m pc ls (.int x :: .int j :: .ref a :: st)) rfl rfl (hb k.2.2.1 hd)
  rw [tnc hj] at X' W'
  exact (g T' h' X' e' W' (by rw [List.map_set]; exact A'.same W')).map q
theorem bastore (k : K p s m meth c Z y cd ml ret) (X : Stand p l e R s m args below meth c T locs cells slots) {xs : List Int32} {a : Addr} {j x : Int32} (hd : decode cd pc = .ok (.bastore, 1)) (e0 : T.heap = h) (A : Arl Z h a .byte (xs.map .int)) (i : Nat) (hj : j.toInt = i) (hi : i < xs.length) (x' : Int32) (hx' : x.toInt8.toInt32 = x') (pc' : Nat) (hp : pc + 1 = pc')
    (g : ∀ (T' : State) (h' : Heap), Stand p l e R s m args below meth c T' (locs ++ [⟨a, i⟩]) cells slots → T'.heap = h' → Wr h h' a i (.int x') → Arl Z h' a .byte ((xs.set i x').map .int) → Ends p e s below R Q T' (mkF m pc' ls st)) : Ends p e s below R Q T (mkF m pc ls (.int x :: .int j :: .ref a :: st)) := by
  subst hp hx'
  have A' := A
  obtain ⟨cl, Ar, hs, hl⟩ := A
  have hz : cl.slots.size = xs.length := by rw [← Array.length_toList, hs, List.length_map]
  obtain ⟨T', h', X', e', W', q⟩ := stB X k.1 k.2.1 e0 Ar (j := j) (x := x) (inb hj (hz ▸ hi)) (g := mkF m pc ls (.int x :: .int j :: .ref a :: st)) rfl rfl (hb k.2.2.1 hd)
  rw [tnc hj] at X' W'
  exact (g T' h' X' e' W' (by rw [List.map_set]; exact A'.same W')).map q
theorem newarray (k : K p s m meth c Z y cd ml ret) (X : Stand p l e R s m args below meth c T locs cells slots) {aty : ArrayType} {n : Int32} (hd : decode cd pc = .ok (.newarray aty, 2)) (wa : (Jvm.Cond.arrayClass (newarray.typeOf aty)).before a0 Z = true) (e0 : T.heap = h) (i : Nat) (hn : n.toInt = i) (cap : Nat) (hcap : i ≤ cap) (hb8 : cap * 8 ≤ 536870912) (hc : cells + 1 ≤ R.cells) (hs : slots + cap ≤ R.slots) (pc' : Nat) (hp : pc + 2 = pc')
    (g : ∀ (T' : State) (h' : Heap) (a : Addr), a = h.size → Stand p l e R s m args below meth c T' locs (cells + 1) (slots + cap) → T'.heap = h' → Ext h h' → Arl Z h' a (newarray.typeOf aty) (List.replicate i (defaultValue (newarray.typeOf aty))) → Ends p e s below R Q T' (mkF m pc' ls (.ref a :: st))) : Ends p e s below R Q T (mkF m pc ls (.int n :: st)) := by
  subst hp
  have h0 : ¬ n < 0 := by rw [Int32.lt_iff_toInt_lt]; have e0 : (0 : Int32).toInt = 0 := rfl; omega
  obtain ⟨T', h', cA, X', e', E', A', q⟩ := newP X k.1 k.2.1 wa e0 (g := mkF m pc ls (.int n :: st)) rfl (hb k.2.2.1 hd) rfl h0 (cap := cap) (by rw [tnc hn]; exact hcap) hb8 hc hs
  refine (g T' h' h.size rfl X' e' E' ⟨_, A', ?_, ?_⟩).map q
  · simp [newA, tnc hn]
  · rw [List.length_replicate]; omega
/-! calls, by the callee's contract -/
theorem callS (k : K p s m meth c Z y cd ml ret) (X : Stand p l e R s m args below meth c T locs cells slots) {y' : MethodName} {cd' : ByteArray} {ml' : Nat} {ret' : Option FieldType} {rm' : Room} {Qc : Option Value → Heap → List Loc → Prop} {idx : Nat} {ps : List FieldType} {rt : Option FieldType} (as : List Value) (rest : List Value) (hd : decode cd pc = .ok (.invokestatic idx, 3)) (M : Met l y' cd' ml' ret' rm' as.toArray Z h Qc []) (e0 : T.heap = h)
    (w1 : (Jvm.Cond.methodLink y.cls idx y').before a0 Z = true) (w2 : (Jvm.Cond.static y').before a0 Z = true) (w3 : (Jvm.Cond.initialized y'.cls).before a0 Z = true) (w4 : (Jvm.Cond.code y' cd' ml' ret').before a0 Z = true) (hy : y'.cls ≠ "java/lang/invoke/MethodHandle" ∧ y'.cls ≠ "java/lang/invoke/VarHandle") (hsz : ls.size = ml) (hlen : parseMethodDescriptor y'.desc = some ⟨ps, rt⟩) (hl2 : as.length = ps.length) (hst : st = as.reverse ++ rest)
    (hf : rm'.frames + 1 ≤ R.frames) (hlo : (rest.map fun v => v.category).sum + (ml' + 11) + rm'.locals ≤ R.locals) (hc : cells + rm'.cells ≤ R.cells) (hs : slots + rm'.slots ≤ R.slots) (pc' : Nat) (hp : pc + 3 = pc')
    (g : ∀ (T' : State) (v : Option Value) (L : List Loc), Stand p l e R s m args below meth c T' (locs ++ L) (cells + rm'.cells) (slots + rm'.slots) → Qc v T'.heap L → Ends p e s below R Q T' (mkF m pc' ls (v.toList ++ rest))) : Ends p e s below R Q T (mkF m pc ls st) := by
  subst hp hst
  obtain ⟨v, _, ⟨T', L', c', n'⟩, -, X', ⟨Lc, hQ, q1, q2, q3⟩, q⟩ := Jvm.LawKit.callS X k.1 (y := y') k.2.2.2.2.1 (mvT k.2.1 w1) (mvT k.2.1 w2) (mvT k.2.1 w3) (mvT k.2.1 w4) hy (backOf (W := (rest.map fun v => v.category).sum) M k.2.1 w4 w3 hf hlo) (g := mkF m pc ls (as.reverse ++ rest)) rfl (hsz.trans k.2.2.2.1.symm) (argsL := as) (rest := rest) (lenOf hlen hl2) rfl (by show 2 * 0 + _ ≤ _; rw [Nat.mul_zero, Nat.zero_add]; exact Nat.le_refl _) (hb k.2.2.1 hd) (fun _ _ => ⟨rfl, e0, hc, hs⟩)
  dsimp only [Pt.U, Pt.locs, Pt.cells, Pt.slots] at X' q1 q2 q3 q hQ
  subst q1 q2 q3
  exact (g T' v Lc X' hQ).map q
theorem callI (k : K p s m meth c Z y cd ml ret) (X : Stand p l e R s m args below meth c T locs cells slots) {y' : MethodName} {cd' : ByteArray} {ml' : Nat} {rm' : Room} {Qc : Option Value → Heap → List Loc → Prop} {idx : Nat} {ps : List FieldType} {rt : Option FieldType} {a : Addr} (as : List Value) (rest : List Value) (hd : decode cd pc = .ok (.invokespecial idx, 3)) (M : Met l y' cd' ml' none rm' (.ref a :: as).toArray Z h Qc []) (e0 : T.heap = h) (hin : y'.name = "<init>")
    (w1 : (Jvm.Cond.methodLink y.cls idx y').before a0 Z = true) (w2 : (Jvm.Cond.instanceMethod y').before a0 Z = true) (w3 : (Jvm.Cond.initialized y'.cls).before a0 Z = true) (w4 : (Jvm.Cond.code y' cd' ml' none).before a0 Z = true) (hy : y'.cls ≠ "java/lang/invoke/MethodHandle" ∧ y'.cls ≠ "java/lang/invoke/VarHandle") (hsz : ls.size = ml) (hlen : parseMethodDescriptor y'.desc = some ⟨ps, rt⟩) (hl2 : as.length = ps.length) (hst : st = as.reverse ++ .ref a :: rest)
    (hf : rm'.frames + 1 ≤ R.frames) (hlo : (rest.map fun v => v.category).sum + (ml' + 11) + rm'.locals ≤ R.locals) (hc : cells + rm'.cells ≤ R.cells) (hs : slots + rm'.slots ≤ R.slots) (pc' : Nat) (hp : pc + 3 = pc')
    (g : ∀ (T' : State) (v : Option Value) (L : List Loc), Stand p l e R s m args below meth c T' (locs ++ L) (cells + rm'.cells) (slots + rm'.slots) → Qc v T'.heap L → Ends p e s below R Q T' (mkF m pc' ls (v.toList ++ rest))) : Ends p e s below R Q T (mkF m pc ls st) := by
  subst hp hst
  obtain ⟨v, _, ⟨T', L', c', n'⟩, -, X', ⟨Lc, hQ, q1, q2, q3⟩, q⟩ := X.specialBack k.1 (y := y') hin k.2.2.2.2.1 (mvT k.2.1 w1) (mvT k.2.1 w2) (mvT k.2.1 w4) hy (backOf (W := (rest.map fun v => v.category).sum) M k.2.1 w4 w3 hf hlo) (g := mkF m pc ls (as.reverse ++ .ref a :: rest)) rfl (hsz.trans k.2.2.2.1.symm) (Steps.refl _) (a := a) (argsL := as) (rest := rest) (lenOf hlen hl2) rfl (by show 2 * 0 + _ ≤ _; rw [Nat.mul_zero, Nat.zero_add]; exact Nat.le_refl _) (hb k.2.2.1 hd) (fun _ _ => ⟨rfl, e0, hc, hs⟩)
  dsimp only [Pt.U, Pt.locs, Pt.cells, Pt.slots] at X' q1 q2 q3 q hQ
  subst q1 q2 q3
  exact (g T' v Lc X' hQ).map fun _ r => q.trans r
theorem callV (k : K p s m meth c Z y cd ml ret) (X : Stand p l e R s m args below meth c T locs cells slots) {y' : MethodName} {cd' : ByteArray} {ml' : Nat} {ret' : Option FieldType} {rm' : Room} {Qc : Option Value → Heap → List Loc → Prop} {idx : Nat} {ps : List FieldType} {rt : Option FieldType} {a : Addr} (as : List Value) (rest : List Value) (hd : decode cd pc = .ok (.invokevirtual idx, 3)) (M : Met l y' cd' ml' ret' rm' (.ref a :: as).toArray Z h Qc []) (e0 : T.heap = h) (E : Exa Z h a y'.cls)
    (w1 : (Jvm.Cond.methodLink y.cls idx y').before a0 Z = true) (w0 : (Jvm.Cond.declares y').before a0 Z = true) (ws : (Jvm.Cond.selects y'.cls y' y').before a0 Z = true) (w2 : (Jvm.Cond.instanceMethod y').before a0 Z = true) (w3 : (Jvm.Cond.initialized y'.cls).before a0 Z = true) (w4 : (Jvm.Cond.code y' cd' ml' ret').before a0 Z = true) (hy : y'.cls ≠ "java/lang/invoke/MethodHandle" ∧ y'.cls ≠ "java/lang/invoke/VarHandle") (hsz : ls.size = ml) (hlen : parseMethodDescriptor y'.desc = some ⟨ps, rt⟩) (hl2 : as.length = ps.length) (hst : st = as.reverse ++ .ref a :: rest)
    (hf : rm'.frames + 1 ≤ R.frames) (hlo : (rest.map fun v => v.category).sum + (ml' + 11) + rm'.locals ≤ R.locals) (hc : cells + rm'.cells ≤ R.cells) (hs : slots + rm'.slots ≤ R.slots) (pc' : Nat) (hp : pc + 3 = pc')
    (g : ∀ (T' : State) (v : Option Value) (L : List Loc), Stand p l e R s m args below meth c T' (locs ++ L) (cells + rm'.cells) (slots + rm'.slots) → Qc v T'.heap L → Ends p e s below R Q T' (mkF m pc' ls (v.toList ++ rest))) : Ends p e s below R Q T (mkF m pc ls st) := by
  subst hp hst
  obtain ⟨cq, kq, qa, qb, qc⟩ := isOf k.2.1 e0 E
  obtain ⟨v, _, ⟨T', L', c', n'⟩, -, X', ⟨Lc, hQ, q1, q2, q3⟩, q⟩ := X.virtualBack k.1 (y := y') (z := y') k.2.2.2.2.1 (mvT k.2.1 w1) (mvT k.2.1 w0) (notFace_of_selects (args := #[]) (mvT k.2.1 ws)) (mvT k.2.1 ws) (mvT k.2.1 w2) hy (backOf (W := (rest.map fun v => v.category).sum) M k.2.1 w4 w3 hf hlo) qa qc (g := mkF m pc ls (as.reverse ++ .ref a :: rest)) rfl (hsz.trans k.2.2.2.1.symm) (Steps.refl _) (argsL := as) (rest := rest) (lenOf hlen hl2) rfl (by show 2 * 0 + _ ≤ _; rw [Nat.mul_zero, Nat.zero_add]; exact Nat.le_refl _) (hb k.2.2.1 hd) (fun _ _ => ⟨rfl, e0, hc, hs⟩)
  dsimp only [Pt.U, Pt.locs, Pt.cells, Pt.slots] at X' q1 q2 q3 q hQ
  subst q1 q2 q3
  exact (g T' v Lc X' hQ).map fun _ r => q.trans r
theorem callP (k : K p s m meth c Z y cd ml ret) (X : Stand p l e R s m args below meth c T locs cells slots) {y' : MethodName} {cd' : ByteArray} {ml' : Nat} {ret' : Option FieldType} {rm' : Room} {Qc : Option Value → Heap → List Loc → Prop} {idx : Nat} {ps : List FieldType} {rt : Option FieldType} {a : Addr} {C : String} {ni : Nat} (as : List Value) (rest : List Value) (hd : decode cd pc = .ok (.invokevirtual idx, 3)) (M : Met l y' cd' ml' ret' rm' (.ref a :: as).toArray Z h Qc []) (e0 : T.heap = h) (E : Exa Z h a C)
    (w1 : (Jvm.Cond.methodLink y.cls idx y').before a0 Z = true) (w0 : (Jvm.Cond.privateMethod y').before a0 Z = true) (wi : (Jvm.Cond.instantiable y'.cls ni).before a0 Z = true) (w2 : (Jvm.Cond.instanceMethod y').before a0 Z = true) (w3 : (Jvm.Cond.initialized y'.cls).before a0 Z = true) (w4 : (Jvm.Cond.code y' cd' ml' ret').before a0 Z = true) (hy : y'.cls ≠ "java/lang/invoke/MethodHandle" ∧ y'.cls ≠ "java/lang/invoke/VarHandle") (hsz : ls.size = ml) (hlen : parseMethodDescriptor y'.desc = some ⟨ps, rt⟩) (hl2 : as.length = ps.length) (hst : st = as.reverse ++ .ref a :: rest)
    (hf : rm'.frames + 1 ≤ R.frames) (hlo : (rest.map fun v => v.category).sum + (ml' + 11) + rm'.locals ≤ R.locals) (hc : cells + rm'.cells ≤ R.cells) (hs : slots + rm'.slots ≤ R.slots) (pc' : Nat) (hp : pc + 3 = pc')
    (g : ∀ (T' : State) (v : Option Value) (L : List Loc), Stand p l e R s m args below meth c T' (locs ++ L) (cells + rm'.cells) (slots + rm'.slots) → Qc v T'.heap L → Ends p e s below R Q T' (mkF m pc' ls (v.toList ++ rest))) : Ends p e s below R Q T (mkF m pc ls st) := by
  subst hp hst
  obtain ⟨cq, qa, qb⟩ := E.cell
  obtain ⟨ci, ki, i1, i2, -, i4, -, -⟩ := Cond.instantiable_spec wi
  have ws := Jvm.Stand.selects_self_of_private (args := a0) i1 i2 (Bool.or_eq_false_iff.mp i4).1 (Cond.privateMethod_at w0) w2 hy
  obtain ⟨v, _, ⟨T', L', c', n'⟩, -, X', ⟨Lc, hQ, q1, q2, q3⟩, q⟩ := X.privateBack k.1 (y := y') k.2.2.2.2.1 (mvT k.2.1 w1) (mvT k.2.1 w2) (mvT k.2.1 ws) (Cond.privateMethod_at (mvP k.2.1 w0 (args := #[]))) (mvT k.2.1 w4) hy (backOf (W := (rest.map fun v => v.category).sum) M k.2.1 w4 w3 hf hlo) (g := mkF m pc ls (as.reverse ++ .ref a :: rest)) rfl (hsz.trans k.2.2.2.1.symm) (Steps.refl _) (a := a) (by rw [e0]; exact qa) qb (argsL := as) (rest := rest) (lenOf hlen hl2) rfl (by show 2 * 0 + _ ≤ _; rw [Nat.mul_zero, Nat.zero_add]; exact Nat.le_refl _) (hb k.2.2.1 hd) (fun _ _ => ⟨rfl, e0, hc, hs⟩)
  dsimp only [Pt.U, Pt.locs, Pt.cells, Pt.slots] at X' q1 q2 q3 q hQ
  subst q1 q2 q3
  exact (g T' v Lc X' hQ).map fun _ r => q.trans r
end
end Wk

theorem own_len (x : Int32) : 1 ≤ ((x &&& (2147483647 : Int32)) % (2147483638 : Int32) + (1 : Int32)).toInt ∧ ((x &&& (2147483647 : Int32)) % (2147483638 : Int32) + (1 : Int32)).toInt ≤ 2147483638 := by
  have h1 := c_mask x 2147483647 31 (by decide) (by decide)
  have h2 := (c_irem (x &&& (2147483647 : Int32)) 2147483638 2147483638 (by decide)).1
  have h3 := c_iadd ((x &&& (2147483647 : Int32)) % (2147483638 : Int32)) 1
  have h4 := rng32 ((x &&& (2147483647 : Int32)) % (2147483638 : Int32) + (1 : Int32))
  have h5 : (1 : Int32).toInt = 1 := rfl
  generalize ((x &&& (2147483647 : Int32)) % (2147483638 : Int32) + (1 : Int32)).toInt = a at *
  generalize ((x &&& (2147483647 : Int32)) % (2147483638 : Int32)).toInt = b at *
  generalize (x &&& (2147483647 : Int32)).toInt = d at *
  have h6 : 0 ≤ d := by omega
  have h7 := h2 h6
  omega
theorem own_dbl (n : Int32) (h1 : 1 ≤ n.toInt) (h2 : n.toInt ≤ 2147483638) :
    ((if (2147483639 : Int64) < (2 : Int64) * n.toInt64 then (2147483639 : Int64) else (2 : Int64) * n.toInt64).toInt32).toInt = if n.toInt ≤ 1073741819 then 2 * n.toInt else 2147483639 := by
  have a1 := c_lmul 2 n.toInt64
  have a2 := c_i2l n
  have a3 := rng64 (2 * n.toInt64)
  have a4 : (2 : Int64).toInt = 2 := rfl
  have a5 : (2147483639 : Int64).toInt = 2147483639 := rfl
  have a6 : (2 * n.toInt64).toInt = 2 * n.toInt := by rw [a2, a4] at a1; omega
  by_cases q : (2147483639 : Int64) < (2 : Int64) * n.toInt64
  · rw [if_pos q]
    rw [Int64.lt_iff_toInt_lt, a5, a6] at q
    rw [if_neg (by omega)]; rfl
  · rw [if_neg q]
    rw [Int64.lt_iff_toInt_lt, a5, a6] at q
    rw [if_pos (by omega)]
    have b1 := c_l2i (2 * n.toInt64)
    have b2 := rng32 (2 * n.toInt64).toInt32
    omega
theorem own_sum (n : Int32) (h1 : 1 ≤ n.toInt) (h2 : ¬ (1073741819 : Int32) < n) : (n + n).toInt = if n.toInt ≤ 1073741819 then 2 * n.toInt else 2147483639 := by
  rw [Int32.lt_iff_toInt_lt] at h2
  have a1 : (1073741819 : Int32).toInt = 1073741819 := rfl
  have a2 := c_iadd n n
  have a3 := rng32 (n + n)
  rw [if_pos (by omega)]; omega
theorem own_top (n : Int32) (h2 : (1073741819 : Int32) < n) : (2147483639 : Int32).toInt = if n.toInt ≤ 1073741819 then 2 * n.toInt else 2147483639 := by
  rw [Int32.lt_iff_toInt_lt] at h2
  have a1 : (1073741819 : Int32).toInt = 1073741819 := rfl
  rw [if_neg (by omega)]; rfl
theorem d_Math_min_0 : decode jdk_29_method_70_code 0 = .ok (.lload_n 0, 1) := by decide +kernel
theorem d_Math_min_1 : decode jdk_29_method_70_code 1 = .ok (.lload_n 2, 1) := by decide +kernel
theorem d_Math_min_2 : decode jdk_29_method_70_code 2 = .ok (.lcmp, 1) := by decide +kernel
theorem d_Math_min_3 : decode jdk_29_method_70_code 3 = .ok (.ifCond .gt 7, 3) := by decide +kernel
theorem d_Math_min_6 : decode jdk_29_method_70_code 6 = .ok (.lload_n 0, 1) := by decide +kernel
theorem d_Math_min_7 : decode jdk_29_method_70_code 7 = .ok (.goto 4, 3) := by decide +kernel
theorem d_Math_min_10 : decode jdk_29_method_70_code 10 = .ok (.lload_n 2, 1) := by decide +kernel
theorem d_Math_min_11 : decode jdk_29_method_70_code 11 = .ok (.lreturn, 1) := by decide +kernel
theorem pn_Math_min : plainFor (⟨"java/lang/Math", "min", "(JJ)J"⟩ : MethodName) = true := Jvm.Free.JP.mathPlain rfl (by decide +kernel)
theorem pd_Math_min : parseMethodDescriptor "(JJ)J" = some ⟨[.long, .long], (some .long)⟩ := by decide +kernel
theorem ef_mn (m : MethodId) (a b : Int64) : entryFrame m #[(.long a), (.long b)] 4 = mkF m 0 #[.val (.long a), .second, .val (.long b), .second] [] := by first | (simp [entryFrame, mkF, argsToLocals, Value.category]; done) | rfl
set_option maxRecDepth 65536 in
set_option maxHeartbeats 40000000 in
theorem rm_mn (l : Launch) (Z : State) (a0 : Array Value) (hw : ∀ d ∈ tables_1, d.before a0 Z = true) (a b : Int64) (h0 : Heap) : Wk.Met l (⟨"java/lang/Math", "min", "(JJ)J"⟩ : MethodName) jdk_29_method_70_code 4 (some .long) ({ frames := 0, cells := 0, slots := 0, locals := 0 } : Room) #[(.long a), (.long b)] Z h0 (fun v h L => v = some (.long (if b < a then b else a)) ∧ h = h0 ∧ L = []) [] := by
  refine Wk.enter pn_Math_min (fun p e s m below meth c T0 k X0 e0 => ?_)
  refine (Wk.Ends.cast (ef_mn m a b) ?_)
  refine Wk.lload_n k X0 d_Math_min_0 rfl 1 rfl ?_
  refine Wk.lload_n k X0 d_Math_min_1 rfl 2 rfl ?_
  refine Wk.lcmp_gt k X0 d_Math_min_2 3 rfl d_Math_min_3 (by decide) 10 6 (by decide) rfl (fun hc3 => ?_) (fun hc3 => ?_)
  · refine Wk.lload_n k X0 d_Math_min_10 rfl 11 rfl ?_
    exact Wk.ret_long k X0 rfl d_Math_min_11 (by decide) (by decide) ⟨by simp [hc3], e0, rfl⟩
  · refine Wk.lload_n k X0 d_Math_min_6 rfl 7 rfl ?_
    refine Wk.goto k X0 d_Math_min_7 (by decide) 11 (by decide) ?_
    exact Wk.ret_long k X0 rfl d_Math_min_11 (by decide) (by decide) ⟨by simp [hc3], e0, rfl⟩
theorem d_ArrayLengths_doubled_0 : decode prog_3_method_2_code 0 = .ok (.iload_n 0, 1) := by decide +kernel
theorem d_ArrayLengths_doubled_1 : decode prog_3_method_2_code 1 = .ok (.ldc 11, 2) := by decide +kernel
theorem d_ArrayLengths_doubled_3 : decode prog_3_method_2_code 3 = .ok (.if_icmp .lt 17, 3) := by decide +kernel
theorem d_ArrayLengths_doubled_20 : decode prog_3_method_2_code 20 = .ok (.ldc2_w 21, 3) := by decide +kernel
theorem d_ArrayLengths_doubled_23 : decode prog_3_method_2_code 23 = .ok (.iload_n 0, 1) := by decide +kernel
theorem d_ArrayLengths_doubled_24 : decode prog_3_method_2_code 24 = .ok (.i2l, 1) := by decide +kernel
theorem d_ArrayLengths_doubled_25 : decode prog_3_method_2_code 25 = .ok (.lmul, 1) := by decide +kernel
theorem d_ArrayLengths_doubled_26 : decode prog_3_method_2_code 26 = .ok (.ldc2_w 23, 3) := by decide +kernel
theorem d_ArrayLengths_doubled_29 : decode prog_3_method_2_code 29 = .ok (.invokestatic 25, 3) := by decide +kernel
theorem d_ArrayLengths_doubled_32 : decode prog_3_method_2_code 32 = .ok (.l2i, 1) := by decide +kernel
theorem d_ArrayLengths_doubled_33 : decode prog_3_method_2_code 33 = .ok (.ireturn, 1) := by decide +kernel
theorem pn_ArrayLengths_doubled : plainFor (⟨"com/example/acomp/acomp/ArrayLengths", "doubled", "(I)I"⟩ : MethodName) = true := plainFor_of_name (by first | (simp [plainName, overriddenIn, x]; done) | decide +kernel)
theorem pd_ArrayLengths_doubled : parseMethodDescriptor "(I)I" = some ⟨[.int], (some .int)⟩ := by decide +kernel
theorem ef_db (m : MethodId) (n : Int32) : entryFrame m #[(.int n)] 1 = mkF m 0 #[.val (.int n)] [] := by first | (simp [entryFrame, mkF, argsToLocals, Value.category]; done) | rfl
set_option maxRecDepth 65536 in
set_option maxHeartbeats 40000000 in
theorem rm_db (l : Launch) (Z : State) (a0 : Array Value) (hw : ∀ d ∈ tables_1, d.before a0 Z = true) (n : Int32) (h1 : 1 ≤ n.toInt) (h2 : n.toInt ≤ 2147483638) (h0 : Heap) : Wk.Met l (⟨"com/example/acomp/acomp/ArrayLengths", "doubled", "(I)I"⟩ : MethodName) prog_3_method_2_code 1 (some .int) ({ frames := 1, cells := 0, slots := 0, locals := 15 } : Room) #[(.int n)] Z h0 (fun v h L => ∃ r : Int32, v = some (.int r) ∧ r.toInt = (if n.toInt ≤ 1073741819 then 2 * n.toInt else 2147483639) ∧ h = h0 ∧ L = []) [] := by
  refine Wk.enter pn_ArrayLengths_doubled (fun p e s m below meth c T0 k X0 e0 => ?_)
  refine (Wk.Ends.cast (ef_db m n) ?_)
  refine Wk.iload_n k X0 d_ArrayLengths_doubled_0 rfl 1 rfl ?_
  refine Wk.ldc k X0 (z := (2147483639 : Int32)) d_ArrayLengths_doubled_1 (Wk.w hw 7 rfl) 3 rfl ?_
  refine Wk.icmp_lt k X0 d_ArrayLengths_doubled_3 (by decide) 20 6 (by decide) rfl (fun hc3 => ?_) (fun hc3 => ?_)
  · refine Wk.ldc2_w k X0 (z := (2 : Int64)) d_ArrayLengths_doubled_20 (Wk.w hw 8 rfl) 23 rfl ?_
    refine Wk.iload_n k X0 d_ArrayLengths_doubled_23 rfl 24 rfl ?_
    refine Wk.i2l k X0 d_ArrayLengths_doubled_24 25 rfl ?_
    refine Wk.lmul k X0 d_ArrayLengths_doubled_25 26 rfl ?_
    refine Wk.ldc2_w k X0 (z := (2147483639 : Int64)) d_ArrayLengths_doubled_26 (Wk.w hw 9 rfl) 29 rfl ?_
    refine Wk.callS k X0 [(.long ((2 : Int64) * ((n).toInt64))), (.long (2147483639 : Int64))] [] d_ArrayLengths_doubled_29 (rm_mn l Z a0 hw _ _ h0) e0 (Wk.w hw 10 rfl) (Wk.w hw 11 rfl) (Wk.w hw 12 rfl) (Wk.w hw 13 rfl) (by decide) rfl pd_Math_min rfl rfl (by decide) (by decide) (by decide) (by decide) 32 rfl fun T1 v1 L1 X1 hQ1 => ?_
    obtain ⟨rfl, e1, rfl⟩ := hQ1
    show Wk.Ends _ _ _ _ _ _ _ (mkF m 32 _ [.long (if (2147483639 : Int64) < ((2 : Int64) * ((n).toInt64)) then (2147483639 : Int64) else ((2 : Int64) * ((n).toInt64)))])
    refine Wk.l2i k X1 d_ArrayLengths_doubled_32 33 rfl ?_
    exact Wk.ret_int k X1 rfl d_ArrayLengths_doubled_33 (by decide) (by decide) ⟨_, rfl, own_dbl n h1 h2, e1, rfl⟩
  · exact absurd (by rw [Int32.lt_iff_toInt_lt]; have a1 : (2147483639 : Int32).toInt = 2147483639 := rfl; omega) hc3
theorem pn_ArrayLengthsDoubledPinLaw_law : plainFor x = true := plainFor_of_name (by first | (simp [plainName, overriddenIn, x]; done) | decide +kernel)
set_option maxRecDepth 65536 in
set_option maxHeartbeats 40000000 in
theorem law_26 {p : Program} {l : Launch} {e : Env} {s : State} {m : MethodId} {args : Array Value} {below : List Frame} {meth : Method} {c : Code} {T0 : State} {Z : State} {a0 : Array Value} {h0 : Heap} {n0 : Nat} (hw : ∀ d ∈ tables_1, d.before a0 Z = true) (k : Wk.K p s m meth c Z x code maxLocals ret) (X0 : Stand p l e room_1 s m args below meth c T0 [] 0 0) (e0 : T0.heap = h0) (p0 n x2 : Int32) (h1 : 1 ≤ n.toInt) (h2 : n.toInt ≤ 2147483638) (he : x2.toInt = if n.toInt ≤ 1073741819 then 2 * n.toInt else 2147483639) : Wk.Ends p e s below room_1 (fun v _ L => v = some (.int 1) ∧ Fr n0 L) T0 (mkF m 26 #[.val (.int p0), .val (.int n), .val (.int x2), .unset] []) := by
  refine Wk.iload_n k X0 at_26 rfl 27 rfl ?_
  refine Wk.callS k X0 [(.int n)] [] at_27 (rm_db l Z a0 hw n h1 h2 h0) e0 (Wk.w hw 3 rfl) (Wk.w hw 4 rfl) (Wk.w hw 5 rfl) (Wk.w hw 6 rfl) (by decide) rfl pd_ArrayLengths_doubled rfl rfl (by decide) (by decide) (by decide) (by decide) 30 rfl fun T1 v1 L1 X1 hQ1 => ?_
  obtain ⟨r, rfl, hr, e1, rfl⟩ := hQ1
  show Wk.Ends _ _ _ _ _ _ _ (mkF m 30 _ [.int r])
  refine Wk.istore_n k X1 at_30 #[.val (.int p0), .val (.int n), .val (.int x2), .val (.int r)] rfl 31 rfl ?_
  refine Wk.iload_n k X1 at_31 rfl 32 rfl ?_
  refine Wk.iload_n k X1 at_32 rfl 33 rfl ?_
  refine Wk.icmp_ne k X1 at_33 (by decide) 51 36 (by decide) rfl (fun hc33 => ?_) (fun hc33 => ?_)
  · exact absurd (Int32.toInt_inj.mp (hr.trans he.symm)) hc33
  · refine Wk.iload_n k X1 at_36 rfl 37 rfl ?_
    refine Wk.iload_n k X1 at_37 rfl 38 rfl ?_
    refine Wk.icmp_le k X1 at_38 (by decide) 51 41 (by decide) rfl (fun hc38 => ?_) (fun hc38 => ?_)
    · exact absurd (by rw [Int32.lt_iff_toInt_lt, hr]; split <;> omega) hc38
    · refine Wk.iload_n k X1 at_41 rfl 42 rfl ?_
      refine Wk.ldc k X1 (z := (2147483639 : Int32)) at_42 (Wk.w hw 14 rfl) 44 rfl ?_
      refine Wk.icmp_gt k X1 at_44 (by decide) 51 47 (by decide) rfl (fun hc44 => ?_) (fun hc44 => ?_)
      · exact absurd hc44 (by rw [Int32.lt_iff_toInt_lt, hr]; have a1 : (2147483639 : Int32).toInt = 2147483639 := rfl; split <;> omega)
      · refine Wk.iconst k X1 at_47 (1 : Int32) rfl 48 rfl ?_
        refine Wk.goto k X1 at_48 (by decide) 52 (by decide) ?_
        exact Wk.ret_bool k X1 rfl at_52 (by decide) (by decide) (by decide) ⟨rfl, Fr.nil _⟩
theorem ef_law (m : MethodId) (p0 : Int32) : entryFrame m #[(.int p0)] maxLocals = mkF m 0 #[.val (.int p0), .unset, .unset, .unset] [] := by first | (simp [entryFrame, mkF, argsToLocals, Value.category, maxLocals]; done) | rfl
set_option maxRecDepth 65536 in
set_option maxHeartbeats 40000000 in
theorem rm0 (l : Launch) (Z : State) (a0 : Array Value) (hw : ∀ d ∈ tables_1, d.before a0 Z = true) (ws : List Jvm.Cond) (p0 : Int32) (h0 : Heap) (n0 : Nat) (Z0 : n0 ≤ h0.size) : Wk.Met l x code maxLocals ret room_1 #[(.int p0)] Z h0 (fun v _ L => v = some (.int 1) ∧ Fr n0 L) ws := by
  refine Wk.enter pn_ArrayLengthsDoubledPinLaw_law (fun p e s m below meth c T0 k X0 e0 => ?_)
  refine (Wk.Ends.cast (ef_law m p0) ?_)
  refine Wk.iload_n k X0 at_0 rfl 1 rfl ?_
  refine Wk.ldc k X0 (z := (2147483647 : Int32)) at_1 (Wk.w hw 0 rfl) 3 rfl ?_
  refine Wk.iand k X0 at_3 4 rfl ?_
  refine Wk.ldc k X0 (z := (2147483638 : Int32)) at_4 (Wk.w hw 1 rfl) 6 rfl ?_
  refine Wk.irem k X0 at_6 (by decide) 7 rfl ?_
  refine Wk.iconst k X0 at_7 (1 : Int32) rfl 8 rfl ?_
  refine Wk.iadd k X0 at_8 9 rfl ?_
  refine Wk.istore_n k X0 at_9 #[.val (.int p0), .val (.int (((p0 &&& (2147483647 : Int32)) % (2147483638 : Int32)) + (1 : Int32))), .unset, .unset] rfl 10 rfl ?_
  refine Wk.iload_n k X0 at_10 rfl 11 rfl ?_
  refine Wk.ldc k X0 (z := (1073741819 : Int32)) at_11 (Wk.w hw 2 rfl) 13 rfl ?_
  refine Wk.icmp_gt k X0 at_13 (by decide) 23 16 (by decide) rfl (fun hc13 => ?_) (fun hc13 => ?_)
  · refine Wk.ldc k X0 (z := (2147483639 : Int32)) at_23 (Wk.w hw 14 rfl) 25 rfl ?_
    refine Wk.istore_n k X0 at_25 #[.val (.int p0), .val (.int (((p0 &&& (2147483647 : Int32)) % (2147483638 : Int32)) + (1 : Int32))), .val (.int (2147483639 : Int32)), .unset] rfl 26 rfl ?_
    exact law_26 hw k X0 e0 p0 _ _ (own_len p0).1 (own_len p0).2 (own_top _ hc13)
  · refine Wk.iload_n k X0 at_16 rfl 17 rfl ?_
    refine Wk.iload_n k X0 at_17 rfl 18 rfl ?_
    refine Wk.iadd k X0 at_18 19 rfl ?_
    refine Wk.istore_n k X0 at_19 #[.val (.int p0), .val (.int (((p0 &&& (2147483647 : Int32)) % (2147483638 : Int32)) + (1 : Int32))), .val (.int ((((p0 &&& (2147483647 : Int32)) % (2147483638 : Int32)) + (1 : Int32)) + (((p0 &&& (2147483647 : Int32)) % (2147483638 : Int32)) + (1 : Int32)))), .unset] rfl 20 rfl ?_
    refine Wk.goto k X0 at_20 (by decide) 26 (by decide) ?_
    exact law_26 hw k X0 e0 p0 _ _ (own_len p0).1 (own_len p0).2 (own_sum _ (own_len p0).1 hc13)
set_option maxRecDepth 65536 in
set_option maxHeartbeats 40000000 in
theorem comes_1 {Post : Tables → Env → Array Value → State → Outcome → State → Prop} (hpost : ∀ tb e args s v u, (limb_1_1.after args s (.returned v) u = true ∧ limb_1_2.after args s (.returned v) u = true) → FrameEnd s (.returned v) u (Jvm.fieldLocs frame_1_writes args s ++ Jvm.arrayLocs frame_1_arrays args s ++ Jvm.staticLocs frame_1_statics s) 0 0 → Post tb e args s (.returned v) u) :
    ArmFor flags0 classFile x code maxLocals ret World_1 tables_1 room_1 Calls_1 rest_1 Pre_1 Post := by
  intro l hfl _ _ p e ha hc hk s m args below hf hA hF happ hP
  obtain ⟨hcalls, hrest, hpre⟩ := hP
  obtain ⟨-, -, -, hnamed, -, -, -, hat⟩ := (Spec.applies_iff hf).mp happ
  obtain ⟨hg, hn⟩ := and_e (Cond.before_iff.mp (show (Jvm.Cond.and given_1 narrow_1).before args s = true from hpre))
  obtain ⟨gc, g0⟩ := and_e hg
  have q0 := g0
  obtain ⟨w0, rfl⟩ : ∃ w0 : Value, args = #[w0] := by
    have hs : args.size = 1 := by simpa [Cond.value, given_1] using gc
    obtain ⟨L⟩ := args
    match L, hs with
    | [w0], _ => exact ⟨w0, rfl⟩
  have hw := fun d (hd : d ∈ tables_1) => atoms_spec (ws := Jvm.Cond.code x code maxLocals ret :: tables_1) hat d (List.mem_cons_of_mem _ hd)
  have hfit : Fit s := fun {y c} hc i hi => by
    obtain ⟨ha, rfl⟩ := Array.getElem?_eq_some_iff.mp hc
    have q := List.all_eq_true.mp ((Array.all_eq_true_iff_forall_mem.mp hF) _ (Array.getElem_mem ha)) i (List.mem_range.mpr hi)
    simpa [Array.getElem?_eq_getElem hi] using q
  obtain ⟨i0, ei0⟩ := is_v q0
  obtain rfl : w0 = (.int i0) := Option.some.inj ei0
  obtain ⟨n, o, h1, h2, h3, _, L, rfl, ⟨rfl, N⟩, hq⟩ := rm0 l s _ hw tables_1 i0 s.heap s.heap.size (Nat.le_refl _) p e ha hc hk s m _ below hf ((Spec.applies_iff_loose hf).mp happ).1 ⟨rfl, State.Warmed39.refl s, rfl⟩ trivial
  exact ⟨n, _, h1, h2, h3, hpost _ _ _ _ _ _ ⟨Cond.after_iff.mpr rfl, Cond.after_iff.mpr (eq_i res_at (Term.int_eval (1)) rfl)⟩ ⟨hq.1, hq.2.1, (hq.2.2.sift fun y hy => Or.inr (N y hy)).mono (by decide) (by decide)⟩⟩
theorem main_1_1 : Claimed_1_1 := comes_1 fun _ _ _ _ _ _ h hF => ⟨h.1, hF⟩
theorem main_1_2 : Claimed_1_2 := comes_1 fun _ _ _ _ _ _ h hF => ⟨h.2, hF⟩
end Jvm.Pilot.@@N@@
namespace Jvm.Pilot.@@N@@
open Jvm Jvm.ClassFile Sem Op Lib Jvm.Free Jvm.Stand Jvm.Pilot.@@N@@.Jvm.D
/-! MADE BY PROGRAM (witnessworld.py) out of the Statement's table words and the real class files: 10 classes; the members and pool entries that the words name. The judged class is class 1, her method 1. -/
namespace start1
open Jvm.ClassFile
def u (s : String) : CpInfo := .utf8 (stringToUtf16 s)
/-- a pool by its gaps: so many unusable entries, then the entry; so many at the end -/
def gap : Nat → List CpInfo → List CpInfo
  | 0, r => r
  | n + 1, r => .unusable :: gap n r
def poolList (es : List (Nat × CpInfo)) (last : Nat) : List CpInfo := es.foldr (fun e r => gap e.1 (e.2 :: r)) (gap last [])
def pool (es : List (Nat × CpInfo)) (last : Nat) : Array CpInfo := ⟨poolList es last⟩
def fileOf (pool : Array CpInfo) (this : Nat) (attrs : Array Attribute := #[]) (ms : Array MethodInfo := #[]) (fl : Nat := 33) (sup : Nat := 0) (ifs : Array Nat := #[]) (fds : Array FieldInfo := #[]) : ClassFile where
  minorVersion := 0
  majorVersion := 65
  constantPool := pool
  accessFlags := fl
  thisClass := this
  superClass := sup
  interfaces := ifs
  fields := fds
  methods := ms
  attributes := attrs
def plain (name : String) (sup : Option ClassId) : Class where
  name := name
  kind := .ordinary
  loader := none
  accessFlags := 33
  super := sup
  interfaces := #[]
  cf := none
  fields := #[]
  methods := #[]
  instanceTypes := #[]
  staticTypes := #[]
  resolved := #[]
  callSites := []
  init := .initialized
  statics := none
  mirror := none

def pool0 : Array CpInfo := pool [(5, u "<init>"), (0, u "()V"), (1, .class_ 10), (1, u "java/lang/Object")] 113

def k0m0 : Method := { name := "<init>", desc := "()V", sig := { parameters := [], returnType := none }, accessFlags := 1, code := none }
/-- java/lang/Object -/
def k0 : Class := { plain "java/lang/Object" none with
  accessFlags := 33
  interfaces := #[]
  cf := some (fileOf pool0 8 #[] #[{ accessFlags := 1, nameIndex := 5, descriptorIndex := 6, attributes := #[] }] 33 0 #[] #[])
  fields := #[]
  methods := #[k0m0]
  instanceTypes := #[]
  staticTypes := #[]
  resolved := Array.replicate 124 none
  statics := none }

def pool1 : Array CpInfo := pool [(2, .class_ 4), (1, u "java/lang/Object"), (0, u "<init>"), (0, u "()V"), (0, .integer 2147483647), (0, .class_ 9), (0, u "com/example/acomp/acomp/ArrayLengths"), (0, .integer 2147483638), (0, .integer 1073741819), (0, .integer 2147483639), (0, .methodref 8 14), (0, .nameAndType 15 16), (0, u "doubled"), (0, u "(I)I"), (0, .class_ 18), (0, u "com/example/acomp/acomp/ArrayLengthsDoubledPinLaw"), (2, u "law"), (0, u "(I)Z")] 3

def k1m0 : Method := { name := "<init>", desc := "()V", sig := { parameters := [], returnType := none }, accessFlags := 2, code := none }
def k1c1 : Code := { maxStack := 2, maxLocals := 4, code := code, exceptionTable := #[], attributes := #[] }
def k1m1 : Method := { name := "law", desc := "(I)Z", sig := { parameters := [.int], returnType := some .boolean }, accessFlags := 9, code := some k1c1 }
/-- com/example/acomp/acomp/ArrayLengthsDoubledPinLaw -/
def k1 : Class := { plain "com/example/acomp/acomp/ArrayLengthsDoubledPinLaw" (some 0) with
  accessFlags := 49
  interfaces := #[]
  cf := some (fileOf pool1 17 #[] #[{ accessFlags := 2, nameIndex := 5, descriptorIndex := 6, attributes := #[] }, { accessFlags := 9, nameIndex := 21, descriptorIndex := 22, attributes := #[] }] 49 2 #[] #[])
  fields := #[]
  methods := #[k1m0, k1m1]
  instanceTypes := #[]
  staticTypes := #[]
  resolved := Array.replicate 26 none
  statics := none }

def pool2 : Array CpInfo := pool [(4, .class_ 6), (1, u "java/lang/Object"), (0, u "<init>"), (0, u "()V"), (0, .class_ 10), (0, u "com/example/acomp/acomp/ArrayLengths"), (0, .integer 2147483639), (9, .long 2), (1, .long 2147483639), (1, .methodref 26 27), (0, .class_ 28), (0, .nameAndType 29 30), (0, u "java/lang/Math"), (0, u "min"), (0, u "(JJ)J"), (0, u "MAX"), (0, u "I"), (3, u "doubled"), (0, u "(I)I")] 18

def k2m0 : Method := { name := "<init>", desc := "()V", sig := { parameters := [], returnType := none }, accessFlags := 2, code := none }
def k2c1 : Code := { maxStack := 4, maxLocals := 1, code := prog_3_method_2_code, exceptionTable := #[], attributes := #[] }
def k2m1 : Method := { name := "doubled", desc := "(I)I", sig := { parameters := [.int], returnType := some .int }, accessFlags := 8, code := some k2c1 }
/-- com/example/acomp/acomp/ArrayLengths -/
def k2 : Class := { plain "com/example/acomp/acomp/ArrayLengths" (some 0) with
  accessFlags := 32
  interfaces := #[]
  cf := some (fileOf pool2 9 #[] #[{ accessFlags := 2, nameIndex := 7, descriptorIndex := 8, attributes := #[] }, { accessFlags := 8, nameIndex := 36, descriptorIndex := 37, attributes := #[] }] 32 4 #[] #[{ accessFlags := 24, nameIndex := 31, descriptorIndex := 32, attributes := #[] }])
  fields := #[{ name := "MAX", type := .int, accessFlags := 24, slot := 0, constantValue := 0 }]
  methods := #[k2m0, k2m1]
  instanceTypes := #[]
  staticTypes := #[.int]
  resolved := Array.replicate 56 none
  statics := none }

def pool3 : Array CpInfo := pool [(1, .class_ 2), (0, u "java/lang/Math"), (1, .class_ 6), (1, u "java/lang/Object"), (0, u "<init>"), (0, u "()V"), (89, .class_ 100), (1, u "java/lang/Math$RandomNumberGeneratorHolder"), (20, u "(JJ)J"), (50, u "negativeZeroFloatBits"), (0, u "J"), (2, u "negativeZeroDoubleBits"), (24, u "min"), (43, u "$assertionsDisabled"), (0, u "Z"), (91, u "twoToTheDoubleScaleDown"), (0, u "D"), (4, u "twoToTheDoubleScaleUp"), (9, u "E"), (3, u "PI"), (2, u "TAU"), (2, u "DEGREES_TO_RADIANS"), (0, u "RADIANS_TO_DEGREES")] 94

def k3m0 : Method := { name := "<init>", desc := "()V", sig := { parameters := [], returnType := none }, accessFlags := 2, code := none }
def k3c1 : Code := { maxStack := 4, maxLocals := 4, code := jdk_29_method_70_code, exceptionTable := #[], attributes := #[] }
def k3m1 : Method := { name := "min", desc := "(JJ)J", sig := { parameters := [.long, .long], returnType := some .long }, accessFlags := 9, code := some k3c1 }
/-- java/lang/Math -/
def k3 : Class := { plain "java/lang/Math" (some 0) with
  accessFlags := 49
  interfaces := #[]
  cf := some (fileOf pool3 1 #[.nestMembers #[98]] #[{ accessFlags := 2, nameIndex := 7, descriptorIndex := 8, attributes := #[] }, { accessFlags := 9, nameIndex := 201, descriptorIndex := 121, attributes := #[] }] 49 4 #[] #[{ accessFlags := 25, nameIndex := 354, descriptorIndex := 339, attributes := #[] }, { accessFlags := 25, nameIndex := 358, descriptorIndex := 339, attributes := #[] }, { accessFlags := 25, nameIndex := 361, descriptorIndex := 339, attributes := #[] }, { accessFlags := 26, nameIndex := 364, descriptorIndex := 339, attributes := #[] }, { accessFlags := 26, nameIndex := 365, descriptorIndex := 339, attributes := #[] }, { accessFlags := 26, nameIndex := 172, descriptorIndex := 173, attributes := #[] }, { accessFlags := 26, nameIndex := 176, descriptorIndex := 173, attributes := #[] }, { accessFlags := 8, nameIndex := 344, descriptorIndex := 339, attributes := #[] }, { accessFlags := 8, nameIndex := 338, descriptorIndex := 339, attributes := #[] }, { accessFlags := 4120, nameIndex := 245, descriptorIndex := 246, attributes := #[] }])
  fields := #[{ name := "E", type := .double, accessFlags := 25, slot := 0, constantValue := 0 }, { name := "PI", type := .double, accessFlags := 25, slot := 1, constantValue := 0 }, { name := "TAU", type := .double, accessFlags := 25, slot := 2, constantValue := 0 }, { name := "DEGREES_TO_RADIANS", type := .double, accessFlags := 26, slot := 3, constantValue := 0 }, { name := "RADIANS_TO_DEGREES", type := .double, accessFlags := 26, slot := 4, constantValue := 0 }, { name := "negativeZeroFloatBits", type := .long, accessFlags := 26, slot := 5, constantValue := 0 }, { name := "negativeZeroDoubleBits", type := .long, accessFlags := 26, slot := 6, constantValue := 0 }, { name := "twoToTheDoubleScaleUp", type := .double, accessFlags := 8, slot := 7, constantValue := 0 }, { name := "twoToTheDoubleScaleDown", type := .double, accessFlags := 8, slot := 8, constantValue := 0 }, { name := "$assertionsDisabled", type := .boolean, accessFlags := 4120, slot := 9, constantValue := 0 }]
  methods := #[k3m0, k3m1]
  instanceTypes := #[]
  staticTypes := #[.double, .double, .double, .double, .double, .long, .long, .double, .double, .boolean]
  resolved := Array.replicate 460 none
  statics := none }

def pool4 : Array CpInfo := pool [(1, u "java/lang/Cloneable"), (0, .class_ 1), (0, u "java/lang/Object"), (0, .class_ 3)] 3

/-- java/lang/Cloneable -/
def k4 : Class := { plain "java/lang/Cloneable" (some 0) with
  accessFlags := 1537
  interfaces := #[]
  cf := some (fileOf pool4 2 #[] #[] 1537 4 #[] #[])
  fields := #[]
  methods := #[]
  instanceTypes := #[]
  staticTypes := #[]
  resolved := Array.replicate 8 none
  statics := none }

def pool5 : Array CpInfo := pool [(1, u "java/io/Serializable"), (0, .class_ 1), (0, u "java/lang/Object"), (0, .class_ 3)] 3

/-- java/io/Serializable -/
def k5 : Class := { plain "java/io/Serializable" (some 0) with
  accessFlags := 1537
  interfaces := #[]
  cf := some (fileOf pool5 2 #[] #[] 1537 4 #[] #[])
  fields := #[]
  methods := #[]
  instanceTypes := #[]
  staticTypes := #[]
  resolved := Array.replicate 8 none
  statics := none }

/-- the primitive byte -/
def k6 : Class := { plain "byte" none with kind := .primitive 'B', accessFlags := 0x411 }
/-- [B -/
def k7 : Class := { plain "[B" (some 0) with kind := .array 6 .byte, interfaces := #[4, 5], accessFlags := 1041 }

/-- the primitive int -/
def k8 : Class := { plain "int" none with kind := .primitive 'I', accessFlags := 0x411 }
/-- [I -/
def k9 : Class := { plain "[I" (some 0) with kind := .array 8 .int, interfaces := #[4, 5], accessFlags := 1041 }

def heap : Heap := #[]
def classes : Array Class := #[k0, k1, k2, k3, k4, k5, k6, k7, k8, k9]
def interned : List (Array UInt16 × Addr) := []
def slotsUsed : Nat := 0
def theMethod : MethodId := ⟨1, 1⟩
def args0 : Array Value := #[.int 5]
def aboutOver (below : List Frame) : State where
  vm := { classes := classes, interned := interned.toArray }
  heap := heap
  slotsUsed := slotsUsed
  threads := #[{ frames := .invoking theMethod args0 :: below }]
def below0 : List Frame := [.native { method := ⟨0, 0⟩, args := #[] }]
def about1 : State := aboutOver below0
def p0 : Program := .bare "" "" ""
def e0 : Env := launch0.env 0 0 0
theorem w_frames : about1.frames = Frame.invoking theMethod args0 :: below0 := rfl
set_option maxRecDepth 65536 in
theorem w_args : argsFit about1.vm theMethod args0 = true := by decide +kernel
set_option maxRecDepth 65536 in
theorem w_heap : heapFits about1 = true := by decide +kernel
set_option maxRecDepth 65536 in
theorem w_runnable : about1.curStatus? = some .runnable := by decide +kernel
set_option maxRecDepth 65536 in
theorem w_alone : about1.alone = true := by decide +kernel
set_option maxRecDepth 65536 in
theorem w_named : about1.methodNamed? x = some theMethod := by decide +kernel
set_option maxRecDepth 65536 in
theorem w_hears : about1.hears theMethod below0 = true := by decide +kernel
set_option maxRecDepth 65536 in
theorem w_ripe : about1.ripe theMethod args0 below0 = true := by decide +kernel
theorem w_running : about1.status = .running := rfl
set_option maxRecDepth 65536 in
theorem w_room : about1.hasRoom e0.platform room_1 = true :=
  launch0.hasRoom_least _ room_1 (by decide +kernel) (by decide +kernel) (by decide +kernel) (by decide +kernel) (by decide +kernel) (by decide +kernel)
theorem allAtoms_all (ts : List Jvm.Cond) (a : Array Jvm.Value) (st : Jvm.State) : (allAtoms ts).before a st = ts.all (fun c => c.before a st) := by
  induction ts with
  | nil => rfl
  | cons c t ih =>
    show (Jvm.Cond.and c (allAtoms t)).before a st = _
    rw [Jvm.Cond.before_and, ih, List.all_cons]
def words1 : List Jvm.Cond := Jvm.Cond.code x code maxLocals ret :: tables_1
/-- a 'code' word, met by the world's own term for the bytes: nothing is compared byte by byte -/
theorem code_word {y : MethodName} {bytes : ByteArray} {mx : Nat} {rt : Option FieldType} {a : Array Value} {s : State} {m : MethodId} {meth : Method} {c : Code} (h1 : s.methodNamed? y = some m) (h2 : s.vm.method? m = some meth) (h3 : meth.code = some c) (h4 : c.code = bytes)
    (h5 : (c.maxLocals == mx && c.exceptionTable.isEmpty && decide (c.maxStack ≤ mostOperands) && decide (meth.sig.returnType = rt) && !meth.locks && decide (parseMethodDescriptor y.desc = some meth.sig)) = true) : (Jvm.Cond.code y bytes mx rt).before a s = true := by
  simp only [Bool.and_eq_true, beq_iff_eq, Bool.not_eq_true', decide_eq_true_eq] at h5
  obtain ⟨⟨⟨⟨⟨g1, g2⟩, g3⟩, g4⟩, g5⟩, g6⟩ := h5
  simp [Cond.before, Cond.holds, Cond.value, h1, h2, h3, h4, g1, g2, g3, g4, g5, g6]
def isCode : Jvm.Cond → Bool
  | .code _ _ _ _ => true
  | _ => false
theorem all_split {L : List Jvm.Cond} {P : Jvm.Cond → Bool} (h1 : L.all (fun c => isCode c || P c) = true) (h2 : ∀ c ∈ L.filter isCode, P c = true) : L.all P = true := by
  refine List.all_eq_true.mpr fun c hc => ?_
  have h := List.all_eq_true.mp h1 c hc
  rcases Bool.eq_false_or_eq_true (isCode c) with hi | hi
  · exact h2 c (List.mem_filter.mpr ⟨hc, hi⟩)
  · simpa [hi] using h
set_option maxRecDepth 65536 in
theorem w_c0 : (Jvm.Cond.code x code maxLocals ret).before args0 about1 = true := code_word (m := ⟨1, 1⟩) (meth := k1m1) (c := k1c1) (by decide +kernel) rfl rfl rfl (by decide +kernel)
set_option maxRecDepth 65536 in
theorem w_c1 : (Jvm.Cond.code ({ cls := "com/example/acomp/acomp/ArrayLengths", name := "doubled", desc := "(I)I" } : Jvm.MethodName) prog_3_method_2_code (1 : Nat) (Option.some Jvm.ClassFile.FieldType.int)).before args0 about1 = true := code_word (m := ⟨2, 1⟩) (meth := k2m1) (c := k2c1) (by decide +kernel) rfl rfl rfl (by decide +kernel)
set_option maxRecDepth 65536 in
theorem w_c2 : (Jvm.Cond.code ({ cls := "java/lang/Math", name := "min", desc := "(JJ)J" } : Jvm.MethodName) jdk_29_method_70_code (4 : Nat) (Option.some Jvm.ClassFile.FieldType.long)).before args0 about1 = true := code_word (m := ⟨3, 1⟩) (meth := k3m1) (c := k3c1) (by decide +kernel) rfl rfl rfl (by decide +kernel)
def codes1 : List Jvm.Cond := [Jvm.Cond.code x code maxLocals ret, Jvm.Cond.code ({ cls := "com/example/acomp/acomp/ArrayLengths", name := "doubled", desc := "(I)I" } : Jvm.MethodName) prog_3_method_2_code (1 : Nat) (Option.some Jvm.ClassFile.FieldType.int), Jvm.Cond.code ({ cls := "java/lang/Math", name := "min", desc := "(JJ)J" } : Jvm.MethodName) jdk_29_method_70_code (4 : Nat) (Option.some Jvm.ClassFile.FieldType.long)]
set_option maxRecDepth 65536 in
theorem codes_eq : words1.filter isCode = codes1 := rfl
theorem w_codes : ∀ c ∈ words1.filter isCode, c.before args0 about1 = true := by
  rw [codes_eq]
  intro c hc
  simp only [codes1, List.mem_cons, List.not_mem_nil, or_false] at hc
  rcases hc with rfl | rfl | rfl
  · exact w_c0
  · exact w_c1
  · exact w_c2
set_option maxRecDepth 65536 in
theorem w_t1 : words1.all (fun c => isCode c || c.before args0 about1) = true := by decide +kernel
theorem w_tables : (allAtoms (Jvm.Cond.code x code maxLocals ret :: tables_1)).before args0 about1 = true := by
  rw [allAtoms_all]
  show words1.all (fun c => c.before args0 about1) = true
  refine all_split ?_ w_codes
  rw [w_t1]
set_option maxRecDepth 65536 in
theorem w_case : (Jvm.Cond.and given_1 narrow_1).before args0 about1 = true := by decide +kernel
theorem w_applies : (headSpec (Jvm.Cond.code x code maxLocals ret :: tables_1) room_1).applies x e0.platform about1 = true :=
  (Spec.applies_iff w_frames).mpr ⟨w_running, w_runnable, w_alone, w_named, w_hears, w_ripe, w_room, w_tables⟩
theorem atStart : AtStart classFile x code maxLocals ret World_1 tables_1 room_1 Calls_1 rest_1 Pre_1 launch0 p0 e0 about1 theMethod args0 below0 :=
  ⟨lists_1, trivial, launch0.admits_env _ _ _, launch0.least_env, fairChoices_fair.cas, fairChoices_fair.clock, w_frames, w_args, w_heap, w_applies, trivial, trivial, w_case⟩
end start1
theorem witness_1 : WitnessClaimed_1 := ⟨start1.p0, start1.e0, start1.about1, start1.theMethod, start1.args0, start1.below0, start1.atStart⟩
end Jvm.Pilot.@@N@@
