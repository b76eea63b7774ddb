import JvmDerived
import JvmDerived.Pilot.@@N@@Statement
import JvmDerived.Pilot.@@N@@Code
set_option linter.unusedVariables false
set_option linter.unusedSimpArgs false
namespace Jvm.Pilot.@@N@@
open Jvm Jvm.ClassFile Sem Op Lib Jvm.Free Jvm.Stand Jvm.LawKit Jvm.RoadKit Bundle Jvm.Pilot.@@N@@.Jvm.D
/-! own_: a walk in backward style: 'Ends': from here the body comes to its end and Q holds there. One law an instruction, over frames written mkF. -/
namespace Wk
section
variable {p : Program} {l : Launch} {e : Env} {R : Room} {s : State} {m : MethodId} {args : Array Value} {below : List Frame} {meth : Method} {c : Code} {T : State} {locs : List Loc} {cells slots : Nat} {Z : State} {a0 : Array Value} {h : Heap} {y : MethodName} {cd : ByteArray} {ml : Nat} {ret : Option FieldType} {Q : Option Value → Heap → List Loc → Prop} {pc pc' : Nat} {ls : Array Slot} {st : List Value}
/-- the run from T with the frame f comes to the body's end, and Q holds there -/
def Ends (p : Program) (e : Env) (s : State) (below : List Frame) (R : Room) (Q : Option Value → Heap → List Loc → Prop) (T : State) (f : JFrame) : Prop :=
  ∃ s₂ o, Steps p.tables e below (T.setTop f) s₂ ∧ s₂.status = .running ∧ Ended s₂ below o ∧ ∃ v L, o = .returned v ∧ Q v s₂.heap L ∧ FrameEnd s o s₂ L R.cells R.slots
/-- what stands still while one body is walked -/
def K (p : Program) (s : State) (m : MethodId) (meth : Method) (c : Code) (Z : State) (y : MethodName) (cd : ByteArray) (ml : Nat) (ret : Option FieldType) : Prop :=
  p.tables.exec = Jvm.exec ∧ Z.Warmed39 s.vm ∧ c.code = cd ∧ c.maxLocals = ml ∧ s.vm.findClass y.cls = some m.cls ∧ meth.sig.returnType = ret ∧ meth.locks = false ∧ meth.name = y.name
/-- a body's contract: called with as' over the heap h it returns, and Q holds -/
def Met (l : Launch) (y : MethodName) (cd : ByteArray) (ml : Nat) (ret : Option FieldType) (rm : Room) (as' : Array Value) (Z : State) (h : Heap) (Q : Option Value → Heap → List Loc → Prop) (ws : List Jvm.Cond) : Prop :=
  MetFree l y (head1 (Jvm.Cond.code y cd ml ret :: ws) rm) (fun a U => a = as' ∧ Z.Warmed39 U.vm ∧ U.heap = h) (fun _ _ _ _ _ => True) (fun _ U o U' => ∃ v L, o = .returned v ∧ Q v U'.heap L ∧ FrameEnd U o U' L rm.cells rm.slots)
theorem enter {rm : Room} {as' : Array Value} {ws : List Jvm.Cond} (hpl : plainFor y = true)
    (body : ∀ (p : Program) (e : Env) (s : State) (m : MethodId) (below : List Frame) (meth : Method) (c : Code) (T : State), K p s m meth c Z y cd ml ret → Stand p l e rm s m as' below meth c T [] 0 0 → T.heap = h → Ends p e s below rm Q T (entryFrame m as' ml)) :
    Met l y cd ml ret rm as' Z h Q ws := by
  refine MetFree.of_bodySF hpl hisR ?_
  intro p e s m args below meth c s₁ Bd hml0 hP hK
  obtain ⟨rfl, hZ, hh⟩ := hP
  exact body p e s m below meth c s₁ ⟨Bd.exec, hZ, Bd.bytes, hml0, findClass_of_methodNamed Bd.named, Bd.returns, Bd.notSynchronized, (name_of_methodNamed Bd.named Bd.method).1⟩ (Stand.of_body Bd) (by rw [← hh, Bd.state]; rfl)
theorem Ends.map {T' : State} {f f' : JFrame} (st : ∀ target, Steps p.tables e below (T'.setTop f') target → Steps p.tables e below (T.setTop f) target) (h : Ends p e s below R Q T' f') : Ends p e s below R Q T f := by
  obtain ⟨s₂, o, h1, h2⟩ := h
  exact ⟨s₂, o, st _ h1, h2⟩
theorem Ends.cast {f f' : JFrame} (q : f = f') (h : Ends p e s below R Q T f') : Ends p e s below R Q T f := q ▸ h
theorem w {ws : List Jvm.Cond} (hw : ∀ d ∈ ws, d.before a0 Z = true) (i : Nat) {d : Jvm.Cond} (q : ws[i]? = some d) : d.before a0 Z = true := hw d (List.mem_of_getElem? q)
/-! loads, stores, constants -/
theorem iload_n (k : K p s m meth c Z y cd ml ret) (X : Stand p l e R s m args below meth c T locs cells slots) {i : Fin 4} {v : Int32} (hd : decode cd pc = .ok (.iload_n i, 1)) (hl : ls[i.val]? = some (.val (.int v))) (pc' : Nat) (hp : pc + 1 = pc') (h : Ends p e s below R Q T (mkF m pc' ls (.int v :: st))) : Ends p e s below R Q T (mkF m pc ls st) := by
  subst hp; exact h.map fun _ q => XS.iloadN X.here k.1 rfl (hb k.2.2.1 hd) hl q
theorem iload (k : K p s m meth c Z y cd ml ret) (X : Stand p l e R s m args below meth c T locs cells slots) {i : Nat} {v : Int32} (hd : decode cd pc = .ok (.iload i, 2)) (hl : ls[i]? = some (.val (.int v))) (pc' : Nat) (hp : pc + 2 = pc') (h : Ends p e s below R Q T (mkF m pc' ls (.int v :: st))) : Ends p e s below R Q T (mkF m pc ls st) := by
  subst hp; exact h.map fun _ q => XS.iload X.here k.1 rfl (hb k.2.2.1 hd) hl q
theorem lload_n (k : K p s m meth c Z y cd ml ret) (X : Stand p l e R s m args below meth c T locs cells slots) {i : Fin 4} {v : Int64} (hd : decode cd pc = .ok (.lload_n i, 1)) (hl : ls[i.val]? = some (.val (.long v))) (pc' : Nat) (hp : pc + 1 = pc') (h : Ends p e s below R Q T (mkF m pc' ls (.long v :: st))) : Ends p e s below R Q T (mkF m pc ls st) := by
  subst hp; exact h.map fun _ q => XS.lloadN X.here k.1 rfl (hb k.2.2.1 hd) hl q
theorem lload (k : K p s m meth c Z y cd ml ret) (X : Stand p l e R s m args below meth c T locs cells slots) {i : Nat} {v : Int64} (hd : decode cd pc = .ok (.lload i, 2)) (hl : ls[i]? = some (.val (.long v))) (pc' : Nat) (hp : pc + 2 = pc') (h : Ends p e s below R Q T (mkF m pc' ls (.long v :: st))) : Ends p e s below R Q T (mkF m pc ls st) := by
  subst hp; exact h.map fun _ q => XS.lload X.here k.1 rfl (hb k.2.2.1 hd) hl q
theorem aload_n (k : K p s m meth c Z y cd ml ret) (X : Stand p l e R s m args below meth c T locs cells slots) {i : Fin 4} {v : Value} (hd : decode cd pc = .ok (.aload_n i, 1)) (hl : ls[i.val]? = some (.val v)) (hv : v.isRef = true) (pc' : Nat) (hp : pc + 1 = pc') (h : Ends p e s below R Q T (mkF m pc' ls (v :: st))) : Ends p e s below R Q T (mkF m pc ls st) := by
  subst hp; exact h.map fun _ q => XS.aloadN X.here k.1 rfl (hb k.2.2.1 hd) hl hv q
theorem aload (k : K p s m meth c Z y cd ml ret) (X : Stand p l e R s m args below meth c T locs cells slots) {i : Nat} {v : Value} (hd : decode cd pc = .ok (.aload i, 2)) (hl : ls[i]? = some (.val v)) (hv : v.isRef = true) (pc' : Nat) (hp : pc + 2 = pc') (h : Ends p e s below R Q T (mkF m pc' ls (v :: st))) : Ends p e s below R Q T (mkF m pc ls st) := by
  subst hp; exact h.map fun _ q => XS.aload X.here k.1 rfl (hb k.2.2.1 hd) hl hv q
theorem istore_n (k : K p s m meth c Z y cd ml ret) (X : Stand p l e R s m args below meth c T locs cells slots) {i : Fin 4} {v : Int32} (hd : decode cd pc = .ok (.istore_n i, 1)) (ls' : Array Slot) (hl : storeLocals ls i.val (.int v) = some ls') (pc' : Nat) (hp : pc + 1 = pc') (h : Ends p e s below R Q T (mkF m pc' ls' st)) : Ends p e s below R Q T (mkF m pc ls (.int v :: st)) := by
  subst hp; exact h.map fun _ q => XS.istoreN X.here k.1 rfl (hb k.2.2.1 hd) rfl hl q
theorem istore (k : K p s m meth c Z y cd ml ret) (X : Stand p l e R s m args below meth c T locs cells slots) {i : Nat} {v : Int32} (hd : decode cd pc = .ok (.istore i, 2)) (ls' : Array Slot) (hl : storeLocals ls i (.int v) = some ls') (pc' : Nat) (hp : pc + 2 = pc') (h : Ends p e s below R Q T (mkF m pc' ls' st)) : Ends p e s below R Q T (mkF m pc ls (.int v :: st)) := by
  subst hp; exact h.map fun _ q => XS.istore X.here k.1 rfl (hb k.2.2.1 hd) rfl hl q
theorem lstore_n (k : K p s m meth c Z y cd ml ret) (X : Stand p l e R s m args below meth c T locs cells slots) {i : Fin 4} {v : Int64} (hd : decode cd pc = .ok (.lstore_n i, 1)) (ls' : Array Slot) (hl : storeLocals ls i.val (.long v) = some ls') (pc' : Nat) (hp : pc + 1 = pc') (h : Ends p e s below R Q T (mkF m pc' ls' st)) : Ends p e s below R Q T (mkF m pc ls (.long v :: st)) := by
  subst hp; exact h.map fun _ q => XS.lstoreN X.here k.1 rfl (hb k.2.2.1 hd) rfl hl q
theorem lstore (k : K p s m meth c Z y cd ml ret) (X : Stand p l e R s m args below meth c T locs cells slots) {i : Nat} {v : Int64} (hd : decode cd pc = .ok (.lstore i, 2)) (ls' : Array Slot) (hl : storeLocals ls i (.long v) = some ls') (pc' : Nat) (hp : pc + 2 = pc') (h : Ends p e s below R Q T (mkF m pc' ls' st)) : Ends p e s below R Q T (mkF m pc ls (.long v :: st)) := by
  subst hp; exact h.map fun _ q => XS.lstore X.here k.1 rfl (hb k.2.2.1 hd) rfl hl q
theorem astore_n (k : K p s m meth c Z y cd ml ret) (X : Stand p l e R s m args below meth c T locs cells slots) {i : Fin 4} {v : Value} (hd : decode cd pc = .ok (.astore_n i, 1)) (hv : v.isRef = true) (ls' : Array Slot) (hl : storeLocals ls i.val v = some ls') (pc' : Nat) (hp : pc + 1 = pc') (h : Ends p e s below R Q T (mkF m pc' ls' st)) : Ends p e s below R Q T (mkF m pc ls (v :: st)) := by
  subst hp; exact h.map fun _ q => XS.astoreN X.here k.1 rfl (hb k.2.2.1 hd) rfl hv hl q
theorem astore (k : K p s m meth c Z y cd ml ret) (X : Stand p l e R s m args below meth c T locs cells slots) {i : Nat} {v : Value} (hd : decode cd pc = .ok (.astore i, 2)) (hv : v.isRef = true) (ls' : Array Slot) (hl : storeLocals ls i v = some ls') (pc' : Nat) (hp : pc + 2 = pc') (h : Ends p e s below R Q T (mkF m pc' ls' st)) : Ends p e s below R Q T (mkF m pc ls (v :: st)) := by
  subst hp; exact h.map fun _ q => XS.astore X.here k.1 rfl (hb k.2.2.1 hd) rfl hv hl q
theorem iinc (k : K p s m meth c Z y cd ml ret) (X : Stand p l e R s m args below meth c T locs cells slots) {i : Nat} {n : Int} {v : Int32} (hd : decode cd pc = .ok (.iinc i n, 3)) (hl : ls[i]? = some (.val (.int v))) (ls' : Array Slot) (hl' : storeLocals ls i (.int (v + Int32.ofInt n)) = some ls') (pc' : Nat) (hp : pc + 3 = pc') (h : Ends p e s below R Q T (mkF m pc' ls' st)) : Ends p e s below R Q T (mkF m pc ls st) := by
  subst hp; exact h.map fun _ q => XS.iinc X.here k.1 rfl (hb k.2.2.1 hd) hl hl' q
theorem iconst (k : K p s m meth c Z y cd ml ret) (X : Stand p l e R s m args below meth c T locs cells slots) {i : Int} (hd : decode cd pc = .ok (.iconst i, 1)) (z : Int32) (hz : Int32.ofInt i = z) (pc' : Nat) (hp : pc + 1 = pc') (h : Ends p e s below R Q T (mkF m pc' ls (.int z :: st))) : Ends p e s below R Q T (mkF m pc ls st) := by
  subst hp hz; exact h.map fun _ q => XS.iconst X.here k.1 rfl (hb k.2.2.1 hd) q
theorem bipush (k : K p s m meth c Z y cd ml ret) (X : Stand p l e R s m args below meth c T locs cells slots) {i : Int} (hd : decode cd pc = .ok (.bipush i, 2)) (z : Int32) (hz : (Int8.ofInt i).toInt32 = z) (pc' : Nat) (hp : pc + 2 = pc') (h : Ends p e s below R Q T (mkF m pc' ls (.int z :: st))) : Ends p e s below R Q T (mkF m pc ls st) := by
  subst hp hz; exact h.map fun _ q => XS.bipush X.here k.1 rfl (hb k.2.2.1 hd) q
theorem sipush (k : K p s m meth c Z y cd ml ret) (X : Stand p l e R s m args below meth c T locs cells slots) {i : Int} (hd : decode cd pc = .ok (.sipush i, 3)) (z : Int32) (hz : (Int16.ofInt i).toInt32 = z) (pc' : Nat) (hp : pc + 3 = pc') (h : Ends p e s below R Q T (mkF m pc' ls (.int z :: st))) : Ends p e s below R Q T (mkF m pc ls st) := by
  subst hp hz; exact h.map fun _ q => XS.sipush X.here k.1 rfl (hb k.2.2.1 hd) q
theorem lconst (k : K p s m meth c Z y cd ml ret) (X : Stand p l e R s m args below meth c T locs cells slots) {i : Fin 2} (hd : decode cd pc = .ok (.lconst i, 1)) (z : Int64) (hz : Int64.ofNat i = z) (pc' : Nat) (hp : pc + 1 = pc') (h : Ends p e s below R Q T (mkF m pc' ls (.long z :: st))) : Ends p e s below R Q T (mkF m pc ls st) := by
  subst hp hz; exact h.map fun _ q => XS.lconst X.here k.1 rfl (hb k.2.2.1 hd) q
theorem aconst_null (k : K p s m meth c Z y cd ml ret) (X : Stand p l e R s m args below meth c T locs cells slots) (hd : decode cd pc = .ok (.aconst_null, 1)) (pc' : Nat) (hp : pc + 1 = pc') (h : Ends p e s below R Q T (mkF m pc' ls (.null :: st))) : Ends p e s below R Q T (mkF m pc ls st) := by
  subst hp; exact h.map fun _ q => XS.aconstNull X.here k.1 rfl (hb k.2.2.1 hd) q
theorem ldc (k : K p s m meth c Z y cd ml ret) (X : Stand p l e R s m args below meth c T locs cells slots) {i : Nat} {z : Int32} (hd : decode cd pc = .ok (.ldc i, 2)) (hc : (Jvm.Cond.constant y.cls i z).before a0 Z = true) (pc' : Nat) (hp : pc + 2 = pc') (h : Ends p e s below R Q T (mkF m pc' ls (.int z :: st))) : Ends p e s below R Q T (mkF m pc ls st) := by
  subst hp; exact h.map (X.ldcInt k.1 k.2.2.2.2.1 (mvT k.2.1 hc) rfl (hb k.2.2.1 hd))
theorem ldc2_w (k : K p s m meth c Z y cd ml ret) (X : Stand p l e R s m args below meth c T locs cells slots) {i : Nat} {z : Int64} (hd : decode cd pc = .ok (.ldc2_w i, 3)) (hc : (Jvm.Cond.constantLong y.cls i z).before a0 Z = true) (pc' : Nat) (hp : pc + 3 = pc') (h : Ends p e s below R Q T (mkF m pc' ls (.long z :: st))) : Ends p e s below R Q T (mkF m pc ls st) := by
  subst hp; exact h.map (X.ldc2Long k.1 k.2.2.2.2.1 (mvT k.2.1 hc) rfl (hb k.2.2.1 hd))
theorem ldcF (k : K p s m meth c Z y cd ml ret) (X : Stand p l e R s m args below meth c T locs cells slots) {i : Nat} {z : UInt32} (hd : decode cd pc = .ok (.ldc i, 2)) (hc : (Jvm.Cond.constantFloat y.cls i z).before a0 Z = true) (pc' : Nat) (hp : pc + 2 = pc') (h : Ends p e s below R Q T (mkF m pc' ls (.float z :: st))) : Ends p e s below R Q T (mkF m pc ls st) := by
  subst hp; exact h.map (X.ldcFloatC k.1 k.2.2.2.2.1 (mvT k.2.1 hc) rfl (hb k.2.2.1 hd))
/-! arithmetic -/
theorem iadd (k : K p s m meth c Z y cd ml ret) (X : Stand p l e R s m args below meth c T locs cells slots) {a : Int32} {b : Int32} (hd : decode cd pc = .ok (.iadd, 1)) (pc' : Nat) (hp : pc + 1 = pc') (h : Ends p e s below R Q T (mkF m pc' ls (.int (a + b) :: st))) : Ends p e s below R Q T (mkF m pc ls (.int b :: .int a :: st)) := by
  subst hp; exact h.map fun _ q => XS.iadd X.here k.1 rfl (hb k.2.2.1 hd) rfl q
theorem ladd (k : K p s m meth c Z y cd ml ret) (X : Stand p l e R s m args below meth c T locs cells slots) {a : Int64} {b : Int64} (hd : decode cd pc = .ok (.ladd, 1)) (pc' : Nat) (hp : pc + 1 = pc') (h : Ends p e s below R Q T (mkF m pc' ls (.long (a + b) :: st))) : Ends p e s below R Q T (mkF m pc ls (.long b :: .long a :: st)) := by
  subst hp; exact h.map fun _ q => XS.ladd X.here k.1 rfl (hb k.2.2.1 hd) rfl q
theorem isub (k : K p s m meth c Z y cd ml ret) (X : Stand p l e R s m args below meth c T locs cells slots) {a : Int32} {b : Int32} (hd : decode cd pc = .ok (.isub, 1)) (pc' : Nat) (hp : pc + 1 = pc') (h : Ends p e s below R Q T (mkF m pc' ls (.int (a - b) :: st))) : Ends p e s below R Q T (mkF m pc ls (.int b :: .int a :: st)) := by
  subst hp; exact h.map fun _ q => XS.isub X.here k.1 rfl (hb k.2.2.1 hd) rfl q
theorem lsub (k : K p s m meth c Z y cd ml ret) (X : Stand p l e R s m args below meth c T locs cells slots) {a : Int64} {b : Int64} (hd : decode cd pc = .ok (.lsub, 1)) (pc' : Nat) (hp : pc + 1 = pc') (h : Ends p e s below R Q T (mkF m pc' ls (.long (a - b) :: st))) : Ends p e s below R Q T (mkF m pc ls (.long b :: .long a :: st)) := by
  subst hp; exact h.map fun _ q => XS.lsub X.here k.1 rfl (hb k.2.2.1 hd) rfl q
theorem imul (k : K p s m meth c Z y cd ml ret) (X : Stand p l e R s m args below meth c T locs cells slots) {a : Int32} {b : Int32} (hd : decode cd pc = .ok (.imul, 1)) (pc' : Nat) (hp : pc + 1 = pc') (h : Ends p e s below R Q T (mkF m pc' ls (.int (a * b) :: st))) : Ends p e s below R Q T (mkF m pc ls (.int b :: .int a :: st)) := by
  subst hp; exact h.map fun _ q => XS.imul X.here k.1 rfl (hb k.2.2.1 hd) rfl q
theorem lmul (k : K p s m meth c Z y cd ml ret) (X : Stand p l e R s m args below meth c T locs cells slots) {a : Int64} {b : Int64} (hd : decode cd pc = .ok (.lmul, 1)) (pc' : Nat) (hp : pc + 1 = pc') (h : Ends p e s below R Q T (mkF m pc' ls (.long (a * b) :: st))) : Ends p e s below R Q T (mkF m pc ls (.long b :: .long a :: st)) := by
  subst hp; exact h.map fun _ q => XS.lmul X.here k.1 rfl (hb k.2.2.1 hd) rfl q
theorem iand (k : K p s m meth c Z y cd ml ret) (X : Stand p l e R s m args below meth c T locs cells slots) {a : Int32} {b : Int32} (hd : decode cd pc = .ok (.iand, 1)) (pc' : Nat) (hp : pc + 1 = pc') (h : Ends p e s below R Q T (mkF m pc' ls (.int (a &&& b) :: st))) : Ends p e s below R Q T (mkF m pc ls (.int b :: .int a :: st)) := by
  subst hp; exact h.map fun _ q => XS.iand X.here k.1 rfl (hb k.2.2.1 hd) rfl q
theorem land (k : K p s m meth c Z y cd ml ret) (X : Stand p l e R s m args below meth c T locs cells slots) {a : Int64} {b : Int64} (hd : decode cd pc = .ok (.land, 1)) (pc' : Nat) (hp : pc + 1 = pc') (h : Ends p e s below R Q T (mkF m pc' ls (.long (a &&& b) :: st))) : Ends p e s below R Q T (mkF m pc ls (.long b :: .long a :: st)) := by
  subst hp; exact h.map fun _ q => XS.land X.here k.1 rfl (hb k.2.2.1 hd) rfl q
theorem ior (k : K p s m meth c Z y cd ml ret) (X : Stand p l e R s m args below meth c T locs cells slots) {a : Int32} {b : Int32} (hd : decode cd pc = .ok (.ior, 1)) (pc' : Nat) (hp : pc + 1 = pc') (h : Ends p e s below R Q T (mkF m pc' ls (.int (a ||| b) :: st))) : Ends p e s below R Q T (mkF m pc ls (.int b :: .int a :: st)) := by
  subst hp; exact h.map fun _ q => XS.ior X.here k.1 rfl (hb k.2.2.1 hd) rfl q
theorem lor (k : K p s m meth c Z y cd ml ret) (X : Stand p l e R s m args below meth c T locs cells slots) {a : Int64} {b : Int64} (hd : decode cd pc = .ok (.lor, 1)) (pc' : Nat) (hp : pc + 1 = pc') (h : Ends p e s below R Q T (mkF m pc' ls (.long (a ||| b) :: st))) : Ends p e s below R Q T (mkF m pc ls (.long b :: .long a :: st)) := by
  subst hp; exact h.map fun _ q => XS.lor X.here k.1 rfl (hb k.2.2.1 hd) rfl q
theorem ixor (k : K p s m meth c Z y cd ml ret) (X : Stand p l e R s m args below meth c T locs cells slots) {a : Int32} {b : Int32} (hd : decode cd pc = .ok (.ixor, 1)) (pc' : Nat) (hp : pc + 1 = pc') (h : Ends p e s below R Q T (mkF m pc' ls (.int (a ^^^ b) :: st))) : Ends p e s below R Q T (mkF m pc ls (.int b :: .int a :: st)) := by
  subst hp; exact h.map fun _ q => XS.ixor X.here k.1 rfl (hb k.2.2.1 hd) rfl q
theorem lxor (k : K p s m meth c Z y cd ml ret) (X : Stand p l e R s m args below meth c T locs cells slots) {a : Int64} {b : Int64} (hd : decode cd pc = .ok (.lxor, 1)) (pc' : Nat) (hp : pc + 1 = pc') (h : Ends p e s below R Q T (mkF m pc' ls (.long (a ^^^ b) :: st))) : Ends p e s below R Q T (mkF m pc ls (.long b :: .long a :: st)) := by
  subst hp; exact h.map fun _ q => XS.lxor X.here k.1 rfl (hb k.2.2.1 hd) rfl q
theorem idiv (k : K p s m meth c Z y cd ml ret) (X : Stand p l e R s m args below meth c T locs cells slots) {a : Int32} {b : Int32} (hd : decode cd pc = .ok (.idiv, 1)) (hy : b ≠ 0) (pc' : Nat) (hp : pc + 1 = pc') (h : Ends p e s below R Q T (mkF m pc' ls (.int (a / b) :: st))) : Ends p e s below R Q T (mkF m pc ls (.int b :: .int a :: st)) := by
  subst hp; exact h.map fun _ q => XS.idiv X.here k.1 rfl (hb k.2.2.1 hd) rfl hy q
theorem ldiv (k : K p s m meth c Z y cd ml ret) (X : Stand p l e R s m args below meth c T locs cells slots) {a : Int64} {b : Int64} (hd : decode cd pc = .ok (.ldiv, 1)) (hy : b ≠ 0) (pc' : Nat) (hp : pc + 1 = pc') (h : Ends p e s below R Q T (mkF m pc' ls (.long (a / b) :: st))) : Ends p e s below R Q T (mkF m pc ls (.long b :: .long a :: st)) := by
  subst hp; exact h.map fun _ q => XS.ldiv X.here k.1 rfl (hb k.2.2.1 hd) rfl hy q
theorem ishl (k : K p s m meth c Z y cd ml ret) (X : Stand p l e R s m args below meth c T locs cells slots) {a : Int32} {b : Int32} (hd : decode cd pc = .ok (.ishl, 1)) (pc' : Nat) (hp : pc + 1 = pc') (h : Ends p e s below R Q T (mkF m pc' ls (.int (a <<< (b &&& 31)) :: st))) : Ends p e s below R Q T (mkF m pc ls (.int b :: .int a :: st)) := by
  subst hp; exact h.map fun _ q => XS.ishl X.here k.1 rfl (hb k.2.2.1 hd) rfl q
theorem ishr (k : K p s m meth c Z y cd ml ret) (X : Stand p l e R s m args below meth c T locs cells slots) {a : Int32} {b : Int32} (hd : decode cd pc = .ok (.ishr, 1)) (pc' : Nat) (hp : pc + 1 = pc') (h : Ends p e s below R Q T (mkF m pc' ls (.int (a >>> (b &&& 31)) :: st))) : Ends p e s below R Q T (mkF m pc ls (.int b :: .int a :: st)) := by
  subst hp; exact h.map fun _ q => XS.ishr X.here k.1 rfl (hb k.2.2.1 hd) rfl q
theorem iushr (k : K p s m meth c Z y cd ml ret) (X : Stand p l e R s m args below meth c T locs cells slots) {a : Int32} {b : Int32} (hd : decode cd pc = .ok (.iushr, 1)) (pc' : Nat) (hp : pc + 1 = pc') (h : Ends p e s below R Q T (mkF m pc' ls (.int ((a.toUInt32 >>> (b &&& 31).toUInt32).toInt32) :: st))) : Ends p e s below R Q T (mkF m pc ls (.int b :: .int a :: st)) := by
  subst hp; exact h.map fun _ q => XS.iushr X.here k.1 rfl (hb k.2.2.1 hd) rfl q
theorem lshl (k : K p s m meth c Z y cd ml ret) (X : Stand p l e R s m args below meth c T locs cells slots) {a : Int64} {b : Int32} (hd : decode cd pc = .ok (.lshl, 1)) (pc' : Nat) (hp : pc + 1 = pc') (h : Ends p e s below R Q T (mkF m pc' ls (.long (a <<< (b &&& 0x3f).toInt64) :: st))) : Ends p e s below R Q T (mkF m pc ls (.int b :: .long a :: st)) := by
  subst hp; exact h.map fun _ q => XS.lshl X.here k.1 rfl (hb k.2.2.1 hd) rfl q
theorem lshr (k : K p s m meth c Z y cd ml ret) (X : Stand p l e R s m args below meth c T locs cells slots) {a : Int64} {b : Int32} (hd : decode cd pc = .ok (.lshr, 1)) (pc' : Nat) (hp : pc + 1 = pc') (h : Ends p e s below R Q T (mkF m pc' ls (.long (a >>> (b &&& 0x3f).toInt64) :: st))) : Ends p e s below R Q T (mkF m pc ls (.int b :: .long a :: st)) := by
  subst hp; exact h.map fun _ q => XS.lshr X.here k.1 rfl (hb k.2.2.1 hd) rfl q
theorem lushr (k : K p s m meth c Z y cd ml ret) (X : Stand p l e R s m args below meth c T locs cells slots) {a : Int64} {b : Int32} (hd : decode cd pc = .ok (.lushr, 1)) (pc' : Nat) (hp : pc + 1 = pc') (h : Ends p e s below R Q T (mkF m pc' ls (.long ((a.toUInt64 >>> (b &&& 0x3f).toInt64.toUInt64).toInt64) :: st))) : Ends p e s below R Q T (mkF m pc ls (.int b :: .long a :: st)) := by
  subst hp; exact h.map fun _ q => XS.lushr X.here k.1 rfl (hb k.2.2.1 hd) rfl q
theorem irem (k : K p s m meth c Z y cd ml ret) (X : Stand p l e R s m args below meth c T locs cells slots) {a b : Int32} (hd : decode cd pc = .ok (.irem, 1)) (hy : b ≠ 0) (pc' : Nat) (hp : pc + 1 = pc') (h : Ends p e s below R Q T (mkF m pc' ls (.int (a % b) :: st))) : Ends p e s below R Q T (mkF m pc ls (.int b :: .int a :: st)) := by
  subst hp; exact h.map fun _ q => iremM X k.1 rfl (hb k.2.2.1 hd) rfl hy q
theorem ineg (k : K p s m meth c Z y cd ml ret) (X : Stand p l e R s m args below meth c T locs cells slots) {a : Int32} (hd : decode cd pc = .ok (.ineg, 1)) (pc' : Nat) (hp : pc + 1 = pc') (h : Ends p e s below R Q T (mkF m pc' ls (.int (-a) :: st))) : Ends p e s below R Q T (mkF m pc ls (.int a :: st)) := by
  subst hp; exact h.map fun _ q => XS.ineg X.here k.1 rfl (hb k.2.2.1 hd) rfl q
theorem lneg (k : K p s m meth c Z y cd ml ret) (X : Stand p l e R s m args below meth c T locs cells slots) {a : Int64} (hd : decode cd pc = .ok (.lneg, 1)) (pc' : Nat) (hp : pc + 1 = pc') (h : Ends p e s below R Q T (mkF m pc' ls (.long (-a) :: st))) : Ends p e s below R Q T (mkF m pc ls (.long a :: st)) := by
  subst hp; exact h.map fun _ q => XS.lneg X.here k.1 rfl (hb k.2.2.1 hd) rfl q
theorem i2l (k : K p s m meth c Z y cd ml ret) (X : Stand p l e R s m args below meth c T locs cells slots) {a : Int32} (hd : decode cd pc = .ok (.i2l, 1)) (pc' : Nat) (hp : pc + 1 = pc') (h : Ends p e s below R Q T (mkF m pc' ls (.long (a.toInt64) :: st))) : Ends p e s below R Q T (mkF m pc ls (.int a :: st)) := by
  subst hp; exact h.map fun _ q => XS.i2l X.here k.1 rfl (hb k.2.2.1 hd) rfl q
theorem l2i (k : K p s m meth c Z y cd ml ret) (X : Stand p l e R s m args below meth c T locs cells slots) {a : Int64} (hd : decode cd pc = .ok (.l2i, 1)) (pc' : Nat) (hp : pc + 1 = pc') (h : Ends p e s below R Q T (mkF m pc' ls (.int (a.toInt32) :: st))) : Ends p e s below R Q T (mkF m pc ls (.long a :: st)) := by
  subst hp; exact h.map fun _ q => XS.l2i X.here k.1 rfl (hb k.2.2.1 hd) rfl q
theorem i2b (k : K p s m meth c Z y cd ml ret) (X : Stand p l e R s m args below meth c T locs cells slots) {a : Int32} (hd : decode cd pc = .ok (.i2b, 1)) (pc' : Nat) (hp : pc + 1 = pc') (h : Ends p e s below R Q T (mkF m pc' ls (.int (a.toInt8.toInt32) :: st))) : Ends p e s below R Q T (mkF m pc ls (.int a :: st)) := by
  subst hp; exact h.map fun _ q => XS.i2b X.here k.1 rfl (hb k.2.2.1 hd) rfl q
theorem i2s (k : K p s m meth c Z y cd ml ret) (X : Stand p l e R s m args below meth c T locs cells slots) {a : Int32} (hd : decode cd pc = .ok (.i2s, 1)) (pc' : Nat) (hp : pc + 1 = pc') (h : Ends p e s below R Q T (mkF m pc' ls (.int (a.toInt16.toInt32) :: st))) : Ends p e s below R Q T (mkF m pc ls (.int a :: st)) := by
  subst hp; exact h.map fun _ q => XS.i2s X.here k.1 rfl (hb k.2.2.1 hd) rfl q
theorem i2c (k : K p s m meth c Z y cd ml ret) (X : Stand p l e R s m args below meth c T locs cells slots) {a : Int32} (hd : decode cd pc = .ok (.i2c, 1)) (pc' : Nat) (hp : pc + 1 = pc') (h : Ends p e s below R Q T (mkF m pc' ls (.int (a.toUInt32.toUInt16.toUInt32.toInt32) :: st))) : Ends p e s below R Q T (mkF m pc ls (.int a :: st)) := by
  subst hp; exact h.map fun _ q => XS.i2c X.here k.1 rfl (hb k.2.2.1 hd) rfl q
/-! stack, jumps -/
theorem dup (k : K p s m meth c Z y cd ml ret) (X : Stand p l e R s m args below meth c T locs cells slots) {v : Value} (hd : decode cd pc = .ok (.dup, 1)) (hc : v.category = 1) (pc' : Nat) (hp : pc + 1 = pc') (h : Ends p e s below R Q T (mkF m pc' ls (v :: v :: st))) : Ends p e s below R Q T (mkF m pc ls (v :: st)) := by
  subst hp; exact h.map fun _ q => XS.dup X.here k.1 rfl (hb k.2.2.1 hd) rfl hc q
theorem pop (k : K p s m meth c Z y cd ml ret) (X : Stand p l e R s m args below meth c T locs cells slots) {v : Value} (hd : decode cd pc = .ok (.pop, 1)) (hc : v.category = 1) (pc' : Nat) (hp : pc + 1 = pc') (h : Ends p e s below R Q T (mkF m pc' ls st)) : Ends p e s below R Q T (mkF m pc ls (v :: st)) := by
  subst hp; exact h.map fun _ q => XS.pop X.here k.1 rfl (hb k.2.2.1 hd) rfl hc q
theorem dup_x1 (k : K p s m meth c Z y cd ml ret) (X : Stand p l e R s m args below meth c T locs cells slots) {v v' : Value} (hd : decode cd pc = .ok (.dup_x1, 1)) (hc : v.category = 1) (hc' : v'.category = 1) (pc' : Nat) (hp : pc + 1 = pc') (h : Ends p e s below R Q T (mkF m pc' ls (v :: v' :: v :: st))) : Ends p e s below R Q T (mkF m pc ls (v :: v' :: st)) := by
  subst hp; exact h.map fun _ q => XS.dupX1 X.here k.1 rfl (hb k.2.2.1 hd) rfl hc hc' q
theorem dup2 (k : K p s m meth c Z y cd ml ret) (X : Stand p l e R s m args below meth c T locs cells slots) {v v' : Value} (hd : decode cd pc = .ok (.dup2, 1)) (hc : v.category = 1) (hc' : v'.category = 1) (pc' : Nat) (hp : pc + 1 = pc') (h : Ends p e s below R Q T (mkF m pc' ls (v :: v' :: v :: v' :: st))) : Ends p e s below R Q T (mkF m pc ls (v :: v' :: st)) := by
  subst hp; exact h.map fun _ q => Jvm.Free.XT.dup2 X.here k.1 rfl (hb k.2.2.1 hd) rfl hc hc' q
theorem goto (k : K p s m meth c Z y cd ml ret) (X : Stand p l e R s m args below meth c T locs cells slots) {o : Int} (hd : decode cd pc = .ok (.goto o, 3)) (ho : 0 ≤ (pc : Int) + o) (pc' : Nat) (hp : ((pc : Int) + o).toNat = pc') (h : Ends p e s below R Q T (mkF m pc' ls st)) : Ends p e s below R Q T (mkF m pc ls st) := by
  exact h.map fun _ q => XS.goto X.here k.1 rfl rfl (hb k.2.2.1 hd) ho hp q
theorem icmp_lt (k : K p s m meth c Z y cd ml ret) (X : Stand p l e R s m args below meth c T locs cells slots) {a b : Int32} {o : Int} (hd : decode cd pc = .ok (.if_icmp .lt o, 3)) (ho : 0 ≤ (pc : Int) + o) (py pn : Nat) (hy : ((pc : Int) + o).toNat = py) (hn : pc + 3 = pn) (h1 : a < b → Ends p e s below R Q T (mkF m py ls st)) (h2 : ¬ a < b → Ends p e s below R Q T (mkF m pn ls st)) : Ends p e s below R Q T (mkF m pc ls (.int b :: .int a :: st)) := by
  subst hn
  by_cases q : a < b
  · exact (h1 q).map fun _ r => XS.icmpYes X.here k.1 rfl rfl (hb k.2.2.1 hd) rfl (tlt q).1 ho hy r
  · exact (h2 q).map fun _ r => XS.icmpNo X.here k.1 rfl (hb k.2.2.1 hd) rfl (flt q).1 r
theorem if_lt (k : K p s m meth c Z y cd ml ret) (X : Stand p l e R s m args below meth c T locs cells slots) {a : Int32} {o : Int} (hd : decode cd pc = .ok (.ifCond .lt o, 3)) (ho : 0 ≤ (pc : Int) + o) (py pn : Nat) (hy : ((pc : Int) + o).toNat = py) (hn : pc + 3 = pn) (h1 : a < 0 → Ends p e s below R Q T (mkF m py ls st)) (h2 : ¬ a < 0 → Ends p e s below R Q T (mkF m pn ls st)) : Ends p e s below R Q T (mkF m pc ls (.int a :: st)) := by
  subst hn
  by_cases q : a < 0
  · exact (h1 q).map fun _ r => XS.ifYes X.here k.1 rfl rfl (hb k.2.2.1 hd) rfl ((if0 _ _).trans (tlt q).1) ho hy r
  · exact (h2 q).map fun _ r => XS.ifNo X.here k.1 rfl (hb k.2.2.1 hd) rfl ((if0 _ _).trans (flt q).1) r
theorem icmp_ge (k : K p s m meth c Z y cd ml ret) (X : Stand p l e R s m args below meth c T locs cells slots) {a b : Int32} {o : Int} (hd : decode cd pc = .ok (.if_icmp .ge o, 3)) (ho : 0 ≤ (pc : Int) + o) (py pn : Nat) (hy : ((pc : Int) + o).toNat = py) (hn : pc + 3 = pn) (h1 : ¬ a < b → Ends p e s below R Q T (mkF m py ls st)) (h2 : a < b → Ends p e s below R Q T (mkF m pn ls st)) : Ends p e s below R Q T (mkF m pc ls (.int b :: .int a :: st)) := by
  subst hn
  by_cases q : a < b
  · exact (h2 q).map fun _ r => XS.icmpNo X.here k.1 rfl (hb k.2.2.1 hd) rfl (tlt q).2.1 r
  · exact (h1 q).map fun _ r => XS.icmpYes X.here k.1 rfl rfl (hb k.2.2.1 hd) rfl (flt q).2.1 ho hy r
theorem if_ge (k : K p s m meth c Z y cd ml ret) (X : Stand p l e R s m args below meth c T locs cells slots) {a : Int32} {o : Int} (hd : decode cd pc = .ok (.ifCond .ge o, 3)) (ho : 0 ≤ (pc : Int) + o) (py pn : Nat) (hy : ((pc : Int) + o).toNat = py) (hn : pc + 3 = pn) (h1 : ¬ a < 0 → Ends p e s below R Q T (mkF m py ls st)) (h2 : a < 0 → Ends p e s below R Q T (mkF m pn ls st)) : Ends p e s below R Q T (mkF m pc ls (.int a :: st)) := by
  subst hn
  by_cases q : a < 0
  · exact (h2 q).map fun _ r => XS.ifNo X.here k.1 rfl (hb k.2.2.1 hd) rfl ((if0 _ _).trans (tlt q).2.1) r
  · exact (h1 q).map fun _ r => XS.ifYes X.here k.1 rfl rfl (hb k.2.2.1 hd) rfl ((if0 _ _).trans (flt q).2.1) ho hy r
theorem icmp_gt (k : K p s m meth c Z y cd ml ret) (X : Stand p l e R s m args below meth c T locs cells slots) {a b : Int32} {o : Int} (hd : decode cd pc = .ok (.if_icmp .gt o, 3)) (ho : 0 ≤ (pc : Int) + o) (py pn : Nat) (hy : ((pc : Int) + o).toNat = py) (hn : pc + 3 = pn) (h1 : b < a → Ends p e s below R Q T (mkF m py ls st)) (h2 : ¬ b < a → Ends p e s below R Q T (mkF m pn ls st)) : Ends p e s below R Q T (mkF m pc ls (.int b :: .int a :: st)) := by
  subst hn
  by_cases q : b < a
  · exact (h1 q).map fun _ r => XS.icmpYes X.here k.1 rfl rfl (hb k.2.2.1 hd) rfl (tlt q).2.2.1 ho hy r
  · exact (h2 q).map fun _ r => XS.icmpNo X.here k.1 rfl (hb k.2.2.1 hd) rfl (flt q).2.2.1 r
theorem if_gt (k : K p s m meth c Z y cd ml ret) (X : Stand p l e R s m args below meth c T locs cells slots) {a : Int32} {o : Int} (hd : decode cd pc = .ok (.ifCond .gt o, 3)) (ho : 0 ≤ (pc : Int) + o) (py pn : Nat) (hy : ((pc : Int) + o).toNat = py) (hn : pc + 3 = pn) (h1 : 0 < a → Ends p e s below R Q T (mkF m py ls st)) (h2 : ¬ 0 < a → Ends p e s below R Q T (mkF m pn ls st)) : Ends p e s below R Q T (mkF m pc ls (.int a :: st)) := by
  subst hn
  by_cases q : 0 < a
  · exact (h1 q).map fun _ r => XS.ifYes X.here k.1 rfl rfl (hb k.2.2.1 hd) rfl ((if0 _ _).trans (tlt q).2.2.1) ho hy r
  · exact (h2 q).map fun _ r => XS.ifNo X.here k.1 rfl (hb k.2.2.1 hd) rfl ((if0 _ _).trans (flt q).2.2.1) r
theorem icmp_le (k : K p s m meth c Z y cd ml ret) (X : Stand p l e R s m args below meth c T locs cells slots) {a b : Int32} {o : Int} (hd : decode cd pc = .ok (.if_icmp .le o, 3)) (ho : 0 ≤ (pc : Int) + o) (py pn : Nat) (hy : ((pc : Int) + o).toNat = py) (hn : pc + 3 = pn) (h1 : ¬ b < a → Ends p e s below R Q T (mkF m py ls st)) (h2 : b < a → Ends p e s below R Q T (mkF m pn ls st)) : Ends p e s below R Q T (mkF m pc ls (.int b :: .int a :: st)) := by
  subst hn
  by_cases q : b < a
  · exact (h2 q).map fun _ r => XS.icmpNo X.here k.1 rfl (hb k.2.2.1 hd) rfl (tlt q).2.2.2 r
  · exact (h1 q).map fun _ r => XS.icmpYes X.here k.1 rfl rfl (hb k.2.2.1 hd) rfl (flt q).2.2.2 ho hy r
theorem if_le (k : K p s m meth c Z y cd ml ret) (X : Stand p l e R s m args below meth c T locs cells slots) {a : Int32} {o : Int} (hd : decode cd pc = .ok (.ifCond .le o, 3)) (ho : 0 ≤ (pc : Int) + o) (py pn : Nat) (hy : ((pc : Int) + o).toNat = py) (hn : pc + 3 = pn) (h1 : ¬ 0 < a → Ends p e s below R Q T (mkF m py ls st)) (h2 : 0 < a → Ends p e s below R Q T (mkF m pn ls st)) : Ends p e s below R Q T (mkF m pc ls (.int a :: st)) := by
  subst hn
  by_cases q : 0 < a
  · exact (h2 q).map fun _ r => XS.ifNo X.here k.1 rfl (hb k.2.2.1 hd) rfl ((if0 _ _).trans (tlt q).2.2.2) r
  · exact (h1 q).map fun _ r => XS.ifYes X.here k.1 rfl rfl (hb k.2.2.1 hd) rfl ((if0 _ _).trans (flt q).2.2.2) ho hy r
theorem icmp_eq (k : K p s m meth c Z y cd ml ret) (X : Stand p l e R s m args below meth c T locs cells slots) {a b : Int32} {o : Int} (hd : decode cd pc = .ok (.if_icmp .eq o, 3)) (ho : 0 ≤ (pc : Int) + o) (py pn : Nat) (hy : ((pc : Int) + o).toNat = py) (hn : pc + 3 = pn) (h1 : a = b → Ends p e s below R Q T (mkF m py ls st)) (h2 : ¬ a = b → Ends p e s below R Q T (mkF m pn ls st)) : Ends p e s below R Q T (mkF m pc ls (.int b :: .int a :: st)) := by
  subst hn
  by_cases q : a = b
  · exact (h1 q).map fun _ r => XS.icmpYes X.here k.1 rfl rfl (hb k.2.2.1 hd) rfl (teq q).1 ho hy r
  · exact (h2 q).map fun _ r => XS.icmpNo X.here k.1 rfl (hb k.2.2.1 hd) rfl (feq q).1 r
theorem if_eq (k : K p s m meth c Z y cd ml ret) (X : Stand p l e R s m args below meth c T locs cells slots) {a : Int32} {o : Int} (hd : decode cd pc = .ok (.ifCond .eq o, 3)) (ho : 0 ≤ (pc : Int) + o) (py pn : Nat) (hy : ((pc : Int) + o).toNat = py) (hn : pc + 3 = pn) (h1 : a = 0 → Ends p e s below R Q T (mkF m py ls st)) (h2 : ¬ a = 0 → Ends p e s below R Q T (mkF m pn ls st)) : Ends p e s below R Q T (mkF m pc ls (.int a :: st)) := by
  subst hn
  by_cases q : a = 0
  · exact (h1 q).map fun _ r => XS.ifYes X.here k.1 rfl rfl (hb k.2.2.1 hd) rfl ((if0 _ _).trans (teq q).1) ho hy r
  · exact (h2 q).map fun _ r => XS.ifNo X.here k.1 rfl (hb k.2.2.1 hd) rfl ((if0 _ _).trans (feq q).1) r
theorem icmp_ne (k : K p s m meth c Z y cd ml ret) (X : Stand p l e R s m args below meth c T locs cells slots) {a b : Int32} {o : Int} (hd : decode cd pc = .ok (.if_icmp .ne o, 3)) (ho : 0 ≤ (pc : Int) + o) (py pn : Nat) (hy : ((pc : Int) + o).toNat = py) (hn : pc + 3 = pn) (h1 : ¬ a = b → Ends p e s below R Q T (mkF m py ls st)) (h2 : a = b → Ends p e s below R Q T (mkF m pn ls st)) : Ends p e s below R Q T (mkF m pc ls (.int b :: .int a :: st)) := by
  subst hn
  by_cases q : a = b
  · exact (h2 q).map fun _ r => XS.icmpNo X.here k.1 rfl (hb k.2.2.1 hd) rfl (teq q).2 r
  · exact (h1 q).map fun _ r => XS.icmpYes X.here k.1 rfl rfl (hb k.2.2.1 hd) rfl (feq q).2 ho hy r
theorem if_ne (k : K p s m meth c Z y cd ml ret) (X : Stand p l e R s m args below meth c T locs cells slots) {a : Int32} {o : Int} (hd : decode cd pc = .ok (.ifCond .ne o, 3)) (ho : 0 ≤ (pc : Int) + o) (py pn : Nat) (hy : ((pc : Int) + o).toNat = py) (hn : pc + 3 = pn) (h1 : ¬ a = 0 → Ends p e s below R Q T (mkF m py ls st)) (h2 : a = 0 → Ends p e s below R Q T (mkF m pn ls st)) : Ends p e s below R Q T (mkF m pc ls (.int a :: st)) := by
  subst hn
  by_cases q : a = 0
  · exact (h2 q).map fun _ r => XS.ifNo X.here k.1 rfl (hb k.2.2.1 hd) rfl ((if0 _ _).trans (teq q).2) r
  · exact (h1 q).map fun _ r => XS.ifYes X.here k.1 rfl rfl (hb k.2.2.1 hd) rfl ((if0 _ _).trans (feq q).2) ho hy r
theorem lcmp_lt (k : K p s m meth c Z y cd ml ret) (X : Stand p l e R s m args below meth c T locs cells slots) {a b : Int64} {o : Int} (hd0 : decode cd pc = .ok (.lcmp, 1)) (pc1 : Nat) (hp1 : pc + 1 = pc1) (hd : decode cd pc1 = .ok (.ifCond .lt o, 3)) (ho : 0 ≤ (pc1 : Int) + o) (py pn : Nat) (hy : ((pc1 : Int) + o).toNat = py) (hn : pc1 + 3 = pn) (h1 : a < b → Ends p e s below R Q T (mkF m py ls st)) (h2 : ¬ a < b → Ends p e s below R Q T (mkF m pn ls st)) : Ends p e s below R Q T (mkF m pc ls (.long b :: .long a :: st)) := by
  subst hp1
  refine Ends.map (T' := T) (f' := mkF m (pc + 1) ls (.int (lcmpW a b) :: st)) (fun _ q => XS.lcmp X.here k.1 rfl (hb k.2.2.1 hd0) rfl q) ?_
  exact if_lt k X hd ho py pn hy hn (fun q => h1 ((lw_lt a b).mp q)) (fun q => h2 (mt (lw_lt a b).mpr q))
theorem lcmp_ge (k : K p s m meth c Z y cd ml ret) (X : Stand p l e R s m args below meth c T locs cells slots) {a b : Int64} {o : Int} (hd0 : decode cd pc = .ok (.lcmp, 1)) (pc1 : Nat) (hp1 : pc + 1 = pc1) (hd : decode cd pc1 = .ok (.ifCond .ge o, 3)) (ho : 0 ≤ (pc1 : Int) + o) (py pn : Nat) (hy : ((pc1 : Int) + o).toNat = py) (hn : pc1 + 3 = pn) (h1 : ¬ a < b → Ends p e s below R Q T (mkF m py ls st)) (h2 : a < b → Ends p e s below R Q T (mkF m pn ls st)) : Ends p e s below R Q T (mkF m pc ls (.long b :: .long a :: st)) := by
  subst hp1
  refine Ends.map (T' := T) (f' := mkF m (pc + 1) ls (.int (lcmpW a b) :: st)) (fun _ q => XS.lcmp X.here k.1 rfl (hb k.2.2.1 hd0) rfl q) ?_
  exact if_ge k X hd ho py pn hy hn (fun q => h1 (mt (lw_lt a b).mpr q)) (fun q => h2 ((lw_lt a b).mp q))
theorem lcmp_gt (k : K p s m meth c Z y cd ml ret) (X : Stand p l e R s m args below meth c T locs cells slots) {a b : Int64} {o : Int} (hd0 : decode cd pc = .ok (.lcmp, 1)) (pc1 : Nat) (hp1 : pc + 1 = pc1) (hd : decode cd pc1 = .ok (.ifCond .gt o, 3)) (ho : 0 ≤ (pc1 : Int) + o) (py pn : Nat) (hy : ((pc1 : Int) + o).toNat = py) (hn : pc1 + 3 = pn) (h1 : b < a → Ends p e s below R Q T (mkF m py ls st)) (h2 : ¬ b < a → Ends p e s below R Q T (mkF m pn ls st)) : Ends p e s below R Q T (mkF m pc ls (.long b :: .long a :: st)) := by
  subst hp1
  refine Ends.map (T' := T) (f' := mkF m (pc + 1) ls (.int (lcmpW a b) :: st)) (fun _ q => XS.lcmp X.here k.1 rfl (hb k.2.2.1 hd0) rfl q) ?_
  exact if_gt k X hd ho py pn hy hn (fun q => h1 ((lw_gt a b).mp q)) (fun q => h2 (mt (lw_gt a b).mpr q))
theorem lcmp_le (k : K p s m meth c Z y cd ml ret) (X : Stand p l e R s m args below meth c T locs cells slots) {a b : Int64} {o : Int} (hd0 : decode cd pc = .ok (.lcmp, 1)) (pc1 : Nat) (hp1 : pc + 1 = pc1) (hd : decode cd pc1 = .ok (.ifCond .le o, 3)) (ho : 0 ≤ (pc1 : Int) + o) (py pn : Nat) (hy : ((pc1 : Int) + o).toNat = py) (hn : pc1 + 3 = pn) (h1 : ¬ b < a → Ends p e s below R Q T (mkF m py ls st)) (h2 : b < a → Ends p e s below R Q T (mkF m pn ls st)) : Ends p e s below R Q T (mkF m pc ls (.long b :: .long a :: st)) := by
  subst hp1
  refine Ends.map (T' := T) (f' := mkF m (pc + 1) ls (.int (lcmpW a b) :: st)) (fun _ q => XS.lcmp X.here k.1 rfl (hb k.2.2.1 hd0) rfl q) ?_
  exact if_le k X hd ho py pn hy hn (fun q => h1 (mt (lw_gt a b).mpr q)) (fun q => h2 ((lw_gt a b).mp q))
theorem lcmp_eq (k : K p s m meth c Z y cd ml ret) (X : Stand p l e R s m args below meth c T locs cells slots) {a b : Int64} {o : Int} (hd0 : decode cd pc = .ok (.lcmp, 1)) (pc1 : Nat) (hp1 : pc + 1 = pc1) (hd : decode cd pc1 = .ok (.ifCond .eq o, 3)) (ho : 0 ≤ (pc1 : Int) + o) (py pn : Nat) (hy : ((pc1 : Int) + o).toNat = py) (hn : pc1 + 3 = pn) (h1 : a = b → Ends p e s below R Q T (mkF m py ls st)) (h2 : ¬ a = b → Ends p e s below R Q T (mkF m pn ls st)) : Ends p e s below R Q T (mkF m pc ls (.long b :: .long a :: st)) := by
  subst hp1
  refine Ends.map (T' := T) (f' := mkF m (pc + 1) ls (.int (lcmpW a b) :: st)) (fun _ q => XS.lcmp X.here k.1 rfl (hb k.2.2.1 hd0) rfl q) ?_
  exact if_eq k X hd ho py pn hy hn (fun q => h1 ((lw_eq a b).mp q)) (fun q => h2 (mt (lw_eq a b).mpr q))
theorem lcmp_ne (k : K p s m meth c Z y cd ml ret) (X : Stand p l e R s m args below meth c T locs cells slots) {a b : Int64} {o : Int} (hd0 : decode cd pc = .ok (.lcmp, 1)) (pc1 : Nat) (hp1 : pc + 1 = pc1) (hd : decode cd pc1 = .ok (.ifCond .ne o, 3)) (ho : 0 ≤ (pc1 : Int) + o) (py pn : Nat) (hy : ((pc1 : Int) + o).toNat = py) (hn : pc1 + 3 = pn) (h1 : ¬ a = b → Ends p e s below R Q T (mkF m py ls st)) (h2 : a = b → Ends p e s below R Q T (mkF m pn ls st)) : Ends p e s below R Q T (mkF m pc ls (.long b :: .long a :: st)) := by
  subst hp1
  refine Ends.map (T' := T) (f' := mkF m (pc + 1) ls (.int (lcmpW a b) :: st)) (fun _ q => XS.lcmp X.here k.1 rfl (hb k.2.2.1 hd0) rfl q) ?_
  exact if_ne k X hd ho py pn hy hn (fun q => h1 (mt (lw_eq a b).mpr q)) (fun q => h2 ((lw_eq a b).mp q))
/-! references -/
theorem ifnull_y (k : K p s m meth c Z y cd ml ret) (X : Stand p l e R s m args below meth c T locs cells slots) {o : Int} (hd : decode cd pc = .ok (.ifnull o, 3)) (ho : 0 ≤ (pc : Int) + o) (pc' : Nat) (hp : ((pc : Int) + o).toNat = pc') (h : Ends p e s below R Q T (mkF m pc' ls st)) : Ends p e s below R Q T (mkF m pc ls (.null :: st)) := by
  exact h.map fun _ q => XS.ifnullYes X.here k.1 rfl rfl (hb k.2.2.1 hd) rfl ho hp q
theorem ifnull_n (k : K p s m meth c Z y cd ml ret) (X : Stand p l e R s m args below meth c T locs cells slots) {o : Int} {a : Addr} (hd : decode cd pc = .ok (.ifnull o, 3)) (pc' : Nat) (hp : pc + 3 = pc') (h : Ends p e s below R Q T (mkF m pc' ls st)) : Ends p e s below R Q T (mkF m pc ls (.ref a :: st)) := by
  subst hp; exact h.map fun _ q => XS.ifnullNo X.here k.1 rfl (hb k.2.2.1 hd) rfl q
theorem ifnonnull_y (k : K p s m meth c Z y cd ml ret) (X : Stand p l e R s m args below meth c T locs cells slots) {o : Int} {a : Addr} (hd : decode cd pc = .ok (.ifnonnull o, 3)) (ho : 0 ≤ (pc : Int) + o) (pc' : Nat) (hp : ((pc : Int) + o).toNat = pc') (h : Ends p e s below R Q T (mkF m pc' ls st)) : Ends p e s below R Q T (mkF m pc ls (.ref a :: st)) := by
  exact h.map fun _ q => XS.ifnonnullYes X.here k.1 rfl rfl (hb k.2.2.1 hd) rfl ho hp q
theorem ifnonnull_n (k : K p s m meth c Z y cd ml ret) (X : Stand p l e R s m args below meth c T locs cells slots) {o : Int} (hd : decode cd pc = .ok (.ifnonnull o, 3)) (pc' : Nat) (hp : pc + 3 = pc') (h : Ends p e s below R Q T (mkF m pc' ls st)) : Ends p e s below R Q T (mkF m pc ls (.null :: st)) := by
  subst hp; exact h.map fun _ q => XS.ifnonnullNo X.here k.1 rfl (hb k.2.2.1 hd) rfl q
/-! returns -/
theorem ret_int (k : K p s m meth c Z y cd ml ret) (X : Stand p l e R s m args below meth c T locs cells slots) (hret : ret = some .int) {z : Int32} (hd : decode cd pc = .ok (.ireturn, 1)) (hc : cells ≤ R.cells) (hs : slots ≤ R.slots) (h : Q (some (.int z)) T.heap locs) : Ends p e s below R Q T (mkF m pc ls (.int z :: st)) := by
  have hl := k.2.2.2.2.2.2.1
  obtain ⟨fs, hr, hrun, hended, hW, hsame⟩ := X.leave (v := some (.int z)) (fun q => by rw [k.2.2.2.2.2.1, hret] at q; cases q)
  exact ⟨_, _, retOut X k.1 (t := .int) (k.2.2.2.2.2.1.trans hret) rfl (Or.inl ⟨rfl, Or.inl rfl, _, rfl⟩) (hb k.2.2.1 hd) hr, hrun, hended, _, _, rfl, h, ⟨_, rfl⟩, hW, hsame.mono hc hs⟩
theorem ret_bool (k : K p s m meth c Z y cd ml ret) (X : Stand p l e R s m args below meth c T locs cells slots) (hret : ret = some .boolean) {z : Int32} (hd : decode cd pc = .ok (.ireturn, 1)) (hc : cells ≤ R.cells) (hs : slots ≤ R.slots) (hz : z = 0 ∨ z = 1) (h : Q (some (.int z)) T.heap locs) : Ends p e s below R Q T (mkF m pc ls (.int z :: st)) := by
  have hl := k.2.2.2.2.2.2.1
  obtain ⟨fs, hr, hrun, hended, hW, hsame⟩ := X.leave (v := some (.int z)) (fun q => by rw [k.2.2.2.2.2.1, hret] at q; cases q)
  exact ⟨_, _, retOut X k.1 (t := .boolean) (k.2.2.2.2.2.1.trans hret) (by rcases hz with rfl | rfl <;> rfl) (Or.inl ⟨rfl, Or.inr (Or.inl rfl), _, rfl⟩) (hb k.2.2.1 hd) hr, hrun, hended, _, _, rfl, h, ⟨_, rfl⟩, hW, hsame.mono hc hs⟩
theorem ret_long (k : K p s m meth c Z y cd ml ret) (X : Stand p l e R s m args below meth c T locs cells slots) (hret : ret = some .long) {z : Int64} (hd : decode cd pc = .ok (.lreturn, 1)) (hc : cells ≤ R.cells) (hs : slots ≤ R.slots) (h : Q (some (.long z)) T.heap locs) : Ends p e s below R Q T (mkF m pc ls (.long z :: st)) := by
  have hl := k.2.2.2.2.2.2.1
  obtain ⟨fs, hr, hrun, hended, hW, hsame⟩ := X.leave (v := some (.long z)) (fun q => by rw [k.2.2.2.2.2.1, hret] at q; cases q)
  exact ⟨_, _, retOut X k.1 (t := .long) (k.2.2.2.2.2.1.trans hret) rfl (Or.inr (Or.inl ⟨rfl, rfl, _, rfl⟩)) (hb k.2.2.1 hd) hr, hrun, hended, _, _, rfl, h, ⟨_, rfl⟩, hW, hsame.mono hc hs⟩
theorem ret_ref (k : K p s m meth c Z y cd ml ret) (X : Stand p l e R s m args below meth c T locs cells slots) {t : FieldType} (hret : ret = some t) (ht : t.isReference = true) {z : Value} (hz : z.isRef = true) (hn : narrow t z = z) (hd : decode cd pc = .ok (.areturn, 1)) (hc : cells ≤ R.cells) (hs : slots ≤ R.slots) (h : Q (some z) T.heap locs) : Ends p e s below R Q T (mkF m pc ls (z :: st)) := by
  have hl := k.2.2.2.2.2.2.1
  obtain ⟨fs, hr, hrun, hended, hW, hsame⟩ := X.leave (v := some z) (fun q => by rw [k.2.2.2.2.2.1, hret] at q; cases q)
  exact ⟨_, _, retOut X k.1 (t := t) (k.2.2.2.2.2.1.trans hret) hn (Or.inr (Or.inr (Or.inr (Or.inr ⟨rfl, ht, hz⟩)))) (hb k.2.2.1 hd) hr, hrun, hended, _, _, rfl, h, ⟨_, rfl⟩, hW, hsame.mono hc hs⟩
theorem ret_void (k : K p s m meth c Z y cd ml ret) (X : Stand p l e R s m args below meth c T locs cells slots) (hret : ret = none) (hd : decode cd pc = .ok (.return_, 1)) (hc : cells ≤ R.cells) (hs : slots ≤ R.slots) (h : Q none T.heap locs) : Ends p e s below R Q T (mkF m pc ls []) := by
  have hl := k.2.2.2.2.2.2.1
  obtain ⟨fs, hr, hrun, hended, hW, hsame⟩ := X.leave (v := none) (fun _ => rfl)
  exact ⟨_, _, X.returnOut k.1 (k.2.2.2.2.2.1.trans hret) (hb k.2.2.1 hd) hr, hrun, hended, _, _, rfl, h, ⟨_, rfl⟩, hW, hsame.mono hc hs⟩
/-! the heap -/
theorem getfield (k : K p s m meth c Z y cd ml ret) (X : Stand p l e R s m args below meth c T locs cells slots) {R0 O n d host : String} {idx : Nat} {a : Addr} {v : Value} (hd : decode cd pc = .ok (.getfield idx, 3)) (wl : (Jvm.Cond.fieldLink y.cls idx R0 n d).before a0 Z = true ∨ (Jvm.Cond.fieldLinkNest y.cls idx R0 n d host).before a0 Z = true) (via : Via Z R0 O n d) (e0 : T.heap = h) (F : Fld Z h a O n d v) (pc' : Nat) (hp : pc + 3 = pc')
    (g : ∀ T' : State, Stand p l e R s m args below meth c T' locs cells slots → T'.heap = h → Ends p e s below R Q T' (mkF m pc' ls (v :: st))) : Ends p e s below R Q T (mkF m pc ls (.ref a :: st)) := by
  subst hp
  obtain ⟨T', X', e', q⟩ := getF X k.1 k.2.1 k.2.2.2.2.1 wl via e0 F (g := mkF m pc ls (.ref a :: st)) rfl rfl (hb k.2.2.1 hd)
  exact (g T' X' e').map q
theorem getstatic (k : K p s m meth c Z y cd ml ret) (X : Stand p l e R s m args below meth c T locs cells slots) {O n d host : String} {idx : Nat} {v : Value} (hd : decode cd pc = .ok (.getstatic idx, 3)) (wl : (Jvm.Cond.fieldLink y.cls idx O n d).before a0 Z = true ∨ (Jvm.Cond.fieldLinkNest y.cls idx O n d host).before a0 Z = true) (e0 : T.heap = h) (F : Sta Z h O n d v) (pc' : Nat) (hp : pc + 3 = pc')
    (g : ∀ T' : State, Stand p l e R s m args below meth c T' locs cells slots → T'.heap = h → Ends p e s below R Q T' (mkF m pc' ls (v :: st))) : Ends p e s below R Q T (mkF m pc ls st) := by
  subst hp
  obtain ⟨T', X', e', q⟩ := getS2 X k.1 k.2.1 k.2.2.2.2.1 wl Via.refl e0 F (g := mkF m pc ls st) rfl (hb k.2.2.1 hd)
  exact (g T' X' e').map q
theorem putfield (k : K p s m meth c Z y cd ml ret) (X : Stand p l e R s m args below meth c T locs cells slots) {R0 O n d host C : String} {idx kk : Nat} {ty : FieldType} {a : Addr} {v old : Value} (hd : decode cd pc = .ok (.putfield idx, 3)) (wl : (Jvm.Cond.fieldLink y.cls idx R0 n d).before a0 Z = true ∨ (Jvm.Cond.fieldLinkNest y.cls idx R0 n d host).before a0 Z = true) (via : Via Z R0 O n d) (e0 : T.heap = h) (F : Fld Z h a O n d old) (E : Exa Z h a C)
    (L : (Jvm.Cond.lays C O n d).before a0 Z = true ∨ ((Jvm.Cond.laysFinal C O n d).before a0 Z = true ∧ y.cls = O ∧ y.name = "<init>")) (wi : (Jvm.Cond.instantiable C kk).before a0 Z = true) (hty : parseFieldDescriptor d = some ty) (hn : narrow ty v = v) (hf : fits ty v = true) (pc' : Nat) (hp : pc + 3 = pc')
    (g : ∀ (T' : State) (h' : Heap), Stand p l e R s m args below meth c T' (locs ++ [⟨a, Jvm.RoadKit.slotOf Z O n d⟩]) cells slots → T'.heap = h' → Wr h h' a (Jvm.RoadKit.slotOf Z O n d) v → Ends p e s below R Q T' (mkF m pc' ls st)) : Ends p e s below R Q T (mkF m pc ls (v :: .ref a :: st)) := by
  subst hp
  obtain ⟨T', h', X', e', W', q⟩ := putF X k.1 k.2.1 k.2.2.2.2.1 wl via e0 F E (L.imp id fun q => ⟨q.1, q.2.1, k.2.2.2.2.2.2.2.trans q.2.2⟩) wi hty hn hf (g := mkF m pc ls (v :: .ref a :: st)) rfl rfl (hb k.2.2.1 hd)
  exact (g T' h' X' e' W').map q
theorem initObj (k : K p s m meth c Z y cd ml ret) (X : Stand p l e R s m args below meth c T locs cells slots) {idx : Nat} {a : Addr} {W : Nat} (hd : decode cd pc = .ok (.invokespecial idx, 3)) (w1 : (Jvm.Cond.methodLink y.cls idx Lib.objectInit).before a0 Z = true) (w2 : (Jvm.Cond.instanceMethod Lib.objectInit).before a0 Z = true) (w3 : (Jvm.Cond.code Lib.objectInit ⟨#[0xb1]⟩ 1 none).before a0 Z = true) (e0 : T.heap = h) (hsz : ls.size = ml) (hf : 1 ≤ R.frames) (hW : (st.map fun v => v.category).sum + 12 ≤ R.locals) (pc' : Nat) (hp : pc + 3 = pc')
    (g : ∀ T' : State, Stand p l e R s m args below meth c T' locs cells slots → T'.heap = h → Ends p e s below R Q T' (mkF m pc' ls st)) : Ends p e s below R Q T (mkF m pc ls (.ref a :: st)) := by
  subst hp
  obtain ⟨T', X', e', q⟩ := initO X k.1 k.2.1 k.2.2.2.2.1 w1 w2 w3 e0 (g := mkF m pc ls (.ref a :: st)) rfl (hsz.trans k.2.2.2.1.symm) rfl (hb k.2.2.1 hd) hf (W := (st.map fun v => v.category).sum) (by show 2 * 0 + _ ≤ _; rw [Nat.mul_zero, Nat.zero_add]; exact Nat.le_refl _) hW
  exact (g T' X' e').map q
theorem new (k : K p s m meth c Z y cd ml ret) (X : Stand p l e R s m args below meth c T locs cells slots) {C : String} {idx n : Nat} (hd : decode cd pc = .ok (.new idx, 3)) (wl : (Jvm.Cond.classLink y.cls idx C).before a0 Z = true) (wi : (Jvm.Cond.instantiable C n).before a0 Z = true) (wz : (Jvm.Cond.initialized C).before a0 Z = true) (e0 : T.heap = h) (hc : cells + 1 ≤ R.cells) (hs : slots + n ≤ R.slots) (pc' : Nat) (hp : pc + 3 = pc')
    (g : ∀ (T' : State) (h' : Heap) (a : Addr), a = h.size → Stand p l e R s m args below meth c T' locs (cells + 1) (slots + n) → T'.heap = h' → Ext h h' → Exa Z h' a C → (∀ {O nm d : String} {ty : FieldType}, Laid Z a0 C O nm d → parseFieldDescriptor d = some ty → Fld Z h' a O nm d (defaultValue ty)) → Ends p e s below R Q T' (mkF m pc' ls (.ref a :: st))) : Ends p e s below R Q T (mkF m pc ls st) := by
  subst hp
  obtain ⟨T', h', X', e', E', A', D', -, q⟩ := newO X k.1 k.2.1 k.2.2.2.2.1 wl wi wz e0 (g := mkF m pc ls st) rfl (hb k.2.2.1 hd) hc hs
  exact (g T' h' h.size rfl X' e' E' A' D').map q
theorem checkcast (k : K p s m meth c Z y cd ml ret) (X : Stand p l e R s m args below meth c T locs cells slots) {C : String} {idx : Nat} {a : Addr} (hd : decode cd pc = .ok (.checkcast idx, 3)) (wl : (Jvm.Cond.classLink y.cls idx C).before a0 Z = true) (e0 : T.heap = h) (F : Ins Z h a C true) (pc' : Nat) (hp : pc + 3 = pc')
    (g : ∀ T' : State, Stand p l e R s m args below meth c T' locs cells slots → T'.heap = h → Ends p e s below R Q T' (mkF m pc' ls (.ref a :: st))) : Ends p e s below R Q T (mkF m pc ls (.ref a :: st)) := by
  subst hp
  obtain ⟨T', X', e', q⟩ := castY X k.1 k.2.1 k.2.2.2.2.1 wl e0 F (g := mkF m pc ls (.ref a :: st)) rfl rfl (hb k.2.2.1 hd)
  exact (g T' X' e').map q
theorem inst_y (k : K p s m meth c Z y cd ml ret) (X : Stand p l e R s m args below meth c T locs cells slots) {C : String} {idx : Nat} {a : Addr} (hd : decode cd pc = .ok (.instanceof idx, 3)) (wl : (Jvm.Cond.classLink y.cls idx C).before a0 Z = true) (e0 : T.heap = h) (F : Ins Z h a C true) (pc' : Nat) (hp : pc + 3 = pc')
    (g : ∀ T' : State, Stand p l e R s m args below meth c T' locs cells slots → T'.heap = h → Ends p e s below R Q T' (mkF m pc' ls (.int 1 :: st))) : Ends p e s below R Q T (mkF m pc ls (.ref a :: st)) := by
  subst hp
  obtain ⟨T', X', e', q⟩ := instY X k.1 k.2.1 k.2.2.2.2.1 wl e0 F (g := mkF m pc ls (.ref a :: st)) rfl rfl (hb k.2.2.1 hd)
  exact (g T' X' e').map q
theorem acmp_same (k : K p s m meth c Z y cd ml ret) (X : Stand p l e R s m args below meth c T locs cells slots) {cnd : ACond} {o : Int} {a : Addr} (hd : decode cd pc = .ok (.if_acmp cnd o, 3)) (ho : 0 ≤ (pc : Int) + o) (pc' : Nat) (hp : pc' = if acV cnd true = true then ((pc : Int) + o).toNat else pc + 3) (h : Ends p e s below R Q T (mkF m pc' ls st)) : Ends p e s below R Q T (mkF m pc ls (.ref a :: .ref a :: st)) := by
  exact h.map fun _ q => Jvm.RoadKit.acmp (g := mkF m pc ls (.ref a :: .ref a :: st)) X k.1 rfl rfl rfl rfl (hb k.2.2.1 hd) rfl (decide_eq_true rfl) ho hp q
theorem acmp_diff (k : K p s m meth c Z y cd ml ret) (X : Stand p l e R s m args below meth c T locs cells slots) {cnd : ACond} {o : Int} {a : Addr} {v : Value} (hd : decode cd pc = .ok (.if_acmp cnd o, 3)) (hv : v.isRef = true) (hne : Value.ref a ≠ v) (ho : 0 ≤ (pc : Int) + o) (pc' : Nat) (hp : pc' = if acV cnd false = true then ((pc : Int) + o).toNat else pc + 3) (h : Ends p e s below R Q T (mkF m pc' ls st)) : Ends p e s below R Q T (mkF m pc ls (v :: .ref a :: st)) := by
  exact h.map fun _ q => Jvm.RoadKit.acmp (g := mkF m pc ls (v :: .ref a :: st)) X k.1 rfl rfl hv rfl (hb k.2.2.1 hd) rfl (decide_eq_false hne) ho hp q
theorem inst_null (k : K p s m meth c Z y cd ml ret) (X : Stand p l e R s m args below meth c T locs cells slots) {idx : Nat} (hd : decode cd pc = .ok (.instanceof idx, 3)) (pc' : Nat) (hp : pc + 3 = pc') (h : Ends p e s below R Q T (mkF m pc' ls (.int 0 :: st))) : Ends p e s below R Q T (mkF m pc ls (.null :: st)) := by
  subst hp; exact h.map fun _ q => X.instanceofNull k.1 (g := mkF m pc ls (.null :: st)) rfl rfl (hb k.2.2.1 hd) _ q
theorem inst_n (k : K p s m meth c Z y cd ml ret) (X : Stand p l e R s m args below meth c T locs cells slots) {C : String} {idx : Nat} {a : Addr} (hd : decode cd pc = .ok (.instanceof idx, 3)) (wl : (Jvm.Cond.classLink y.cls idx C).before a0 Z = true) (e0 : T.heap = h) (F : Ins Z h a C false) {C' : String} (E : Exa Z h a C') (pc' : Nat) (hp : pc + 3 = pc')
    (g : ∀ T' : State, Stand p l e R s m args below meth c T' locs cells slots → T'.heap = h → Ends p e s below R Q T' (mkF m pc' ls (.int 0 :: st))) : Ends p e s below R Q T (mkF m pc ls (.ref a :: st)) := by
  subst hp
  obtain ⟨cell, cT, h1, h2, h3⟩ := F
  obtain ⟨cell', kc, e1, -, e3, e4, -⟩ := E
  cases h1.symm.trans e1
  obtain ⟨k', q, -⟩ := k.2.1.alike.2.2 _ _ e3
  obtain ⟨vm', X', st'⟩ := Jvm.Sym.instanceofNoAt X k.1 k.2.2.2.2.1 (mvT k.2.1 wl) (by rw [e0]; exact h1) e4 q (by rw [k.2.1.alike.findClass]; exact h2) (by rw [k.2.1.alike.assignable]; simpa [e4] using h3) (g := mkF m pc ls (.ref a :: st)) rfl rfl (hb k.2.2.1 hd)
  exact (g _ X' e0).map st'
end
/-! arrays: the list of what they hold -/
def Arl (Z : State) (h : Heap) (a : Addr) (ty : FieldType) (vs : List Value) : Prop := ∃ c : Cell, Arr Z h a c ty ∧ c.slots.toList = vs ∧ vs.length < 2147483648
section
variable {Z : State} {h h' : Heap} {a b : Addr} {ty : FieldType} {vs : List Value} {sl : Nat} {v : Value} {ws : List Addr}
theorem Arl.lt (F : Arl Z h a ty vs) : a < h.size := by obtain ⟨c, A, -⟩ := F; exact A.lt
theorem Arl.ext (F : Arl Z h a ty vs) (E : Ext h h') : Arl Z h' a ty vs := by obtain ⟨c, A, r⟩ := F; exact ⟨c, A.ext E, r⟩
theorem Arl.other (F : Arl Z h b ty vs) (W : Wr h h' a sl v) (q : b ≠ a) : Arl Z h' b ty vs := by obtain ⟨c, A, r⟩ := F; exact ⟨c, A.other W q, r⟩
theorem Arl.keep (F : Arl Z h a ty vs) (K : Keep h h' ws) (q : a ∉ ws) : Arl Z h' a ty vs := by obtain ⟨c, A, r⟩ := F; exact ⟨c, ⟨K.2.1 a c A.1 q, A.2⟩, r⟩
theorem Arl.same (F : Arl Z h a ty vs) (W : Wr h h' a sl v) : Arl Z h' a ty (vs.set sl v) := by
  obtain ⟨c, A, rfl, hl⟩ := F
  refine ⟨c.setSlot sl v, A.same W, ?_, by rw [List.length_set]; exact hl⟩
  simp [Cell.setSlot]
theorem tnc {j : Int32} {i : Nat} (hj : j.toInt = i) : j.toNatClampNeg = i := by simp only [Int32.toNatClampNeg, hj]; rfl
theorem inb {j : Int32} {i n : Nat} (hj : j.toInt = i) (hi : i < n) : ¬ (j < 0 ∨ n ≤ j.toNatClampNeg) := by
  rw [tnc hj]; intro q
  rcases q with q | q
  · rw [Int32.lt_iff_toInt_lt] at q; have e0 : (0 : Int32).toInt = 0 := rfl; omega
  · omega
theorem lt_of_get {xs : List Int32} {i : Nat} {x : Int32} (q : xs[i]? = some x) : i < xs.length := (List.getElem?_eq_some_iff.mp q).1
end
section
variable {p : Program} {l : Launch} {e : Env} {R : Room} {s : State} {m : MethodId} {args : Array Value} {below : List Frame} {meth : Method} {c : Code} {T : State} {locs : List Loc} {cells slots : Nat} {Z : State} {a0 : Array Value} {h : Heap} {y : MethodName} {cd : ByteArray} {ml : Nat} {ret : Option FieldType} {Q : Option Value → Heap → List Loc → Prop} {pc pc' : Nat} {ls : Array Slot} {st : List Value}
theorem arraylength (k : K p s m meth c Z y cd ml ret) (X : Stand p l e R s m args below meth c T locs cells slots) {ty : FieldType} {vs : List Value} {a : Addr} (hd : decode cd pc = .ok (.arraylength, 1)) (e0 : T.heap = h) (A : Arl Z h a ty vs) (n : Int32) (hn : n.toInt = vs.length) (pc' : Nat) (hp : pc + 1 = pc') (g : Ends p e s below R Q T (mkF m pc' ls (.int n :: st))) : Ends p e s below R Q T (mkF m pc ls (.ref a :: st)) := by
  subst hp
  obtain ⟨cl, Ar, rfl, hl⟩ := A
  have q : cl.slots.size.toInt32 = n := by
    apply Int32.toInt_inj.mp
    rw [len_toInt (by simpa using hl), hn]; simp
  refine g.map fun _ r => X.arraylength k.1 (by rw [e0]; exact Ar.1) (State.isArrayOf_alike k.2.1.alike Ar.2.1) (g := mkF m pc ls (.ref a :: st)) rfl rfl (hb k.2.2.1 hd) _ ?_
  rw [q]; exact r
theorem iaload (k : K p s m meth c Z y cd ml ret) (X : Stand p l e R s m args below meth c T locs cells slots) {xs : List Int32} {a : Addr} {j : Int32} (hd : decode cd pc = .ok (.iaload, 1)) (e0 : T.heap = h) (A : Arl Z h a .int (xs.map .int)) (i : Nat) (hj : j.toInt = i) (x : Int32) (hx : xs[i]? = some x) (pc' : Nat) (hp : pc + 1 = pc') (g : Ends p e s below R Q T (mkF m pc' ls (.int x :: st))) : Ends p e s below R Q T (mkF m pc ls (.int j :: .ref a :: st)) := by
  subst hp
  obtain ⟨cl, Ar, hs, hl⟩ := A
  have hz : cl.slots.size = xs.length := by rw [← Array.length_toList, hs, List.length_map]
  refine g.map fun _ r => X.iaload k.1 (j := j) (v := .int x) (by rw [e0]; exact Ar.1) (State.isArrayOf_alike k.2.1.alike Ar.2.1) Ar.2.2 (inb hj (hz ▸ lt_of_get hx)) ?_ (g := mkF m pc ls (.int j :: .ref a :: st)) rfl rfl (hb k.2.2.1 hd) _ r
  rw [tnc hj, ← Array.getElem?_toList, hs, List.getElem?_map, hx]; rfl
theorem baload (k : K p s m meth c Z y cd ml ret) (X : Stand p l e R s m args below meth c T locs cells slots) {xs : List Int32} {a : Addr} {j : Int32} (hd : decode cd pc = .ok (.baload, 1)) (e0 : T.heap = h) (A : Arl Z h a .byte (xs.map .int)) (i : Nat) (hj : j.toInt = i) (x : Int32) (hx : xs[i]? = some x) (pc' : Nat) (hp : pc + 1 = pc') (g : Ends p e s below R Q T (mkF m pc' ls (.int x :: st))) : Ends p e s below R Q T (mkF m pc ls (.int j :: .ref a :: st)) := by
  subst hp
  obtain ⟨cl, Ar, hs, hl⟩ := A
  have hz : cl.slots.size = xs.length := by rw [← Array.length_toList, hs, List.length_map]
  refine g.map fun _ r => X.baloadBytes k.1 (j := j) (v := .int x) (by rw [e0]; exact Ar.1) (State.isArrayOf_alike k.2.1.alike Ar.2.1) Ar.2.2 (inb hj (hz ▸ lt_of_get hx)) ?_ (g := mkF m pc ls (.int j :: .ref a :: st)) rfl rfl (hb k.2.2.1 hd) _ r
  rw [tnc hj, ← Array.getElem?_toList, hs, List.getElem?_map, hx]; rfl
theorem iastore (k : K p s m meth c Z y cd ml ret) (X : Stand p l e R s m args below meth c T locs cells slots) {xs : List Int32} {a : Addr} {j x : Int32} (hd : decode cd pc = .ok (.iastore, 1)) (e0 : T.heap = h) (A : Arl Z h a .int (xs.map .int)) (i : Nat) (hj : j.toInt = i) (hi : i < xs.length) (pc' : Nat) (hp : pc + 1 = pc')
    (g : ∀ (T' : State) (h' : Heap), Stand p l e R s m args below meth c T' (locs ++ [⟨a, i⟩]) cells slots → T'.heap = h' → Wr h h' a i (.int x) → Arl Z h' a .int ((xs.set i x).map .int) → Ends p e s below R Q T' (mkF m pc' ls st)) : Ends p e s below R Q T (mkF m pc ls (.int x :: .int j :: .ref a :: st)) := by
  subst hp
  have A' := A
  obtain ⟨cl, Ar, hs, hl⟩ := A
  have hz : cl.slots.size = xs.length := by rw [← Array.length_toList, hs, List.length_map]
  obtain ⟨T', h', X', e', W', q⟩ := stI X k.1 k.2.1 e0 Ar (j := j) (x := x) (inb hj (hz ▸ hi)) (g := mkF m pc ls (.int x :: .int j :: .ref a :: st)) rfl rfl (hb k.2.2.1 hd)
  rw [tnc hj] at X' W'
  exact (g T' h' X' e' W' (by rw [List.map_set]; exact A'.same W')).map q
theorem bastore (k : K p s m meth c Z y cd ml ret) (X : Stand p l e R s m args below meth c T locs cells slots) {xs : List Int32} {a : Addr} {j x : Int32} (hd : decode cd pc = .ok (.bastore, 1)) (e0 : T.heap = h) (A : Arl Z h a .byte (xs.map .int)) (i : Nat) (hj : j.toInt = i) (hi : i < xs.length) (x' : Int32) (hx' : x.toInt8.toInt32 = x') (pc' : Nat) (hp : pc + 1 = pc')
    (g : ∀ (T' : State) (h' : Heap), Stand p l e R s m args below meth c T' (locs ++ [⟨a, i⟩]) cells slots → T'.heap = h' → Wr h h' a i (.int x') → Arl Z h' a .byte ((xs.set i x').map .int) → Ends p e s below R Q T' (mkF m pc' ls st)) : Ends p e s below R Q T (mkF m pc ls (.int x :: .int j :: .ref a :: st)) := by
  subst hp hx'
  have A' := A
  obtain ⟨cl, Ar, hs, hl⟩ := A
  have hz : cl.slots.size = xs.length := by rw [← Array.length_toList, hs, List.length_map]
  obtain ⟨T', h', X', e', W', q⟩ := stB X k.1 k.2.1 e0 Ar (j := j) (x := x) (inb hj (hz ▸ hi)) (g := mkF m pc ls (.int x :: .int j :: .ref a :: st)) rfl rfl (hb k.2.2.1 hd)
  rw [tnc hj] at X' W'
  exact (g T' h' X' e' W' (by rw [List.map_set]; exact A'.same W')).map q
theorem newarray (k : K p s m meth c Z y cd ml ret) (X : Stand p l e R s m args below meth c T locs cells slots) {aty : ArrayType} {n : Int32} (hd : decode cd pc = .ok (.newarray aty, 2)) (wa : (Jvm.Cond.arrayClass (newarray.typeOf aty)).before a0 Z = true) (e0 : T.heap = h) (i : Nat) (hn : n.toInt = i) (cap : Nat) (hcap : i ≤ cap) (hb8 : cap * 8 ≤ 536870912) (hc : cells + 1 ≤ R.cells) (hs : slots + cap ≤ R.slots) (pc' : Nat) (hp : pc + 2 = pc')
    (g : ∀ (T' : State) (h' : Heap) (a : Addr), a = h.size → Stand p l e R s m args below meth c T' locs (cells + 1) (slots + cap) → T'.heap = h' → Ext h h' → Arl Z h' a (newarray.typeOf aty) (List.replicate i (defaultValue (newarray.typeOf aty))) → Ends p e s below R Q T' (mkF m pc' ls (.ref a :: st))) : Ends p e s below R Q T (mkF m pc ls (.int n :: st)) := by
  subst hp
  have h0 : ¬ n < 0 := by rw [Int32.lt_iff_toInt_lt]; have e0 : (0 : Int32).toInt = 0 := rfl; omega
  obtain ⟨T', h', cA, X', e', E', A', q⟩ := newP X k.1 k.2.1 wa e0 (g := mkF m pc ls (.int n :: st)) rfl (hb k.2.2.1 hd) rfl h0 (cap := cap) (by rw [tnc hn]; exact hcap) hb8 hc hs
  refine (g T' h' h.size rfl X' e' E' ⟨_, A', ?_, ?_⟩).map q
  · simp [newA, tnc hn]
  · rw [List.length_replicate]; omega
/-! calls, by the callee's contract -/
theorem callS (k : K p s m meth c Z y cd ml ret) (X : Stand p l e R s m args below meth c T locs cells slots) {y' : MethodName} {cd' : ByteArray} {ml' : Nat} {ret' : Option FieldType} {rm' : Room} {Qc : Option Value → Heap → List Loc → Prop} {idx : Nat} {ps : List FieldType} {rt : Option FieldType} (as : List Value) (rest : List Value) (hd : decode cd pc = .ok (.invokestatic idx, 3)) (M : Met l y' cd' ml' ret' rm' as.toArray Z h Qc []) (e0 : T.heap = h)
    (w1 : (Jvm.Cond.methodLink y.cls idx y').before a0 Z = true) (w2 : (Jvm.Cond.static y').before a0 Z = true) (w3 : (Jvm.Cond.initialized y'.cls).before a0 Z = true) (w4 : (Jvm.Cond.code y' cd' ml' ret').before a0 Z = true) (hy : y'.cls ≠ "java/lang/invoke/MethodHandle" ∧ y'.cls ≠ "java/lang/invoke/VarHandle") (hsz : ls.size = ml) (hlen : parseMethodDescriptor y'.desc = some ⟨ps, rt⟩) (hl2 : as.length = ps.length) (hst : st = as.reverse ++ rest)
    (hf : rm'.frames + 1 ≤ R.frames) (hlo : (rest.map fun v => v.category).sum + (ml' + 11) + rm'.locals ≤ R.locals) (hc : cells + rm'.cells ≤ R.cells) (hs : slots + rm'.slots ≤ R.slots) (pc' : Nat) (hp : pc + 3 = pc')
    (g : ∀ (T' : State) (v : Option Value) (L : List Loc), Stand p l e R s m args below meth c T' (locs ++ L) (cells + rm'.cells) (slots + rm'.slots) → Qc v T'.heap L → Ends p e s below R Q T' (mkF m pc' ls (v.toList ++ rest))) : Ends p e s below R Q T (mkF m pc ls st) := by
  subst hp hst
  obtain ⟨v, _, ⟨T', L', c', n'⟩, -, X', ⟨Lc, hQ, q1, q2, q3⟩, q⟩ := Jvm.LawKit.callS X k.1 (y := y') k.2.2.2.2.1 (mvT k.2.1 w1) (mvT k.2.1 w2) (mvT k.2.1 w3) (mvT k.2.1 w4) hy (backOf (W := (rest.map fun v => v.category).sum) M k.2.1 w4 w3 hf hlo) (g := mkF m pc ls (as.reverse ++ rest)) rfl (hsz.trans k.2.2.2.1.symm) (argsL := as) (rest := rest) (lenOf hlen hl2) rfl (by show 2 * 0 + _ ≤ _; rw [Nat.mul_zero, Nat.zero_add]; exact Nat.le_refl _) (hb k.2.2.1 hd) (fun _ _ => ⟨rfl, e0, hc, hs⟩)
  dsimp only [Pt.U, Pt.locs, Pt.cells, Pt.slots] at X' q1 q2 q3 q hQ
  subst q1 q2 q3
  exact (g T' v Lc X' hQ).map q
theorem callI (k : K p s m meth c Z y cd ml ret) (X : Stand p l e R s m args below meth c T locs cells slots) {y' : MethodName} {cd' : ByteArray} {ml' : Nat} {rm' : Room} {Qc : Option Value → Heap → List Loc → Prop} {idx : Nat} {ps : List FieldType} {rt : Option FieldType} {a : Addr} (as : List Value) (rest : List Value) (hd : decode cd pc = .ok (.invokespecial idx, 3)) (M : Met l y' cd' ml' none rm' (.ref a :: as).toArray Z h Qc []) (e0 : T.heap = h) (hin : y'.name = "<init>")
    (w1 : (Jvm.Cond.methodLink y.cls idx y').before a0 Z = true) (w2 : (Jvm.Cond.instanceMethod y').before a0 Z = true) (w3 : (Jvm.Cond.initialized y'.cls).before a0 Z = true) (w4 : (Jvm.Cond.code y' cd' ml' none).before a0 Z = true) (hy : y'.cls ≠ "java/lang/invoke/MethodHandle" ∧ y'.cls ≠ "java/lang/invoke/VarHandle") (hsz : ls.size = ml) (hlen : parseMethodDescriptor y'.desc = some ⟨ps, rt⟩) (hl2 : as.length = ps.length) (hst : st = as.reverse ++ .ref a :: rest)
    (hf : rm'.frames + 1 ≤ R.frames) (hlo : (rest.map fun v => v.category).sum + (ml' + 11) + rm'.locals ≤ R.locals) (hc : cells + rm'.cells ≤ R.cells) (hs : slots + rm'.slots ≤ R.slots) (pc' : Nat) (hp : pc + 3 = pc')
    (g : ∀ (T' : State) (v : Option Value) (L : List Loc), Stand p l e R s m args below meth c T' (locs ++ L) (cells + rm'.cells) (slots + rm'.slots) → Qc v T'.heap L → Ends p e s below R Q T' (mkF m pc' ls (v.toList ++ rest))) : Ends p e s below R Q T (mkF m pc ls st) := by
  subst hp hst
  obtain ⟨v, _, ⟨T', L', c', n'⟩, -, X', ⟨Lc, hQ, q1, q2, q3⟩, q⟩ := X.specialBack k.1 (y := y') hin k.2.2.2.2.1 (mvT k.2.1 w1) (mvT k.2.1 w2) (mvT k.2.1 w4) hy (backOf (W := (rest.map fun v => v.category).sum) M k.2.1 w4 w3 hf hlo) (g := mkF m pc ls (as.reverse ++ .ref a :: rest)) rfl (hsz.trans k.2.2.2.1.symm) (Steps.refl _) (a := a) (argsL := as) (rest := rest) (lenOf hlen hl2) rfl (by show 2 * 0 + _ ≤ _; rw [Nat.mul_zero, Nat.zero_add]; exact Nat.le_refl _) (hb k.2.2.1 hd) (fun _ _ => ⟨rfl, e0, hc, hs⟩)
  dsimp only [Pt.U, Pt.locs, Pt.cells, Pt.slots] at X' q1 q2 q3 q hQ
  subst q1 q2 q3
  exact (g T' v Lc X' hQ).map fun _ r => q.trans r
theorem callV (k : K p s m meth c Z y cd ml ret) (X : Stand p l e R s m args below meth c T locs cells slots) {y' : MethodName} {cd' : ByteArray} {ml' : Nat} {ret' : Option FieldType} {rm' : Room} {Qc : Option Value → Heap → List Loc → Prop} {idx : Nat} {ps : List FieldType} {rt : Option FieldType} {a : Addr} (as : List Value) (rest : List Value) (hd : decode cd pc = .ok (.invokevirtual idx, 3)) (M : Met l y' cd' ml' ret' rm' (.ref a :: as).toArray Z h Qc []) (e0 : T.heap = h) (E : Exa Z h a y'.cls)
    (w1 : (Jvm.Cond.methodLink y.cls idx y').before a0 Z = true) (w0 : (Jvm.Cond.declares y').before a0 Z = true) (ws : (Jvm.Cond.selects y'.cls y' y').before a0 Z = true) (w2 : (Jvm.Cond.instanceMethod y').before a0 Z = true) (w3 : (Jvm.Cond.initialized y'.cls).before a0 Z = true) (w4 : (Jvm.Cond.code y' cd' ml' ret').before a0 Z = true) (hy : y'.cls ≠ "java/lang/invoke/MethodHandle" ∧ y'.cls ≠ "java/lang/invoke/VarHandle") (hsz : ls.size = ml) (hlen : parseMethodDescriptor y'.desc = some ⟨ps, rt⟩) (hl2 : as.length = ps.length) (hst : st = as.reverse ++ .ref a :: rest)
    (hf : rm'.frames + 1 ≤ R.frames) (hlo : (rest.map fun v => v.category).sum + (ml' + 11) + rm'.locals ≤ R.locals) (hc : cells + rm'.cells ≤ R.cells) (hs : slots + rm'.slots ≤ R.slots) (pc' : Nat) (hp : pc + 3 = pc')
    (g : ∀ (T' : State) (v : Option Value) (L : List Loc), Stand p l e R s m args below meth c T' (locs ++ L) (cells + rm'.cells) (slots + rm'.slots) → Qc v T'.heap L → Ends p e s below R Q T' (mkF m pc' ls (v.toList ++ rest))) : Ends p e s below R Q T (mkF m pc ls st) := by
  subst hp hst
  obtain ⟨cq, kq, qa, qb, qc⟩ := isOf k.2.1 e0 E
  obtain ⟨v, _, ⟨T', L', c', n'⟩, -, X', ⟨Lc, hQ, q1, q2, q3⟩, q⟩ := X.virtualBack k.1 (y := y') (z := y') k.2.2.2.2.1 (mvT k.2.1 w1) (mvT k.2.1 w0) (notFace_of_selects (args := #[]) (mvT k.2.1 ws)) (mvT k.2.1 ws) (mvT k.2.1 w2) hy (backOf (W := (rest.map fun v => v.category).sum) M k.2.1 w4 w3 hf hlo) qa qc (g := mkF m pc ls (as.reverse ++ .ref a :: rest)) rfl (hsz.trans k.2.2.2.1.symm) (Steps.refl _) (argsL := as) (rest := rest) (lenOf hlen hl2) rfl (by show 2 * 0 + _ ≤ _; rw [Nat.mul_zero, Nat.zero_add]; exact Nat.le_refl _) (hb k.2.2.1 hd) (fun _ _ => ⟨rfl, e0, hc, hs⟩)
  dsimp only [Pt.U, Pt.locs, Pt.cells, Pt.slots] at X' q1 q2 q3 q hQ
  subst q1 q2 q3
  exact (g T' v Lc X' hQ).map fun _ r => q.trans r
theorem callP (k : K p s m meth c Z y cd ml ret) (X : Stand p l e R s m args below meth c T locs cells slots) {y' : MethodName} {cd' : ByteArray} {ml' : Nat} {ret' : Option FieldType} {rm' : Room} {Qc : Option Value → Heap → List Loc → Prop} {idx : Nat} {ps : List FieldType} {rt : Option FieldType} {a : Addr} {C : String} {ni : Nat} (as : List Value) (rest : List Value) (hd : decode cd pc = .ok (.invokevirtual idx, 3)) (M : Met l y' cd' ml' ret' rm' (.ref a :: as).toArray Z h Qc []) (e0 : T.heap = h) (E : Exa Z h a C)
    (w1 : (Jvm.Cond.methodLink y.cls idx y').before a0 Z = true) (w0 : (Jvm.Cond.privateMethod y').before a0 Z = true) (wi : (Jvm.Cond.instantiable y'.cls ni).before a0 Z = true) (w2 : (Jvm.Cond.instanceMethod y').before a0 Z = true) (w3 : (Jvm.Cond.initialized y'.cls).before a0 Z = true) (w4 : (Jvm.Cond.code y' cd' ml' ret').before a0 Z = true) (hy : y'.cls ≠ "java/lang/invoke/MethodHandle" ∧ y'.cls ≠ "java/lang/invoke/VarHandle") (hsz : ls.size = ml) (hlen : parseMethodDescriptor y'.desc = some ⟨ps, rt⟩) (hl2 : as.length = ps.length) (hst : st = as.reverse ++ .ref a :: rest)
    (hf : rm'.frames + 1 ≤ R.frames) (hlo : (rest.map fun v => v.category).sum + (ml' + 11) + rm'.locals ≤ R.locals) (hc : cells + rm'.cells ≤ R.cells) (hs : slots + rm'.slots ≤ R.slots) (pc' : Nat) (hp : pc + 3 = pc')
    (g : ∀ (T' : State) (v : Option Value) (L : List Loc), Stand p l e R s m args below meth c T' (locs ++ L) (cells + rm'.cells) (slots + rm'.slots) → Qc v T'.heap L → Ends p e s below R Q T' (mkF m pc' ls (v.toList ++ rest))) : Ends p e s below R Q T (mkF m pc ls st) := by
  subst hp hst
  obtain ⟨cq, qa, qb⟩ := E.cell
  obtain ⟨ci, ki, i1, i2, -, i4, -, -⟩ := Cond.instantiable_spec wi
  have ws := Jvm.Stand.selects_self_of_private (args := a0) i1 i2 (Bool.or_eq_false_iff.mp i4).1 (Cond.privateMethod_at w0) w2 hy
  obtain ⟨v, _, ⟨T', L', c', n'⟩, -, X', ⟨Lc, hQ, q1, q2, q3⟩, q⟩ := X.privateBack k.1 (y := y') k.2.2.2.2.1 (mvT k.2.1 w1) (mvT k.2.1 w2) (mvT k.2.1 ws) (Cond.privateMethod_at (mvP k.2.1 w0 (args := #[]))) (mvT k.2.1 w4) hy (backOf (W := (rest.map fun v => v.category).sum) M k.2.1 w4 w3 hf hlo) (g := mkF m pc ls (as.reverse ++ .ref a :: rest)) rfl (hsz.trans k.2.2.2.1.symm) (Steps.refl _) (a := a) (by rw [e0]; exact qa) qb (argsL := as) (rest := rest) (lenOf hlen hl2) rfl (by show 2 * 0 + _ ≤ _; rw [Nat.mul_zero, Nat.zero_add]; exact Nat.le_refl _) (hb k.2.2.1 hd) (fun _ _ => ⟨rfl, e0, hc, hs⟩)
  dsimp only [Pt.U, Pt.locs, Pt.cells, Pt.slots] at X' q1 q2 q3 q hQ
  subst q1 q2 q3
  exact (g T' v Lc X' hQ).map fun _ r => q.trans r
end
end Wk
/-! own_: char arrays -/
namespace Wk
section
variable {p : Program} {l : Launch} {e : Env} {R : Room} {s : State} {m : MethodId} {args : Array Value} {below : List Frame} {meth : Method} {c : Code} {T : State} {locs : List Loc} {cells slots : Nat} {Z : State} {a0 : Array Value} {h : Heap} {y : MethodName} {cd : ByteArray} {ml : Nat} {ret : Option FieldType} {Q : Option Value → Heap → List Loc → Prop} {pc pc' : Nat} {ls : Array Slot} {st : List Value}
theorem caload (k : K p s m meth c Z y cd ml ret) (X : Stand p l e R s m args below meth c T locs cells slots) {xs : List Int32} {a : Addr} {j : Int32} (hd : decode cd pc = .ok (.caload, 1)) (e0 : T.heap = h) (A : Arl Z h a .char (xs.map .int)) (i : Nat) (hj : j.toInt = i) (x : Int32) (hx : xs[i]? = some x) (pc' : Nat) (hp : pc + 1 = pc') (g : Ends p e s below R Q T (mkF m pc' ls (.int x :: st))) : Ends p e s below R Q T (mkF m pc ls (.int j :: .ref a :: st)) := by
  subst hp
  obtain ⟨cl, Ar, hs, hl⟩ := A
  have hz : cl.slots.size = xs.length := by rw [← Array.length_toList, hs, List.length_map]
  refine g.map fun _ r => X.caload k.1 (j := j) (v := .int x) (by rw [e0]; exact Ar.1) (State.isArrayOf_alike k.2.1.alike Ar.2.1) Ar.2.2 (inb hj (hz ▸ lt_of_get hx)) ?_ (g := mkF m pc ls (.int j :: .ref a :: st)) rfl rfl (hb k.2.2.1 hd) _ r
  rw [tnc hj, ← Array.getElem?_toList, hs, List.getElem?_map, hx]; rfl
theorem castore (k : K p s m meth c Z y cd ml ret) (X : Stand p l e R s m args below meth c T locs cells slots) {xs : List Int32} {a : Addr} {j x : Int32} (hd : decode cd pc = .ok (.castore, 1)) (e0 : T.heap = h) (A : Arl Z h a .char (xs.map .int)) (i : Nat) (hj : j.toInt = i) (hi : i < xs.length) (x' : Int32) (hx' : x.toUInt32.toUInt16.toUInt32.toInt32 = x') (pc' : Nat) (hp : pc + 1 = pc')
    (g : ∀ (T' : State) (h' : Heap), Stand p l e R s m args below meth c T' (locs ++ [⟨a, i⟩]) cells slots → T'.heap = h' → Wr h h' a i (.int x') → Arl Z h' a .char ((xs.set i x').map .int) → Ends p e s below R Q T' (mkF m pc' ls st)) : Ends p e s below R Q T (mkF m pc ls (.int x :: .int j :: .ref a :: st)) := by
  subst hp hx'
  have A' := A
  obtain ⟨cl, Ar, hs, hl⟩ := A
  have hz : cl.slots.size = xs.length := by rw [← Array.length_toList, hs, List.length_map]
  obtain ⟨T', h', X', e', W', q⟩ := stC X k.1 k.2.1 e0 Ar (j := j) (x := x) (inb hj (hz ▸ hi)) (g := mkF m pc ls (.int x :: .int j :: .ref a :: st)) rfl rfl (hb k.2.2.1 hd)
  rw [tnc hj] at X' W'
  exact (g T' h' X' e' W' (by rw [List.map_set]; exact A'.same W')).map q
end
end Wk
/-! own_: the wide family: the same laws for a body that may load String constants: its Stand goes over the start with the tables at hand -/
namespace Wh
open Wk
section
variable {p : Program} {l : Launch} {e : Env} {R : Room} {s : State} {m : MethodId} {args : Array Value} {below : List Frame} {meth : Method} {c : Code} {T : State} {locs : List Loc} {cells slots : Nat} {Z : State} {a0 : Array Value} {h : Heap} {y : MethodName} {cd : ByteArray} {ml : Nat} {ret : Option FieldType} {Q : Option Value → Vm → Heap → List Loc → Prop} {pc pc' : Nat} {s0 : State} {vm0 : Vm} {k0 : Nat} {ls : Array Slot} {st : List Value}
def Ends (p : Program) (e : Env) (s : State) (below : List Frame) (R : Room) (Q : Option Value → Vm → Heap → List Loc → Prop) (T : State) (f : JFrame) : Prop :=
  ∃ s₂ o, Steps p.tables e below (T.setTop f) s₂ ∧ s₂.status = .running ∧ Ended s₂ below o ∧ ∃ v L, o = .returned v ∧ Q v s₂.vm s₂.heap L ∧ ReturnedEndW s o s₂ L R.cells R.slots
/-- a body's contract: it may intern; PV is asked of the tables at its start, Q tells of those at its end too -/
def Met (l : Launch) (y : MethodName) (cd : ByteArray) (ml : Nat) (ret : Option FieldType) (rm : Room) (as' : Array Value) (Z : State) (h : Heap) (PV : Vm → Prop) (Q : Vm → Option Value → Vm → Heap → List Loc → Prop) (ws : List Jvm.Cond) : Prop :=
  MetFree l y (head1 (Jvm.Cond.code y cd ml ret :: ws) rm) (fun a U => a = as' ∧ Z.Warmed39 U.vm ∧ U.heap = h ∧ PV U.vm) (fun _ _ _ _ _ => True) (fun _ U o U' => ∃ v L, o = .returned v ∧ Q U.vm v U'.vm U'.heap L ∧ ReturnedEndW U o U' L rm.cells rm.slots)
theorem enter {rm : Room} {as' : Array Value} {PV : Vm → Prop} {Qv : Vm → Option Value → Vm → Heap → List Loc → Prop} {ws : List Jvm.Cond} (hpl : plainFor y = true)
    (body : ∀ (p : Program) (e : Env) (s0 : State) (k0 : Nat) (m : MethodId) (below : List Frame) (meth : Method) (c : Code) (T : State), Wk.K p (s0.setVm s0.vm) m meth c Z y cd ml ret → Stand p l e rm (s0.setVm s0.vm) m as' below meth c T [] 0 0 → T.heap = h → s0.Since s0.vm k0 → k0 ≤ h.size → PV s0.vm → Ends p e s0 below rm (Qv s0.vm) T (entryFrame m as' ml)) :
    Met l y cd ml ret rm as' Z h PV Qv ws := by
  refine MetFree.of_bodySF hpl hisR ?_
  intro p e s m args below meth c s₁ Bd hml0 hP hK
  obtain ⟨rfl, hZ, hh, hv⟩ := hP
  exact body p e s s.heap.size m below meth c s₁ ⟨Bd.exec, hZ, Bd.bytes, hml0, findClass_of_methodNamed Bd.named, Bd.returns, Bd.notSynchronized, (name_of_methodNamed Bd.named Bd.method).1⟩ (Stand.of_body Bd) (by rw [← hh, Bd.state]; rfl) ((State.WarmedH.refl s).since _) (by rw [← hh]; exact Nat.le_refl _) hv
theorem Ends.map {T' : State} {f f' : JFrame} (st : ∀ target, Steps p.tables e below (T'.setTop f') target → Steps p.tables e below (T.setTop f) target) (h : Ends p e s0 below R Q T' f') : Ends p e s0 below R Q T f := by
  obtain ⟨s₂, o, h1, h2⟩ := h
  exact ⟨s₂, o, st _ h1, h2⟩
theorem Ends.cast {f f' : JFrame} (q : f = f') (h : Ends p e s0 below R Q T f') : Ends p e s0 below R Q T f := q ▸ h
theorem iload_n (k : Wk.K p s m meth c Z y cd ml ret) (X : Stand p l e R s m args below meth c T locs cells slots) {i : Fin 4} {v : Int32} (hd : decode cd pc = .ok (.iload_n i, 1)) (hl : ls[i.val]? = some (.val (.int v))) (pc' : Nat) (hp : pc + 1 = pc') (h : Ends p e s0 below R Q T (mkF m pc' ls (.int v :: st))) : Ends p e s0 below R Q T (mkF m pc ls st) := by
  subst hp; exact h.map fun _ q => XS.iloadN X.here k.1 rfl (hb k.2.2.1 hd) hl q
theorem iload (k : Wk.K p s m meth c Z y cd ml ret) (X : Stand p l e R s m args below meth c T locs cells slots) {i : Nat} {v : Int32} (hd : decode cd pc = .ok (.iload i, 2)) (hl : ls[i]? = some (.val (.int v))) (pc' : Nat) (hp : pc + 2 = pc') (h : Ends p e s0 below R Q T (mkF m pc' ls (.int v :: st))) : Ends p e s0 below R Q T (mkF m pc ls st) := by
  subst hp; exact h.map fun _ q => XS.iload X.here k.1 rfl (hb k.2.2.1 hd) hl q
theorem lload_n (k : Wk.K p s m meth c Z y cd ml ret) (X : Stand p l e R s m args below meth c T locs cells slots) {i : Fin 4} {v : Int64} (hd : decode cd pc = .ok (.lload_n i, 1)) (hl : ls[i.val]? = some (.val (.long v))) (pc' : Nat) (hp : pc + 1 = pc') (h : Ends p e s0 below R Q T (mkF m pc' ls (.long v :: st))) : Ends p e s0 below R Q T (mkF m pc ls st) := by
  subst hp; exact h.map fun _ q => XS.lloadN X.here k.1 rfl (hb k.2.2.1 hd) hl q
theorem lload (k : Wk.K p s m meth c Z y cd ml ret) (X : Stand p l e R s m args below meth c T locs cells slots) {i : Nat} {v : Int64} (hd : decode cd pc = .ok (.lload i, 2)) (hl : ls[i]? = some (.val (.long v))) (pc' : Nat) (hp : pc + 2 = pc') (h : Ends p e s0 below R Q T (mkF m pc' ls (.long v :: st))) : Ends p e s0 below R Q T (mkF m pc ls st) := by
  subst hp; exact h.map fun _ q => XS.lload X.here k.1 rfl (hb k.2.2.1 hd) hl q
theorem aload_n (k : Wk.K p s m meth c Z y cd ml ret) (X : Stand p l e R s m args below meth c T locs cells slots) {i : Fin 4} {v : Value} (hd : decode cd pc = .ok (.aload_n i, 1)) (hl : ls[i.val]? = some (.val v)) (hv : v.isRef = true) (pc' : Nat) (hp : pc + 1 = pc') (h : Ends p e s0 below R Q T (mkF m pc' ls (v :: st))) : Ends p e s0 below R Q T (mkF m pc ls st) := by
  subst hp; exact h.map fun _ q => XS.aloadN X.here k.1 rfl (hb k.2.2.1 hd) hl hv q
theorem aload (k : Wk.K p s m meth c Z y cd ml ret) (X : Stand p l e R s m args below meth c T locs cells slots) {i : Nat} {v : Value} (hd : decode cd pc = .ok (.aload i, 2)) (hl : ls[i]? = some (.val v)) (hv : v.isRef = true) (pc' : Nat) (hp : pc + 2 = pc') (h : Ends p e s0 below R Q T (mkF m pc' ls (v :: st))) : Ends p e s0 below R Q T (mkF m pc ls st) := by
  subst hp; exact h.map fun _ q => XS.aload X.here k.1 rfl (hb k.2.2.1 hd) hl hv q
theorem istore_n (k : Wk.K p s m meth c Z y cd ml ret) (X : Stand p l e R s m args below meth c T locs cells slots) {i : Fin 4} {v : Int32} (hd : decode cd pc = .ok (.istore_n i, 1)) (ls' : Array Slot) (hl : storeLocals ls i.val (.int v) = some ls') (pc' : Nat) (hp : pc + 1 = pc') (h : Ends p e s0 below R Q T (mkF m pc' ls' st)) : Ends p e s0 below R Q T (mkF m pc ls (.int v :: st)) := by
  subst hp; exact h.map fun _ q => XS.istoreN X.here k.1 rfl (hb k.2.2.1 hd) rfl hl q
theorem istore (k : Wk.K p s m meth c Z y cd ml ret) (X : Stand p l e R s m args below meth c T locs cells slots) {i : Nat} {v : Int32} (hd : decode cd pc = .ok (.istore i, 2)) (ls' : Array Slot) (hl : storeLocals ls i (.int v) = some ls') (pc' : Nat) (hp : pc + 2 = pc') (h : Ends p e s0 below R Q T (mkF m pc' ls' st)) : Ends p e s0 below R Q T (mkF m pc ls (.int v :: st)) := by
  subst hp; exact h.map fun _ q => XS.istore X.here k.1 rfl (hb k.2.2.1 hd) rfl hl q
theorem lstore_n (k : Wk.K p s m meth c Z y cd ml ret) (X : Stand p l e R s m args below meth c T locs cells slots) {i : Fin 4} {v : Int64} (hd : decode cd pc = .ok (.lstore_n i, 1)) (ls' : Array Slot) (hl : storeLocals ls i.val (.long v) = some ls') (pc' : Nat) (hp : pc + 1 = pc') (h : Ends p e s0 below R Q T (mkF m pc' ls' st)) : Ends p e s0 below R Q T (mkF m pc ls (.long v :: st)) := by
  subst hp; exact h.map fun _ q => XS.lstoreN X.here k.1 rfl (hb k.2.2.1 hd) rfl hl q
theorem lstore (k : Wk.K p s m meth c Z y cd ml ret) (X : Stand p l e R s m args below meth c T locs cells slots) {i : Nat} {v : Int64} (hd : decode cd pc = .ok (.lstore i, 2)) (ls' : Array Slot) (hl : storeLocals ls i (.long v) = some ls') (pc' : Nat) (hp : pc + 2 = pc') (h : Ends p e s0 below R Q T (mkF m pc' ls' st)) : Ends p e s0 below R Q T (mkF m pc ls (.long v :: st)) := by
  subst hp; exact h.map fun _ q => XS.lstore X.here k.1 rfl (hb k.2.2.1 hd) rfl hl q
theorem astore_n (k : Wk.K p s m meth c Z y cd ml ret) (X : Stand p l e R s m args below meth c T locs cells slots) {i : Fin 4} {v : Value} (hd : decode cd pc = .ok (.astore_n i, 1)) (hv : v.isRef = true) (ls' : Array Slot) (hl : storeLocals ls i.val v = some ls') (pc' : Nat) (hp : pc + 1 = pc') (h : Ends p e s0 below R Q T (mkF m pc' ls' st)) : Ends p e s0 below R Q T (mkF m pc ls (v :: st)) := by
  subst hp; exact h.map fun _ q => XS.astoreN X.here k.1 rfl (hb k.2.2.1 hd) rfl hv hl q
theorem astore (k : Wk.K p s m meth c Z y cd ml ret) (X : Stand p l e R s m args below meth c T locs cells slots) {i : Nat} {v : Value} (hd : decode cd pc = .ok (.astore i, 2)) (hv : v.isRef = true) (ls' : Array Slot) (hl : storeLocals ls i v = some ls') (pc' : Nat) (hp : pc + 2 = pc') (h : Ends p e s0 below R Q T (mkF m pc' ls' st)) : Ends p e s0 below R Q T (mkF m pc ls (v :: st)) := by
  subst hp; exact h.map fun _ q => XS.astore X.here k.1 rfl (hb k.2.2.1 hd) rfl hv hl q
theorem iinc (k : Wk.K p s m meth c Z y cd ml ret) (X : Stand p l e R s m args below meth c T locs cells slots) {i : Nat} {n : Int} {v : Int32} (hd : decode cd pc = .ok (.iinc i n, 3)) (hl : ls[i]? = some (.val (.int v))) (ls' : Array Slot) (hl' : storeLocals ls i (.int (v + Int32.ofInt n)) = some ls') (pc' : Nat) (hp : pc + 3 = pc') (h : Ends p e s0 below R Q T (mkF m pc' ls' st)) : Ends p e s0 below R Q T (mkF m pc ls st) := by
  subst hp; exact h.map fun _ q => XS.iinc X.here k.1 rfl (hb k.2.2.1 hd) hl hl' q
theorem iconst (k : Wk.K p s m meth c Z y cd ml ret) (X : Stand p l e R s m args below meth c T locs cells slots) {i : Int} (hd : decode cd pc = .ok (.iconst i, 1)) (z : Int32) (hz : Int32.ofInt i = z) (pc' : Nat) (hp : pc + 1 = pc') (h : Ends p e s0 below R Q T (mkF m pc' ls (.int z :: st))) : Ends p e s0 below R Q T (mkF m pc ls st) := by
  subst hp hz; exact h.map fun _ q => XS.iconst X.here k.1 rfl (hb k.2.2.1 hd) q
theorem bipush (k : Wk.K p s m meth c Z y cd ml ret) (X : Stand p l e R s m args below meth c T locs cells slots) {i : Int} (hd : decode cd pc = .ok (.bipush i, 2)) (z : Int32) (hz : (Int8.ofInt i).toInt32 = z) (pc' : Nat) (hp : pc + 2 = pc') (h : Ends p e s0 below R Q T (mkF m pc' ls (.int z :: st))) : Ends p e s0 below R Q T (mkF m pc ls st) := by
  subst hp hz; exact h.map fun _ q => XS.bipush X.here k.1 rfl (hb k.2.2.1 hd) q
theorem sipush (k : Wk.K p s m meth c Z y cd ml ret) (X : Stand p l e R s m args below meth c T locs cells slots) {i : Int} (hd : decode cd pc = .ok (.sipush i, 3)) (z : Int32) (hz : (Int16.ofInt i).toInt32 = z) (pc' : Nat) (hp : pc + 3 = pc') (h : Ends p e s0 below R Q T (mkF m pc' ls (.int z :: st))) : Ends p e s0 below R Q T (mkF m pc ls st) := by
  subst hp hz; exact h.map fun _ q => XS.sipush X.here k.1 rfl (hb k.2.2.1 hd) q
theorem lconst (k : Wk.K p s m meth c Z y cd ml ret) (X : Stand p l e R s m args below meth c T locs cells slots) {i : Fin 2} (hd : decode cd pc = .ok (.lconst i, 1)) (z : Int64) (hz : Int64.ofNat i = z) (pc' : Nat) (hp : pc + 1 = pc') (h : Ends p e s0 below R Q T (mkF m pc' ls (.long z :: st))) : Ends p e s0 below R Q T (mkF m pc ls st) := by
  subst hp hz; exact h.map fun _ q => XS.lconst X.here k.1 rfl (hb k.2.2.1 hd) q
theorem aconst_null (k : Wk.K p s m meth c Z y cd ml ret) (X : Stand p l e R s m args below meth c T locs cells slots) (hd : decode cd pc = .ok (.aconst_null, 1)) (pc' : Nat) (hp : pc + 1 = pc') (h : Ends p e s0 below R Q T (mkF m pc' ls (.null :: st))) : Ends p e s0 below R Q T (mkF m pc ls st) := by
  subst hp; exact h.map fun _ q => XS.aconstNull X.here k.1 rfl (hb k.2.2.1 hd) q
theorem ldc (k : Wk.K p s m meth c Z y cd ml ret) (X : Stand p l e R s m args below meth c T locs cells slots) {i : Nat} {z : Int32} (hd : decode cd pc = .ok (.ldc i, 2)) (hc : (Jvm.Cond.constant y.cls i z).before a0 Z = true) (pc' : Nat) (hp : pc + 2 = pc') (h : Ends p e s0 below R Q T (mkF m pc' ls (.int z :: st))) : Ends p e s0 below R Q T (mkF m pc ls st) := by
  subst hp; exact h.map (X.ldcInt k.1 k.2.2.2.2.1 (mvT k.2.1 hc) rfl (hb k.2.2.1 hd))
theorem ldc2_w (k : Wk.K p s m meth c Z y cd ml ret) (X : Stand p l e R s m args below meth c T locs cells slots) {i : Nat} {z : Int64} (hd : decode cd pc = .ok (.ldc2_w i, 3)) (hc : (Jvm.Cond.constantLong y.cls i z).before a0 Z = true) (pc' : Nat) (hp : pc + 3 = pc') (h : Ends p e s0 below R Q T (mkF m pc' ls (.long z :: st))) : Ends p e s0 below R Q T (mkF m pc ls st) := by
  subst hp; exact h.map (X.ldc2Long k.1 k.2.2.2.2.1 (mvT k.2.1 hc) rfl (hb k.2.2.1 hd))
theorem ldcF (k : Wk.K p s m meth c Z y cd ml ret) (X : Stand p l e R s m args below meth c T locs cells slots) {i : Nat} {z : UInt32} (hd : decode cd pc = .ok (.ldc i, 2)) (hc : (Jvm.Cond.constantFloat y.cls i z).before a0 Z = true) (pc' : Nat) (hp : pc + 2 = pc') (h : Ends p e s0 below R Q T (mkF m pc' ls (.float z :: st))) : Ends p e s0 below R Q T (mkF m pc ls st) := by
  subst hp; exact h.map (X.ldcFloatC k.1 k.2.2.2.2.1 (mvT k.2.1 hc) rfl (hb k.2.2.1 hd))
theorem iadd (k : Wk.K p s m meth c Z y cd ml ret) (X : Stand p l e R s m args below meth c T locs cells slots) {a : Int32} {b : Int32} (hd : decode cd pc = .ok (.iadd, 1)) (pc' : Nat) (hp : pc + 1 = pc') (h : Ends p e s0 below R Q T (mkF m pc' ls (.int (a + b) :: st))) : Ends p e s0 below R Q T (mkF m pc ls (.int b :: .int a :: st)) := by
  subst hp; exact h.map fun _ q => XS.iadd X.here k.1 rfl (hb k.2.2.1 hd) rfl q
theorem ladd (k : Wk.K p s m meth c Z y cd ml ret) (X : Stand p l e R s m args below meth c T locs cells slots) {a : Int64} {b : Int64} (hd : decode cd pc = .ok (.ladd, 1)) (pc' : Nat) (hp : pc + 1 = pc') (h : Ends p e s0 below R Q T (mkF m pc' ls (.long (a + b) :: st))) : Ends p e s0 below R Q T (mkF m pc ls (.long b :: .long a :: st)) := by
  subst hp; exact h.map fun _ q => XS.ladd X.here k.1 rfl (hb k.2.2.1 hd) rfl q
theorem isub (k : Wk.K p s m meth c Z y cd ml ret) (X : Stand p l e R s m args below meth c T locs cells slots) {a : Int32} {b : Int32} (hd : decode cd pc = .ok (.isub, 1)) (pc' : Nat) (hp : pc + 1 = pc') (h : Ends p e s0 below R Q T (mkF m pc' ls (.int (a - b) :: st))) : Ends p e s0 below R Q T (mkF m pc ls (.int b :: .int a :: st)) := by
  subst hp; exact h.map fun _ q => XS.isub X.here k.1 rfl (hb k.2.2.1 hd) rfl q
theorem lsub (k : Wk.K p s m meth c Z y cd ml ret) (X : Stand p l e R s m args below meth c T locs cells slots) {a : Int64} {b : Int64} (hd : decode cd pc = .ok (.lsub, 1)) (pc' : Nat) (hp : pc + 1 = pc') (h : Ends p e s0 below R Q T (mkF m pc' ls (.long (a - b) :: st))) : Ends p e s0 below R Q T (mkF m pc ls (.long b :: .long a :: st)) := by
  subst hp; exact h.map fun _ q => XS.lsub X.here k.1 rfl (hb k.2.2.1 hd) rfl q
theorem imul (k : Wk.K p s m meth c Z y cd ml ret) (X : Stand p l e R s m args below meth c T locs cells slots) {a : Int32} {b : Int32} (hd : decode cd pc = .ok (.imul, 1)) (pc' : Nat) (hp : pc + 1 = pc') (h : Ends p e s0 below R Q T (mkF m pc' ls (.int (a * b) :: st))) : Ends p e s0 below R Q T (mkF m pc ls (.int b :: .int a :: st)) := by
  subst hp; exact h.map fun _ q => XS.imul X.here k.1 rfl (hb k.2.2.1 hd) rfl q
theorem lmul (k : Wk.K p s m meth c Z y cd ml ret) (X : Stand p l e R s m args below meth c T locs cells slots) {a : Int64} {b : Int64} (hd : decode cd pc = .ok (.lmul, 1)) (pc' : Nat) (hp : pc + 1 = pc') (h : Ends p e s0 below R Q T (mkF m pc' ls (.long (a * b) :: st))) : Ends p e s0 below R Q T (mkF m pc ls (.long b :: .long a :: st)) := by
  subst hp; exact h.map fun _ q => XS.lmul X.here k.1 rfl (hb k.2.2.1 hd) rfl q
theorem iand (k : Wk.K p s m meth c Z y cd ml ret) (X : Stand p l e R s m args below meth c T locs cells slots) {a : Int32} {b : Int32} (hd : decode cd pc = .ok (.iand, 1)) (pc' : Nat) (hp : pc + 1 = pc') (h : Ends p e s0 below R Q T (mkF m pc' ls (.int (a &&& b) :: st))) : Ends p e s0 below R Q T (mkF m pc ls (.int b :: .int a :: st)) := by
  subst hp; exact h.map fun _ q => XS.iand X.here k.1 rfl (hb k.2.2.1 hd) rfl q
theorem land (k : Wk.K p s m meth c Z y cd ml ret) (X : Stand p l e R s m args below meth c T locs cells slots) {a : Int64} {b : Int64} (hd : decode cd pc = .ok (.land, 1)) (pc' : Nat) (hp : pc + 1 = pc') (h : Ends p e s0 below R Q T (mkF m pc' ls (.long (a &&& b) :: st))) : Ends p e s0 below R Q T (mkF m pc ls (.long b :: .long a :: st)) := by
  subst hp; exact h.map fun _ q => XS.land X.here k.1 rfl (hb k.2.2.1 hd) rfl q
theorem ior (k : Wk.K p s m meth c Z y cd ml ret) (X : Stand p l e R s m args below meth c T locs cells slots) {a : Int32} {b : Int32} (hd : decode cd pc = .ok (.ior, 1)) (pc' : Nat) (hp : pc + 1 = pc') (h : Ends p e s0 below R Q T (mkF m pc' ls (.int (a ||| b) :: st))) : Ends p e s0 below R Q T (mkF m pc ls (.int b :: .int a :: st)) := by
  subst hp; exact h.map fun _ q => XS.ior X.here k.1 rfl (hb k.2.2.1 hd) rfl q
theorem lor (k : Wk.K p s m meth c Z y cd ml ret) (X : Stand p l e R s m args below meth c T locs cells slots) {a : Int64} {b : Int64} (hd : decode cd pc = .ok (.lor, 1)) (pc' : Nat) (hp : pc + 1 = pc') (h : Ends p e s0 below R Q T (mkF m pc' ls (.long (a ||| b) :: st))) : Ends p e s0 below R Q T (mkF m pc ls (.long b :: .long a :: st)) := by
  subst hp; exact h.map fun _ q => XS.lor X.here k.1 rfl (hb k.2.2.1 hd) rfl q
theorem ixor (k : Wk.K p s m meth c Z y cd ml ret) (X : Stand p l e R s m args below meth c T locs cells slots) {a : Int32} {b : Int32} (hd : decode cd pc = .ok (.ixor, 1)) (pc' : Nat) (hp : pc + 1 = pc') (h : Ends p e s0 below R Q T (mkF m pc' ls (.int (a ^^^ b) :: st))) : Ends p e s0 below R Q T (mkF m pc ls (.int b :: .int a :: st)) := by
  subst hp; exact h.map fun _ q => XS.ixor X.here k.1 rfl (hb k.2.2.1 hd) rfl q
theorem lxor (k : Wk.K p s m meth c Z y cd ml ret) (X : Stand p l e R s m args below meth c T locs cells slots) {a : Int64} {b : Int64} (hd : decode cd pc = .ok (.lxor, 1)) (pc' : Nat) (hp : pc + 1 = pc') (h : Ends p e s0 below R Q T (mkF m pc' ls (.long (a ^^^ b) :: st))) : Ends p e s0 below R Q T (mkF m pc ls (.long b :: .long a :: st)) := by
  subst hp; exact h.map fun _ q => XS.lxor X.here k.1 rfl (hb k.2.2.1 hd) rfl q
theorem idiv (k : Wk.K p s m meth c Z y cd ml ret) (X : Stand p l e R s m args below meth c T locs cells slots) {a : Int32} {b : Int32} (hd : decode cd pc = .ok (.idiv, 1)) (hy : b ≠ 0) (pc' : Nat) (hp : pc + 1 = pc') (h : Ends p e s0 below R Q T (mkF m pc' ls (.int (a / b) :: st))) : Ends p e s0 below R Q T (mkF m pc ls (.int b :: .int a :: st)) := by
  subst hp; exact h.map fun _ q => XS.idiv X.here k.1 rfl (hb k.2.2.1 hd) rfl hy q
theorem ldiv (k : Wk.K p s m meth c Z y cd ml ret) (X : Stand p l e R s m args below meth c T locs cells slots) {a : Int64} {b : Int64} (hd : decode cd pc = .ok (.ldiv, 1)) (hy : b ≠ 0) (pc' : Nat) (hp : pc + 1 = pc') (h : Ends p e s0 below R Q T (mkF m pc' ls (.long (a / b) :: st))) : Ends p e s0 below R Q T (mkF m pc ls (.long b :: .long a :: st)) := by
  subst hp; exact h.map fun _ q => XS.ldiv X.here k.1 rfl (hb k.2.2.1 hd) rfl hy q
theorem ishl (k : Wk.K p s m meth c Z y cd ml ret) (X : Stand p l e R s m args below meth c T locs cells slots) {a : Int32} {b : Int32} (hd : decode cd pc = .ok (.ishl, 1)) (pc' : Nat) (hp : pc + 1 = pc') (h : Ends p e s0 below R Q T (mkF m pc' ls (.int (a <<< (b &&& 31)) :: st))) : Ends p e s0 below R Q T (mkF m pc ls (.int b :: .int a :: st)) := by
  subst hp; exact h.map fun _ q => XS.ishl X.here k.1 rfl (hb k.2.2.1 hd) rfl q
theorem ishr (k : Wk.K p s m meth c Z y cd ml ret) (X : Stand p l e R s m args below meth c T locs cells slots) {a : Int32} {b : Int32} (hd : decode cd pc = .ok (.ishr, 1)) (pc' : Nat) (hp : pc + 1 = pc') (h : Ends p e s0 below R Q T (mkF m pc' ls (.int (a >>> (b &&& 31)) :: st))) : Ends p e s0 below R Q T (mkF m pc ls (.int b :: .int a :: st)) := by
  subst hp; exact h.map fun _ q => XS.ishr X.here k.1 rfl (hb k.2.2.1 hd) rfl q
theorem iushr (k : Wk.K p s m meth c Z y cd ml ret) (X : Stand p l e R s m args below meth c T locs cells slots) {a : Int32} {b : Int32} (hd : decode cd pc = .ok (.iushr, 1)) (pc' : Nat) (hp : pc + 1 = pc') (h : Ends p e s0 below R Q T (mkF m pc' ls (.int ((a.toUInt32 >>> (b &&& 31).toUInt32).toInt32) :: st))) : Ends p e s0 below R Q T (mkF m pc ls (.int b :: .int a :: st)) := by
  subst hp; exact h.map fun _ q => XS.iushr X.here k.1 rfl (hb k.2.2.1 hd) rfl q
theorem lshl (k : Wk.K p s m meth c Z y cd ml ret) (X : Stand p l e R s m args below meth c T locs cells slots) {a : Int64} {b : Int32} (hd : decode cd pc = .ok (.lshl, 1)) (pc' : Nat) (hp : pc + 1 = pc') (h : Ends p e s0 below R Q T (mkF m pc' ls (.long (a <<< (b &&& 0x3f).toInt64) :: st))) : Ends p e s0 below R Q T (mkF m pc ls (.int b :: .long a :: st)) := by
  subst hp; exact h.map fun _ q => XS.lshl X.here k.1 rfl (hb k.2.2.1 hd) rfl q
theorem lshr (k : Wk.K p s m meth c Z y cd ml ret) (X : Stand p l e R s m args below meth c T locs cells slots) {a : Int64} {b : Int32} (hd : decode cd pc = .ok (.lshr, 1)) (pc' : Nat) (hp : pc + 1 = pc') (h : Ends p e s0 below R Q T (mkF m pc' ls (.long (a >>> (b &&& 0x3f).toInt64) :: st))) : Ends p e s0 below R Q T (mkF m pc ls (.int b :: .long a :: st)) := by
  subst hp; exact h.map fun _ q => XS.lshr X.here k.1 rfl (hb k.2.2.1 hd) rfl q
theorem lushr (k : Wk.K p s m meth c Z y cd ml ret) (X : Stand p l e R s m args below meth c T locs cells slots) {a : Int64} {b : Int32} (hd : decode cd pc = .ok (.lushr, 1)) (pc' : Nat) (hp : pc + 1 = pc') (h : Ends p e s0 below R Q T (mkF m pc' ls (.long ((a.toUInt64 >>> (b &&& 0x3f).toInt64.toUInt64).toInt64) :: st))) : Ends p e s0 below R Q T (mkF m pc ls (.int b :: .long a :: st)) := by
  subst hp; exact h.map fun _ q => XS.lushr X.here k.1 rfl (hb k.2.2.1 hd) rfl q
theorem irem (k : Wk.K p s m meth c Z y cd ml ret) (X : Stand p l e R s m args below meth c T locs cells slots) {a b : Int32} (hd : decode cd pc = .ok (.irem, 1)) (hy : b ≠ 0) (pc' : Nat) (hp : pc + 1 = pc') (h : Ends p e s0 below R Q T (mkF m pc' ls (.int (a % b) :: st))) : Ends p e s0 below R Q T (mkF m pc ls (.int b :: .int a :: st)) := by
  subst hp; exact h.map fun _ q => iremM X k.1 rfl (hb k.2.2.1 hd) rfl hy q
theorem ineg (k : Wk.K p s m meth c Z y cd ml ret) (X : Stand p l e R s m args below meth c T locs cells slots) {a : Int32} (hd : decode cd pc = .ok (.ineg, 1)) (pc' : Nat) (hp : pc + 1 = pc') (h : Ends p e s0 below R Q T (mkF m pc' ls (.int (-a) :: st))) : Ends p e s0 below R Q T (mkF m pc ls (.int a :: st)) := by
  subst hp; exact h.map fun _ q => XS.ineg X.here k.1 rfl (hb k.2.2.1 hd) rfl q
theorem lneg (k : Wk.K p s m meth c Z y cd ml ret) (X : Stand p l e R s m args below meth c T locs cells slots) {a : Int64} (hd : decode cd pc = .ok (.lneg, 1)) (pc' : Nat) (hp : pc + 1 = pc') (h : Ends p e s0 below R Q T (mkF m pc' ls (.long (-a) :: st))) : Ends p e s0 below R Q T (mkF m pc ls (.long a :: st)) := by
  subst hp; exact h.map fun _ q => XS.lneg X.here k.1 rfl (hb k.2.2.1 hd) rfl q
theorem i2l (k : Wk.K p s m meth c Z y cd ml ret) (X : Stand p l e R s m args below meth c T locs cells slots) {a : Int32} (hd : decode cd pc = .ok (.i2l, 1)) (pc' : Nat) (hp : pc + 1 = pc') (h : Ends p e s0 below R Q T (mkF m pc' ls (.long (a.toInt64) :: st))) : Ends p e s0 below R Q T (mkF m pc ls (.int a :: st)) := by
  subst hp; exact h.map fun _ q => XS.i2l X.here k.1 rfl (hb k.2.2.1 hd) rfl q
theorem l2i (k : Wk.K p s m meth c Z y cd ml ret) (X : Stand p l e R s m args below meth c T locs cells slots) {a : Int64} (hd : decode cd pc = .ok (.l2i, 1)) (pc' : Nat) (hp : pc + 1 = pc') (h : Ends p e s0 below R Q T (mkF m pc' ls (.int (a.toInt32) :: st))) : Ends p e s0 below R Q T (mkF m pc ls (.long a :: st)) := by
  subst hp; exact h.map fun _ q => XS.l2i X.here k.1 rfl (hb k.2.2.1 hd) rfl q
theorem i2b (k : Wk.K p s m meth c Z y cd ml ret) (X : Stand p l e R s m args below meth c T locs cells slots) {a : Int32} (hd : decode cd pc = .ok (.i2b, 1)) (pc' : Nat) (hp : pc + 1 = pc') (h : Ends p e s0 below R Q T (mkF m pc' ls (.int (a.toInt8.toInt32) :: st))) : Ends p e s0 below R Q T (mkF m pc ls (.int a :: st)) := by
  subst hp; exact h.map fun _ q => XS.i2b X.here k.1 rfl (hb k.2.2.1 hd) rfl q
theorem i2s (k : Wk.K p s m meth c Z y cd ml ret) (X : Stand p l e R s m args below meth c T locs cells slots) {a : Int32} (hd : decode cd pc = .ok (.i2s, 1)) (pc' : Nat) (hp : pc + 1 = pc') (h : Ends p e s0 below R Q T (mkF m pc' ls (.int (a.toInt16.toInt32) :: st))) : Ends p e s0 below R Q T (mkF m pc ls (.int a :: st)) := by
  subst hp; exact h.map fun _ q => XS.i2s X.here k.1 rfl (hb k.2.2.1 hd) rfl q
theorem i2c (k : Wk.K p s m meth c Z y cd ml ret) (X : Stand p l e R s m args below meth c T locs cells slots) {a : Int32} (hd : decode cd pc = .ok (.i2c, 1)) (pc' : Nat) (hp : pc + 1 = pc') (h : Ends p e s0 below R Q T (mkF m pc' ls (.int (a.toUInt32.toUInt16.toUInt32.toInt32) :: st))) : Ends p e s0 below R Q T (mkF m pc ls (.int a :: st)) := by
  subst hp; exact h.map fun _ q => XS.i2c X.here k.1 rfl (hb k.2.2.1 hd) rfl q
theorem dup (k : Wk.K p s m meth c Z y cd ml ret) (X : Stand p l e R s m args below meth c T locs cells slots) {v : Value} (hd : decode cd pc = .ok (.dup, 1)) (hc : v.category = 1) (pc' : Nat) (hp : pc + 1 = pc') (h : Ends p e s0 below R Q T (mkF m pc' ls (v :: v :: st))) : Ends p e s0 below R Q T (mkF m pc ls (v :: st)) := by
  subst hp; exact h.map fun _ q => XS.dup X.here k.1 rfl (hb k.2.2.1 hd) rfl hc q
theorem pop (k : Wk.K p s m meth c Z y cd ml ret) (X : Stand p l e R s m args below meth c T locs cells slots) {v : Value} (hd : decode cd pc = .ok (.pop, 1)) (hc : v.category = 1) (pc' : Nat) (hp : pc + 1 = pc') (h : Ends p e s0 below R Q T (mkF m pc' ls st)) : Ends p e s0 below R Q T (mkF m pc ls (v :: st)) := by
  subst hp; exact h.map fun _ q => XS.pop X.here k.1 rfl (hb k.2.2.1 hd) rfl hc q
theorem dup_x1 (k : Wk.K p s m meth c Z y cd ml ret) (X : Stand p l e R s m args below meth c T locs cells slots) {v v' : Value} (hd : decode cd pc = .ok (.dup_x1, 1)) (hc : v.category = 1) (hc' : v'.category = 1) (pc' : Nat) (hp : pc + 1 = pc') (h : Ends p e s0 below R Q T (mkF m pc' ls (v :: v' :: v :: st))) : Ends p e s0 below R Q T (mkF m pc ls (v :: v' :: st)) := by
  subst hp; exact h.map fun _ q => XS.dupX1 X.here k.1 rfl (hb k.2.2.1 hd) rfl hc hc' q
theorem dup2 (k : Wk.K p s m meth c Z y cd ml ret) (X : Stand p l e R s m args below meth c T locs cells slots) {v v' : Value} (hd : decode cd pc = .ok (.dup2, 1)) (hc : v.category = 1) (hc' : v'.category = 1) (pc' : Nat) (hp : pc + 1 = pc') (h : Ends p e s0 below R Q T (mkF m pc' ls (v :: v' :: v :: v' :: st))) : Ends p e s0 below R Q T (mkF m pc ls (v :: v' :: st)) := by
  subst hp; exact h.map fun _ q => Jvm.Free.XT.dup2 X.here k.1 rfl (hb k.2.2.1 hd) rfl hc hc' q
theorem goto (k : Wk.K p s m meth c Z y cd ml ret) (X : Stand p l e R s m args below meth c T locs cells slots) {o : Int} (hd : decode cd pc = .ok (.goto o, 3)) (ho : 0 ≤ (pc : Int) + o) (pc' : Nat) (hp : ((pc : Int) + o).toNat = pc') (h : Ends p e s0 below R Q T (mkF m pc' ls st)) : Ends p e s0 below R Q T (mkF m pc ls st) := by
  exact h.map fun _ q => XS.goto X.here k.1 rfl rfl (hb k.2.2.1 hd) ho hp q
theorem icmp_lt (k : Wk.K p s m meth c Z y cd ml ret) (X : Stand p l e R s m args below meth c T locs cells slots) {a b : Int32} {o : Int} (hd : decode cd pc = .ok (.if_icmp .lt o, 3)) (ho : 0 ≤ (pc : Int) + o) (py pn : Nat) (hy : ((pc : Int) + o).toNat = py) (hn : pc + 3 = pn) (h1 : a < b → Ends p e s0 below R Q T (mkF m py ls st)) (h2 : ¬ a < b → Ends p e s0 below R Q T (mkF m pn ls st)) : Ends p e s0 below R Q T (mkF m pc ls (.int b :: .int a :: st)) := by
  subst hn
  by_cases q : a < b
  · exact (h1 q).map fun _ r => XS.icmpYes X.here k.1 rfl rfl (hb k.2.2.1 hd) rfl (tlt q).1 ho hy r
  · exact (h2 q).map fun _ r => XS.icmpNo X.here k.1 rfl (hb k.2.2.1 hd) rfl (flt q).1 r
theorem if_lt (k : Wk.K p s m meth c Z y cd ml ret) (X : Stand p l e R s m args below meth c T locs cells slots) {a : Int32} {o : Int} (hd : decode cd pc = .ok (.ifCond .lt o, 3)) (ho : 0 ≤ (pc : Int) + o) (py pn : Nat) (hy : ((pc : Int) + o).toNat = py) (hn : pc + 3 = pn) (h1 : a < 0 → Ends p e s0 below R Q T (mkF m py ls st)) (h2 : ¬ a < 0 → Ends p e s0 below R Q T (mkF m pn ls st)) : Ends p e s0 below R Q T (mkF m pc ls (.int a :: st)) := by
  subst hn
  by_cases q : a < 0
  · exact (h1 q).map fun _ r => XS.ifYes X.here k.1 rfl rfl (hb k.2.2.1 hd) rfl ((if0 _ _).trans (tlt q).1) ho hy r
  · exact (h2 q).map fun _ r => XS.ifNo X.here k.1 rfl (hb k.2.2.1 hd) rfl ((if0 _ _).trans (flt q).1) r
theorem icmp_ge (k : Wk.K p s m meth c Z y cd ml ret) (X : Stand p l e R s m args below meth c T locs cells slots) {a b : Int32} {o : Int} (hd : decode cd pc = .ok (.if_icmp .ge o, 3)) (ho : 0 ≤ (pc : Int) + o) (py pn : Nat) (hy : ((pc : Int) + o).toNat = py) (hn : pc + 3 = pn) (h1 : ¬ a < b → Ends p e s0 below R Q T (mkF m py ls st)) (h2 : a < b → Ends p e s0 below R Q T (mkF m pn ls st)) : Ends p e s0 below R Q T (mkF m pc ls (.int b :: .int a :: st)) := by
  subst hn
  by_cases q : a < b
  · exact (h2 q).map fun _ r => XS.icmpNo X.here k.1 rfl (hb k.2.2.1 hd) rfl (tlt q).2.1 r
  · exact (h1 q).map fun _ r => XS.icmpYes X.here k.1 rfl rfl (hb k.2.2.1 hd) rfl (flt q).2.1 ho hy r
theorem if_ge (k : Wk.K p s m meth c Z y cd ml ret) (X : Stand p l e R s m args below meth c T locs cells slots) {a : Int32} {o : Int} (hd : decode cd pc = .ok (.ifCond .ge o, 3)) (ho : 0 ≤ (pc : Int) + o) (py pn : Nat) (hy : ((pc : Int) + o).toNat = py) (hn : pc + 3 = pn) (h1 : ¬ a < 0 → Ends p e s0 below R Q T (mkF m py ls st)) (h2 : a < 0 → Ends p e s0 below R Q T (mkF m pn ls st)) : Ends p e s0 below R Q T (mkF m pc ls (.int a :: st)) := by
  subst hn
  by_cases q : a < 0
  · exact (h2 q).map fun _ r => XS.ifNo X.here k.1 rfl (hb k.2.2.1 hd) rfl ((if0 _ _).trans (tlt q).2.1) r
  · exact (h1 q).map fun _ r => XS.ifYes X.here k.1 rfl rfl (hb k.2.2.1 hd) rfl ((if0 _ _).trans (flt q).2.1) ho hy r
theorem icmp_gt (k : Wk.K p s m meth c Z y cd ml ret) (X : Stand p l e R s m args below meth c T locs cells slots) {a b : Int32} {o : Int} (hd : decode cd pc = .ok (.if_icmp .gt o, 3)) (ho : 0 ≤ (pc : Int) + o) (py pn : Nat) (hy : ((pc : Int) + o).toNat = py) (hn : pc + 3 = pn) (h1 : b < a → Ends p e s0 below R Q T (mkF m py ls st)) (h2 : ¬ b < a → Ends p e s0 below R Q T (mkF m pn ls st)) : Ends p e s0 below R Q T (mkF m pc ls (.int b :: .int a :: st)) := by
  subst hn
  by_cases q : b < a
  · exact (h1 q).map fun _ r => XS.icmpYes X.here k.1 rfl rfl (hb k.2.2.1 hd) rfl (tlt q).2.2.1 ho hy r
  · exact (h2 q).map fun _ r => XS.icmpNo X.here k.1 rfl (hb k.2.2.1 hd) rfl (flt q).2.2.1 r
theorem if_gt (k : Wk.K p s m meth c Z y cd ml ret) (X : Stand p l e R s m args below meth c T locs cells slots) {a : Int32} {o : Int} (hd : decode cd pc = .ok (.ifCond .gt o, 3)) (ho : 0 ≤ (pc : Int) + o) (py pn : Nat) (hy : ((pc : Int) + o).toNat = py) (hn : pc + 3 = pn) (h1 : 0 < a → Ends p e s0 below R Q T (mkF m py ls st)) (h2 : ¬ 0 < a → Ends p e s0 below R Q T (mkF m pn ls st)) : Ends p e s0 below R Q T (mkF m pc ls (.int a :: st)) := by
  subst hn
  by_cases q : 0 < a
  · exact (h1 q).map fun _ r => XS.ifYes X.here k.1 rfl rfl (hb k.2.2.1 hd) rfl ((if0 _ _).trans (tlt q).2.2.1) ho hy r
  · exact (h2 q).map fun _ r => XS.ifNo X.here k.1 rfl (hb k.2.2.1 hd) rfl ((if0 _ _).trans (flt q).2.2.1) r
theorem icmp_le (k : Wk.K p s m meth c Z y cd ml ret) (X : Stand p l e R s m args below meth c T locs cells slots) {a b : Int32} {o : Int} (hd : decode cd pc = .ok (.if_icmp .le o, 3)) (ho : 0 ≤ (pc : Int) + o) (py pn : Nat) (hy : ((pc : Int) + o).toNat = py) (hn : pc + 3 = pn) (h1 : ¬ b < a → Ends p e s0 below R Q T (mkF m py ls st)) (h2 : b < a → Ends p e s0 below R Q T (mkF m pn ls st)) : Ends p e s0 below R Q T (mkF m pc ls (.int b :: .int a :: st)) := by
  subst hn
  by_cases q : b < a
  · exact (h2 q).map fun _ r => XS.icmpNo X.here k.1 rfl (hb k.2.2.1 hd) rfl (tlt q).2.2.2 r
  · exact (h1 q).map fun _ r => XS.icmpYes X.here k.1 rfl rfl (hb k.2.2.1 hd) rfl (flt q).2.2.2 ho hy r
theorem if_le (k : Wk.K p s m meth c Z y cd ml ret) (X : Stand p l e R s m args below meth c T locs cells slots) {a : Int32} {o : Int} (hd : decode cd pc = .ok (.ifCond .le o, 3)) (ho : 0 ≤ (pc : Int) + o) (py pn : Nat) (hy : ((pc : Int) + o).toNat = py) (hn : pc + 3 = pn) (h1 : ¬ 0 < a → Ends p e s0 below R Q T (mkF m py ls st)) (h2 : 0 < a → Ends p e s0 below R Q T (mkF m pn ls st)) : Ends p e s0 below R Q T (mkF m pc ls (.int a :: st)) := by
  subst hn
  by_cases q : 0 < a
  · exact (h2 q).map fun _ r => XS.ifNo X.here k.1 rfl (hb k.2.2.1 hd) rfl ((if0 _ _).trans (tlt q).2.2.2) r
  · exact (h1 q).map fun _ r => XS.ifYes X.here k.1 rfl rfl (hb k.2.2.1 hd) rfl ((if0 _ _).trans (flt q).2.2.2) ho hy r
theorem icmp_eq (k : Wk.K p s m meth c Z y cd ml ret) (X : Stand p l e R s m args below meth c T locs cells slots) {a b : Int32} {o : Int} (hd : decode cd pc = .ok (.if_icmp .eq o, 3)) (ho : 0 ≤ (pc : Int) + o) (py pn : Nat) (hy : ((pc : Int) + o).toNat = py) (hn : pc + 3 = pn) (h1 : a = b → Ends p e s0 below R Q T (mkF m py ls st)) (h2 : ¬ a = b → Ends p e s0 below R Q T (mkF m pn ls st)) : Ends p e s0 below R Q T (mkF m pc ls (.int b :: .int a :: st)) := by
  subst hn
  by_cases q : a = b
  · exact (h1 q).map fun _ r => XS.icmpYes X.here k.1 rfl rfl (hb k.2.2.1 hd) rfl (teq q).1 ho hy r
  · exact (h2 q).map fun _ r => XS.icmpNo X.here k.1 rfl (hb k.2.2.1 hd) rfl (feq q).1 r
theorem if_eq (k : Wk.K p s m meth c Z y cd ml ret) (X : Stand p l e R s m args below meth c T locs cells slots) {a : Int32} {o : Int} (hd : decode cd pc = .ok (.ifCond .eq o, 3)) (ho : 0 ≤ (pc : Int) + o) (py pn : Nat) (hy : ((pc : Int) + o).toNat = py) (hn : pc + 3 = pn) (h1 : a = 0 → Ends p e s0 below R Q T (mkF m py ls st)) (h2 : ¬ a = 0 → Ends p e s0 below R Q T (mkF m pn ls st)) : Ends p e s0 below R Q T (mkF m pc ls (.int a :: st)) := by
  subst hn
  by_cases q : a = 0
  · exact (h1 q).map fun _ r => XS.ifYes X.here k.1 rfl rfl (hb k.2.2.1 hd) rfl ((if0 _ _).trans (teq q).1) ho hy r
  · exact (h2 q).map fun _ r => XS.ifNo X.here k.1 rfl (hb k.2.2.1 hd) rfl ((if0 _ _).trans (feq q).1) r
theorem icmp_ne (k : Wk.K p s m meth c Z y cd ml ret) (X : Stand p l e R s m args below meth c T locs cells slots) {a b : Int32} {o : Int} (hd : decode cd pc = .ok (.if_icmp .ne o, 3)) (ho : 0 ≤ (pc : Int) + o) (py pn : Nat) (hy : ((pc : Int) + o).toNat = py) (hn : pc + 3 = pn) (h1 : ¬ a = b → Ends p e s0 below R Q T (mkF m py ls st)) (h2 : a = b → Ends p e s0 below R Q T (mkF m pn ls st)) : Ends p e s0 below R Q T (mkF m pc ls (.int b :: .int a :: st)) := by
  subst hn
  by_cases q : a = b
  · exact (h2 q).map fun _ r => XS.icmpNo X.here k.1 rfl (hb k.2.2.1 hd) rfl (teq q).2 r
  · exact (h1 q).map fun _ r => XS.icmpYes X.here k.1 rfl rfl (hb k.2.2.1 hd) rfl (feq q).2 ho hy r
theorem if_ne (k : Wk.K p s m meth c Z y cd ml ret) (X : Stand p l e R s m args below meth c T locs cells slots) {a : Int32} {o : Int} (hd : decode cd pc = .ok (.ifCond .ne o, 3)) (ho : 0 ≤ (pc : Int) + o) (py pn : Nat) (hy : ((pc : Int) + o).toNat = py) (hn : pc + 3 = pn) (h1 : ¬ a = 0 → Ends p e s0 below R Q T (mkF m py ls st)) (h2 : a = 0 → Ends p e s0 below R Q T (mkF m pn ls st)) : Ends p e s0 below R Q T (mkF m pc ls (.int a :: st)) := by
  subst hn
  by_cases q : a = 0
  · exact (h2 q).map fun _ r => XS.ifNo X.here k.1 rfl (hb k.2.2.1 hd) rfl ((if0 _ _).trans (teq q).2) r
  · exact (h1 q).map fun _ r => XS.ifYes X.here k.1 rfl rfl (hb k.2.2.1 hd) rfl ((if0 _ _).trans (feq q).2) ho hy r
theorem lcmp_lt (k : Wk.K p s m meth c Z y cd ml ret) (X : Stand p l e R s m args below meth c T locs cells slots) {a b : Int64} {o : Int} (hd0 : decode cd pc = .ok (.lcmp, 1)) (pc1 : Nat) (hp1 : pc + 1 = pc1) (hd : decode cd pc1 = .ok (.ifCond .lt o, 3)) (ho : 0 ≤ (pc1 : Int) + o) (py pn : Nat) (hy : ((pc1 : Int) + o).toNat = py) (hn : pc1 + 3 = pn) (h1 : a < b → Ends p e s0 below R Q T (mkF m py ls st)) (h2 : ¬ a < b → Ends p e s0 below R Q T (mkF m pn ls st)) : Ends p e s0 below R Q T (mkF m pc ls (.long b :: .long a :: st)) := by
  subst hp1
  refine Ends.map (T' := T) (f' := mkF m (pc + 1) ls (.int (lcmpW a b) :: st)) (fun _ q => XS.lcmp X.here k.1 rfl (hb k.2.2.1 hd0) rfl q) ?_
  exact if_lt k X hd ho py pn hy hn (fun q => h1 ((lw_lt a b).mp q)) (fun q => h2 (mt (lw_lt a b).mpr q))
theorem lcmp_ge (k : Wk.K p s m meth c Z y cd ml ret) (X : Stand p l e R s m args below meth c T locs cells slots) {a b : Int64} {o : Int} (hd0 : decode cd pc = .ok (.lcmp, 1)) (pc1 : Nat) (hp1 : pc + 1 = pc1) (hd : decode cd pc1 = .ok (.ifCond .ge o, 3)) (ho : 0 ≤ (pc1 : Int) + o) (py pn : Nat) (hy : ((pc1 : Int) + o).toNat = py) (hn : pc1 + 3 = pn) (h1 : ¬ a < b → Ends p e s0 below R Q T (mkF m py ls st)) (h2 : a < b → Ends p e s0 below R Q T (mkF m pn ls st)) : Ends p e s0 below R Q T (mkF m pc ls (.long b :: .long a :: st)) := by
  subst hp1
  refine Ends.map (T' := T) (f' := mkF m (pc + 1) ls (.int (lcmpW a b) :: st)) (fun _ q => XS.lcmp X.here k.1 rfl (hb k.2.2.1 hd0) rfl q) ?_
  exact if_ge k X hd ho py pn hy hn (fun q => h1 (mt (lw_lt a b).mpr q)) (fun q => h2 ((lw_lt a b).mp q))
theorem lcmp_gt (k : Wk.K p s m meth c Z y cd ml ret) (X : Stand p l e R s m args below meth c T locs cells slots) {a b : Int64} {o : Int} (hd0 : decode cd pc = .ok (.lcmp, 1)) (pc1 : Nat) (hp1 : pc + 1 = pc1) (hd : decode cd pc1 = .ok (.ifCond .gt o, 3)) (ho : 0 ≤ (pc1 : Int) + o) (py pn : Nat) (hy : ((pc1 : Int) + o).toNat = py) (hn : pc1 + 3 = pn) (h1 : b < a → Ends p e s0 below R Q T (mkF m py ls st)) (h2 : ¬ b < a → Ends p e s0 below R Q T (mkF m pn ls st)) : Ends p e s0 below R Q T (mkF m pc ls (.long b :: .long a :: st)) := by
  subst hp1
  refine Ends.map (T' := T) (f' := mkF m (pc + 1) ls (.int (lcmpW a b) :: st)) (fun _ q => XS.lcmp X.here k.1 rfl (hb k.2.2.1 hd0) rfl q) ?_
  exact if_gt k X hd ho py pn hy hn (fun q => h1 ((lw_gt a b).mp q)) (fun q => h2 (mt (lw_gt a b).mpr q))
theorem lcmp_le (k : Wk.K p s m meth c Z y cd ml ret) (X : Stand p l e R s m args below meth c T locs cells slots) {a b : Int64} {o : Int} (hd0 : decode cd pc = .ok (.lcmp, 1)) (pc1 : Nat) (hp1 : pc + 1 = pc1) (hd : decode cd pc1 = .ok (.ifCond .le o, 3)) (ho : 0 ≤ (pc1 : Int) + o) (py pn : Nat) (hy : ((pc1 : Int) + o).toNat = py) (hn : pc1 + 3 = pn) (h1 : ¬ b < a → Ends p e s0 below R Q T (mkF m py ls st)) (h2 : b < a → Ends p e s0 below R Q T (mkF m pn ls st)) : Ends p e s0 below R Q T (mkF m pc ls (.long b :: .long a :: st)) := by
  subst hp1
  refine Ends.map (T' := T) (f' := mkF m (pc + 1) ls (.int (lcmpW a b) :: st)) (fun _ q => XS.lcmp X.here k.1 rfl (hb k.2.2.1 hd0) rfl q) ?_
  exact if_le k X hd ho py pn hy hn (fun q => h1 (mt (lw_gt a b).mpr q)) (fun q => h2 ((lw_gt a b).mp q))
theorem lcmp_eq (k : Wk.K p s m meth c Z y cd ml ret) (X : Stand p l e R s m args below meth c T locs cells slots) {a b : Int64} {o : Int} (hd0 : decode cd pc = .ok (.lcmp, 1)) (pc1 : Nat) (hp1 : pc + 1 = pc1) (hd : decode cd pc1 = .ok (.ifCond .eq o, 3)) (ho : 0 ≤ (pc1 : Int) + o) (py pn : Nat) (hy : ((pc1 : Int) + o).toNat = py) (hn : pc1 + 3 = pn) (h1 : a = b → Ends p e s0 below R Q T (mkF m py ls st)) (h2 : ¬ a = b → Ends p e s0 below R Q T (mkF m pn ls st)) : Ends p e s0 below R Q T (mkF m pc ls (.long b :: .long a :: st)) := by
  subst hp1
  refine Ends.map (T' := T) (f' := mkF m (pc + 1) ls (.int (lcmpW a b) :: st)) (fun _ q => XS.lcmp X.here k.1 rfl (hb k.2.2.1 hd0) rfl q) ?_
  exact if_eq k X hd ho py pn hy hn (fun q => h1 ((lw_eq a b).mp q)) (fun q => h2 (mt (lw_eq a b).mpr q))
theorem lcmp_ne (k : Wk.K p s m meth c Z y cd ml ret) (X : Stand p l e R s m args below meth c T locs cells slots) {a b : Int64} {o : Int} (hd0 : decode cd pc = .ok (.lcmp, 1)) (pc1 : Nat) (hp1 : pc + 1 = pc1) (hd : decode cd pc1 = .ok (.ifCond .ne o, 3)) (ho : 0 ≤ (pc1 : Int) + o) (py pn : Nat) (hy : ((pc1 : Int) + o).toNat = py) (hn : pc1 + 3 = pn) (h1 : ¬ a = b → Ends p e s0 below R Q T (mkF m py ls st)) (h2 : a = b → Ends p e s0 below R Q T (mkF m pn ls st)) : Ends p e s0 below R Q T (mkF m pc ls (.long b :: .long a :: st)) := by
  subst hp1
  refine Ends.map (T' := T) (f' := mkF m (pc + 1) ls (.int (lcmpW a b) :: st)) (fun _ q => XS.lcmp X.here k.1 rfl (hb k.2.2.1 hd0) rfl q) ?_
  exact if_ne k X hd ho py pn hy hn (fun q => h1 (mt (lw_eq a b).mpr q)) (fun q => h2 ((lw_eq a b).mp q))
theorem ifnull_y (k : Wk.K p s m meth c Z y cd ml ret) (X : Stand p l e R s m args below meth c T locs cells slots) {o : Int} (hd : decode cd pc = .ok (.ifnull o, 3)) (ho : 0 ≤ (pc : Int) + o) (pc' : Nat) (hp : ((pc : Int) + o).toNat = pc') (h : Ends p e s0 below R Q T (mkF m pc' ls st)) : Ends p e s0 below R Q T (mkF m pc ls (.null :: st)) := by
  exact h.map fun _ q => XS.ifnullYes X.here k.1 rfl rfl (hb k.2.2.1 hd) rfl ho hp q
theorem ifnull_n (k : Wk.K p s m meth c Z y cd ml ret) (X : Stand p l e R s m args below meth c T locs cells slots) {o : Int} {a : Addr} (hd : decode cd pc = .ok (.ifnull o, 3)) (pc' : Nat) (hp : pc + 3 = pc') (h : Ends p e s0 below R Q T (mkF m pc' ls st)) : Ends p e s0 below R Q T (mkF m pc ls (.ref a :: st)) := by
  subst hp; exact h.map fun _ q => XS.ifnullNo X.here k.1 rfl (hb k.2.2.1 hd) rfl q
theorem ifnonnull_y (k : Wk.K p s m meth c Z y cd ml ret) (X : Stand p l e R s m args below meth c T locs cells slots) {o : Int} {a : Addr} (hd : decode cd pc = .ok (.ifnonnull o, 3)) (ho : 0 ≤ (pc : Int) + o) (pc' : Nat) (hp : ((pc : Int) + o).toNat = pc') (h : Ends p e s0 below R Q T (mkF m pc' ls st)) : Ends p e s0 below R Q T (mkF m pc ls (.ref a :: st)) := by
  exact h.map fun _ q => XS.ifnonnullYes X.here k.1 rfl rfl (hb k.2.2.1 hd) rfl ho hp q
theorem ifnonnull_n (k : Wk.K p s m meth c Z y cd ml ret) (X : Stand p l e R s m args below meth c T locs cells slots) {o : Int} (hd : decode cd pc = .ok (.ifnonnull o, 3)) (pc' : Nat) (hp : pc + 3 = pc') (h : Ends p e s0 below R Q T (mkF m pc' ls st)) : Ends p e s0 below R Q T (mkF m pc ls (.null :: st)) := by
  subst hp; exact h.map fun _ q => XS.ifnonnullNo X.here k.1 rfl (hb k.2.2.1 hd) rfl q
theorem getfield (k : Wk.K p s m meth c Z y cd ml ret) (X : Stand p l e R s m args below meth c T locs cells slots) {R0 O n d host : String} {idx : Nat} {a : Addr} {v : Value} (hd : decode cd pc = .ok (.getfield idx, 3)) (wl : (Jvm.Cond.fieldLink y.cls idx R0 n d).before a0 Z = true ∨ (Jvm.Cond.fieldLinkNest y.cls idx R0 n d host).before a0 Z = true) (via : Via Z R0 O n d) (e0 : T.heap = h) (F : Fld Z h a O n d v) (pc' : Nat) (hp : pc + 3 = pc')
    (g : ∀ T' : State, Stand p l e R s m args below meth c T' locs cells slots → T'.heap = h → Ends p e s0 below R Q T' (mkF m pc' ls (v :: st))) : Ends p e s0 below R Q T (mkF m pc ls (.ref a :: st)) := by
  subst hp
  obtain ⟨T', X', e', q⟩ := getF X k.1 k.2.1 k.2.2.2.2.1 wl via e0 F (g := mkF m pc ls (.ref a :: st)) rfl rfl (hb k.2.2.1 hd)
  exact (g T' X' e').map q
theorem getstatic (k : Wk.K p s m meth c Z y cd ml ret) (X : Stand p l e R s m args below meth c T locs cells slots) {O n d host : String} {idx : Nat} {v : Value} (hd : decode cd pc = .ok (.getstatic idx, 3)) (wl : (Jvm.Cond.fieldLink y.cls idx O n d).before a0 Z = true ∨ (Jvm.Cond.fieldLinkNest y.cls idx O n d host).before a0 Z = true) (e0 : T.heap = h) (F : Sta Z h O n d v) (pc' : Nat) (hp : pc + 3 = pc')
    (g : ∀ T' : State, Stand p l e R s m args below meth c T' locs cells slots → T'.heap = h → Ends p e s0 below R Q T' (mkF m pc' ls (v :: st))) : Ends p e s0 below R Q T (mkF m pc ls st) := by
  subst hp
  obtain ⟨T', X', e', q⟩ := getS2 X k.1 k.2.1 k.2.2.2.2.1 wl Via.refl e0 F (g := mkF m pc ls st) rfl (hb k.2.2.1 hd)
  exact (g T' X' e').map q
theorem putfield (k : Wk.K p s m meth c Z y cd ml ret) (X : Stand p l e R s m args below meth c T locs cells slots) {R0 O n d host C : String} {idx kk : Nat} {ty : FieldType} {a : Addr} {v old : Value} (hd : decode cd pc = .ok (.putfield idx, 3)) (wl : (Jvm.Cond.fieldLink y.cls idx R0 n d).before a0 Z = true ∨ (Jvm.Cond.fieldLinkNest y.cls idx R0 n d host).before a0 Z = true) (via : Via Z R0 O n d) (e0 : T.heap = h) (F : Fld Z h a O n d old) (E : Exa Z h a C)
    (L : (Jvm.Cond.lays C O n d).before a0 Z = true ∨ ((Jvm.Cond.laysFinal C O n d).before a0 Z = true ∧ y.cls = O ∧ y.name = "<init>")) (wi : (Jvm.Cond.instantiable C kk).before a0 Z = true) (hty : parseFieldDescriptor d = some ty) (hn : narrow ty v = v) (hf : fits ty v = true) (pc' : Nat) (hp : pc + 3 = pc')
    (g : ∀ (T' : State) (h' : Heap), Stand p l e R s m args below meth c T' (locs ++ [⟨a, Jvm.RoadKit.slotOf Z O n d⟩]) cells slots → T'.heap = h' → Wr h h' a (Jvm.RoadKit.slotOf Z O n d) v → Ends p e s0 below R Q T' (mkF m pc' ls st)) : Ends p e s0 below R Q T (mkF m pc ls (v :: .ref a :: st)) := by
  subst hp
  obtain ⟨T', h', X', e', W', q⟩ := putF X k.1 k.2.1 k.2.2.2.2.1 wl via e0 F E (L.imp id fun q => ⟨q.1, q.2.1, k.2.2.2.2.2.2.2.trans q.2.2⟩) wi hty hn hf (g := mkF m pc ls (v :: .ref a :: st)) rfl rfl (hb k.2.2.1 hd)
  exact (g T' h' X' e' W').map q
theorem initObj (k : Wk.K p s m meth c Z y cd ml ret) (X : Stand p l e R s m args below meth c T locs cells slots) {idx : Nat} {a : Addr} {W : Nat} (hd : decode cd pc = .ok (.invokespecial idx, 3)) (w1 : (Jvm.Cond.methodLink y.cls idx Lib.objectInit).before a0 Z = true) (w2 : (Jvm.Cond.instanceMethod Lib.objectInit).before a0 Z = true) (w3 : (Jvm.Cond.code Lib.objectInit ⟨#[0xb1]⟩ 1 none).before a0 Z = true) (e0 : T.heap = h) (hsz : ls.size = ml) (hf : 1 ≤ R.frames) (hW : (st.map fun v => v.category).sum + 12 ≤ R.locals) (pc' : Nat) (hp : pc + 3 = pc')
    (g : ∀ T' : State, Stand p l e R s m args below meth c T' locs cells slots → T'.heap = h → Ends p e s0 below R Q T' (mkF m pc' ls st)) : Ends p e s0 below R Q T (mkF m pc ls (.ref a :: st)) := by
  subst hp
  obtain ⟨T', X', e', q⟩ := initO X k.1 k.2.1 k.2.2.2.2.1 w1 w2 w3 e0 (g := mkF m pc ls (.ref a :: st)) rfl (hsz.trans k.2.2.2.1.symm) rfl (hb k.2.2.1 hd) hf (W := (st.map fun v => v.category).sum) (by show 2 * 0 + _ ≤ _; rw [Nat.mul_zero, Nat.zero_add]; exact Nat.le_refl _) hW
  exact (g T' X' e').map q
theorem new (k : Wk.K p s m meth c Z y cd ml ret) (X : Stand p l e R s m args below meth c T locs cells slots) {C : String} {idx n : Nat} (hd : decode cd pc = .ok (.new idx, 3)) (wl : (Jvm.Cond.classLink y.cls idx C).before a0 Z = true) (wi : (Jvm.Cond.instantiable C n).before a0 Z = true) (wz : (Jvm.Cond.initialized C).before a0 Z = true) (e0 : T.heap = h) (hc : cells + 1 ≤ R.cells) (hs : slots + n ≤ R.slots) (pc' : Nat) (hp : pc + 3 = pc')
    (g : ∀ (T' : State) (h' : Heap) (a : Addr), a = h.size → Stand p l e R s m args below meth c T' locs (cells + 1) (slots + n) → T'.heap = h' → Ext h h' → Exa Z h' a C → (∀ {O nm d : String} {ty : FieldType}, Laid Z a0 C O nm d → parseFieldDescriptor d = some ty → Fld Z h' a O nm d (defaultValue ty)) → Ends p e s0 below R Q T' (mkF m pc' ls (.ref a :: st))) : Ends p e s0 below R Q T (mkF m pc ls st) := by
  subst hp
  obtain ⟨T', h', X', e', E', A', D', -, q⟩ := newO X k.1 k.2.1 k.2.2.2.2.1 wl wi wz e0 (g := mkF m pc ls st) rfl (hb k.2.2.1 hd) hc hs
  exact (g T' h' h.size rfl X' e' E' A' D').map q
theorem checkcast (k : Wk.K p s m meth c Z y cd ml ret) (X : Stand p l e R s m args below meth c T locs cells slots) {C : String} {idx : Nat} {a : Addr} (hd : decode cd pc = .ok (.checkcast idx, 3)) (wl : (Jvm.Cond.classLink y.cls idx C).before a0 Z = true) (e0 : T.heap = h) (F : Ins Z h a C true) (pc' : Nat) (hp : pc + 3 = pc')
    (g : ∀ T' : State, Stand p l e R s m args below meth c T' locs cells slots → T'.heap = h → Ends p e s0 below R Q T' (mkF m pc' ls (.ref a :: st))) : Ends p e s0 below R Q T (mkF m pc ls (.ref a :: st)) := by
  subst hp
  obtain ⟨T', X', e', q⟩ := castY X k.1 k.2.1 k.2.2.2.2.1 wl e0 F (g := mkF m pc ls (.ref a :: st)) rfl rfl (hb k.2.2.1 hd)
  exact (g T' X' e').map q
theorem inst_y (k : Wk.K p s m meth c Z y cd ml ret) (X : Stand p l e R s m args below meth c T locs cells slots) {C : String} {idx : Nat} {a : Addr} (hd : decode cd pc = .ok (.instanceof idx, 3)) (wl : (Jvm.Cond.classLink y.cls idx C).before a0 Z = true) (e0 : T.heap = h) (F : Ins Z h a C true) (pc' : Nat) (hp : pc + 3 = pc')
    (g : ∀ T' : State, Stand p l e R s m args below meth c T' locs cells slots → T'.heap = h → Ends p e s0 below R Q T' (mkF m pc' ls (.int 1 :: st))) : Ends p e s0 below R Q T (mkF m pc ls (.ref a :: st)) := by
  subst hp
  obtain ⟨T', X', e', q⟩ := instY X k.1 k.2.1 k.2.2.2.2.1 wl e0 F (g := mkF m pc ls (.ref a :: st)) rfl rfl (hb k.2.2.1 hd)
  exact (g T' X' e').map q
theorem acmp_same (k : Wk.K p s m meth c Z y cd ml ret) (X : Stand p l e R s m args below meth c T locs cells slots) {cnd : ACond} {o : Int} {a : Addr} (hd : decode cd pc = .ok (.if_acmp cnd o, 3)) (ho : 0 ≤ (pc : Int) + o) (pc' : Nat) (hp : pc' = if acV cnd true = true then ((pc : Int) + o).toNat else pc + 3) (h : Ends p e s0 below R Q T (mkF m pc' ls st)) : Ends p e s0 below R Q T (mkF m pc ls (.ref a :: .ref a :: st)) := by
  exact h.map fun _ q => Jvm.RoadKit.acmp (g := mkF m pc ls (.ref a :: .ref a :: st)) X k.1 rfl rfl rfl rfl (hb k.2.2.1 hd) rfl (decide_eq_true rfl) ho hp q
theorem acmp_diff (k : Wk.K p s m meth c Z y cd ml ret) (X : Stand p l e R s m args below meth c T locs cells slots) {cnd : ACond} {o : Int} {a : Addr} {v : Value} (hd : decode cd pc = .ok (.if_acmp cnd o, 3)) (hv : v.isRef = true) (hne : Value.ref a ≠ v) (ho : 0 ≤ (pc : Int) + o) (pc' : Nat) (hp : pc' = if acV cnd false = true then ((pc : Int) + o).toNat else pc + 3) (h : Ends p e s0 below R Q T (mkF m pc' ls st)) : Ends p e s0 below R Q T (mkF m pc ls (v :: .ref a :: st)) := by
  exact h.map fun _ q => Jvm.RoadKit.acmp (g := mkF m pc ls (v :: .ref a :: st)) X k.1 rfl rfl hv rfl (hb k.2.2.1 hd) rfl (decide_eq_false hne) ho hp q
theorem inst_null (k : Wk.K p s m meth c Z y cd ml ret) (X : Stand p l e R s m args below meth c T locs cells slots) {idx : Nat} (hd : decode cd pc = .ok (.instanceof idx, 3)) (pc' : Nat) (hp : pc + 3 = pc') (h : Ends p e s0 below R Q T (mkF m pc' ls (.int 0 :: st))) : Ends p e s0 below R Q T (mkF m pc ls (.null :: st)) := by
  subst hp; exact h.map fun _ q => X.instanceofNull k.1 (g := mkF m pc ls (.null :: st)) rfl rfl (hb k.2.2.1 hd) _ q
theorem inst_n (k : Wk.K p s m meth c Z y cd ml ret) (X : Stand p l e R s m args below meth c T locs cells slots) {C : String} {idx : Nat} {a : Addr} (hd : decode cd pc = .ok (.instanceof idx, 3)) (wl : (Jvm.Cond.classLink y.cls idx C).before a0 Z = true) (e0 : T.heap = h) (F : Ins Z h a C false) {C' : String} (E : Exa Z h a C') (pc' : Nat) (hp : pc + 3 = pc')
    (g : ∀ T' : State, Stand p l e R s m args below meth c T' locs cells slots → T'.heap = h → Ends p e s0 below R Q T' (mkF m pc' ls (.int 0 :: st))) : Ends p e s0 below R Q T (mkF m pc ls (.ref a :: st)) := by
  subst hp
  obtain ⟨cell, cT, h1, h2, h3⟩ := F
  obtain ⟨cell', kc, e1, -, e3, e4, -⟩ := E
  cases h1.symm.trans e1
  obtain ⟨k', q, -⟩ := k.2.1.alike.2.2 _ _ e3
  obtain ⟨vm', X', st'⟩ := Jvm.Sym.instanceofNoAt X k.1 k.2.2.2.2.1 (mvT k.2.1 wl) (by rw [e0]; exact h1) e4 q (by rw [k.2.1.alike.findClass]; exact h2) (by rw [k.2.1.alike.assignable]; simpa [e4] using h3) (g := mkF m pc ls (.ref a :: st)) rfl rfl (hb k.2.2.1 hd)
  exact (g _ X' e0).map st'
theorem arraylength (k : Wk.K p s m meth c Z y cd ml ret) (X : Stand p l e R s m args below meth c T locs cells slots) {ty : FieldType} {vs : List Value} {a : Addr} (hd : decode cd pc = .ok (.arraylength, 1)) (e0 : T.heap = h) (A : Arl Z h a ty vs) (n : Int32) (hn : n.toInt = vs.length) (pc' : Nat) (hp : pc + 1 = pc') (g : Ends p e s0 below R Q T (mkF m pc' ls (.int n :: st))) : Ends p e s0 below R Q T (mkF m pc ls (.ref a :: st)) := by
  subst hp
  obtain ⟨cl, Ar, rfl, hl⟩ := A
  have q : cl.slots.size.toInt32 = n := by
    apply Int32.toInt_inj.mp
    rw [len_toInt (by simpa using hl), hn]; simp
  refine g.map fun _ r => X.arraylength k.1 (by rw [e0]; exact Ar.1) (State.isArrayOf_alike k.2.1.alike Ar.2.1) (g := mkF m pc ls (.ref a :: st)) rfl rfl (hb k.2.2.1 hd) _ ?_
  rw [q]; exact r
theorem iaload (k : Wk.K p s m meth c Z y cd ml ret) (X : Stand p l e R s m args below meth c T locs cells slots) {xs : List Int32} {a : Addr} {j : Int32} (hd : decode cd pc = .ok (.iaload, 1)) (e0 : T.heap = h) (A : Arl Z h a .int (xs.map .int)) (i : Nat) (hj : j.toInt = i) (x : Int32) (hx : xs[i]? = some x) (pc' : Nat) (hp : pc + 1 = pc') (g : Ends p e s0 below R Q T (mkF m pc' ls (.int x :: st))) : Ends p e s0 below R Q T (mkF m pc ls (.int j :: .ref a :: st)) := by
  subst hp
  obtain ⟨cl, Ar, hs, hl⟩ := A
  have hz : cl.slots.size = xs.length := by rw [← Array.length_toList, hs, List.length_map]
  refine g.map fun _ r => X.iaload k.1 (j := j) (v := .int x) (by rw [e0]; exact Ar.1) (State.isArrayOf_alike k.2.1.alike Ar.2.1) Ar.2.2 (inb hj (hz ▸ lt_of_get hx)) ?_ (g := mkF m pc ls (.int j :: .ref a :: st)) rfl rfl (hb k.2.2.1 hd) _ r
  rw [tnc hj, ← Array.getElem?_toList, hs, List.getElem?_map, hx]; rfl
theorem baload (k : Wk.K p s m meth c Z y cd ml ret) (X : Stand p l e R s m args below meth c T locs cells slots) {xs : List Int32} {a : Addr} {j : Int32} (hd : decode cd pc = .ok (.baload, 1)) (e0 : T.heap = h) (A : Arl Z h a .byte (xs.map .int)) (i : Nat) (hj : j.toInt = i) (x : Int32) (hx : xs[i]? = some x) (pc' : Nat) (hp : pc + 1 = pc') (g : Ends p e s0 below R Q T (mkF m pc' ls (.int x :: st))) : Ends p e s0 below R Q T (mkF m pc ls (.int j :: .ref a :: st)) := by
  subst hp
  obtain ⟨cl, Ar, hs, hl⟩ := A
  have hz : cl.slots.size = xs.length := by rw [← Array.length_toList, hs, List.length_map]
  refine g.map fun _ r => X.baloadBytes k.1 (j := j) (v := .int x) (by rw [e0]; exact Ar.1) (State.isArrayOf_alike k.2.1.alike Ar.2.1) Ar.2.2 (inb hj (hz ▸ lt_of_get hx)) ?_ (g := mkF m pc ls (.int j :: .ref a :: st)) rfl rfl (hb k.2.2.1 hd) _ r
  rw [tnc hj, ← Array.getElem?_toList, hs, List.getElem?_map, hx]; rfl
theorem iastore (k : Wk.K p s m meth c Z y cd ml ret) (X : Stand p l e R s m args below meth c T locs cells slots) {xs : List Int32} {a : Addr} {j x : Int32} (hd : decode cd pc = .ok (.iastore, 1)) (e0 : T.heap = h) (A : Arl Z h a .int (xs.map .int)) (i : Nat) (hj : j.toInt = i) (hi : i < xs.length) (pc' : Nat) (hp : pc + 1 = pc')
    (g : ∀ (T' : State) (h' : Heap), Stand p l e R s m args below meth c T' (locs ++ [⟨a, i⟩]) cells slots → T'.heap = h' → Wr h h' a i (.int x) → Arl Z h' a .int ((xs.set i x).map .int) → Ends p e s0 below R Q T' (mkF m pc' ls st)) : Ends p e s0 below R Q T (mkF m pc ls (.int x :: .int j :: .ref a :: st)) := by
  subst hp
  have A' := A
  obtain ⟨cl, Ar, hs, hl⟩ := A
  have hz : cl.slots.size = xs.length := by rw [← Array.length_toList, hs, List.length_map]
  obtain ⟨T', h', X', e', W', q⟩ := stI X k.1 k.2.1 e0 Ar (j := j) (x := x) (inb hj (hz ▸ hi)) (g := mkF m pc ls (.int x :: .int j :: .ref a :: st)) rfl rfl (hb k.2.2.1 hd)
  rw [tnc hj] at X' W'
  exact (g T' h' X' e' W' (by rw [List.map_set]; exact A'.same W')).map q
theorem bastore (k : Wk.K p s m meth c Z y cd ml ret) (X : Stand p l e R s m args below meth c T locs cells slots) {xs : List Int32} {a : Addr} {j x : Int32} (hd : decode cd pc = .ok (.bastore, 1)) (e0 : T.heap = h) (A : Arl Z h a .byte (xs.map .int)) (i : Nat) (hj : j.toInt = i) (hi : i < xs.length) (x' : Int32) (hx' : x.toInt8.toInt32 = x') (pc' : Nat) (hp : pc + 1 = pc')
    (g : ∀ (T' : State) (h' : Heap), Stand p l e R s m args below meth c T' (locs ++ [⟨a, i⟩]) cells slots → T'.heap = h' → Wr h h' a i (.int x') → Arl Z h' a .byte ((xs.set i x').map .int) → Ends p e s0 below R Q T' (mkF m pc' ls st)) : Ends p e s0 below R Q T (mkF m pc ls (.int x :: .int j :: .ref a :: st)) := by
  subst hp hx'
  have A' := A
  obtain ⟨cl, Ar, hs, hl⟩ := A
  have hz : cl.slots.size = xs.length := by rw [← Array.length_toList, hs, List.length_map]
  obtain ⟨T', h', X', e', W', q⟩ := stB X k.1 k.2.1 e0 Ar (j := j) (x := x) (inb hj (hz ▸ hi)) (g := mkF m pc ls (.int x :: .int j :: .ref a :: st)) rfl rfl (hb k.2.2.1 hd)
  rw [tnc hj] at X' W'
  exact (g T' h' X' e' W' (by rw [List.map_set]; exact A'.same W')).map q
theorem newarray (k : Wk.K p s m meth c Z y cd ml ret) (X : Stand p l e R s m args below meth c T locs cells slots) {aty : ArrayType} {n : Int32} (hd : decode cd pc = .ok (.newarray aty, 2)) (wa : (Jvm.Cond.arrayClass (newarray.typeOf aty)).before a0 Z = true) (e0 : T.heap = h) (i : Nat) (hn : n.toInt = i) (cap : Nat) (hcap : i ≤ cap) (hb8 : cap * 8 ≤ 536870912) (hc : cells + 1 ≤ R.cells) (hs : slots + cap ≤ R.slots) (pc' : Nat) (hp : pc + 2 = pc')
    (g : ∀ (T' : State) (h' : Heap) (a : Addr), a = h.size → Stand p l e R s m args below meth c T' locs (cells + 1) (slots + cap) → T'.heap = h' → Ext h h' → Arl Z h' a (newarray.typeOf aty) (List.replicate i (defaultValue (newarray.typeOf aty))) → Ends p e s0 below R Q T' (mkF m pc' ls (.ref a :: st))) : Ends p e s0 below R Q T (mkF m pc ls (.int n :: st)) := by
  subst hp
  have h0 : ¬ n < 0 := by rw [Int32.lt_iff_toInt_lt]; have e0 : (0 : Int32).toInt = 0 := rfl; omega
  obtain ⟨T', h', cA, X', e', E', A', q⟩ := newP X k.1 k.2.1 wa e0 (g := mkF m pc ls (.int n :: st)) rfl (hb k.2.2.1 hd) rfl h0 (cap := cap) (by rw [tnc hn]; exact hcap) hb8 hc hs
  refine (g T' h' h.size rfl X' e' E' ⟨_, A', ?_, ?_⟩).map q
  · simp [newA, tnc hn]
  · rw [List.length_replicate]; omega
theorem callS (k : Wk.K p s m meth c Z y cd ml ret) (X : Stand p l e R s m args below meth c T locs cells slots) {y' : MethodName} {cd' : ByteArray} {ml' : Nat} {ret' : Option FieldType} {rm' : Room} {Qc : Option Value → Heap → List Loc → Prop} {idx : Nat} {ps : List FieldType} {rt : Option FieldType} (as : List Value) (rest : List Value) (hd : decode cd pc = .ok (.invokestatic idx, 3)) (M : Wk.Met l y' cd' ml' ret' rm' as.toArray Z h Qc []) (e0 : T.heap = h)
    (w1 : (Jvm.Cond.methodLink y.cls idx y').before a0 Z = true) (w2 : (Jvm.Cond.static y').before a0 Z = true) (w3 : (Jvm.Cond.initialized y'.cls).before a0 Z = true) (w4 : (Jvm.Cond.code y' cd' ml' ret').before a0 Z = true) (hy : y'.cls ≠ "java/lang/invoke/MethodHandle" ∧ y'.cls ≠ "java/lang/invoke/VarHandle") (hsz : ls.size = ml) (hlen : parseMethodDescriptor y'.desc = some ⟨ps, rt⟩) (hl2 : as.length = ps.length) (hst : st = as.reverse ++ rest)
    (hf : rm'.frames + 1 ≤ R.frames) (hlo : (rest.map fun v => v.category).sum + (ml' + 11) + rm'.locals ≤ R.locals) (hc : cells + rm'.cells ≤ R.cells) (hs : slots + rm'.slots ≤ R.slots) (pc' : Nat) (hp : pc + 3 = pc')
    (g : ∀ (T' : State) (v : Option Value) (L : List Loc), Stand p l e R s m args below meth c T' (locs ++ L) (cells + rm'.cells) (slots + rm'.slots) → Qc v T'.heap L → Ends p e s0 below R Q T' (mkF m pc' ls (v.toList ++ rest))) : Ends p e s0 below R Q T (mkF m pc ls st) := by
  subst hp hst
  obtain ⟨v, _, ⟨T', L', c', n'⟩, -, X', ⟨Lc, hQ, q1, q2, q3⟩, q⟩ := Jvm.LawKit.callS X k.1 (y := y') k.2.2.2.2.1 (mvT k.2.1 w1) (mvT k.2.1 w2) (mvT k.2.1 w3) (mvT k.2.1 w4) hy (backOf (W := (rest.map fun v => v.category).sum) M k.2.1 w4 w3 hf hlo) (g := mkF m pc ls (as.reverse ++ rest)) rfl (hsz.trans k.2.2.2.1.symm) (argsL := as) (rest := rest) (lenOf hlen hl2) rfl (by show 2 * 0 + _ ≤ _; rw [Nat.mul_zero, Nat.zero_add]; exact Nat.le_refl _) (hb k.2.2.1 hd) (fun _ _ => ⟨rfl, e0, hc, hs⟩)
  dsimp only [Pt.U, Pt.locs, Pt.cells, Pt.slots] at X' q1 q2 q3 q hQ
  subst q1 q2 q3
  exact (g T' v Lc X' hQ).map q
theorem callI (k : Wk.K p s m meth c Z y cd ml ret) (X : Stand p l e R s m args below meth c T locs cells slots) {y' : MethodName} {cd' : ByteArray} {ml' : Nat} {rm' : Room} {Qc : Option Value → Heap → List Loc → Prop} {idx : Nat} {ps : List FieldType} {rt : Option FieldType} {a : Addr} (as : List Value) (rest : List Value) (hd : decode cd pc = .ok (.invokespecial idx, 3)) (M : Wk.Met l y' cd' ml' none rm' (.ref a :: as).toArray Z h Qc []) (e0 : T.heap = h) (hin : y'.name = "<init>")
    (w1 : (Jvm.Cond.methodLink y.cls idx y').before a0 Z = true) (w2 : (Jvm.Cond.instanceMethod y').before a0 Z = true) (w3 : (Jvm.Cond.initialized y'.cls).before a0 Z = true) (w4 : (Jvm.Cond.code y' cd' ml' none).before a0 Z = true) (hy : y'.cls ≠ "java/lang/invoke/MethodHandle" ∧ y'.cls ≠ "java/lang/invoke/VarHandle") (hsz : ls.size = ml) (hlen : parseMethodDescriptor y'.desc = some ⟨ps, rt⟩) (hl2 : as.length = ps.length) (hst : st = as.reverse ++ .ref a :: rest)
    (hf : rm'.frames + 1 ≤ R.frames) (hlo : (rest.map fun v => v.category).sum + (ml' + 11) + rm'.locals ≤ R.locals) (hc : cells + rm'.cells ≤ R.cells) (hs : slots + rm'.slots ≤ R.slots) (pc' : Nat) (hp : pc + 3 = pc')
    (g : ∀ (T' : State) (v : Option Value) (L : List Loc), Stand p l e R s m args below meth c T' (locs ++ L) (cells + rm'.cells) (slots + rm'.slots) → Qc v T'.heap L → Ends p e s0 below R Q T' (mkF m pc' ls (v.toList ++ rest))) : Ends p e s0 below R Q T (mkF m pc ls st) := by
  subst hp hst
  obtain ⟨v, _, ⟨T', L', c', n'⟩, -, X', ⟨Lc, hQ, q1, q2, q3⟩, q⟩ := X.specialBack k.1 (y := y') hin k.2.2.2.2.1 (mvT k.2.1 w1) (mvT k.2.1 w2) (mvT k.2.1 w4) hy (backOf (W := (rest.map fun v => v.category).sum) M k.2.1 w4 w3 hf hlo) (g := mkF m pc ls (as.reverse ++ .ref a :: rest)) rfl (hsz.trans k.2.2.2.1.symm) (Steps.refl _) (a := a) (argsL := as) (rest := rest) (lenOf hlen hl2) rfl (by show 2 * 0 + _ ≤ _; rw [Nat.mul_zero, Nat.zero_add]; exact Nat.le_refl _) (hb k.2.2.1 hd) (fun _ _ => ⟨rfl, e0, hc, hs⟩)
  dsimp only [Pt.U, Pt.locs, Pt.cells, Pt.slots] at X' q1 q2 q3 q hQ
  subst q1 q2 q3
  exact (g T' v Lc X' hQ).map fun _ r => q.trans r
theorem callV (k : Wk.K p s m meth c Z y cd ml ret) (X : Stand p l e R s m args below meth c T locs cells slots) {y' : MethodName} {cd' : ByteArray} {ml' : Nat} {ret' : Option FieldType} {rm' : Room} {Qc : Option Value → Heap → List Loc → Prop} {idx : Nat} {ps : List FieldType} {rt : Option FieldType} {a : Addr} (as : List Value) (rest : List Value) (hd : decode cd pc = .ok (.invokevirtual idx, 3)) (M : Wk.Met l y' cd' ml' ret' rm' (.ref a :: as).toArray Z h Qc []) (e0 : T.heap = h) (E : Exa Z h a y'.cls)
    (w1 : (Jvm.Cond.methodLink y.cls idx y').before a0 Z = true) (w0 : (Jvm.Cond.declares y').before a0 Z = true) (ws : (Jvm.Cond.selects y'.cls y' y').before a0 Z = true) (w2 : (Jvm.Cond.instanceMethod y').before a0 Z = true) (w3 : (Jvm.Cond.initialized y'.cls).before a0 Z = true) (w4 : (Jvm.Cond.code y' cd' ml' ret').before a0 Z = true) (hy : y'.cls ≠ "java/lang/invoke/MethodHandle" ∧ y'.cls ≠ "java/lang/invoke/VarHandle") (hsz : ls.size = ml) (hlen : parseMethodDescriptor y'.desc = some ⟨ps, rt⟩) (hl2 : as.length = ps.length) (hst : st = as.reverse ++ .ref a :: rest)
    (hf : rm'.frames + 1 ≤ R.frames) (hlo : (rest.map fun v => v.category).sum + (ml' + 11) + rm'.locals ≤ R.locals) (hc : cells + rm'.cells ≤ R.cells) (hs : slots + rm'.slots ≤ R.slots) (pc' : Nat) (hp : pc + 3 = pc')
    (g : ∀ (T' : State) (v : Option Value) (L : List Loc), Stand p l e R s m args below meth c T' (locs ++ L) (cells + rm'.cells) (slots + rm'.slots) → Qc v T'.heap L → Ends p e s0 below R Q T' (mkF m pc' ls (v.toList ++ rest))) : Ends p e s0 below R Q T (mkF m pc ls st) := by
  subst hp hst
  obtain ⟨cq, kq, qa, qb, qc⟩ := isOf k.2.1 e0 E
  obtain ⟨v, _, ⟨T', L', c', n'⟩, -, X', ⟨Lc, hQ, q1, q2, q3⟩, q⟩ := X.virtualBack k.1 (y := y') (z := y') k.2.2.2.2.1 (mvT k.2.1 w1) (mvT k.2.1 w0) (notFace_of_selects (args := #[]) (mvT k.2.1 ws)) (mvT k.2.1 ws) (mvT k.2.1 w2) hy (backOf (W := (rest.map fun v => v.category).sum) M k.2.1 w4 w3 hf hlo) qa qc (g := mkF m pc ls (as.reverse ++ .ref a :: rest)) rfl (hsz.trans k.2.2.2.1.symm) (Steps.refl _) (argsL := as) (rest := rest) (lenOf hlen hl2) rfl (by show 2 * 0 + _ ≤ _; rw [Nat.mul_zero, Nat.zero_add]; exact Nat.le_refl _) (hb k.2.2.1 hd) (fun _ _ => ⟨rfl, e0, hc, hs⟩)
  dsimp only [Pt.U, Pt.locs, Pt.cells, Pt.slots] at X' q1 q2 q3 q hQ
  subst q1 q2 q3
  exact (g T' v Lc X' hQ).map fun _ r => q.trans r
theorem caload (k : Wk.K p s m meth c Z y cd ml ret) (X : Stand p l e R s m args below meth c T locs cells slots) {xs : List Int32} {a : Addr} {j : Int32} (hd : decode cd pc = .ok (.caload, 1)) (e0 : T.heap = h) (A : Arl Z h a .char (xs.map .int)) (i : Nat) (hj : j.toInt = i) (x : Int32) (hx : xs[i]? = some x) (pc' : Nat) (hp : pc + 1 = pc') (g : Ends p e s0 below R Q T (mkF m pc' ls (.int x :: st))) : Ends p e s0 below R Q T (mkF m pc ls (.int j :: .ref a :: st)) := by
  subst hp
  obtain ⟨cl, Ar, hs, hl⟩ := A
  have hz : cl.slots.size = xs.length := by rw [← Array.length_toList, hs, List.length_map]
  refine g.map fun _ r => X.caload k.1 (j := j) (v := .int x) (by rw [e0]; exact Ar.1) (State.isArrayOf_alike k.2.1.alike Ar.2.1) Ar.2.2 (inb hj (hz ▸ lt_of_get hx)) ?_ (g := mkF m pc ls (.int j :: .ref a :: st)) rfl rfl (hb k.2.2.1 hd) _ r
  rw [tnc hj, ← Array.getElem?_toList, hs, List.getElem?_map, hx]; rfl
theorem castore (k : Wk.K p s m meth c Z y cd ml ret) (X : Stand p l e R s m args below meth c T locs cells slots) {xs : List Int32} {a : Addr} {j x : Int32} (hd : decode cd pc = .ok (.castore, 1)) (e0 : T.heap = h) (A : Arl Z h a .char (xs.map .int)) (i : Nat) (hj : j.toInt = i) (hi : i < xs.length) (x' : Int32) (hx' : x.toUInt32.toUInt16.toUInt32.toInt32 = x') (pc' : Nat) (hp : pc + 1 = pc')
    (g : ∀ (T' : State) (h' : Heap), Stand p l e R s m args below meth c T' (locs ++ [⟨a, i⟩]) cells slots → T'.heap = h' → Wr h h' a i (.int x') → Arl Z h' a .char ((xs.set i x').map .int) → Ends p e s0 below R Q T' (mkF m pc' ls st)) : Ends p e s0 below R Q T (mkF m pc ls (.int x :: .int j :: .ref a :: st)) := by
  subst hp hx'
  have A' := A
  obtain ⟨cl, Ar, hs, hl⟩ := A
  have hz : cl.slots.size = xs.length := by rw [← Array.length_toList, hs, List.length_map]
  obtain ⟨T', h', X', e', W', q⟩ := stC X k.1 k.2.1 e0 Ar (j := j) (x := x) (inb hj (hz ▸ hi)) (g := mkF m pc ls (.int x :: .int j :: .ref a :: st)) rfl rfl (hb k.2.2.1 hd)
  rw [tnc hj] at X' W'
  exact (g T' h' X' e' W' (by rw [List.map_set]; exact A'.same W')).map q
theorem ret_int (k : Wk.K p (s0.setVm vm0) m meth c Z y cd ml ret) (X : Stand p l e R (s0.setVm vm0) m args below meth c T locs cells slots) (hS : s0.Since vm0 k0) (hk : k0 ≤ T.heap.size) (hret : ret = some .int) {z : Int32} (hd : decode cd pc = .ok (.ireturn, 1)) (hc : cells ≤ R.cells) (hs : slots ≤ R.slots) (h : Q (some (.int z)) T.vm T.heap locs) : Ends p e s0 below R Q T (mkF m pc ls (.int z :: st)) := by
  have hl := k.2.2.2.2.2.2.1
  obtain ⟨fs, hr, hrun, hended, hR, hW, hB, hsame⟩ := X.leaveW hS hk (v := some (.int z)) (fun q => by rw [k.2.2.2.2.2.1, hret] at q; cases q)
  exact ⟨_, _, retOut X k.1 (t := .int) (k.2.2.2.2.2.1.trans hret) rfl (Or.inl ⟨rfl, Or.inl rfl, _, rfl⟩) (hb k.2.2.1 hd) hr, hrun, hended, _, _, rfl, h, hR, hW, hB, hsame.mono hc hs⟩
theorem ret_bool (k : Wk.K p (s0.setVm vm0) m meth c Z y cd ml ret) (X : Stand p l e R (s0.setVm vm0) m args below meth c T locs cells slots) (hS : s0.Since vm0 k0) (hk : k0 ≤ T.heap.size) (hret : ret = some .boolean) {z : Int32} (hd : decode cd pc = .ok (.ireturn, 1)) (hc : cells ≤ R.cells) (hs : slots ≤ R.slots) (hz : z = 0 ∨ z = 1) (h : Q (some (.int z)) T.vm T.heap locs) : Ends p e s0 below R Q T (mkF m pc ls (.int z :: st)) := by
  have hl := k.2.2.2.2.2.2.1
  obtain ⟨fs, hr, hrun, hended, hR, hW, hB, hsame⟩ := X.leaveW hS hk (v := some (.int z)) (fun q => by rw [k.2.2.2.2.2.1, hret] at q; cases q)
  exact ⟨_, _, retOut X k.1 (t := .boolean) (k.2.2.2.2.2.1.trans hret) (by rcases hz with rfl | rfl <;> rfl) (Or.inl ⟨rfl, Or.inr (Or.inl rfl), _, rfl⟩) (hb k.2.2.1 hd) hr, hrun, hended, _, _, rfl, h, hR, hW, hB, hsame.mono hc hs⟩
theorem ret_ref (k : Wk.K p (s0.setVm vm0) m meth c Z y cd ml ret) (X : Stand p l e R (s0.setVm vm0) m args below meth c T locs cells slots) (hS : s0.Since vm0 k0) (hk : k0 ≤ T.heap.size) {t : FieldType} (hret : ret = some t) (ht : t.isReference = true) {z : Value} (hz : z.isRef = true) (hn : narrow t z = z) (hd : decode cd pc = .ok (.areturn, 1)) (hc : cells ≤ R.cells) (hs : slots ≤ R.slots) (h : Q (some z) T.vm T.heap locs) : Ends p e s0 below R Q T (mkF m pc ls (z :: st)) := by
  have hl := k.2.2.2.2.2.2.1
  obtain ⟨fs, hr, hrun, hended, hR, hW, hB, hsame⟩ := X.leaveW hS hk (v := some z) (fun q => by rw [k.2.2.2.2.2.1, hret] at q; cases q)
  exact ⟨_, _, retOut X k.1 (t := t) (k.2.2.2.2.2.1.trans hret) hn (Or.inr (Or.inr (Or.inr (Or.inr ⟨rfl, ht, hz⟩)))) (hb k.2.2.1 hd) hr, hrun, hended, _, _, rfl, h, hR, hW, hB, hsame.mono hc hs⟩
theorem ret_void (k : Wk.K p (s0.setVm vm0) m meth c Z y cd ml ret) (X : Stand p l e R (s0.setVm vm0) m args below meth c T locs cells slots) (hS : s0.Since vm0 k0) (hk : k0 ≤ T.heap.size) (hret : ret = none) (hd : decode cd pc = .ok (.return_, 1)) (hc : cells ≤ R.cells) (hs : slots ≤ R.slots) (h : Q none T.vm T.heap locs) : Ends p e s0 below R Q T (mkF m pc ls []) := by
  have hl := k.2.2.2.2.2.2.1
  obtain ⟨fs, hr, hrun, hended, hR, hW, hB, hsame⟩ := X.leaveW hS hk (v := none) (fun _ => rfl)
  exact ⟨_, _, X.returnOut k.1 (k.2.2.2.2.2.1.trans hret) (hb k.2.2.1 hd) hr, hrun, hended, _, _, rfl, h, hR, hW, hB, hsame.mono hc hs⟩
theorem rek {vm1 : Vm} (k : Wk.K p (s0.setVm vm0) m meth c Z y cd ml ret) (hW : Z.Warmed39 vm1) (hf : vm1.findClass y.cls = some m.cls) : Wk.K p (s0.setVm vm1) m meth c Z y cd ml ret := ⟨k.1, hW, k.2.2.1, k.2.2.2.1, hf, k.2.2.2.2.2⟩
theorem ldcS (k : Wk.K p (s0.setVm vm0) m meth c Z y cd ml ret) (X : Stand p l e R (s0.setVm vm0) m args below meth c T locs cells slots) {text : String} {index : Nat} (hd : decode cd pc = .ok (.ldc index, 2)) (w : (Jvm.Cond.stringLink y.cls index text).before a0 Z = true) (wS : ∀ a ∈ Bundle.stringAtoms, a.before a0 Z = true) (e0 : T.heap = h) (hS : s0.Since vm0 k0) (hk : k0 ≤ h.size) (n : Nat) (hn : 4 * text.toList.length ≤ n) (hbig : n ≤ 536870912) (hc : cells + 2 ≤ R.cells) (hl : slots + (n + 4) ≤ R.slots) (pc' : Nat) (hp : pc + 2 = pc')
    (g : ∀ (a : Addr) (vm1 : Vm) (k1 : Nat) (T' : State) (h' : Heap), Wk.K p (s0.setVm vm1) m meth c Z y cd ml ret → Stand p l e R (s0.setVm vm1) m args below meth c T' locs (cells + 2) (slots + (n + 4)) → T'.heap = h' → Ext h h' → s0.Since vm1 k1 → k1 ≤ h'.size → Ends p e s0 below R Q T' (mkF m pc' ls (.ref a :: st))) : Ends p e s0 below R Q T (mkF m pc ls st) := by
  subst hp
  obtain ⟨a, T', h', k1, X', e', E', hS', hk', hW', hf', q⟩ := Jvm.RoadKit.ldcS X k.1 (vm0 := vm0) k.2.1 k.2.2.2.2.1 w wS e0 hS hk (g := mkF m pc ls st) rfl (hb k.2.2.1 hd) hn hbig hc hl
  exact (g a T'.vm k1 T' h' (rek k hW' hf') X' e' E' hS' hk').map q
/-- a call's shape for such a contract: PP is what the caller knows of the tables where the call is made -/
theorem back {len W : Nat} {as' : Array Value} {rm : Room} {y' : MethodName} {cd' : ByteArray} {ml' : Nat} {ret' : Option FieldType} {PV PP : Vm → Prop} {Qc : Vm → Option Value → Vm → Heap → List Loc → Prop} (M : Met l y' cd' ml' ret' rm as' Z h PV Qc []) (hZ : Z.Warmed39 s.vm) (wc : (Jvm.Cond.code y' cd' ml' ret').before a0 Z = true) (wz : (Jvm.Cond.initialized y'.cls).before a0 Z = true) (hf : rm.frames + 1 ≤ R.frames) (hl : W + (ml' + 11) + rm.locals ≤ R.locals)
    (hPP : ∀ (m : MethodId) (meth : Method) (c : Code) (U : State) (Ls : List Loc) (c1 n1 : Nat), Stand p l e R s m args below meth c U Ls c1 n1 → PP U.vm) (hPV : ∀ vm, PP vm → PV vm) :
    BackS l R p e below s args y' len W (fun A a => a = as' ∧ A.U.heap = h ∧ A.cells + rm.cells ≤ R.cells ∧ A.slots + rm.slots ≤ R.slots) (fun A _ v B => ∃ L vm', PP vm' ∧ Qc vm' v B.U.vm B.U.heap L ∧ B.locs = A.locs ++ L ∧ B.cells = A.cells + rm.cells ∧ B.slots = A.slots + rm.slots) := by
  refine BackS.of_freeW (bytes := cd') (maxL := ml') (ret := ret') (E := fun _ U o t L k n => k = rm.cells ∧ n = rm.slots ∧ ∃ v, o = .returned v ∧ Qc U.vm v t.vm t.heap L) M hf hl ?_ ?_ (fun _ _ _ _ _ _ _ _ _ => trivial) ?_ ?_
  · intro m meth c A a Y hp
    have hU : Z.Warmed39 A.U.vm := wtrans hZ Y.warmed
    refine ⟨?_, mv hU wc, mv hU wz, hp.2.2.1, hp.2.2.2⟩
    show (Cond.and _ .tt).before a A.U = true
    rw [Cond.before_and, mv hU wc]; rfl
  · intro m meth c A a g mk Y hp
    exact ⟨hp.1, wtrans hZ Y.warmed, hp.2.1, hPV _ (hPP m meth c A.U A.locs A.cells A.slots Y)⟩
  · rintro a U o t ⟨v, L, h1, h2, h3⟩
    exact ⟨L, _, _, h3, rfl, rfl, v, h1, h2⟩
  · rintro m meth c A a g mk v t L k n Y hp - - ⟨e1, e2, v', e3, e4⟩
    cases e3
    subst e1 e2
    exact ⟨L, A.U.vm, hPP m meth c A.U A.locs A.cells A.slots Y, e4, rfl, rfl, rfl⟩
theorem callSH (k : Wk.K p (s0.setVm vm0) m meth c Z y cd ml ret) (X : Stand p l e R (s0.setVm vm0) m args below meth c T locs cells slots) {y' : MethodName} {cd' : ByteArray} {ml' : Nat} {ret' : Option FieldType} {rm' : Room} {PV PP : Vm → Prop} {Qc : Vm → Option Value → Vm → Heap → List Loc → Prop} {idx : Nat} {ps : List FieldType} {rt : Option FieldType} (as : List Value) (rest : List Value) (hd : decode cd pc = .ok (.invokestatic idx, 3)) (M : Met l y' cd' ml' ret' rm' (as).toArray Z h PV Qc []) (e0 : T.heap = h) (hS : s0.Since vm0 k0) (hk : k0 ≤ h.size)
    (hPP : ∀ (m : MethodId) (meth : Method) (c : Code) (U : State) (Ls : List Loc) (c1 n1 : Nat), Stand p l e R (s0.setVm vm0) m args below meth c U Ls c1 n1 → PP U.vm) (hPV : ∀ vm, PP vm → PV vm)
    (w1 : (Jvm.Cond.methodLink y.cls idx y').before a0 Z = true) (w2 : (Jvm.Cond.static y').before a0 Z = true) (w3 : (Jvm.Cond.initialized y'.cls).before a0 Z = true) (w4 : (Jvm.Cond.code y' cd' ml' ret').before a0 Z = true) (hy : y'.cls ≠ "java/lang/invoke/MethodHandle" ∧ y'.cls ≠ "java/lang/invoke/VarHandle") (hsz : ls.size = ml) (hlen : parseMethodDescriptor y'.desc = some ⟨ps, rt⟩) (hl2 : as.length = ps.length) (hst : st = as.reverse ++ rest)
    (hf : rm'.frames + 1 ≤ R.frames) (hlo : (rest.map fun v => v.category).sum + (ml' + 11) + rm'.locals ≤ R.locals) (hc : cells + rm'.cells ≤ R.cells) (hs : slots + rm'.slots ≤ R.slots) (pc' : Nat) (hp : pc + 3 = pc')
    (g : ∀ (vm' vm1 : Vm) (k1 : Nat) (T' : State) (v : Option Value) (L : List Loc), PP vm' → Wk.K p (s0.setVm vm1) m meth c Z y cd ml ret → Stand p l e R (s0.setVm vm1) m args below meth c T' (locs ++ L) (cells + rm'.cells) (slots + rm'.slots) → s0.Since vm1 k1 → k1 ≤ T'.heap.size → Qc vm' v vm1 T'.heap L → Ends p e s0 below R Q T' (mkF m pc' ls (v.toList ++ rest))) : Ends p e s0 below R Q T (mkF m pc ls st) := by
  subst hp hst
  obtain ⟨v, vm1, ⟨T', L', c', n'⟩, -, X', hS2, hgr, ⟨Lc, vm', hPP', hQ, q1, q2, q3⟩, q⟩ := Jvm.RoadKit.callSS X k.1 (y := y') k.2.2.2.2.1 (mvT k.2.1 w1) (mvT k.2.1 w2) (mvT k.2.1 w3) (mvT k.2.1 w4) hy (back (W := (rest.map fun v => v.category).sum) M k.2.1 w4 w3 hf hlo hPP hPV) (g := mkF m pc ls (as.reverse ++ rest)) rfl (hsz.trans k.2.2.2.1.symm) (argsL := as) (rest := rest) (lenOf hlen hl2) rfl (by show 2 * 0 + _ ≤ _; rw [Nat.mul_zero, Nat.zero_add]; exact Nat.le_refl _) (hb k.2.2.1 hd) (fun _ _ => ⟨rfl, e0, hc, hs⟩)
  dsimp only [Pt.U, Pt.locs, Pt.cells, Pt.slots] at X' q1 q2 q3 q hQ hS2 hgr
  subst q1 q2 q3
  have hS3 : s0.Since T'.vm T'.heap.size := hS.trans hS2 (Nat.le_trans hk (by rw [← e0]; exact hgr))
  exact (g vm' T'.vm _ T' v Lc hPP' (rek k (State.Warmed39.trans (t := s0.setVm vm0) k.2.1 hS2.1) (by rw [hS2.1.alike.findClass]; exact k.2.2.2.2.1)) X' hS3 (Nat.le_refl _) hQ).map fun _ r => q.trans r
theorem callIH (k : Wk.K p (s0.setVm vm0) m meth c Z y cd ml ret) (X : Stand p l e R (s0.setVm vm0) m args below meth c T locs cells slots) {y' : MethodName} {cd' : ByteArray} {ml' : Nat} {rm' : Room} {PV PP : Vm → Prop} {Qc : Vm → Option Value → Vm → Heap → List Loc → Prop} {idx : Nat} {ps : List FieldType} {rt : Option FieldType} {a : Addr} (as : List Value) (rest : List Value) (hd : decode cd pc = .ok (.invokespecial idx, 3)) (M : Met l y' cd' ml' none rm' (.ref a :: as).toArray Z h PV Qc []) (e0 : T.heap = h) (hS : s0.Since vm0 k0) (hk : k0 ≤ h.size)
    (hPP : ∀ (m : MethodId) (meth : Method) (c : Code) (U : State) (Ls : List Loc) (c1 n1 : Nat), Stand p l e R (s0.setVm vm0) m args below meth c U Ls c1 n1 → PP U.vm) (hPV : ∀ vm, PP vm → PV vm) (hin : y'.name = "<init>")
    (w1 : (Jvm.Cond.methodLink y.cls idx y').before a0 Z = true) (w2 : (Jvm.Cond.instanceMethod y').before a0 Z = true) (w3 : (Jvm.Cond.initialized y'.cls).before a0 Z = true) (w4 : (Jvm.Cond.code y' cd' ml' none).before a0 Z = true) (hy : y'.cls ≠ "java/lang/invoke/MethodHandle" ∧ y'.cls ≠ "java/lang/invoke/VarHandle") (hsz : ls.size = ml) (hlen : parseMethodDescriptor y'.desc = some ⟨ps, rt⟩) (hl2 : as.length = ps.length) (hst : st = as.reverse ++ .ref a :: rest)
    (hf : rm'.frames + 1 ≤ R.frames) (hlo : (rest.map fun v => v.category).sum + (ml' + 11) + rm'.locals ≤ R.locals) (hc : cells + rm'.cells ≤ R.cells) (hs : slots + rm'.slots ≤ R.slots) (pc' : Nat) (hp : pc + 3 = pc')
    (g : ∀ (vm' vm1 : Vm) (k1 : Nat) (T' : State) (v : Option Value) (L : List Loc), PP vm' → Wk.K p (s0.setVm vm1) m meth c Z y cd ml ret → Stand p l e R (s0.setVm vm1) m args below meth c T' (locs ++ L) (cells + rm'.cells) (slots + rm'.slots) → s0.Since vm1 k1 → k1 ≤ T'.heap.size → Qc vm' v vm1 T'.heap L → Ends p e s0 below R Q T' (mkF m pc' ls (v.toList ++ rest))) : Ends p e s0 below R Q T (mkF m pc ls st) := by
  subst hp hst
  obtain ⟨v, vm1, ⟨T', L', c', n'⟩, -, X', hS2, hgr, ⟨Lc, vm', hPP', hQ, q1, q2, q3⟩, q⟩ := X.specialBackS k.1 (y := y') hin k.2.2.2.2.1 (mvT k.2.1 w1) (mvT k.2.1 w2) (mvT k.2.1 w4) hy (back (W := (rest.map fun v => v.category).sum) M k.2.1 w4 w3 hf hlo hPP hPV) (g := mkF m pc ls (as.reverse ++ .ref a :: rest)) rfl (hsz.trans k.2.2.2.1.symm) (Steps.refl _) (a := a) (argsL := as) (rest := rest) (lenOf hlen hl2) rfl (by show 2 * 0 + _ ≤ _; rw [Nat.mul_zero, Nat.zero_add]; exact Nat.le_refl _) (hb k.2.2.1 hd) (fun _ _ => ⟨rfl, e0, hc, hs⟩)
  dsimp only [Pt.U, Pt.locs, Pt.cells, Pt.slots] at X' q1 q2 q3 q hQ hS2 hgr
  subst q1 q2 q3
  have hS3 : s0.Since T'.vm T'.heap.size := hS.trans hS2 (Nat.le_trans hk (by rw [← e0]; exact hgr))
  exact (g vm' T'.vm _ T' v Lc hPP' (rek k (State.Warmed39.trans (t := s0.setVm vm0) k.2.1 hS2.1) (by rw [hS2.1.alike.findClass]; exact k.2.2.2.2.1)) X' hS3 (Nat.le_refl _) hQ).map fun _ r => q.trans r
/-- ldc of a constant whose text is read -/
theorem ldcA (k : Wk.K p (s0.setVm vm0) m meth c Z y cd ml ret) (X : Stand p l e R (s0.setVm vm0) m args below meth c T locs cells slots) {text : String} {index : Nat} {a : Addr} (hd : decode cd pc = .ok (.ldc index, 2)) (w : (Jvm.Cond.stringLink y.cls index text).before a0 Z = true) (L : Lit (s0.setVm vm0) y.cls index a) (pc' : Nat) (hp : pc + 2 = pc') (h : Ends p e s0 below R Q T (mkF m pc' ls (.ref a :: st))) : Ends p e s0 below R Q T (mkF m pc ls st) := by
  subst hp
  exact h.map (Jvm.RoadKit.ldcAgain X k.1 (vm0 := vm0) k.2.1 k.2.2.2.2.1 w L (g := mkF m pc ls st) rfl (hb k.2.2.1 hd))
theorem ldcH (k : Wk.K p (s0.setVm vm0) m meth c Z y cd ml ret) (X : Stand p l e R (s0.setVm vm0) m args below meth c T locs cells slots) {EL : List (String × Nat)} {text : String} {index : Nat} (hd : decode cd pc = .ok (.ldc index, 2)) (w : (Jvm.Cond.stringLink y.cls index text).before a0 Z = true) (wS : ∀ a ∈ Bundle.stringAtoms, a.before a0 Z = true) (e0 : T.heap = h) (hS : s0.Since vm0 k0) (hk : k0 ≤ h.size) (hEL : EW Z a0 EL) (hmem : (y.cls, index) ∈ EL) (H : CHv Z EL vm0 h)
    {vs : List Value} {z : Int32} (ht : (∀ c ∈ text.toList, c.toNat < 256) ∧ text.toList.map (fun c => Value.int (Jvm.Lit.byteI c.toNat.toUInt16)) = vs) (hz : ¬ z < 0) (hl : z.toNatClampNeg = vs.length) (n : Nat) (hn : 4 * text.toList.length ≤ n) (hbig : n ≤ 536870912) (hc : cells + 2 ≤ R.cells) (hl' : slots + (n + 4) ≤ R.slots) (pc' : Nat) (hp : pc + 2 = pc')
    (g : ∀ (a b : Addr) (vm1 : Vm) (k1 : Nat) (T' : State) (h' : Heap) (kc : ClassId), Wk.K p (s0.setVm vm1) m meth c Z y cd ml ret → Stand p l e R (s0.setVm vm1) m args below meth c T' locs (cells + 2) (slots + (n + 4)) → T'.heap = h' → Ext h h' → s0.Since vm1 k1 → k1 ≤ h'.size → Exa Z h' a "java/lang/String" → Fld Z h' a "java/lang/String" "coder" "B" (.int 0) → Fld Z h' a "java/lang/String" "value" "[B" (.ref b) → Arv Z h' b kc .byte z vs (.int 0) → CHr Z EL vm0 h vm1 h' → Lit (s0.setVm vm1) y.cls index a → (∀ x, Safe Z EL vm1 h' x → x ≠ a ∧ x ≠ b) → Ends p e s0 below R Q T' (mkF m pc' ls (.ref a :: st))) : Ends p e s0 below R Q T (mkF m pc ls st) := by
  subst hp
  obtain ⟨a, T', h', k1, b, kc, X', e', E', hS', hk', hW', hf', r1, r2, r3, r4, -, -, r5, r6, r7, q⟩ := Jvm.RoadKit.ldcCH X k.1 (vm0 := vm0) k.2.1 k.2.2.2.2.1 w wS e0 hS hk hEL hmem H ht hz hl (g := mkF m pc ls st) rfl (hb k.2.2.1 hd) hn hbig hc hl'
  exact (g a b T'.vm k1 T' h' kc (rek k hW' hf') X' e' E' hS' hk' r1 r2 r3 r4 r5 r6 r7).map q

end
end Wh

theorem own_wS {Z : State} {a0 : Array Value} (hw : ∀ d ∈ tables_1, d.before a0 Z = true) : ∀ a ∈ Bundle.stringAtoms, a.before a0 Z = true := fun a ha => by
  simp only [Bundle.stringAtoms, List.mem_cons, List.not_mem_nil, or_false] at ha
  rcases ha with rfl | rfl | rfl | rfl | rfl | rfl | rfl
  · exact (Wk.w hw 15 rfl)
  · exact (Wk.w hw 14 rfl)
  · exact (Wk.w hw 28 rfl)
  · exact (Wk.w hw 29 rfl)
  · exact (Wk.w hw 30 rfl)
  · exact (Wk.w hw 31 rfl)
  · exact (Wk.w hw 32 rfl)
def own_EL : List (String × Nat) := [("java/lang/String", 7)]
theorem own_EW {Z : State} {a0 : Array Value} (hw : ∀ d ∈ tables_1, d.before a0 Z = true) : EW Z a0 own_EL := EW.cons (text := "") (Wk.w hw 27 rfl) (fun c hc => by simp at hc) EW.nil
theorem own_i2c {y : Int32} (hy : 0 ≤ y.toInt ∧ y.toInt ≤ 255) : y.toUInt32.toUInt16.toUInt32.toInt32 = y := by
  have e : y.toBitVec.toNat < 256 := by
    have h1 : y.toInt = y.toBitVec.toInt := rfl
    rw [h1, BitVec.toInt_eq_toNat_cond] at hy
    have := y.toBitVec.isLt
    split at hy <;> omega
  apply Int32.toBitVec_inj.mp
  apply BitVec.eq_of_toNat_eq
  show ((y.toBitVec.setWidth 16).setWidth 32).toNat = _
  rw [BitVec.toNat_setWidth, BitVec.toNat_setWidth]
  omega
theorem own_le {y : Int32} (hy : 0 ≤ y.toInt ∧ y.toInt ≤ 255) : ¬ (255 : Int32) < y := by
  have z : (255 : Int32).toInt = 255 := by decide
  rw [Int32.lt_iff_toInt_lt, z]; omega
theorem own_b8 (y : Int32) : (y.toInt8.toInt32).toInt8.toInt32 = y.toInt8.toInt32 := by rw [Int8.toInt8_toInt32]
theorem own_arl0 {Z : State} {h : Heap} {b : Addr} {k : ClassId} (A : Arv Z h b k .byte 0 [] (.int 0)) : Wk.Arl Z h b .byte (([] : List Int32).map Value.int) := by
  obtain ⟨c, A, -, hs, -⟩ := A
  have hz : c.slots.size = 0 := hs
  exact ⟨c, A, by rw [Array.eq_empty_of_size_eq_zero hz]; rfl, by decide⟩
namespace Wk
theorem ret_byte {p : Program} {l : Launch} {e : Env} {R : Room} {s : State} {m : MethodId} {args : Array Value} {below : List Frame} {meth : Method} {c : Code} {T : State} {locs : List Loc} {cells slots : Nat} {Z : State} {y : MethodName} {cd : ByteArray} {ml : Nat} {ret : Option FieldType} {Q : Option Value → Heap → List Loc → Prop} {pc : Nat} {ls : Array Slot} {st : List Value} (k : K p s m meth c Z y cd ml ret) (X : Stand p l e R s m args below meth c T locs cells slots) (hret : ret = some .byte) {z : Int32} (hd : decode cd pc = .ok (.ireturn, 1)) (hc : cells ≤ R.cells) (hs : slots ≤ R.slots) (hz : narrow .byte (.int z) = .int z) (h : Q (some (.int z)) T.heap locs) : Ends p e s below R Q T (mkF m pc ls (.int z :: st)) := by
  have hl := k.2.2.2.2.2.2.1
  obtain ⟨fs, hr, hrun, hended, hW, hsame⟩ := X.leave (v := some (.int z)) (fun q => by rw [k.2.2.2.2.2.1, hret] at q; cases q)
  exact ⟨_, _, retOut X k.1 (t := .byte) (k.2.2.2.2.2.1.trans hret) hz (Or.inl ⟨rfl, Or.inr (Or.inr (Or.inl rfl)), _, rfl⟩) (hb k.2.2.1 hd) hr, hrun, hended, _, _, rfl, h, ⟨_, rfl⟩, hW, hsame.mono hc hs⟩
end Wk
def own_Str (Z : State) (h : Heap) (o b : Addr) (bs : List Int32) : Prop := Exa Z h o "java/lang/String" ∧ Fld Z h o "java/lang/String" "coder" "B" (.int (0 : Int32)) ∧ Fld Z h o "java/lang/String" "value" "[B" (.ref b) ∧ Wk.Arl Z h b .byte (bs.map Value.int)
theorem d_String_init4_0 : decode jdk_42_method_149_code 0 = .ok (.aload_n 0, 1) := by decide +kernel
theorem d_String_init4_1 : decode jdk_42_method_149_code 1 = .ok (.invokespecial 1, 3) := by decide +kernel
theorem d_String_init4_4 : decode jdk_42_method_149_code 4 = .ok (.iload_n 3, 1) := by decide +kernel
theorem d_String_init4_5 : decode jdk_42_method_149_code 5 = .ok (.ifCond .ne 22, 3) := by decide +kernel
theorem d_String_init4_8 : decode jdk_42_method_149_code 8 = .ok (.aload_n 0, 1) := by decide +kernel
theorem d_String_init4_9 : decode jdk_42_method_149_code 9 = .ok (.ldc 7, 2) := by decide +kernel
theorem d_String_init4_11 : decode jdk_42_method_149_code 11 = .ok (.getfield 9, 3) := by decide +kernel
theorem d_String_init4_14 : decode jdk_42_method_149_code 14 = .ok (.putfield 9, 3) := by decide +kernel
theorem d_String_init4_17 : decode jdk_42_method_149_code 17 = .ok (.aload_n 0, 1) := by decide +kernel
theorem d_String_init4_18 : decode jdk_42_method_149_code 18 = .ok (.ldc 7, 2) := by decide +kernel
theorem d_String_init4_20 : decode jdk_42_method_149_code 20 = .ok (.getfield 15, 3) := by decide +kernel
theorem d_String_init4_23 : decode jdk_42_method_149_code 23 = .ok (.putfield 15, 3) := by decide +kernel
theorem d_String_init4_26 : decode jdk_42_method_149_code 26 = .ok (.return_, 1) := by decide +kernel
theorem d_String_init4_27 : decode jdk_42_method_149_code 27 = .ok (.getstatic 38, 3) := by decide +kernel
theorem d_String_init4_30 : decode jdk_42_method_149_code 30 = .ok (.ifCond .eq 28, 3) := by decide +kernel
theorem d_String_init4_33 : decode jdk_42_method_149_code 33 = .ok (.aload_n 1, 1) := by decide +kernel
theorem d_String_init4_34 : decode jdk_42_method_149_code 34 = .ok (.iload_n 2, 1) := by decide +kernel
theorem d_String_init4_35 : decode jdk_42_method_149_code 35 = .ok (.iload_n 3, 1) := by decide +kernel
theorem d_String_init4_36 : decode jdk_42_method_149_code 36 = .ok (.invokestatic 177, 3) := by decide +kernel
theorem d_String_init4_39 : decode jdk_42_method_149_code 39 = .ok (.astore 5, 2) := by decide +kernel
theorem d_String_init4_41 : decode jdk_42_method_149_code 41 = .ok (.aload_n 0, 1) := by decide +kernel
theorem d_String_init4_42 : decode jdk_42_method_149_code 42 = .ok (.aload 5, 2) := by decide +kernel
theorem d_String_init4_44 : decode jdk_42_method_149_code 44 = .ok (.iload_n 3, 1) := by decide +kernel
theorem d_String_init4_45 : decode jdk_42_method_149_code 45 = .ok (.invokestatic 47, 3) := by decide +kernel
theorem d_String_init4_48 : decode jdk_42_method_149_code 48 = .ok (.putfield 15, 3) := by decide +kernel
theorem d_String_init4_51 : decode jdk_42_method_149_code 51 = .ok (.aload_n 0, 1) := by decide +kernel
theorem d_String_init4_52 : decode jdk_42_method_149_code 52 = .ok (.aload 5, 2) := by decide +kernel
theorem d_String_init4_54 : decode jdk_42_method_149_code 54 = .ok (.putfield 9, 3) := by decide +kernel
theorem d_String_init4_57 : decode jdk_42_method_149_code 57 = .ok (.return_, 1) := by decide +kernel
theorem pn_String_init4 : plainFor (⟨"java/lang/String", "<init>", "([CIILjava/lang/Void;)V"⟩ : MethodName) = true := plainFor_of_name (by first | (simp [plainName, overriddenIn, x]; done) | decide +kernel)
theorem pd_String_init4 : parseMethodDescriptor "([CIILjava/lang/Void;)V" = some ⟨[(.array .char), .int, .int, (.object "java/lang/Void")], none⟩ := by decide +kernel
theorem ef_i40 (m : MethodId) (o ca : Addr) : entryFrame m #[(.ref o), (.ref ca), (.int (0 : Int32)), (.int (0 : Int32)), .null] 6 = mkF m 0 #[.val (.ref o), .val (.ref ca), .val (.int (0 : Int32)), .val (.int (0 : Int32)), .val .null, .unset] [] := by first | (simp [entryFrame, mkF, argsToLocals, Value.category]; done) | rfl
set_option maxRecDepth 65536 in
set_option maxHeartbeats 40000000 in
theorem rm_i40 (l : Launch) (Z : State) (a0 : Array Value) (hw : ∀ d ∈ tables_1, d.before a0 Z = true) (o ca : Addr) (u1 u2 : Value) (h0 : Heap) (n0 : Nat) (Z0 : n0 ≤ h0.size)  (cz : Int32) (hcz : ¬ cz = 0) (S0 : Sta Z h0 "java/lang/String" "COMPACT_STRINGS" "Z" (.int cz)) (hoc : o ≠ ca) (g0 : n0 ≤ o) (E0 : Exa Z h0 o "java/lang/String") (F0 : Fld Z h0 o "java/lang/String" "value" "[B" u1) (F1 : Fld Z h0 o "java/lang/String" "coder" "B" u2) (A0 : Wk.Arl Z h0 ca .char (([] : List Int32).map Value.int)) : Wh.Met l (⟨"java/lang/String", "<init>", "([CIILjava/lang/Void;)V"⟩ : MethodName) jdk_42_method_149_code 6 none ({ frames := 2, cells := 2, slots := 4, locals := 35 } : Room) #[(.ref o), (.ref ca), (.int (0 : Int32)), (.int (0 : Int32)), .null] Z h0 (fun vm => CHv Z own_EL vm h0 ∧ Safe Z own_EL vm h0 o) (fun vmS r vmE h L => r = none ∧ Fr n0 L ∧ Keep h0 h [o] ∧ ∃ b : Addr, own_Str Z h o b ([] : List Int32) ∧ CHr Z own_EL vmS h0 vmE h) [] := by
  refine Wh.enter pn_String_init4 (fun p e s0 kz0 m below meth c T0 k X0 e0 S0' hk0 P0 => ?_)
  refine (Wh.Ends.cast (ef_i40 m o ca) ?_)
  refine Wh.aload_n k X0 d_String_init4_0 rfl rfl 1 rfl ?_
  refine Wh.initObj (W := 0) k X0 d_String_init4_1 (Wk.w hw 24 rfl) (Wk.w hw 25 rfl) (Wk.w hw 26 rfl) e0 rfl (Nat.le_of_ble_eq_true rfl) (Nat.le_of_ble_eq_true rfl) 4 rfl fun T1 X1 e1 => ?_
  refine Wh.iload_n k X1 d_String_init4_4 rfl 5 rfl ?_
  refine Wh.if_ne k X1 d_String_init4_5 (by decide) 27 8 (by decide) rfl (fun hz => by first | exact absurd hz (by decide) | exact absurd (by decide) hz) (fun _ => ?_)
  refine Wh.aload_n k X1 d_String_init4_8 rfl rfl 9 rfl ?_
  refine Wh.ldcH k X1 (EL := own_EL) (text := "") d_String_init4_9 (Wk.w hw 27 rfl) (own_wS hw) e1 S0' hk0 (own_EW hw) (List.mem_cons_self ..) P0.1 (vs := []) (z := 0) ⟨fun c hc => by simp at hc, rfl⟩ (by decide) rfl 0 (by decide) (by decide) (by decide) (by decide) 11 rfl fun sa sb vm2 kz2 T2 h2 kc2 kn2 X2 e2 E2 S2 hk2 EX2 FC2 FV2 AV2 CR LT SF => ?_
  have sz2 := Nat.le_trans Z0 E2.1
  have so := CR.safe E0.lt P0.2
  have nos := (SF o so).1
  have nob := (SF o so).2
  have K3 := (Keep.refl h0 [o]).ext E2
  have f4 := Exa.ext E2 E0
  have f5 := Fld.ext E2 F0
  have f6 := Fld.ext E2 F1
  have f7 := A0.ext E2
  have AB2 := own_arl0 AV2
  refine Wh.getfield kn2 X2 d_String_init4_11 (host := "") (Or.inl (Wk.w hw 33 rfl)) Via.refl e2 FV2 14 rfl fun T8 X8 e8 => ?_
  refine Wh.putfield kn2 X8 d_String_init4_14 (host := "") (Or.inl (Wk.w hw 33 rfl)) Via.refl e8 f5 f4 (Or.inr ⟨(Wk.w hw 29 rfl), rfl, rfl⟩) (Wk.w hw 14 rfl) (ty := (.array .byte)) (by decide) rfl rfl 17 rfl fun T9 h9 X9 e9 W9 => ?_
  have sz9 : n0 ≤ h9.size := by rw [W9.size]; exact sz2
  have N10 := Fr.snoc X9 (Fr.nil n0) g0
  have hk11 := Nat.le_trans hk2 (Nat.le_of_eq W9.size.symm)
  have K12 := K3.wr W9 (Or.inl (List.mem_of_getElem? (i := 0) rfl))
  have KB13 := (Keep.refl h2 [o]).wr W9 (Or.inl (List.mem_of_getElem? (i := 0) rfl))
  have f14 := Exa.wr W9 f4
  have f15 := Fld.other W9 f6 (Or.inr (slot_ne (Or.inr (Wk.w hw 30 rfl)) (Or.inr (Wk.w hw 29 rfl)) (by decide) (t := .byte) (t' := (.array .byte)) (by decide) (by decide)))
  have f16 := f7.other W9 (Ne.symm hoc)
  have f17 := Exa.wr W9 EX2
  have f18 := Fld.other W9 FC2 (Or.inl (Ne.symm nos))
  have f19 := Fld.other W9 FV2 (Or.inl (Ne.symm nos))
  have f20 := AB2.other W9 (Ne.symm nob)
  have f21 := Fld.same W9 f5
  refine Wh.aload_n kn2 X9 d_String_init4_17 rfl rfl 18 rfl ?_
  refine Wh.ldcA kn2 X9 (text := "") d_String_init4_18 (Wk.w hw 27 rfl) LT 20 rfl ?_
  refine Wh.getfield kn2 X9 d_String_init4_20 (host := "") (Or.inl (Wk.w hw 34 rfl)) Via.refl e9 f18 23 rfl fun T22 X22 e22 => ?_
  refine Wh.putfield kn2 X22 d_String_init4_23 (host := "") (Or.inl (Wk.w hw 34 rfl)) Via.refl e22 f15 f14 (Or.inr ⟨(Wk.w hw 30 rfl), rfl, rfl⟩) (Wk.w hw 14 rfl) (ty := .byte) (by decide) rfl rfl 26 rfl fun T23 h23 X23 e23 W23 => ?_
  have sz23 : n0 ≤ h23.size := by rw [W23.size]; exact sz9
  have N24 := Fr.snoc X23 N10 g0
  have hk25 := Nat.le_trans hk11 (Nat.le_of_eq W23.size.symm)
  have K26 := K12.wr W23 (Or.inl (List.mem_of_getElem? (i := 0) rfl))
  have KB27 := KB13.wr W23 (Or.inl (List.mem_of_getElem? (i := 0) rfl))
  have f28 := Exa.wr W23 f14
  have f29 := Fld.other W23 f21 (Or.inr (slot_ne (Or.inr (Wk.w hw 29 rfl)) (Or.inr (Wk.w hw 30 rfl)) (by decide) (t := (.array .byte)) (t' := .byte) (by decide) (by decide)))
  have f30 := f16.other W23 (Ne.symm hoc)
  have f31 := Exa.wr W23 f17
  have f32 := Fld.other W23 f18 (Or.inl (Ne.symm nos))
  have f33 := Fld.other W23 f19 (Or.inl (Ne.symm nos))
  have f34 := f20.other W23 (Ne.symm nob)
  have f35 := Fld.same W23 f15
  have C1 := CHr.keep KB27 (allS so all0) CR.1
  have C2 := CR.trans C1
  have C3 := C2.trans (CHv.at X23 kn2.2.1 (own_EW hw) C2.1)
  refine Wh.ret_void kn2 X23 S2 (Nat.le_trans hk25 (Nat.le_of_eq (congrArg (fun hh : Heap => hh.size) e23).symm)) rfl d_String_init4_26 (by decide) (by decide) ?_
  rw [e23]
  exact ⟨rfl, N24, K26, sb, ⟨f28, f35, f29, f34⟩, C3⟩
theorem d_String_init1_0 : decode jdk_42_method_3_code 0 = .ok (.aload_n 0, 1) := by decide +kernel
theorem d_String_init1_1 : decode jdk_42_method_3_code 1 = .ok (.aload_n 1, 1) := by decide +kernel
theorem d_String_init1_2 : decode jdk_42_method_3_code 2 = .ok (.iconst 0, 1) := by decide +kernel
theorem d_String_init1_3 : decode jdk_42_method_3_code 3 = .ok (.aload_n 1, 1) := by decide +kernel
theorem d_String_init1_4 : decode jdk_42_method_3_code 4 = .ok (.arraylength, 1) := by decide +kernel
theorem d_String_init1_5 : decode jdk_42_method_3_code 5 = .ok (.aconst_null, 1) := by decide +kernel
theorem d_String_init1_6 : decode jdk_42_method_3_code 6 = .ok (.invokespecial 27, 3) := by decide +kernel
theorem d_String_init1_9 : decode jdk_42_method_3_code 9 = .ok (.return_, 1) := by decide +kernel
theorem pn_String_init1 : plainFor (⟨"java/lang/String", "<init>", "([C)V"⟩ : MethodName) = true := plainFor_of_name (by first | (simp [plainName, overriddenIn, x]; done) | decide +kernel)
theorem pd_String_init1 : parseMethodDescriptor "([C)V" = some ⟨[(.array .char)], none⟩ := by decide +kernel
theorem ef_i10 (m : MethodId) (o ca : Addr) : entryFrame m #[(.ref o), (.ref ca)] 2 = mkF m 0 #[.val (.ref o), .val (.ref ca)] [] := by first | (simp [entryFrame, mkF, argsToLocals, Value.category]; done) | rfl
set_option maxRecDepth 65536 in
set_option maxHeartbeats 40000000 in
theorem rm_i10 (l : Launch) (Z : State) (a0 : Array Value) (hw : ∀ d ∈ tables_1, d.before a0 Z = true) (o ca : Addr) (u1 u2 : Value) (h0 : Heap) (n0 : Nat) (Z0 : n0 ≤ h0.size)  (cz : Int32) (hcz : ¬ cz = 0) (S0 : Sta Z h0 "java/lang/String" "COMPACT_STRINGS" "Z" (.int cz)) (hoc : o ≠ ca) (g0 : n0 ≤ o) (E0 : Exa Z h0 o "java/lang/String") (F0 : Fld Z h0 o "java/lang/String" "value" "[B" u1) (F1 : Fld Z h0 o "java/lang/String" "coder" "B" u2) (A0 : Wk.Arl Z h0 ca .char (([] : List Int32).map Value.int)) : Wh.Met l (⟨"java/lang/String", "<init>", "([C)V"⟩ : MethodName) jdk_42_method_3_code 2 none ({ frames := 3, cells := 2, slots := 4, locals := 52 } : Room) #[(.ref o), (.ref ca)] Z h0 (fun vm => CHv Z own_EL vm h0 ∧ Safe Z own_EL vm h0 o) (fun vmS r vmE h L => r = none ∧ Fr n0 L ∧ Keep h0 h [o] ∧ ∃ b : Addr, own_Str Z h o b ([] : List Int32) ∧ CHr Z own_EL vmS h0 vmE h) [] := by
  refine Wh.enter pn_String_init1 (fun p e s0 kz0 m below meth c T0 k X0 e0 S0' hk0 P0 => ?_)
  refine (Wh.Ends.cast (ef_i10 m o ca) ?_)
  refine Wh.aload_n k X0 d_String_init1_0 rfl rfl 1 rfl ?_
  refine Wh.aload_n k X0 d_String_init1_1 rfl rfl 2 rfl ?_
  refine Wh.iconst k X0 d_String_init1_2 (0 : Int32) rfl 3 rfl ?_
  refine Wh.aload_n k X0 d_String_init1_3 rfl rfl 4 rfl ?_
  refine Wh.arraylength k X0 d_String_init1_4 e0 A0 (0 : Int32) rfl 5 rfl ?_
  refine Wh.aconst_null k X0 d_String_init1_5 6 rfl ?_
  refine Wh.callIH k X0 (PP := (fun vm => CHr Z own_EL s0.vm h0 vm h0)) [(.ref ca), (.int (0 : Int32)), (.int (0 : Int32)), .null] [] d_String_init1_6 (rm_i40 l Z a0 hw o ca  _ _ h0 n0 Z0  cz hcz S0 hoc g0 E0 F0 F1 A0) e0 S0' hk0 (fun _ _ _ _ _ _ _ Y => CHv.at Y k.2.1 (own_EW hw) P0.1) (fun vm P => ⟨P.1, P.safe E0.lt P0.2⟩) rfl (Wk.w hw 20 rfl) (Wk.w hw 21 rfl) (Wk.w hw 15 rfl) (Wk.w hw 23 rfl) (by decide) rfl pd_String_init4 rfl rfl (Nat.le_of_ble_eq_true rfl) (Nat.le_of_ble_eq_true rfl) (Nat.le_of_ble_eq_true rfl) (Nat.le_of_ble_eq_true rfl) 9 rfl fun vp1 vm1 kz1 T1 v1 L1 PP1 kn1 X1 S1 hk1 hQ1 => ?_
  obtain ⟨rfl, N1, K1, bb, SS1, CR⟩ := hQ1
  show Wh.Ends _ _ _ _ _ _ _ (mkF m 9 _ [])
  have C2 := PP1.trans CR
  have C3 := C2.trans (CHv.at X1 kn1.2.1 (own_EW hw) C2.1)
  refine Wh.ret_void kn1 X1 S1 (Nat.le_trans hk1 (Nat.le_of_eq (congrArg (fun hh : Heap => hh.size) (rfl : T1.heap = T1.heap)).symm)) rfl d_String_init1_9 (by decide) (by decide) ?_
  exact ⟨rfl, N1, K1, bb, SS1, C3⟩
theorem d_TokenIsPinLaw_str_0 : decode method_3_code 0 = .ok (.iload_n 0, 1) := by decide +kernel
theorem d_TokenIsPinLaw_str_1 : decode method_3_code 1 = .ok (.ifCond .ne 14, 3) := by decide +kernel
theorem d_TokenIsPinLaw_str_4 : decode method_3_code 4 = .ok (.new 26, 3) := by decide +kernel
theorem d_TokenIsPinLaw_str_7 : decode method_3_code 7 = .ok (.dup, 1) := by decide +kernel
theorem d_TokenIsPinLaw_str_8 : decode method_3_code 8 = .ok (.iconst 0, 1) := by decide +kernel
theorem d_TokenIsPinLaw_str_9 : decode method_3_code 9 = .ok (.newarray .char, 2) := by decide +kernel
theorem d_TokenIsPinLaw_str_11 : decode method_3_code 11 = .ok (.invokespecial 28, 3) := by decide +kernel
theorem d_TokenIsPinLaw_str_14 : decode method_3_code 14 = .ok (.areturn, 1) := by decide +kernel
theorem d_TokenIsPinLaw_str_15 : decode method_3_code 15 = .ok (.iload_n 0, 1) := by decide +kernel
theorem d_TokenIsPinLaw_str_16 : decode method_3_code 16 = .ok (.iconst 1, 1) := by decide +kernel
theorem d_TokenIsPinLaw_str_17 : decode method_3_code 17 = .ok (.if_icmp .ne 18, 3) := by decide +kernel
theorem d_TokenIsPinLaw_str_20 : decode method_3_code 20 = .ok (.new 26, 3) := by decide +kernel
theorem d_TokenIsPinLaw_str_23 : decode method_3_code 23 = .ok (.dup, 1) := by decide +kernel
theorem d_TokenIsPinLaw_str_24 : decode method_3_code 24 = .ok (.iconst 1, 1) := by decide +kernel
theorem d_TokenIsPinLaw_str_25 : decode method_3_code 25 = .ok (.newarray .char, 2) := by decide +kernel
theorem d_TokenIsPinLaw_str_27 : decode method_3_code 27 = .ok (.dup, 1) := by decide +kernel
theorem d_TokenIsPinLaw_str_28 : decode method_3_code 28 = .ok (.iconst 0, 1) := by decide +kernel
theorem d_TokenIsPinLaw_str_29 : decode method_3_code 29 = .ok (.iload_n 1, 1) := by decide +kernel
theorem d_TokenIsPinLaw_str_30 : decode method_3_code 30 = .ok (.castore, 1) := by decide +kernel
theorem d_TokenIsPinLaw_str_31 : decode method_3_code 31 = .ok (.invokespecial 28, 3) := by decide +kernel
theorem d_TokenIsPinLaw_str_34 : decode method_3_code 34 = .ok (.areturn, 1) := by decide +kernel
theorem d_TokenIsPinLaw_str_35 : decode method_3_code 35 = .ok (.new 26, 3) := by decide +kernel
theorem d_TokenIsPinLaw_str_38 : decode method_3_code 38 = .ok (.dup, 1) := by decide +kernel
theorem d_TokenIsPinLaw_str_39 : decode method_3_code 39 = .ok (.iconst 2, 1) := by decide +kernel
theorem d_TokenIsPinLaw_str_40 : decode method_3_code 40 = .ok (.newarray .char, 2) := by decide +kernel
theorem d_TokenIsPinLaw_str_42 : decode method_3_code 42 = .ok (.dup, 1) := by decide +kernel
theorem d_TokenIsPinLaw_str_43 : decode method_3_code 43 = .ok (.iconst 0, 1) := by decide +kernel
theorem d_TokenIsPinLaw_str_44 : decode method_3_code 44 = .ok (.iload_n 1, 1) := by decide +kernel
theorem d_TokenIsPinLaw_str_45 : decode method_3_code 45 = .ok (.castore, 1) := by decide +kernel
theorem d_TokenIsPinLaw_str_46 : decode method_3_code 46 = .ok (.dup, 1) := by decide +kernel
theorem d_TokenIsPinLaw_str_47 : decode method_3_code 47 = .ok (.iconst 1, 1) := by decide +kernel
theorem d_TokenIsPinLaw_str_48 : decode method_3_code 48 = .ok (.iload_n 2, 1) := by decide +kernel
theorem d_TokenIsPinLaw_str_49 : decode method_3_code 49 = .ok (.castore, 1) := by decide +kernel
theorem d_TokenIsPinLaw_str_50 : decode method_3_code 50 = .ok (.invokespecial 28, 3) := by decide +kernel
theorem d_TokenIsPinLaw_str_53 : decode method_3_code 53 = .ok (.areturn, 1) := by decide +kernel
theorem pn_TokenIsPinLaw_str : plainFor (⟨"com/example/acomp/acomp/TokenIsPinLaw", "str", "(ICC)Ljava/lang/String;"⟩ : MethodName) = true := plainFor_of_name (by first | (simp [plainName, overriddenIn, x]; done) | decide +kernel)
theorem pd_TokenIsPinLaw_str : parseMethodDescriptor "(ICC)Ljava/lang/String;" = some ⟨[.int, .char, .char], (some (.object "java/lang/String"))⟩ := by decide +kernel
theorem ef_st0 (m : MethodId) (x0 x1 : Int32) : entryFrame m #[(.int (0 : Int32)), (.int x0), (.int x1)] 3 = mkF m 0 #[.val (.int (0 : Int32)), .val (.int x0), .val (.int x1)] [] := by first | (simp [entryFrame, mkF, argsToLocals, Value.category]; done) | rfl
set_option maxRecDepth 65536 in
set_option maxHeartbeats 40000000 in
theorem rm_st0 (l : Launch) (Z : State) (a0 : Array Value) (hw : ∀ d ∈ tables_1, d.before a0 Z = true) (x0 x1 : Int32)  (h0 : Heap) (n0 : Nat) (Z0 : n0 ≤ h0.size) (cz : Int32) (hcz : ¬ cz = 0) (O0 : Old Z n0 h0) (S0 : Sta Z Z.heap "java/lang/String" "COMPACT_STRINGS" "Z" (.int cz)) : Wh.Met l (⟨"com/example/acomp/acomp/TokenIsPinLaw", "str", "(ICC)Ljava/lang/String;"⟩ : MethodName) method_3_code 3 (some (.object "java/lang/String")) ({ frames := 4, cells := 4, slots := 10, locals := 66 } : Room) #[(.int (0 : Int32)), (.int x0), (.int x1)] Z h0 (fun vm => CHv Z own_EL vm h0) (fun vmS r vmE h L => ∃ o b : Addr, r = some (.ref o) ∧ h0.size ≤ o ∧ Fr n0 L ∧ Keep h0 h [] ∧ own_Str Z h o b ([] : List Int32) ∧ CHr Z own_EL vmS h0 vmE h) [] := by
  refine Wh.enter pn_TokenIsPinLaw_str (fun p e s0 kz0 m below meth c T0 k X0 e0 S0' hk0 P0 => ?_)
  refine (Wh.Ends.cast (ef_st0 m x0 x1) ?_)
  refine Wh.iload_n k X0 d_TokenIsPinLaw_str_0 rfl 1 rfl ?_
  refine Wh.if_ne k X0 d_TokenIsPinLaw_str_1 (by decide) 15 4 (by decide) rfl (fun hz => by first | exact absurd hz (by decide) | exact absurd (by decide) hz) (fun _ => ?_)
  refine Wh.new k X0 d_TokenIsPinLaw_str_4 (Wk.w hw 13 rfl) (Wk.w hw 14 rfl) (Wk.w hw 15 rfl) e0 (by decide) (by decide) 7 rfl fun T1 h1 o q1 X1 e1 E1 A1 D1 => ?_
  have g1 : n0 ≤ o := by rw [q1]; exact Z0
  have hs2 : h0.size ≤ o := by rw [q1]; exact (Keep.refl h0 []).1
  have sz1 := Nat.le_trans Z0 E1.1
  have hk3 := Nat.le_trans hk0 E1.1
  have K4 := (Keep.refl h0 []).ext E1
  have f5 : Fld Z h1 o "java/lang/String" "value" "[B" .null := D1 (Or.inr (Wk.w hw 29 rfl)) (ty := (.array .byte)) (by decide)
  have f6 : Fld Z h1 o "java/lang/String" "coder" "B" (.int (0 : Int32)) := D1 (Or.inr (Wk.w hw 30 rfl)) (ty := .byte) (by decide)
  refine Wh.dup k X1 d_TokenIsPinLaw_str_7 rfl 8 rfl ?_
  refine Wh.iconst k X1 d_TokenIsPinLaw_str_8 (0 : Int32) rfl 9 rfl ?_
  refine Wh.newarray k X1 d_TokenIsPinLaw_str_9 (Wk.w hw 16 rfl) e1 0 rfl 0 (by decide) (by decide) (by decide) (by decide) 11 rfl fun T7 h7 ca q7 X7 e7 E7 A7 => ?_
  have g7 : n0 ≤ ca := by rw [q7]; exact sz1
  have hs8 : h0.size ≤ ca := by rw [q7]; exact K4.1
  have ne9 : o ≠ ca := by rw [q7]; exact Nat.ne_of_lt A1.lt
  have sz7 := Nat.le_trans sz1 E7.1
  have hk10 := Nat.le_trans hk3 E7.1
  have K11 := K4.ext E7
  have f12 := Exa.ext E7 A1
  have f13 := Fld.ext E7 f5
  have f14 := Fld.ext E7 f6
  have A7' : Wk.Arl Z h7 ca .char (([] : List Int32).map Value.int) := A7
  have H1 := CHr.keep K11 (fun x hx => absurd hx (List.not_mem_nil)) P0
  have SO := Safe.keep K11 (fun x hx => absurd hx (List.not_mem_nil)) P0 (Safe.new (x := o) hs2)
  refine Wh.callIH k X7 (PP := (fun vm => CHr Z own_EL s0.vm h7 vm h7)) [(.ref ca)] [(.ref o)] d_TokenIsPinLaw_str_11 (rm_i10 l Z a0 hw o ca  _ _ h7 n0 sz7  cz hcz (Sta.ext (O0.keep K11 all0).2 S0) ne9 g1 f12 f13 f14 A7') e7 S0' hk10 (fun _ _ _ _ _ _ _ Y => CHv.at Y k.2.1 (own_EW hw) H1.1) (fun vm P => ⟨P.1, P.safe f12.lt SO⟩) rfl (Wk.w hw 17 rfl) (Wk.w hw 18 rfl) (Wk.w hw 15 rfl) (Wk.w hw 19 rfl) (by decide) rfl pd_String_init1 rfl rfl (Nat.le_of_ble_eq_true rfl) (Nat.le_of_ble_eq_true rfl) (Nat.le_of_ble_eq_true rfl) (Nat.le_of_ble_eq_true rfl) 14 rfl fun vp15 vm15 kz15 T15 v15 L15 PP15 kn15 X15 S15 hk15 hQ15 => ?_
  obtain ⟨rfl, N15q, K15q, bb, SS15, CR⟩ := hQ15
  show Wh.Ends _ _ _ _ _ _ _ (mkF m 14 _ [(.ref o)])
  have N15 := Fr.app (Fr.nil n0) N15q
  have K15 := K11.trans K15q (allS (Or.inr hs2) all0)
  have C2 := H1.trans (PP15.trans CR)
  have C3 := C2.trans (CHv.at X15 kn15.2.1 (own_EW hw) C2.1)
  refine Wh.ret_ref kn15 X15 S15 (Nat.le_trans hk15 (Nat.le_of_eq (congrArg (fun hh : Heap => hh.size) (rfl : T15.heap = T15.heap)).symm)) (t := (.object "java/lang/String")) rfl rfl rfl rfl d_TokenIsPinLaw_str_14 (by decide) (by decide) ?_
  exact ⟨o, bb, rfl, hs2, N15, K15, SS15, C3⟩
theorem d_StringUTF16_coderFromArrayLen_0 : decode jdk_52_method_15_code 0 = .ok (.iload_n 1, 1) := by decide +kernel
theorem d_StringUTF16_coderFromArrayLen_1 : decode jdk_52_method_15_code 1 = .ok (.aload_n 0, 1) := by decide +kernel
theorem d_StringUTF16_coderFromArrayLen_2 : decode jdk_52_method_15_code 2 = .ok (.arraylength, 1) := by decide +kernel
theorem d_StringUTF16_coderFromArrayLen_3 : decode jdk_52_method_15_code 3 = .ok (.isub, 1) := by decide +kernel
theorem d_StringUTF16_coderFromArrayLen_4 : decode jdk_52_method_15_code 4 = .ok (.bipush 31, 2) := by decide +kernel
theorem d_StringUTF16_coderFromArrayLen_6 : decode jdk_52_method_15_code 6 = .ok (.iushr, 1) := by decide +kernel
theorem d_StringUTF16_coderFromArrayLen_7 : decode jdk_52_method_15_code 7 = .ok (.i2b, 1) := by decide +kernel
theorem d_StringUTF16_coderFromArrayLen_8 : decode jdk_52_method_15_code 8 = .ok (.ireturn, 1) := by decide +kernel
theorem pn_StringUTF16_coderFromArrayLen : plainFor (⟨"java/lang/StringUTF16", "coderFromArrayLen", "([BI)B"⟩ : MethodName) = true := plainFor_of_name (by first | (simp [plainName, overriddenIn, x]; done) | decide +kernel)
theorem pd_StringUTF16_coderFromArrayLen : parseMethodDescriptor "([BI)B" = some ⟨[(.array .byte), .int], (some .byte)⟩ := by decide +kernel
theorem ef_cf1 (m : MethodId) (ba : Addr) : entryFrame m #[(.ref ba), (.int (1 : Int32))] 2 = mkF m 0 #[.val (.ref ba), .val (.int (1 : Int32))] [] := by first | (simp [entryFrame, mkF, argsToLocals, Value.category]; done) | rfl
set_option maxRecDepth 65536 in
set_option maxHeartbeats 40000000 in
theorem rm_cf1 (l : Launch) (Z : State) (a0 : Array Value) (hw : ∀ d ∈ tables_1, d.before a0 Z = true) (ba : Addr) (ys : List Int32) (h0 : Heap) (hys : ys.length = 1) (A0 : Wk.Arl Z h0 ba .byte (ys.map Value.int)) : Wk.Met l (⟨"java/lang/StringUTF16", "coderFromArrayLen", "([BI)B"⟩ : MethodName) jdk_52_method_15_code 2 (some .byte) ({ frames := 0, cells := 0, slots := 0, locals := 0 } : Room) #[(.ref ba), (.int (1 : Int32))] Z h0 (fun r h L => r = some (.int (0 : Int32)) ∧ h = h0 ∧ L = []) [] := by
  refine Wk.enter pn_StringUTF16_coderFromArrayLen (fun p e s m below meth c T0 k X0 e0 => ?_)
  refine (Wk.Ends.cast (ef_cf1 m ba) ?_)
  refine Wk.iload_n k X0 d_StringUTF16_coderFromArrayLen_0 rfl 1 rfl ?_
  refine Wk.aload_n k X0 d_StringUTF16_coderFromArrayLen_1 rfl rfl 2 rfl ?_
  refine Wk.arraylength k X0 d_StringUTF16_coderFromArrayLen_2 e0 A0 (1 : Int32) (by rw [List.length_map, hys]; rfl) 3 rfl ?_
  refine Wk.isub k X0 d_StringUTF16_coderFromArrayLen_3 4 rfl ?_
  refine Wk.bipush k X0 d_StringUTF16_coderFromArrayLen_4 (31 : Int32) rfl 6 rfl ?_
  refine Wk.iushr k X0 d_StringUTF16_coderFromArrayLen_6 7 rfl ?_
  refine Wk.i2b k X0 d_StringUTF16_coderFromArrayLen_7 8 rfl ?_
  show Wk.Ends _ _ _ _ _ _ _ (mkF m 8 _ [.int (0 : Int32)])
  exact Wk.ret_byte k X0 rfl d_StringUTF16_coderFromArrayLen_8 (by decide) (by decide) rfl ⟨rfl, e0, rfl⟩
theorem d_StringUTF16_compress5_0 : decode jdk_52_method_21_code 0 = .ok (.iconst 0, 1) := by decide +kernel
theorem d_StringUTF16_compress5_1 : decode jdk_52_method_21_code 1 = .ok (.istore 5, 2) := by decide +kernel
theorem d_StringUTF16_compress5_3 : decode jdk_52_method_21_code 3 = .ok (.iload 5, 2) := by decide +kernel
theorem d_StringUTF16_compress5_5 : decode jdk_52_method_21_code 5 = .ok (.iload 4, 2) := by decide +kernel
theorem d_StringUTF16_compress5_7 : decode jdk_52_method_21_code 7 = .ok (.if_icmp .ge 37, 3) := by decide +kernel
theorem d_StringUTF16_compress5_10 : decode jdk_52_method_21_code 10 = .ok (.aload_n 0, 1) := by decide +kernel
theorem d_StringUTF16_compress5_11 : decode jdk_52_method_21_code 11 = .ok (.iload_n 1, 1) := by decide +kernel
theorem d_StringUTF16_compress5_12 : decode jdk_52_method_21_code 12 = .ok (.caload, 1) := by decide +kernel
theorem d_StringUTF16_compress5_13 : decode jdk_52_method_21_code 13 = .ok (.istore 6, 2) := by decide +kernel
theorem d_StringUTF16_compress5_15 : decode jdk_52_method_21_code 15 = .ok (.iload 6, 2) := by decide +kernel
theorem d_StringUTF16_compress5_17 : decode jdk_52_method_21_code 17 = .ok (.sipush 255, 3) := by decide +kernel
theorem d_StringUTF16_compress5_20 : decode jdk_52_method_21_code 20 = .ok (.if_icmp .le 6, 3) := by decide +kernel
theorem d_StringUTF16_compress5_26 : decode jdk_52_method_21_code 26 = .ok (.aload_n 2, 1) := by decide +kernel
theorem d_StringUTF16_compress5_27 : decode jdk_52_method_21_code 27 = .ok (.iload_n 3, 1) := by decide +kernel
theorem d_StringUTF16_compress5_28 : decode jdk_52_method_21_code 28 = .ok (.iload 6, 2) := by decide +kernel
theorem d_StringUTF16_compress5_30 : decode jdk_52_method_21_code 30 = .ok (.i2b, 1) := by decide +kernel
theorem d_StringUTF16_compress5_31 : decode jdk_52_method_21_code 31 = .ok (.bastore, 1) := by decide +kernel
theorem d_StringUTF16_compress5_32 : decode jdk_52_method_21_code 32 = .ok (.iinc 1 1, 3) := by decide +kernel
theorem d_StringUTF16_compress5_35 : decode jdk_52_method_21_code 35 = .ok (.iinc 3 1, 3) := by decide +kernel
theorem d_StringUTF16_compress5_38 : decode jdk_52_method_21_code 38 = .ok (.iinc 5 1, 3) := by decide +kernel
theorem d_StringUTF16_compress5_41 : decode jdk_52_method_21_code 41 = .ok (.goto (-38), 3) := by decide +kernel
theorem d_StringUTF16_compress5_44 : decode jdk_52_method_21_code 44 = .ok (.iload 4, 2) := by decide +kernel
theorem d_StringUTF16_compress5_46 : decode jdk_52_method_21_code 46 = .ok (.ireturn, 1) := by decide +kernel
theorem pn_StringUTF16_compress5 : plainFor (⟨"java/lang/StringUTF16", "compress", "([CI[BII)I"⟩ : MethodName) = true := plainFor_of_name (by first | (simp [plainName, overriddenIn, x]; done) | decide +kernel)
theorem pd_StringUTF16_compress5 : parseMethodDescriptor "([CI[BII)I" = some ⟨[(.array .char), .int, (.array .byte), .int, .int], (some .int)⟩ := by decide +kernel
theorem ef_c51 (m : MethodId) (ca ba : Addr) : entryFrame m #[(.ref ca), (.int (0 : Int32)), (.ref ba), (.int (0 : Int32)), (.int (1 : Int32))] 7 = mkF m 0 #[.val (.ref ca), .val (.int (0 : Int32)), .val (.ref ba), .val (.int (0 : Int32)), .val (.int (1 : Int32)), .unset, .unset] [] := by first | (simp [entryFrame, mkF, argsToLocals, Value.category]; done) | rfl
set_option maxRecDepth 65536 in
set_option maxHeartbeats 40000000 in
theorem rm_c51 (l : Launch) (Z : State) (a0 : Array Value) (hw : ∀ d ∈ tables_1, d.before a0 Z = true) (ca ba : Addr) (x0 : Int32) (h0 : Heap) (n0 : Nat) (hx0 : 0 ≤ x0.toInt ∧ x0.toInt ≤ 255) (hne : ca ≠ ba) (g1 : n0 ≤ ba) (A0 : Wk.Arl Z h0 ca .char (([x0] : List Int32).map Value.int)) (A1 : Wk.Arl Z h0 ba .byte (([0] : List Int32).map Value.int)) : Wk.Met l (⟨"java/lang/StringUTF16", "compress", "([CI[BII)I"⟩ : MethodName) jdk_52_method_21_code 7 (some .int) ({ frames := 0, cells := 0, slots := 0, locals := 0 } : Room) #[(.ref ca), (.int (0 : Int32)), (.ref ba), (.int (0 : Int32)), (.int (1 : Int32))] Z h0 (fun r h L => r = some (.int (1 : Int32)) ∧ Fr n0 L ∧ Keep h0 h [ba] ∧ Wk.Arl Z h ba .byte (([(x0).toInt8.toInt32] : List Int32).map Value.int)) [] := by
  refine Wk.enter pn_StringUTF16_compress5 (fun p e s m below meth c T0 k X0 e0 => ?_)
  refine (Wk.Ends.cast (ef_c51 m ca ba) ?_)
  refine Wk.iconst k X0 d_StringUTF16_compress5_0 (0 : Int32) rfl 1 rfl ?_
  refine Wk.istore k X0 d_StringUTF16_compress5_1 #[.val (.ref ca), .val (.int (0 : Int32)), .val (.ref ba), .val (.int (0 : Int32)), .val (.int (1 : Int32)), .val (.int (0 : Int32)), .unset] rfl 3 rfl ?_
  refine Wk.iload k X0 d_StringUTF16_compress5_3 rfl 5 rfl ?_
  refine Wk.iload k X0 d_StringUTF16_compress5_5 rfl 7 rfl ?_
  refine Wk.icmp_ge k X0 d_StringUTF16_compress5_7 (by decide) 44 10 (by decide) rfl (fun hz => by first | exact absurd hz (by decide) | exact absurd (by decide) hz) (fun _ => ?_)
  refine Wk.aload_n k X0 d_StringUTF16_compress5_10 rfl rfl 11 rfl ?_
  refine Wk.iload_n k X0 d_StringUTF16_compress5_11 rfl 12 rfl ?_
  refine Wk.caload k X0 d_StringUTF16_compress5_12 e0 A0 0 rfl x0 rfl 13 rfl ?_
  refine Wk.istore k X0 d_StringUTF16_compress5_13 #[.val (.ref ca), .val (.int (0 : Int32)), .val (.ref ba), .val (.int (0 : Int32)), .val (.int (1 : Int32)), .val (.int (0 : Int32)), .val (.int x0)] rfl 15 rfl ?_
  refine Wk.iload k X0 d_StringUTF16_compress5_15 rfl 17 rfl ?_
  refine Wk.sipush k X0 d_StringUTF16_compress5_17 (255 : Int32) rfl 20 rfl ?_
  refine Wk.icmp_le k X0 d_StringUTF16_compress5_20 (by decide) 26 23 (by decide) rfl (fun _ => ?_) (fun hz => absurd hz (own_le hx0))
  refine Wk.aload_n k X0 d_StringUTF16_compress5_26 rfl rfl 27 rfl ?_
  refine Wk.iload_n k X0 d_StringUTF16_compress5_27 rfl 28 rfl ?_
  refine Wk.iload k X0 d_StringUTF16_compress5_28 rfl 30 rfl ?_
  refine Wk.i2b k X0 d_StringUTF16_compress5_30 31 rfl ?_
  refine Wk.bastore k X0 (x := ((x0).toInt8.toInt32)) d_StringUTF16_compress5_31 e0 A1 0 rfl (show 0 < 1 from by decide) ((x0).toInt8.toInt32) (own_b8 _) 32 rfl fun T1 h1 X1 e1 W1 A1 => ?_
  have N2 := Fr.snoc X1 (Fr.nil n0) g1
  have K3 := (Keep.refl h0 [ba]).wr W1 (Or.inl (List.mem_of_getElem? (i := 0) rfl))
  have f4 := A0.other W1 hne
  have A1' : Wk.Arl Z h1 ba .byte (([((x0).toInt8.toInt32)] : List Int32).map Value.int) := A1
  refine Wk.iinc k X1 d_StringUTF16_compress5_32 rfl #[.val (.ref ca), .val (.int (1 : Int32)), .val (.ref ba), .val (.int (0 : Int32)), .val (.int (1 : Int32)), .val (.int (0 : Int32)), .val (.int x0)] rfl 35 rfl ?_
  refine Wk.iinc k X1 d_StringUTF16_compress5_35 rfl #[.val (.ref ca), .val (.int (1 : Int32)), .val (.ref ba), .val (.int (1 : Int32)), .val (.int (1 : Int32)), .val (.int (0 : Int32)), .val (.int x0)] rfl 38 rfl ?_
  refine Wk.iinc k X1 d_StringUTF16_compress5_38 rfl #[.val (.ref ca), .val (.int (1 : Int32)), .val (.ref ba), .val (.int (1 : Int32)), .val (.int (1 : Int32)), .val (.int (1 : Int32)), .val (.int x0)] rfl 41 rfl ?_
  refine Wk.goto k X1 d_StringUTF16_compress5_41 (by decide) 3 (by decide) ?_
  refine Wk.iload k X1 d_StringUTF16_compress5_3 rfl 5 rfl ?_
  refine Wk.iload k X1 d_StringUTF16_compress5_5 rfl 7 rfl ?_
  refine Wk.icmp_ge k X1 d_StringUTF16_compress5_7 (by decide) 44 10 (by decide) rfl (fun _ => ?_) (fun hz => by first | exact absurd hz (by decide) | exact absurd (by decide) hz)
  refine Wk.iload k X1 d_StringUTF16_compress5_44 rfl 46 rfl ?_
  refine Wk.ret_int k X1 rfl d_StringUTF16_compress5_46 (by decide) (by decide) ?_
  rw [e1]
  exact ⟨rfl, N2, K3, A1'⟩
theorem d_StringUTF16_compress3_0 : decode jdk_52_method_16_code 0 = .ok (.iload_n 2, 1) := by decide +kernel
theorem d_StringUTF16_compress3_1 : decode jdk_52_method_16_code 1 = .ok (.newarray .byte, 2) := by decide +kernel
theorem d_StringUTF16_compress3_3 : decode jdk_52_method_16_code 3 = .ok (.astore_n 3, 1) := by decide +kernel
theorem d_StringUTF16_compress3_4 : decode jdk_52_method_16_code 4 = .ok (.aload_n 0, 1) := by decide +kernel
theorem d_StringUTF16_compress3_5 : decode jdk_52_method_16_code 5 = .ok (.iload_n 1, 1) := by decide +kernel
theorem d_StringUTF16_compress3_6 : decode jdk_52_method_16_code 6 = .ok (.aload_n 3, 1) := by decide +kernel
theorem d_StringUTF16_compress3_7 : decode jdk_52_method_16_code 7 = .ok (.iconst 0, 1) := by decide +kernel
theorem d_StringUTF16_compress3_8 : decode jdk_52_method_16_code 8 = .ok (.iload_n 2, 1) := by decide +kernel
theorem d_StringUTF16_compress3_9 : decode jdk_52_method_16_code 9 = .ok (.invokestatic 115, 3) := by decide +kernel
theorem d_StringUTF16_compress3_12 : decode jdk_52_method_16_code 12 = .ok (.istore 4, 2) := by decide +kernel
theorem d_StringUTF16_compress3_14 : decode jdk_52_method_16_code 14 = .ok (.iload 4, 2) := by decide +kernel
theorem d_StringUTF16_compress3_16 : decode jdk_52_method_16_code 16 = .ok (.iload_n 2, 1) := by decide +kernel
theorem d_StringUTF16_compress3_17 : decode jdk_52_method_16_code 17 = .ok (.if_icmp .eq 40, 3) := by decide +kernel
theorem d_StringUTF16_compress3_57 : decode jdk_52_method_16_code 57 = .ok (.aload_n 3, 1) := by decide +kernel
theorem d_StringUTF16_compress3_58 : decode jdk_52_method_16_code 58 = .ok (.areturn, 1) := by decide +kernel
theorem pn_StringUTF16_compress3 : plainFor (⟨"java/lang/StringUTF16", "compress", "([CII)[B"⟩ : MethodName) = true := plainFor_of_name (by first | (simp [plainName, overriddenIn, x]; done) | decide +kernel)
theorem pd_StringUTF16_compress3 : parseMethodDescriptor "([CII)[B" = some ⟨[(.array .char), .int, .int], (some (.array .byte))⟩ := by decide +kernel
theorem ef_c31 (m : MethodId) (ca : Addr) : entryFrame m #[(.ref ca), (.int (0 : Int32)), (.int (1 : Int32))] 6 = mkF m 0 #[.val (.ref ca), .val (.int (0 : Int32)), .val (.int (1 : Int32)), .unset, .unset, .unset] [] := by first | (simp [entryFrame, mkF, argsToLocals, Value.category]; done) | rfl
set_option maxRecDepth 65536 in
set_option maxHeartbeats 40000000 in
theorem rm_c31 (l : Launch) (Z : State) (a0 : Array Value) (hw : ∀ d ∈ tables_1, d.before a0 Z = true) (ca : Addr) (x0 : Int32) (h0 : Heap) (n0 : Nat) (Z0 : n0 ≤ h0.size) (hx0 : 0 ≤ x0.toInt ∧ x0.toInt ≤ 255) (A0 : Wk.Arl Z h0 ca .char (([x0] : List Int32).map Value.int)) : Wk.Met l (⟨"java/lang/StringUTF16", "compress", "([CII)[B"⟩ : MethodName) jdk_52_method_16_code 6 (some (.array .byte)) ({ frames := 1, cells := 1, slots := 1, locals := 18 } : Room) #[(.ref ca), (.int (0 : Int32)), (.int (1 : Int32))] Z h0 (fun r h L => ∃ ba : Addr, r = some (.ref ba) ∧ Fr n0 L ∧ Keep h0 h [] ∧ h0.size ≤ ba ∧ n0 ≤ ba ∧ Wk.Arl Z h ba .byte (([(x0).toInt8.toInt32] : List Int32).map Value.int)) [] := by
  refine Wk.enter pn_StringUTF16_compress3 (fun p e s m below meth c T0 k X0 e0 => ?_)
  refine (Wk.Ends.cast (ef_c31 m ca) ?_)
  refine Wk.iload_n k X0 d_StringUTF16_compress3_0 rfl 1 rfl ?_
  refine Wk.newarray k X0 d_StringUTF16_compress3_1 (Wk.w hw 28 rfl) e0 1 rfl 1 (by decide) (by decide) (by decide) (by decide) 3 rfl fun T1 h1 ba q1 X1 e1 E1 A1 => ?_
  have g1 : n0 ≤ ba := by rw [q1]; exact Z0
  have hs2 : h0.size ≤ ba := by rw [q1]; exact (Keep.refl h0 []).1
  have ne3 : ca ≠ ba := by rw [q1]; exact Nat.ne_of_lt A0.lt
  have sz1 := Nat.le_trans Z0 E1.1
  have K4 := (Keep.refl h0 []).ext E1
  have f5 := A0.ext E1
  have A1' : Wk.Arl Z h1 ba .byte (([(0 : Int32)] : List Int32).map Value.int) := A1
  refine Wk.astore_n k X1 d_StringUTF16_compress3_3 rfl #[.val (.ref ca), .val (.int (0 : Int32)), .val (.int (1 : Int32)), .val (.ref ba), .unset, .unset] rfl 4 rfl ?_
  refine Wk.aload_n k X1 d_StringUTF16_compress3_4 rfl rfl 5 rfl ?_
  refine Wk.iload_n k X1 d_StringUTF16_compress3_5 rfl 6 rfl ?_
  refine Wk.aload_n k X1 d_StringUTF16_compress3_6 rfl rfl 7 rfl ?_
  refine Wk.iconst k X1 d_StringUTF16_compress3_7 (0 : Int32) rfl 8 rfl ?_
  refine Wk.iload_n k X1 d_StringUTF16_compress3_8 rfl 9 rfl ?_
  refine Wk.callS k X1 [(.ref ca), (.int (0 : Int32)), (.ref ba), (.int (0 : Int32)), (.int (1 : Int32))] [] d_StringUTF16_compress3_9 (rm_c51 l Z a0 hw ca ba x0 h1 n0 hx0 ne3 g1 f5 A1') e1 (Wk.w hw 71 rfl) (Wk.w hw 72 rfl) (Wk.w hw 69 rfl) (Wk.w hw 73 rfl) (by decide) rfl pd_StringUTF16_compress5 rfl rfl (Nat.le_of_ble_eq_true rfl) (Nat.le_of_ble_eq_true rfl) (Nat.le_of_ble_eq_true rfl) (Nat.le_of_ble_eq_true rfl) 12 rfl fun T6 v6 L6 X6 hQ6 => ?_
  obtain ⟨rfl, N6q, K6q, A6⟩ := hQ6
  show Wk.Ends _ _ _ _ _ _ _ (mkF m 12 _ [(.int (1 : Int32))])
  have N6 := Fr.app (Fr.nil n0) N6q
  have K6 := K4.trans K6q (allS (Or.inr hs2) all0)
  refine Wk.istore k X6 d_StringUTF16_compress3_12 #[.val (.ref ca), .val (.int (0 : Int32)), .val (.int (1 : Int32)), .val (.ref ba), .val (.int (1 : Int32)), .unset] rfl 14 rfl ?_
  refine Wk.iload k X6 d_StringUTF16_compress3_14 rfl 16 rfl ?_
  refine Wk.iload_n k X6 d_StringUTF16_compress3_16 rfl 17 rfl ?_
  refine Wk.icmp_eq k X6 d_StringUTF16_compress3_17 (by decide) 57 20 (by decide) rfl (fun _ => ?_) (fun hz => by first | exact absurd hz (by decide) | exact absurd (by decide) hz)
  refine Wk.aload_n k X6 d_StringUTF16_compress3_57 rfl rfl 58 rfl ?_
  refine Wk.ret_ref k X6 (t := (.array .byte)) rfl rfl rfl rfl d_StringUTF16_compress3_58 (by decide) (by decide) ?_
  exact ⟨ba, rfl, N6, K6, hs2, g1, A6⟩
theorem ef_i41 (m : MethodId) (o ca : Addr) : entryFrame m #[(.ref o), (.ref ca), (.int (0 : Int32)), (.int (1 : Int32)), .null] 6 = mkF m 0 #[.val (.ref o), .val (.ref ca), .val (.int (0 : Int32)), .val (.int (1 : Int32)), .val .null, .unset] [] := by first | (simp [entryFrame, mkF, argsToLocals, Value.category]; done) | rfl
set_option maxRecDepth 65536 in
set_option maxHeartbeats 40000000 in
theorem rm_i41 (l : Launch) (Z : State) (a0 : Array Value) (hw : ∀ d ∈ tables_1, d.before a0 Z = true) (o ca : Addr) (x0 : Int32) (u1 u2 : Value) (h0 : Heap) (n0 : Nat) (Z0 : n0 ≤ h0.size) (hx0 : 0 ≤ x0.toInt ∧ x0.toInt ≤ 255) (cz : Int32) (hcz : ¬ cz = 0) (S0 : Sta Z h0 "java/lang/String" "COMPACT_STRINGS" "Z" (.int cz)) (hoc : o ≠ ca) (g0 : n0 ≤ o) (E0 : Exa Z h0 o "java/lang/String") (F0 : Fld Z h0 o "java/lang/String" "value" "[B" u1) (F1 : Fld Z h0 o "java/lang/String" "coder" "B" u2) (A0 : Wk.Arl Z h0 ca .char (([x0] : List Int32).map Value.int)) : Wh.Met l (⟨"java/lang/String", "<init>", "([CIILjava/lang/Void;)V"⟩ : MethodName) jdk_42_method_149_code 6 none ({ frames := 2, cells := 2, slots := 4, locals := 35 } : Room) #[(.ref o), (.ref ca), (.int (0 : Int32)), (.int (1 : Int32)), .null] Z h0 (fun vm => CHv Z own_EL vm h0 ∧ Safe Z own_EL vm h0 o) (fun vmS r vmE h L => r = none ∧ Fr n0 L ∧ Keep h0 h [o] ∧ ∃ b : Addr, own_Str Z h o b ([(x0).toInt8.toInt32] : List Int32) ∧ CHr Z own_EL vmS h0 vmE h) [] := by
  refine Wh.enter pn_String_init4 (fun p e s0 kz0 m below meth c T0 k X0 e0 S0' hk0 P0 => ?_)
  refine (Wh.Ends.cast (ef_i41 m o ca) ?_)
  refine Wh.aload_n k X0 d_String_init4_0 rfl rfl 1 rfl ?_
  refine Wh.initObj (W := 0) k X0 d_String_init4_1 (Wk.w hw 24 rfl) (Wk.w hw 25 rfl) (Wk.w hw 26 rfl) e0 rfl (Nat.le_of_ble_eq_true rfl) (Nat.le_of_ble_eq_true rfl) 4 rfl fun T1 X1 e1 => ?_
  refine Wh.iload_n k X1 d_String_init4_4 rfl 5 rfl ?_
  refine Wh.if_ne k X1 d_String_init4_5 (by decide) 27 8 (by decide) rfl (fun _ => ?_) (fun hz => by first | exact absurd hz (by decide) | exact absurd (by decide) hz)
  refine Wh.getstatic k X1 d_String_init4_27 (host := "") (Or.inl (Wk.w hw 56 rfl)) e1 S0 30 rfl fun T2 X2 e2 => ?_
  refine Wh.if_eq k X2 d_String_init4_30 (by decide) 58 33 (by decide) rfl (fun hc30 => ?_) (fun hc30 => ?_)
  · exact absurd hc30 hcz
  · refine Wh.aload_n k X2 d_String_init4_33 rfl rfl 34 rfl ?_
    refine Wh.iload_n k X2 d_String_init4_34 rfl 35 rfl ?_
    refine Wh.iload_n k X2 d_String_init4_35 rfl 36 rfl ?_
    refine Wh.callS k X2 [(.ref ca), (.int (0 : Int32)), (.int (1 : Int32))] [] d_String_init4_36 (rm_c31 l Z a0 hw ca x0 h0 n0 Z0 hx0 A0) e2 (Wk.w hw 67 rfl) (Wk.w hw 68 rfl) (Wk.w hw 69 rfl) (Wk.w hw 70 rfl) (by decide) rfl pd_StringUTF16_compress3 rfl rfl (Nat.le_of_ble_eq_true rfl) (Nat.le_of_ble_eq_true rfl) (Nat.le_of_ble_eq_true rfl) (Nat.le_of_ble_eq_true rfl) 39 rfl fun T3 v3 L3 X3 hQ3 => ?_
    obtain ⟨ba, rfl, N3q, K3q, hba, gba, A3⟩ := hQ3
    show Wh.Ends _ _ _ _ _ _ _ (mkF m 39 _ [(.ref ba)])
    have N3 := Fr.app (Fr.nil n0) N3q
    have nob : o ≠ ba := Nat.ne_of_lt (Nat.lt_of_lt_of_le E0.lt hba)
    have hk4 := Nat.le_trans hk0 K3q.1
    have K5 := (Keep.refl h0 [o]).trans K3q all0
    have f6 := E0.keep K3q
    have f7 := F0.keep K3q nin0
    have f8 := F1.keep K3q nin0
    have f9 := A0.keep K3q nin0
    have sz3 := Nat.le_trans Z0 K3q.1
    refine Wh.astore k X3 d_String_init4_39 rfl #[.val (.ref o), .val (.ref ca), .val (.int (0 : Int32)), .val (.int (1 : Int32)), .val .null, .val (.ref ba)] rfl 41 rfl ?_
    refine Wh.aload_n k X3 d_String_init4_41 rfl rfl 42 rfl ?_
    refine Wh.aload k X3 d_String_init4_42 rfl rfl 44 rfl ?_
    refine Wh.iload_n k X3 d_String_init4_44 rfl 45 rfl ?_
    refine Wh.callS k X3 [(.ref ba), (.int (1 : Int32))] [(.ref o)] d_String_init4_45 (rm_cf1 l Z a0 hw ba _ T3.heap rfl A3) (rfl : T3.heap = T3.heap) (Wk.w hw 74 rfl) (Wk.w hw 75 rfl) (Wk.w hw 69 rfl) (Wk.w hw 76 rfl) (by decide) rfl pd_StringUTF16_coderFromArrayLen rfl rfl (Nat.le_of_ble_eq_true rfl) (Nat.le_of_ble_eq_true rfl) (Nat.le_of_ble_eq_true rfl) (Nat.le_of_ble_eq_true rfl) 48 rfl fun T10 v10 L10 X10 hQ10 => ?_
    obtain ⟨rfl, e10, rfl⟩ := hQ10
    rw [List.append_nil] at X10
    show Wh.Ends _ _ _ _ _ _ _ (mkF m 48 _ [(.int (0 : Int32)), (.ref o)])
    refine Wh.putfield k X10 d_String_init4_48 (host := "") (Or.inl (Wk.w hw 34 rfl)) Via.refl e10 f8 f6 (Or.inr ⟨(Wk.w hw 30 rfl), rfl, rfl⟩) (Wk.w hw 14 rfl) (ty := .byte) (by decide) rfl rfl 51 rfl fun T11 h11 X11 e11 W11 => ?_
    have sz11 : n0 ≤ h11.size := by rw [W11.size]; exact sz3
    have N12 := Fr.snoc X11 N3 g0
    have hk13 := Nat.le_trans hk4 (Nat.le_of_eq W11.size.symm)
    have K14 := K5.wr W11 (Or.inl (List.mem_of_getElem? (i := 0) rfl))
    have f15 := Exa.wr W11 f6
    have f16 := Fld.other W11 f7 (Or.inr (slot_ne (Or.inr (Wk.w hw 29 rfl)) (Or.inr (Wk.w hw 30 rfl)) (by decide) (t := (.array .byte)) (t' := .byte) (by decide) (by decide)))
    have f17 := f9.other W11 (Ne.symm hoc)
    have f18 := A3.other W11 (Ne.symm nob)
    have f19 := Fld.same W11 f8
    refine Wh.aload_n k X11 d_String_init4_51 rfl rfl 52 rfl ?_
    refine Wh.aload k X11 d_String_init4_52 rfl rfl 54 rfl ?_
    refine Wh.putfield k X11 d_String_init4_54 (host := "") (Or.inl (Wk.w hw 33 rfl)) Via.refl e11 f16 f15 (Or.inr ⟨(Wk.w hw 29 rfl), rfl, rfl⟩) (Wk.w hw 14 rfl) (ty := (.array .byte)) (by decide) rfl rfl 57 rfl fun T20 h20 X20 e20 W20 => ?_
    have sz20 : n0 ≤ h20.size := by rw [W20.size]; exact sz11
    have N21 := Fr.snoc X20 N12 g0
    have hk22 := Nat.le_trans hk13 (Nat.le_of_eq W20.size.symm)
    have K23 := K14.wr W20 (Or.inl (List.mem_of_getElem? (i := 0) rfl))
    have f24 := Exa.wr W20 f15
    have f25 := Fld.other W20 f19 (Or.inr (slot_ne (Or.inr (Wk.w hw 30 rfl)) (Or.inr (Wk.w hw 29 rfl)) (by decide) (t := .byte) (t' := (.array .byte)) (by decide) (by decide)))
    have f26 := f17.other W20 (Ne.symm hoc)
    have f27 := f18.other W20 (Ne.symm nob)
    have f28 := Fld.same W20 f16
    have C2 := CHr.keep K23 (allS P0.2 all0) P0.1
    have C3 := C2.trans (CHv.at X20 k.2.1 (own_EW hw) C2.1)
    refine Wh.ret_void k X20 S0' (Nat.le_trans hk22 (Nat.le_of_eq (congrArg (fun hh : Heap => hh.size) e20).symm)) rfl d_String_init4_57 (by decide) (by decide) ?_
    rw [e20]
    exact ⟨rfl, N21, K23, ba, ⟨f24, f25, f28, f27⟩, C3⟩
theorem ef_i11 (m : MethodId) (o ca : Addr) : entryFrame m #[(.ref o), (.ref ca)] 2 = mkF m 0 #[.val (.ref o), .val (.ref ca)] [] := by first | (simp [entryFrame, mkF, argsToLocals, Value.category]; done) | rfl
set_option maxRecDepth 65536 in
set_option maxHeartbeats 40000000 in
theorem rm_i11 (l : Launch) (Z : State) (a0 : Array Value) (hw : ∀ d ∈ tables_1, d.before a0 Z = true) (o ca : Addr) (x0 : Int32) (u1 u2 : Value) (h0 : Heap) (n0 : Nat) (Z0 : n0 ≤ h0.size) (hx0 : 0 ≤ x0.toInt ∧ x0.toInt ≤ 255) (cz : Int32) (hcz : ¬ cz = 0) (S0 : Sta Z h0 "java/lang/String" "COMPACT_STRINGS" "Z" (.int cz)) (hoc : o ≠ ca) (g0 : n0 ≤ o) (E0 : Exa Z h0 o "java/lang/String") (F0 : Fld Z h0 o "java/lang/String" "value" "[B" u1) (F1 : Fld Z h0 o "java/lang/String" "coder" "B" u2) (A0 : Wk.Arl Z h0 ca .char (([x0] : List Int32).map Value.int)) : Wh.Met l (⟨"java/lang/String", "<init>", "([C)V"⟩ : MethodName) jdk_42_method_3_code 2 none ({ frames := 3, cells := 2, slots := 4, locals := 52 } : Room) #[(.ref o), (.ref ca)] Z h0 (fun vm => CHv Z own_EL vm h0 ∧ Safe Z own_EL vm h0 o) (fun vmS r vmE h L => r = none ∧ Fr n0 L ∧ Keep h0 h [o] ∧ ∃ b : Addr, own_Str Z h o b ([(x0).toInt8.toInt32] : List Int32) ∧ CHr Z own_EL vmS h0 vmE h) [] := by
  refine Wh.enter pn_String_init1 (fun p e s0 kz0 m below meth c T0 k X0 e0 S0' hk0 P0 => ?_)
  refine (Wh.Ends.cast (ef_i11 m o ca) ?_)
  refine Wh.aload_n k X0 d_String_init1_0 rfl rfl 1 rfl ?_
  refine Wh.aload_n k X0 d_String_init1_1 rfl rfl 2 rfl ?_
  refine Wh.iconst k X0 d_String_init1_2 (0 : Int32) rfl 3 rfl ?_
  refine Wh.aload_n k X0 d_String_init1_3 rfl rfl 4 rfl ?_
  refine Wh.arraylength k X0 d_String_init1_4 e0 A0 (1 : Int32) rfl 5 rfl ?_
  refine Wh.aconst_null k X0 d_String_init1_5 6 rfl ?_
  refine Wh.callIH k X0 (PP := (fun vm => CHr Z own_EL s0.vm h0 vm h0)) [(.ref ca), (.int (0 : Int32)), (.int (1 : Int32)), .null] [] d_String_init1_6 (rm_i41 l Z a0 hw o ca x0 _ _ h0 n0 Z0 hx0 cz hcz S0 hoc g0 E0 F0 F1 A0) e0 S0' hk0 (fun _ _ _ _ _ _ _ Y => CHv.at Y k.2.1 (own_EW hw) P0.1) (fun vm P => ⟨P.1, P.safe E0.lt P0.2⟩) rfl (Wk.w hw 20 rfl) (Wk.w hw 21 rfl) (Wk.w hw 15 rfl) (Wk.w hw 23 rfl) (by decide) rfl pd_String_init4 rfl rfl (Nat.le_of_ble_eq_true rfl) (Nat.le_of_ble_eq_true rfl) (Nat.le_of_ble_eq_true rfl) (Nat.le_of_ble_eq_true rfl) 9 rfl fun vp1 vm1 kz1 T1 v1 L1 PP1 kn1 X1 S1 hk1 hQ1 => ?_
  obtain ⟨rfl, N1, K1, bb, SS1, CR⟩ := hQ1
  show Wh.Ends _ _ _ _ _ _ _ (mkF m 9 _ [])
  have C2 := PP1.trans CR
  have C3 := C2.trans (CHv.at X1 kn1.2.1 (own_EW hw) C2.1)
  refine Wh.ret_void kn1 X1 S1 (Nat.le_trans hk1 (Nat.le_of_eq (congrArg (fun hh : Heap => hh.size) (rfl : T1.heap = T1.heap)).symm)) rfl d_String_init1_9 (by decide) (by decide) ?_
  exact ⟨rfl, N1, K1, bb, SS1, C3⟩
theorem ef_st1 (m : MethodId) (x0 x1 : Int32) : entryFrame m #[(.int (1 : Int32)), (.int x0), (.int x1)] 3 = mkF m 0 #[.val (.int (1 : Int32)), .val (.int x0), .val (.int x1)] [] := by first | (simp [entryFrame, mkF, argsToLocals, Value.category]; done) | rfl
set_option maxRecDepth 65536 in
set_option maxHeartbeats 40000000 in
theorem rm_st1 (l : Launch) (Z : State) (a0 : Array Value) (hw : ∀ d ∈ tables_1, d.before a0 Z = true) (x0 x1 : Int32) (hx0 : 0 ≤ x0.toInt ∧ x0.toInt ≤ 255) (h0 : Heap) (n0 : Nat) (Z0 : n0 ≤ h0.size) (cz : Int32) (hcz : ¬ cz = 0) (O0 : Old Z n0 h0) (S0 : Sta Z Z.heap "java/lang/String" "COMPACT_STRINGS" "Z" (.int cz)) : Wh.Met l (⟨"com/example/acomp/acomp/TokenIsPinLaw", "str", "(ICC)Ljava/lang/String;"⟩ : MethodName) method_3_code 3 (some (.object "java/lang/String")) ({ frames := 4, cells := 4, slots := 10, locals := 66 } : Room) #[(.int (1 : Int32)), (.int x0), (.int x1)] Z h0 (fun vm => CHv Z own_EL vm h0) (fun vmS r vmE h L => ∃ o b : Addr, r = some (.ref o) ∧ h0.size ≤ o ∧ Fr n0 L ∧ Keep h0 h [] ∧ own_Str Z h o b ([(x0).toInt8.toInt32] : List Int32) ∧ CHr Z own_EL vmS h0 vmE h) [] := by
  refine Wh.enter pn_TokenIsPinLaw_str (fun p e s0 kz0 m below meth c T0 k X0 e0 S0' hk0 P0 => ?_)
  refine (Wh.Ends.cast (ef_st1 m x0 x1) ?_)
  refine Wh.iload_n k X0 d_TokenIsPinLaw_str_0 rfl 1 rfl ?_
  refine Wh.if_ne k X0 d_TokenIsPinLaw_str_1 (by decide) 15 4 (by decide) rfl (fun _ => ?_) (fun hz => by first | exact absurd hz (by decide) | exact absurd (by decide) hz)
  refine Wh.iload_n k X0 d_TokenIsPinLaw_str_15 rfl 16 rfl ?_
  refine Wh.iconst k X0 d_TokenIsPinLaw_str_16 (1 : Int32) rfl 17 rfl ?_
  refine Wh.icmp_ne k X0 d_TokenIsPinLaw_str_17 (by decide) 35 20 (by decide) rfl (fun hz => by first | exact absurd hz (by decide) | exact absurd (by decide) hz) (fun _ => ?_)
  refine Wh.new k X0 d_TokenIsPinLaw_str_20 (Wk.w hw 13 rfl) (Wk.w hw 14 rfl) (Wk.w hw 15 rfl) e0 (by decide) (by decide) 23 rfl fun T1 h1 o q1 X1 e1 E1 A1 D1 => ?_
  have g1 : n0 ≤ o := by rw [q1]; exact Z0
  have hs2 : h0.size ≤ o := by rw [q1]; exact (Keep.refl h0 []).1
  have sz1 := Nat.le_trans Z0 E1.1
  have hk3 := Nat.le_trans hk0 E1.1
  have K4 := (Keep.refl h0 []).ext E1
  have f5 : Fld Z h1 o "java/lang/String" "value" "[B" .null := D1 (Or.inr (Wk.w hw 29 rfl)) (ty := (.array .byte)) (by decide)
  have f6 : Fld Z h1 o "java/lang/String" "coder" "B" (.int (0 : Int32)) := D1 (Or.inr (Wk.w hw 30 rfl)) (ty := .byte) (by decide)
  refine Wh.dup k X1 d_TokenIsPinLaw_str_23 rfl 24 rfl ?_
  refine Wh.iconst k X1 d_TokenIsPinLaw_str_24 (1 : Int32) rfl 25 rfl ?_
  refine Wh.newarray k X1 d_TokenIsPinLaw_str_25 (Wk.w hw 16 rfl) e1 1 rfl 1 (by decide) (by decide) (by decide) (by decide) 27 rfl fun T7 h7 ca q7 X7 e7 E7 A7 => ?_
  have g7 : n0 ≤ ca := by rw [q7]; exact sz1
  have hs8 : h0.size ≤ ca := by rw [q7]; exact K4.1
  have ne9 : o ≠ ca := by rw [q7]; exact Nat.ne_of_lt A1.lt
  have sz7 := Nat.le_trans sz1 E7.1
  have hk10 := Nat.le_trans hk3 E7.1
  have K11 := K4.ext E7
  have f12 := Exa.ext E7 A1
  have f13 := Fld.ext E7 f5
  have f14 := Fld.ext E7 f6
  have A7' : Wk.Arl Z h7 ca .char (([(0 : Int32)] : List Int32).map Value.int) := A7
  refine Wh.dup k X7 d_TokenIsPinLaw_str_27 rfl 28 rfl ?_
  refine Wh.iconst k X7 d_TokenIsPinLaw_str_28 (0 : Int32) rfl 29 rfl ?_
  refine Wh.iload_n k X7 d_TokenIsPinLaw_str_29 rfl 30 rfl ?_
  refine Wh.castore k X7 (x := x0) d_TokenIsPinLaw_str_30 e7 A7' 0 rfl (show 0 < 1 from by decide) x0 (own_i2c hx0) 31 rfl fun T15 h15 X15 e15 W15 A15 => ?_
  have sz15 : n0 ≤ h15.size := by rw [W15.size]; exact sz7
  have N16 := Fr.snoc X15 (Fr.nil n0) g7
  have hk17 := Nat.le_trans hk10 (Nat.le_of_eq W15.size.symm)
  have K18 := K11.wr W15 (Or.inr hs8)
  have f19 := Exa.wr W15 f12
  have f20 := Fld.other W15 f13 (Or.inl ne9)
  have f21 := Fld.other W15 f14 (Or.inl ne9)
  have A15' : Wk.Arl Z h15 ca .char (([x0] : List Int32).map Value.int) := A15
  have H1 := CHr.keep K18 (fun x hx => absurd hx (List.not_mem_nil)) P0
  have SO := Safe.keep K18 (fun x hx => absurd hx (List.not_mem_nil)) P0 (Safe.new (x := o) hs2)
  refine Wh.callIH k X15 (PP := (fun vm => CHr Z own_EL s0.vm h15 vm h15)) [(.ref ca)] [(.ref o)] d_TokenIsPinLaw_str_31 (rm_i11 l Z a0 hw o ca x0 _ _ h15 n0 sz15 hx0 cz hcz (Sta.ext (O0.keep K18 all0).2 S0) ne9 g1 f19 f20 f21 A15') e15 S0' hk17 (fun _ _ _ _ _ _ _ Y => CHv.at Y k.2.1 (own_EW hw) H1.1) (fun vm P => ⟨P.1, P.safe f19.lt SO⟩) rfl (Wk.w hw 17 rfl) (Wk.w hw 18 rfl) (Wk.w hw 15 rfl) (Wk.w hw 19 rfl) (by decide) rfl pd_String_init1 rfl rfl (Nat.le_of_ble_eq_true rfl) (Nat.le_of_ble_eq_true rfl) (Nat.le_of_ble_eq_true rfl) (Nat.le_of_ble_eq_true rfl) 34 rfl fun vp22 vm22 kz22 T22 v22 L22 PP22 kn22 X22 S22 hk22 hQ22 => ?_
  obtain ⟨rfl, N22q, K22q, bb, SS22, CR⟩ := hQ22
  show Wh.Ends _ _ _ _ _ _ _ (mkF m 34 _ [(.ref o)])
  have N22 := Fr.app N16 N22q
  have K22 := K18.trans K22q (allS (Or.inr hs2) all0)
  have C2 := H1.trans (PP22.trans CR)
  have C3 := C2.trans (CHv.at X22 kn22.2.1 (own_EW hw) C2.1)
  refine Wh.ret_ref kn22 X22 S22 (Nat.le_trans hk22 (Nat.le_of_eq (congrArg (fun hh : Heap => hh.size) (rfl : T22.heap = T22.heap)).symm)) (t := (.object "java/lang/String")) rfl rfl rfl rfl d_TokenIsPinLaw_str_34 (by decide) (by decide) ?_
  exact ⟨o, bb, rfl, hs2, N22, K22, SS22, C3⟩
theorem ef_cf2 (m : MethodId) (ba : Addr) : entryFrame m #[(.ref ba), (.int (2 : Int32))] 2 = mkF m 0 #[.val (.ref ba), .val (.int (2 : Int32))] [] := by first | (simp [entryFrame, mkF, argsToLocals, Value.category]; done) | rfl
set_option maxRecDepth 65536 in
set_option maxHeartbeats 40000000 in
theorem rm_cf2 (l : Launch) (Z : State) (a0 : Array Value) (hw : ∀ d ∈ tables_1, d.before a0 Z = true) (ba : Addr) (ys : List Int32) (h0 : Heap) (hys : ys.length = 2) (A0 : Wk.Arl Z h0 ba .byte (ys.map Value.int)) : Wk.Met l (⟨"java/lang/StringUTF16", "coderFromArrayLen", "([BI)B"⟩ : MethodName) jdk_52_method_15_code 2 (some .byte) ({ frames := 0, cells := 0, slots := 0, locals := 0 } : Room) #[(.ref ba), (.int (2 : Int32))] Z h0 (fun r h L => r = some (.int (0 : Int32)) ∧ h = h0 ∧ L = []) [] := by
  refine Wk.enter pn_StringUTF16_coderFromArrayLen (fun p e s m below meth c T0 k X0 e0 => ?_)
  refine (Wk.Ends.cast (ef_cf2 m ba) ?_)
  refine Wk.iload_n k X0 d_StringUTF16_coderFromArrayLen_0 rfl 1 rfl ?_
  refine Wk.aload_n k X0 d_StringUTF16_coderFromArrayLen_1 rfl rfl 2 rfl ?_
  refine Wk.arraylength k X0 d_StringUTF16_coderFromArrayLen_2 e0 A0 (2 : Int32) (by rw [List.length_map, hys]; rfl) 3 rfl ?_
  refine Wk.isub k X0 d_StringUTF16_coderFromArrayLen_3 4 rfl ?_
  refine Wk.bipush k X0 d_StringUTF16_coderFromArrayLen_4 (31 : Int32) rfl 6 rfl ?_
  refine Wk.iushr k X0 d_StringUTF16_coderFromArrayLen_6 7 rfl ?_
  refine Wk.i2b k X0 d_StringUTF16_coderFromArrayLen_7 8 rfl ?_
  show Wk.Ends _ _ _ _ _ _ _ (mkF m 8 _ [.int (0 : Int32)])
  exact Wk.ret_byte k X0 rfl d_StringUTF16_coderFromArrayLen_8 (by decide) (by decide) rfl ⟨rfl, e0, rfl⟩
theorem ef_c52 (m : MethodId) (ca ba : Addr) : entryFrame m #[(.ref ca), (.int (0 : Int32)), (.ref ba), (.int (0 : Int32)), (.int (2 : Int32))] 7 = mkF m 0 #[.val (.ref ca), .val (.int (0 : Int32)), .val (.ref ba), .val (.int (0 : Int32)), .val (.int (2 : Int32)), .unset, .unset] [] := by first | (simp [entryFrame, mkF, argsToLocals, Value.category]; done) | rfl
set_option maxRecDepth 65536 in
set_option maxHeartbeats 40000000 in
theorem rm_c52 (l : Launch) (Z : State) (a0 : Array Value) (hw : ∀ d ∈ tables_1, d.before a0 Z = true) (ca ba : Addr) (x0 x1 : Int32) (h0 : Heap) (n0 : Nat) (hx0 : 0 ≤ x0.toInt ∧ x0.toInt ≤ 255) (hx1 : 0 ≤ x1.toInt ∧ x1.toInt ≤ 255) (hne : ca ≠ ba) (g1 : n0 ≤ ba) (A0 : Wk.Arl Z h0 ca .char (([x0, x1] : List Int32).map Value.int)) (A1 : Wk.Arl Z h0 ba .byte (([0, 0] : List Int32).map Value.int)) : Wk.Met l (⟨"java/lang/StringUTF16", "compress", "([CI[BII)I"⟩ : MethodName) jdk_52_method_21_code 7 (some .int) ({ frames := 0, cells := 0, slots := 0, locals := 0 } : Room) #[(.ref ca), (.int (0 : Int32)), (.ref ba), (.int (0 : Int32)), (.int (2 : Int32))] Z h0 (fun r h L => r = some (.int (2 : Int32)) ∧ Fr n0 L ∧ Keep h0 h [ba] ∧ Wk.Arl Z h ba .byte (([(x0).toInt8.toInt32, (x1).toInt8.toInt32] : List Int32).map Value.int)) [] := by
  refine Wk.enter pn_StringUTF16_compress5 (fun p e s m below meth c T0 k X0 e0 => ?_)
  refine (Wk.Ends.cast (ef_c52 m ca ba) ?_)
  refine Wk.iconst k X0 d_StringUTF16_compress5_0 (0 : Int32) rfl 1 rfl ?_
  refine Wk.istore k X0 d_StringUTF16_compress5_1 #[.val (.ref ca), .val (.int (0 : Int32)), .val (.ref ba), .val (.int (0 : Int32)), .val (.int (2 : Int32)), .val (.int (0 : Int32)), .unset] rfl 3 rfl ?_
  refine Wk.iload k X0 d_StringUTF16_compress5_3 rfl 5 rfl ?_
  refine Wk.iload k X0 d_StringUTF16_compress5_5 rfl 7 rfl ?_
  refine Wk.icmp_ge k X0 d_StringUTF16_compress5_7 (by decide) 44 10 (by decide) rfl (fun hz => by first | exact absurd hz (by decide) | exact absurd (by decide) hz) (fun _ => ?_)
  refine Wk.aload_n k X0 d_StringUTF16_compress5_10 rfl rfl 11 rfl ?_
  refine Wk.iload_n k X0 d_StringUTF16_compress5_11 rfl 12 rfl ?_
  refine Wk.caload k X0 d_StringUTF16_compress5_12 e0 A0 0 rfl x0 rfl 13 rfl ?_
  refine Wk.istore k X0 d_StringUTF16_compress5_13 #[.val (.ref ca), .val (.int (0 : Int32)), .val (.ref ba), .val (.int (0 : Int32)), .val (.int (2 : Int32)), .val (.int (0 : Int32)), .val (.int x0)] rfl 15 rfl ?_
  refine Wk.iload k X0 d_StringUTF16_compress5_15 rfl 17 rfl ?_
  refine Wk.sipush k X0 d_StringUTF16_compress5_17 (255 : Int32) rfl 20 rfl ?_
  refine Wk.icmp_le k X0 d_StringUTF16_compress5_20 (by decide) 26 23 (by decide) rfl (fun _ => ?_) (fun hz => absurd hz (own_le hx0))
  refine Wk.aload_n k X0 d_StringUTF16_compress5_26 rfl rfl 27 rfl ?_
  refine Wk.iload_n k X0 d_StringUTF16_compress5_27 rfl 28 rfl ?_
  refine Wk.iload k X0 d_StringUTF16_compress5_28 rfl 30 rfl ?_
  refine Wk.i2b k X0 d_StringUTF16_compress5_30 31 rfl ?_
  refine Wk.bastore k X0 (x := ((x0).toInt8.toInt32)) d_StringUTF16_compress5_31 e0 A1 0 rfl (show 0 < 2 from by decide) ((x0).toInt8.toInt32) (own_b8 _) 32 rfl fun T1 h1 X1 e1 W1 A1 => ?_
  have N2 := Fr.snoc X1 (Fr.nil n0) g1
  have K3 := (Keep.refl h0 [ba]).wr W1 (Or.inl (List.mem_of_getElem? (i := 0) rfl))
  have f4 := A0.other W1 hne
  have A1' : Wk.Arl Z h1 ba .byte (([((x0).toInt8.toInt32), (0 : Int32)] : List Int32).map Value.int) := A1
  refine Wk.iinc k X1 d_StringUTF16_compress5_32 rfl #[.val (.ref ca), .val (.int (1 : Int32)), .val (.ref ba), .val (.int (0 : Int32)), .val (.int (2 : Int32)), .val (.int (0 : Int32)), .val (.int x0)] rfl 35 rfl ?_
  refine Wk.iinc k X1 d_StringUTF16_compress5_35 rfl #[.val (.ref ca), .val (.int (1 : Int32)), .val (.ref ba), .val (.int (1 : Int32)), .val (.int (2 : Int32)), .val (.int (0 : Int32)), .val (.int x0)] rfl 38 rfl ?_
  refine Wk.iinc k X1 d_StringUTF16_compress5_38 rfl #[.val (.ref ca), .val (.int (1 : Int32)), .val (.ref ba), .val (.int (1 : Int32)), .val (.int (2 : Int32)), .val (.int (1 : Int32)), .val (.int x0)] rfl 41 rfl ?_
  refine Wk.goto k X1 d_StringUTF16_compress5_41 (by decide) 3 (by decide) ?_
  refine Wk.iload k X1 d_StringUTF16_compress5_3 rfl 5 rfl ?_
  refine Wk.iload k X1 d_StringUTF16_compress5_5 rfl 7 rfl ?_
  refine Wk.icmp_ge k X1 d_StringUTF16_compress5_7 (by decide) 44 10 (by decide) rfl (fun hz => by first | exact absurd hz (by decide) | exact absurd (by decide) hz) (fun _ => ?_)
  refine Wk.aload_n k X1 d_StringUTF16_compress5_10 rfl rfl 11 rfl ?_
  refine Wk.iload_n k X1 d_StringUTF16_compress5_11 rfl 12 rfl ?_
  refine Wk.caload k X1 d_StringUTF16_compress5_12 e1 f4 1 rfl x1 rfl 13 rfl ?_
  refine Wk.istore k X1 d_StringUTF16_compress5_13 #[.val (.ref ca), .val (.int (1 : Int32)), .val (.ref ba), .val (.int (1 : Int32)), .val (.int (2 : Int32)), .val (.int (1 : Int32)), .val (.int x1)] rfl 15 rfl ?_
  refine Wk.iload k X1 d_StringUTF16_compress5_15 rfl 17 rfl ?_
  refine Wk.sipush k X1 d_StringUTF16_compress5_17 (255 : Int32) rfl 20 rfl ?_
  refine Wk.icmp_le k X1 d_StringUTF16_compress5_20 (by decide) 26 23 (by decide) rfl (fun _ => ?_) (fun hz => absurd hz (own_le hx1))
  refine Wk.aload_n k X1 d_StringUTF16_compress5_26 rfl rfl 27 rfl ?_
  refine Wk.iload_n k X1 d_StringUTF16_compress5_27 rfl 28 rfl ?_
  refine Wk.iload k X1 d_StringUTF16_compress5_28 rfl 30 rfl ?_
  refine Wk.i2b k X1 d_StringUTF16_compress5_30 31 rfl ?_
  refine Wk.bastore k X1 (x := ((x1).toInt8.toInt32)) d_StringUTF16_compress5_31 e1 A1' 1 rfl (show 1 < 2 from by decide) ((x1).toInt8.toInt32) (own_b8 _) 32 rfl fun T5 h5 X5 e5 W5 A5 => ?_
  have N6 := Fr.snoc X5 N2 g1
  have K7 := K3.wr W5 (Or.inl (List.mem_of_getElem? (i := 0) rfl))
  have f8 := f4.other W5 hne
  have A5' : Wk.Arl Z h5 ba .byte (([((x0).toInt8.toInt32), ((x1).toInt8.toInt32)] : List Int32).map Value.int) := A5
  refine Wk.iinc k X5 d_StringUTF16_compress5_32 rfl #[.val (.ref ca), .val (.int (2 : Int32)), .val (.ref ba), .val (.int (1 : Int32)), .val (.int (2 : Int32)), .val (.int (1 : Int32)), .val (.int x1)] rfl 35 rfl ?_
  refine Wk.iinc k X5 d_StringUTF16_compress5_35 rfl #[.val (.ref ca), .val (.int (2 : Int32)), .val (.ref ba), .val (.int (2 : Int32)), .val (.int (2 : Int32)), .val (.int (1 : Int32)), .val (.int x1)] rfl 38 rfl ?_
  refine Wk.iinc k X5 d_StringUTF16_compress5_38 rfl #[.val (.ref ca), .val (.int (2 : Int32)), .val (.ref ba), .val (.int (2 : Int32)), .val (.int (2 : Int32)), .val (.int (2 : Int32)), .val (.int x1)] rfl 41 rfl ?_
  refine Wk.goto k X5 d_StringUTF16_compress5_41 (by decide) 3 (by decide) ?_
  refine Wk.iload k X5 d_StringUTF16_compress5_3 rfl 5 rfl ?_
  refine Wk.iload k X5 d_StringUTF16_compress5_5 rfl 7 rfl ?_
  refine Wk.icmp_ge k X5 d_StringUTF16_compress5_7 (by decide) 44 10 (by decide) rfl (fun _ => ?_) (fun hz => by first | exact absurd hz (by decide) | exact absurd (by decide) hz)
  refine Wk.iload k X5 d_StringUTF16_compress5_44 rfl 46 rfl ?_
  refine Wk.ret_int k X5 rfl d_StringUTF16_compress5_46 (by decide) (by decide) ?_
  rw [e5]
  exact ⟨rfl, N6, K7, A5'⟩
theorem ef_c32 (m : MethodId) (ca : Addr) : entryFrame m #[(.ref ca), (.int (0 : Int32)), (.int (2 : Int32))] 6 = mkF m 0 #[.val (.ref ca), .val (.int (0 : Int32)), .val (.int (2 : Int32)), .unset, .unset, .unset] [] := by first | (simp [entryFrame, mkF, argsToLocals, Value.category]; done) | rfl
set_option maxRecDepth 65536 in
set_option maxHeartbeats 40000000 in
theorem rm_c32 (l : Launch) (Z : State) (a0 : Array Value) (hw : ∀ d ∈ tables_1, d.before a0 Z = true) (ca : Addr) (x0 x1 : Int32) (h0 : Heap) (n0 : Nat) (Z0 : n0 ≤ h0.size) (hx0 : 0 ≤ x0.toInt ∧ x0.toInt ≤ 255) (hx1 : 0 ≤ x1.toInt ∧ x1.toInt ≤ 255) (A0 : Wk.Arl Z h0 ca .char (([x0, x1] : List Int32).map Value.int)) : Wk.Met l (⟨"java/lang/StringUTF16", "compress", "([CII)[B"⟩ : MethodName) jdk_52_method_16_code 6 (some (.array .byte)) ({ frames := 1, cells := 1, slots := 2, locals := 18 } : Room) #[(.ref ca), (.int (0 : Int32)), (.int (2 : Int32))] Z h0 (fun r h L => ∃ ba : Addr, r = some (.ref ba) ∧ Fr n0 L ∧ Keep h0 h [] ∧ h0.size ≤ ba ∧ n0 ≤ ba ∧ Wk.Arl Z h ba .byte (([(x0).toInt8.toInt32, (x1).toInt8.toInt32] : List Int32).map Value.int)) [] := by
  refine Wk.enter pn_StringUTF16_compress3 (fun p e s m below meth c T0 k X0 e0 => ?_)
  refine (Wk.Ends.cast (ef_c32 m ca) ?_)
  refine Wk.iload_n k X0 d_StringUTF16_compress3_0 rfl 1 rfl ?_
  refine Wk.newarray k X0 d_StringUTF16_compress3_1 (Wk.w hw 28 rfl) e0 2 rfl 2 (by decide) (by decide) (by decide) (by decide) 3 rfl fun T1 h1 ba q1 X1 e1 E1 A1 => ?_
  have g1 : n0 ≤ ba := by rw [q1]; exact Z0
  have hs2 : h0.size ≤ ba := by rw [q1]; exact (Keep.refl h0 []).1
  have ne3 : ca ≠ ba := by rw [q1]; exact Nat.ne_of_lt A0.lt
  have sz1 := Nat.le_trans Z0 E1.1
  have K4 := (Keep.refl h0 []).ext E1
  have f5 := A0.ext E1
  have A1' : Wk.Arl Z h1 ba .byte (([(0 : Int32), (0 : Int32)] : List Int32).map Value.int) := A1
  refine Wk.astore_n k X1 d_StringUTF16_compress3_3 rfl #[.val (.ref ca), .val (.int (0 : Int32)), .val (.int (2 : Int32)), .val (.ref ba), .unset, .unset] rfl 4 rfl ?_
  refine Wk.aload_n k X1 d_StringUTF16_compress3_4 rfl rfl 5 rfl ?_
  refine Wk.iload_n k X1 d_StringUTF16_compress3_5 rfl 6 rfl ?_
  refine Wk.aload_n k X1 d_StringUTF16_compress3_6 rfl rfl 7 rfl ?_
  refine Wk.iconst k X1 d_StringUTF16_compress3_7 (0 : Int32) rfl 8 rfl ?_
  refine Wk.iload_n k X1 d_StringUTF16_compress3_8 rfl 9 rfl ?_
  refine Wk.callS k X1 [(.ref ca), (.int (0 : Int32)), (.ref ba), (.int (0 : Int32)), (.int (2 : Int32))] [] d_StringUTF16_compress3_9 (rm_c52 l Z a0 hw ca ba x0 x1 h1 n0 hx0 hx1 ne3 g1 f5 A1') e1 (Wk.w hw 71 rfl) (Wk.w hw 72 rfl) (Wk.w hw 69 rfl) (Wk.w hw 73 rfl) (by decide) rfl pd_StringUTF16_compress5 rfl rfl (Nat.le_of_ble_eq_true rfl) (Nat.le_of_ble_eq_true rfl) (Nat.le_of_ble_eq_true rfl) (Nat.le_of_ble_eq_true rfl) 12 rfl fun T6 v6 L6 X6 hQ6 => ?_
  obtain ⟨rfl, N6q, K6q, A6⟩ := hQ6
  show Wk.Ends _ _ _ _ _ _ _ (mkF m 12 _ [(.int (2 : Int32))])
  have N6 := Fr.app (Fr.nil n0) N6q
  have K6 := K4.trans K6q (allS (Or.inr hs2) all0)
  refine Wk.istore k X6 d_StringUTF16_compress3_12 #[.val (.ref ca), .val (.int (0 : Int32)), .val (.int (2 : Int32)), .val (.ref ba), .val (.int (2 : Int32)), .unset] rfl 14 rfl ?_
  refine Wk.iload k X6 d_StringUTF16_compress3_14 rfl 16 rfl ?_
  refine Wk.iload_n k X6 d_StringUTF16_compress3_16 rfl 17 rfl ?_
  refine Wk.icmp_eq k X6 d_StringUTF16_compress3_17 (by decide) 57 20 (by decide) rfl (fun _ => ?_) (fun hz => by first | exact absurd hz (by decide) | exact absurd (by decide) hz)
  refine Wk.aload_n k X6 d_StringUTF16_compress3_57 rfl rfl 58 rfl ?_
  refine Wk.ret_ref k X6 (t := (.array .byte)) rfl rfl rfl rfl d_StringUTF16_compress3_58 (by decide) (by decide) ?_
  exact ⟨ba, rfl, N6, K6, hs2, g1, A6⟩
theorem ef_i42 (m : MethodId) (o ca : Addr) : entryFrame m #[(.ref o), (.ref ca), (.int (0 : Int32)), (.int (2 : Int32)), .null] 6 = mkF m 0 #[.val (.ref o), .val (.ref ca), .val (.int (0 : Int32)), .val (.int (2 : Int32)), .val .null, .unset] [] := by first | (simp [entryFrame, mkF, argsToLocals, Value.category]; done) | rfl
set_option maxRecDepth 65536 in
set_option maxHeartbeats 40000000 in
theorem rm_i42 (l : Launch) (Z : State) (a0 : Array Value) (hw : ∀ d ∈ tables_1, d.before a0 Z = true) (o ca : Addr) (x0 x1 : Int32) (u1 u2 : Value) (h0 : Heap) (n0 : Nat) (Z0 : n0 ≤ h0.size) (hx0 : 0 ≤ x0.toInt ∧ x0.toInt ≤ 255) (hx1 : 0 ≤ x1.toInt ∧ x1.toInt ≤ 255) (cz : Int32) (hcz : ¬ cz = 0) (S0 : Sta Z h0 "java/lang/String" "COMPACT_STRINGS" "Z" (.int cz)) (hoc : o ≠ ca) (g0 : n0 ≤ o) (E0 : Exa Z h0 o "java/lang/String") (F0 : Fld Z h0 o "java/lang/String" "value" "[B" u1) (F1 : Fld Z h0 o "java/lang/String" "coder" "B" u2) (A0 : Wk.Arl Z h0 ca .char (([x0, x1] : List Int32).map Value.int)) : Wh.Met l (⟨"java/lang/String", "<init>", "([CIILjava/lang/Void;)V"⟩ : MethodName) jdk_42_method_149_code 6 none ({ frames := 2, cells := 2, slots := 4, locals := 35 } : Room) #[(.ref o), (.ref ca), (.int (0 : Int32)), (.int (2 : Int32)), .null] Z h0 (fun vm => CHv Z own_EL vm h0 ∧ Safe Z own_EL vm h0 o) (fun vmS r vmE h L => r = none ∧ Fr n0 L ∧ Keep h0 h [o] ∧ ∃ b : Addr, own_Str Z h o b ([(x0).toInt8.toInt32, (x1).toInt8.toInt32] : List Int32) ∧ CHr Z own_EL vmS h0 vmE h) [] := by
  refine Wh.enter pn_String_init4 (fun p e s0 kz0 m below meth c T0 k X0 e0 S0' hk0 P0 => ?_)
  refine (Wh.Ends.cast (ef_i42 m o ca) ?_)
  refine Wh.aload_n k X0 d_String_init4_0 rfl rfl 1 rfl ?_
  refine Wh.initObj (W := 0) k X0 d_String_init4_1 (Wk.w hw 24 rfl) (Wk.w hw 25 rfl) (Wk.w hw 26 rfl) e0 rfl (Nat.le_of_ble_eq_true rfl) (Nat.le_of_ble_eq_true rfl) 4 rfl fun T1 X1 e1 => ?_
  refine Wh.iload_n k X1 d_String_init4_4 rfl 5 rfl ?_
  refine Wh.if_ne k X1 d_String_init4_5 (by decide) 27 8 (by decide) rfl (fun _ => ?_) (fun hz => by first | exact absurd hz (by decide) | exact absurd (by decide) hz)
  refine Wh.getstatic k X1 d_String_init4_27 (host := "") (Or.inl (Wk.w hw 56 rfl)) e1 S0 30 rfl fun T2 X2 e2 => ?_
  refine Wh.if_eq k X2 d_String_init4_30 (by decide) 58 33 (by decide) rfl (fun hc30 => ?_) (fun hc30 => ?_)
  · exact absurd hc30 hcz
  · refine Wh.aload_n k X2 d_String_init4_33 rfl rfl 34 rfl ?_
    refine Wh.iload_n k X2 d_String_init4_34 rfl 35 rfl ?_
    refine Wh.iload_n k X2 d_String_init4_35 rfl 36 rfl ?_
    refine Wh.callS k X2 [(.ref ca), (.int (0 : Int32)), (.int (2 : Int32))] [] d_String_init4_36 (rm_c32 l Z a0 hw ca x0 x1 h0 n0 Z0 hx0 hx1 A0) e2 (Wk.w hw 67 rfl) (Wk.w hw 68 rfl) (Wk.w hw 69 rfl) (Wk.w hw 70 rfl) (by decide) rfl pd_StringUTF16_compress3 rfl rfl (Nat.le_of_ble_eq_true rfl) (Nat.le_of_ble_eq_true rfl) (Nat.le_of_ble_eq_true rfl) (Nat.le_of_ble_eq_true rfl) 39 rfl fun T3 v3 L3 X3 hQ3 => ?_
    obtain ⟨ba, rfl, N3q, K3q, hba, gba, A3⟩ := hQ3
    show Wh.Ends _ _ _ _ _ _ _ (mkF m 39 _ [(.ref ba)])
    have N3 := Fr.app (Fr.nil n0) N3q
    have nob : o ≠ ba := Nat.ne_of_lt (Nat.lt_of_lt_of_le E0.lt hba)
    have hk4 := Nat.le_trans hk0 K3q.1
    have K5 := (Keep.refl h0 [o]).trans K3q all0
    have f6 := E0.keep K3q
    have f7 := F0.keep K3q nin0
    have f8 := F1.keep K3q nin0
    have f9 := A0.keep K3q nin0
    have sz3 := Nat.le_trans Z0 K3q.1
    refine Wh.astore k X3 d_String_init4_39 rfl #[.val (.ref o), .val (.ref ca), .val (.int (0 : Int32)), .val (.int (2 : Int32)), .val .null, .val (.ref ba)] rfl 41 rfl ?_
    refine Wh.aload_n k X3 d_String_init4_41 rfl rfl 42 rfl ?_
    refine Wh.aload k X3 d_String_init4_42 rfl rfl 44 rfl ?_
    refine Wh.iload_n k X3 d_String_init4_44 rfl 45 rfl ?_
    refine Wh.callS k X3 [(.ref ba), (.int (2 : Int32))] [(.ref o)] d_String_init4_45 (rm_cf2 l Z a0 hw ba _ T3.heap rfl A3) (rfl : T3.heap = T3.heap) (Wk.w hw 74 rfl) (Wk.w hw 75 rfl) (Wk.w hw 69 rfl) (Wk.w hw 76 rfl) (by decide) rfl pd_StringUTF16_coderFromArrayLen rfl rfl (Nat.le_of_ble_eq_true rfl) (Nat.le_of_ble_eq_true rfl) (Nat.le_of_ble_eq_true rfl) (Nat.le_of_ble_eq_true rfl) 48 rfl fun T10 v10 L10 X10 hQ10 => ?_
    obtain ⟨rfl, e10, rfl⟩ := hQ10
    rw [List.append_nil] at X10
    show Wh.Ends _ _ _ _ _ _ _ (mkF m 48 _ [(.int (0 : Int32)), (.ref o)])
    refine Wh.putfield k X10 d_String_init4_48 (host := "") (Or.inl (Wk.w hw 34 rfl)) Via.refl e10 f8 f6 (Or.inr ⟨(Wk.w hw 30 rfl), rfl, rfl⟩) (Wk.w hw 14 rfl) (ty := .byte) (by decide) rfl rfl 51 rfl fun T11 h11 X11 e11 W11 => ?_
    have sz11 : n0 ≤ h11.size := by rw [W11.size]; exact sz3
    have N12 := Fr.snoc X11 N3 g0
    have hk13 := Nat.le_trans hk4 (Nat.le_of_eq W11.size.symm)
    have K14 := K5.wr W11 (Or.inl (List.mem_of_getElem? (i := 0) rfl))
    have f15 := Exa.wr W11 f6
    have f16 := Fld.other W11 f7 (Or.inr (slot_ne (Or.inr (Wk.w hw 29 rfl)) (Or.inr (Wk.w hw 30 rfl)) (by decide) (t := (.array .byte)) (t' := .byte) (by decide) (by decide)))
    have f17 := f9.other W11 (Ne.symm hoc)
    have f18 := A3.other W11 (Ne.symm nob)
    have f19 := Fld.same W11 f8
    refine Wh.aload_n k X11 d_String_init4_51 rfl rfl 52 rfl ?_
    refine Wh.aload k X11 d_String_init4_52 rfl rfl 54 rfl ?_
    refine Wh.putfield k X11 d_String_init4_54 (host := "") (Or.inl (Wk.w hw 33 rfl)) Via.refl e11 f16 f15 (Or.inr ⟨(Wk.w hw 29 rfl), rfl, rfl⟩) (Wk.w hw 14 rfl) (ty := (.array .byte)) (by decide) rfl rfl 57 rfl fun T20 h20 X20 e20 W20 => ?_
    have sz20 : n0 ≤ h20.size := by rw [W20.size]; exact sz11
    have N21 := Fr.snoc X20 N12 g0
    have hk22 := Nat.le_trans hk13 (Nat.le_of_eq W20.size.symm)
    have K23 := K14.wr W20 (Or.inl (List.mem_of_getElem? (i := 0) rfl))
    have f24 := Exa.wr W20 f15
    have f25 := Fld.other W20 f19 (Or.inr (slot_ne (Or.inr (Wk.w hw 30 rfl)) (Or.inr (Wk.w hw 29 rfl)) (by decide) (t := .byte) (t' := (.array .byte)) (by decide) (by decide)))
    have f26 := f17.other W20 (Ne.symm hoc)
    have f27 := f18.other W20 (Ne.symm nob)
    have f28 := Fld.same W20 f16
    have C2 := CHr.keep K23 (allS P0.2 all0) P0.1
    have C3 := C2.trans (CHv.at X20 k.2.1 (own_EW hw) C2.1)
    refine Wh.ret_void k X20 S0' (Nat.le_trans hk22 (Nat.le_of_eq (congrArg (fun hh : Heap => hh.size) e20).symm)) rfl d_String_init4_57 (by decide) (by decide) ?_
    rw [e20]
    exact ⟨rfl, N21, K23, ba, ⟨f24, f25, f28, f27⟩, C3⟩
theorem ef_i12 (m : MethodId) (o ca : Addr) : entryFrame m #[(.ref o), (.ref ca)] 2 = mkF m 0 #[.val (.ref o), .val (.ref ca)] [] := by first | (simp [entryFrame, mkF, argsToLocals, Value.category]; done) | rfl
set_option maxRecDepth 65536 in
set_option maxHeartbeats 40000000 in
theorem rm_i12 (l : Launch) (Z : State) (a0 : Array Value) (hw : ∀ d ∈ tables_1, d.before a0 Z = true) (o ca : Addr) (x0 x1 : Int32) (u1 u2 : Value) (h0 : Heap) (n0 : Nat) (Z0 : n0 ≤ h0.size) (hx0 : 0 ≤ x0.toInt ∧ x0.toInt ≤ 255) (hx1 : 0 ≤ x1.toInt ∧ x1.toInt ≤ 255) (cz : Int32) (hcz : ¬ cz = 0) (S0 : Sta Z h0 "java/lang/String" "COMPACT_STRINGS" "Z" (.int cz)) (hoc : o ≠ ca) (g0 : n0 ≤ o) (E0 : Exa Z h0 o "java/lang/String") (F0 : Fld Z h0 o "java/lang/String" "value" "[B" u1) (F1 : Fld Z h0 o "java/lang/String" "coder" "B" u2) (A0 : Wk.Arl Z h0 ca .char (([x0, x1] : List Int32).map Value.int)) : Wh.Met l (⟨"java/lang/String", "<init>", "([C)V"⟩ : MethodName) jdk_42_method_3_code 2 none ({ frames := 3, cells := 2, slots := 4, locals := 52 } : Room) #[(.ref o), (.ref ca)] Z h0 (fun vm => CHv Z own_EL vm h0 ∧ Safe Z own_EL vm h0 o) (fun vmS r vmE h L => r = none ∧ Fr n0 L ∧ Keep h0 h [o] ∧ ∃ b : Addr, own_Str Z h o b ([(x0).toInt8.toInt32, (x1).toInt8.toInt32] : List Int32) ∧ CHr Z own_EL vmS h0 vmE h) [] := by
  refine Wh.enter pn_String_init1 (fun p e s0 kz0 m below meth c T0 k X0 e0 S0' hk0 P0 => ?_)
  refine (Wh.Ends.cast (ef_i12 m o ca) ?_)
  refine Wh.aload_n k X0 d_String_init1_0 rfl rfl 1 rfl ?_
  refine Wh.aload_n k X0 d_String_init1_1 rfl rfl 2 rfl ?_
  refine Wh.iconst k X0 d_String_init1_2 (0 : Int32) rfl 3 rfl ?_
  refine Wh.aload_n k X0 d_String_init1_3 rfl rfl 4 rfl ?_
  refine Wh.arraylength k X0 d_String_init1_4 e0 A0 (2 : Int32) rfl 5 rfl ?_
  refine Wh.aconst_null k X0 d_String_init1_5 6 rfl ?_
  refine Wh.callIH k X0 (PP := (fun vm => CHr Z own_EL s0.vm h0 vm h0)) [(.ref ca), (.int (0 : Int32)), (.int (2 : Int32)), .null] [] d_String_init1_6 (rm_i42 l Z a0 hw o ca x0 x1 _ _ h0 n0 Z0 hx0 hx1 cz hcz S0 hoc g0 E0 F0 F1 A0) e0 S0' hk0 (fun _ _ _ _ _ _ _ Y => CHv.at Y k.2.1 (own_EW hw) P0.1) (fun vm P => ⟨P.1, P.safe E0.lt P0.2⟩) rfl (Wk.w hw 20 rfl) (Wk.w hw 21 rfl) (Wk.w hw 15 rfl) (Wk.w hw 23 rfl) (by decide) rfl pd_String_init4 rfl rfl (Nat.le_of_ble_eq_true rfl) (Nat.le_of_ble_eq_true rfl) (Nat.le_of_ble_eq_true rfl) (Nat.le_of_ble_eq_true rfl) 9 rfl fun vp1 vm1 kz1 T1 v1 L1 PP1 kn1 X1 S1 hk1 hQ1 => ?_
  obtain ⟨rfl, N1, K1, bb, SS1, CR⟩ := hQ1
  show Wh.Ends _ _ _ _ _ _ _ (mkF m 9 _ [])
  have C2 := PP1.trans CR
  have C3 := C2.trans (CHv.at X1 kn1.2.1 (own_EW hw) C2.1)
  refine Wh.ret_void kn1 X1 S1 (Nat.le_trans hk1 (Nat.le_of_eq (congrArg (fun hh : Heap => hh.size) (rfl : T1.heap = T1.heap)).symm)) rfl d_String_init1_9 (by decide) (by decide) ?_
  exact ⟨rfl, N1, K1, bb, SS1, C3⟩
theorem ef_st2 (m : MethodId) (x0 x1 : Int32) : entryFrame m #[(.int (2 : Int32)), (.int x0), (.int x1)] 3 = mkF m 0 #[.val (.int (2 : Int32)), .val (.int x0), .val (.int x1)] [] := by first | (simp [entryFrame, mkF, argsToLocals, Value.category]; done) | rfl
set_option maxRecDepth 65536 in
set_option maxHeartbeats 40000000 in
theorem rm_st2 (l : Launch) (Z : State) (a0 : Array Value) (hw : ∀ d ∈ tables_1, d.before a0 Z = true) (x0 x1 : Int32) (hx0 : 0 ≤ x0.toInt ∧ x0.toInt ≤ 255) (hx1 : 0 ≤ x1.toInt ∧ x1.toInt ≤ 255) (h0 : Heap) (n0 : Nat) (Z0 : n0 ≤ h0.size) (cz : Int32) (hcz : ¬ cz = 0) (O0 : Old Z n0 h0) (S0 : Sta Z Z.heap "java/lang/String" "COMPACT_STRINGS" "Z" (.int cz)) : Wh.Met l (⟨"com/example/acomp/acomp/TokenIsPinLaw", "str", "(ICC)Ljava/lang/String;"⟩ : MethodName) method_3_code 3 (some (.object "java/lang/String")) ({ frames := 4, cells := 4, slots := 10, locals := 66 } : Room) #[(.int (2 : Int32)), (.int x0), (.int x1)] Z h0 (fun vm => CHv Z own_EL vm h0) (fun vmS r vmE h L => ∃ o b : Addr, r = some (.ref o) ∧ h0.size ≤ o ∧ Fr n0 L ∧ Keep h0 h [] ∧ own_Str Z h o b ([(x0).toInt8.toInt32, (x1).toInt8.toInt32] : List Int32) ∧ CHr Z own_EL vmS h0 vmE h) [] := by
  refine Wh.enter pn_TokenIsPinLaw_str (fun p e s0 kz0 m below meth c T0 k X0 e0 S0' hk0 P0 => ?_)
  refine (Wh.Ends.cast (ef_st2 m x0 x1) ?_)
  refine Wh.iload_n k X0 d_TokenIsPinLaw_str_0 rfl 1 rfl ?_
  refine Wh.if_ne k X0 d_TokenIsPinLaw_str_1 (by decide) 15 4 (by decide) rfl (fun _ => ?_) (fun hz => by first | exact absurd hz (by decide) | exact absurd (by decide) hz)
  refine Wh.iload_n k X0 d_TokenIsPinLaw_str_15 rfl 16 rfl ?_
  refine Wh.iconst k X0 d_TokenIsPinLaw_str_16 (1 : Int32) rfl 17 rfl ?_
  refine Wh.icmp_ne k X0 d_TokenIsPinLaw_str_17 (by decide) 35 20 (by decide) rfl (fun _ => ?_) (fun hz => by first | exact absurd hz (by decide) | exact absurd (by decide) hz)
  refine Wh.new k X0 d_TokenIsPinLaw_str_35 (Wk.w hw 13 rfl) (Wk.w hw 14 rfl) (Wk.w hw 15 rfl) e0 (by decide) (by decide) 38 rfl fun T1 h1 o q1 X1 e1 E1 A1 D1 => ?_
  have g1 : n0 ≤ o := by rw [q1]; exact Z0
  have hs2 : h0.size ≤ o := by rw [q1]; exact (Keep.refl h0 []).1
  have sz1 := Nat.le_trans Z0 E1.1
  have hk3 := Nat.le_trans hk0 E1.1
  have K4 := (Keep.refl h0 []).ext E1
  have f5 : Fld Z h1 o "java/lang/String" "value" "[B" .null := D1 (Or.inr (Wk.w hw 29 rfl)) (ty := (.array .byte)) (by decide)
  have f6 : Fld Z h1 o "java/lang/String" "coder" "B" (.int (0 : Int32)) := D1 (Or.inr (Wk.w hw 30 rfl)) (ty := .byte) (by decide)
  refine Wh.dup k X1 d_TokenIsPinLaw_str_38 rfl 39 rfl ?_
  refine Wh.iconst k X1 d_TokenIsPinLaw_str_39 (2 : Int32) rfl 40 rfl ?_
  refine Wh.newarray k X1 d_TokenIsPinLaw_str_40 (Wk.w hw 16 rfl) e1 2 rfl 2 (by decide) (by decide) (by decide) (by decide) 42 rfl fun T7 h7 ca q7 X7 e7 E7 A7 => ?_
  have g7 : n0 ≤ ca := by rw [q7]; exact sz1
  have hs8 : h0.size ≤ ca := by rw [q7]; exact K4.1
  have ne9 : o ≠ ca := by rw [q7]; exact Nat.ne_of_lt A1.lt
  have sz7 := Nat.le_trans sz1 E7.1
  have hk10 := Nat.le_trans hk3 E7.1
  have K11 := K4.ext E7
  have f12 := Exa.ext E7 A1
  have f13 := Fld.ext E7 f5
  have f14 := Fld.ext E7 f6
  have A7' : Wk.Arl Z h7 ca .char (([(0 : Int32), (0 : Int32)] : List Int32).map Value.int) := A7
  refine Wh.dup k X7 d_TokenIsPinLaw_str_42 rfl 43 rfl ?_
  refine Wh.iconst k X7 d_TokenIsPinLaw_str_43 (0 : Int32) rfl 44 rfl ?_
  refine Wh.iload_n k X7 d_TokenIsPinLaw_str_44 rfl 45 rfl ?_
  refine Wh.castore k X7 (x := x0) d_TokenIsPinLaw_str_45 e7 A7' 0 rfl (show 0 < 2 from by decide) x0 (own_i2c hx0) 46 rfl fun T15 h15 X15 e15 W15 A15 => ?_
  have sz15 : n0 ≤ h15.size := by rw [W15.size]; exact sz7
  have N16 := Fr.snoc X15 (Fr.nil n0) g7
  have hk17 := Nat.le_trans hk10 (Nat.le_of_eq W15.size.symm)
  have K18 := K11.wr W15 (Or.inr hs8)
  have f19 := Exa.wr W15 f12
  have f20 := Fld.other W15 f13 (Or.inl ne9)
  have f21 := Fld.other W15 f14 (Or.inl ne9)
  have A15' : Wk.Arl Z h15 ca .char (([x0, (0 : Int32)] : List Int32).map Value.int) := A15
  refine Wh.dup k X15 d_TokenIsPinLaw_str_46 rfl 47 rfl ?_
  refine Wh.iconst k X15 d_TokenIsPinLaw_str_47 (1 : Int32) rfl 48 rfl ?_
  refine Wh.iload_n k X15 d_TokenIsPinLaw_str_48 rfl 49 rfl ?_
  refine Wh.castore k X15 (x := x1) d_TokenIsPinLaw_str_49 e15 A15' 1 rfl (show 1 < 2 from by decide) x1 (own_i2c hx1) 50 rfl fun T22 h22 X22 e22 W22 A22 => ?_
  have sz22 : n0 ≤ h22.size := by rw [W22.size]; exact sz15
  have N23 := Fr.snoc X22 N16 g7
  have hk24 := Nat.le_trans hk17 (Nat.le_of_eq W22.size.symm)
  have K25 := K18.wr W22 (Or.inr hs8)
  have f26 := Exa.wr W22 f19
  have f27 := Fld.other W22 f20 (Or.inl ne9)
  have f28 := Fld.other W22 f21 (Or.inl ne9)
  have A22' : Wk.Arl Z h22 ca .char (([x0, x1] : List Int32).map Value.int) := A22
  have H1 := CHr.keep K25 (fun x hx => absurd hx (List.not_mem_nil)) P0
  have SO := Safe.keep K25 (fun x hx => absurd hx (List.not_mem_nil)) P0 (Safe.new (x := o) hs2)
  refine Wh.callIH k X22 (PP := (fun vm => CHr Z own_EL s0.vm h22 vm h22)) [(.ref ca)] [(.ref o)] d_TokenIsPinLaw_str_50 (rm_i12 l Z a0 hw o ca x0 x1 _ _ h22 n0 sz22 hx0 hx1 cz hcz (Sta.ext (O0.keep K25 all0).2 S0) ne9 g1 f26 f27 f28 A22') e22 S0' hk24 (fun _ _ _ _ _ _ _ Y => CHv.at Y k.2.1 (own_EW hw) H1.1) (fun vm P => ⟨P.1, P.safe f26.lt SO⟩) rfl (Wk.w hw 17 rfl) (Wk.w hw 18 rfl) (Wk.w hw 15 rfl) (Wk.w hw 19 rfl) (by decide) rfl pd_String_init1 rfl rfl (Nat.le_of_ble_eq_true rfl) (Nat.le_of_ble_eq_true rfl) (Nat.le_of_ble_eq_true rfl) (Nat.le_of_ble_eq_true rfl) 53 rfl fun vp29 vm29 kz29 T29 v29 L29 PP29 kn29 X29 S29 hk29 hQ29 => ?_
  obtain ⟨rfl, N29q, K29q, bb, SS29, CR⟩ := hQ29
  show Wh.Ends _ _ _ _ _ _ _ (mkF m 53 _ [(.ref o)])
  have N29 := Fr.app N23 N29q
  have K29 := K25.trans K29q (allS (Or.inr hs2) all0)
  have C2 := H1.trans (PP29.trans CR)
  have C3 := C2.trans (CHv.at X29 kn29.2.1 (own_EW hw) C2.1)
  refine Wh.ret_ref kn29 X29 S29 (Nat.le_trans hk29 (Nat.le_of_eq (congrArg (fun hh : Heap => hh.size) (rfl : T29.heap = T29.heap)).symm)) (t := (.object "java/lang/String")) rfl rfl rfl rfl d_TokenIsPinLaw_str_53 (by decide) (by decide) ?_
  exact ⟨o, bb, rfl, hs2, N29, K29, SS29, C3⟩
theorem own_h1 {y z : Int32} {ys zs : List Int32} (h : y :: ys = z :: zs) : y = z := (List.cons.inj h).1
theorem own_h2 {y z y1 z1 : Int32} {ys zs : List Int32} (h : y :: y1 :: ys = z :: z1 :: zs) : y1 = z1 := (List.cons.inj (List.cons.inj h).2).1
theorem own_y {P : Prop} [Decidable P] (h : P) : (1 : Int32) = if P then (1 : Int32) else 0 := (if_pos h).symm
theorem own_n {P : Prop} [Decidable P] (h : ¬ P) : (0 : Int32) = if P then (1 : Int32) else 0 := (if_neg h).symm
theorem own_it {P : Prop} [Decidable P] (h : ¬ (if P then (1 : Int32) else 0) = 0) : (1 : Int32) = if P then (1 : Int32) else 0 := by
  by_cases q : P
  · rw [if_pos q]
  · rw [if_neg q] at h; exact absurd rfl h
theorem own_kk {kI z : Int32} {kk i : Nat} (h : kI.toInt = (kk : Int)) (e : kI = z) (hz : z.toInt = (i : Int)) : kk = i := by rw [e, hz] at h; omega
theorem own_bi {x y : Int32} (hx : 0 ≤ x.toInt ∧ x.toInt ≤ 255) (hy : 0 ≤ y.toInt ∧ y.toInt ≤ 255) (h : x.toInt8.toInt32 = y.toInt8.toInt32) : x = y := by
  have e : ∀ z : Int32, 0 ≤ z.toInt ∧ z.toInt ≤ 255 → z.toBitVec.toNat < 256 := fun z hz => by
    have h1 : z.toInt = z.toBitVec.toInt := rfl
    rw [h1, BitVec.toInt_eq_toNat_cond] at hz
    have := z.toBitVec.isLt
    split at hz <;> omega
  have e1 := e x hx
  have e2 := e y hy
  have h2 : x.toInt8 = y.toInt8 := by rw [← Int8.toInt8_toInt32 x.toInt8, h, Int8.toInt8_toInt32]
  have h3 : x.toBitVec.signExtend 8 = y.toBitVec.signExtend 8 := congrArg Int8.toBitVec h2
  rw [BitVec.signExtend_eq_setWidth_of_le _ (by decide), BitVec.signExtend_eq_setWidth_of_le _ (by decide)] at h3
  have h4 := congrArg BitVec.toNat h3
  rw [BitVec.toNat_setWidth, BitVec.toNat_setWidth] at h4
  apply Int32.toBitVec_inj.mp
  apply BitVec.eq_of_toNat_eq
  omega
theorem d_StringLatin1_equals_0 : decode jdk_43_method_13_code 0 = .ok (.aload_n 0, 1) := by decide +kernel
theorem d_StringLatin1_equals_1 : decode jdk_43_method_13_code 1 = .ok (.arraylength, 1) := by decide +kernel
theorem d_StringLatin1_equals_2 : decode jdk_43_method_13_code 2 = .ok (.aload_n 1, 1) := by decide +kernel
theorem d_StringLatin1_equals_3 : decode jdk_43_method_13_code 3 = .ok (.arraylength, 1) := by decide +kernel
theorem d_StringLatin1_equals_4 : decode jdk_43_method_13_code 4 = .ok (.if_icmp .ne 30, 3) := by decide +kernel
theorem d_StringLatin1_equals_7 : decode jdk_43_method_13_code 7 = .ok (.iconst 0, 1) := by decide +kernel
theorem d_StringLatin1_equals_8 : decode jdk_43_method_13_code 8 = .ok (.istore_n 2, 1) := by decide +kernel
theorem d_StringLatin1_equals_9 : decode jdk_43_method_13_code 9 = .ok (.iload_n 2, 1) := by decide +kernel
theorem d_StringLatin1_equals_10 : decode jdk_43_method_13_code 10 = .ok (.aload_n 0, 1) := by decide +kernel
theorem d_StringLatin1_equals_11 : decode jdk_43_method_13_code 11 = .ok (.arraylength, 1) := by decide +kernel
theorem d_StringLatin1_equals_12 : decode jdk_43_method_13_code 12 = .ok (.if_icmp .ge 20, 3) := by decide +kernel
theorem d_StringLatin1_equals_15 : decode jdk_43_method_13_code 15 = .ok (.aload_n 0, 1) := by decide +kernel
theorem d_StringLatin1_equals_16 : decode jdk_43_method_13_code 16 = .ok (.iload_n 2, 1) := by decide +kernel
theorem d_StringLatin1_equals_17 : decode jdk_43_method_13_code 17 = .ok (.baload, 1) := by decide +kernel
theorem d_StringLatin1_equals_18 : decode jdk_43_method_13_code 18 = .ok (.aload_n 1, 1) := by decide +kernel
theorem d_StringLatin1_equals_19 : decode jdk_43_method_13_code 19 = .ok (.iload_n 2, 1) := by decide +kernel
theorem d_StringLatin1_equals_20 : decode jdk_43_method_13_code 20 = .ok (.baload, 1) := by decide +kernel
theorem d_StringLatin1_equals_21 : decode jdk_43_method_13_code 21 = .ok (.if_icmp .eq 5, 3) := by decide +kernel
theorem d_StringLatin1_equals_24 : decode jdk_43_method_13_code 24 = .ok (.iconst 0, 1) := by decide +kernel
theorem d_StringLatin1_equals_25 : decode jdk_43_method_13_code 25 = .ok (.ireturn, 1) := by decide +kernel
theorem d_StringLatin1_equals_26 : decode jdk_43_method_13_code 26 = .ok (.iinc 2 1, 3) := by decide +kernel
theorem d_StringLatin1_equals_29 : decode jdk_43_method_13_code 29 = .ok (.goto (-20), 3) := by decide +kernel
theorem d_StringLatin1_equals_32 : decode jdk_43_method_13_code 32 = .ok (.iconst 1, 1) := by decide +kernel
theorem d_StringLatin1_equals_33 : decode jdk_43_method_13_code 33 = .ok (.ireturn, 1) := by decide +kernel
theorem d_StringLatin1_equals_34 : decode jdk_43_method_13_code 34 = .ok (.iconst 0, 1) := by decide +kernel
theorem d_StringLatin1_equals_35 : decode jdk_43_method_13_code 35 = .ok (.ireturn, 1) := by decide +kernel
theorem pn_StringLatin1_equals : plainFor (⟨"java/lang/StringLatin1", "equals", "([B[B)Z"⟩ : MethodName) = true := plainFor_of_name (by first | (simp [plainName, overriddenIn, x]; done) | decide +kernel)
theorem pd_StringLatin1_equals : parseMethodDescriptor "([B[B)Z" = some ⟨[(.array .byte), (.array .byte)], (some .boolean)⟩ := by decide +kernel
theorem ef_le00 (m : MethodId) (b1 b2 : Addr) : entryFrame m #[(.ref b1), (.ref b2)] 3 = mkF m 0 #[.val (.ref b1), .val (.ref b2), .unset] [] := by first | (simp [entryFrame, mkF, argsToLocals, Value.category]; done) | rfl
set_option maxRecDepth 65536 in
set_option maxHeartbeats 40000000 in
theorem rm_le00 (l : Launch) (Z : State) (a0 : Array Value) (hw : ∀ d ∈ tables_1, d.before a0 Z = true) (b1 b2 : Addr) (h0 : Heap) (A1 : Wk.Arl Z h0 b1 .byte (([] : List Int32).map Value.int)) (A2 : Wk.Arl Z h0 b2 .byte (([] : List Int32).map Value.int)) : Wk.Met l (⟨"java/lang/StringLatin1", "equals", "([B[B)Z"⟩ : MethodName) jdk_43_method_13_code 3 (some .boolean) ({ frames := 0, cells := 0, slots := 0, locals := 0 } : Room) #[(.ref b1), (.ref b2)] Z h0 (fun r h L => r = some (.int (if ([] : List Int32) = ([] : List Int32) then (1 : Int32) else 0)) ∧ h = h0 ∧ L = []) [] := by
  refine Wk.enter pn_StringLatin1_equals (fun p e s m below meth c T0 k X0 e0 => ?_)
  refine (Wk.Ends.cast (ef_le00 m b1 b2) ?_)
  refine Wk.aload_n k X0 d_StringLatin1_equals_0 rfl rfl 1 rfl ?_
  refine Wk.arraylength k X0 d_StringLatin1_equals_1 e0 A1 (0 : Int32) rfl 2 rfl ?_
  refine Wk.aload_n k X0 d_StringLatin1_equals_2 rfl rfl 3 rfl ?_
  refine Wk.arraylength k X0 d_StringLatin1_equals_3 e0 A2 (0 : Int32) rfl 4 rfl ?_
  refine Wk.icmp_ne k X0 d_StringLatin1_equals_4 (by decide) 34 7 (by decide) rfl (fun hz => by first | exact absurd hz (by decide) | exact absurd (by decide) hz) (fun _ => ?_)
  refine Wk.iconst k X0 d_StringLatin1_equals_7 (0 : Int32) rfl 8 rfl ?_
  refine Wk.istore_n k X0 d_StringLatin1_equals_8 #[.val (.ref b1), .val (.ref b2), .val (.int (0 : Int32))] rfl 9 rfl ?_
  refine Wk.iload_n k X0 d_StringLatin1_equals_9 rfl 10 rfl ?_
  refine Wk.aload_n k X0 d_StringLatin1_equals_10 rfl rfl 11 rfl ?_
  refine Wk.arraylength k X0 d_StringLatin1_equals_11 e0 A1 (0 : Int32) rfl 12 rfl ?_
  refine Wk.icmp_ge k X0 d_StringLatin1_equals_12 (by decide) 32 15 (by decide) rfl (fun _ => ?_) (fun hz => by first | exact absurd hz (by decide) | exact absurd (by decide) hz)
  refine Wk.iconst k X0 d_StringLatin1_equals_32 (1 : Int32) rfl 33 rfl ?_
  exact Wk.ret_bool k X0 rfl d_StringLatin1_equals_33 (by decide) (by decide) (by decide) ⟨congrArg (fun z => some (Value.int z)) (own_y (rfl)), e0, rfl⟩
theorem ef_le01 (m : MethodId) (b1 b2 : Addr) : entryFrame m #[(.ref b1), (.ref b2)] 3 = mkF m 0 #[.val (.ref b1), .val (.ref b2), .unset] [] := by first | (simp [entryFrame, mkF, argsToLocals, Value.category]; done) | rfl
set_option maxRecDepth 65536 in
set_option maxHeartbeats 40000000 in
theorem rm_le01 (l : Launch) (Z : State) (a0 : Array Value) (hw : ∀ d ∈ tables_1, d.before a0 Z = true) (b1 b2 : Addr) (z0 : Int32) (h0 : Heap) (A1 : Wk.Arl Z h0 b1 .byte (([] : List Int32).map Value.int)) (A2 : Wk.Arl Z h0 b2 .byte (([z0] : List Int32).map Value.int)) : Wk.Met l (⟨"java/lang/StringLatin1", "equals", "([B[B)Z"⟩ : MethodName) jdk_43_method_13_code 3 (some .boolean) ({ frames := 0, cells := 0, slots := 0, locals := 0 } : Room) #[(.ref b1), (.ref b2)] Z h0 (fun r h L => r = some (.int (if ([] : List Int32) = ([z0] : List Int32) then (1 : Int32) else 0)) ∧ h = h0 ∧ L = []) [] := by
  refine Wk.enter pn_StringLatin1_equals (fun p e s m below meth c T0 k X0 e0 => ?_)
  refine (Wk.Ends.cast (ef_le01 m b1 b2) ?_)
  refine Wk.aload_n k X0 d_StringLatin1_equals_0 rfl rfl 1 rfl ?_
  refine Wk.arraylength k X0 d_StringLatin1_equals_1 e0 A1 (0 : Int32) rfl 2 rfl ?_
  refine Wk.aload_n k X0 d_StringLatin1_equals_2 rfl rfl 3 rfl ?_
  refine Wk.arraylength k X0 d_StringLatin1_equals_3 e0 A2 (1 : Int32) rfl 4 rfl ?_
  refine Wk.icmp_ne k X0 d_StringLatin1_equals_4 (by decide) 34 7 (by decide) rfl (fun _ => ?_) (fun hz => by first | exact absurd hz (by decide) | exact absurd (by decide) hz)
  refine Wk.iconst k X0 d_StringLatin1_equals_34 (0 : Int32) rfl 35 rfl ?_
  exact Wk.ret_bool k X0 rfl d_StringLatin1_equals_35 (by decide) (by decide) (by decide) ⟨congrArg (fun z => some (Value.int z)) (own_n (by simp)), e0, rfl⟩
theorem ef_le02 (m : MethodId) (b1 b2 : Addr) : entryFrame m #[(.ref b1), (.ref b2)] 3 = mkF m 0 #[.val (.ref b1), .val (.ref b2), .unset] [] := by first | (simp [entryFrame, mkF, argsToLocals, Value.category]; done) | rfl
set_option maxRecDepth 65536 in
set_option maxHeartbeats 40000000 in
theorem rm_le02 (l : Launch) (Z : State) (a0 : Array Value) (hw : ∀ d ∈ tables_1, d.before a0 Z = true) (b1 b2 : Addr) (z0 z1 : Int32) (h0 : Heap) (A1 : Wk.Arl Z h0 b1 .byte (([] : List Int32).map Value.int)) (A2 : Wk.Arl Z h0 b2 .byte (([z0, z1] : List Int32).map Value.int)) : Wk.Met l (⟨"java/lang/StringLatin1", "equals", "([B[B)Z"⟩ : MethodName) jdk_43_method_13_code 3 (some .boolean) ({ frames := 0, cells := 0, slots := 0, locals := 0 } : Room) #[(.ref b1), (.ref b2)] Z h0 (fun r h L => r = some (.int (if ([] : List Int32) = ([z0, z1] : List Int32) then (1 : Int32) else 0)) ∧ h = h0 ∧ L = []) [] := by
  refine Wk.enter pn_StringLatin1_equals (fun p e s m below meth c T0 k X0 e0 => ?_)
  refine (Wk.Ends.cast (ef_le02 m b1 b2) ?_)
  refine Wk.aload_n k X0 d_StringLatin1_equals_0 rfl rfl 1 rfl ?_
  refine Wk.arraylength k X0 d_StringLatin1_equals_1 e0 A1 (0 : Int32) rfl 2 rfl ?_
  refine Wk.aload_n k X0 d_StringLatin1_equals_2 rfl rfl 3 rfl ?_
  refine Wk.arraylength k X0 d_StringLatin1_equals_3 e0 A2 (2 : Int32) rfl 4 rfl ?_
  refine Wk.icmp_ne k X0 d_StringLatin1_equals_4 (by decide) 34 7 (by decide) rfl (fun _ => ?_) (fun hz => by first | exact absurd hz (by decide) | exact absurd (by decide) hz)
  refine Wk.iconst k X0 d_StringLatin1_equals_34 (0 : Int32) rfl 35 rfl ?_
  exact Wk.ret_bool k X0 rfl d_StringLatin1_equals_35 (by decide) (by decide) (by decide) ⟨congrArg (fun z => some (Value.int z)) (own_n (by simp)), e0, rfl⟩
theorem ef_le10 (m : MethodId) (b1 b2 : Addr) : entryFrame m #[(.ref b1), (.ref b2)] 3 = mkF m 0 #[.val (.ref b1), .val (.ref b2), .unset] [] := by first | (simp [entryFrame, mkF, argsToLocals, Value.category]; done) | rfl
set_option maxRecDepth 65536 in
set_option maxHeartbeats 40000000 in
theorem rm_le10 (l : Launch) (Z : State) (a0 : Array Value) (hw : ∀ d ∈ tables_1, d.before a0 Z = true) (b1 b2 : Addr) (y0 : Int32) (h0 : Heap) (A1 : Wk.Arl Z h0 b1 .byte (([y0] : List Int32).map Value.int)) (A2 : Wk.Arl Z h0 b2 .byte (([] : List Int32).map Value.int)) : Wk.Met l (⟨"java/lang/StringLatin1", "equals", "([B[B)Z"⟩ : MethodName) jdk_43_method_13_code 3 (some .boolean) ({ frames := 0, cells := 0, slots := 0, locals := 0 } : Room) #[(.ref b1), (.ref b2)] Z h0 (fun r h L => r = some (.int (if ([y0] : List Int32) = ([] : List Int32) then (1 : Int32) else 0)) ∧ h = h0 ∧ L = []) [] := by
  refine Wk.enter pn_StringLatin1_equals (fun p e s m below meth c T0 k X0 e0 => ?_)
  refine (Wk.Ends.cast (ef_le10 m b1 b2) ?_)
  refine Wk.aload_n k X0 d_StringLatin1_equals_0 rfl rfl 1 rfl ?_
  refine Wk.arraylength k X0 d_StringLatin1_equals_1 e0 A1 (1 : Int32) rfl 2 rfl ?_
  refine Wk.aload_n k X0 d_StringLatin1_equals_2 rfl rfl 3 rfl ?_
  refine Wk.arraylength k X0 d_StringLatin1_equals_3 e0 A2 (0 : Int32) rfl 4 rfl ?_
  refine Wk.icmp_ne k X0 d_StringLatin1_equals_4 (by decide) 34 7 (by decide) rfl (fun _ => ?_) (fun hz => by first | exact absurd hz (by decide) | exact absurd (by decide) hz)
  refine Wk.iconst k X0 d_StringLatin1_equals_34 (0 : Int32) rfl 35 rfl ?_
  exact Wk.ret_bool k X0 rfl d_StringLatin1_equals_35 (by decide) (by decide) (by decide) ⟨congrArg (fun z => some (Value.int z)) (own_n (by simp)), e0, rfl⟩
theorem ef_le11 (m : MethodId) (b1 b2 : Addr) : entryFrame m #[(.ref b1), (.ref b2)] 3 = mkF m 0 #[.val (.ref b1), .val (.ref b2), .unset] [] := by first | (simp [entryFrame, mkF, argsToLocals, Value.category]; done) | rfl
set_option maxRecDepth 65536 in
set_option maxHeartbeats 40000000 in
theorem rm_le11 (l : Launch) (Z : State) (a0 : Array Value) (hw : ∀ d ∈ tables_1, d.before a0 Z = true) (b1 b2 : Addr) (y0 z0 : Int32) (h0 : Heap) (A1 : Wk.Arl Z h0 b1 .byte (([y0] : List Int32).map Value.int)) (A2 : Wk.Arl Z h0 b2 .byte (([z0] : List Int32).map Value.int)) : Wk.Met l (⟨"java/lang/StringLatin1", "equals", "([B[B)Z"⟩ : MethodName) jdk_43_method_13_code 3 (some .boolean) ({ frames := 0, cells := 0, slots := 0, locals := 0 } : Room) #[(.ref b1), (.ref b2)] Z h0 (fun r h L => r = some (.int (if ([y0] : List Int32) = ([z0] : List Int32) then (1 : Int32) else 0)) ∧ h = h0 ∧ L = []) [] := by
  refine Wk.enter pn_StringLatin1_equals (fun p e s m below meth c T0 k X0 e0 => ?_)
  refine (Wk.Ends.cast (ef_le11 m b1 b2) ?_)
  refine Wk.aload_n k X0 d_StringLatin1_equals_0 rfl rfl 1 rfl ?_
  refine Wk.arraylength k X0 d_StringLatin1_equals_1 e0 A1 (1 : Int32) rfl 2 rfl ?_
  refine Wk.aload_n k X0 d_StringLatin1_equals_2 rfl rfl 3 rfl ?_
  refine Wk.arraylength k X0 d_StringLatin1_equals_3 e0 A2 (1 : Int32) rfl 4 rfl ?_
  refine Wk.icmp_ne k X0 d_StringLatin1_equals_4 (by decide) 34 7 (by decide) rfl (fun hz => by first | exact absurd hz (by decide) | exact absurd (by decide) hz) (fun _ => ?_)
  refine Wk.iconst k X0 d_StringLatin1_equals_7 (0 : Int32) rfl 8 rfl ?_
  refine Wk.istore_n k X0 d_StringLatin1_equals_8 #[.val (.ref b1), .val (.ref b2), .val (.int (0 : Int32))] rfl 9 rfl ?_
  refine Wk.iload_n k X0 d_StringLatin1_equals_9 rfl 10 rfl ?_
  refine Wk.aload_n k X0 d_StringLatin1_equals_10 rfl rfl 11 rfl ?_
  refine Wk.arraylength k X0 d_StringLatin1_equals_11 e0 A1 (1 : Int32) rfl 12 rfl ?_
  refine Wk.icmp_ge k X0 d_StringLatin1_equals_12 (by decide) 32 15 (by decide) rfl (fun hz => by first | exact absurd hz (by decide) | exact absurd (by decide) hz) (fun _ => ?_)
  refine Wk.aload_n k X0 d_StringLatin1_equals_15 rfl rfl 16 rfl ?_
  refine Wk.iload_n k X0 d_StringLatin1_equals_16 rfl 17 rfl ?_
  refine Wk.baload k X0 d_StringLatin1_equals_17 e0 A1 0 rfl y0 rfl 18 rfl ?_
  refine Wk.aload_n k X0 d_StringLatin1_equals_18 rfl rfl 19 rfl ?_
  refine Wk.iload_n k X0 d_StringLatin1_equals_19 rfl 20 rfl ?_
  refine Wk.baload k X0 d_StringLatin1_equals_20 e0 A2 0 rfl z0 rfl 21 rfl ?_
  refine Wk.icmp_eq k X0 d_StringLatin1_equals_21 (by decide) 26 24 (by decide) rfl (fun hc21 => ?_) (fun hc21 => ?_)
  · refine Wk.iinc k X0 d_StringLatin1_equals_26 rfl #[.val (.ref b1), .val (.ref b2), .val (.int (1 : Int32))] rfl 29 rfl ?_
    refine Wk.goto k X0 d_StringLatin1_equals_29 (by decide) 9 (by decide) ?_
    refine Wk.iload_n k X0 d_StringLatin1_equals_9 rfl 10 rfl ?_
    refine Wk.aload_n k X0 d_StringLatin1_equals_10 rfl rfl 11 rfl ?_
    refine Wk.arraylength k X0 d_StringLatin1_equals_11 e0 A1 (1 : Int32) rfl 12 rfl ?_
    refine Wk.icmp_ge k X0 d_StringLatin1_equals_12 (by decide) 32 15 (by decide) rfl (fun _ => ?_) (fun hz => by first | exact absurd hz (by decide) | exact absurd (by decide) hz)
    refine Wk.iconst k X0 d_StringLatin1_equals_32 (1 : Int32) rfl 33 rfl ?_
    exact Wk.ret_bool k X0 rfl d_StringLatin1_equals_33 (by decide) (by decide) (by decide) ⟨congrArg (fun z => some (Value.int z)) (own_y (by rw [hc21])), e0, rfl⟩
  · refine Wk.iconst k X0 d_StringLatin1_equals_24 (0 : Int32) rfl 25 rfl ?_
    exact Wk.ret_bool k X0 rfl d_StringLatin1_equals_25 (by decide) (by decide) (by decide) ⟨congrArg (fun z => some (Value.int z)) (own_n (fun hq => hc21 (own_h1 hq))), e0, rfl⟩
theorem ef_le12 (m : MethodId) (b1 b2 : Addr) : entryFrame m #[(.ref b1), (.ref b2)] 3 = mkF m 0 #[.val (.ref b1), .val (.ref b2), .unset] [] := by first | (simp [entryFrame, mkF, argsToLocals, Value.category]; done) | rfl
set_option maxRecDepth 65536 in
set_option maxHeartbeats 40000000 in
theorem rm_le12 (l : Launch) (Z : State) (a0 : Array Value) (hw : ∀ d ∈ tables_1, d.before a0 Z = true) (b1 b2 : Addr) (y0 z0 z1 : Int32) (h0 : Heap) (A1 : Wk.Arl Z h0 b1 .byte (([y0] : List Int32).map Value.int)) (A2 : Wk.Arl Z h0 b2 .byte (([z0, z1] : List Int32).map Value.int)) : Wk.Met l (⟨"java/lang/StringLatin1", "equals", "([B[B)Z"⟩ : MethodName) jdk_43_method_13_code 3 (some .boolean) ({ frames := 0, cells := 0, slots := 0, locals := 0 } : Room) #[(.ref b1), (.ref b2)] Z h0 (fun r h L => r = some (.int (if ([y0] : List Int32) = ([z0, z1] : List Int32) then (1 : Int32) else 0)) ∧ h = h0 ∧ L = []) [] := by
  refine Wk.enter pn_StringLatin1_equals (fun p e s m below meth c T0 k X0 e0 => ?_)
  refine (Wk.Ends.cast (ef_le12 m b1 b2) ?_)
  refine Wk.aload_n k X0 d_StringLatin1_equals_0 rfl rfl 1 rfl ?_
  refine Wk.arraylength k X0 d_StringLatin1_equals_1 e0 A1 (1 : Int32) rfl 2 rfl ?_
  refine Wk.aload_n k X0 d_StringLatin1_equals_2 rfl rfl 3 rfl ?_
  refine Wk.arraylength k X0 d_StringLatin1_equals_3 e0 A2 (2 : Int32) rfl 4 rfl ?_
  refine Wk.icmp_ne k X0 d_StringLatin1_equals_4 (by decide) 34 7 (by decide) rfl (fun _ => ?_) (fun hz => by first | exact absurd hz (by decide) | exact absurd (by decide) hz)
  refine Wk.iconst k X0 d_StringLatin1_equals_34 (0 : Int32) rfl 35 rfl ?_
  exact Wk.ret_bool k X0 rfl d_StringLatin1_equals_35 (by decide) (by decide) (by decide) ⟨congrArg (fun z => some (Value.int z)) (own_n (by simp)), e0, rfl⟩
theorem ef_le20 (m : MethodId) (b1 b2 : Addr) : entryFrame m #[(.ref b1), (.ref b2)] 3 = mkF m 0 #[.val (.ref b1), .val (.ref b2), .unset] [] := by first | (simp [entryFrame, mkF, argsToLocals, Value.category]; done) | rfl
set_option maxRecDepth 65536 in
set_option maxHeartbeats 40000000 in
theorem rm_le20 (l : Launch) (Z : State) (a0 : Array Value) (hw : ∀ d ∈ tables_1, d.before a0 Z = true) (b1 b2 : Addr) (y0 y1 : Int32) (h0 : Heap) (A1 : Wk.Arl Z h0 b1 .byte (([y0, y1] : List Int32).map Value.int)) (A2 : Wk.Arl Z h0 b2 .byte (([] : List Int32).map Value.int)) : Wk.Met l (⟨"java/lang/StringLatin1", "equals", "([B[B)Z"⟩ : MethodName) jdk_43_method_13_code 3 (some .boolean) ({ frames := 0, cells := 0, slots := 0, locals := 0 } : Room) #[(.ref b1), (.ref b2)] Z h0 (fun r h L => r = some (.int (if ([y0, y1] : List Int32) = ([] : List Int32) then (1 : Int32) else 0)) ∧ h = h0 ∧ L = []) [] := by
  refine Wk.enter pn_StringLatin1_equals (fun p e s m below meth c T0 k X0 e0 => ?_)
  refine (Wk.Ends.cast (ef_le20 m b1 b2) ?_)
  refine Wk.aload_n k X0 d_StringLatin1_equals_0 rfl rfl 1 rfl ?_
  refine Wk.arraylength k X0 d_StringLatin1_equals_1 e0 A1 (2 : Int32) rfl 2 rfl ?_
  refine Wk.aload_n k X0 d_StringLatin1_equals_2 rfl rfl 3 rfl ?_
  refine Wk.arraylength k X0 d_StringLatin1_equals_3 e0 A2 (0 : Int32) rfl 4 rfl ?_
  refine Wk.icmp_ne k X0 d_StringLatin1_equals_4 (by decide) 34 7 (by decide) rfl (fun _ => ?_) (fun hz => by first | exact absurd hz (by decide) | exact absurd (by decide) hz)
  refine Wk.iconst k X0 d_StringLatin1_equals_34 (0 : Int32) rfl 35 rfl ?_
  exact Wk.ret_bool k X0 rfl d_StringLatin1_equals_35 (by decide) (by decide) (by decide) ⟨congrArg (fun z => some (Value.int z)) (own_n (by simp)), e0, rfl⟩
theorem ef_le21 (m : MethodId) (b1 b2 : Addr) : entryFrame m #[(.ref b1), (.ref b2)] 3 = mkF m 0 #[.val (.ref b1), .val (.ref b2), .unset] [] := by first | (simp [entryFrame, mkF, argsToLocals, Value.category]; done) | rfl
set_option maxRecDepth 65536 in
set_option maxHeartbeats 40000000 in
theorem rm_le21 (l : Launch) (Z : State) (a0 : Array Value) (hw : ∀ d ∈ tables_1, d.before a0 Z = true) (b1 b2 : Addr) (y0 y1 z0 : Int32) (h0 : Heap) (A1 : Wk.Arl Z h0 b1 .byte (([y0, y1] : List Int32).map Value.int)) (A2 : Wk.Arl Z h0 b2 .byte (([z0] : List Int32).map Value.int)) : Wk.Met l (⟨"java/lang/StringLatin1", "equals", "([B[B)Z"⟩ : MethodName) jdk_43_method_13_code 3 (some .boolean) ({ frames := 0, cells := 0, slots := 0, locals := 0 } : Room) #[(.ref b1), (.ref b2)] Z h0 (fun r h L => r = some (.int (if ([y0, y1] : List Int32) = ([z0] : List Int32) then (1 : Int32) else 0)) ∧ h = h0 ∧ L = []) [] := by
  refine Wk.enter pn_StringLatin1_equals (fun p e s m below meth c T0 k X0 e0 => ?_)
  refine (Wk.Ends.cast (ef_le21 m b1 b2) ?_)
  refine Wk.aload_n k X0 d_StringLatin1_equals_0 rfl rfl 1 rfl ?_
  refine Wk.arraylength k X0 d_StringLatin1_equals_1 e0 A1 (2 : Int32) rfl 2 rfl ?_
  refine Wk.aload_n k X0 d_StringLatin1_equals_2 rfl rfl 3 rfl ?_
  refine Wk.arraylength k X0 d_StringLatin1_equals_3 e0 A2 (1 : Int32) rfl 4 rfl ?_
  refine Wk.icmp_ne k X0 d_StringLatin1_equals_4 (by decide) 34 7 (by decide) rfl (fun _ => ?_) (fun hz => by first | exact absurd hz (by decide) | exact absurd (by decide) hz)
  refine Wk.iconst k X0 d_StringLatin1_equals_34 (0 : Int32) rfl 35 rfl ?_
  exact Wk.ret_bool k X0 rfl d_StringLatin1_equals_35 (by decide) (by decide) (by decide) ⟨congrArg (fun z => some (Value.int z)) (own_n (by simp)), e0, rfl⟩
theorem ef_le22 (m : MethodId) (b1 b2 : Addr) : entryFrame m #[(.ref b1), (.ref b2)] 3 = mkF m 0 #[.val (.ref b1), .val (.ref b2), .unset] [] := by first | (simp [entryFrame, mkF, argsToLocals, Value.category]; done) | rfl
set_option maxRecDepth 65536 in
set_option maxHeartbeats 40000000 in
theorem rm_le22 (l : Launch) (Z : State) (a0 : Array Value) (hw : ∀ d ∈ tables_1, d.before a0 Z = true) (b1 b2 : Addr) (y0 y1 z0 z1 : Int32) (h0 : Heap) (A1 : Wk.Arl Z h0 b1 .byte (([y0, y1] : List Int32).map Value.int)) (A2 : Wk.Arl Z h0 b2 .byte (([z0, z1] : List Int32).map Value.int)) : Wk.Met l (⟨"java/lang/StringLatin1", "equals", "([B[B)Z"⟩ : MethodName) jdk_43_method_13_code 3 (some .boolean) ({ frames := 0, cells := 0, slots := 0, locals := 0 } : Room) #[(.ref b1), (.ref b2)] Z h0 (fun r h L => r = some (.int (if ([y0, y1] : List Int32) = ([z0, z1] : List Int32) then (1 : Int32) else 0)) ∧ h = h0 ∧ L = []) [] := by
  refine Wk.enter pn_StringLatin1_equals (fun p e s m below meth c T0 k X0 e0 => ?_)
  refine (Wk.Ends.cast (ef_le22 m b1 b2) ?_)
  refine Wk.aload_n k X0 d_StringLatin1_equals_0 rfl rfl 1 rfl ?_
  refine Wk.arraylength k X0 d_StringLatin1_equals_1 e0 A1 (2 : Int32) rfl 2 rfl ?_
  refine Wk.aload_n k X0 d_StringLatin1_equals_2 rfl rfl 3 rfl ?_
  refine Wk.arraylength k X0 d_StringLatin1_equals_3 e0 A2 (2 : Int32) rfl 4 rfl ?_
  refine Wk.icmp_ne k X0 d_StringLatin1_equals_4 (by decide) 34 7 (by decide) rfl (fun hz => by first | exact absurd hz (by decide) | exact absurd (by decide) hz) (fun _ => ?_)
  refine Wk.iconst k X0 d_StringLatin1_equals_7 (0 : Int32) rfl 8 rfl ?_
  refine Wk.istore_n k X0 d_StringLatin1_equals_8 #[.val (.ref b1), .val (.ref b2), .val (.int (0 : Int32))] rfl 9 rfl ?_
  refine Wk.iload_n k X0 d_StringLatin1_equals_9 rfl 10 rfl ?_
  refine Wk.aload_n k X0 d_StringLatin1_equals_10 rfl rfl 11 rfl ?_
  refine Wk.arraylength k X0 d_StringLatin1_equals_11 e0 A1 (2 : Int32) rfl 12 rfl ?_
  refine Wk.icmp_ge k X0 d_StringLatin1_equals_12 (by decide) 32 15 (by decide) rfl (fun hz => by first | exact absurd hz (by decide) | exact absurd (by decide) hz) (fun _ => ?_)
  refine Wk.aload_n k X0 d_StringLatin1_equals_15 rfl rfl 16 rfl ?_
  refine Wk.iload_n k X0 d_StringLatin1_equals_16 rfl 17 rfl ?_
  refine Wk.baload k X0 d_StringLatin1_equals_17 e0 A1 0 rfl y0 rfl 18 rfl ?_
  refine Wk.aload_n k X0 d_StringLatin1_equals_18 rfl rfl 19 rfl ?_
  refine Wk.iload_n k X0 d_StringLatin1_equals_19 rfl 20 rfl ?_
  refine Wk.baload k X0 d_StringLatin1_equals_20 e0 A2 0 rfl z0 rfl 21 rfl ?_
  refine Wk.icmp_eq k X0 d_StringLatin1_equals_21 (by decide) 26 24 (by decide) rfl (fun hc21 => ?_) (fun hc21 => ?_)
  · refine Wk.iinc k X0 d_StringLatin1_equals_26 rfl #[.val (.ref b1), .val (.ref b2), .val (.int (1 : Int32))] rfl 29 rfl ?_
    refine Wk.goto k X0 d_StringLatin1_equals_29 (by decide) 9 (by decide) ?_
    refine Wk.iload_n k X0 d_StringLatin1_equals_9 rfl 10 rfl ?_
    refine Wk.aload_n k X0 d_StringLatin1_equals_10 rfl rfl 11 rfl ?_
    refine Wk.arraylength k X0 d_StringLatin1_equals_11 e0 A1 (2 : Int32) rfl 12 rfl ?_
    refine Wk.icmp_ge k X0 d_StringLatin1_equals_12 (by decide) 32 15 (by decide) rfl (fun hz => by first | exact absurd hz (by decide) | exact absurd (by decide) hz) (fun _ => ?_)
    refine Wk.aload_n k X0 d_StringLatin1_equals_15 rfl rfl 16 rfl ?_
    refine Wk.iload_n k X0 d_StringLatin1_equals_16 rfl 17 rfl ?_
    refine Wk.baload k X0 d_StringLatin1_equals_17 e0 A1 1 rfl y1 rfl 18 rfl ?_
    refine Wk.aload_n k X0 d_StringLatin1_equals_18 rfl rfl 19 rfl ?_
    refine Wk.iload_n k X0 d_StringLatin1_equals_19 rfl 20 rfl ?_
    refine Wk.baload k X0 d_StringLatin1_equals_20 e0 A2 1 rfl z1 rfl 21 rfl ?_
    refine Wk.icmp_eq k X0 d_StringLatin1_equals_21 (by decide) 26 24 (by decide) rfl (fun hc21_1 => ?_) (fun hc21_1 => ?_)
    · refine Wk.iinc k X0 d_StringLatin1_equals_26 rfl #[.val (.ref b1), .val (.ref b2), .val (.int (2 : Int32))] rfl 29 rfl ?_
      refine Wk.goto k X0 d_StringLatin1_equals_29 (by decide) 9 (by decide) ?_
      refine Wk.iload_n k X0 d_StringLatin1_equals_9 rfl 10 rfl ?_
      refine Wk.aload_n k X0 d_StringLatin1_equals_10 rfl rfl 11 rfl ?_
      refine Wk.arraylength k X0 d_StringLatin1_equals_11 e0 A1 (2 : Int32) rfl 12 rfl ?_
      refine Wk.icmp_ge k X0 d_StringLatin1_equals_12 (by decide) 32 15 (by decide) rfl (fun _ => ?_) (fun hz => by first | exact absurd hz (by decide) | exact absurd (by decide) hz)
      refine Wk.iconst k X0 d_StringLatin1_equals_32 (1 : Int32) rfl 33 rfl ?_
      exact Wk.ret_bool k X0 rfl d_StringLatin1_equals_33 (by decide) (by decide) (by decide) ⟨congrArg (fun z => some (Value.int z)) (own_y (by rw [hc21, hc21_1])), e0, rfl⟩
    · refine Wk.iconst k X0 d_StringLatin1_equals_24 (0 : Int32) rfl 25 rfl ?_
      exact Wk.ret_bool k X0 rfl d_StringLatin1_equals_25 (by decide) (by decide) (by decide) ⟨congrArg (fun z => some (Value.int z)) (own_n (fun hq => hc21_1 (own_h2 hq))), e0, rfl⟩
  · refine Wk.iconst k X0 d_StringLatin1_equals_24 (0 : Int32) rfl 25 rfl ?_
    exact Wk.ret_bool k X0 rfl d_StringLatin1_equals_25 (by decide) (by decide) (by decide) ⟨congrArg (fun z => some (Value.int z)) (own_n (fun hq => hc21 (own_h1 hq))), e0, rfl⟩
theorem d_String_equals_0 : decode jdk_42_method_66_code 0 = .ok (.aload_n 0, 1) := by decide +kernel
theorem d_String_equals_1 : decode jdk_42_method_66_code 1 = .ok (.aload_n 1, 1) := by decide +kernel
theorem d_String_equals_2 : decode jdk_42_method_66_code 2 = .ok (.if_acmp .ne 5, 3) := by decide +kernel
theorem d_String_equals_7 : decode jdk_42_method_66_code 7 = .ok (.aload_n 1, 1) := by decide +kernel
theorem d_String_equals_8 : decode jdk_42_method_66_code 8 = .ok (.instanceof 10, 3) := by decide +kernel
theorem d_String_equals_11 : decode jdk_42_method_66_code 11 = .ok (.ifCond .eq 43, 3) := by decide +kernel
theorem d_String_equals_14 : decode jdk_42_method_66_code 14 = .ok (.aload_n 1, 1) := by decide +kernel
theorem d_String_equals_15 : decode jdk_42_method_66_code 15 = .ok (.checkcast 10, 3) := by decide +kernel
theorem d_String_equals_18 : decode jdk_42_method_66_code 18 = .ok (.astore_n 2, 1) := by decide +kernel
theorem d_String_equals_19 : decode jdk_42_method_66_code 19 = .ok (.getstatic 38, 3) := by decide +kernel
theorem d_String_equals_22 : decode jdk_42_method_66_code 22 = .ok (.ifCond .eq 14, 3) := by decide +kernel
theorem d_String_equals_25 : decode jdk_42_method_66_code 25 = .ok (.aload_n 0, 1) := by decide +kernel
theorem d_String_equals_26 : decode jdk_42_method_66_code 26 = .ok (.getfield 15, 3) := by decide +kernel
theorem d_String_equals_29 : decode jdk_42_method_66_code 29 = .ok (.aload_n 2, 1) := by decide +kernel
theorem d_String_equals_30 : decode jdk_42_method_66_code 30 = .ok (.getfield 15, 3) := by decide +kernel
theorem d_String_equals_33 : decode jdk_42_method_66_code 33 = .ok (.if_icmp .ne 21, 3) := by decide +kernel
theorem d_String_equals_36 : decode jdk_42_method_66_code 36 = .ok (.aload_n 0, 1) := by decide +kernel
theorem d_String_equals_37 : decode jdk_42_method_66_code 37 = .ok (.getfield 9, 3) := by decide +kernel
theorem d_String_equals_40 : decode jdk_42_method_66_code 40 = .ok (.aload_n 2, 1) := by decide +kernel
theorem d_String_equals_41 : decode jdk_42_method_66_code 41 = .ok (.getfield 9, 3) := by decide +kernel
theorem d_String_equals_44 : decode jdk_42_method_66_code 44 = .ok (.invokestatic 541, 3) := by decide +kernel
theorem d_String_equals_47 : decode jdk_42_method_66_code 47 = .ok (.ifCond .eq 7, 3) := by decide +kernel
theorem d_String_equals_50 : decode jdk_42_method_66_code 50 = .ok (.iconst 1, 1) := by decide +kernel
theorem d_String_equals_51 : decode jdk_42_method_66_code 51 = .ok (.goto 4, 3) := by decide +kernel
theorem d_String_equals_54 : decode jdk_42_method_66_code 54 = .ok (.iconst 0, 1) := by decide +kernel
theorem d_String_equals_55 : decode jdk_42_method_66_code 55 = .ok (.ireturn, 1) := by decide +kernel
theorem pn_String_equals : plainFor (⟨"java/lang/String", "equals", "(Ljava/lang/Object;)Z"⟩ : MethodName) = true := plainFor_of_name (by first | (simp [plainName, overriddenIn, x]; done) | decide +kernel)
theorem pd_String_equals : parseMethodDescriptor "(Ljava/lang/Object;)Z" = some ⟨[(.object "java/lang/Object")], (some .boolean)⟩ := by decide +kernel
theorem ef_eq (m : MethodId) (o1 o2 : Addr) : entryFrame m #[(.ref o1), (.ref o2)] 3 = mkF m 0 #[.val (.ref o1), .val (.ref o2), .unset] [] := by first | (simp [entryFrame, mkF, argsToLocals, Value.category]; done) | rfl
set_option maxRecDepth 65536 in
set_option maxHeartbeats 40000000 in
theorem rm_eq (l : Launch) (Z : State) (a0 : Array Value) (hw : ∀ d ∈ tables_1, d.before a0 Z = true) (o1 o2 : Addr) (b1 b2 : Addr) (bs1 bs2 : List Int32) (h0 : Heap) (hoo : o1 ≠ o2) (cz : Int32) (hcz : ¬ cz = 0) (S0 : Sta Z h0 "java/lang/String" "COMPACT_STRINGS" "Z" (.int cz)) (Q1 : own_Str Z h0 o1 b1 bs1) (Q2 : own_Str Z h0 o2 b2 bs2) (Mle : Wk.Met l (⟨"java/lang/StringLatin1", "equals", "([B[B)Z"⟩ : MethodName) jdk_43_method_13_code 3 (some .boolean) ({ frames := 0, cells := 0, slots := 0, locals := 0 } : Room) #[(.ref b1), (.ref b2)] Z h0 (fun r h L => r = some (.int (if bs1 = bs2 then (1 : Int32) else 0)) ∧ h = h0 ∧ L = []) []) : Wk.Met l (⟨"java/lang/String", "equals", "(Ljava/lang/Object;)Z"⟩ : MethodName) jdk_42_method_66_code 3 (some .boolean) ({ frames := 1, cells := 0, slots := 0, locals := 14 } : Room) #[(.ref o1), (.ref o2)] Z h0 (fun r h L => r = some (.int (if bs1 = bs2 then (1 : Int32) else 0)) ∧ h = h0 ∧ L = []) [] := by
  refine Wk.enter pn_String_equals (fun p e s m below meth c T0 k X0 e0 => ?_)
  refine (Wk.Ends.cast (ef_eq m o1 o2) ?_)
  obtain ⟨E1, C1, V1, A1⟩ := Q1
  obtain ⟨E2, C2, V2, A2⟩ := Q2
  refine Wk.aload_n k X0 d_String_equals_0 rfl rfl 1 rfl ?_
  refine Wk.aload_n k X0 d_String_equals_1 rfl rfl 2 rfl ?_
  refine Wk.acmp_diff k X0 d_String_equals_2 rfl (fun h => hoo (Value.ref.inj h)) (by decide) 7 (by decide) ?_
  refine Wk.aload_n k X0 d_String_equals_7 rfl rfl 8 rfl ?_
  refine Wk.inst_y k X0 d_String_equals_8 (Wk.w hw 55 rfl) e0 (Ins.self E2) 11 rfl fun T1 X1 e1 => ?_
  refine Wk.if_eq k X1 d_String_equals_11 (by decide) 54 14 (by decide) rfl (fun hz => by first | exact absurd hz (by decide) | exact absurd (by decide) hz) (fun _ => ?_)
  refine Wk.aload_n k X1 d_String_equals_14 rfl rfl 15 rfl ?_
  refine Wk.checkcast k X1 d_String_equals_15 (Wk.w hw 55 rfl) e1 (Ins.self E2) 18 rfl fun T2 X2 e2 => ?_
  refine Wk.astore_n k X2 d_String_equals_18 rfl #[.val (.ref o1), .val (.ref o2), .val (.ref o2)] rfl 19 rfl ?_
  refine Wk.getstatic k X2 d_String_equals_19 (host := "") (Or.inl (Wk.w hw 56 rfl)) e2 S0 22 rfl fun T3 X3 e3 => ?_
  refine Wk.if_eq k X3 d_String_equals_22 (by decide) 36 25 (by decide) rfl (fun hc22 => ?_) (fun hc22 => ?_)
  · exact absurd hc22 hcz
  · refine Wk.aload_n k X3 d_String_equals_25 rfl rfl 26 rfl ?_
    refine Wk.getfield k X3 d_String_equals_26 (host := "") (Or.inl (Wk.w hw 34 rfl)) Via.refl e3 C1 29 rfl fun T4 X4 e4 => ?_
    refine Wk.aload_n k X4 d_String_equals_29 rfl rfl 30 rfl ?_
    refine Wk.getfield k X4 d_String_equals_30 (host := "") (Or.inl (Wk.w hw 34 rfl)) Via.refl e4 C2 33 rfl fun T5 X5 e5 => ?_
    refine Wk.icmp_ne k X5 d_String_equals_33 (by decide) 54 36 (by decide) rfl (fun hz => by first | exact absurd hz (by decide) | exact absurd (by decide) hz) (fun _ => ?_)
    refine Wk.aload_n k X5 d_String_equals_36 rfl rfl 37 rfl ?_
    refine Wk.getfield k X5 d_String_equals_37 (host := "") (Or.inl (Wk.w hw 33 rfl)) Via.refl e5 V1 40 rfl fun T6 X6 e6 => ?_
    refine Wk.aload_n k X6 d_String_equals_40 rfl rfl 41 rfl ?_
    refine Wk.getfield k X6 d_String_equals_41 (host := "") (Or.inl (Wk.w hw 33 rfl)) Via.refl e6 V2 44 rfl fun T7 X7 e7 => ?_
    refine Wk.callS k X7 [(.ref b1), (.ref b2)] [] d_String_equals_44 Mle e7 (Wk.w hw 57 rfl) (Wk.w hw 58 rfl) (Wk.w hw 59 rfl) (Wk.w hw 60 rfl) (by decide) rfl pd_StringLatin1_equals rfl rfl (Nat.le_of_ble_eq_true rfl) (Nat.le_of_ble_eq_true rfl) (Nat.le_of_ble_eq_true rfl) (Nat.le_of_ble_eq_true rfl) 47 rfl fun T8 v8 L8 X8 hQ8 => ?_
    obtain ⟨rfl, e8, rfl⟩ := hQ8
    rw [List.append_nil] at X8
    show Wk.Ends _ _ _ _ _ _ _ (mkF m 47 _ [(.int (if bs1 = bs2 then (1 : Int32) else 0))])
    refine Wk.if_eq k X8 d_String_equals_47 (by decide) 54 50 (by decide) rfl (fun hc47 => ?_) (fun hc47 => ?_)
    · refine Wk.iconst k X8 d_String_equals_54 (0 : Int32) rfl 55 rfl ?_
      exact Wk.ret_bool k X8 rfl d_String_equals_55 (by decide) (by decide) (by decide) ⟨congrArg (fun z => some (Value.int z)) (hc47.symm), e8, rfl⟩
    · refine Wk.iconst k X8 d_String_equals_50 (1 : Int32) rfl 51 rfl ?_
      refine Wk.goto k X8 d_String_equals_51 (by decide) 55 (by decide) ?_
      exact Wk.ret_bool k X8 rfl d_String_equals_55 (by decide) (by decide) (by decide) ⟨congrArg (fun z => some (Value.int z)) (own_it hc47), e8, rfl⟩
theorem d_Token_init_0 : decode prog_12_method_1_code 0 = .ok (.aload_n 0, 1) := by decide +kernel
theorem d_Token_init_1 : decode prog_12_method_1_code 1 = .ok (.invokespecial 1, 3) := by decide +kernel
theorem d_Token_init_4 : decode prog_12_method_1_code 4 = .ok (.aload_n 0, 1) := by decide +kernel
theorem d_Token_init_5 : decode prog_12_method_1_code 5 = .ok (.aload_n 1, 1) := by decide +kernel
theorem d_Token_init_6 : decode prog_12_method_1_code 6 = .ok (.putfield 7, 3) := by decide +kernel
theorem d_Token_init_9 : decode prog_12_method_1_code 9 = .ok (.aload_n 0, 1) := by decide +kernel
theorem d_Token_init_10 : decode prog_12_method_1_code 10 = .ok (.aload_n 2, 1) := by decide +kernel
theorem d_Token_init_11 : decode prog_12_method_1_code 11 = .ok (.putfield 13, 3) := by decide +kernel
theorem d_Token_init_14 : decode prog_12_method_1_code 14 = .ok (.aload_n 0, 1) := by decide +kernel
theorem d_Token_init_15 : decode prog_12_method_1_code 15 = .ok (.iload_n 3, 1) := by decide +kernel
theorem d_Token_init_16 : decode prog_12_method_1_code 16 = .ok (.putfield 17, 3) := by decide +kernel
theorem d_Token_init_19 : decode prog_12_method_1_code 19 = .ok (.return_, 1) := by decide +kernel
theorem pn_Token_init : plainFor (⟨"com/example/acomp/acomp/HoaLexer$Token", "<init>", "(Lcom/example/acomp/acomp/HoaLexer$Kind;Ljava/lang/String;I)V"⟩ : MethodName) = true := plainFor_of_name (by first | (simp [plainName, overriddenIn, x]; done) | decide +kernel)
theorem pd_Token_init : parseMethodDescriptor "(Lcom/example/acomp/acomp/HoaLexer$Kind;Ljava/lang/String;I)V" = some ⟨[(.object "com/example/acomp/acomp/HoaLexer$Kind"), (.object "java/lang/String"), .int], none⟩ := by decide +kernel
theorem ef_ti (m : MethodId) (tk ka o1 : Addr) (z : Int32) : entryFrame m #[(.ref tk), (.ref ka), (.ref o1), (.int z)] 4 = mkF m 0 #[.val (.ref tk), .val (.ref ka), .val (.ref o1), .val (.int z)] [] := by first | (simp [entryFrame, mkF, argsToLocals, Value.category]; done) | rfl
set_option maxRecDepth 65536 in
set_option maxHeartbeats 40000000 in
theorem rm_ti (l : Launch) (Z : State) (a0 : Array Value) (hw : ∀ d ∈ tables_1, d.before a0 Z = true) (tk ka o1 : Addr) (z : Int32) (u1 u2 u3 : Value) (h0 : Heap) (n0 : Nat) (g0 : n0 ≤ tk) (E0 : Exa Z h0 tk "com/example/acomp/acomp/HoaLexer$Token") (F0 : Fld Z h0 tk "com/example/acomp/acomp/HoaLexer$Token" "kind" "Lcom/example/acomp/acomp/HoaLexer$Kind;" u1) (F1 : Fld Z h0 tk "com/example/acomp/acomp/HoaLexer$Token" "text" "Ljava/lang/String;" u2) (F2 : Fld Z h0 tk "com/example/acomp/acomp/HoaLexer$Token" "line" "I" u3) : Wk.Met l (⟨"com/example/acomp/acomp/HoaLexer$Token", "<init>", "(Lcom/example/acomp/acomp/HoaLexer$Kind;Ljava/lang/String;I)V"⟩ : MethodName) prog_12_method_1_code 4 none ({ frames := 1, cells := 0, slots := 0, locals := 12 } : Room) #[(.ref tk), (.ref ka), (.ref o1), (.int z)] Z h0 (fun r h L => r = none ∧ Fr n0 L ∧ Keep h0 h [tk] ∧ Exa Z h tk "com/example/acomp/acomp/HoaLexer$Token" ∧ Fld Z h tk "com/example/acomp/acomp/HoaLexer$Token" "kind" "Lcom/example/acomp/acomp/HoaLexer$Kind;" (.ref ka) ∧ Fld Z h tk "com/example/acomp/acomp/HoaLexer$Token" "text" "Ljava/lang/String;" (.ref o1)) [] := by
  refine Wk.enter pn_Token_init (fun p e s m below meth c T0 k X0 e0 => ?_)
  refine (Wk.Ends.cast (ef_ti m tk ka o1 z) ?_)
  refine Wk.aload_n k X0 d_Token_init_0 rfl rfl 1 rfl ?_
  refine Wk.initObj (W := 0) k X0 d_Token_init_1 (Wk.w hw 38 rfl) (Wk.w hw 25 rfl) (Wk.w hw 26 rfl) e0 rfl (Nat.le_of_ble_eq_true rfl) (Nat.le_of_ble_eq_true rfl) 4 rfl fun T1 X1 e1 => ?_
  refine Wk.aload_n k X1 d_Token_init_4 rfl rfl 5 rfl ?_
  refine Wk.aload_n k X1 d_Token_init_5 rfl rfl 6 rfl ?_
  refine Wk.putfield k X1 d_Token_init_6 (host := "") (Or.inl (Wk.w hw 39 rfl)) Via.refl e1 F0 E0 (Or.inr ⟨(Wk.w hw 40 rfl), rfl, rfl⟩) (Wk.w hw 1 rfl) (ty := (.object "com/example/acomp/acomp/HoaLexer$Kind")) (by decide) rfl rfl 9 rfl fun T2 h2 X2 e2 W2 => ?_
  have N3 := Fr.snoc X2 (Fr.nil n0) g0
  have K4 := (Keep.refl h0 [tk]).wr W2 (Or.inl (List.mem_of_getElem? (i := 0) rfl))
  have f5 := Exa.wr W2 E0
  have f6 := Fld.other W2 F1 (Or.inr (slot_ne (Or.inr (Wk.w hw 42 rfl)) (Or.inr (Wk.w hw 40 rfl)) (by decide) (t := (.object "java/lang/String")) (t' := (.object "com/example/acomp/acomp/HoaLexer$Kind")) (by decide) (by decide)))
  have f7 := Fld.other W2 F2 (Or.inr (slot_ne (Or.inr (Wk.w hw 44 rfl)) (Or.inr (Wk.w hw 40 rfl)) (by decide) (t := .int) (t' := (.object "com/example/acomp/acomp/HoaLexer$Kind")) (by decide) (by decide)))
  have f8 := Fld.same W2 F0
  refine Wk.aload_n k X2 d_Token_init_9 rfl rfl 10 rfl ?_
  refine Wk.aload_n k X2 d_Token_init_10 rfl rfl 11 rfl ?_
  refine Wk.putfield k X2 d_Token_init_11 (host := "") (Or.inl (Wk.w hw 41 rfl)) Via.refl e2 f6 f5 (Or.inr ⟨(Wk.w hw 42 rfl), rfl, rfl⟩) (Wk.w hw 1 rfl) (ty := (.object "java/lang/String")) (by decide) rfl rfl 14 rfl fun T9 h9 X9 e9 W9 => ?_
  have N10 := Fr.snoc X9 N3 g0
  have K11 := K4.wr W9 (Or.inl (List.mem_of_getElem? (i := 0) rfl))
  have f12 := Exa.wr W9 f5
  have f13 := Fld.other W9 f8 (Or.inr (slot_ne (Or.inr (Wk.w hw 40 rfl)) (Or.inr (Wk.w hw 42 rfl)) (by decide) (t := (.object "com/example/acomp/acomp/HoaLexer$Kind")) (t' := (.object "java/lang/String")) (by decide) (by decide)))
  have f14 := Fld.other W9 f7 (Or.inr (slot_ne (Or.inr (Wk.w hw 44 rfl)) (Or.inr (Wk.w hw 42 rfl)) (by decide) (t := .int) (t' := (.object "java/lang/String")) (by decide) (by decide)))
  have f15 := Fld.same W9 f6
  refine Wk.aload_n k X9 d_Token_init_14 rfl rfl 15 rfl ?_
  refine Wk.iload_n k X9 d_Token_init_15 rfl 16 rfl ?_
  refine Wk.putfield k X9 d_Token_init_16 (host := "") (Or.inl (Wk.w hw 43 rfl)) Via.refl e9 f14 f12 (Or.inr ⟨(Wk.w hw 44 rfl), rfl, rfl⟩) (Wk.w hw 1 rfl) (ty := .int) (by decide) rfl rfl 19 rfl fun T16 h16 X16 e16 W16 => ?_
  have N17 := Fr.snoc X16 N10 g0
  have K18 := K11.wr W16 (Or.inl (List.mem_of_getElem? (i := 0) rfl))
  have f19 := Exa.wr W16 f12
  have f20 := Fld.other W16 f13 (Or.inr (slot_ne (Or.inr (Wk.w hw 40 rfl)) (Or.inr (Wk.w hw 44 rfl)) (by decide) (t := (.object "com/example/acomp/acomp/HoaLexer$Kind")) (t' := .int) (by decide) (by decide)))
  have f21 := Fld.other W16 f15 (Or.inr (slot_ne (Or.inr (Wk.w hw 42 rfl)) (Or.inr (Wk.w hw 44 rfl)) (by decide) (t := (.object "java/lang/String")) (t' := .int) (by decide) (by decide)))
  have f22 := Fld.same W16 f14
  refine Wk.ret_void k X16 rfl d_Token_init_19 (by decide) (by decide) ?_
  rw [e16]
  exact ⟨rfl, N17, K18, f19, f20, f21⟩
theorem d_Token_is_0 : decode prog_12_method_5_code 0 = .ok (.aload_n 0, 1) := by decide +kernel
theorem d_Token_is_1 : decode prog_12_method_5_code 1 = .ok (.getfield 7, 3) := by decide +kernel
theorem d_Token_is_4 : decode prog_12_method_5_code 4 = .ok (.aload_n 1, 1) := by decide +kernel
theorem d_Token_is_5 : decode prog_12_method_5_code 5 = .ok (.if_acmp .ne 18, 3) := by decide +kernel
theorem d_Token_is_8 : decode prog_12_method_5_code 8 = .ok (.aload_n 0, 1) := by decide +kernel
theorem d_Token_is_9 : decode prog_12_method_5_code 9 = .ok (.getfield 13, 3) := by decide +kernel
theorem d_Token_is_12 : decode prog_12_method_5_code 12 = .ok (.aload_n 2, 1) := by decide +kernel
theorem d_Token_is_13 : decode prog_12_method_5_code 13 = .ok (.invokevirtual 21, 3) := by decide +kernel
theorem d_Token_is_16 : decode prog_12_method_5_code 16 = .ok (.ifCond .eq 7, 3) := by decide +kernel
theorem d_Token_is_19 : decode prog_12_method_5_code 19 = .ok (.iconst 1, 1) := by decide +kernel
theorem d_Token_is_20 : decode prog_12_method_5_code 20 = .ok (.goto 4, 3) := by decide +kernel
theorem d_Token_is_23 : decode prog_12_method_5_code 23 = .ok (.iconst 0, 1) := by decide +kernel
theorem d_Token_is_24 : decode prog_12_method_5_code 24 = .ok (.ireturn, 1) := by decide +kernel
theorem pn_Token_is : plainFor (⟨"com/example/acomp/acomp/HoaLexer$Token", "is", "(Lcom/example/acomp/acomp/HoaLexer$Kind;Ljava/lang/String;)Z"⟩ : MethodName) = true := plainFor_of_name (by first | (simp [plainName, overriddenIn, x]; done) | decide +kernel)
theorem pd_Token_is : parseMethodDescriptor "(Lcom/example/acomp/acomp/HoaLexer$Kind;Ljava/lang/String;)Z" = some ⟨[(.object "com/example/acomp/acomp/HoaLexer$Kind"), (.object "java/lang/String")], (some .boolean)⟩ := by decide +kernel
theorem ef_isS (m : MethodId) (tk ka o2 : Addr) : entryFrame m #[(.ref tk), (.ref ka), (.ref o2)] 3 = mkF m 0 #[.val (.ref tk), .val (.ref ka), .val (.ref o2)] [] := by first | (simp [entryFrame, mkF, argsToLocals, Value.category]; done) | rfl
set_option maxRecDepth 65536 in
set_option maxHeartbeats 40000000 in
theorem rm_isS (l : Launch) (Z : State) (a0 : Array Value) (hw : ∀ d ∈ tables_1, d.before a0 Z = true) (tk ka o2 : Addr) (o1 : Addr) (b1 b2 : Addr) (bs1 bs2 : List Int32) (h0 : Heap) (hoo : o1 ≠ o2) (cz : Int32) (hcz : ¬ cz = 0) (S0 : Sta Z h0 "java/lang/String" "COMPACT_STRINGS" "Z" (.int cz)) (Q1 : own_Str Z h0 o1 b1 bs1) (Q2 : own_Str Z h0 o2 b2 bs2) (Mle : Wk.Met l (⟨"java/lang/StringLatin1", "equals", "([B[B)Z"⟩ : MethodName) jdk_43_method_13_code 3 (some .boolean) ({ frames := 0, cells := 0, slots := 0, locals := 0 } : Room) #[(.ref b1), (.ref b2)] Z h0 (fun r h L => r = some (.int (if bs1 = bs2 then (1 : Int32) else 0)) ∧ h = h0 ∧ L = []) []) (F0 : Fld Z h0 tk "com/example/acomp/acomp/HoaLexer$Token" "kind" "Lcom/example/acomp/acomp/HoaLexer$Kind;" (.ref ka)) (F1 : Fld Z h0 tk "com/example/acomp/acomp/HoaLexer$Token" "text" "Ljava/lang/String;" (.ref o1)) : Wk.Met l (⟨"com/example/acomp/acomp/HoaLexer$Token", "is", "(Lcom/example/acomp/acomp/HoaLexer$Kind;Ljava/lang/String;)Z"⟩ : MethodName) prog_12_method_5_code 3 (some .boolean) ({ frames := 2, cells := 0, slots := 0, locals := 28 } : Room) #[(.ref tk), (.ref ka), (.ref o2)] Z h0 (fun r h L => r = some (.int (if bs1 = bs2 then (1 : Int32) else 0)) ∧ h = h0 ∧ L = []) [] := by
  refine Wk.enter pn_Token_is (fun p e s m below meth c T0 k X0 e0 => ?_)
  refine (Wk.Ends.cast (ef_isS m tk ka o2) ?_)
  refine Wk.aload_n k X0 d_Token_is_0 rfl rfl 1 rfl ?_
  refine Wk.getfield k X0 d_Token_is_1 (host := "") (Or.inl (Wk.w hw 39 rfl)) Via.refl e0 F0 4 rfl fun T1 X1 e1 => ?_
  refine Wk.aload_n k X1 d_Token_is_4 rfl rfl 5 rfl ?_
  refine Wk.acmp_same k X1 d_Token_is_5 (by decide) 8 (by decide) ?_
  refine Wk.aload_n k X1 d_Token_is_8 rfl rfl 9 rfl ?_
  refine Wk.getfield k X1 d_Token_is_9 (host := "") (Or.inl (Wk.w hw 41 rfl)) Via.refl e1 F1 12 rfl fun T2 X2 e2 => ?_
  refine Wk.aload_n k X2 d_Token_is_12 rfl rfl 13 rfl ?_
  refine Wk.callV k X2 [(.ref o2)] [] d_Token_is_13 (rm_eq l Z a0 hw o1 o2 b1 b2 bs1 bs2 _ hoo cz hcz S0 Q1 Q2 Mle) e2 Q1.1 (Wk.w hw 50 rfl) (Wk.w hw 51 rfl) (Wk.w hw 53 rfl) (Wk.w hw 52 rfl) (Wk.w hw 15 rfl) (Wk.w hw 54 rfl) (by decide) rfl pd_String_equals rfl rfl (Nat.le_of_ble_eq_true rfl) (Nat.le_of_ble_eq_true rfl) (Nat.le_of_ble_eq_true rfl) (Nat.le_of_ble_eq_true rfl) 16 rfl fun T3 v3 L3 X3 hQ3 => ?_
  obtain ⟨rfl, e3, rfl⟩ := hQ3
  rw [List.append_nil] at X3
  show Wk.Ends _ _ _ _ _ _ _ (mkF m 16 _ [(.int (if bs1 = bs2 then (1 : Int32) else 0))])
  refine Wk.if_eq k X3 d_Token_is_16 (by decide) 23 19 (by decide) rfl (fun hc16 => ?_) (fun hc16 => ?_)
  · refine Wk.iconst k X3 d_Token_is_23 (0 : Int32) rfl 24 rfl ?_
    exact Wk.ret_bool k X3 rfl d_Token_is_24 (by decide) (by decide) (by decide) ⟨congrArg (fun z => some (Value.int z)) (hc16.symm), e3, rfl⟩
  · refine Wk.iconst k X3 d_Token_is_19 (1 : Int32) rfl 20 rfl ?_
    refine Wk.goto k X3 d_Token_is_20 (by decide) 24 (by decide) ?_
    exact Wk.ret_bool k X3 rfl d_Token_is_24 (by decide) (by decide) (by decide) ⟨congrArg (fun z => some (Value.int z)) (own_it hc16), e3, rfl⟩
theorem ef_isD (m : MethodId) (tk kb o2 : Addr) : entryFrame m #[(.ref tk), (.ref kb), (.ref o2)] 3 = mkF m 0 #[.val (.ref tk), .val (.ref kb), .val (.ref o2)] [] := by first | (simp [entryFrame, mkF, argsToLocals, Value.category]; done) | rfl
set_option maxRecDepth 65536 in
set_option maxHeartbeats 40000000 in
theorem rm_isD (l : Launch) (Z : State) (a0 : Array Value) (hw : ∀ d ∈ tables_1, d.before a0 Z = true) (tk kb o2 : Addr) (ka : Addr) (hkk : ka ≠ kb) (o1 : Addr) (b1 b2 : Addr) (bs1 bs2 : List Int32) (h0 : Heap) (hoo : o1 ≠ o2) (cz : Int32) (hcz : ¬ cz = 0) (S0 : Sta Z h0 "java/lang/String" "COMPACT_STRINGS" "Z" (.int cz)) (Q1 : own_Str Z h0 o1 b1 bs1) (Q2 : own_Str Z h0 o2 b2 bs2) (Mle : Wk.Met l (⟨"java/lang/StringLatin1", "equals", "([B[B)Z"⟩ : MethodName) jdk_43_method_13_code 3 (some .boolean) ({ frames := 0, cells := 0, slots := 0, locals := 0 } : Room) #[(.ref b1), (.ref b2)] Z h0 (fun r h L => r = some (.int (if bs1 = bs2 then (1 : Int32) else 0)) ∧ h = h0 ∧ L = []) []) (F0 : Fld Z h0 tk "com/example/acomp/acomp/HoaLexer$Token" "kind" "Lcom/example/acomp/acomp/HoaLexer$Kind;" (.ref ka)) (F1 : Fld Z h0 tk "com/example/acomp/acomp/HoaLexer$Token" "text" "Ljava/lang/String;" (.ref o1)) : Wk.Met l (⟨"com/example/acomp/acomp/HoaLexer$Token", "is", "(Lcom/example/acomp/acomp/HoaLexer$Kind;Ljava/lang/String;)Z"⟩ : MethodName) prog_12_method_5_code 3 (some .boolean) ({ frames := 2, cells := 0, slots := 0, locals := 28 } : Room) #[(.ref tk), (.ref kb), (.ref o2)] Z h0 (fun r h L => r = some (.int (0 : Int32)) ∧ h = h0 ∧ L = []) [] := by
  refine Wk.enter pn_Token_is (fun p e s m below meth c T0 k X0 e0 => ?_)
  refine (Wk.Ends.cast (ef_isD m tk kb o2) ?_)
  refine Wk.aload_n k X0 d_Token_is_0 rfl rfl 1 rfl ?_
  refine Wk.getfield k X0 d_Token_is_1 (host := "") (Or.inl (Wk.w hw 39 rfl)) Via.refl e0 F0 4 rfl fun T1 X1 e1 => ?_
  refine Wk.aload_n k X1 d_Token_is_4 rfl rfl 5 rfl ?_
  refine Wk.acmp_diff k X1 d_Token_is_5 rfl (fun h => hkk (Value.ref.inj h)) (by decide) 23 (by decide) ?_
  refine Wk.iconst k X1 d_Token_is_23 (0 : Int32) rfl 24 rfl ?_
  exact Wk.ret_bool k X1 rfl d_Token_is_24 (by decide) (by decide) (by decide) ⟨congrArg (fun z => some (Value.int z)) (rfl), e1, rfl⟩
def own_SK (Z : State) (h : Heap) (A : Nat → Addr) : Prop := True ∧ ∀ i, i < 10 → ∀ nm, ["HEADER_NAME", "IDENTIFIER", "INTEGER", "STRING", "ALIAS", "PUNCTUATION", "BODY", "END", "ABORT", "END_OF_INPUT"][i]? = some nm → Sta Z h "com/example/acomp/acomp/HoaLexer$Kind" nm "Lcom/example/acomp/acomp/HoaLexer$Kind;" (.ref (A i))
theorem d_TokenIsPinLaw_kindOf_0 : decode method_4_code 0 = .ok (.iload_n 0, 1) := by decide +kernel
theorem d_TokenIsPinLaw_kindOf_1 : decode method_4_code 1 = .ok (.ifCond .ne 7, 3) := by decide +kernel
theorem d_TokenIsPinLaw_kindOf_4 : decode method_4_code 4 = .ok (.getstatic 31, 3) := by decide +kernel
theorem d_TokenIsPinLaw_kindOf_7 : decode method_4_code 7 = .ok (.areturn, 1) := by decide +kernel
theorem d_TokenIsPinLaw_kindOf_8 : decode method_4_code 8 = .ok (.iload_n 0, 1) := by decide +kernel
theorem d_TokenIsPinLaw_kindOf_9 : decode method_4_code 9 = .ok (.iconst 1, 1) := by decide +kernel
theorem d_TokenIsPinLaw_kindOf_10 : decode method_4_code 10 = .ok (.if_icmp .ne 7, 3) := by decide +kernel
theorem d_TokenIsPinLaw_kindOf_13 : decode method_4_code 13 = .ok (.getstatic 37, 3) := by decide +kernel
theorem d_TokenIsPinLaw_kindOf_16 : decode method_4_code 16 = .ok (.areturn, 1) := by decide +kernel
theorem d_TokenIsPinLaw_kindOf_17 : decode method_4_code 17 = .ok (.iload_n 0, 1) := by decide +kernel
theorem d_TokenIsPinLaw_kindOf_18 : decode method_4_code 18 = .ok (.iconst 2, 1) := by decide +kernel
theorem d_TokenIsPinLaw_kindOf_19 : decode method_4_code 19 = .ok (.if_icmp .ne 7, 3) := by decide +kernel
theorem d_TokenIsPinLaw_kindOf_22 : decode method_4_code 22 = .ok (.getstatic 40, 3) := by decide +kernel
theorem d_TokenIsPinLaw_kindOf_25 : decode method_4_code 25 = .ok (.areturn, 1) := by decide +kernel
theorem d_TokenIsPinLaw_kindOf_26 : decode method_4_code 26 = .ok (.iload_n 0, 1) := by decide +kernel
theorem d_TokenIsPinLaw_kindOf_27 : decode method_4_code 27 = .ok (.iconst 3, 1) := by decide +kernel
theorem d_TokenIsPinLaw_kindOf_28 : decode method_4_code 28 = .ok (.if_icmp .ne 7, 3) := by decide +kernel
theorem d_TokenIsPinLaw_kindOf_31 : decode method_4_code 31 = .ok (.getstatic 43, 3) := by decide +kernel
theorem d_TokenIsPinLaw_kindOf_34 : decode method_4_code 34 = .ok (.areturn, 1) := by decide +kernel
theorem d_TokenIsPinLaw_kindOf_35 : decode method_4_code 35 = .ok (.iload_n 0, 1) := by decide +kernel
theorem d_TokenIsPinLaw_kindOf_36 : decode method_4_code 36 = .ok (.iconst 4, 1) := by decide +kernel
theorem d_TokenIsPinLaw_kindOf_37 : decode method_4_code 37 = .ok (.if_icmp .ne 7, 3) := by decide +kernel
theorem d_TokenIsPinLaw_kindOf_40 : decode method_4_code 40 = .ok (.getstatic 46, 3) := by decide +kernel
theorem d_TokenIsPinLaw_kindOf_43 : decode method_4_code 43 = .ok (.areturn, 1) := by decide +kernel
theorem d_TokenIsPinLaw_kindOf_44 : decode method_4_code 44 = .ok (.iload_n 0, 1) := by decide +kernel
theorem d_TokenIsPinLaw_kindOf_45 : decode method_4_code 45 = .ok (.iconst 5, 1) := by decide +kernel
theorem d_TokenIsPinLaw_kindOf_46 : decode method_4_code 46 = .ok (.if_icmp .ne 7, 3) := by decide +kernel
theorem d_TokenIsPinLaw_kindOf_49 : decode method_4_code 49 = .ok (.getstatic 49, 3) := by decide +kernel
theorem d_TokenIsPinLaw_kindOf_52 : decode method_4_code 52 = .ok (.areturn, 1) := by decide +kernel
theorem d_TokenIsPinLaw_kindOf_53 : decode method_4_code 53 = .ok (.iload_n 0, 1) := by decide +kernel
theorem d_TokenIsPinLaw_kindOf_54 : decode method_4_code 54 = .ok (.bipush 6, 2) := by decide +kernel
theorem d_TokenIsPinLaw_kindOf_56 : decode method_4_code 56 = .ok (.if_icmp .ne 7, 3) := by decide +kernel
theorem d_TokenIsPinLaw_kindOf_59 : decode method_4_code 59 = .ok (.getstatic 52, 3) := by decide +kernel
theorem d_TokenIsPinLaw_kindOf_62 : decode method_4_code 62 = .ok (.areturn, 1) := by decide +kernel
theorem d_TokenIsPinLaw_kindOf_63 : decode method_4_code 63 = .ok (.iload_n 0, 1) := by decide +kernel
theorem d_TokenIsPinLaw_kindOf_64 : decode method_4_code 64 = .ok (.bipush 7, 2) := by decide +kernel
theorem d_TokenIsPinLaw_kindOf_66 : decode method_4_code 66 = .ok (.if_icmp .ne 7, 3) := by decide +kernel
theorem d_TokenIsPinLaw_kindOf_69 : decode method_4_code 69 = .ok (.getstatic 55, 3) := by decide +kernel
theorem d_TokenIsPinLaw_kindOf_72 : decode method_4_code 72 = .ok (.areturn, 1) := by decide +kernel
theorem d_TokenIsPinLaw_kindOf_73 : decode method_4_code 73 = .ok (.iload_n 0, 1) := by decide +kernel
theorem d_TokenIsPinLaw_kindOf_74 : decode method_4_code 74 = .ok (.bipush 8, 2) := by decide +kernel
theorem d_TokenIsPinLaw_kindOf_76 : decode method_4_code 76 = .ok (.if_icmp .ne 7, 3) := by decide +kernel
theorem d_TokenIsPinLaw_kindOf_79 : decode method_4_code 79 = .ok (.getstatic 58, 3) := by decide +kernel
theorem d_TokenIsPinLaw_kindOf_82 : decode method_4_code 82 = .ok (.areturn, 1) := by decide +kernel
theorem d_TokenIsPinLaw_kindOf_83 : decode method_4_code 83 = .ok (.getstatic 61, 3) := by decide +kernel
theorem d_TokenIsPinLaw_kindOf_86 : decode method_4_code 86 = .ok (.areturn, 1) := by decide +kernel
theorem pn_TokenIsPinLaw_kindOf : plainFor (⟨"com/example/acomp/acomp/TokenIsPinLaw", "kindOf", "(I)Lcom/example/acomp/acomp/HoaLexer$Kind;"⟩ : MethodName) = true := plainFor_of_name (by first | (simp [plainName, overriddenIn, x]; done) | decide +kernel)
theorem pd_TokenIsPinLaw_kindOf : parseMethodDescriptor "(I)Lcom/example/acomp/acomp/HoaLexer$Kind;" = some ⟨[.int], (some (.object "com/example/acomp/acomp/HoaLexer$Kind"))⟩ := by decide +kernel
theorem ef_ko (m : MethodId) (kI : Int32) : entryFrame m #[(.int kI)] 1 = mkF m 0 #[.val (.int kI)] [] := by first | (simp [entryFrame, mkF, argsToLocals, Value.category]; done) | rfl
set_option maxRecDepth 65536 in
set_option maxHeartbeats 40000000 in
theorem rm_ko (l : Launch) (Z : State) (a0 : Array Value) (hw : ∀ d ∈ tables_1, d.before a0 Z = true) (kI : Int32) (kk : Nat) (A : Nat → Addr) (h0 : Heap) (hkk : kI.toInt = (kk : Int)) (hk10 : kk < 10) (SK : own_SK Z h0 A) : Wk.Met l (⟨"com/example/acomp/acomp/TokenIsPinLaw", "kindOf", "(I)Lcom/example/acomp/acomp/HoaLexer$Kind;"⟩ : MethodName) method_4_code 1 (some (.object "com/example/acomp/acomp/HoaLexer$Kind")) ({ frames := 0, cells := 0, slots := 0, locals := 0 } : Room) #[(.int kI)] Z h0 (fun r h L => r = some (.ref (A kk)) ∧ h = h0 ∧ L = []) [] := by
  refine Wk.enter pn_TokenIsPinLaw_kindOf (fun p e s m below meth c T0 k X0 e0 => ?_)
  refine (Wk.Ends.cast (ef_ko m kI) ?_)
  refine Wk.iload_n k X0 d_TokenIsPinLaw_kindOf_0 rfl 1 rfl ?_
  refine Wk.if_ne k X0 d_TokenIsPinLaw_kindOf_1 (by decide) 8 4 (by decide) rfl (fun hc1 => ?_) (fun hc1 => ?_)
  · refine Wk.iload_n k X0 d_TokenIsPinLaw_kindOf_8 rfl 9 rfl ?_
    refine Wk.iconst k X0 d_TokenIsPinLaw_kindOf_9 (1 : Int32) rfl 10 rfl ?_
    refine Wk.icmp_ne k X0 d_TokenIsPinLaw_kindOf_10 (by decide) 17 13 (by decide) rfl (fun hc10 => ?_) (fun hc10 => ?_)
    · refine Wk.iload_n k X0 d_TokenIsPinLaw_kindOf_17 rfl 18 rfl ?_
      refine Wk.iconst k X0 d_TokenIsPinLaw_kindOf_18 (2 : Int32) rfl 19 rfl ?_
      refine Wk.icmp_ne k X0 d_TokenIsPinLaw_kindOf_19 (by decide) 26 22 (by decide) rfl (fun hc19 => ?_) (fun hc19 => ?_)
      · refine Wk.iload_n k X0 d_TokenIsPinLaw_kindOf_26 rfl 27 rfl ?_
        refine Wk.iconst k X0 d_TokenIsPinLaw_kindOf_27 (3 : Int32) rfl 28 rfl ?_
        refine Wk.icmp_ne k X0 d_TokenIsPinLaw_kindOf_28 (by decide) 35 31 (by decide) rfl (fun hc28 => ?_) (fun hc28 => ?_)
        · refine Wk.iload_n k X0 d_TokenIsPinLaw_kindOf_35 rfl 36 rfl ?_
          refine Wk.iconst k X0 d_TokenIsPinLaw_kindOf_36 (4 : Int32) rfl 37 rfl ?_
          refine Wk.icmp_ne k X0 d_TokenIsPinLaw_kindOf_37 (by decide) 44 40 (by decide) rfl (fun hc37 => ?_) (fun hc37 => ?_)
          · refine Wk.iload_n k X0 d_TokenIsPinLaw_kindOf_44 rfl 45 rfl ?_
            refine Wk.iconst k X0 d_TokenIsPinLaw_kindOf_45 (5 : Int32) rfl 46 rfl ?_
            refine Wk.icmp_ne k X0 d_TokenIsPinLaw_kindOf_46 (by decide) 53 49 (by decide) rfl (fun hc46 => ?_) (fun hc46 => ?_)
            · refine Wk.iload_n k X0 d_TokenIsPinLaw_kindOf_53 rfl 54 rfl ?_
              refine Wk.bipush k X0 d_TokenIsPinLaw_kindOf_54 (6 : Int32) rfl 56 rfl ?_
              refine Wk.icmp_ne k X0 d_TokenIsPinLaw_kindOf_56 (by decide) 63 59 (by decide) rfl (fun hc56 => ?_) (fun hc56 => ?_)
              · refine Wk.iload_n k X0 d_TokenIsPinLaw_kindOf_63 rfl 64 rfl ?_
                refine Wk.bipush k X0 d_TokenIsPinLaw_kindOf_64 (7 : Int32) rfl 66 rfl ?_
                refine Wk.icmp_ne k X0 d_TokenIsPinLaw_kindOf_66 (by decide) 73 69 (by decide) rfl (fun hc66 => ?_) (fun hc66 => ?_)
                · refine Wk.iload_n k X0 d_TokenIsPinLaw_kindOf_73 rfl 74 rfl ?_
                  refine Wk.bipush k X0 d_TokenIsPinLaw_kindOf_74 (8 : Int32) rfl 76 rfl ?_
                  refine Wk.icmp_ne k X0 d_TokenIsPinLaw_kindOf_76 (by decide) 83 79 (by decide) rfl (fun hc76 => ?_) (fun hc76 => ?_)
                  · refine Wk.getstatic k X0 d_TokenIsPinLaw_kindOf_83 (host := "") (Or.inl (Wk.w hw 85 rfl)) e0 (SK.2 9 (by decide) "END_OF_INPUT" rfl) 86 rfl fun T1 X1 e1 => ?_
                    have q0 : kk ≠ 0 := fun q => hc1 (Int32.toInt_inj.mp (by rw [hkk, q]; decide))
                    have q1 : kk ≠ 1 := fun q => hc10 (Int32.toInt_inj.mp (by rw [hkk, q]; decide))
                    have q2 : kk ≠ 2 := fun q => hc19 (Int32.toInt_inj.mp (by rw [hkk, q]; decide))
                    have q3 : kk ≠ 3 := fun q => hc28 (Int32.toInt_inj.mp (by rw [hkk, q]; decide))
                    have q4 : kk ≠ 4 := fun q => hc37 (Int32.toInt_inj.mp (by rw [hkk, q]; decide))
                    have q5 : kk ≠ 5 := fun q => hc46 (Int32.toInt_inj.mp (by rw [hkk, q]; decide))
                    have q6 : kk ≠ 6 := fun q => hc56 (Int32.toInt_inj.mp (by rw [hkk, q]; decide))
                    have q7 : kk ≠ 7 := fun q => hc66 (Int32.toInt_inj.mp (by rw [hkk, q]; decide))
                    have q8 : kk ≠ 8 := fun q => hc76 (Int32.toInt_inj.mp (by rw [hkk, q]; decide))
                    have hk : kk = 9 := by omega
                    refine Wk.ret_ref k X1 (t := .object "com/example/acomp/acomp/HoaLexer$Kind") rfl rfl rfl rfl d_TokenIsPinLaw_kindOf_86 (by decide) (by decide) ?_
                    rw [e1, hk]
                    exact ⟨rfl, rfl, rfl⟩
                  · refine Wk.getstatic k X0 d_TokenIsPinLaw_kindOf_79 (host := "") (Or.inl (Wk.w hw 83 rfl)) e0 (SK.2 8 (by decide) "ABORT" rfl) 82 rfl fun T2 X2 e2 => ?_
                    have hk : kk = 8 := own_kk hkk hc76 (by decide)
                    refine Wk.ret_ref k X2 (t := .object "com/example/acomp/acomp/HoaLexer$Kind") rfl rfl rfl rfl d_TokenIsPinLaw_kindOf_82 (by decide) (by decide) ?_
                    rw [e2, hk]
                    exact ⟨rfl, rfl, rfl⟩
                · refine Wk.getstatic k X0 d_TokenIsPinLaw_kindOf_69 (host := "") (Or.inl (Wk.w hw 81 rfl)) e0 (SK.2 7 (by decide) "END" rfl) 72 rfl fun T3 X3 e3 => ?_
                  have hk : kk = 7 := own_kk hkk hc66 (by decide)
                  refine Wk.ret_ref k X3 (t := .object "com/example/acomp/acomp/HoaLexer$Kind") rfl rfl rfl rfl d_TokenIsPinLaw_kindOf_72 (by decide) (by decide) ?_
                  rw [e3, hk]
                  exact ⟨rfl, rfl, rfl⟩
              · refine Wk.getstatic k X0 d_TokenIsPinLaw_kindOf_59 (host := "") (Or.inl (Wk.w hw 87 rfl)) e0 (SK.2 6 (by decide) "BODY" rfl) 62 rfl fun T4 X4 e4 => ?_
                have hk : kk = 6 := own_kk hkk hc56 (by decide)
                refine Wk.ret_ref k X4 (t := .object "com/example/acomp/acomp/HoaLexer$Kind") rfl rfl rfl rfl d_TokenIsPinLaw_kindOf_62 (by decide) (by decide) ?_
                rw [e4, hk]
                exact ⟨rfl, rfl, rfl⟩
            · refine Wk.getstatic k X0 d_TokenIsPinLaw_kindOf_49 (host := "") (Or.inl (Wk.w hw 63 rfl)) e0 (SK.2 5 (by decide) "PUNCTUATION" rfl) 52 rfl fun T5 X5 e5 => ?_
              have hk : kk = 5 := own_kk hkk hc46 (by decide)
              refine Wk.ret_ref k X5 (t := .object "com/example/acomp/acomp/HoaLexer$Kind") rfl rfl rfl rfl d_TokenIsPinLaw_kindOf_52 (by decide) (by decide) ?_
              rw [e5, hk]
              exact ⟨rfl, rfl, rfl⟩
          · refine Wk.getstatic k X0 d_TokenIsPinLaw_kindOf_40 (host := "") (Or.inl (Wk.w hw 65 rfl)) e0 (SK.2 4 (by decide) "ALIAS" rfl) 43 rfl fun T6 X6 e6 => ?_
            have hk : kk = 4 := own_kk hkk hc37 (by decide)
            refine Wk.ret_ref k X6 (t := .object "com/example/acomp/acomp/HoaLexer$Kind") rfl rfl rfl rfl d_TokenIsPinLaw_kindOf_43 (by decide) (by decide) ?_
            rw [e6, hk]
            exact ⟨rfl, rfl, rfl⟩
        · refine Wk.getstatic k X0 d_TokenIsPinLaw_kindOf_31 (host := "") (Or.inl (Wk.w hw 79 rfl)) e0 (SK.2 3 (by decide) "STRING" rfl) 34 rfl fun T7 X7 e7 => ?_
          have hk : kk = 3 := own_kk hkk hc28 (by decide)
          refine Wk.ret_ref k X7 (t := .object "com/example/acomp/acomp/HoaLexer$Kind") rfl rfl rfl rfl d_TokenIsPinLaw_kindOf_34 (by decide) (by decide) ?_
          rw [e7, hk]
          exact ⟨rfl, rfl, rfl⟩
      · refine Wk.getstatic k X0 d_TokenIsPinLaw_kindOf_22 (host := "") (Or.inl (Wk.w hw 61 rfl)) e0 (SK.2 2 (by decide) "INTEGER" rfl) 25 rfl fun T8 X8 e8 => ?_
        have hk : kk = 2 := own_kk hkk hc19 (by decide)
        refine Wk.ret_ref k X8 (t := .object "com/example/acomp/acomp/HoaLexer$Kind") rfl rfl rfl rfl d_TokenIsPinLaw_kindOf_25 (by decide) (by decide) ?_
        rw [e8, hk]
        exact ⟨rfl, rfl, rfl⟩
    · refine Wk.getstatic k X0 d_TokenIsPinLaw_kindOf_13 (host := "") (Or.inl (Wk.w hw 77 rfl)) e0 (SK.2 1 (by decide) "IDENTIFIER" rfl) 16 rfl fun T9 X9 e9 => ?_
      have hk : kk = 1 := own_kk hkk hc10 (by decide)
      refine Wk.ret_ref k X9 (t := .object "com/example/acomp/acomp/HoaLexer$Kind") rfl rfl rfl rfl d_TokenIsPinLaw_kindOf_16 (by decide) (by decide) ?_
      rw [e9, hk]
      exact ⟨rfl, rfl, rfl⟩
  · refine Wk.getstatic k X0 d_TokenIsPinLaw_kindOf_4 (host := "") (Or.inl (Wk.w hw 7 rfl)) e0 (SK.2 0 (by decide) "HEADER_NAME" rfl) 7 rfl fun T10 X10 e10 => ?_
    have hk : kk = 0 := own_kk hkk hc1 (by decide)
    refine Wk.ret_ref k X10 (t := .object "com/example/acomp/acomp/HoaLexer$Kind") rfl rfl rfl rfl d_TokenIsPinLaw_kindOf_7 (by decide) (by decide) ?_
    rw [e10, hk]
    exact ⟨rfl, rfl, rfl⟩
theorem own_rem10 (x : Int32) : ∃ k : Nat, ((x &&& (15 : Int32)) % (10 : Int32)).toInt = (k : Int) ∧ k < 10 := by
  have h1 := c_mask x 15 4 (by decide) (by decide)
  have h2 := (c_irem (x &&& (15 : Int32)) 10 10 (by decide)).1 (by omega)
  exact ⟨((x &&& (15 : Int32)) % (10 : Int32)).toInt.toNat, by omega, by omega⟩
theorem own_rem3 (x : Int32) : (x &&& (3 : Int32)) % (3 : Int32) = 0 ∨ (x &&& (3 : Int32)) % (3 : Int32) = 1 ∨ (x &&& (3 : Int32)) % (3 : Int32) = 2 := by
  have h1 := c_mask x 3 2 (by decide) (by decide)
  have h2 := (c_irem (x &&& (3 : Int32)) 3 3 (by decide)).1 (by omega)
  have h3 : ((x &&& (3 : Int32)) % (3 : Int32)).toInt = 0 ∨ ((x &&& (3 : Int32)) % (3 : Int32)).toInt = 1 ∨ ((x &&& (3 : Int32)) % (3 : Int32)).toInt = 2 := by omega
  rcases h3 with q | q | q
  · exact Or.inl (Int32.toInt_inj.mp q)
  · exact Or.inr (Or.inl (Int32.toInt_inj.mp q))
  · exact Or.inr (Or.inr (Int32.toInt_inj.mp q))
theorem own_chr (x : Int32) : 0 ≤ ((x &&& (255 : Int32)).toUInt32.toUInt16.toUInt32.toInt32).toInt ∧ ((x &&& (255 : Int32)).toUInt32.toUInt16.toUInt32.toInt32).toInt ≤ 255 := by
  have h1 := c_mask x 255 8 (by decide) (by decide)
  have h2 : 0 ≤ (x &&& (255 : Int32)).toInt ∧ (x &&& (255 : Int32)).toInt ≤ 255 := by omega
  rw [own_i2c h2]; exact h2
theorem own_SK.keep {Z : State} {n0 : Nat} {h : Heap} {A : Nat → Addr} (O : Old Z n0 h) (S : own_SK Z Z.heap A) : own_SK Z h A := ⟨trivial, fun i hi nm q => Sta.ext O.2 (S.2 i hi nm q)⟩
theorem pn_TokenIsPinLaw_law : plainFor x = true := plainFor_of_name (by first | (simp [plainName, overriddenIn, x]; done) | decide +kernel)
set_option maxRecDepth 65536 in
set_option maxHeartbeats 40000000 in
theorem law_00S {p : Program} {l : Launch} {e : Env} {s0 : State} {kz0 : Nat} {m : MethodId} {args : Array Value} {below : List Frame} {meth : Method} {c : Code} {Z : State} {a0 : Array Value} {h0 : Heap} {n0 : Nat} {T0 : State} (hw : ∀ d ∈ tables_1, d.before a0 Z = true) (k : Wk.K p (s0.setVm s0.vm) m meth c Z x code maxLocals ret) (X0 : Stand p l e room_1 (s0.setVm s0.vm) m args below meth c T0 [] 0 0) (p0 p1 p2 p3 k1I k2I a0c a1c b0c b1c : Int32) (e0 : T0.heap = h0) (S0' : s0.Since s0.vm kz0) (hk0 : kz0 ≤ h0.size) (P0 : CHv Z own_EL s0.vm h0) (kk : Nat) (A : Nat → Addr) (cz : Int32) (hcz : ¬ cz = 0) (Z0 : n0 ≤ h0.size) (O0 : Old Z n0 h0) (S0 : Sta Z Z.heap "java/lang/String" "COMPACT_STRINGS" "Z" (.int cz)) (SK : own_SK Z Z.heap A) (ha0 : 0 ≤ a0c.toInt ∧ a0c.toInt ≤ 255) (ha1 : 0 ≤ a1c.toInt ∧ a1c.toInt ≤ 255) (hb0 : 0 ≤ b0c.toInt ∧ b0c.toInt ≤ 255) (hb1 : 0 ≤ b1c.toInt ∧ b1c.toInt ≤ 255) (hk1 : k1I.toInt = (kk : Int)) (h10 : kk < 10) (hk2 : k2I.toInt = (kk : Int)) : Wh.Ends p e s0 below room_1 ((fun (_ : Vm) v (_ : Vm) (_ : Heap) L => v = some (.int 1) ∧ Fr n0 L) s0.vm) T0 (mkF m 132 #[.val (.int p0), .val (.int p1), .val (.int p2), .val (.int p3), .val (.int k1I), .val (.int k2I), .val (.int (0 : Int32)), .val (.int a0c), .val (.int a1c), .val (.int (0 : Int32)), .val (.int b0c), .val (.int b1c), .unset, .unset, .unset] []) := by
  refine Wh.new k X0 at_132 (Wk.w hw 0 rfl) (Wk.w hw 1 rfl) (Wk.w hw 2 rfl) e0 (by decide) (by decide) 135 rfl fun T1 h1 tk q1 X1 e1 E1 A1 D1 => ?_
  have g1 : n0 ≤ tk := by rw [q1]; exact Z0
  have hs2 : h0.size ≤ tk := by rw [q1]; exact (Keep.refl h0 []).1
  have sz1 := Nat.le_trans Z0 E1.1
  have hk3 := Nat.le_trans hk0 E1.1
  have K4 := (Keep.refl h0 []).ext E1
  have f5 : Fld Z h1 tk "com/example/acomp/acomp/HoaLexer$Token" "kind" "Lcom/example/acomp/acomp/HoaLexer$Kind;" .null := D1 (Or.inr (Wk.w hw 40 rfl)) (ty := (.object "com/example/acomp/acomp/HoaLexer$Kind")) (by decide)
  have f6 : Fld Z h1 tk "com/example/acomp/acomp/HoaLexer$Token" "text" "Ljava/lang/String;" .null := D1 (Or.inr (Wk.w hw 42 rfl)) (ty := (.object "java/lang/String")) (by decide)
  have f7 : Fld Z h1 tk "com/example/acomp/acomp/HoaLexer$Token" "line" "I" (.int (0 : Int32)) := D1 (Or.inr (Wk.w hw 44 rfl)) (ty := .int) (by decide)
  refine Wh.dup k X1 at_135 rfl 136 rfl ?_
  refine Wh.iload k X1 at_136 rfl 138 rfl ?_
  refine Wh.callS k X1 [(.int k1I)] [(.ref tk), (.ref tk)] at_138 (rm_ko l Z a0 hw _ kk A _ hk1 h10 (own_SK.keep (O0.keep K4 all0) SK)) e1 (Wk.w hw 3 rfl) (Wk.w hw 4 rfl) (Wk.w hw 5 rfl) (Wk.w hw 6 rfl) (by decide) rfl pd_TokenIsPinLaw_kindOf rfl rfl (Nat.le_of_ble_eq_true rfl) (Nat.le_of_ble_eq_true rfl) (Nat.le_of_ble_eq_true rfl) (Nat.le_of_ble_eq_true rfl) 141 rfl fun T8 v8 L8 X8 hQ8 => ?_
  obtain ⟨rfl, e8, rfl⟩ := hQ8
  rw [List.append_nil] at X8
  show Wh.Ends _ _ _ _ _ _ _ (mkF m 141 _ [(.ref (A kk)), (.ref tk), (.ref tk)])
  refine Wh.iload k X8 at_141 rfl 143 rfl ?_
  refine Wh.iload k X8 at_143 rfl 145 rfl ?_
  refine Wh.iload k X8 at_145 rfl 147 rfl ?_
  have G1 := CHr.keep K4 (fun x hx => absurd hx (List.not_mem_nil)) P0
  refine Wh.callSH k X8 (PP := (fun vm => CHr Z own_EL s0.vm h1 vm h1)) [(.int (0 : Int32)), (.int a0c), (.int a1c)] [(.ref (A kk)), (.ref tk), (.ref tk)] at_147 (rm_st0 l Z a0 hw a0c a1c  h1 n0 sz1 cz hcz (O0.keep K4 all0) S0) e8 S0' hk3 (fun _ _ _ _ _ _ _ Y => CHv.at Y k.2.1 (own_EW hw) G1.1) (fun vm P => P.1) (Wk.w hw 10 rfl) (Wk.w hw 11 rfl) (Wk.w hw 5 rfl) (Wk.w hw 12 rfl) (by decide) rfl pd_TokenIsPinLaw_str rfl rfl (Nat.le_of_ble_eq_true rfl) (Nat.le_of_ble_eq_true rfl) (Nat.le_of_ble_eq_true rfl) (Nat.le_of_ble_eq_true rfl) 150 rfl fun vp9 vm9 kz9 T9 v9 L9 PP9 kn9 X9 S9 hk9 hQ9 => ?_
  obtain ⟨o1, b1, rfl, ho1, N9q, K9q, ⟨ES1, FC1, FV1, AS1⟩, CR1⟩ := hQ9
  show Wh.Ends _ _ _ _ _ _ _ (mkF m 150 _ [(.ref o1), (.ref (A kk)), (.ref tk), (.ref tk)])
  have N9 := Fr.app (Fr.nil n0) N9q
  have sz9 := Nat.le_trans sz1 K9q.1
  have CRT := G1.trans (PP9.trans CR1)
  have not1 : o1 ≠ tk := Ne.symm (Nat.ne_of_lt (Nat.lt_of_lt_of_le A1.lt ho1))
  have K10 := K4.trans K9q all0
  have f11 := A1.keep K9q
  have f12 := f5.keep K9q nin0
  have f13 := f6.keep K9q nin0
  have f14 := f7.keep K9q nin0
  have nbt : b1 ≠ tk := by obtain ⟨cc, Ar, -⟩ := AS1; exact Ne.symm (ne_arr f11 (Wk.w hw 1 rfl) Ar)
  refine Wh.iload_n kn9 X9 at_150 rfl 151 rfl ?_
  refine Wh.callI kn9 X9 [(.ref (A kk)), (.ref o1), (.int p3)] [(.ref tk)] at_151 (rm_ti l Z a0 hw tk _ o1 p3 _ _ _ T9.heap n0 g1 f11 f12 f13 f14) (rfl : T9.heap = T9.heap) rfl (Wk.w hw 35 rfl) (Wk.w hw 36 rfl) (Wk.w hw 2 rfl) (Wk.w hw 37 rfl) (by decide) rfl pd_Token_init rfl rfl (Nat.le_of_ble_eq_true rfl) (Nat.le_of_ble_eq_true rfl) (Nat.le_of_ble_eq_true rfl) (Nat.le_of_ble_eq_true rfl) 154 rfl fun T15 v15 L15 X15 hQ15 => ?_
  obtain ⟨rfl, N15q, K15q, E15t, F15k, F15x⟩ := hQ15
  show Wh.Ends _ _ _ _ _ _ _ (mkF m 154 _ [(.ref tk)])
  have N15 := Fr.app N9 N15q
  have sz15 := Nat.le_trans sz9 K15q.1
  have hk16 := Nat.le_trans hk9 K15q.1
  have K17 := K10.trans K15q (allS (Or.inr hs2) all0)
  have f18 := ES1.keep K15q
  have f19 := FC1.keep K15q (ninS not1 nin0)
  have f20 := FV1.keep K15q (ninS not1 nin0)
  have f21 := AS1.keep K15q (ninS nbt nin0)
  refine Wh.astore kn9 X15 at_154 rfl #[.val (.int p0), .val (.int p1), .val (.int p2), .val (.int p3), .val (.int k1I), .val (.int k2I), .val (.int (0 : Int32)), .val (.int a0c), .val (.int a1c), .val (.int (0 : Int32)), .val (.int b0c), .val (.int b1c), .val (.ref tk), .unset, .unset] rfl 156 rfl ?_
  refine Wh.aload kn9 X15 at_156 rfl rfl 158 rfl ?_
  refine Wh.iload kn9 X15 at_158 rfl 160 rfl ?_
  refine Wh.callS kn9 X15 [(.int k2I)] [(.ref tk)] at_160 (rm_ko l Z a0 hw _ kk A _ hk2 h10 (own_SK.keep (O0.keep K17 all0) SK)) (rfl : T15.heap = T15.heap) (Wk.w hw 3 rfl) (Wk.w hw 4 rfl) (Wk.w hw 5 rfl) (Wk.w hw 6 rfl) (by decide) rfl pd_TokenIsPinLaw_kindOf rfl rfl (Nat.le_of_ble_eq_true rfl) (Nat.le_of_ble_eq_true rfl) (Nat.le_of_ble_eq_true rfl) (Nat.le_of_ble_eq_true rfl) 163 rfl fun T22 v22 L22 X22 hQ22 => ?_
  obtain ⟨rfl, e22, rfl⟩ := hQ22
  rw [List.append_nil] at X22
  show Wh.Ends _ _ _ _ _ _ _ (mkF m 163 _ [(.ref (A kk)), (.ref tk)])
  refine Wh.iload kn9 X22 at_163 rfl 165 rfl ?_
  refine Wh.iload kn9 X22 at_165 rfl 167 rfl ?_
  refine Wh.iload kn9 X22 at_167 rfl 169 rfl ?_
  have G2 := CHr.keep K15q (allS (Safe.exa kn9.2.1.alike f11 (by decide) (by decide)) all0) CRT.1
  refine Wh.callSH kn9 X22 (PP := (fun vm => CHr Z own_EL vm9 T15.heap vm T15.heap)) [(.int (0 : Int32)), (.int b0c), (.int b1c)] [(.ref (A kk)), (.ref tk)] at_169 (rm_st0 l Z a0 hw b0c b1c  T15.heap n0 sz15 cz hcz (O0.keep K17 all0) S0) e22 S9 hk16 (fun _ _ _ _ _ _ _ Y => CHv.at Y kn9.2.1 (own_EW hw) G2.1) (fun vm P => P.1) (Wk.w hw 10 rfl) (Wk.w hw 11 rfl) (Wk.w hw 5 rfl) (Wk.w hw 12 rfl) (by decide) rfl pd_TokenIsPinLaw_str rfl rfl (Nat.le_of_ble_eq_true rfl) (Nat.le_of_ble_eq_true rfl) (Nat.le_of_ble_eq_true rfl) (Nat.le_of_ble_eq_true rfl) 172 rfl fun vp23 vm23 kz23 T23 v23 L23 PP23 kn23 X23 S23 hk23 hQ23 => ?_
  obtain ⟨o2, b2, rfl, ho2, N23q, K23q, ⟨ES2, FC2, FV2, AS2⟩, CR2⟩ := hQ23
  show Wh.Ends _ _ _ _ _ _ _ (mkF m 172 _ [(.ref o2), (.ref (A kk)), (.ref tk)])
  have N23 := Fr.app N15 N23q
  have sz23 := Nat.le_trans sz15 K23q.1
  have noo : o1 ≠ o2 := Nat.ne_of_lt (Nat.lt_of_lt_of_le f18.lt ho2)
  have K24 := K17.trans K23q all0
  have f25 := f18.keep K23q
  have f26 := f19.keep K23q nin0
  have f27 := f20.keep K23q nin0
  have f28 := f21.keep K23q nin0
  have f29 := E15t.keep K23q
  have f30 := F15k.keep K23q nin0
  have f31 := F15x.keep K23q nin0
  refine Wh.callV kn23 X23 [(.ref (A kk)), (.ref o2)] [] at_172 (rm_isS l Z a0 hw tk _ o2 o1 b1 b2 ([] : List Int32) ([] : List Int32) T23.heap noo cz hcz (Sta.ext (O0.keep K24 all0).2 S0) ⟨f25, f26, f27, f28⟩ ⟨ES2, FC2, FV2, AS2⟩ (rm_le00 l Z a0 hw b1 b2  T23.heap f28 AS2) f30 f31) (rfl : T23.heap = T23.heap) f29 (Wk.w hw 45 rfl) (Wk.w hw 46 rfl) (Wk.w hw 48 rfl) (Wk.w hw 47 rfl) (Wk.w hw 2 rfl) (Wk.w hw 49 rfl) (by decide) rfl pd_Token_is rfl rfl (Nat.le_of_ble_eq_true rfl) (Nat.le_of_ble_eq_true rfl) (Nat.le_of_ble_eq_true rfl) (Nat.le_of_ble_eq_true rfl) 175 rfl fun T32 v32 L32 X32 hQ32 => ?_
  obtain ⟨rfl, e32, rfl⟩ := hQ32
  rw [List.append_nil] at X32
  show Wh.Ends _ _ _ _ _ _ _ (mkF m 175 _ [(.int (if ([] : List Int32) = ([] : List Int32) then (1 : Int32) else 0))])
  refine Wh.istore kn23 X32 at_175 #[.val (.int p0), .val (.int p1), .val (.int p2), .val (.int p3), .val (.int k1I), .val (.int k2I), .val (.int (0 : Int32)), .val (.int a0c), .val (.int a1c), .val (.int (0 : Int32)), .val (.int b0c), .val (.int b1c), .val (.ref tk), .val (.int (if ([] : List Int32) = ([] : List Int32) then (1 : Int32) else 0)), .unset] rfl 177 rfl ?_
  refine Wh.iload kn23 X32 at_177 rfl 179 rfl ?_
  refine Wh.iload kn23 X32 at_179 rfl 181 rfl ?_
  refine Wh.icmp_ne kn23 X32 at_181 (by decide) 221 184 (by decide) rfl (fun hc181 => ?_) (fun hc181 => ?_)
  · exact absurd (Int32.toInt_inj.mp (hk1.trans hk2.symm)) hc181
  · refine Wh.iload kn23 X32 at_184 rfl 186 rfl ?_
    refine Wh.iload kn23 X32 at_186 rfl 188 rfl ?_
    refine Wh.icmp_ne kn23 X32 at_188 (by decide) 221 191 (by decide) rfl (fun hz => by first | exact absurd hz (by decide) | exact absurd (by decide) hz) (fun _ => ?_)
    refine Wh.iload kn23 X32 at_191 rfl 193 rfl ?_
    refine Wh.iconst kn23 X32 at_193 (1 : Int32) rfl 194 rfl ?_
    refine Wh.icmp_lt kn23 X32 at_194 (by decide) 204 197 (by decide) rfl (fun _ => ?_) (fun hz => by first | exact absurd hz (by decide) | exact absurd (by decide) hz)
    refine Wh.iload kn23 X32 at_204 rfl 206 rfl ?_
    refine Wh.iconst kn23 X32 at_206 (2 : Int32) rfl 207 rfl ?_
    refine Wh.icmp_lt kn23 X32 at_207 (by decide) 217 210 (by decide) rfl (fun _ => ?_) (fun hz => by first | exact absurd hz (by decide) | exact absurd (by decide) hz)
    refine Wh.iconst kn23 X32 at_217 (1 : Int32) rfl 218 rfl ?_
    refine Wh.goto kn23 X32 at_218 (by decide) 222 (by decide) ?_
    refine Wh.istore kn23 X32 at_222 #[.val (.int p0), .val (.int p1), .val (.int p2), .val (.int p3), .val (.int k1I), .val (.int k2I), .val (.int (0 : Int32)), .val (.int a0c), .val (.int a1c), .val (.int (0 : Int32)), .val (.int b0c), .val (.int b1c), .val (.ref tk), .val (.int (if ([] : List Int32) = ([] : List Int32) then (1 : Int32) else 0)), .val (.int (1 : Int32))] rfl 224 rfl ?_
    refine Wh.iload kn23 X32 at_224 rfl 226 rfl ?_
    refine Wh.iload kn23 X32 at_226 rfl 228 rfl ?_
    refine Wh.icmp_ne kn23 X32 at_228 (by decide) 235 231 (by decide) rfl (fun hz => absurd (if_pos rfl) hz) (fun _ => ?_)
    refine Wh.iconst kn23 X32 at_231 (1 : Int32) rfl 232 rfl ?_
    refine Wh.goto kn23 X32 at_232 (by decide) 236 (by decide) ?_
    exact Wh.ret_bool kn23 X32 S23 (Nat.le_trans hk23 (Nat.le_of_eq (congrArg (fun hh : Heap => hh.size) e32).symm)) rfl at_236 (by decide) (by decide) (by decide) ⟨rfl, N23⟩
set_option maxRecDepth 65536 in
set_option maxHeartbeats 40000000 in
theorem law_00D {p : Program} {l : Launch} {e : Env} {s0 : State} {kz0 : Nat} {m : MethodId} {args : Array Value} {below : List Frame} {meth : Method} {c : Code} {Z : State} {a0 : Array Value} {h0 : Heap} {n0 : Nat} {T0 : State} (hw : ∀ d ∈ tables_1, d.before a0 Z = true) (k : Wk.K p (s0.setVm s0.vm) m meth c Z x code maxLocals ret) (X0 : Stand p l e room_1 (s0.setVm s0.vm) m args below meth c T0 [] 0 0) (p0 p1 p2 p3 k1I k2I a0c a1c b0c b1c : Int32) (e0 : T0.heap = h0) (S0' : s0.Since s0.vm kz0) (hk0 : kz0 ≤ h0.size) (P0 : CHv Z own_EL s0.vm h0) (kk : Nat) (A : Nat → Addr) (cz : Int32) (hcz : ¬ cz = 0) (Z0 : n0 ≤ h0.size) (O0 : Old Z n0 h0) (S0 : Sta Z Z.heap "java/lang/String" "COMPACT_STRINGS" "Z" (.int cz)) (SK : own_SK Z Z.heap A) (ha0 : 0 ≤ a0c.toInt ∧ a0c.toInt ≤ 255) (ha1 : 0 ≤ a1c.toInt ∧ a1c.toInt ≤ 255) (hb0 : 0 ≤ b0c.toInt ∧ b0c.toInt ≤ 255) (hb1 : 0 ≤ b1c.toInt ∧ b1c.toInt ≤ 255) (hk1 : k1I.toInt = (kk : Int)) (h10 : kk < 10) (kq : Nat) (hk2 : k2I.toInt = (kq : Int)) (h10q : kq < 10) (hkq : ¬ kk = kq) (hAA : A kk ≠ A kq) : Wh.Ends p e s0 below room_1 ((fun (_ : Vm) v (_ : Vm) (_ : Heap) L => v = some (.int 1) ∧ Fr n0 L) s0.vm) T0 (mkF m 132 #[.val (.int p0), .val (.int p1), .val (.int p2), .val (.int p3), .val (.int k1I), .val (.int k2I), .val (.int (0 : Int32)), .val (.int a0c), .val (.int a1c), .val (.int (0 : Int32)), .val (.int b0c), .val (.int b1c), .unset, .unset, .unset] []) := by
  refine Wh.new k X0 at_132 (Wk.w hw 0 rfl) (Wk.w hw 1 rfl) (Wk.w hw 2 rfl) e0 (by decide) (by decide) 135 rfl fun T1 h1 tk q1 X1 e1 E1 A1 D1 => ?_
  have g1 : n0 ≤ tk := by rw [q1]; exact Z0
  have hs2 : h0.size ≤ tk := by rw [q1]; exact (Keep.refl h0 []).1
  have sz1 := Nat.le_trans Z0 E1.1
  have hk3 := Nat.le_trans hk0 E1.1
  have K4 := (Keep.refl h0 []).ext E1
  have f5 : Fld Z h1 tk "com/example/acomp/acomp/HoaLexer$Token" "kind" "Lcom/example/acomp/acomp/HoaLexer$Kind;" .null := D1 (Or.inr (Wk.w hw 40 rfl)) (ty := (.object "com/example/acomp/acomp/HoaLexer$Kind")) (by decide)
  have f6 : Fld Z h1 tk "com/example/acomp/acomp/HoaLexer$Token" "text" "Ljava/lang/String;" .null := D1 (Or.inr (Wk.w hw 42 rfl)) (ty := (.object "java/lang/String")) (by decide)
  have f7 : Fld Z h1 tk "com/example/acomp/acomp/HoaLexer$Token" "line" "I" (.int (0 : Int32)) := D1 (Or.inr (Wk.w hw 44 rfl)) (ty := .int) (by decide)
  refine Wh.dup k X1 at_135 rfl 136 rfl ?_
  refine Wh.iload k X1 at_136 rfl 138 rfl ?_
  refine Wh.callS k X1 [(.int k1I)] [(.ref tk), (.ref tk)] at_138 (rm_ko l Z a0 hw _ kk A _ hk1 h10 (own_SK.keep (O0.keep K4 all0) SK)) e1 (Wk.w hw 3 rfl) (Wk.w hw 4 rfl) (Wk.w hw 5 rfl) (Wk.w hw 6 rfl) (by decide) rfl pd_TokenIsPinLaw_kindOf rfl rfl (Nat.le_of_ble_eq_true rfl) (Nat.le_of_ble_eq_true rfl) (Nat.le_of_ble_eq_true rfl) (Nat.le_of_ble_eq_true rfl) 141 rfl fun T8 v8 L8 X8 hQ8 => ?_
  obtain ⟨rfl, e8, rfl⟩ := hQ8
  rw [List.append_nil] at X8
  show Wh.Ends _ _ _ _ _ _ _ (mkF m 141 _ [(.ref (A kk)), (.ref tk), (.ref tk)])
  refine Wh.iload k X8 at_141 rfl 143 rfl ?_
  refine Wh.iload k X8 at_143 rfl 145 rfl ?_
  refine Wh.iload k X8 at_145 rfl 147 rfl ?_
  have G1 := CHr.keep K4 (fun x hx => absurd hx (List.not_mem_nil)) P0
  refine Wh.callSH k X8 (PP := (fun vm => CHr Z own_EL s0.vm h1 vm h1)) [(.int (0 : Int32)), (.int a0c), (.int a1c)] [(.ref (A kk)), (.ref tk), (.ref tk)] at_147 (rm_st0 l Z a0 hw a0c a1c  h1 n0 sz1 cz hcz (O0.keep K4 all0) S0) e8 S0' hk3 (fun _ _ _ _ _ _ _ Y => CHv.at Y k.2.1 (own_EW hw) G1.1) (fun vm P => P.1) (Wk.w hw 10 rfl) (Wk.w hw 11 rfl) (Wk.w hw 5 rfl) (Wk.w hw 12 rfl) (by decide) rfl pd_TokenIsPinLaw_str rfl rfl (Nat.le_of_ble_eq_true rfl) (Nat.le_of_ble_eq_true rfl) (Nat.le_of_ble_eq_true rfl) (Nat.le_of_ble_eq_true rfl) 150 rfl fun vp9 vm9 kz9 T9 v9 L9 PP9 kn9 X9 S9 hk9 hQ9 => ?_
  obtain ⟨o1, b1, rfl, ho1, N9q, K9q, ⟨ES1, FC1, FV1, AS1⟩, CR1⟩ := hQ9
  show Wh.Ends _ _ _ _ _ _ _ (mkF m 150 _ [(.ref o1), (.ref (A kk)), (.ref tk), (.ref tk)])
  have N9 := Fr.app (Fr.nil n0) N9q
  have sz9 := Nat.le_trans sz1 K9q.1
  have CRT := G1.trans (PP9.trans CR1)
  have not1 : o1 ≠ tk := Ne.symm (Nat.ne_of_lt (Nat.lt_of_lt_of_le A1.lt ho1))
  have K10 := K4.trans K9q all0
  have f11 := A1.keep K9q
  have f12 := f5.keep K9q nin0
  have f13 := f6.keep K9q nin0
  have f14 := f7.keep K9q nin0
  have nbt : b1 ≠ tk := by obtain ⟨cc, Ar, -⟩ := AS1; exact Ne.symm (ne_arr f11 (Wk.w hw 1 rfl) Ar)
  refine Wh.iload_n kn9 X9 at_150 rfl 151 rfl ?_
  refine Wh.callI kn9 X9 [(.ref (A kk)), (.ref o1), (.int p3)] [(.ref tk)] at_151 (rm_ti l Z a0 hw tk _ o1 p3 _ _ _ T9.heap n0 g1 f11 f12 f13 f14) (rfl : T9.heap = T9.heap) rfl (Wk.w hw 35 rfl) (Wk.w hw 36 rfl) (Wk.w hw 2 rfl) (Wk.w hw 37 rfl) (by decide) rfl pd_Token_init rfl rfl (Nat.le_of_ble_eq_true rfl) (Nat.le_of_ble_eq_true rfl) (Nat.le_of_ble_eq_true rfl) (Nat.le_of_ble_eq_true rfl) 154 rfl fun T15 v15 L15 X15 hQ15 => ?_
  obtain ⟨rfl, N15q, K15q, E15t, F15k, F15x⟩ := hQ15
  show Wh.Ends _ _ _ _ _ _ _ (mkF m 154 _ [(.ref tk)])
  have N15 := Fr.app N9 N15q
  have sz15 := Nat.le_trans sz9 K15q.1
  have hk16 := Nat.le_trans hk9 K15q.1
  have K17 := K10.trans K15q (allS (Or.inr hs2) all0)
  have f18 := ES1.keep K15q
  have f19 := FC1.keep K15q (ninS not1 nin0)
  have f20 := FV1.keep K15q (ninS not1 nin0)
  have f21 := AS1.keep K15q (ninS nbt nin0)
  refine Wh.astore kn9 X15 at_154 rfl #[.val (.int p0), .val (.int p1), .val (.int p2), .val (.int p3), .val (.int k1I), .val (.int k2I), .val (.int (0 : Int32)), .val (.int a0c), .val (.int a1c), .val (.int (0 : Int32)), .val (.int b0c), .val (.int b1c), .val (.ref tk), .unset, .unset] rfl 156 rfl ?_
  refine Wh.aload kn9 X15 at_156 rfl rfl 158 rfl ?_
  refine Wh.iload kn9 X15 at_158 rfl 160 rfl ?_
  refine Wh.callS kn9 X15 [(.int k2I)] [(.ref tk)] at_160 (rm_ko l Z a0 hw _ kq A _ hk2 h10q (own_SK.keep (O0.keep K17 all0) SK)) (rfl : T15.heap = T15.heap) (Wk.w hw 3 rfl) (Wk.w hw 4 rfl) (Wk.w hw 5 rfl) (Wk.w hw 6 rfl) (by decide) rfl pd_TokenIsPinLaw_kindOf rfl rfl (Nat.le_of_ble_eq_true rfl) (Nat.le_of_ble_eq_true rfl) (Nat.le_of_ble_eq_true rfl) (Nat.le_of_ble_eq_true rfl) 163 rfl fun T22 v22 L22 X22 hQ22 => ?_
  obtain ⟨rfl, e22, rfl⟩ := hQ22
  rw [List.append_nil] at X22
  show Wh.Ends _ _ _ _ _ _ _ (mkF m 163 _ [(.ref (A kq)), (.ref tk)])
  refine Wh.iload kn9 X22 at_163 rfl 165 rfl ?_
  refine Wh.iload kn9 X22 at_165 rfl 167 rfl ?_
  refine Wh.iload kn9 X22 at_167 rfl 169 rfl ?_
  have G2 := CHr.keep K15q (allS (Safe.exa kn9.2.1.alike f11 (by decide) (by decide)) all0) CRT.1
  refine Wh.callSH kn9 X22 (PP := (fun vm => CHr Z own_EL vm9 T15.heap vm T15.heap)) [(.int (0 : Int32)), (.int b0c), (.int b1c)] [(.ref (A kq)), (.ref tk)] at_169 (rm_st0 l Z a0 hw b0c b1c  T15.heap n0 sz15 cz hcz (O0.keep K17 all0) S0) e22 S9 hk16 (fun _ _ _ _ _ _ _ Y => CHv.at Y kn9.2.1 (own_EW hw) G2.1) (fun vm P => P.1) (Wk.w hw 10 rfl) (Wk.w hw 11 rfl) (Wk.w hw 5 rfl) (Wk.w hw 12 rfl) (by decide) rfl pd_TokenIsPinLaw_str rfl rfl (Nat.le_of_ble_eq_true rfl) (Nat.le_of_ble_eq_true rfl) (Nat.le_of_ble_eq_true rfl) (Nat.le_of_ble_eq_true rfl) 172 rfl fun vp23 vm23 kz23 T23 v23 L23 PP23 kn23 X23 S23 hk23 hQ23 => ?_
  obtain ⟨o2, b2, rfl, ho2, N23q, K23q, ⟨ES2, FC2, FV2, AS2⟩, CR2⟩ := hQ23
  show Wh.Ends _ _ _ _ _ _ _ (mkF m 172 _ [(.ref o2), (.ref (A kq)), (.ref tk)])
  have N23 := Fr.app N15 N23q
  have sz23 := Nat.le_trans sz15 K23q.1
  have noo : o1 ≠ o2 := Nat.ne_of_lt (Nat.lt_of_lt_of_le f18.lt ho2)
  have K24 := K17.trans K23q all0
  have f25 := f18.keep K23q
  have f26 := f19.keep K23q nin0
  have f27 := f20.keep K23q nin0
  have f28 := f21.keep K23q nin0
  have f29 := E15t.keep K23q
  have f30 := F15k.keep K23q nin0
  have f31 := F15x.keep K23q nin0
  refine Wh.callV kn23 X23 [(.ref (A kq)), (.ref o2)] [] at_172 (rm_isD l Z a0 hw tk _ o2 _ hAA o1 b1 b2 ([] : List Int32) ([] : List Int32) T23.heap noo cz hcz (Sta.ext (O0.keep K24 all0).2 S0) ⟨f25, f26, f27, f28⟩ ⟨ES2, FC2, FV2, AS2⟩ (rm_le00 l Z a0 hw b1 b2  T23.heap f28 AS2) f30 f31) (rfl : T23.heap = T23.heap) f29 (Wk.w hw 45 rfl) (Wk.w hw 46 rfl) (Wk.w hw 48 rfl) (Wk.w hw 47 rfl) (Wk.w hw 2 rfl) (Wk.w hw 49 rfl) (by decide) rfl pd_Token_is rfl rfl (Nat.le_of_ble_eq_true rfl) (Nat.le_of_ble_eq_true rfl) (Nat.le_of_ble_eq_true rfl) (Nat.le_of_ble_eq_true rfl) 175 rfl fun T32 v32 L32 X32 hQ32 => ?_
  obtain ⟨rfl, e32, rfl⟩ := hQ32
  rw [List.append_nil] at X32
  show Wh.Ends _ _ _ _ _ _ _ (mkF m 175 _ [(.int (0 : Int32))])
  refine Wh.istore kn23 X32 at_175 #[.val (.int p0), .val (.int p1), .val (.int p2), .val (.int p3), .val (.int k1I), .val (.int k2I), .val (.int (0 : Int32)), .val (.int a0c), .val (.int a1c), .val (.int (0 : Int32)), .val (.int b0c), .val (.int b1c), .val (.ref tk), .val (.int (0 : Int32)), .unset] rfl 177 rfl ?_
  refine Wh.iload kn23 X32 at_177 rfl 179 rfl ?_
  refine Wh.iload kn23 X32 at_179 rfl 181 rfl ?_
  refine Wh.icmp_ne kn23 X32 at_181 (by decide) 221 184 (by decide) rfl (fun hc181 => ?_) (fun hc181 => ?_)
  · refine Wh.iconst kn23 X32 at_221 (0 : Int32) rfl 222 rfl ?_
    refine Wh.istore kn23 X32 at_222 #[.val (.int p0), .val (.int p1), .val (.int p2), .val (.int p3), .val (.int k1I), .val (.int k2I), .val (.int (0 : Int32)), .val (.int a0c), .val (.int a1c), .val (.int (0 : Int32)), .val (.int b0c), .val (.int b1c), .val (.ref tk), .val (.int (0 : Int32)), .val (.int (0 : Int32))] rfl 224 rfl ?_
    refine Wh.iload kn23 X32 at_224 rfl 226 rfl ?_
    refine Wh.iload kn23 X32 at_226 rfl 228 rfl ?_
    refine Wh.icmp_ne kn23 X32 at_228 (by decide) 235 231 (by decide) rfl (fun hz => absurd rfl hz) (fun _ => ?_)
    refine Wh.iconst kn23 X32 at_231 (1 : Int32) rfl 232 rfl ?_
    refine Wh.goto kn23 X32 at_232 (by decide) 236 (by decide) ?_
    exact Wh.ret_bool kn23 X32 S23 (Nat.le_trans hk23 (Nat.le_of_eq (congrArg (fun hh : Heap => hh.size) e32).symm)) rfl at_236 (by decide) (by decide) (by decide) ⟨rfl, N23⟩
  · exact absurd (own_kk hk1 hc181 hk2) hkq
set_option maxRecDepth 65536 in
set_option maxHeartbeats 40000000 in
theorem law_01S {p : Program} {l : Launch} {e : Env} {s0 : State} {kz0 : Nat} {m : MethodId} {args : Array Value} {below : List Frame} {meth : Method} {c : Code} {Z : State} {a0 : Array Value} {h0 : Heap} {n0 : Nat} {T0 : State} (hw : ∀ d ∈ tables_1, d.before a0 Z = true) (k : Wk.K p (s0.setVm s0.vm) m meth c Z x code maxLocals ret) (X0 : Stand p l e room_1 (s0.setVm s0.vm) m args below meth c T0 [] 0 0) (p0 p1 p2 p3 k1I k2I a0c a1c b0c b1c : Int32) (e0 : T0.heap = h0) (S0' : s0.Since s0.vm kz0) (hk0 : kz0 ≤ h0.size) (P0 : CHv Z own_EL s0.vm h0) (kk : Nat) (A : Nat → Addr) (cz : Int32) (hcz : ¬ cz = 0) (Z0 : n0 ≤ h0.size) (O0 : Old Z n0 h0) (S0 : Sta Z Z.heap "java/lang/String" "COMPACT_STRINGS" "Z" (.int cz)) (SK : own_SK Z Z.heap A) (ha0 : 0 ≤ a0c.toInt ∧ a0c.toInt ≤ 255) (ha1 : 0 ≤ a1c.toInt ∧ a1c.toInt ≤ 255) (hb0 : 0 ≤ b0c.toInt ∧ b0c.toInt ≤ 255) (hb1 : 0 ≤ b1c.toInt ∧ b1c.toInt ≤ 255) (hk1 : k1I.toInt = (kk : Int)) (h10 : kk < 10) (hk2 : k2I.toInt = (kk : Int)) : Wh.Ends p e s0 below room_1 ((fun (_ : Vm) v (_ : Vm) (_ : Heap) L => v = some (.int 1) ∧ Fr n0 L) s0.vm) T0 (mkF m 132 #[.val (.int p0), .val (.int p1), .val (.int p2), .val (.int p3), .val (.int k1I), .val (.int k2I), .val (.int (0 : Int32)), .val (.int a0c), .val (.int a1c), .val (.int (1 : Int32)), .val (.int b0c), .val (.int b1c), .unset, .unset, .unset] []) := by
  refine Wh.new k X0 at_132 (Wk.w hw 0 rfl) (Wk.w hw 1 rfl) (Wk.w hw 2 rfl) e0 (by decide) (by decide) 135 rfl fun T1 h1 tk q1 X1 e1 E1 A1 D1 => ?_
  have g1 : n0 ≤ tk := by rw [q1]; exact Z0
  have hs2 : h0.size ≤ tk := by rw [q1]; exact (Keep.refl h0 []).1
  have sz1 := Nat.le_trans Z0 E1.1
  have hk3 := Nat.le_trans hk0 E1.1
  have K4 := (Keep.refl h0 []).ext E1
  have f5 : Fld Z h1 tk "com/example/acomp/acomp/HoaLexer$Token" "kind" "Lcom/example/acomp/acomp/HoaLexer$Kind;" .null := D1 (Or.inr (Wk.w hw 40 rfl)) (ty := (.object "com/example/acomp/acomp/HoaLexer$Kind")) (by decide)
  have f6 : Fld Z h1 tk "com/example/acomp/acomp/HoaLexer$Token" "text" "Ljava/lang/String;" .null := D1 (Or.inr (Wk.w hw 42 rfl)) (ty := (.object "java/lang/String")) (by decide)
  have f7 : Fld Z h1 tk "com/example/acomp/acomp/HoaLexer$Token" "line" "I" (.int (0 : Int32)) := D1 (Or.inr (Wk.w hw 44 rfl)) (ty := .int) (by decide)
  refine Wh.dup k X1 at_135 rfl 136 rfl ?_
  refine Wh.iload k X1 at_136 rfl 138 rfl ?_
  refine Wh.callS k X1 [(.int k1I)] [(.ref tk), (.ref tk)] at_138 (rm_ko l Z a0 hw _ kk A _ hk1 h10 (own_SK.keep (O0.keep K4 all0) SK)) e1 (Wk.w hw 3 rfl) (Wk.w hw 4 rfl) (Wk.w hw 5 rfl) (Wk.w hw 6 rfl) (by decide) rfl pd_TokenIsPinLaw_kindOf rfl rfl (Nat.le_of_ble_eq_true rfl) (Nat.le_of_ble_eq_true rfl) (Nat.le_of_ble_eq_true rfl) (Nat.le_of_ble_eq_true rfl) 141 rfl fun T8 v8 L8 X8 hQ8 => ?_
  obtain ⟨rfl, e8, rfl⟩ := hQ8
  rw [List.append_nil] at X8
  show Wh.Ends _ _ _ _ _ _ _ (mkF m 141 _ [(.ref (A kk)), (.ref tk), (.ref tk)])
  refine Wh.iload k X8 at_141 rfl 143 rfl ?_
  refine Wh.iload k X8 at_143 rfl 145 rfl ?_
  refine Wh.iload k X8 at_145 rfl 147 rfl ?_
  have G1 := CHr.keep K4 (fun x hx => absurd hx (List.not_mem_nil)) P0
  refine Wh.callSH k X8 (PP := (fun vm => CHr Z own_EL s0.vm h1 vm h1)) [(.int (0 : Int32)), (.int a0c), (.int a1c)] [(.ref (A kk)), (.ref tk), (.ref tk)] at_147 (rm_st0 l Z a0 hw a0c a1c  h1 n0 sz1 cz hcz (O0.keep K4 all0) S0) e8 S0' hk3 (fun _ _ _ _ _ _ _ Y => CHv.at Y k.2.1 (own_EW hw) G1.1) (fun vm P => P.1) (Wk.w hw 10 rfl) (Wk.w hw 11 rfl) (Wk.w hw 5 rfl) (Wk.w hw 12 rfl) (by decide) rfl pd_TokenIsPinLaw_str rfl rfl (Nat.le_of_ble_eq_true rfl) (Nat.le_of_ble_eq_true rfl) (Nat.le_of_ble_eq_true rfl) (Nat.le_of_ble_eq_true rfl) 150 rfl fun vp9 vm9 kz9 T9 v9 L9 PP9 kn9 X9 S9 hk9 hQ9 => ?_
  obtain ⟨o1, b1, rfl, ho1, N9q, K9q, ⟨ES1, FC1, FV1, AS1⟩, CR1⟩ := hQ9
  show Wh.Ends _ _ _ _ _ _ _ (mkF m 150 _ [(.ref o1), (.ref (A kk)), (.ref tk), (.ref tk)])
  have N9 := Fr.app (Fr.nil n0) N9q
  have sz9 := Nat.le_trans sz1 K9q.1
  have CRT := G1.trans (PP9.trans CR1)
  have not1 : o1 ≠ tk := Ne.symm (Nat.ne_of_lt (Nat.lt_of_lt_of_le A1.lt ho1))
  have K10 := K4.trans K9q all0
  have f11 := A1.keep K9q
  have f12 := f5.keep K9q nin0
  have f13 := f6.keep K9q nin0
  have f14 := f7.keep K9q nin0
  have nbt : b1 ≠ tk := by obtain ⟨cc, Ar, -⟩ := AS1; exact Ne.symm (ne_arr f11 (Wk.w hw 1 rfl) Ar)
  refine Wh.iload_n kn9 X9 at_150 rfl 151 rfl ?_
  refine Wh.callI kn9 X9 [(.ref (A kk)), (.ref o1), (.int p3)] [(.ref tk)] at_151 (rm_ti l Z a0 hw tk _ o1 p3 _ _ _ T9.heap n0 g1 f11 f12 f13 f14) (rfl : T9.heap = T9.heap) rfl (Wk.w hw 35 rfl) (Wk.w hw 36 rfl) (Wk.w hw 2 rfl) (Wk.w hw 37 rfl) (by decide) rfl pd_Token_init rfl rfl (Nat.le_of_ble_eq_true rfl) (Nat.le_of_ble_eq_true rfl) (Nat.le_of_ble_eq_true rfl) (Nat.le_of_ble_eq_true rfl) 154 rfl fun T15 v15 L15 X15 hQ15 => ?_
  obtain ⟨rfl, N15q, K15q, E15t, F15k, F15x⟩ := hQ15
  show Wh.Ends _ _ _ _ _ _ _ (mkF m 154 _ [(.ref tk)])
  have N15 := Fr.app N9 N15q
  have sz15 := Nat.le_trans sz9 K15q.1
  have hk16 := Nat.le_trans hk9 K15q.1
  have K17 := K10.trans K15q (allS (Or.inr hs2) all0)
  have f18 := ES1.keep K15q
  have f19 := FC1.keep K15q (ninS not1 nin0)
  have f20 := FV1.keep K15q (ninS not1 nin0)
  have f21 := AS1.keep K15q (ninS nbt nin0)
  refine Wh.astore kn9 X15 at_154 rfl #[.val (.int p0), .val (.int p1), .val (.int p2), .val (.int p3), .val (.int k1I), .val (.int k2I), .val (.int (0 : Int32)), .val (.int a0c), .val (.int a1c), .val (.int (1 : Int32)), .val (.int b0c), .val (.int b1c), .val (.ref tk), .unset, .unset] rfl 156 rfl ?_
  refine Wh.aload kn9 X15 at_156 rfl rfl 158 rfl ?_
  refine Wh.iload kn9 X15 at_158 rfl 160 rfl ?_
  refine Wh.callS kn9 X15 [(.int k2I)] [(.ref tk)] at_160 (rm_ko l Z a0 hw _ kk A _ hk2 h10 (own_SK.keep (O0.keep K17 all0) SK)) (rfl : T15.heap = T15.heap) (Wk.w hw 3 rfl) (Wk.w hw 4 rfl) (Wk.w hw 5 rfl) (Wk.w hw 6 rfl) (by decide) rfl pd_TokenIsPinLaw_kindOf rfl rfl (Nat.le_of_ble_eq_true rfl) (Nat.le_of_ble_eq_true rfl) (Nat.le_of_ble_eq_true rfl) (Nat.le_of_ble_eq_true rfl) 163 rfl fun T22 v22 L22 X22 hQ22 => ?_
  obtain ⟨rfl, e22, rfl⟩ := hQ22
  rw [List.append_nil] at X22
  show Wh.Ends _ _ _ _ _ _ _ (mkF m 163 _ [(.ref (A kk)), (.ref tk)])
  refine Wh.iload kn9 X22 at_163 rfl 165 rfl ?_
  refine Wh.iload kn9 X22 at_165 rfl 167 rfl ?_
  refine Wh.iload kn9 X22 at_167 rfl 169 rfl ?_
  have G2 := CHr.keep K15q (allS (Safe.exa kn9.2.1.alike f11 (by decide) (by decide)) all0) CRT.1
  refine Wh.callSH kn9 X22 (PP := (fun vm => CHr Z own_EL vm9 T15.heap vm T15.heap)) [(.int (1 : Int32)), (.int b0c), (.int b1c)] [(.ref (A kk)), (.ref tk)] at_169 (rm_st1 l Z a0 hw b0c b1c hb0 T15.heap n0 sz15 cz hcz (O0.keep K17 all0) S0) e22 S9 hk16 (fun _ _ _ _ _ _ _ Y => CHv.at Y kn9.2.1 (own_EW hw) G2.1) (fun vm P => P.1) (Wk.w hw 10 rfl) (Wk.w hw 11 rfl) (Wk.w hw 5 rfl) (Wk.w hw 12 rfl) (by decide) rfl pd_TokenIsPinLaw_str rfl rfl (Nat.le_of_ble_eq_true rfl) (Nat.le_of_ble_eq_true rfl) (Nat.le_of_ble_eq_true rfl) (Nat.le_of_ble_eq_true rfl) 172 rfl fun vp23 vm23 kz23 T23 v23 L23 PP23 kn23 X23 S23 hk23 hQ23 => ?_
  obtain ⟨o2, b2, rfl, ho2, N23q, K23q, ⟨ES2, FC2, FV2, AS2⟩, CR2⟩ := hQ23
  show Wh.Ends _ _ _ _ _ _ _ (mkF m 172 _ [(.ref o2), (.ref (A kk)), (.ref tk)])
  have N23 := Fr.app N15 N23q
  have sz23 := Nat.le_trans sz15 K23q.1
  have noo : o1 ≠ o2 := Nat.ne_of_lt (Nat.lt_of_lt_of_le f18.lt ho2)
  have K24 := K17.trans K23q all0
  have f25 := f18.keep K23q
  have f26 := f19.keep K23q nin0
  have f27 := f20.keep K23q nin0
  have f28 := f21.keep K23q nin0
  have f29 := E15t.keep K23q
  have f30 := F15k.keep K23q nin0
  have f31 := F15x.keep K23q nin0
  refine Wh.callV kn23 X23 [(.ref (A kk)), (.ref o2)] [] at_172 (rm_isS l Z a0 hw tk _ o2 o1 b1 b2 ([] : List Int32) ([(b0c).toInt8.toInt32] : List Int32) T23.heap noo cz hcz (Sta.ext (O0.keep K24 all0).2 S0) ⟨f25, f26, f27, f28⟩ ⟨ES2, FC2, FV2, AS2⟩ (rm_le01 l Z a0 hw b1 b2 _ T23.heap f28 AS2) f30 f31) (rfl : T23.heap = T23.heap) f29 (Wk.w hw 45 rfl) (Wk.w hw 46 rfl) (Wk.w hw 48 rfl) (Wk.w hw 47 rfl) (Wk.w hw 2 rfl) (Wk.w hw 49 rfl) (by decide) rfl pd_Token_is rfl rfl (Nat.le_of_ble_eq_true rfl) (Nat.le_of_ble_eq_true rfl) (Nat.le_of_ble_eq_true rfl) (Nat.le_of_ble_eq_true rfl) 175 rfl fun T32 v32 L32 X32 hQ32 => ?_
  obtain ⟨rfl, e32, rfl⟩ := hQ32
  rw [List.append_nil] at X32
  show Wh.Ends _ _ _ _ _ _ _ (mkF m 175 _ [(.int (if ([] : List Int32) = ([(b0c).toInt8.toInt32] : List Int32) then (1 : Int32) else 0))])
  refine Wh.istore kn23 X32 at_175 #[.val (.int p0), .val (.int p1), .val (.int p2), .val (.int p3), .val (.int k1I), .val (.int k2I), .val (.int (0 : Int32)), .val (.int a0c), .val (.int a1c), .val (.int (1 : Int32)), .val (.int b0c), .val (.int b1c), .val (.ref tk), .val (.int (if ([] : List Int32) = ([(b0c).toInt8.toInt32] : List Int32) then (1 : Int32) else 0)), .unset] rfl 177 rfl ?_
  refine Wh.iload kn23 X32 at_177 rfl 179 rfl ?_
  refine Wh.iload kn23 X32 at_179 rfl 181 rfl ?_
  refine Wh.icmp_ne kn23 X32 at_181 (by decide) 221 184 (by decide) rfl (fun hc181 => ?_) (fun hc181 => ?_)
  · exact absurd (Int32.toInt_inj.mp (hk1.trans hk2.symm)) hc181
  · refine Wh.iload kn23 X32 at_184 rfl 186 rfl ?_
    refine Wh.iload kn23 X32 at_186 rfl 188 rfl ?_
    refine Wh.icmp_ne kn23 X32 at_188 (by decide) 221 191 (by decide) rfl (fun _ => ?_) (fun hz => by first | exact absurd hz (by decide) | exact absurd (by decide) hz)
    refine Wh.iconst kn23 X32 at_221 (0 : Int32) rfl 222 rfl ?_
    refine Wh.istore kn23 X32 at_222 #[.val (.int p0), .val (.int p1), .val (.int p2), .val (.int p3), .val (.int k1I), .val (.int k2I), .val (.int (0 : Int32)), .val (.int a0c), .val (.int a1c), .val (.int (1 : Int32)), .val (.int b0c), .val (.int b1c), .val (.ref tk), .val (.int (if ([] : List Int32) = ([(b0c).toInt8.toInt32] : List Int32) then (1 : Int32) else 0)), .val (.int (0 : Int32))] rfl 224 rfl ?_
    refine Wh.iload kn23 X32 at_224 rfl 226 rfl ?_
    refine Wh.iload kn23 X32 at_226 rfl 228 rfl ?_
    refine Wh.icmp_ne kn23 X32 at_228 (by decide) 235 231 (by decide) rfl (fun hz => absurd (if_neg (by simp)) hz) (fun _ => ?_)
    refine Wh.iconst kn23 X32 at_231 (1 : Int32) rfl 232 rfl ?_
    refine Wh.goto kn23 X32 at_232 (by decide) 236 (by decide) ?_
    exact Wh.ret_bool kn23 X32 S23 (Nat.le_trans hk23 (Nat.le_of_eq (congrArg (fun hh : Heap => hh.size) e32).symm)) rfl at_236 (by decide) (by decide) (by decide) ⟨rfl, N23⟩
set_option maxRecDepth 65536 in
set_option maxHeartbeats 40000000 in
theorem law_01D {p : Program} {l : Launch} {e : Env} {s0 : State} {kz0 : Nat} {m : MethodId} {args : Array Value} {below : List Frame} {meth : Method} {c : Code} {Z : State} {a0 : Array Value} {h0 : Heap} {n0 : Nat} {T0 : State} (hw : ∀ d ∈ tables_1, d.before a0 Z = true) (k : Wk.K p (s0.setVm s0.vm) m meth c Z x code maxLocals ret) (X0 : Stand p l e room_1 (s0.setVm s0.vm) m args below meth c T0 [] 0 0) (p0 p1 p2 p3 k1I k2I a0c a1c b0c b1c : Int32) (e0 : T0.heap = h0) (S0' : s0.Since s0.vm kz0) (hk0 : kz0 ≤ h0.size) (P0 : CHv Z own_EL s0.vm h0) (kk : Nat) (A : Nat → Addr) (cz : Int32) (hcz : ¬ cz = 0) (Z0 : n0 ≤ h0.size) (O0 : Old Z n0 h0) (S0 : Sta Z Z.heap "java/lang/String" "COMPACT_STRINGS" "Z" (.int cz)) (SK : own_SK Z Z.heap A) (ha0 : 0 ≤ a0c.toInt ∧ a0c.toInt ≤ 255) (ha1 : 0 ≤ a1c.toInt ∧ a1c.toInt ≤ 255) (hb0 : 0 ≤ b0c.toInt ∧ b0c.toInt ≤ 255) (hb1 : 0 ≤ b1c.toInt ∧ b1c.toInt ≤ 255) (hk1 : k1I.toInt = (kk : Int)) (h10 : kk < 10) (kq : Nat) (hk2 : k2I.toInt = (kq : Int)) (h10q : kq < 10) (hkq : ¬ kk = kq) (hAA : A kk ≠ A kq) : Wh.Ends p e s0 below room_1 ((fun (_ : Vm) v (_ : Vm) (_ : Heap) L => v = some (.int 1) ∧ Fr n0 L) s0.vm) T0 (mkF m 132 #[.val (.int p0), .val (.int p1), .val (.int p2), .val (.int p3), .val (.int k1I), .val (.int k2I), .val (.int (0 : Int32)), .val (.int a0c), .val (.int a1c), .val (.int (1 : Int32)), .val (.int b0c), .val (.int b1c), .unset, .unset, .unset] []) := by
  refine Wh.new k X0 at_132 (Wk.w hw 0 rfl) (Wk.w hw 1 rfl) (Wk.w hw 2 rfl) e0 (by decide) (by decide) 135 rfl fun T1 h1 tk q1 X1 e1 E1 A1 D1 => ?_
  have g1 : n0 ≤ tk := by rw [q1]; exact Z0
  have hs2 : h0.size ≤ tk := by rw [q1]; exact (Keep.refl h0 []).1
  have sz1 := Nat.le_trans Z0 E1.1
  have hk3 := Nat.le_trans hk0 E1.1
  have K4 := (Keep.refl h0 []).ext E1
  have f5 : Fld Z h1 tk "com/example/acomp/acomp/HoaLexer$Token" "kind" "Lcom/example/acomp/acomp/HoaLexer$Kind;" .null := D1 (Or.inr (Wk.w hw 40 rfl)) (ty := (.object "com/example/acomp/acomp/HoaLexer$Kind")) (by decide)
  have f6 : Fld Z h1 tk "com/example/acomp/acomp/HoaLexer$Token" "text" "Ljava/lang/String;" .null := D1 (Or.inr (Wk.w hw 42 rfl)) (ty := (.object "java/lang/String")) (by decide)
  have f7 : Fld Z h1 tk "com/example/acomp/acomp/HoaLexer$Token" "line" "I" (.int (0 : Int32)) := D1 (Or.inr (Wk.w hw 44 rfl)) (ty := .int) (by decide)
  refine Wh.dup k X1 at_135 rfl 136 rfl ?_
  refine Wh.iload k X1 at_136 rfl 138 rfl ?_
  refine Wh.callS k X1 [(.int k1I)] [(.ref tk), (.ref tk)] at_138 (rm_ko l Z a0 hw _ kk A _ hk1 h10 (own_SK.keep (O0.keep K4 all0) SK)) e1 (Wk.w hw 3 rfl) (Wk.w hw 4 rfl) (Wk.w hw 5 rfl) (Wk.w hw 6 rfl) (by decide) rfl pd_TokenIsPinLaw_kindOf rfl rfl (Nat.le_of_ble_eq_true rfl) (Nat.le_of_ble_eq_true rfl) (Nat.le_of_ble_eq_true rfl) (Nat.le_of_ble_eq_true rfl) 141 rfl fun T8 v8 L8 X8 hQ8 => ?_
  obtain ⟨rfl, e8, rfl⟩ := hQ8
  rw [List.append_nil] at X8
  show Wh.Ends _ _ _ _ _ _ _ (mkF m 141 _ [(.ref (A kk)), (.ref tk), (.ref tk)])
  refine Wh.iload k X8 at_141 rfl 143 rfl ?_
  refine Wh.iload k X8 at_143 rfl 145 rfl ?_
  refine Wh.iload k X8 at_145 rfl 147 rfl ?_
  have G1 := CHr.keep K4 (fun x hx => absurd hx (List.not_mem_nil)) P0
  refine Wh.callSH k X8 (PP := (fun vm => CHr Z own_EL s0.vm h1 vm h1)) [(.int (0 : Int32)), (.int a0c), (.int a1c)] [(.ref (A kk)), (.ref tk), (.ref tk)] at_147 (rm_st0 l Z a0 hw a0c a1c  h1 n0 sz1 cz hcz (O0.keep K4 all0) S0) e8 S0' hk3 (fun _ _ _ _ _ _ _ Y => CHv.at Y k.2.1 (own_EW hw) G1.1) (fun vm P => P.1) (Wk.w hw 10 rfl) (Wk.w hw 11 rfl) (Wk.w hw 5 rfl) (Wk.w hw 12 rfl) (by decide) rfl pd_TokenIsPinLaw_str rfl rfl (Nat.le_of_ble_eq_true rfl) (Nat.le_of_ble_eq_true rfl) (Nat.le_of_ble_eq_true rfl) (Nat.le_of_ble_eq_true rfl) 150 rfl fun vp9 vm9 kz9 T9 v9 L9 PP9 kn9 X9 S9 hk9 hQ9 => ?_
  obtain ⟨o1, b1, rfl, ho1, N9q, K9q, ⟨ES1, FC1, FV1, AS1⟩, CR1⟩ := hQ9
  show Wh.Ends _ _ _ _ _ _ _ (mkF m 150 _ [(.ref o1), (.ref (A kk)), (.ref tk), (.ref tk)])
  have N9 := Fr.app (Fr.nil n0) N9q
  have sz9 := Nat.le_trans sz1 K9q.1
  have CRT := G1.trans (PP9.trans CR1)
  have not1 : o1 ≠ tk := Ne.symm (Nat.ne_of_lt (Nat.lt_of_lt_of_le A1.lt ho1))
  have K10 := K4.trans K9q all0
  have f11 := A1.keep K9q
  have f12 := f5.keep K9q nin0
  have f13 := f6.keep K9q nin0
  have f14 := f7.keep K9q nin0
  have nbt : b1 ≠ tk := by obtain ⟨cc, Ar, -⟩ := AS1; exact Ne.symm (ne_arr f11 (Wk.w hw 1 rfl) Ar)
  refine Wh.iload_n kn9 X9 at_150 rfl 151 rfl ?_
  refine Wh.callI kn9 X9 [(.ref (A kk)), (.ref o1), (.int p3)] [(.ref tk)] at_151 (rm_ti l Z a0 hw tk _ o1 p3 _ _ _ T9.heap n0 g1 f11 f12 f13 f14) (rfl : T9.heap = T9.heap) rfl (Wk.w hw 35 rfl) (Wk.w hw 36 rfl) (Wk.w hw 2 rfl) (Wk.w hw 37 rfl) (by decide) rfl pd_Token_init rfl rfl (Nat.le_of_ble_eq_true rfl) (Nat.le_of_ble_eq_true rfl) (Nat.le_of_ble_eq_true rfl) (Nat.le_of_ble_eq_true rfl) 154 rfl fun T15 v15 L15 X15 hQ15 => ?_
  obtain ⟨rfl, N15q, K15q, E15t, F15k, F15x⟩ := hQ15
  show Wh.Ends _ _ _ _ _ _ _ (mkF m 154 _ [(.ref tk)])
  have N15 := Fr.app N9 N15q
  have sz15 := Nat.le_trans sz9 K15q.1
  have hk16 := Nat.le_trans hk9 K15q.1
  have K17 := K10.trans K15q (allS (Or.inr hs2) all0)
  have f18 := ES1.keep K15q
  have f19 := FC1.keep K15q (ninS not1 nin0)
  have f20 := FV1.keep K15q (ninS not1 nin0)
  have f21 := AS1.keep K15q (ninS nbt nin0)
  refine Wh.astore kn9 X15 at_154 rfl #[.val (.int p0), .val (.int p1), .val (.int p2), .val (.int p3), .val (.int k1I), .val (.int k2I), .val (.int (0 : Int32)), .val (.int a0c), .val (.int a1c), .val (.int (1 : Int32)), .val (.int b0c), .val (.int b1c), .val (.ref tk), .unset, .unset] rfl 156 rfl ?_
  refine Wh.aload kn9 X15 at_156 rfl rfl 158 rfl ?_
  refine Wh.iload kn9 X15 at_158 rfl 160 rfl ?_
  refine Wh.callS kn9 X15 [(.int k2I)] [(.ref tk)] at_160 (rm_ko l Z a0 hw _ kq A _ hk2 h10q (own_SK.keep (O0.keep K17 all0) SK)) (rfl : T15.heap = T15.heap) (Wk.w hw 3 rfl) (Wk.w hw 4 rfl) (Wk.w hw 5 rfl) (Wk.w hw 6 rfl) (by decide) rfl pd_TokenIsPinLaw_kindOf rfl rfl (Nat.le_of_ble_eq_true rfl) (Nat.le_of_ble_eq_true rfl) (Nat.le_of_ble_eq_true rfl) (Nat.le_of_ble_eq_true rfl) 163 rfl fun T22 v22 L22 X22 hQ22 => ?_
  obtain ⟨rfl, e22, rfl⟩ := hQ22
  rw [List.append_nil] at X22
  show Wh.Ends _ _ _ _ _ _ _ (mkF m 163 _ [(.ref (A kq)), (.ref tk)])
  refine Wh.iload kn9 X22 at_163 rfl 165 rfl ?_
  refine Wh.iload kn9 X22 at_165 rfl 167 rfl ?_
  refine Wh.iload kn9 X22 at_167 rfl 169 rfl ?_
  have G2 := CHr.keep K15q (allS (Safe.exa kn9.2.1.alike f11 (by decide) (by decide)) all0) CRT.1
  refine Wh.callSH kn9 X22 (PP := (fun vm => CHr Z own_EL vm9 T15.heap vm T15.heap)) [(.int (1 : Int32)), (.int b0c), (.int b1c)] [(.ref (A kq)), (.ref tk)] at_169 (rm_st1 l Z a0 hw b0c b1c hb0 T15.heap n0 sz15 cz hcz (O0.keep K17 all0) S0) e22 S9 hk16 (fun _ _ _ _ _ _ _ Y => CHv.at Y kn9.2.1 (own_EW hw) G2.1) (fun vm P => P.1) (Wk.w hw 10 rfl) (Wk.w hw 11 rfl) (Wk.w hw 5 rfl) (Wk.w hw 12 rfl) (by decide) rfl pd_TokenIsPinLaw_str rfl rfl (Nat.le_of_ble_eq_true rfl) (Nat.le_of_ble_eq_true rfl) (Nat.le_of_ble_eq_true rfl) (Nat.le_of_ble_eq_true rfl) 172 rfl fun vp23 vm23 kz23 T23 v23 L23 PP23 kn23 X23 S23 hk23 hQ23 => ?_
  obtain ⟨o2, b2, rfl, ho2, N23q, K23q, ⟨ES2, FC2, FV2, AS2⟩, CR2⟩ := hQ23
  show Wh.Ends _ _ _ _ _ _ _ (mkF m 172 _ [(.ref o2), (.ref (A kq)), (.ref tk)])
  have N23 := Fr.app N15 N23q
  have sz23 := Nat.le_trans sz15 K23q.1
  have noo : o1 ≠ o2 := Nat.ne_of_lt (Nat.lt_of_lt_of_le f18.lt ho2)
  have K24 := K17.trans K23q all0
  have f25 := f18.keep K23q
  have f26 := f19.keep K23q nin0
  have f27 := f20.keep K23q nin0
  have f28 := f21.keep K23q nin0
  have f29 := E15t.keep K23q
  have f30 := F15k.keep K23q nin0
  have f31 := F15x.keep K23q nin0
  refine Wh.callV kn23 X23 [(.ref (A kq)), (.ref o2)] [] at_172 (rm_isD l Z a0 hw tk _ o2 _ hAA o1 b1 b2 ([] : List Int32) ([(b0c).toInt8.toInt32] : List Int32) T23.heap noo cz hcz (Sta.ext (O0.keep K24 all0).2 S0) ⟨f25, f26, f27, f28⟩ ⟨ES2, FC2, FV2, AS2⟩ (rm_le01 l Z a0 hw b1 b2 _ T23.heap f28 AS2) f30 f31) (rfl : T23.heap = T23.heap) f29 (Wk.w hw 45 rfl) (Wk.w hw 46 rfl) (Wk.w hw 48 rfl) (Wk.w hw 47 rfl) (Wk.w hw 2 rfl) (Wk.w hw 49 rfl) (by decide) rfl pd_Token_is rfl rfl (Nat.le_of_ble_eq_true rfl) (Nat.le_of_ble_eq_true rfl) (Nat.le_of_ble_eq_true rfl) (Nat.le_of_ble_eq_true rfl) 175 rfl fun T32 v32 L32 X32 hQ32 => ?_
  obtain ⟨rfl, e32, rfl⟩ := hQ32
  rw [List.append_nil] at X32
  show Wh.Ends _ _ _ _ _ _ _ (mkF m 175 _ [(.int (0 : Int32))])
  refine Wh.istore kn23 X32 at_175 #[.val (.int p0), .val (.int p1), .val (.int p2), .val (.int p3), .val (.int k1I), .val (.int k2I), .val (.int (0 : Int32)), .val (.int a0c), .val (.int a1c), .val (.int (1 : Int32)), .val (.int b0c), .val (.int b1c), .val (.ref tk), .val (.int (0 : Int32)), .unset] rfl 177 rfl ?_
  refine Wh.iload kn23 X32 at_177 rfl 179 rfl ?_
  refine Wh.iload kn23 X32 at_179 rfl 181 rfl ?_
  refine Wh.icmp_ne kn23 X32 at_181 (by decide) 221 184 (by decide) rfl (fun hc181 => ?_) (fun hc181 => ?_)
  · refine Wh.iconst kn23 X32 at_221 (0 : Int32) rfl 222 rfl ?_
    refine Wh.istore kn23 X32 at_222 #[.val (.int p0), .val (.int p1), .val (.int p2), .val (.int p3), .val (.int k1I), .val (.int k2I), .val (.int (0 : Int32)), .val (.int a0c), .val (.int a1c), .val (.int (1 : Int32)), .val (.int b0c), .val (.int b1c), .val (.ref tk), .val (.int (0 : Int32)), .val (.int (0 : Int32))] rfl 224 rfl ?_
    refine Wh.iload kn23 X32 at_224 rfl 226 rfl ?_
    refine Wh.iload kn23 X32 at_226 rfl 228 rfl ?_
    refine Wh.icmp_ne kn23 X32 at_228 (by decide) 235 231 (by decide) rfl (fun hz => absurd rfl hz) (fun _ => ?_)
    refine Wh.iconst kn23 X32 at_231 (1 : Int32) rfl 232 rfl ?_
    refine Wh.goto kn23 X32 at_232 (by decide) 236 (by decide) ?_
    exact Wh.ret_bool kn23 X32 S23 (Nat.le_trans hk23 (Nat.le_of_eq (congrArg (fun hh : Heap => hh.size) e32).symm)) rfl at_236 (by decide) (by decide) (by decide) ⟨rfl, N23⟩
  · exact absurd (own_kk hk1 hc181 hk2) hkq
set_option maxRecDepth 65536 in
set_option maxHeartbeats 40000000 in
theorem law_02S {p : Program} {l : Launch} {e : Env} {s0 : State} {kz0 : Nat} {m : MethodId} {args : Array Value} {below : List Frame} {meth : Method} {c : Code} {Z : State} {a0 : Array Value} {h0 : Heap} {n0 : Nat} {T0 : State} (hw : ∀ d ∈ tables_1, d.before a0 Z = true) (k : Wk.K p (s0.setVm s0.vm) m meth c Z x code maxLocals ret) (X0 : Stand p l e room_1 (s0.setVm s0.vm) m args below meth c T0 [] 0 0) (p0 p1 p2 p3 k1I k2I a0c a1c b0c b1c : Int32) (e0 : T0.heap = h0) (S0' : s0.Since s0.vm kz0) (hk0 : kz0 ≤ h0.size) (P0 : CHv Z own_EL s0.vm h0) (kk : Nat) (A : Nat → Addr) (cz : Int32) (hcz : ¬ cz = 0) (Z0 : n0 ≤ h0.size) (O0 : Old Z n0 h0) (S0 : Sta Z Z.heap "java/lang/String" "COMPACT_STRINGS" "Z" (.int cz)) (SK : own_SK Z Z.heap A) (ha0 : 0 ≤ a0c.toInt ∧ a0c.toInt ≤ 255) (ha1 : 0 ≤ a1c.toInt ∧ a1c.toInt ≤ 255) (hb0 : 0 ≤ b0c.toInt ∧ b0c.toInt ≤ 255) (hb1 : 0 ≤ b1c.toInt ∧ b1c.toInt ≤ 255) (hk1 : k1I.toInt = (kk : Int)) (h10 : kk < 10) (hk2 : k2I.toInt = (kk : Int)) : Wh.Ends p e s0 below room_1 ((fun (_ : Vm) v (_ : Vm) (_ : Heap) L => v = some (.int 1) ∧ Fr n0 L) s0.vm) T0 (mkF m 132 #[.val (.int p0), .val (.int p1), .val (.int p2), .val (.int p3), .val (.int k1I), .val (.int k2I), .val (.int (0 : Int32)), .val (.int a0c), .val (.int a1c), .val (.int (2 : Int32)), .val (.int b0c), .val (.int b1c), .unset, .unset, .unset] []) := by
  refine Wh.new k X0 at_132 (Wk.w hw 0 rfl) (Wk.w hw 1 rfl) (Wk.w hw 2 rfl) e0 (by decide) (by decide) 135 rfl fun T1 h1 tk q1 X1 e1 E1 A1 D1 => ?_
  have g1 : n0 ≤ tk := by rw [q1]; exact Z0
  have hs2 : h0.size ≤ tk := by rw [q1]; exact (Keep.refl h0 []).1
  have sz1 := Nat.le_trans Z0 E1.1
  have hk3 := Nat.le_trans hk0 E1.1
  have K4 := (Keep.refl h0 []).ext E1
  have f5 : Fld Z h1 tk "com/example/acomp/acomp/HoaLexer$Token" "kind" "Lcom/example/acomp/acomp/HoaLexer$Kind;" .null := D1 (Or.inr (Wk.w hw 40 rfl)) (ty := (.object "com/example/acomp/acomp/HoaLexer$Kind")) (by decide)
  have f6 : Fld Z h1 tk "com/example/acomp/acomp/HoaLexer$Token" "text" "Ljava/lang/String;" .null := D1 (Or.inr (Wk.w hw 42 rfl)) (ty := (.object "java/lang/String")) (by decide)
  have f7 : Fld Z h1 tk "com/example/acomp/acomp/HoaLexer$Token" "line" "I" (.int (0 : Int32)) := D1 (Or.inr (Wk.w hw 44 rfl)) (ty := .int) (by decide)
  refine Wh.dup k X1 at_135 rfl 136 rfl ?_
  refine Wh.iload k X1 at_136 rfl 138 rfl ?_
  refine Wh.callS k X1 [(.int k1I)] [(.ref tk), (.ref tk)] at_138 (rm_ko l Z a0 hw _ kk A _ hk1 h10 (own_SK.keep (O0.keep K4 all0) SK)) e1 (Wk.w hw 3 rfl) (Wk.w hw 4 rfl) (Wk.w hw 5 rfl) (Wk.w hw 6 rfl) (by decide) rfl pd_TokenIsPinLaw_kindOf rfl rfl (Nat.le_of_ble_eq_true rfl) (Nat.le_of_ble_eq_true rfl) (Nat.le_of_ble_eq_true rfl) (Nat.le_of_ble_eq_true rfl) 141 rfl fun T8 v8 L8 X8 hQ8 => ?_
  obtain ⟨rfl, e8, rfl⟩ := hQ8
  rw [List.append_nil] at X8
  show Wh.Ends _ _ _ _ _ _ _ (mkF m 141 _ [(.ref (A kk)), (.ref tk), (.ref tk)])
  refine Wh.iload k X8 at_141 rfl 143 rfl ?_
  refine Wh.iload k X8 at_143 rfl 145 rfl ?_
  refine Wh.iload k X8 at_145 rfl 147 rfl ?_
  have G1 := CHr.keep K4 (fun x hx => absurd hx (List.not_mem_nil)) P0
  refine Wh.callSH k X8 (PP := (fun vm => CHr Z own_EL s0.vm h1 vm h1)) [(.int (0 : Int32)), (.int a0c), (.int a1c)] [(.ref (A kk)), (.ref tk), (.ref tk)] at_147 (rm_st0 l Z a0 hw a0c a1c  h1 n0 sz1 cz hcz (O0.keep K4 all0) S0) e8 S0' hk3 (fun _ _ _ _ _ _ _ Y => CHv.at Y k.2.1 (own_EW hw) G1.1) (fun vm P => P.1) (Wk.w hw 10 rfl) (Wk.w hw 11 rfl) (Wk.w hw 5 rfl) (Wk.w hw 12 rfl) (by decide) rfl pd_TokenIsPinLaw_str rfl rfl (Nat.le_of_ble_eq_true rfl) (Nat.le_of_ble_eq_true rfl) (Nat.le_of_ble_eq_true rfl) (Nat.le_of_ble_eq_true rfl) 150 rfl fun vp9 vm9 kz9 T9 v9 L9 PP9 kn9 X9 S9 hk9 hQ9 => ?_
  obtain ⟨o1, b1, rfl, ho1, N9q, K9q, ⟨ES1, FC1, FV1, AS1⟩, CR1⟩ := hQ9
  show Wh.Ends _ _ _ _ _ _ _ (mkF m 150 _ [(.ref o1), (.ref (A kk)), (.ref tk), (.ref tk)])
  have N9 := Fr.app (Fr.nil n0) N9q
  have sz9 := Nat.le_trans sz1 K9q.1
  have CRT := G1.trans (PP9.trans CR1)
  have not1 : o1 ≠ tk := Ne.symm (Nat.ne_of_lt (Nat.lt_of_lt_of_le A1.lt ho1))
  have K10 := K4.trans K9q all0
  have f11 := A1.keep K9q
  have f12 := f5.keep K9q nin0
  have f13 := f6.keep K9q nin0
  have f14 := f7.keep K9q nin0
  have nbt : b1 ≠ tk := by obtain ⟨cc, Ar, -⟩ := AS1; exact Ne.symm (ne_arr f11 (Wk.w hw 1 rfl) Ar)
  refine Wh.iload_n kn9 X9 at_150 rfl 151 rfl ?_
  refine Wh.callI kn9 X9 [(.ref (A kk)), (.ref o1), (.int p3)] [(.ref tk)] at_151 (rm_ti l Z a0 hw tk _ o1 p3 _ _ _ T9.heap n0 g1 f11 f12 f13 f14) (rfl : T9.heap = T9.heap) rfl (Wk.w hw 35 rfl) (Wk.w hw 36 rfl) (Wk.w hw 2 rfl) (Wk.w hw 37 rfl) (by decide) rfl pd_Token_init rfl rfl (Nat.le_of_ble_eq_true rfl) (Nat.le_of_ble_eq_true rfl) (Nat.le_of_ble_eq_true rfl) (Nat.le_of_ble_eq_true rfl) 154 rfl fun T15 v15 L15 X15 hQ15 => ?_
  obtain ⟨rfl, N15q, K15q, E15t, F15k, F15x⟩ := hQ15
  show Wh.Ends _ _ _ _ _ _ _ (mkF m 154 _ [(.ref tk)])
  have N15 := Fr.app N9 N15q
  have sz15 := Nat.le_trans sz9 K15q.1
  have hk16 := Nat.le_trans hk9 K15q.1
  have K17 := K10.trans K15q (allS (Or.inr hs2) all0)
  have f18 := ES1.keep K15q
  have f19 := FC1.keep K15q (ninS not1 nin0)
  have f20 := FV1.keep K15q (ninS not1 nin0)
  have f21 := AS1.keep K15q (ninS nbt nin0)
  refine Wh.astore kn9 X15 at_154 rfl #[.val (.int p0), .val (.int p1), .val (.int p2), .val (.int p3), .val (.int k1I), .val (.int k2I), .val (.int (0 : Int32)), .val (.int a0c), .val (.int a1c), .val (.int (2 : Int32)), .val (.int b0c), .val (.int b1c), .val (.ref tk), .unset, .unset] rfl 156 rfl ?_
  refine Wh.aload kn9 X15 at_156 rfl rfl 158 rfl ?_
  refine Wh.iload kn9 X15 at_158 rfl 160 rfl ?_
  refine Wh.callS kn9 X15 [(.int k2I)] [(.ref tk)] at_160 (rm_ko l Z a0 hw _ kk A _ hk2 h10 (own_SK.keep (O0.keep K17 all0) SK)) (rfl : T15.heap = T15.heap) (Wk.w hw 3 rfl) (Wk.w hw 4 rfl) (Wk.w hw 5 rfl) (Wk.w hw 6 rfl) (by decide) rfl pd_TokenIsPinLaw_kindOf rfl rfl (Nat.le_of_ble_eq_true rfl) (Nat.le_of_ble_eq_true rfl) (Nat.le_of_ble_eq_true rfl) (Nat.le_of_ble_eq_true rfl) 163 rfl fun T22 v22 L22 X22 hQ22 => ?_
  obtain ⟨rfl, e22, rfl⟩ := hQ22
  rw [List.append_nil] at X22
  show Wh.Ends _ _ _ _ _ _ _ (mkF m 163 _ [(.ref (A kk)), (.ref tk)])
  refine Wh.iload kn9 X22 at_163 rfl 165 rfl ?_
  refine Wh.iload kn9 X22 at_165 rfl 167 rfl ?_
  refine Wh.iload kn9 X22 at_167 rfl 169 rfl ?_
  have G2 := CHr.keep K15q (allS (Safe.exa kn9.2.1.alike f11 (by decide) (by decide)) all0) CRT.1
  refine Wh.callSH kn9 X22 (PP := (fun vm => CHr Z own_EL vm9 T15.heap vm T15.heap)) [(.int (2 : Int32)), (.int b0c), (.int b1c)] [(.ref (A kk)), (.ref tk)] at_169 (rm_st2 l Z a0 hw b0c b1c hb0 hb1 T15.heap n0 sz15 cz hcz (O0.keep K17 all0) S0) e22 S9 hk16 (fun _ _ _ _ _ _ _ Y => CHv.at Y kn9.2.1 (own_EW hw) G2.1) (fun vm P => P.1) (Wk.w hw 10 rfl) (Wk.w hw 11 rfl) (Wk.w hw 5 rfl) (Wk.w hw 12 rfl) (by decide) rfl pd_TokenIsPinLaw_str rfl rfl (Nat.le_of_ble_eq_true rfl) (Nat.le_of_ble_eq_true rfl) (Nat.le_of_ble_eq_true rfl) (Nat.le_of_ble_eq_true rfl) 172 rfl fun vp23 vm23 kz23 T23 v23 L23 PP23 kn23 X23 S23 hk23 hQ23 => ?_
  obtain ⟨o2, b2, rfl, ho2, N23q, K23q, ⟨ES2, FC2, FV2, AS2⟩, CR2⟩ := hQ23
  show Wh.Ends _ _ _ _ _ _ _ (mkF m 172 _ [(.ref o2), (.ref (A kk)), (.ref tk)])
  have N23 := Fr.app N15 N23q
  have sz23 := Nat.le_trans sz15 K23q.1
  have noo : o1 ≠ o2 := Nat.ne_of_lt (Nat.lt_of_lt_of_le f18.lt ho2)
  have K24 := K17.trans K23q all0
  have f25 := f18.keep K23q
  have f26 := f19.keep K23q nin0
  have f27 := f20.keep K23q nin0
  have f28 := f21.keep K23q nin0
  have f29 := E15t.keep K23q
  have f30 := F15k.keep K23q nin0
  have f31 := F15x.keep K23q nin0
  refine Wh.callV kn23 X23 [(.ref (A kk)), (.ref o2)] [] at_172 (rm_isS l Z a0 hw tk _ o2 o1 b1 b2 ([] : List Int32) ([(b0c).toInt8.toInt32, (b1c).toInt8.toInt32] : List Int32) T23.heap noo cz hcz (Sta.ext (O0.keep K24 all0).2 S0) ⟨f25, f26, f27, f28⟩ ⟨ES2, FC2, FV2, AS2⟩ (rm_le02 l Z a0 hw b1 b2 _ _ T23.heap f28 AS2) f30 f31) (rfl : T23.heap = T23.heap) f29 (Wk.w hw 45 rfl) (Wk.w hw 46 rfl) (Wk.w hw 48 rfl) (Wk.w hw 47 rfl) (Wk.w hw 2 rfl) (Wk.w hw 49 rfl) (by decide) rfl pd_Token_is rfl rfl (Nat.le_of_ble_eq_true rfl) (Nat.le_of_ble_eq_true rfl) (Nat.le_of_ble_eq_true rfl) (Nat.le_of_ble_eq_true rfl) 175 rfl fun T32 v32 L32 X32 hQ32 => ?_
  obtain ⟨rfl, e32, rfl⟩ := hQ32
  rw [List.append_nil] at X32
  show Wh.Ends _ _ _ _ _ _ _ (mkF m 175 _ [(.int (if ([] : List Int32) = ([(b0c).toInt8.toInt32, (b1c).toInt8.toInt32] : List Int32) then (1 : Int32) else 0))])
  refine Wh.istore kn23 X32 at_175 #[.val (.int p0), .val (.int p1), .val (.int p2), .val (.int p3), .val (.int k1I), .val (.int k2I), .val (.int (0 : Int32)), .val (.int a0c), .val (.int a1c), .val (.int (2 : Int32)), .val (.int b0c), .val (.int b1c), .val (.ref tk), .val (.int (if ([] : List Int32) = ([(b0c).toInt8.toInt32, (b1c).toInt8.toInt32] : List Int32) then (1 : Int32) else 0)), .unset] rfl 177 rfl ?_
  refine Wh.iload kn23 X32 at_177 rfl 179 rfl ?_
  refine Wh.iload kn23 X32 at_179 rfl 181 rfl ?_
  refine Wh.icmp_ne kn23 X32 at_181 (by decide) 221 184 (by decide) rfl (fun hc181 => ?_) (fun hc181 => ?_)
  · exact absurd (Int32.toInt_inj.mp (hk1.trans hk2.symm)) hc181
  · refine Wh.iload kn23 X32 at_184 rfl 186 rfl ?_
    refine Wh.iload kn23 X32 at_186 rfl 188 rfl ?_
    refine Wh.icmp_ne kn23 X32 at_188 (by decide) 221 191 (by decide) rfl (fun _ => ?_) (fun hz => by first | exact absurd hz (by decide) | exact absurd (by decide) hz)
    refine Wh.iconst kn23 X32 at_221 (0 : Int32) rfl 222 rfl ?_
    refine Wh.istore kn23 X32 at_222 #[.val (.int p0), .val (.int p1), .val (.int p2), .val (.int p3), .val (.int k1I), .val (.int k2I), .val (.int (0 : Int32)), .val (.int a0c), .val (.int a1c), .val (.int (2 : Int32)), .val (.int b0c), .val (.int b1c), .val (.ref tk), .val (.int (if ([] : List Int32) = ([(b0c).toInt8.toInt32, (b1c).toInt8.toInt32] : List Int32) then (1 : Int32) else 0)), .val (.int (0 : Int32))] rfl 224 rfl ?_
    refine Wh.iload kn23 X32 at_224 rfl 226 rfl ?_
    refine Wh.iload kn23 X32 at_226 rfl 228 rfl ?_
    refine Wh.icmp_ne kn23 X32 at_228 (by decide) 235 231 (by decide) rfl (fun hz => absurd (if_neg (by simp)) hz) (fun _ => ?_)
    refine Wh.iconst kn23 X32 at_231 (1 : Int32) rfl 232 rfl ?_
    refine Wh.goto kn23 X32 at_232 (by decide) 236 (by decide) ?_
    exact Wh.ret_bool kn23 X32 S23 (Nat.le_trans hk23 (Nat.le_of_eq (congrArg (fun hh : Heap => hh.size) e32).symm)) rfl at_236 (by decide) (by decide) (by decide) ⟨rfl, N23⟩
set_option maxRecDepth 65536 in
set_option maxHeartbeats 40000000 in
theorem law_02D {p : Program} {l : Launch} {e : Env} {s0 : State} {kz0 : Nat} {m : MethodId} {args : Array Value} {below : List Frame} {meth : Method} {c : Code} {Z : State} {a0 : Array Value} {h0 : Heap} {n0 : Nat} {T0 : State} (hw : ∀ d ∈ tables_1, d.before a0 Z = true) (k : Wk.K p (s0.setVm s0.vm) m meth c Z x code maxLocals ret) (X0 : Stand p l e room_1 (s0.setVm s0.vm) m args below meth c T0 [] 0 0) (p0 p1 p2 p3 k1I k2I a0c a1c b0c b1c : Int32) (e0 : T0.heap = h0) (S0' : s0.Since s0.vm kz0) (hk0 : kz0 ≤ h0.size) (P0 : CHv Z own_EL s0.vm h0) (kk : Nat) (A : Nat → Addr) (cz : Int32) (hcz : ¬ cz = 0) (Z0 : n0 ≤ h0.size) (O0 : Old Z n0 h0) (S0 : Sta Z Z.heap "java/lang/String" "COMPACT_STRINGS" "Z" (.int cz)) (SK : own_SK Z Z.heap A) (ha0 : 0 ≤ a0c.toInt ∧ a0c.toInt ≤ 255) (ha1 : 0 ≤ a1c.toInt ∧ a1c.toInt ≤ 255) (hb0 : 0 ≤ b0c.toInt ∧ b0c.toInt ≤ 255) (hb1 : 0 ≤ b1c.toInt ∧ b1c.toInt ≤ 255) (hk1 : k1I.toInt = (kk : Int)) (h10 : kk < 10) (kq : Nat) (hk2 : k2I.toInt = (kq : Int)) (h10q : kq < 10) (hkq : ¬ kk = kq) (hAA : A kk ≠ A kq) : Wh.Ends p e s0 below room_1 ((fun (_ : Vm) v (_ : Vm) (_ : Heap) L => v = some (.int 1) ∧ Fr n0 L) s0.vm) T0 (mkF m 132 #[.val (.int p0), .val (.int p1), .val (.int p2), .val (.int p3), .val (.int k1I), .val (.int k2I), .val (.int (0 : Int32)), .val (.int a0c), .val (.int a1c), .val (.int (2 : Int32)), .val (.int b0c), .val (.int b1c), .unset, .unset, .unset] []) := by
  refine Wh.new k X0 at_132 (Wk.w hw 0 rfl) (Wk.w hw 1 rfl) (Wk.w hw 2 rfl) e0 (by decide) (by decide) 135 rfl fun T1 h1 tk q1 X1 e1 E1 A1 D1 => ?_
  have g1 : n0 ≤ tk := by rw [q1]; exact Z0
  have hs2 : h0.size ≤ tk := by rw [q1]; exact (Keep.refl h0 []).1
  have sz1 := Nat.le_trans Z0 E1.1
  have hk3 := Nat.le_trans hk0 E1.1
  have K4 := (Keep.refl h0 []).ext E1
  have f5 : Fld Z h1 tk "com/example/acomp/acomp/HoaLexer$Token" "kind" "Lcom/example/acomp/acomp/HoaLexer$Kind;" .null := D1 (Or.inr (Wk.w hw 40 rfl)) (ty := (.object "com/example/acomp/acomp/HoaLexer$Kind")) (by decide)
  have f6 : Fld Z h1 tk "com/example/acomp/acomp/HoaLexer$Token" "text" "Ljava/lang/String;" .null := D1 (Or.inr (Wk.w hw 42 rfl)) (ty := (.object "java/lang/String")) (by decide)
  have f7 : Fld Z h1 tk "com/example/acomp/acomp/HoaLexer$Token" "line" "I" (.int (0 : Int32)) := D1 (Or.inr (Wk.w hw 44 rfl)) (ty := .int) (by decide)
  refine Wh.dup k X1 at_135 rfl 136 rfl ?_
  refine Wh.iload k X1 at_136 rfl 138 rfl ?_
  refine Wh.callS k X1 [(.int k1I)] [(.ref tk), (.ref tk)] at_138 (rm_ko l Z a0 hw _ kk A _ hk1 h10 (own_SK.keep (O0.keep K4 all0) SK)) e1 (Wk.w hw 3 rfl) (Wk.w hw 4 rfl) (Wk.w hw 5 rfl) (Wk.w hw 6 rfl) (by decide) rfl pd_TokenIsPinLaw_kindOf rfl rfl (Nat.le_of_ble_eq_true rfl) (Nat.le_of_ble_eq_true rfl) (Nat.le_of_ble_eq_true rfl) (Nat.le_of_ble_eq_true rfl) 141 rfl fun T8 v8 L8 X8 hQ8 => ?_
  obtain ⟨rfl, e8, rfl⟩ := hQ8
  rw [List.append_nil] at X8
  show Wh.Ends _ _ _ _ _ _ _ (mkF m 141 _ [(.ref (A kk)), (.ref tk), (.ref tk)])
  refine Wh.iload k X8 at_141 rfl 143 rfl ?_
  refine Wh.iload k X8 at_143 rfl 145 rfl ?_
  refine Wh.iload k X8 at_145 rfl 147 rfl ?_
  have G1 := CHr.keep K4 (fun x hx => absurd hx (List.not_mem_nil)) P0
  refine Wh.callSH k X8 (PP := (fun vm => CHr Z own_EL s0.vm h1 vm h1)) [(.int (0 : Int32)), (.int a0c), (.int a1c)] [(.ref (A kk)), (.ref tk), (.ref tk)] at_147 (rm_st0 l Z a0 hw a0c a1c  h1 n0 sz1 cz hcz (O0.keep K4 all0) S0) e8 S0' hk3 (fun _ _ _ _ _ _ _ Y => CHv.at Y k.2.1 (own_EW hw) G1.1) (fun vm P => P.1) (Wk.w hw 10 rfl) (Wk.w hw 11 rfl) (Wk.w hw 5 rfl) (Wk.w hw 12 rfl) (by decide) rfl pd_TokenIsPinLaw_str rfl rfl (Nat.le_of_ble_eq_true rfl) (Nat.le_of_ble_eq_true rfl) (Nat.le_of_ble_eq_true rfl) (Nat.le_of_ble_eq_true rfl) 150 rfl fun vp9 vm9 kz9 T9 v9 L9 PP9 kn9 X9 S9 hk9 hQ9 => ?_
  obtain ⟨o1, b1, rfl, ho1, N9q, K9q, ⟨ES1, FC1, FV1, AS1⟩, CR1⟩ := hQ9
  show Wh.Ends _ _ _ _ _ _ _ (mkF m 150 _ [(.ref o1), (.ref (A kk)), (.ref tk), (.ref tk)])
  have N9 := Fr.app (Fr.nil n0) N9q
  have sz9 := Nat.le_trans sz1 K9q.1
  have CRT := G1.trans (PP9.trans CR1)
  have not1 : o1 ≠ tk := Ne.symm (Nat.ne_of_lt (Nat.lt_of_lt_of_le A1.lt ho1))
  have K10 := K4.trans K9q all0
  have f11 := A1.keep K9q
  have f12 := f5.keep K9q nin0
  have f13 := f6.keep K9q nin0
  have f14 := f7.keep K9q nin0
  have nbt : b1 ≠ tk := by obtain ⟨cc, Ar, -⟩ := AS1; exact Ne.symm (ne_arr f11 (Wk.w hw 1 rfl) Ar)
  refine Wh.iload_n kn9 X9 at_150 rfl 151 rfl ?_
  refine Wh.callI kn9 X9 [(.ref (A kk)), (.ref o1), (.int p3)] [(.ref tk)] at_151 (rm_ti l Z a0 hw tk _ o1 p3 _ _ _ T9.heap n0 g1 f11 f12 f13 f14) (rfl : T9.heap = T9.heap) rfl (Wk.w hw 35 rfl) (Wk.w hw 36 rfl) (Wk.w hw 2 rfl) (Wk.w hw 37 rfl) (by decide) rfl pd_Token_init rfl rfl (Nat.le_of_ble_eq_true rfl) (Nat.le_of_ble_eq_true rfl) (Nat.le_of_ble_eq_true rfl) (Nat.le_of_ble_eq_true rfl) 154 rfl fun T15 v15 L15 X15 hQ15 => ?_
  obtain ⟨rfl, N15q, K15q, E15t, F15k, F15x⟩ := hQ15
  show Wh.Ends _ _ _ _ _ _ _ (mkF m 154 _ [(.ref tk)])
  have N15 := Fr.app N9 N15q
  have sz15 := Nat.le_trans sz9 K15q.1
  have hk16 := Nat.le_trans hk9 K15q.1
  have K17 := K10.trans K15q (allS (Or.inr hs2) all0)
  have f18 := ES1.keep K15q
  have f19 := FC1.keep K15q (ninS not1 nin0)
  have f20 := FV1.keep K15q (ninS not1 nin0)
  have f21 := AS1.keep K15q (ninS nbt nin0)
  refine Wh.astore kn9 X15 at_154 rfl #[.val (.int p0), .val (.int p1), .val (.int p2), .val (.int p3), .val (.int k1I), .val (.int k2I), .val (.int (0 : Int32)), .val (.int a0c), .val (.int a1c), .val (.int (2 : Int32)), .val (.int b0c), .val (.int b1c), .val (.ref tk), .unset, .unset] rfl 156 rfl ?_
  refine Wh.aload kn9 X15 at_156 rfl rfl 158 rfl ?_
  refine Wh.iload kn9 X15 at_158 rfl 160 rfl ?_
  refine Wh.callS kn9 X15 [(.int k2I)] [(.ref tk)] at_160 (rm_ko l Z a0 hw _ kq A _ hk2 h10q (own_SK.keep (O0.keep K17 all0) SK)) (rfl : T15.heap = T15.heap) (Wk.w hw 3 rfl) (Wk.w hw 4 rfl) (Wk.w hw 5 rfl) (Wk.w hw 6 rfl) (by decide) rfl pd_TokenIsPinLaw_kindOf rfl rfl (Nat.le_of_ble_eq_true rfl) (Nat.le_of_ble_eq_true rfl) (Nat.le_of_ble_eq_true rfl) (Nat.le_of_ble_eq_true rfl) 163 rfl fun T22 v22 L22 X22 hQ22 => ?_
  obtain ⟨rfl, e22, rfl⟩ := hQ22
  rw [List.append_nil] at X22
  show Wh.Ends _ _ _ _ _ _ _ (mkF m 163 _ [(.ref (A kq)), (.ref tk)])
  refine Wh.iload kn9 X22 at_163 rfl 165 rfl ?_
  refine Wh.iload kn9 X22 at_165 rfl 167 rfl ?_
  refine Wh.iload kn9 X22 at_167 rfl 169 rfl ?_
  have G2 := CHr.keep K15q (allS (Safe.exa kn9.2.1.alike f11 (by decide) (by decide)) all0) CRT.1
  refine Wh.callSH kn9 X22 (PP := (fun vm => CHr Z own_EL vm9 T15.heap vm T15.heap)) [(.int (2 : Int32)), (.int b0c), (.int b1c)] [(.ref (A kq)), (.ref tk)] at_169 (rm_st2 l Z a0 hw b0c b1c hb0 hb1 T15.heap n0 sz15 cz hcz (O0.keep K17 all0) S0) e22 S9 hk16 (fun _ _ _ _ _ _ _ Y => CHv.at Y kn9.2.1 (own_EW hw) G2.1) (fun vm P => P.1) (Wk.w hw 10 rfl) (Wk.w hw 11 rfl) (Wk.w hw 5 rfl) (Wk.w hw 12 rfl) (by decide) rfl pd_TokenIsPinLaw_str rfl rfl (Nat.le_of_ble_eq_true rfl) (Nat.le_of_ble_eq_true rfl) (Nat.le_of_ble_eq_true rfl) (Nat.le_of_ble_eq_true rfl) 172 rfl fun vp23 vm23 kz23 T23 v23 L23 PP23 kn23 X23 S23 hk23 hQ23 => ?_
  obtain ⟨o2, b2, rfl, ho2, N23q, K23q, ⟨ES2, FC2, FV2, AS2⟩, CR2⟩ := hQ23
  show Wh.Ends _ _ _ _ _ _ _ (mkF m 172 _ [(.ref o2), (.ref (A kq)), (.ref tk)])
  have N23 := Fr.app N15 N23q
  have sz23 := Nat.le_trans sz15 K23q.1
  have noo : o1 ≠ o2 := Nat.ne_of_lt (Nat.lt_of_lt_of_le f18.lt ho2)
  have K24 := K17.trans K23q all0
  have f25 := f18.keep K23q
  have f26 := f19.keep K23q nin0
  have f27 := f20.keep K23q nin0
  have f28 := f21.keep K23q nin0
  have f29 := E15t.keep K23q
  have f30 := F15k.keep K23q nin0
  have f31 := F15x.keep K23q nin0
  refine Wh.callV kn23 X23 [(.ref (A kq)), (.ref o2)] [] at_172 (rm_isD l Z a0 hw tk _ o2 _ hAA o1 b1 b2 ([] : List Int32) ([(b0c).toInt8.toInt32, (b1c).toInt8.toInt32] : List Int32) T23.heap noo cz hcz (Sta.ext (O0.keep K24 all0).2 S0) ⟨f25, f26, f27, f28⟩ ⟨ES2, FC2, FV2, AS2⟩ (rm_le02 l Z a0 hw b1 b2 _ _ T23.heap f28 AS2) f30 f31) (rfl : T23.heap = T23.heap) f29 (Wk.w hw 45 rfl) (Wk.w hw 46 rfl) (Wk.w hw 48 rfl) (Wk.w hw 47 rfl) (Wk.w hw 2 rfl) (Wk.w hw 49 rfl) (by decide) rfl pd_Token_is rfl rfl (Nat.le_of_ble_eq_true rfl) (Nat.le_of_ble_eq_true rfl) (Nat.le_of_ble_eq_true rfl) (Nat.le_of_ble_eq_true rfl) 175 rfl fun T32 v32 L32 X32 hQ32 => ?_
  obtain ⟨rfl, e32, rfl⟩ := hQ32
  rw [List.append_nil] at X32
  show Wh.Ends _ _ _ _ _ _ _ (mkF m 175 _ [(.int (0 : Int32))])
  refine Wh.istore kn23 X32 at_175 #[.val (.int p0), .val (.int p1), .val (.int p2), .val (.int p3), .val (.int k1I), .val (.int k2I), .val (.int (0 : Int32)), .val (.int a0c), .val (.int a1c), .val (.int (2 : Int32)), .val (.int b0c), .val (.int b1c), .val (.ref tk), .val (.int (0 : Int32)), .unset] rfl 177 rfl ?_
  refine Wh.iload kn23 X32 at_177 rfl 179 rfl ?_
  refine Wh.iload kn23 X32 at_179 rfl 181 rfl ?_
  refine Wh.icmp_ne kn23 X32 at_181 (by decide) 221 184 (by decide) rfl (fun hc181 => ?_) (fun hc181 => ?_)
  · refine Wh.iconst kn23 X32 at_221 (0 : Int32) rfl 222 rfl ?_
    refine Wh.istore kn23 X32 at_222 #[.val (.int p0), .val (.int p1), .val (.int p2), .val (.int p3), .val (.int k1I), .val (.int k2I), .val (.int (0 : Int32)), .val (.int a0c), .val (.int a1c), .val (.int (2 : Int32)), .val (.int b0c), .val (.int b1c), .val (.ref tk), .val (.int (0 : Int32)), .val (.int (0 : Int32))] rfl 224 rfl ?_
    refine Wh.iload kn23 X32 at_224 rfl 226 rfl ?_
    refine Wh.iload kn23 X32 at_226 rfl 228 rfl ?_
    refine Wh.icmp_ne kn23 X32 at_228 (by decide) 235 231 (by decide) rfl (fun hz => absurd rfl hz) (fun _ => ?_)
    refine Wh.iconst kn23 X32 at_231 (1 : Int32) rfl 232 rfl ?_
    refine Wh.goto kn23 X32 at_232 (by decide) 236 (by decide) ?_
    exact Wh.ret_bool kn23 X32 S23 (Nat.le_trans hk23 (Nat.le_of_eq (congrArg (fun hh : Heap => hh.size) e32).symm)) rfl at_236 (by decide) (by decide) (by decide) ⟨rfl, N23⟩
  · exact absurd (own_kk hk1 hc181 hk2) hkq
set_option maxRecDepth 65536 in
set_option maxHeartbeats 40000000 in
theorem law_10S {p : Program} {l : Launch} {e : Env} {s0 : State} {kz0 : Nat} {m : MethodId} {args : Array Value} {below : List Frame} {meth : Method} {c : Code} {Z : State} {a0 : Array Value} {h0 : Heap} {n0 : Nat} {T0 : State} (hw : ∀ d ∈ tables_1, d.before a0 Z = true) (k : Wk.K p (s0.setVm s0.vm) m meth c Z x code maxLocals ret) (X0 : Stand p l e room_1 (s0.setVm s0.vm) m args below meth c T0 [] 0 0) (p0 p1 p2 p3 k1I k2I a0c a1c b0c b1c : Int32) (e0 : T0.heap = h0) (S0' : s0.Since s0.vm kz0) (hk0 : kz0 ≤ h0.size) (P0 : CHv Z own_EL s0.vm h0) (kk : Nat) (A : Nat → Addr) (cz : Int32) (hcz : ¬ cz = 0) (Z0 : n0 ≤ h0.size) (O0 : Old Z n0 h0) (S0 : Sta Z Z.heap "java/lang/String" "COMPACT_STRINGS" "Z" (.int cz)) (SK : own_SK Z Z.heap A) (ha0 : 0 ≤ a0c.toInt ∧ a0c.toInt ≤ 255) (ha1 : 0 ≤ a1c.toInt ∧ a1c.toInt ≤ 255) (hb0 : 0 ≤ b0c.toInt ∧ b0c.toInt ≤ 255) (hb1 : 0 ≤ b1c.toInt ∧ b1c.toInt ≤ 255) (hk1 : k1I.toInt = (kk : Int)) (h10 : kk < 10) (hk2 : k2I.toInt = (kk : Int)) : Wh.Ends p e s0 below room_1 ((fun (_ : Vm) v (_ : Vm) (_ : Heap) L => v = some (.int 1) ∧ Fr n0 L) s0.vm) T0 (mkF m 132 #[.val (.int p0), .val (.int p1), .val (.int p2), .val (.int p3), .val (.int k1I), .val (.int k2I), .val (.int (1 : Int32)), .val (.int a0c), .val (.int a1c), .val (.int (0 : Int32)), .val (.int b0c), .val (.int b1c), .unset, .unset, .unset] []) := by
  refine Wh.new k X0 at_132 (Wk.w hw 0 rfl) (Wk.w hw 1 rfl) (Wk.w hw 2 rfl) e0 (by decide) (by decide) 135 rfl fun T1 h1 tk q1 X1 e1 E1 A1 D1 => ?_
  have g1 : n0 ≤ tk := by rw [q1]; exact Z0
  have hs2 : h0.size ≤ tk := by rw [q1]; exact (Keep.refl h0 []).1
  have sz1 := Nat.le_trans Z0 E1.1
  have hk3 := Nat.le_trans hk0 E1.1
  have K4 := (Keep.refl h0 []).ext E1
  have f5 : Fld Z h1 tk "com/example/acomp/acomp/HoaLexer$Token" "kind" "Lcom/example/acomp/acomp/HoaLexer$Kind;" .null := D1 (Or.inr (Wk.w hw 40 rfl)) (ty := (.object "com/example/acomp/acomp/HoaLexer$Kind")) (by decide)
  have f6 : Fld Z h1 tk "com/example/acomp/acomp/HoaLexer$Token" "text" "Ljava/lang/String;" .null := D1 (Or.inr (Wk.w hw 42 rfl)) (ty := (.object "java/lang/String")) (by decide)
  have f7 : Fld Z h1 tk "com/example/acomp/acomp/HoaLexer$Token" "line" "I" (.int (0 : Int32)) := D1 (Or.inr (Wk.w hw 44 rfl)) (ty := .int) (by decide)
  refine Wh.dup k X1 at_135 rfl 136 rfl ?_
  refine Wh.iload k X1 at_136 rfl 138 rfl ?_
  refine Wh.callS k X1 [(.int k1I)] [(.ref tk), (.ref tk)] at_138 (rm_ko l Z a0 hw _ kk A _ hk1 h10 (own_SK.keep (O0.keep K4 all0) SK)) e1 (Wk.w hw 3 rfl) (Wk.w hw 4 rfl) (Wk.w hw 5 rfl) (Wk.w hw 6 rfl) (by decide) rfl pd_TokenIsPinLaw_kindOf rfl rfl (Nat.le_of_ble_eq_true rfl) (Nat.le_of_ble_eq_true rfl) (Nat.le_of_ble_eq_true rfl) (Nat.le_of_ble_eq_true rfl) 141 rfl fun T8 v8 L8 X8 hQ8 => ?_
  obtain ⟨rfl, e8, rfl⟩ := hQ8
  rw [List.append_nil] at X8
  show Wh.Ends _ _ _ _ _ _ _ (mkF m 141 _ [(.ref (A kk)), (.ref tk), (.ref tk)])
  refine Wh.iload k X8 at_141 rfl 143 rfl ?_
  refine Wh.iload k X8 at_143 rfl 145 rfl ?_
  refine Wh.iload k X8 at_145 rfl 147 rfl ?_
  have G1 := CHr.keep K4 (fun x hx => absurd hx (List.not_mem_nil)) P0
  refine Wh.callSH k X8 (PP := (fun vm => CHr Z own_EL s0.vm h1 vm h1)) [(.int (1 : Int32)), (.int a0c), (.int a1c)] [(.ref (A kk)), (.ref tk), (.ref tk)] at_147 (rm_st1 l Z a0 hw a0c a1c ha0 h1 n0 sz1 cz hcz (O0.keep K4 all0) S0) e8 S0' hk3 (fun _ _ _ _ _ _ _ Y => CHv.at Y k.2.1 (own_EW hw) G1.1) (fun vm P => P.1) (Wk.w hw 10 rfl) (Wk.w hw 11 rfl) (Wk.w hw 5 rfl) (Wk.w hw 12 rfl) (by decide) rfl pd_TokenIsPinLaw_str rfl rfl (Nat.le_of_ble_eq_true rfl) (Nat.le_of_ble_eq_true rfl) (Nat.le_of_ble_eq_true rfl) (Nat.le_of_ble_eq_true rfl) 150 rfl fun vp9 vm9 kz9 T9 v9 L9 PP9 kn9 X9 S9 hk9 hQ9 => ?_
  obtain ⟨o1, b1, rfl, ho1, N9q, K9q, ⟨ES1, FC1, FV1, AS1⟩, CR1⟩ := hQ9
  show Wh.Ends _ _ _ _ _ _ _ (mkF m 150 _ [(.ref o1), (.ref (A kk)), (.ref tk), (.ref tk)])
  have N9 := Fr.app (Fr.nil n0) N9q
  have sz9 := Nat.le_trans sz1 K9q.1
  have CRT := G1.trans (PP9.trans CR1)
  have not1 : o1 ≠ tk := Ne.symm (Nat.ne_of_lt (Nat.lt_of_lt_of_le A1.lt ho1))
  have K10 := K4.trans K9q all0
  have f11 := A1.keep K9q
  have f12 := f5.keep K9q nin0
  have f13 := f6.keep K9q nin0
  have f14 := f7.keep K9q nin0
  have nbt : b1 ≠ tk := by obtain ⟨cc, Ar, -⟩ := AS1; exact Ne.symm (ne_arr f11 (Wk.w hw 1 rfl) Ar)
  refine Wh.iload_n kn9 X9 at_150 rfl 151 rfl ?_
  refine Wh.callI kn9 X9 [(.ref (A kk)), (.ref o1), (.int p3)] [(.ref tk)] at_151 (rm_ti l Z a0 hw tk _ o1 p3 _ _ _ T9.heap n0 g1 f11 f12 f13 f14) (rfl : T9.heap = T9.heap) rfl (Wk.w hw 35 rfl) (Wk.w hw 36 rfl) (Wk.w hw 2 rfl) (Wk.w hw 37 rfl) (by decide) rfl pd_Token_init rfl rfl (Nat.le_of_ble_eq_true rfl) (Nat.le_of_ble_eq_true rfl) (Nat.le_of_ble_eq_true rfl) (Nat.le_of_ble_eq_true rfl) 154 rfl fun T15 v15 L15 X15 hQ15 => ?_
  obtain ⟨rfl, N15q, K15q, E15t, F15k, F15x⟩ := hQ15
  show Wh.Ends _ _ _ _ _ _ _ (mkF m 154 _ [(.ref tk)])
  have N15 := Fr.app N9 N15q
  have sz15 := Nat.le_trans sz9 K15q.1
  have hk16 := Nat.le_trans hk9 K15q.1
  have K17 := K10.trans K15q (allS (Or.inr hs2) all0)
  have f18 := ES1.keep K15q
  have f19 := FC1.keep K15q (ninS not1 nin0)
  have f20 := FV1.keep K15q (ninS not1 nin0)
  have f21 := AS1.keep K15q (ninS nbt nin0)
  refine Wh.astore kn9 X15 at_154 rfl #[.val (.int p0), .val (.int p1), .val (.int p2), .val (.int p3), .val (.int k1I), .val (.int k2I), .val (.int (1 : Int32)), .val (.int a0c), .val (.int a1c), .val (.int (0 : Int32)), .val (.int b0c), .val (.int b1c), .val (.ref tk), .unset, .unset] rfl 156 rfl ?_
  refine Wh.aload kn9 X15 at_156 rfl rfl 158 rfl ?_
  refine Wh.iload kn9 X15 at_158 rfl 160 rfl ?_
  refine Wh.callS kn9 X15 [(.int k2I)] [(.ref tk)] at_160 (rm_ko l Z a0 hw _ kk A _ hk2 h10 (own_SK.keep (O0.keep K17 all0) SK)) (rfl : T15.heap = T15.heap) (Wk.w hw 3 rfl) (Wk.w hw 4 rfl) (Wk.w hw 5 rfl) (Wk.w hw 6 rfl) (by decide) rfl pd_TokenIsPinLaw_kindOf rfl rfl (Nat.le_of_ble_eq_true rfl) (Nat.le_of_ble_eq_true rfl) (Nat.le_of_ble_eq_true rfl) (Nat.le_of_ble_eq_true rfl) 163 rfl fun T22 v22 L22 X22 hQ22 => ?_
  obtain ⟨rfl, e22, rfl⟩ := hQ22
  rw [List.append_nil] at X22
  show Wh.Ends _ _ _ _ _ _ _ (mkF m 163 _ [(.ref (A kk)), (.ref tk)])
  refine Wh.iload kn9 X22 at_163 rfl 165 rfl ?_
  refine Wh.iload kn9 X22 at_165 rfl 167 rfl ?_
  refine Wh.iload kn9 X22 at_167 rfl 169 rfl ?_
  have G2 := CHr.keep K15q (allS (Safe.exa kn9.2.1.alike f11 (by decide) (by decide)) all0) CRT.1
  refine Wh.callSH kn9 X22 (PP := (fun vm => CHr Z own_EL vm9 T15.heap vm T15.heap)) [(.int (0 : Int32)), (.int b0c), (.int b1c)] [(.ref (A kk)), (.ref tk)] at_169 (rm_st0 l Z a0 hw b0c b1c  T15.heap n0 sz15 cz hcz (O0.keep K17 all0) S0) e22 S9 hk16 (fun _ _ _ _ _ _ _ Y => CHv.at Y kn9.2.1 (own_EW hw) G2.1) (fun vm P => P.1) (Wk.w hw 10 rfl) (Wk.w hw 11 rfl) (Wk.w hw 5 rfl) (Wk.w hw 12 rfl) (by decide) rfl pd_TokenIsPinLaw_str rfl rfl (Nat.le_of_ble_eq_true rfl) (Nat.le_of_ble_eq_true rfl) (Nat.le_of_ble_eq_true rfl) (Nat.le_of_ble_eq_true rfl) 172 rfl fun vp23 vm23 kz23 T23 v23 L23 PP23 kn23 X23 S23 hk23 hQ23 => ?_
  obtain ⟨o2, b2, rfl, ho2, N23q, K23q, ⟨ES2, FC2, FV2, AS2⟩, CR2⟩ := hQ23
  show Wh.Ends _ _ _ _ _ _ _ (mkF m 172 _ [(.ref o2), (.ref (A kk)), (.ref tk)])
  have N23 := Fr.app N15 N23q
  have sz23 := Nat.le_trans sz15 K23q.1
  have noo : o1 ≠ o2 := Nat.ne_of_lt (Nat.lt_of_lt_of_le f18.lt ho2)
  have K24 := K17.trans K23q all0
  have f25 := f18.keep K23q
  have f26 := f19.keep K23q nin0
  have f27 := f20.keep K23q nin0
  have f28 := f21.keep K23q nin0
  have f29 := E15t.keep K23q
  have f30 := F15k.keep K23q nin0
  have f31 := F15x.keep K23q nin0
  refine Wh.callV kn23 X23 [(.ref (A kk)), (.ref o2)] [] at_172 (rm_isS l Z a0 hw tk _ o2 o1 b1 b2 ([(a0c).toInt8.toInt32] : List Int32) ([] : List Int32) T23.heap noo cz hcz (Sta.ext (O0.keep K24 all0).2 S0) ⟨f25, f26, f27, f28⟩ ⟨ES2, FC2, FV2, AS2⟩ (rm_le10 l Z a0 hw b1 b2 _ T23.heap f28 AS2) f30 f31) (rfl : T23.heap = T23.heap) f29 (Wk.w hw 45 rfl) (Wk.w hw 46 rfl) (Wk.w hw 48 rfl) (Wk.w hw 47 rfl) (Wk.w hw 2 rfl) (Wk.w hw 49 rfl) (by decide) rfl pd_Token_is rfl rfl (Nat.le_of_ble_eq_true rfl) (Nat.le_of_ble_eq_true rfl) (Nat.le_of_ble_eq_true rfl) (Nat.le_of_ble_eq_true rfl) 175 rfl fun T32 v32 L32 X32 hQ32 => ?_
  obtain ⟨rfl, e32, rfl⟩ := hQ32
  rw [List.append_nil] at X32
  show Wh.Ends _ _ _ _ _ _ _ (mkF m 175 _ [(.int (if ([(a0c).toInt8.toInt32] : List Int32) = ([] : List Int32) then (1 : Int32) else 0))])
  refine Wh.istore kn23 X32 at_175 #[.val (.int p0), .val (.int p1), .val (.int p2), .val (.int p3), .val (.int k1I), .val (.int k2I), .val (.int (1 : Int32)), .val (.int a0c), .val (.int a1c), .val (.int (0 : Int32)), .val (.int b0c), .val (.int b1c), .val (.ref tk), .val (.int (if ([(a0c).toInt8.toInt32] : List Int32) = ([] : List Int32) then (1 : Int32) else 0)), .unset] rfl 177 rfl ?_
  refine Wh.iload kn23 X32 at_177 rfl 179 rfl ?_
  refine Wh.iload kn23 X32 at_179 rfl 181 rfl ?_
  refine Wh.icmp_ne kn23 X32 at_181 (by decide) 221 184 (by decide) rfl (fun hc181 => ?_) (fun hc181 => ?_)
  · exact absurd (Int32.toInt_inj.mp (hk1.trans hk2.symm)) hc181
  · refine Wh.iload kn23 X32 at_184 rfl 186 rfl ?_
    refine Wh.iload kn23 X32 at_186 rfl 188 rfl ?_
    refine Wh.icmp_ne kn23 X32 at_188 (by decide) 221 191 (by decide) rfl (fun _ => ?_) (fun hz => by first | exact absurd hz (by decide) | exact absurd (by decide) hz)
    refine Wh.iconst kn23 X32 at_221 (0 : Int32) rfl 222 rfl ?_
    refine Wh.istore kn23 X32 at_222 #[.val (.int p0), .val (.int p1), .val (.int p2), .val (.int p3), .val (.int k1I), .val (.int k2I), .val (.int (1 : Int32)), .val (.int a0c), .val (.int a1c), .val (.int (0 : Int32)), .val (.int b0c), .val (.int b1c), .val (.ref tk), .val (.int (if ([(a0c).toInt8.toInt32] : List Int32) = ([] : List Int32) then (1 : Int32) else 0)), .val (.int (0 : Int32))] rfl 224 rfl ?_
    refine Wh.iload kn23 X32 at_224 rfl 226 rfl ?_
    refine Wh.iload kn23 X32 at_226 rfl 228 rfl ?_
    refine Wh.icmp_ne kn23 X32 at_228 (by decide) 235 231 (by decide) rfl (fun hz => absurd (if_neg (by simp)) hz) (fun _ => ?_)
    refine Wh.iconst kn23 X32 at_231 (1 : Int32) rfl 232 rfl ?_
    refine Wh.goto kn23 X32 at_232 (by decide) 236 (by decide) ?_
    exact Wh.ret_bool kn23 X32 S23 (Nat.le_trans hk23 (Nat.le_of_eq (congrArg (fun hh : Heap => hh.size) e32).symm)) rfl at_236 (by decide) (by decide) (by decide) ⟨rfl, N23⟩
set_option maxRecDepth 65536 in
set_option maxHeartbeats 40000000 in
theorem law_10D {p : Program} {l : Launch} {e : Env} {s0 : State} {kz0 : Nat} {m : MethodId} {args : Array Value} {below : List Frame} {meth : Method} {c : Code} {Z : State} {a0 : Array Value} {h0 : Heap} {n0 : Nat} {T0 : State} (hw : ∀ d ∈ tables_1, d.before a0 Z = true) (k : Wk.K p (s0.setVm s0.vm) m meth c Z x code maxLocals ret) (X0 : Stand p l e room_1 (s0.setVm s0.vm) m args below meth c T0 [] 0 0) (p0 p1 p2 p3 k1I k2I a0c a1c b0c b1c : Int32) (e0 : T0.heap = h0) (S0' : s0.Since s0.vm kz0) (hk0 : kz0 ≤ h0.size) (P0 : CHv Z own_EL s0.vm h0) (kk : Nat) (A : Nat → Addr) (cz : Int32) (hcz : ¬ cz = 0) (Z0 : n0 ≤ h0.size) (O0 : Old Z n0 h0) (S0 : Sta Z Z.heap "java/lang/String" "COMPACT_STRINGS" "Z" (.int cz)) (SK : own_SK Z Z.heap A) (ha0 : 0 ≤ a0c.toInt ∧ a0c.toInt ≤ 255) (ha1 : 0 ≤ a1c.toInt ∧ a1c.toInt ≤ 255) (hb0 : 0 ≤ b0c.toInt ∧ b0c.toInt ≤ 255) (hb1 : 0 ≤ b1c.toInt ∧ b1c.toInt ≤ 255) (hk1 : k1I.toInt = (kk : Int)) (h10 : kk < 10) (kq : Nat) (hk2 : k2I.toInt = (kq : Int)) (h10q : kq < 10) (hkq : ¬ kk = kq) (hAA : A kk ≠ A kq) : Wh.Ends p e s0 below room_1 ((fun (_ : Vm) v (_ : Vm) (_ : Heap) L => v = some (.int 1) ∧ Fr n0 L) s0.vm) T0 (mkF m 132 #[.val (.int p0), .val (.int p1), .val (.int p2), .val (.int p3), .val (.int k1I), .val (.int k2I), .val (.int (1 : Int32)), .val (.int a0c), .val (.int a1c), .val (.int (0 : Int32)), .val (.int b0c), .val (.int b1c), .unset, .unset, .unset] []) := by
  refine Wh.new k X0 at_132 (Wk.w hw 0 rfl) (Wk.w hw 1 rfl) (Wk.w hw 2 rfl) e0 (by decide) (by decide) 135 rfl fun T1 h1 tk q1 X1 e1 E1 A1 D1 => ?_
  have g1 : n0 ≤ tk := by rw [q1]; exact Z0
  have hs2 : h0.size ≤ tk := by rw [q1]; exact (Keep.refl h0 []).1
  have sz1 := Nat.le_trans Z0 E1.1
  have hk3 := Nat.le_trans hk0 E1.1
  have K4 := (Keep.refl h0 []).ext E1
  have f5 : Fld Z h1 tk "com/example/acomp/acomp/HoaLexer$Token" "kind" "Lcom/example/acomp/acomp/HoaLexer$Kind;" .null := D1 (Or.inr (Wk.w hw 40 rfl)) (ty := (.object "com/example/acomp/acomp/HoaLexer$Kind")) (by decide)
  have f6 : Fld Z h1 tk "com/example/acomp/acomp/HoaLexer$Token" "text" "Ljava/lang/String;" .null := D1 (Or.inr (Wk.w hw 42 rfl)) (ty := (.object "java/lang/String")) (by decide)
  have f7 : Fld Z h1 tk "com/example/acomp/acomp/HoaLexer$Token" "line" "I" (.int (0 : Int32)) := D1 (Or.inr (Wk.w hw 44 rfl)) (ty := .int) (by decide)
  refine Wh.dup k X1 at_135 rfl 136 rfl ?_
  refine Wh.iload k X1 at_136 rfl 138 rfl ?_
  refine Wh.callS k X1 [(.int k1I)] [(.ref tk), (.ref tk)] at_138 (rm_ko l Z a0 hw _ kk A _ hk1 h10 (own_SK.keep (O0.keep K4 all0) SK)) e1 (Wk.w hw 3 rfl) (Wk.w hw 4 rfl) (Wk.w hw 5 rfl) (Wk.w hw 6 rfl) (by decide) rfl pd_TokenIsPinLaw_kindOf rfl rfl (Nat.le_of_ble_eq_true rfl) (Nat.le_of_ble_eq_true rfl) (Nat.le_of_ble_eq_true rfl) (Nat.le_of_ble_eq_true rfl) 141 rfl fun T8 v8 L8 X8 hQ8 => ?_
  obtain ⟨rfl, e8, rfl⟩ := hQ8
  rw [List.append_nil] at X8
  show Wh.Ends _ _ _ _ _ _ _ (mkF m 141 _ [(.ref (A kk)), (.ref tk), (.ref tk)])
  refine Wh.iload k X8 at_141 rfl 143 rfl ?_
  refine Wh.iload k X8 at_143 rfl 145 rfl ?_
  refine Wh.iload k X8 at_145 rfl 147 rfl ?_
  have G1 := CHr.keep K4 (fun x hx => absurd hx (List.not_mem_nil)) P0
  refine Wh.callSH k X8 (PP := (fun vm => CHr Z own_EL s0.vm h1 vm h1)) [(.int (1 : Int32)), (.int a0c), (.int a1c)] [(.ref (A kk)), (.ref tk), (.ref tk)] at_147 (rm_st1 l Z a0 hw a0c a1c ha0 h1 n0 sz1 cz hcz (O0.keep K4 all0) S0) e8 S0' hk3 (fun _ _ _ _ _ _ _ Y => CHv.at Y k.2.1 (own_EW hw) G1.1) (fun vm P => P.1) (Wk.w hw 10 rfl) (Wk.w hw 11 rfl) (Wk.w hw 5 rfl) (Wk.w hw 12 rfl) (by decide) rfl pd_TokenIsPinLaw_str rfl rfl (Nat.le_of_ble_eq_true rfl) (Nat.le_of_ble_eq_true rfl) (Nat.le_of_ble_eq_true rfl) (Nat.le_of_ble_eq_true rfl) 150 rfl fun vp9 vm9 kz9 T9 v9 L9 PP9 kn9 X9 S9 hk9 hQ9 => ?_
  obtain ⟨o1, b1, rfl, ho1, N9q, K9q, ⟨ES1, FC1, FV1, AS1⟩, CR1⟩ := hQ9
  show Wh.Ends _ _ _ _ _ _ _ (mkF m 150 _ [(.ref o1), (.ref (A kk)), (.ref tk), (.ref tk)])
  have N9 := Fr.app (Fr.nil n0) N9q
  have sz9 := Nat.le_trans sz1 K9q.1
  have CRT := G1.trans (PP9.trans CR1)
  have not1 : o1 ≠ tk := Ne.symm (Nat.ne_of_lt (Nat.lt_of_lt_of_le A1.lt ho1))
  have K10 := K4.trans K9q all0
  have f11 := A1.keep K9q
  have f12 := f5.keep K9q nin0
  have f13 := f6.keep K9q nin0
  have f14 := f7.keep K9q nin0
  have nbt : b1 ≠ tk := by obtain ⟨cc, Ar, -⟩ := AS1; exact Ne.symm (ne_arr f11 (Wk.w hw 1 rfl) Ar)
  refine Wh.iload_n kn9 X9 at_150 rfl 151 rfl ?_
  refine Wh.callI kn9 X9 [(.ref (A kk)), (.ref o1), (.int p3)] [(.ref tk)] at_151 (rm_ti l Z a0 hw tk _ o1 p3 _ _ _ T9.heap n0 g1 f11 f12 f13 f14) (rfl : T9.heap = T9.heap) rfl (Wk.w hw 35 rfl) (Wk.w hw 36 rfl) (Wk.w hw 2 rfl) (Wk.w hw 37 rfl) (by decide) rfl pd_Token_init rfl rfl (Nat.le_of_ble_eq_true rfl) (Nat.le_of_ble_eq_true rfl) (Nat.le_of_ble_eq_true rfl) (Nat.le_of_ble_eq_true rfl) 154 rfl fun T15 v15 L15 X15 hQ15 => ?_
  obtain ⟨rfl, N15q, K15q, E15t, F15k, F15x⟩ := hQ15
  show Wh.Ends _ _ _ _ _ _ _ (mkF m 154 _ [(.ref tk)])
  have N15 := Fr.app N9 N15q
  have sz15 := Nat.le_trans sz9 K15q.1
  have hk16 := Nat.le_trans hk9 K15q.1
  have K17 := K10.trans K15q (allS (Or.inr hs2) all0)
  have f18 := ES1.keep K15q
  have f19 := FC1.keep K15q (ninS not1 nin0)
  have f20 := FV1.keep K15q (ninS not1 nin0)
  have f21 := AS1.keep K15q (ninS nbt nin0)
  refine Wh.astore kn9 X15 at_154 rfl #[.val (.int p0), .val (.int p1), .val (.int p2), .val (.int p3), .val (.int k1I), .val (.int k2I), .val (.int (1 : Int32)), .val (.int a0c), .val (.int a1c), .val (.int (0 : Int32)), .val (.int b0c), .val (.int b1c), .val (.ref tk), .unset, .unset] rfl 156 rfl ?_
  refine Wh.aload kn9 X15 at_156 rfl rfl 158 rfl ?_
  refine Wh.iload kn9 X15 at_158 rfl 160 rfl ?_
  refine Wh.callS kn9 X15 [(.int k2I)] [(.ref tk)] at_160 (rm_ko l Z a0 hw _ kq A _ hk2 h10q (own_SK.keep (O0.keep K17 all0) SK)) (rfl : T15.heap = T15.heap) (Wk.w hw 3 rfl) (Wk.w hw 4 rfl) (Wk.w hw 5 rfl) (Wk.w hw 6 rfl) (by decide) rfl pd_TokenIsPinLaw_kindOf rfl rfl (Nat.le_of_ble_eq_true rfl) (Nat.le_of_ble_eq_true rfl) (Nat.le_of_ble_eq_true rfl) (Nat.le_of_ble_eq_true rfl) 163 rfl fun T22 v22 L22 X22 hQ22 => ?_
  obtain ⟨rfl, e22, rfl⟩ := hQ22
  rw [List.append_nil] at X22
  show Wh.Ends _ _ _ _ _ _ _ (mkF m 163 _ [(.ref (A kq)), (.ref tk)])
  refine Wh.iload kn9 X22 at_163 rfl 165 rfl ?_
  refine Wh.iload kn9 X22 at_165 rfl 167 rfl ?_
  refine Wh.iload kn9 X22 at_167 rfl 169 rfl ?_
  have G2 := CHr.keep K15q (allS (Safe.exa kn9.2.1.alike f11 (by decide) (by decide)) all0) CRT.1
  refine Wh.callSH kn9 X22 (PP := (fun vm => CHr Z own_EL vm9 T15.heap vm T15.heap)) [(.int (0 : Int32)), (.int b0c), (.int b1c)] [(.ref (A kq)), (.ref tk)] at_169 (rm_st0 l Z a0 hw b0c b1c  T15.heap n0 sz15 cz hcz (O0.keep K17 all0) S0) e22 S9 hk16 (fun _ _ _ _ _ _ _ Y => CHv.at Y kn9.2.1 (own_EW hw) G2.1) (fun vm P => P.1) (Wk.w hw 10 rfl) (Wk.w hw 11 rfl) (Wk.w hw 5 rfl) (Wk.w hw 12 rfl) (by decide) rfl pd_TokenIsPinLaw_str rfl rfl (Nat.le_of_ble_eq_true rfl) (Nat.le_of_ble_eq_true rfl) (Nat.le_of_ble_eq_true rfl) (Nat.le_of_ble_eq_true rfl) 172 rfl fun vp23 vm23 kz23 T23 v23 L23 PP23 kn23 X23 S23 hk23 hQ23 => ?_
  obtain ⟨o2, b2, rfl, ho2, N23q, K23q, ⟨ES2, FC2, FV2, AS2⟩, CR2⟩ := hQ23
  show Wh.Ends _ _ _ _ _ _ _ (mkF m 172 _ [(.ref o2), (.ref (A kq)), (.ref tk)])
  have N23 := Fr.app N15 N23q
  have sz23 := Nat.le_trans sz15 K23q.1
  have noo : o1 ≠ o2 := Nat.ne_of_lt (Nat.lt_of_lt_of_le f18.lt ho2)
  have K24 := K17.trans K23q all0
  have f25 := f18.keep K23q
  have f26 := f19.keep K23q nin0
  have f27 := f20.keep K23q nin0
  have f28 := f21.keep K23q nin0
  have f29 := E15t.keep K23q
  have f30 := F15k.keep K23q nin0
  have f31 := F15x.keep K23q nin0
  refine Wh.callV kn23 X23 [(.ref (A kq)), (.ref o2)] [] at_172 (rm_isD l Z a0 hw tk _ o2 _ hAA o1 b1 b2 ([(a0c).toInt8.toInt32] : List Int32) ([] : List Int32) T23.heap noo cz hcz (Sta.ext (O0.keep K24 all0).2 S0) ⟨f25, f26, f27, f28⟩ ⟨ES2, FC2, FV2, AS2⟩ (rm_le10 l Z a0 hw b1 b2 _ T23.heap f28 AS2) f30 f31) (rfl : T23.heap = T23.heap) f29 (Wk.w hw 45 rfl) (Wk.w hw 46 rfl) (Wk.w hw 48 rfl) (Wk.w hw 47 rfl) (Wk.w hw 2 rfl) (Wk.w hw 49 rfl) (by decide) rfl pd_Token_is rfl rfl (Nat.le_of_ble_eq_true rfl) (Nat.le_of_ble_eq_true rfl) (Nat.le_of_ble_eq_true rfl) (Nat.le_of_ble_eq_true rfl) 175 rfl fun T32 v32 L32 X32 hQ32 => ?_
  obtain ⟨rfl, e32, rfl⟩ := hQ32
  rw [List.append_nil] at X32
  show Wh.Ends _ _ _ _ _ _ _ (mkF m 175 _ [(.int (0 : Int32))])
  refine Wh.istore kn23 X32 at_175 #[.val (.int p0), .val (.int p1), .val (.int p2), .val (.int p3), .val (.int k1I), .val (.int k2I), .val (.int (1 : Int32)), .val (.int a0c), .val (.int a1c), .val (.int (0 : Int32)), .val (.int b0c), .val (.int b1c), .val (.ref tk), .val (.int (0 : Int32)), .unset] rfl 177 rfl ?_
  refine Wh.iload kn23 X32 at_177 rfl 179 rfl ?_
  refine Wh.iload kn23 X32 at_179 rfl 181 rfl ?_
  refine Wh.icmp_ne kn23 X32 at_181 (by decide) 221 184 (by decide) rfl (fun hc181 => ?_) (fun hc181 => ?_)
  · refine Wh.iconst kn23 X32 at_221 (0 : Int32) rfl 222 rfl ?_
    refine Wh.istore kn23 X32 at_222 #[.val (.int p0), .val (.int p1), .val (.int p2), .val (.int p3), .val (.int k1I), .val (.int k2I), .val (.int (1 : Int32)), .val (.int a0c), .val (.int a1c), .val (.int (0 : Int32)), .val (.int b0c), .val (.int b1c), .val (.ref tk), .val (.int (0 : Int32)), .val (.int (0 : Int32))] rfl 224 rfl ?_
    refine Wh.iload kn23 X32 at_224 rfl 226 rfl ?_
    refine Wh.iload kn23 X32 at_226 rfl 228 rfl ?_
    refine Wh.icmp_ne kn23 X32 at_228 (by decide) 235 231 (by decide) rfl (fun hz => absurd rfl hz) (fun _ => ?_)
    refine Wh.iconst kn23 X32 at_231 (1 : Int32) rfl 232 rfl ?_
    refine Wh.goto kn23 X32 at_232 (by decide) 236 (by decide) ?_
    exact Wh.ret_bool kn23 X32 S23 (Nat.le_trans hk23 (Nat.le_of_eq (congrArg (fun hh : Heap => hh.size) e32).symm)) rfl at_236 (by decide) (by decide) (by decide) ⟨rfl, N23⟩
  · exact absurd (own_kk hk1 hc181 hk2) hkq
set_option maxRecDepth 65536 in
set_option maxHeartbeats 40000000 in
theorem law_11S {p : Program} {l : Launch} {e : Env} {s0 : State} {kz0 : Nat} {m : MethodId} {args : Array Value} {below : List Frame} {meth : Method} {c : Code} {Z : State} {a0 : Array Value} {h0 : Heap} {n0 : Nat} {T0 : State} (hw : ∀ d ∈ tables_1, d.before a0 Z = true) (k : Wk.K p (s0.setVm s0.vm) m meth c Z x code maxLocals ret) (X0 : Stand p l e room_1 (s0.setVm s0.vm) m args below meth c T0 [] 0 0) (p0 p1 p2 p3 k1I k2I a0c a1c b0c b1c : Int32) (e0 : T0.heap = h0) (S0' : s0.Since s0.vm kz0) (hk0 : kz0 ≤ h0.size) (P0 : CHv Z own_EL s0.vm h0) (kk : Nat) (A : Nat → Addr) (cz : Int32) (hcz : ¬ cz = 0) (Z0 : n0 ≤ h0.size) (O0 : Old Z n0 h0) (S0 : Sta Z Z.heap "java/lang/String" "COMPACT_STRINGS" "Z" (.int cz)) (SK : own_SK Z Z.heap A) (ha0 : 0 ≤ a0c.toInt ∧ a0c.toInt ≤ 255) (ha1 : 0 ≤ a1c.toInt ∧ a1c.toInt ≤ 255) (hb0 : 0 ≤ b0c.toInt ∧ b0c.toInt ≤ 255) (hb1 : 0 ≤ b1c.toInt ∧ b1c.toInt ≤ 255) (hk1 : k1I.toInt = (kk : Int)) (h10 : kk < 10) (hk2 : k2I.toInt = (kk : Int)) : Wh.Ends p e s0 below room_1 ((fun (_ : Vm) v (_ : Vm) (_ : Heap) L => v = some (.int 1) ∧ Fr n0 L) s0.vm) T0 (mkF m 132 #[.val (.int p0), .val (.int p1), .val (.int p2), .val (.int p3), .val (.int k1I), .val (.int k2I), .val (.int (1 : Int32)), .val (.int a0c), .val (.int a1c), .val (.int (1 : Int32)), .val (.int b0c), .val (.int b1c), .unset, .unset, .unset] []) := by
  refine Wh.new k X0 at_132 (Wk.w hw 0 rfl) (Wk.w hw 1 rfl) (Wk.w hw 2 rfl) e0 (by decide) (by decide) 135 rfl fun T1 h1 tk q1 X1 e1 E1 A1 D1 => ?_
  have g1 : n0 ≤ tk := by rw [q1]; exact Z0
  have hs2 : h0.size ≤ tk := by rw [q1]; exact (Keep.refl h0 []).1
  have sz1 := Nat.le_trans Z0 E1.1
  have hk3 := Nat.le_trans hk0 E1.1
  have K4 := (Keep.refl h0 []).ext E1
  have f5 : Fld Z h1 tk "com/example/acomp/acomp/HoaLexer$Token" "kind" "Lcom/example/acomp/acomp/HoaLexer$Kind;" .null := D1 (Or.inr (Wk.w hw 40 rfl)) (ty := (.object "com/example/acomp/acomp/HoaLexer$Kind")) (by decide)
  have f6 : Fld Z h1 tk "com/example/acomp/acomp/HoaLexer$Token" "text" "Ljava/lang/String;" .null := D1 (Or.inr (Wk.w hw 42 rfl)) (ty := (.object "java/lang/String")) (by decide)
  have f7 : Fld Z h1 tk "com/example/acomp/acomp/HoaLexer$Token" "line" "I" (.int (0 : Int32)) := D1 (Or.inr (Wk.w hw 44 rfl)) (ty := .int) (by decide)
  refine Wh.dup k X1 at_135 rfl 136 rfl ?_
  refine Wh.iload k X1 at_136 rfl 138 rfl ?_
  refine Wh.callS k X1 [(.int k1I)] [(.ref tk), (.ref tk)] at_138 (rm_ko l Z a0 hw _ kk A _ hk1 h10 (own_SK.keep (O0.keep K4 all0) SK)) e1 (Wk.w hw 3 rfl) (Wk.w hw 4 rfl) (Wk.w hw 5 rfl) (Wk.w hw 6 rfl) (by decide) rfl pd_TokenIsPinLaw_kindOf rfl rfl (Nat.le_of_ble_eq_true rfl) (Nat.le_of_ble_eq_true rfl) (Nat.le_of_ble_eq_true rfl) (Nat.le_of_ble_eq_true rfl) 141 rfl fun T8 v8 L8 X8 hQ8 => ?_
  obtain ⟨rfl, e8, rfl⟩ := hQ8
  rw [List.append_nil] at X8
  show Wh.Ends _ _ _ _ _ _ _ (mkF m 141 _ [(.ref (A kk)), (.ref tk), (.ref tk)])
  refine Wh.iload k X8 at_141 rfl 143 rfl ?_
  refine Wh.iload k X8 at_143 rfl 145 rfl ?_
  refine Wh.iload k X8 at_145 rfl 147 rfl ?_
  have G1 := CHr.keep K4 (fun x hx => absurd hx (List.not_mem_nil)) P0
  refine Wh.callSH k X8 (PP := (fun vm => CHr Z own_EL s0.vm h1 vm h1)) [(.int (1 : Int32)), (.int a0c), (.int a1c)] [(.ref (A kk)), (.ref tk), (.ref tk)] at_147 (rm_st1 l Z a0 hw a0c a1c ha0 h1 n0 sz1 cz hcz (O0.keep K4 all0) S0) e8 S0' hk3 (fun _ _ _ _ _ _ _ Y => CHv.at Y k.2.1 (own_EW hw) G1.1) (fun vm P => P.1) (Wk.w hw 10 rfl) (Wk.w hw 11 rfl) (Wk.w hw 5 rfl) (Wk.w hw 12 rfl) (by decide) rfl pd_TokenIsPinLaw_str rfl rfl (Nat.le_of_ble_eq_true rfl) (Nat.le_of_ble_eq_true rfl) (Nat.le_of_ble_eq_true rfl) (Nat.le_of_ble_eq_true rfl) 150 rfl fun vp9 vm9 kz9 T9 v9 L9 PP9 kn9 X9 S9 hk9 hQ9 => ?_
  obtain ⟨o1, b1, rfl, ho1, N9q, K9q, ⟨ES1, FC1, FV1, AS1⟩, CR1⟩ := hQ9
  show Wh.Ends _ _ _ _ _ _ _ (mkF m 150 _ [(.ref o1), (.ref (A kk)), (.ref tk), (.ref tk)])
  have N9 := Fr.app (Fr.nil n0) N9q
  have sz9 := Nat.le_trans sz1 K9q.1
  have CRT := G1.trans (PP9.trans CR1)
  have not1 : o1 ≠ tk := Ne.symm (Nat.ne_of_lt (Nat.lt_of_lt_of_le A1.lt ho1))
  have K10 := K4.trans K9q all0
  have f11 := A1.keep K9q
  have f12 := f5.keep K9q nin0
  have f13 := f6.keep K9q nin0
  have f14 := f7.keep K9q nin0
  have nbt : b1 ≠ tk := by obtain ⟨cc, Ar, -⟩ := AS1; exact Ne.symm (ne_arr f11 (Wk.w hw 1 rfl) Ar)
  refine Wh.iload_n kn9 X9 at_150 rfl 151 rfl ?_
  refine Wh.callI kn9 X9 [(.ref (A kk)), (.ref o1), (.int p3)] [(.ref tk)] at_151 (rm_ti l Z a0 hw tk _ o1 p3 _ _ _ T9.heap n0 g1 f11 f12 f13 f14) (rfl : T9.heap = T9.heap) rfl (Wk.w hw 35 rfl) (Wk.w hw 36 rfl) (Wk.w hw 2 rfl) (Wk.w hw 37 rfl) (by decide) rfl pd_Token_init rfl rfl (Nat.le_of_ble_eq_true rfl) (Nat.le_of_ble_eq_true rfl) (Nat.le_of_ble_eq_true rfl) (Nat.le_of_ble_eq_true rfl) 154 rfl fun T15 v15 L15 X15 hQ15 => ?_
  obtain ⟨rfl, N15q, K15q, E15t, F15k, F15x⟩ := hQ15
  show Wh.Ends _ _ _ _ _ _ _ (mkF m 154 _ [(.ref tk)])
  have N15 := Fr.app N9 N15q
  have sz15 := Nat.le_trans sz9 K15q.1
  have hk16 := Nat.le_trans hk9 K15q.1
  have K17 := K10.trans K15q (allS (Or.inr hs2) all0)
  have f18 := ES1.keep K15q
  have f19 := FC1.keep K15q (ninS not1 nin0)
  have f20 := FV1.keep K15q (ninS not1 nin0)
  have f21 := AS1.keep K15q (ninS nbt nin0)
  refine Wh.astore kn9 X15 at_154 rfl #[.val (.int p0), .val (.int p1), .val (.int p2), .val (.int p3), .val (.int k1I), .val (.int k2I), .val (.int (1 : Int32)), .val (.int a0c), .val (.int a1c), .val (.int (1 : Int32)), .val (.int b0c), .val (.int b1c), .val (.ref tk), .unset, .unset] rfl 156 rfl ?_
  refine Wh.aload kn9 X15 at_156 rfl rfl 158 rfl ?_
  refine Wh.iload kn9 X15 at_158 rfl 160 rfl ?_
  refine Wh.callS kn9 X15 [(.int k2I)] [(.ref tk)] at_160 (rm_ko l Z a0 hw _ kk A _ hk2 h10 (own_SK.keep (O0.keep K17 all0) SK)) (rfl : T15.heap = T15.heap) (Wk.w hw 3 rfl) (Wk.w hw 4 rfl) (Wk.w hw 5 rfl) (Wk.w hw 6 rfl) (by decide) rfl pd_TokenIsPinLaw_kindOf rfl rfl (Nat.le_of_ble_eq_true rfl) (Nat.le_of_ble_eq_true rfl) (Nat.le_of_ble_eq_true rfl) (Nat.le_of_ble_eq_true rfl) 163 rfl fun T22 v22 L22 X22 hQ22 => ?_
  obtain ⟨rfl, e22, rfl⟩ := hQ22
  rw [List.append_nil] at X22
  show Wh.Ends _ _ _ _ _ _ _ (mkF m 163 _ [(.ref (A kk)), (.ref tk)])
  refine Wh.iload kn9 X22 at_163 rfl 165 rfl ?_
  refine Wh.iload kn9 X22 at_165 rfl 167 rfl ?_
  refine Wh.iload kn9 X22 at_167 rfl 169 rfl ?_
  have G2 := CHr.keep K15q (allS (Safe.exa kn9.2.1.alike f11 (by decide) (by decide)) all0) CRT.1
  refine Wh.callSH kn9 X22 (PP := (fun vm => CHr Z own_EL vm9 T15.heap vm T15.heap)) [(.int (1 : Int32)), (.int b0c), (.int b1c)] [(.ref (A kk)), (.ref tk)] at_169 (rm_st1 l Z a0 hw b0c b1c hb0 T15.heap n0 sz15 cz hcz (O0.keep K17 all0) S0) e22 S9 hk16 (fun _ _ _ _ _ _ _ Y => CHv.at Y kn9.2.1 (own_EW hw) G2.1) (fun vm P => P.1) (Wk.w hw 10 rfl) (Wk.w hw 11 rfl) (Wk.w hw 5 rfl) (Wk.w hw 12 rfl) (by decide) rfl pd_TokenIsPinLaw_str rfl rfl (Nat.le_of_ble_eq_true rfl) (Nat.le_of_ble_eq_true rfl) (Nat.le_of_ble_eq_true rfl) (Nat.le_of_ble_eq_true rfl) 172 rfl fun vp23 vm23 kz23 T23 v23 L23 PP23 kn23 X23 S23 hk23 hQ23 => ?_
  obtain ⟨o2, b2, rfl, ho2, N23q, K23q, ⟨ES2, FC2, FV2, AS2⟩, CR2⟩ := hQ23
  show Wh.Ends _ _ _ _ _ _ _ (mkF m 172 _ [(.ref o2), (.ref (A kk)), (.ref tk)])
  have N23 := Fr.app N15 N23q
  have sz23 := Nat.le_trans sz15 K23q.1
  have noo : o1 ≠ o2 := Nat.ne_of_lt (Nat.lt_of_lt_of_le f18.lt ho2)
  have K24 := K17.trans K23q all0
  have f25 := f18.keep K23q
  have f26 := f19.keep K23q nin0
  have f27 := f20.keep K23q nin0
  have f28 := f21.keep K23q nin0
  have f29 := E15t.keep K23q
  have f30 := F15k.keep K23q nin0
  have f31 := F15x.keep K23q nin0
  refine Wh.callV kn23 X23 [(.ref (A kk)), (.ref o2)] [] at_172 (rm_isS l Z a0 hw tk _ o2 o1 b1 b2 ([(a0c).toInt8.toInt32] : List Int32) ([(b0c).toInt8.toInt32] : List Int32) T23.heap noo cz hcz (Sta.ext (O0.keep K24 all0).2 S0) ⟨f25, f26, f27, f28⟩ ⟨ES2, FC2, FV2, AS2⟩ (rm_le11 l Z a0 hw b1 b2 _ _ T23.heap f28 AS2) f30 f31) (rfl : T23.heap = T23.heap) f29 (Wk.w hw 45 rfl) (Wk.w hw 46 rfl) (Wk.w hw 48 rfl) (Wk.w hw 47 rfl) (Wk.w hw 2 rfl) (Wk.w hw 49 rfl) (by decide) rfl pd_Token_is rfl rfl (Nat.le_of_ble_eq_true rfl) (Nat.le_of_ble_eq_true rfl) (Nat.le_of_ble_eq_true rfl) (Nat.le_of_ble_eq_true rfl) 175 rfl fun T32 v32 L32 X32 hQ32 => ?_
  obtain ⟨rfl, e32, rfl⟩ := hQ32
  rw [List.append_nil] at X32
  show Wh.Ends _ _ _ _ _ _ _ (mkF m 175 _ [(.int (if ([(a0c).toInt8.toInt32] : List Int32) = ([(b0c).toInt8.toInt32] : List Int32) then (1 : Int32) else 0))])
  refine Wh.istore kn23 X32 at_175 #[.val (.int p0), .val (.int p1), .val (.int p2), .val (.int p3), .val (.int k1I), .val (.int k2I), .val (.int (1 : Int32)), .val (.int a0c), .val (.int a1c), .val (.int (1 : Int32)), .val (.int b0c), .val (.int b1c), .val (.ref tk), .val (.int (if ([(a0c).toInt8.toInt32] : List Int32) = ([(b0c).toInt8.toInt32] : List Int32) then (1 : Int32) else 0)), .unset] rfl 177 rfl ?_
  refine Wh.iload kn23 X32 at_177 rfl 179 rfl ?_
  refine Wh.iload kn23 X32 at_179 rfl 181 rfl ?_
  refine Wh.icmp_ne kn23 X32 at_181 (by decide) 221 184 (by decide) rfl (fun hc181 => ?_) (fun hc181 => ?_)
  · exact absurd (Int32.toInt_inj.mp (hk1.trans hk2.symm)) hc181
  · refine Wh.iload kn23 X32 at_184 rfl 186 rfl ?_
    refine Wh.iload kn23 X32 at_186 rfl 188 rfl ?_
    refine Wh.icmp_ne kn23 X32 at_188 (by decide) 221 191 (by decide) rfl (fun hz => by first | exact absurd hz (by decide) | exact absurd (by decide) hz) (fun _ => ?_)
    refine Wh.iload kn23 X32 at_191 rfl 193 rfl ?_
    refine Wh.iconst kn23 X32 at_193 (1 : Int32) rfl 194 rfl ?_
    refine Wh.icmp_lt kn23 X32 at_194 (by decide) 204 197 (by decide) rfl (fun hz => by first | exact absurd hz (by decide) | exact absurd (by decide) hz) (fun _ => ?_)
    refine Wh.iload kn23 X32 at_197 rfl 199 rfl ?_
    refine Wh.iload kn23 X32 at_199 rfl 201 rfl ?_
    refine Wh.icmp_ne kn23 X32 at_201 (by decide) 221 204 (by decide) rfl (fun hc201 => ?_) (fun hc201 => ?_)
    · refine Wh.iconst kn23 X32 at_221 (0 : Int32) rfl 222 rfl ?_
      refine Wh.istore kn23 X32 at_222 #[.val (.int p0), .val (.int p1), .val (.int p2), .val (.int p3), .val (.int k1I), .val (.int k2I), .val (.int (1 : Int32)), .val (.int a0c), .val (.int a1c), .val (.int (1 : Int32)), .val (.int b0c), .val (.int b1c), .val (.ref tk), .val (.int (if ([(a0c).toInt8.toInt32] : List Int32) = ([(b0c).toInt8.toInt32] : List Int32) then (1 : Int32) else 0)), .val (.int (0 : Int32))] rfl 224 rfl ?_
      refine Wh.iload kn23 X32 at_224 rfl 226 rfl ?_
      refine Wh.iload kn23 X32 at_226 rfl 228 rfl ?_
      refine Wh.icmp_ne kn23 X32 at_228 (by decide) 235 231 (by decide) rfl (fun hz => absurd (if_neg (fun hq => hc201 (own_bi ha0 hb0 (own_h1 hq)))) hz) (fun _ => ?_)
      refine Wh.iconst kn23 X32 at_231 (1 : Int32) rfl 232 rfl ?_
      refine Wh.goto kn23 X32 at_232 (by decide) 236 (by decide) ?_
      exact Wh.ret_bool kn23 X32 S23 (Nat.le_trans hk23 (Nat.le_of_eq (congrArg (fun hh : Heap => hh.size) e32).symm)) rfl at_236 (by decide) (by decide) (by decide) ⟨rfl, N23⟩
    · refine Wh.iload kn23 X32 at_204 rfl 206 rfl ?_
      refine Wh.iconst kn23 X32 at_206 (2 : Int32) rfl 207 rfl ?_
      refine Wh.icmp_lt kn23 X32 at_207 (by decide) 217 210 (by decide) rfl (fun _ => ?_) (fun hz => by first | exact absurd hz (by decide) | exact absurd (by decide) hz)
      refine Wh.iconst kn23 X32 at_217 (1 : Int32) rfl 218 rfl ?_
      refine Wh.goto kn23 X32 at_218 (by decide) 222 (by decide) ?_
      refine Wh.istore kn23 X32 at_222 #[.val (.int p0), .val (.int p1), .val (.int p2), .val (.int p3), .val (.int k1I), .val (.int k2I), .val (.int (1 : Int32)), .val (.int a0c), .val (.int a1c), .val (.int (1 : Int32)), .val (.int b0c), .val (.int b1c), .val (.ref tk), .val (.int (if ([(a0c).toInt8.toInt32] : List Int32) = ([(b0c).toInt8.toInt32] : List Int32) then (1 : Int32) else 0)), .val (.int (1 : Int32))] rfl 224 rfl ?_
      refine Wh.iload kn23 X32 at_224 rfl 226 rfl ?_
      refine Wh.iload kn23 X32 at_226 rfl 228 rfl ?_
      refine Wh.icmp_ne kn23 X32 at_228 (by decide) 235 231 (by decide) rfl (fun hz => absurd (if_pos (by rw [hc201])) hz) (fun _ => ?_)
      refine Wh.iconst kn23 X32 at_231 (1 : Int32) rfl 232 rfl ?_
      refine Wh.goto kn23 X32 at_232 (by decide) 236 (by decide) ?_
      exact Wh.ret_bool kn23 X32 S23 (Nat.le_trans hk23 (Nat.le_of_eq (congrArg (fun hh : Heap => hh.size) e32).symm)) rfl at_236 (by decide) (by decide) (by decide) ⟨rfl, N23⟩
set_option maxRecDepth 65536 in
set_option maxHeartbeats 40000000 in
theorem law_11D {p : Program} {l : Launch} {e : Env} {s0 : State} {kz0 : Nat} {m : MethodId} {args : Array Value} {below : List Frame} {meth : Method} {c : Code} {Z : State} {a0 : Array Value} {h0 : Heap} {n0 : Nat} {T0 : State} (hw : ∀ d ∈ tables_1, d.before a0 Z = true) (k : Wk.K p (s0.setVm s0.vm) m meth c Z x code maxLocals ret) (X0 : Stand p l e room_1 (s0.setVm s0.vm) m args below meth c T0 [] 0 0) (p0 p1 p2 p3 k1I k2I a0c a1c b0c b1c : Int32) (e0 : T0.heap = h0) (S0' : s0.Since s0.vm kz0) (hk0 : kz0 ≤ h0.size) (P0 : CHv Z own_EL s0.vm h0) (kk : Nat) (A : Nat → Addr) (cz : Int32) (hcz : ¬ cz = 0) (Z0 : n0 ≤ h0.size) (O0 : Old Z n0 h0) (S0 : Sta Z Z.heap "java/lang/String" "COMPACT_STRINGS" "Z" (.int cz)) (SK : own_SK Z Z.heap A) (ha0 : 0 ≤ a0c.toInt ∧ a0c.toInt ≤ 255) (ha1 : 0 ≤ a1c.toInt ∧ a1c.toInt ≤ 255) (hb0 : 0 ≤ b0c.toInt ∧ b0c.toInt ≤ 255) (hb1 : 0 ≤ b1c.toInt ∧ b1c.toInt ≤ 255) (hk1 : k1I.toInt = (kk : Int)) (h10 : kk < 10) (kq : Nat) (hk2 : k2I.toInt = (kq : Int)) (h10q : kq < 10) (hkq : ¬ kk = kq) (hAA : A kk ≠ A kq) : Wh.Ends p e s0 below room_1 ((fun (_ : Vm) v (_ : Vm) (_ : Heap) L => v = some (.int 1) ∧ Fr n0 L) s0.vm) T0 (mkF m 132 #[.val (.int p0), .val (.int p1), .val (.int p2), .val (.int p3), .val (.int k1I), .val (.int k2I), .val (.int (1 : Int32)), .val (.int a0c), .val (.int a1c), .val (.int (1 : Int32)), .val (.int b0c), .val (.int b1c), .unset, .unset, .unset] []) := by
  refine Wh.new k X0 at_132 (Wk.w hw 0 rfl) (Wk.w hw 1 rfl) (Wk.w hw 2 rfl) e0 (by decide) (by decide) 135 rfl fun T1 h1 tk q1 X1 e1 E1 A1 D1 => ?_
  have g1 : n0 ≤ tk := by rw [q1]; exact Z0
  have hs2 : h0.size ≤ tk := by rw [q1]; exact (Keep.refl h0 []).1
  have sz1 := Nat.le_trans Z0 E1.1
  have hk3 := Nat.le_trans hk0 E1.1
  have K4 := (Keep.refl h0 []).ext E1
  have f5 : Fld Z h1 tk "com/example/acomp/acomp/HoaLexer$Token" "kind" "Lcom/example/acomp/acomp/HoaLexer$Kind;" .null := D1 (Or.inr (Wk.w hw 40 rfl)) (ty := (.object "com/example/acomp/acomp/HoaLexer$Kind")) (by decide)
  have f6 : Fld Z h1 tk "com/example/acomp/acomp/HoaLexer$Token" "text" "Ljava/lang/String;" .null := D1 (Or.inr (Wk.w hw 42 rfl)) (ty := (.object "java/lang/String")) (by decide)
  have f7 : Fld Z h1 tk "com/example/acomp/acomp/HoaLexer$Token" "line" "I" (.int (0 : Int32)) := D1 (Or.inr (Wk.w hw 44 rfl)) (ty := .int) (by decide)
  refine Wh.dup k X1 at_135 rfl 136 rfl ?_
  refine Wh.iload k X1 at_136 rfl 138 rfl ?_
  refine Wh.callS k X1 [(.int k1I)] [(.ref tk), (.ref tk)] at_138 (rm_ko l Z a0 hw _ kk A _ hk1 h10 (own_SK.keep (O0.keep K4 all0) SK)) e1 (Wk.w hw 3 rfl) (Wk.w hw 4 rfl) (Wk.w hw 5 rfl) (Wk.w hw 6 rfl) (by decide) rfl pd_TokenIsPinLaw_kindOf rfl rfl (Nat.le_of_ble_eq_true rfl) (Nat.le_of_ble_eq_true rfl) (Nat.le_of_ble_eq_true rfl) (Nat.le_of_ble_eq_true rfl) 141 rfl fun T8 v8 L8 X8 hQ8 => ?_
  obtain ⟨rfl, e8, rfl⟩ := hQ8
  rw [List.append_nil] at X8
  show Wh.Ends _ _ _ _ _ _ _ (mkF m 141 _ [(.ref (A kk)), (.ref tk), (.ref tk)])
  refine Wh.iload k X8 at_141 rfl 143 rfl ?_
  refine Wh.iload k X8 at_143 rfl 145 rfl ?_
  refine Wh.iload k X8 at_145 rfl 147 rfl ?_
  have G1 := CHr.keep K4 (fun x hx => absurd hx (List.not_mem_nil)) P0
  refine Wh.callSH k X8 (PP := (fun vm => CHr Z own_EL s0.vm h1 vm h1)) [(.int (1 : Int32)), (.int a0c), (.int a1c)] [(.ref (A kk)), (.ref tk), (.ref tk)] at_147 (rm_st1 l Z a0 hw a0c a1c ha0 h1 n0 sz1 cz hcz (O0.keep K4 all0) S0) e8 S0' hk3 (fun _ _ _ _ _ _ _ Y => CHv.at Y k.2.1 (own_EW hw) G1.1) (fun vm P => P.1) (Wk.w hw 10 rfl) (Wk.w hw 11 rfl) (Wk.w hw 5 rfl) (Wk.w hw 12 rfl) (by decide) rfl pd_TokenIsPinLaw_str rfl rfl (Nat.le_of_ble_eq_true rfl) (Nat.le_of_ble_eq_true rfl) (Nat.le_of_ble_eq_true rfl) (Nat.le_of_ble_eq_true rfl) 150 rfl fun vp9 vm9 kz9 T9 v9 L9 PP9 kn9 X9 S9 hk9 hQ9 => ?_
  obtain ⟨o1, b1, rfl, ho1, N9q, K9q, ⟨ES1, FC1, FV1, AS1⟩, CR1⟩ := hQ9
  show Wh.Ends _ _ _ _ _ _ _ (mkF m 150 _ [(.ref o1), (.ref (A kk)), (.ref tk), (.ref tk)])
  have N9 := Fr.app (Fr.nil n0) N9q
  have sz9 := Nat.le_trans sz1 K9q.1
  have CRT := G1.trans (PP9.trans CR1)
  have not1 : o1 ≠ tk := Ne.symm (Nat.ne_of_lt (Nat.lt_of_lt_of_le A1.lt ho1))
  have K10 := K4.trans K9q all0
  have f11 := A1.keep K9q
  have f12 := f5.keep K9q nin0
  have f13 := f6.keep K9q nin0
  have f14 := f7.keep K9q nin0
  have nbt : b1 ≠ tk := by obtain ⟨cc, Ar, -⟩ := AS1; exact Ne.symm (ne_arr f11 (Wk.w hw 1 rfl) Ar)
  refine Wh.iload_n kn9 X9 at_150 rfl 151 rfl ?_
  refine Wh.callI kn9 X9 [(.ref (A kk)), (.ref o1), (.int p3)] [(.ref tk)] at_151 (rm_ti l Z a0 hw tk _ o1 p3 _ _ _ T9.heap n0 g1 f11 f12 f13 f14) (rfl : T9.heap = T9.heap) rfl (Wk.w hw 35 rfl) (Wk.w hw 36 rfl) (Wk.w hw 2 rfl) (Wk.w hw 37 rfl) (by decide) rfl pd_Token_init rfl rfl (Nat.le_of_ble_eq_true rfl) (Nat.le_of_ble_eq_true rfl) (Nat.le_of_ble_eq_true rfl) (Nat.le_of_ble_eq_true rfl) 154 rfl fun T15 v15 L15 X15 hQ15 => ?_
  obtain ⟨rfl, N15q, K15q, E15t, F15k, F15x⟩ := hQ15
  show Wh.Ends _ _ _ _ _ _ _ (mkF m 154 _ [(.ref tk)])
  have N15 := Fr.app N9 N15q
  have sz15 := Nat.le_trans sz9 K15q.1
  have hk16 := Nat.le_trans hk9 K15q.1
  have K17 := K10.trans K15q (allS (Or.inr hs2) all0)
  have f18 := ES1.keep K15q
  have f19 := FC1.keep K15q (ninS not1 nin0)
  have f20 := FV1.keep K15q (ninS not1 nin0)
  have f21 := AS1.keep K15q (ninS nbt nin0)
  refine Wh.astore kn9 X15 at_154 rfl #[.val (.int p0), .val (.int p1), .val (.int p2), .val (.int p3), .val (.int k1I), .val (.int k2I), .val (.int (1 : Int32)), .val (.int a0c), .val (.int a1c), .val (.int (1 : Int32)), .val (.int b0c), .val (.int b1c), .val (.ref tk), .unset, .unset] rfl 156 rfl ?_
  refine Wh.aload kn9 X15 at_156 rfl rfl 158 rfl ?_
  refine Wh.iload kn9 X15 at_158 rfl 160 rfl ?_
  refine Wh.callS kn9 X15 [(.int k2I)] [(.ref tk)] at_160 (rm_ko l Z a0 hw _ kq A _ hk2 h10q (own_SK.keep (O0.keep K17 all0) SK)) (rfl : T15.heap = T15.heap) (Wk.w hw 3 rfl) (Wk.w hw 4 rfl) (Wk.w hw 5 rfl) (Wk.w hw 6 rfl) (by decide) rfl pd_TokenIsPinLaw_kindOf rfl rfl (Nat.le_of_ble_eq_true rfl) (Nat.le_of_ble_eq_true rfl) (Nat.le_of_ble_eq_true rfl) (Nat.le_of_ble_eq_true rfl) 163 rfl fun T22 v22 L22 X22 hQ22 => ?_
  obtain ⟨rfl, e22, rfl⟩ := hQ22
  rw [List.append_nil] at X22
  show Wh.Ends _ _ _ _ _ _ _ (mkF m 163 _ [(.ref (A kq)), (.ref tk)])
  refine Wh.iload kn9 X22 at_163 rfl 165 rfl ?_
  refine Wh.iload kn9 X22 at_165 rfl 167 rfl ?_
  refine Wh.iload kn9 X22 at_167 rfl 169 rfl ?_
  have G2 := CHr.keep K15q (allS (Safe.exa kn9.2.1.alike f11 (by decide) (by decide)) all0) CRT.1
  refine Wh.callSH kn9 X22 (PP := (fun vm => CHr Z own_EL vm9 T15.heap vm T15.heap)) [(.int (1 : Int32)), (.int b0c), (.int b1c)] [(.ref (A kq)), (.ref tk)] at_169 (rm_st1 l Z a0 hw b0c b1c hb0 T15.heap n0 sz15 cz hcz (O0.keep K17 all0) S0) e22 S9 hk16 (fun _ _ _ _ _ _ _ Y => CHv.at Y kn9.2.1 (own_EW hw) G2.1) (fun vm P => P.1) (Wk.w hw 10 rfl) (Wk.w hw 11 rfl) (Wk.w hw 5 rfl) (Wk.w hw 12 rfl) (by decide) rfl pd_TokenIsPinLaw_str rfl rfl (Nat.le_of_ble_eq_true rfl) (Nat.le_of_ble_eq_true rfl) (Nat.le_of_ble_eq_true rfl) (Nat.le_of_ble_eq_true rfl) 172 rfl fun vp23 vm23 kz23 T23 v23 L23 PP23 kn23 X23 S23 hk23 hQ23 => ?_
  obtain ⟨o2, b2, rfl, ho2, N23q, K23q, ⟨ES2, FC2, FV2, AS2⟩, CR2⟩ := hQ23
  show Wh.Ends _ _ _ _ _ _ _ (mkF m 172 _ [(.ref o2), (.ref (A kq)), (.ref tk)])
  have N23 := Fr.app N15 N23q
  have sz23 := Nat.le_trans sz15 K23q.1
  have noo : o1 ≠ o2 := Nat.ne_of_lt (Nat.lt_of_lt_of_le f18.lt ho2)
  have K24 := K17.trans K23q all0
  have f25 := f18.keep K23q
  have f26 := f19.keep K23q nin0
  have f27 := f20.keep K23q nin0
  have f28 := f21.keep K23q nin0
  have f29 := E15t.keep K23q
  have f30 := F15k.keep K23q nin0
  have f31 := F15x.keep K23q nin0
  refine Wh.callV kn23 X23 [(.ref (A kq)), (.ref o2)] [] at_172 (rm_isD l Z a0 hw tk _ o2 _ hAA o1 b1 b2 ([(a0c).toInt8.toInt32] : List Int32) ([(b0c).toInt8.toInt32] : List Int32) T23.heap noo cz hcz (Sta.ext (O0.keep K24 all0).2 S0) ⟨f25, f26, f27, f28⟩ ⟨ES2, FC2, FV2, AS2⟩ (rm_le11 l Z a0 hw b1 b2 _ _ T23.heap f28 AS2) f30 f31) (rfl : T23.heap = T23.heap) f29 (Wk.w hw 45 rfl) (Wk.w hw 46 rfl) (Wk.w hw 48 rfl) (Wk.w hw 47 rfl) (Wk.w hw 2 rfl) (Wk.w hw 49 rfl) (by decide) rfl pd_Token_is rfl rfl (Nat.le_of_ble_eq_true rfl) (Nat.le_of_ble_eq_true rfl) (Nat.le_of_ble_eq_true rfl) (Nat.le_of_ble_eq_true rfl) 175 rfl fun T32 v32 L32 X32 hQ32 => ?_
  obtain ⟨rfl, e32, rfl⟩ := hQ32
  rw [List.append_nil] at X32
  show Wh.Ends _ _ _ _ _ _ _ (mkF m 175 _ [(.int (0 : Int32))])
  refine Wh.istore kn23 X32 at_175 #[.val (.int p0), .val (.int p1), .val (.int p2), .val (.int p3), .val (.int k1I), .val (.int k2I), .val (.int (1 : Int32)), .val (.int a0c), .val (.int a1c), .val (.int (1 : Int32)), .val (.int b0c), .val (.int b1c), .val (.ref tk), .val (.int (0 : Int32)), .unset] rfl 177 rfl ?_
  refine Wh.iload kn23 X32 at_177 rfl 179 rfl ?_
  refine Wh.iload kn23 X32 at_179 rfl 181 rfl ?_
  refine Wh.icmp_ne kn23 X32 at_181 (by decide) 221 184 (by decide) rfl (fun hc181 => ?_) (fun hc181 => ?_)
  · refine Wh.iconst kn23 X32 at_221 (0 : Int32) rfl 222 rfl ?_
    refine Wh.istore kn23 X32 at_222 #[.val (.int p0), .val (.int p1), .val (.int p2), .val (.int p3), .val (.int k1I), .val (.int k2I), .val (.int (1 : Int32)), .val (.int a0c), .val (.int a1c), .val (.int (1 : Int32)), .val (.int b0c), .val (.int b1c), .val (.ref tk), .val (.int (0 : Int32)), .val (.int (0 : Int32))] rfl 224 rfl ?_
    refine Wh.iload kn23 X32 at_224 rfl 226 rfl ?_
    refine Wh.iload kn23 X32 at_226 rfl 228 rfl ?_
    refine Wh.icmp_ne kn23 X32 at_228 (by decide) 235 231 (by decide) rfl (fun hz => absurd rfl hz) (fun _ => ?_)
    refine Wh.iconst kn23 X32 at_231 (1 : Int32) rfl 232 rfl ?_
    refine Wh.goto kn23 X32 at_232 (by decide) 236 (by decide) ?_
    exact Wh.ret_bool kn23 X32 S23 (Nat.le_trans hk23 (Nat.le_of_eq (congrArg (fun hh : Heap => hh.size) e32).symm)) rfl at_236 (by decide) (by decide) (by decide) ⟨rfl, N23⟩
  · exact absurd (own_kk hk1 hc181 hk2) hkq
set_option maxRecDepth 65536 in
set_option maxHeartbeats 40000000 in
theorem law_12S {p : Program} {l : Launch} {e : Env} {s0 : State} {kz0 : Nat} {m : MethodId} {args : Array Value} {below : List Frame} {meth : Method} {c : Code} {Z : State} {a0 : Array Value} {h0 : Heap} {n0 : Nat} {T0 : State} (hw : ∀ d ∈ tables_1, d.before a0 Z = true) (k : Wk.K p (s0.setVm s0.vm) m meth c Z x code maxLocals ret) (X0 : Stand p l e room_1 (s0.setVm s0.vm) m args below meth c T0 [] 0 0) (p0 p1 p2 p3 k1I k2I a0c a1c b0c b1c : Int32) (e0 : T0.heap = h0) (S0' : s0.Since s0.vm kz0) (hk0 : kz0 ≤ h0.size) (P0 : CHv Z own_EL s0.vm h0) (kk : Nat) (A : Nat → Addr) (cz : Int32) (hcz : ¬ cz = 0) (Z0 : n0 ≤ h0.size) (O0 : Old Z n0 h0) (S0 : Sta Z Z.heap "java/lang/String" "COMPACT_STRINGS" "Z" (.int cz)) (SK : own_SK Z Z.heap A) (ha0 : 0 ≤ a0c.toInt ∧ a0c.toInt ≤ 255) (ha1 : 0 ≤ a1c.toInt ∧ a1c.toInt ≤ 255) (hb0 : 0 ≤ b0c.toInt ∧ b0c.toInt ≤ 255) (hb1 : 0 ≤ b1c.toInt ∧ b1c.toInt ≤ 255) (hk1 : k1I.toInt = (kk : Int)) (h10 : kk < 10) (hk2 : k2I.toInt = (kk : Int)) : Wh.Ends p e s0 below room_1 ((fun (_ : Vm) v (_ : Vm) (_ : Heap) L => v = some (.int 1) ∧ Fr n0 L) s0.vm) T0 (mkF m 132 #[.val (.int p0), .val (.int p1), .val (.int p2), .val (.int p3), .val (.int k1I), .val (.int k2I), .val (.int (1 : Int32)), .val (.int a0c), .val (.int a1c), .val (.int (2 : Int32)), .val (.int b0c), .val (.int b1c), .unset, .unset, .unset] []) := by
  refine Wh.new k X0 at_132 (Wk.w hw 0 rfl) (Wk.w hw 1 rfl) (Wk.w hw 2 rfl) e0 (by decide) (by decide) 135 rfl fun T1 h1 tk q1 X1 e1 E1 A1 D1 => ?_
  have g1 : n0 ≤ tk := by rw [q1]; exact Z0
  have hs2 : h0.size ≤ tk := by rw [q1]; exact (Keep.refl h0 []).1
  have sz1 := Nat.le_trans Z0 E1.1
  have hk3 := Nat.le_trans hk0 E1.1
  have K4 := (Keep.refl h0 []).ext E1
  have f5 : Fld Z h1 tk "com/example/acomp/acomp/HoaLexer$Token" "kind" "Lcom/example/acomp/acomp/HoaLexer$Kind;" .null := D1 (Or.inr (Wk.w hw 40 rfl)) (ty := (.object "com/example/acomp/acomp/HoaLexer$Kind")) (by decide)
  have f6 : Fld Z h1 tk "com/example/acomp/acomp/HoaLexer$Token" "text" "Ljava/lang/String;" .null := D1 (Or.inr (Wk.w hw 42 rfl)) (ty := (.object "java/lang/String")) (by decide)
  have f7 : Fld Z h1 tk "com/example/acomp/acomp/HoaLexer$Token" "line" "I" (.int (0 : Int32)) := D1 (Or.inr (Wk.w hw 44 rfl)) (ty := .int) (by decide)
  refine Wh.dup k X1 at_135 rfl 136 rfl ?_
  refine Wh.iload k X1 at_136 rfl 138 rfl ?_
  refine Wh.callS k X1 [(.int k1I)] [(.ref tk), (.ref tk)] at_138 (rm_ko l Z a0 hw _ kk A _ hk1 h10 (own_SK.keep (O0.keep K4 all0) SK)) e1 (Wk.w hw 3 rfl) (Wk.w hw 4 rfl) (Wk.w hw 5 rfl) (Wk.w hw 6 rfl) (by decide) rfl pd_TokenIsPinLaw_kindOf rfl rfl (Nat.le_of_ble_eq_true rfl) (Nat.le_of_ble_eq_true rfl) (Nat.le_of_ble_eq_true rfl) (Nat.le_of_ble_eq_true rfl) 141 rfl fun T8 v8 L8 X8 hQ8 => ?_
  obtain ⟨rfl, e8, rfl⟩ := hQ8
  rw [List.append_nil] at X8
  show Wh.Ends _ _ _ _ _ _ _ (mkF m 141 _ [(.ref (A kk)), (.ref tk), (.ref tk)])
  refine Wh.iload k X8 at_141 rfl 143 rfl ?_
  refine Wh.iload k X8 at_143 rfl 145 rfl ?_
  refine Wh.iload k X8 at_145 rfl 147 rfl ?_
  have G1 := CHr.keep K4 (fun x hx => absurd hx (List.not_mem_nil)) P0
  refine Wh.callSH k X8 (PP := (fun vm => CHr Z own_EL s0.vm h1 vm h1)) [(.int (1 : Int32)), (.int a0c), (.int a1c)] [(.ref (A kk)), (.ref tk), (.ref tk)] at_147 (rm_st1 l Z a0 hw a0c a1c ha0 h1 n0 sz1 cz hcz (O0.keep K4 all0) S0) e8 S0' hk3 (fun _ _ _ _ _ _ _ Y => CHv.at Y k.2.1 (own_EW hw) G1.1) (fun vm P => P.1) (Wk.w hw 10 rfl) (Wk.w hw 11 rfl) (Wk.w hw 5 rfl) (Wk.w hw 12 rfl) (by decide) rfl pd_TokenIsPinLaw_str rfl rfl (Nat.le_of_ble_eq_true rfl) (Nat.le_of_ble_eq_true rfl) (Nat.le_of_ble_eq_true rfl) (Nat.le_of_ble_eq_true rfl) 150 rfl fun vp9 vm9 kz9 T9 v9 L9 PP9 kn9 X9 S9 hk9 hQ9 => ?_
  obtain ⟨o1, b1, rfl, ho1, N9q, K9q, ⟨ES1, FC1, FV1, AS1⟩, CR1⟩ := hQ9
  show Wh.Ends _ _ _ _ _ _ _ (mkF m 150 _ [(.ref o1), (.ref (A kk)), (.ref tk), (.ref tk)])
  have N9 := Fr.app (Fr.nil n0) N9q
  have sz9 := Nat.le_trans sz1 K9q.1
  have CRT := G1.trans (PP9.trans CR1)
  have not1 : o1 ≠ tk := Ne.symm (Nat.ne_of_lt (Nat.lt_of_lt_of_le A1.lt ho1))
  have K10 := K4.trans K9q all0
  have f11 := A1.keep K9q
  have f12 := f5.keep K9q nin0
  have f13 := f6.keep K9q nin0
  have f14 := f7.keep K9q nin0
  have nbt : b1 ≠ tk := by obtain ⟨cc, Ar, -⟩ := AS1; exact Ne.symm (ne_arr f11 (Wk.w hw 1 rfl) Ar)
  refine Wh.iload_n kn9 X9 at_150 rfl 151 rfl ?_
  refine Wh.callI kn9 X9 [(.ref (A kk)), (.ref o1), (.int p3)] [(.ref tk)] at_151 (rm_ti l Z a0 hw tk _ o1 p3 _ _ _ T9.heap n0 g1 f11 f12 f13 f14) (rfl : T9.heap = T9.heap) rfl (Wk.w hw 35 rfl) (Wk.w hw 36 rfl) (Wk.w hw 2 rfl) (Wk.w hw 37 rfl) (by decide) rfl pd_Token_init rfl rfl (Nat.le_of_ble_eq_true rfl) (Nat.le_of_ble_eq_true rfl) (Nat.le_of_ble_eq_true rfl) (Nat.le_of_ble_eq_true rfl) 154 rfl fun T15 v15 L15 X15 hQ15 => ?_
  obtain ⟨rfl, N15q, K15q, E15t, F15k, F15x⟩ := hQ15
  show Wh.Ends _ _ _ _ _ _ _ (mkF m 154 _ [(.ref tk)])
  have N15 := Fr.app N9 N15q
  have sz15 := Nat.le_trans sz9 K15q.1
  have hk16 := Nat.le_trans hk9 K15q.1
  have K17 := K10.trans K15q (allS (Or.inr hs2) all0)
  have f18 := ES1.keep K15q
  have f19 := FC1.keep K15q (ninS not1 nin0)
  have f20 := FV1.keep K15q (ninS not1 nin0)
  have f21 := AS1.keep K15q (ninS nbt nin0)
  refine Wh.astore kn9 X15 at_154 rfl #[.val (.int p0), .val (.int p1), .val (.int p2), .val (.int p3), .val (.int k1I), .val (.int k2I), .val (.int (1 : Int32)), .val (.int a0c), .val (.int a1c), .val (.int (2 : Int32)), .val (.int b0c), .val (.int b1c), .val (.ref tk), .unset, .unset] rfl 156 rfl ?_
  refine Wh.aload kn9 X15 at_156 rfl rfl 158 rfl ?_
  refine Wh.iload kn9 X15 at_158 rfl 160 rfl ?_
  refine Wh.callS kn9 X15 [(.int k2I)] [(.ref tk)] at_160 (rm_ko l Z a0 hw _ kk A _ hk2 h10 (own_SK.keep (O0.keep K17 all0) SK)) (rfl : T15.heap = T15.heap) (Wk.w hw 3 rfl) (Wk.w hw 4 rfl) (Wk.w hw 5 rfl) (Wk.w hw 6 rfl) (by decide) rfl pd_TokenIsPinLaw_kindOf rfl rfl (Nat.le_of_ble_eq_true rfl) (Nat.le_of_ble_eq_true rfl) (Nat.le_of_ble_eq_true rfl) (Nat.le_of_ble_eq_true rfl) 163 rfl fun T22 v22 L22 X22 hQ22 => ?_
  obtain ⟨rfl, e22, rfl⟩ := hQ22
  rw [List.append_nil] at X22
  show Wh.Ends _ _ _ _ _ _ _ (mkF m 163 _ [(.ref (A kk)), (.ref tk)])
  refine Wh.iload kn9 X22 at_163 rfl 165 rfl ?_
  refine Wh.iload kn9 X22 at_165 rfl 167 rfl ?_
  refine Wh.iload kn9 X22 at_167 rfl 169 rfl ?_
  have G2 := CHr.keep K15q (allS (Safe.exa kn9.2.1.alike f11 (by decide) (by decide)) all0) CRT.1
  refine Wh.callSH kn9 X22 (PP := (fun vm => CHr Z own_EL vm9 T15.heap vm T15.heap)) [(.int (2 : Int32)), (.int b0c), (.int b1c)] [(.ref (A kk)), (.ref tk)] at_169 (rm_st2 l Z a0 hw b0c b1c hb0 hb1 T15.heap n0 sz15 cz hcz (O0.keep K17 all0) S0) e22 S9 hk16 (fun _ _ _ _ _ _ _ Y => CHv.at Y kn9.2.1 (own_EW hw) G2.1) (fun vm P => P.1) (Wk.w hw 10 rfl) (Wk.w hw 11 rfl) (Wk.w hw 5 rfl) (Wk.w hw 12 rfl) (by decide) rfl pd_TokenIsPinLaw_str rfl rfl (Nat.le_of_ble_eq_true rfl) (Nat.le_of_ble_eq_true rfl) (Nat.le_of_ble_eq_true rfl) (Nat.le_of_ble_eq_true rfl) 172 rfl fun vp23 vm23 kz23 T23 v23 L23 PP23 kn23 X23 S23 hk23 hQ23 => ?_
  obtain ⟨o2, b2, rfl, ho2, N23q, K23q, ⟨ES2, FC2, FV2, AS2⟩, CR2⟩ := hQ23
  show Wh.Ends _ _ _ _ _ _ _ (mkF m 172 _ [(.ref o2), (.ref (A kk)), (.ref tk)])
  have N23 := Fr.app N15 N23q
  have sz23 := Nat.le_trans sz15 K23q.1
  have noo : o1 ≠ o2 := Nat.ne_of_lt (Nat.lt_of_lt_of_le f18.lt ho2)
  have K24 := K17.trans K23q all0
  have f25 := f18.keep K23q
  have f26 := f19.keep K23q nin0
  have f27 := f20.keep K23q nin0
  have f28 := f21.keep K23q nin0
  have f29 := E15t.keep K23q
  have f30 := F15k.keep K23q nin0
  have f31 := F15x.keep K23q nin0
  refine Wh.callV kn23 X23 [(.ref (A kk)), (.ref o2)] [] at_172 (rm_isS l Z a0 hw tk _ o2 o1 b1 b2 ([(a0c).toInt8.toInt32] : List Int32) ([(b0c).toInt8.toInt32, (b1c).toInt8.toInt32] : List Int32) T23.heap noo cz hcz (Sta.ext (O0.keep K24 all0).2 S0) ⟨f25, f26, f27, f28⟩ ⟨ES2, FC2, FV2, AS2⟩ (rm_le12 l Z a0 hw b1 b2 _ _ _ T23.heap f28 AS2) f30 f31) (rfl : T23.heap = T23.heap) f29 (Wk.w hw 45 rfl) (Wk.w hw 46 rfl) (Wk.w hw 48 rfl) (Wk.w hw 47 rfl) (Wk.w hw 2 rfl) (Wk.w hw 49 rfl) (by decide) rfl pd_Token_is rfl rfl (Nat.le_of_ble_eq_true rfl) (Nat.le_of_ble_eq_true rfl) (Nat.le_of_ble_eq_true rfl) (Nat.le_of_ble_eq_true rfl) 175 rfl fun T32 v32 L32 X32 hQ32 => ?_
  obtain ⟨rfl, e32, rfl⟩ := hQ32
  rw [List.append_nil] at X32
  show Wh.Ends _ _ _ _ _ _ _ (mkF m 175 _ [(.int (if ([(a0c).toInt8.toInt32] : List Int32) = ([(b0c).toInt8.toInt32, (b1c).toInt8.toInt32] : List Int32) then (1 : Int32) else 0))])
  refine Wh.istore kn23 X32 at_175 #[.val (.int p0), .val (.int p1), .val (.int p2), .val (.int p3), .val (.int k1I), .val (.int k2I), .val (.int (1 : Int32)), .val (.int a0c), .val (.int a1c), .val (.int (2 : Int32)), .val (.int b0c), .val (.int b1c), .val (.ref tk), .val (.int (if ([(a0c).toInt8.toInt32] : List Int32) = ([(b0c).toInt8.toInt32, (b1c).toInt8.toInt32] : List Int32) then (1 : Int32) else 0)), .unset] rfl 177 rfl ?_
  refine Wh.iload kn23 X32 at_177 rfl 179 rfl ?_
  refine Wh.iload kn23 X32 at_179 rfl 181 rfl ?_
  refine Wh.icmp_ne kn23 X32 at_181 (by decide) 221 184 (by decide) rfl (fun hc181 => ?_) (fun hc181 => ?_)
  · exact absurd (Int32.toInt_inj.mp (hk1.trans hk2.symm)) hc181
  · refine Wh.iload kn23 X32 at_184 rfl 186 rfl ?_
    refine Wh.iload kn23 X32 at_186 rfl 188 rfl ?_
    refine Wh.icmp_ne kn23 X32 at_188 (by decide) 221 191 (by decide) rfl (fun _ => ?_) (fun hz => by first | exact absurd hz (by decide) | exact absurd (by decide) hz)
    refine Wh.iconst kn23 X32 at_221 (0 : Int32) rfl 222 rfl ?_
    refine Wh.istore kn23 X32 at_222 #[.val (.int p0), .val (.int p1), .val (.int p2), .val (.int p3), .val (.int k1I), .val (.int k2I), .val (.int (1 : Int32)), .val (.int a0c), .val (.int a1c), .val (.int (2 : Int32)), .val (.int b0c), .val (.int b1c), .val (.ref tk), .val (.int (if ([(a0c).toInt8.toInt32] : List Int32) = ([(b0c).toInt8.toInt32, (b1c).toInt8.toInt32] : List Int32) then (1 : Int32) else 0)), .val (.int (0 : Int32))] rfl 224 rfl ?_
    refine Wh.iload kn23 X32 at_224 rfl 226 rfl ?_
    refine Wh.iload kn23 X32 at_226 rfl 228 rfl ?_
    refine Wh.icmp_ne kn23 X32 at_228 (by decide) 235 231 (by decide) rfl (fun hz => absurd (if_neg (by simp)) hz) (fun _ => ?_)
    refine Wh.iconst kn23 X32 at_231 (1 : Int32) rfl 232 rfl ?_
    refine Wh.goto kn23 X32 at_232 (by decide) 236 (by decide) ?_
    exact Wh.ret_bool kn23 X32 S23 (Nat.le_trans hk23 (Nat.le_of_eq (congrArg (fun hh : Heap => hh.size) e32).symm)) rfl at_236 (by decide) (by decide) (by decide) ⟨rfl, N23⟩
set_option maxRecDepth 65536 in
set_option maxHeartbeats 40000000 in
theorem law_12D {p : Program} {l : Launch} {e : Env} {s0 : State} {kz0 : Nat} {m : MethodId} {args : Array Value} {below : List Frame} {meth : Method} {c : Code} {Z : State} {a0 : Array Value} {h0 : Heap} {n0 : Nat} {T0 : State} (hw : ∀ d ∈ tables_1, d.before a0 Z = true) (k : Wk.K p (s0.setVm s0.vm) m meth c Z x code maxLocals ret) (X0 : Stand p l e room_1 (s0.setVm s0.vm) m args below meth c T0 [] 0 0) (p0 p1 p2 p3 k1I k2I a0c a1c b0c b1c : Int32) (e0 : T0.heap = h0) (S0' : s0.Since s0.vm kz0) (hk0 : kz0 ≤ h0.size) (P0 : CHv Z own_EL s0.vm h0) (kk : Nat) (A : Nat → Addr) (cz : Int32) (hcz : ¬ cz = 0) (Z0 : n0 ≤ h0.size) (O0 : Old Z n0 h0) (S0 : Sta Z Z.heap "java/lang/String" "COMPACT_STRINGS" "Z" (.int cz)) (SK : own_SK Z Z.heap A) (ha0 : 0 ≤ a0c.toInt ∧ a0c.toInt ≤ 255) (ha1 : 0 ≤ a1c.toInt ∧ a1c.toInt ≤ 255) (hb0 : 0 ≤ b0c.toInt ∧ b0c.toInt ≤ 255) (hb1 : 0 ≤ b1c.toInt ∧ b1c.toInt ≤ 255) (hk1 : k1I.toInt = (kk : Int)) (h10 : kk < 10) (kq : Nat) (hk2 : k2I.toInt = (kq : Int)) (h10q : kq < 10) (hkq : ¬ kk = kq) (hAA : A kk ≠ A kq) : Wh.Ends p e s0 below room_1 ((fun (_ : Vm) v (_ : Vm) (_ : Heap) L => v = some (.int 1) ∧ Fr n0 L) s0.vm) T0 (mkF m 132 #[.val (.int p0), .val (.int p1), .val (.int p2), .val (.int p3), .val (.int k1I), .val (.int k2I), .val (.int (1 : Int32)), .val (.int a0c), .val (.int a1c), .val (.int (2 : Int32)), .val (.int b0c), .val (.int b1c), .unset, .unset, .unset] []) := by
  refine Wh.new k X0 at_132 (Wk.w hw 0 rfl) (Wk.w hw 1 rfl) (Wk.w hw 2 rfl) e0 (by decide) (by decide) 135 rfl fun T1 h1 tk q1 X1 e1 E1 A1 D1 => ?_
  have g1 : n0 ≤ tk := by rw [q1]; exact Z0
  have hs2 : h0.size ≤ tk := by rw [q1]; exact (Keep.refl h0 []).1
  have sz1 := Nat.le_trans Z0 E1.1
  have hk3 := Nat.le_trans hk0 E1.1
  have K4 := (Keep.refl h0 []).ext E1
  have f5 : Fld Z h1 tk "com/example/acomp/acomp/HoaLexer$Token" "kind" "Lcom/example/acomp/acomp/HoaLexer$Kind;" .null := D1 (Or.inr (Wk.w hw 40 rfl)) (ty := (.object "com/example/acomp/acomp/HoaLexer$Kind")) (by decide)
  have f6 : Fld Z h1 tk "com/example/acomp/acomp/HoaLexer$Token" "text" "Ljava/lang/String;" .null := D1 (Or.inr (Wk.w hw 42 rfl)) (ty := (.object "java/lang/String")) (by decide)
  have f7 : Fld Z h1 tk "com/example/acomp/acomp/HoaLexer$Token" "line" "I" (.int (0 : Int32)) := D1 (Or.inr (Wk.w hw 44 rfl)) (ty := .int) (by decide)
  refine Wh.dup k X1 at_135 rfl 136 rfl ?_
  refine Wh.iload k X1 at_136 rfl 138 rfl ?_
  refine Wh.callS k X1 [(.int k1I)] [(.ref tk), (.ref tk)] at_138 (rm_ko l Z a0 hw _ kk A _ hk1 h10 (own_SK.keep (O0.keep K4 all0) SK)) e1 (Wk.w hw 3 rfl) (Wk.w hw 4 rfl) (Wk.w hw 5 rfl) (Wk.w hw 6 rfl) (by decide) rfl pd_TokenIsPinLaw_kindOf rfl rfl (Nat.le_of_ble_eq_true rfl) (Nat.le_of_ble_eq_true rfl) (Nat.le_of_ble_eq_true rfl) (Nat.le_of_ble_eq_true rfl) 141 rfl fun T8 v8 L8 X8 hQ8 => ?_
  obtain ⟨rfl, e8, rfl⟩ := hQ8
  rw [List.append_nil] at X8
  show Wh.Ends _ _ _ _ _ _ _ (mkF m 141 _ [(.ref (A kk)), (.ref tk), (.ref tk)])
  refine Wh.iload k X8 at_141 rfl 143 rfl ?_
  refine Wh.iload k X8 at_143 rfl 145 rfl ?_
  refine Wh.iload k X8 at_145 rfl 147 rfl ?_
  have G1 := CHr.keep K4 (fun x hx => absurd hx (List.not_mem_nil)) P0
  refine Wh.callSH k X8 (PP := (fun vm => CHr Z own_EL s0.vm h1 vm h1)) [(.int (1 : Int32)), (.int a0c), (.int a1c)] [(.ref (A kk)), (.ref tk), (.ref tk)] at_147 (rm_st1 l Z a0 hw a0c a1c ha0 h1 n0 sz1 cz hcz (O0.keep K4 all0) S0) e8 S0' hk3 (fun _ _ _ _ _ _ _ Y => CHv.at Y k.2.1 (own_EW hw) G1.1) (fun vm P => P.1) (Wk.w hw 10 rfl) (Wk.w hw 11 rfl) (Wk.w hw 5 rfl) (Wk.w hw 12 rfl) (by decide) rfl pd_TokenIsPinLaw_str rfl rfl (Nat.le_of_ble_eq_true rfl) (Nat.le_of_ble_eq_true rfl) (Nat.le_of_ble_eq_true rfl) (Nat.le_of_ble_eq_true rfl) 150 rfl fun vp9 vm9 kz9 T9 v9 L9 PP9 kn9 X9 S9 hk9 hQ9 => ?_
  obtain ⟨o1, b1, rfl, ho1, N9q, K9q, ⟨ES1, FC1, FV1, AS1⟩, CR1⟩ := hQ9
  show Wh.Ends _ _ _ _ _ _ _ (mkF m 150 _ [(.ref o1), (.ref (A kk)), (.ref tk), (.ref tk)])
  have N9 := Fr.app (Fr.nil n0) N9q
  have sz9 := Nat.le_trans sz1 K9q.1
  have CRT := G1.trans (PP9.trans CR1)
  have not1 : o1 ≠ tk := Ne.symm (Nat.ne_of_lt (Nat.lt_of_lt_of_le A1.lt ho1))
  have K10 := K4.trans K9q all0
  have f11 := A1.keep K9q
  have f12 := f5.keep K9q nin0
  have f13 := f6.keep K9q nin0
  have f14 := f7.keep K9q nin0
  have nbt : b1 ≠ tk := by obtain ⟨cc, Ar, -⟩ := AS1; exact Ne.symm (ne_arr f11 (Wk.w hw 1 rfl) Ar)
  refine Wh.iload_n kn9 X9 at_150 rfl 151 rfl ?_
  refine Wh.callI kn9 X9 [(.ref (A kk)), (.ref o1), (.int p3)] [(.ref tk)] at_151 (rm_ti l Z a0 hw tk _ o1 p3 _ _ _ T9.heap n0 g1 f11 f12 f13 f14) (rfl : T9.heap = T9.heap) rfl (Wk.w hw 35 rfl) (Wk.w hw 36 rfl) (Wk.w hw 2 rfl) (Wk.w hw 37 rfl) (by decide) rfl pd_Token_init rfl rfl (Nat.le_of_ble_eq_true rfl) (Nat.le_of_ble_eq_true rfl) (Nat.le_of_ble_eq_true rfl) (Nat.le_of_ble_eq_true rfl) 154 rfl fun T15 v15 L15 X15 hQ15 => ?_
  obtain ⟨rfl, N15q, K15q, E15t, F15k, F15x⟩ := hQ15
  show Wh.Ends _ _ _ _ _ _ _ (mkF m 154 _ [(.ref tk)])
  have N15 := Fr.app N9 N15q
  have sz15 := Nat.le_trans sz9 K15q.1
  have hk16 := Nat.le_trans hk9 K15q.1
  have K17 := K10.trans K15q (allS (Or.inr hs2) all0)
  have f18 := ES1.keep K15q
  have f19 := FC1.keep K15q (ninS not1 nin0)
  have f20 := FV1.keep K15q (ninS not1 nin0)
  have f21 := AS1.keep K15q (ninS nbt nin0)
  refine Wh.astore kn9 X15 at_154 rfl #[.val (.int p0), .val (.int p1), .val (.int p2), .val (.int p3), .val (.int k1I), .val (.int k2I), .val (.int (1 : Int32)), .val (.int a0c), .val (.int a1c), .val (.int (2 : Int32)), .val (.int b0c), .val (.int b1c), .val (.ref tk), .unset, .unset] rfl 156 rfl ?_
  refine Wh.aload kn9 X15 at_156 rfl rfl 158 rfl ?_
  refine Wh.iload kn9 X15 at_158 rfl 160 rfl ?_
  refine Wh.callS kn9 X15 [(.int k2I)] [(.ref tk)] at_160 (rm_ko l Z a0 hw _ kq A _ hk2 h10q (own_SK.keep (O0.keep K17 all0) SK)) (rfl : T15.heap = T15.heap) (Wk.w hw 3 rfl) (Wk.w hw 4 rfl) (Wk.w hw 5 rfl) (Wk.w hw 6 rfl) (by decide) rfl pd_TokenIsPinLaw_kindOf rfl rfl (Nat.le_of_ble_eq_true rfl) (Nat.le_of_ble_eq_true rfl) (Nat.le_of_ble_eq_true rfl) (Nat.le_of_ble_eq_true rfl) 163 rfl fun T22 v22 L22 X22 hQ22 => ?_
  obtain ⟨rfl, e22, rfl⟩ := hQ22
  rw [List.append_nil] at X22
  show Wh.Ends _ _ _ _ _ _ _ (mkF m 163 _ [(.ref (A kq)), (.ref tk)])
  refine Wh.iload kn9 X22 at_163 rfl 165 rfl ?_
  refine Wh.iload kn9 X22 at_165 rfl 167 rfl ?_
  refine Wh.iload kn9 X22 at_167 rfl 169 rfl ?_
  have G2 := CHr.keep K15q (allS (Safe.exa kn9.2.1.alike f11 (by decide) (by decide)) all0) CRT.1
  refine Wh.callSH kn9 X22 (PP := (fun vm => CHr Z own_EL vm9 T15.heap vm T15.heap)) [(.int (2 : Int32)), (.int b0c), (.int b1c)] [(.ref (A kq)), (.ref tk)] at_169 (rm_st2 l Z a0 hw b0c b1c hb0 hb1 T15.heap n0 sz15 cz hcz (O0.keep K17 all0) S0) e22 S9 hk16 (fun _ _ _ _ _ _ _ Y => CHv.at Y kn9.2.1 (own_EW hw) G2.1) (fun vm P => P.1) (Wk.w hw 10 rfl) (Wk.w hw 11 rfl) (Wk.w hw 5 rfl) (Wk.w hw 12 rfl) (by decide) rfl pd_TokenIsPinLaw_str rfl rfl (Nat.le_of_ble_eq_true rfl) (Nat.le_of_ble_eq_true rfl) (Nat.le_of_ble_eq_true rfl) (Nat.le_of_ble_eq_true rfl) 172 rfl fun vp23 vm23 kz23 T23 v23 L23 PP23 kn23 X23 S23 hk23 hQ23 => ?_
  obtain ⟨o2, b2, rfl, ho2, N23q, K23q, ⟨ES2, FC2, FV2, AS2⟩, CR2⟩ := hQ23
  show Wh.Ends _ _ _ _ _ _ _ (mkF m 172 _ [(.ref o2), (.ref (A kq)), (.ref tk)])
  have N23 := Fr.app N15 N23q
  have sz23 := Nat.le_trans sz15 K23q.1
  have noo : o1 ≠ o2 := Nat.ne_of_lt (Nat.lt_of_lt_of_le f18.lt ho2)
  have K24 := K17.trans K23q all0
  have f25 := f18.keep K23q
  have f26 := f19.keep K23q nin0
  have f27 := f20.keep K23q nin0
  have f28 := f21.keep K23q nin0
  have f29 := E15t.keep K23q
  have f30 := F15k.keep K23q nin0
  have f31 := F15x.keep K23q nin0
  refine Wh.callV kn23 X23 [(.ref (A kq)), (.ref o2)] [] at_172 (rm_isD l Z a0 hw tk _ o2 _ hAA o1 b1 b2 ([(a0c).toInt8.toInt32] : List Int32) ([(b0c).toInt8.toInt32, (b1c).toInt8.toInt32] : List Int32) T23.heap noo cz hcz (Sta.ext (O0.keep K24 all0).2 S0) ⟨f25, f26, f27, f28⟩ ⟨ES2, FC2, FV2, AS2⟩ (rm_le12 l Z a0 hw b1 b2 _ _ _ T23.heap f28 AS2) f30 f31) (rfl : T23.heap = T23.heap) f29 (Wk.w hw 45 rfl) (Wk.w hw 46 rfl) (Wk.w hw 48 rfl) (Wk.w hw 47 rfl) (Wk.w hw 2 rfl) (Wk.w hw 49 rfl) (by decide) rfl pd_Token_is rfl rfl (Nat.le_of_ble_eq_true rfl) (Nat.le_of_ble_eq_true rfl) (Nat.le_of_ble_eq_true rfl) (Nat.le_of_ble_eq_true rfl) 175 rfl fun T32 v32 L32 X32 hQ32 => ?_
  obtain ⟨rfl, e32, rfl⟩ := hQ32
  rw [List.append_nil] at X32
  show Wh.Ends _ _ _ _ _ _ _ (mkF m 175 _ [(.int (0 : Int32))])
  refine Wh.istore kn23 X32 at_175 #[.val (.int p0), .val (.int p1), .val (.int p2), .val (.int p3), .val (.int k1I), .val (.int k2I), .val (.int (1 : Int32)), .val (.int a0c), .val (.int a1c), .val (.int (2 : Int32)), .val (.int b0c), .val (.int b1c), .val (.ref tk), .val (.int (0 : Int32)), .unset] rfl 177 rfl ?_
  refine Wh.iload kn23 X32 at_177 rfl 179 rfl ?_
  refine Wh.iload kn23 X32 at_179 rfl 181 rfl ?_
  refine Wh.icmp_ne kn23 X32 at_181 (by decide) 221 184 (by decide) rfl (fun hc181 => ?_) (fun hc181 => ?_)
  · refine Wh.iconst kn23 X32 at_221 (0 : Int32) rfl 222 rfl ?_
    refine Wh.istore kn23 X32 at_222 #[.val (.int p0), .val (.int p1), .val (.int p2), .val (.int p3), .val (.int k1I), .val (.int k2I), .val (.int (1 : Int32)), .val (.int a0c), .val (.int a1c), .val (.int (2 : Int32)), .val (.int b0c), .val (.int b1c), .val (.ref tk), .val (.int (0 : Int32)), .val (.int (0 : Int32))] rfl 224 rfl ?_
    refine Wh.iload kn23 X32 at_224 rfl 226 rfl ?_
    refine Wh.iload kn23 X32 at_226 rfl 228 rfl ?_
    refine Wh.icmp_ne kn23 X32 at_228 (by decide) 235 231 (by decide) rfl (fun hz => absurd rfl hz) (fun _ => ?_)
    refine Wh.iconst kn23 X32 at_231 (1 : Int32) rfl 232 rfl ?_
    refine Wh.goto kn23 X32 at_232 (by decide) 236 (by decide) ?_
    exact Wh.ret_bool kn23 X32 S23 (Nat.le_trans hk23 (Nat.le_of_eq (congrArg (fun hh : Heap => hh.size) e32).symm)) rfl at_236 (by decide) (by decide) (by decide) ⟨rfl, N23⟩
  · exact absurd (own_kk hk1 hc181 hk2) hkq
set_option maxRecDepth 65536 in
set_option maxHeartbeats 40000000 in
theorem law_20S {p : Program} {l : Launch} {e : Env} {s0 : State} {kz0 : Nat} {m : MethodId} {args : Array Value} {below : List Frame} {meth : Method} {c : Code} {Z : State} {a0 : Array Value} {h0 : Heap} {n0 : Nat} {T0 : State} (hw : ∀ d ∈ tables_1, d.before a0 Z = true) (k : Wk.K p (s0.setVm s0.vm) m meth c Z x code maxLocals ret) (X0 : Stand p l e room_1 (s0.setVm s0.vm) m args below meth c T0 [] 0 0) (p0 p1 p2 p3 k1I k2I a0c a1c b0c b1c : Int32) (e0 : T0.heap = h0) (S0' : s0.Since s0.vm kz0) (hk0 : kz0 ≤ h0.size) (P0 : CHv Z own_EL s0.vm h0) (kk : Nat) (A : Nat → Addr) (cz : Int32) (hcz : ¬ cz = 0) (Z0 : n0 ≤ h0.size) (O0 : Old Z n0 h0) (S0 : Sta Z Z.heap "java/lang/String" "COMPACT_STRINGS" "Z" (.int cz)) (SK : own_SK Z Z.heap A) (ha0 : 0 ≤ a0c.toInt ∧ a0c.toInt ≤ 255) (ha1 : 0 ≤ a1c.toInt ∧ a1c.toInt ≤ 255) (hb0 : 0 ≤ b0c.toInt ∧ b0c.toInt ≤ 255) (hb1 : 0 ≤ b1c.toInt ∧ b1c.toInt ≤ 255) (hk1 : k1I.toInt = (kk : Int)) (h10 : kk < 10) (hk2 : k2I.toInt = (kk : Int)) : Wh.Ends p e s0 below room_1 ((fun (_ : Vm) v (_ : Vm) (_ : Heap) L => v = some (.int 1) ∧ Fr n0 L) s0.vm) T0 (mkF m 132 #[.val (.int p0), .val (.int p1), .val (.int p2), .val (.int p3), .val (.int k1I), .val (.int k2I), .val (.int (2 : Int32)), .val (.int a0c), .val (.int a1c), .val (.int (0 : Int32)), .val (.int b0c), .val (.int b1c), .unset, .unset, .unset] []) := by
  refine Wh.new k X0 at_132 (Wk.w hw 0 rfl) (Wk.w hw 1 rfl) (Wk.w hw 2 rfl) e0 (by decide) (by decide) 135 rfl fun T1 h1 tk q1 X1 e1 E1 A1 D1 => ?_
  have g1 : n0 ≤ tk := by rw [q1]; exact Z0
  have hs2 : h0.size ≤ tk := by rw [q1]; exact (Keep.refl h0 []).1
  have sz1 := Nat.le_trans Z0 E1.1
  have hk3 := Nat.le_trans hk0 E1.1
  have K4 := (Keep.refl h0 []).ext E1
  have f5 : Fld Z h1 tk "com/example/acomp/acomp/HoaLexer$Token" "kind" "Lcom/example/acomp/acomp/HoaLexer$Kind;" .null := D1 (Or.inr (Wk.w hw 40 rfl)) (ty := (.object "com/example/acomp/acomp/HoaLexer$Kind")) (by decide)
  have f6 : Fld Z h1 tk "com/example/acomp/acomp/HoaLexer$Token" "text" "Ljava/lang/String;" .null := D1 (Or.inr (Wk.w hw 42 rfl)) (ty := (.object "java/lang/String")) (by decide)
  have f7 : Fld Z h1 tk "com/example/acomp/acomp/HoaLexer$Token" "line" "I" (.int (0 : Int32)) := D1 (Or.inr (Wk.w hw 44 rfl)) (ty := .int) (by decide)
  refine Wh.dup k X1 at_135 rfl 136 rfl ?_
  refine Wh.iload k X1 at_136 rfl 138 rfl ?_
  refine Wh.callS k X1 [(.int k1I)] [(.ref tk), (.ref tk)] at_138 (rm_ko l Z a0 hw _ kk A _ hk1 h10 (own_SK.keep (O0.keep K4 all0) SK)) e1 (Wk.w hw 3 rfl) (Wk.w hw 4 rfl) (Wk.w hw 5 rfl) (Wk.w hw 6 rfl) (by decide) rfl pd_TokenIsPinLaw_kindOf rfl rfl (Nat.le_of_ble_eq_true rfl) (Nat.le_of_ble_eq_true rfl) (Nat.le_of_ble_eq_true rfl) (Nat.le_of_ble_eq_true rfl) 141 rfl fun T8 v8 L8 X8 hQ8 => ?_
  obtain ⟨rfl, e8, rfl⟩ := hQ8
  rw [List.append_nil] at X8
  show Wh.Ends _ _ _ _ _ _ _ (mkF m 141 _ [(.ref (A kk)), (.ref tk), (.ref tk)])
  refine Wh.iload k X8 at_141 rfl 143 rfl ?_
  refine Wh.iload k X8 at_143 rfl 145 rfl ?_
  refine Wh.iload k X8 at_145 rfl 147 rfl ?_
  have G1 := CHr.keep K4 (fun x hx => absurd hx (List.not_mem_nil)) P0
  refine Wh.callSH k X8 (PP := (fun vm => CHr Z own_EL s0.vm h1 vm h1)) [(.int (2 : Int32)), (.int a0c), (.int a1c)] [(.ref (A kk)), (.ref tk), (.ref tk)] at_147 (rm_st2 l Z a0 hw a0c a1c ha0 ha1 h1 n0 sz1 cz hcz (O0.keep K4 all0) S0) e8 S0' hk3 (fun _ _ _ _ _ _ _ Y => CHv.at Y k.2.1 (own_EW hw) G1.1) (fun vm P => P.1) (Wk.w hw 10 rfl) (Wk.w hw 11 rfl) (Wk.w hw 5 rfl) (Wk.w hw 12 rfl) (by decide) rfl pd_TokenIsPinLaw_str rfl rfl (Nat.le_of_ble_eq_true rfl) (Nat.le_of_ble_eq_true rfl) (Nat.le_of_ble_eq_true rfl) (Nat.le_of_ble_eq_true rfl) 150 rfl fun vp9 vm9 kz9 T9 v9 L9 PP9 kn9 X9 S9 hk9 hQ9 => ?_
  obtain ⟨o1, b1, rfl, ho1, N9q, K9q, ⟨ES1, FC1, FV1, AS1⟩, CR1⟩ := hQ9
  show Wh.Ends _ _ _ _ _ _ _ (mkF m 150 _ [(.ref o1), (.ref (A kk)), (.ref tk), (.ref tk)])
  have N9 := Fr.app (Fr.nil n0) N9q
  have sz9 := Nat.le_trans sz1 K9q.1
  have CRT := G1.trans (PP9.trans CR1)
  have not1 : o1 ≠ tk := Ne.symm (Nat.ne_of_lt (Nat.lt_of_lt_of_le A1.lt ho1))
  have K10 := K4.trans K9q all0
  have f11 := A1.keep K9q
  have f12 := f5.keep K9q nin0
  have f13 := f6.keep K9q nin0
  have f14 := f7.keep K9q nin0
  have nbt : b1 ≠ tk := by obtain ⟨cc, Ar, -⟩ := AS1; exact Ne.symm (ne_arr f11 (Wk.w hw 1 rfl) Ar)
  refine Wh.iload_n kn9 X9 at_150 rfl 151 rfl ?_
  refine Wh.callI kn9 X9 [(.ref (A kk)), (.ref o1), (.int p3)] [(.ref tk)] at_151 (rm_ti l Z a0 hw tk _ o1 p3 _ _ _ T9.heap n0 g1 f11 f12 f13 f14) (rfl : T9.heap = T9.heap) rfl (Wk.w hw 35 rfl) (Wk.w hw 36 rfl) (Wk.w hw 2 rfl) (Wk.w hw 37 rfl) (by decide) rfl pd_Token_init rfl rfl (Nat.le_of_ble_eq_true rfl) (Nat.le_of_ble_eq_true rfl) (Nat.le_of_ble_eq_true rfl) (Nat.le_of_ble_eq_true rfl) 154 rfl fun T15 v15 L15 X15 hQ15 => ?_
  obtain ⟨rfl, N15q, K15q, E15t, F15k, F15x⟩ := hQ15
  show Wh.Ends _ _ _ _ _ _ _ (mkF m 154 _ [(.ref tk)])
  have N15 := Fr.app N9 N15q
  have sz15 := Nat.le_trans sz9 K15q.1
  have hk16 := Nat.le_trans hk9 K15q.1
  have K17 := K10.trans K15q (allS (Or.inr hs2) all0)
  have f18 := ES1.keep K15q
  have f19 := FC1.keep K15q (ninS not1 nin0)
  have f20 := FV1.keep K15q (ninS not1 nin0)
  have f21 := AS1.keep K15q (ninS nbt nin0)
  refine Wh.astore kn9 X15 at_154 rfl #[.val (.int p0), .val (.int p1), .val (.int p2), .val (.int p3), .val (.int k1I), .val (.int k2I), .val (.int (2 : Int32)), .val (.int a0c), .val (.int a1c), .val (.int (0 : Int32)), .val (.int b0c), .val (.int b1c), .val (.ref tk), .unset, .unset] rfl 156 rfl ?_
  refine Wh.aload kn9 X15 at_156 rfl rfl 158 rfl ?_
  refine Wh.iload kn9 X15 at_158 rfl 160 rfl ?_
  refine Wh.callS kn9 X15 [(.int k2I)] [(.ref tk)] at_160 (rm_ko l Z a0 hw _ kk A _ hk2 h10 (own_SK.keep (O0.keep K17 all0) SK)) (rfl : T15.heap = T15.heap) (Wk.w hw 3 rfl) (Wk.w hw 4 rfl) (Wk.w hw 5 rfl) (Wk.w hw 6 rfl) (by decide) rfl pd_TokenIsPinLaw_kindOf rfl rfl (Nat.le_of_ble_eq_true rfl) (Nat.le_of_ble_eq_true rfl) (Nat.le_of_ble_eq_true rfl) (Nat.le_of_ble_eq_true rfl) 163 rfl fun T22 v22 L22 X22 hQ22 => ?_
  obtain ⟨rfl, e22, rfl⟩ := hQ22
  rw [List.append_nil] at X22
  show Wh.Ends _ _ _ _ _ _ _ (mkF m 163 _ [(.ref (A kk)), (.ref tk)])
  refine Wh.iload kn9 X22 at_163 rfl 165 rfl ?_
  refine Wh.iload kn9 X22 at_165 rfl 167 rfl ?_
  refine Wh.iload kn9 X22 at_167 rfl 169 rfl ?_
  have G2 := CHr.keep K15q (allS (Safe.exa kn9.2.1.alike f11 (by decide) (by decide)) all0) CRT.1
  refine Wh.callSH kn9 X22 (PP := (fun vm => CHr Z own_EL vm9 T15.heap vm T15.heap)) [(.int (0 : Int32)), (.int b0c), (.int b1c)] [(.ref (A kk)), (.ref tk)] at_169 (rm_st0 l Z a0 hw b0c b1c  T15.heap n0 sz15 cz hcz (O0.keep K17 all0) S0) e22 S9 hk16 (fun _ _ _ _ _ _ _ Y => CHv.at Y kn9.2.1 (own_EW hw) G2.1) (fun vm P => P.1) (Wk.w hw 10 rfl) (Wk.w hw 11 rfl) (Wk.w hw 5 rfl) (Wk.w hw 12 rfl) (by decide) rfl pd_TokenIsPinLaw_str rfl rfl (Nat.le_of_ble_eq_true rfl) (Nat.le_of_ble_eq_true rfl) (Nat.le_of_ble_eq_true rfl) (Nat.le_of_ble_eq_true rfl) 172 rfl fun vp23 vm23 kz23 T23 v23 L23 PP23 kn23 X23 S23 hk23 hQ23 => ?_
  obtain ⟨o2, b2, rfl, ho2, N23q, K23q, ⟨ES2, FC2, FV2, AS2⟩, CR2⟩ := hQ23
  show Wh.Ends _ _ _ _ _ _ _ (mkF m 172 _ [(.ref o2), (.ref (A kk)), (.ref tk)])
  have N23 := Fr.app N15 N23q
  have sz23 := Nat.le_trans sz15 K23q.1
  have noo : o1 ≠ o2 := Nat.ne_of_lt (Nat.lt_of_lt_of_le f18.lt ho2)
  have K24 := K17.trans K23q all0
  have f25 := f18.keep K23q
  have f26 := f19.keep K23q nin0
  have f27 := f20.keep K23q nin0
  have f28 := f21.keep K23q nin0
  have f29 := E15t.keep K23q
  have f30 := F15k.keep K23q nin0
  have f31 := F15x.keep K23q nin0
  refine Wh.callV kn23 X23 [(.ref (A kk)), (.ref o2)] [] at_172 (rm_isS l Z a0 hw tk _ o2 o1 b1 b2 ([(a0c).toInt8.toInt32, (a1c).toInt8.toInt32] : List Int32) ([] : List Int32) T23.heap noo cz hcz (Sta.ext (O0.keep K24 all0).2 S0) ⟨f25, f26, f27, f28⟩ ⟨ES2, FC2, FV2, AS2⟩ (rm_le20 l Z a0 hw b1 b2 _ _ T23.heap f28 AS2) f30 f31) (rfl : T23.heap = T23.heap) f29 (Wk.w hw 45 rfl) (Wk.w hw 46 rfl) (Wk.w hw 48 rfl) (Wk.w hw 47 rfl) (Wk.w hw 2 rfl) (Wk.w hw 49 rfl) (by decide) rfl pd_Token_is rfl rfl (Nat.le_of_ble_eq_true rfl) (Nat.le_of_ble_eq_true rfl) (Nat.le_of_ble_eq_true rfl) (Nat.le_of_ble_eq_true rfl) 175 rfl fun T32 v32 L32 X32 hQ32 => ?_
  obtain ⟨rfl, e32, rfl⟩ := hQ32
  rw [List.append_nil] at X32
  show Wh.Ends _ _ _ _ _ _ _ (mkF m 175 _ [(.int (if ([(a0c).toInt8.toInt32, (a1c).toInt8.toInt32] : List Int32) = ([] : List Int32) then (1 : Int32) else 0))])
  refine Wh.istore kn23 X32 at_175 #[.val (.int p0), .val (.int p1), .val (.int p2), .val (.int p3), .val (.int k1I), .val (.int k2I), .val (.int (2 : Int32)), .val (.int a0c), .val (.int a1c), .val (.int (0 : Int32)), .val (.int b0c), .val (.int b1c), .val (.ref tk), .val (.int (if ([(a0c).toInt8.toInt32, (a1c).toInt8.toInt32] : List Int32) = ([] : List Int32) then (1 : Int32) else 0)), .unset] rfl 177 rfl ?_
  refine Wh.iload kn23 X32 at_177 rfl 179 rfl ?_
  refine Wh.iload kn23 X32 at_179 rfl 181 rfl ?_
  refine Wh.icmp_ne kn23 X32 at_181 (by decide) 221 184 (by decide) rfl (fun hc181 => ?_) (fun hc181 => ?_)
  · exact absurd (Int32.toInt_inj.mp (hk1.trans hk2.symm)) hc181
  · refine Wh.iload kn23 X32 at_184 rfl 186 rfl ?_
    refine Wh.iload kn23 X32 at_186 rfl 188 rfl ?_
    refine Wh.icmp_ne kn23 X32 at_188 (by decide) 221 191 (by decide) rfl (fun _ => ?_) (fun hz => by first | exact absurd hz (by decide) | exact absurd (by decide) hz)
    refine Wh.iconst kn23 X32 at_221 (0 : Int32) rfl 222 rfl ?_
    refine Wh.istore kn23 X32 at_222 #[.val (.int p0), .val (.int p1), .val (.int p2), .val (.int p3), .val (.int k1I), .val (.int k2I), .val (.int (2 : Int32)), .val (.int a0c), .val (.int a1c), .val (.int (0 : Int32)), .val (.int b0c), .val (.int b1c), .val (.ref tk), .val (.int (if ([(a0c).toInt8.toInt32, (a1c).toInt8.toInt32] : List Int32) = ([] : List Int32) then (1 : Int32) else 0)), .val (.int (0 : Int32))] rfl 224 rfl ?_
    refine Wh.iload kn23 X32 at_224 rfl 226 rfl ?_
    refine Wh.iload kn23 X32 at_226 rfl 228 rfl ?_
    refine Wh.icmp_ne kn23 X32 at_228 (by decide) 235 231 (by decide) rfl (fun hz => absurd (if_neg (by simp)) hz) (fun _ => ?_)
    refine Wh.iconst kn23 X32 at_231 (1 : Int32) rfl 232 rfl ?_
    refine Wh.goto kn23 X32 at_232 (by decide) 236 (by decide) ?_
    exact Wh.ret_bool kn23 X32 S23 (Nat.le_trans hk23 (Nat.le_of_eq (congrArg (fun hh : Heap => hh.size) e32).symm)) rfl at_236 (by decide) (by decide) (by decide) ⟨rfl, N23⟩
set_option maxRecDepth 65536 in
set_option maxHeartbeats 40000000 in
theorem law_20D {p : Program} {l : Launch} {e : Env} {s0 : State} {kz0 : Nat} {m : MethodId} {args : Array Value} {below : List Frame} {meth : Method} {c : Code} {Z : State} {a0 : Array Value} {h0 : Heap} {n0 : Nat} {T0 : State} (hw : ∀ d ∈ tables_1, d.before a0 Z = true) (k : Wk.K p (s0.setVm s0.vm) m meth c Z x code maxLocals ret) (X0 : Stand p l e room_1 (s0.setVm s0.vm) m args below meth c T0 [] 0 0) (p0 p1 p2 p3 k1I k2I a0c a1c b0c b1c : Int32) (e0 : T0.heap = h0) (S0' : s0.Since s0.vm kz0) (hk0 : kz0 ≤ h0.size) (P0 : CHv Z own_EL s0.vm h0) (kk : Nat) (A : Nat → Addr) (cz : Int32) (hcz : ¬ cz = 0) (Z0 : n0 ≤ h0.size) (O0 : Old Z n0 h0) (S0 : Sta Z Z.heap "java/lang/String" "COMPACT_STRINGS" "Z" (.int cz)) (SK : own_SK Z Z.heap A) (ha0 : 0 ≤ a0c.toInt ∧ a0c.toInt ≤ 255) (ha1 : 0 ≤ a1c.toInt ∧ a1c.toInt ≤ 255) (hb0 : 0 ≤ b0c.toInt ∧ b0c.toInt ≤ 255) (hb1 : 0 ≤ b1c.toInt ∧ b1c.toInt ≤ 255) (hk1 : k1I.toInt = (kk : Int)) (h10 : kk < 10) (kq : Nat) (hk2 : k2I.toInt = (kq : Int)) (h10q : kq < 10) (hkq : ¬ kk = kq) (hAA : A kk ≠ A kq) : Wh.Ends p e s0 below room_1 ((fun (_ : Vm) v (_ : Vm) (_ : Heap) L => v = some (.int 1) ∧ Fr n0 L) s0.vm) T0 (mkF m 132 #[.val (.int p0), .val (.int p1), .val (.int p2), .val (.int p3), .val (.int k1I), .val (.int k2I), .val (.int (2 : Int32)), .val (.int a0c), .val (.int a1c), .val (.int (0 : Int32)), .val (.int b0c), .val (.int b1c), .unset, .unset, .unset] []) := by
  refine Wh.new k X0 at_132 (Wk.w hw 0 rfl) (Wk.w hw 1 rfl) (Wk.w hw 2 rfl) e0 (by decide) (by decide) 135 rfl fun T1 h1 tk q1 X1 e1 E1 A1 D1 => ?_
  have g1 : n0 ≤ tk := by rw [q1]; exact Z0
  have hs2 : h0.size ≤ tk := by rw [q1]; exact (Keep.refl h0 []).1
  have sz1 := Nat.le_trans Z0 E1.1
  have hk3 := Nat.le_trans hk0 E1.1
  have K4 := (Keep.refl h0 []).ext E1
  have f5 : Fld Z h1 tk "com/example/acomp/acomp/HoaLexer$Token" "kind" "Lcom/example/acomp/acomp/HoaLexer$Kind;" .null := D1 (Or.inr (Wk.w hw 40 rfl)) (ty := (.object "com/example/acomp/acomp/HoaLexer$Kind")) (by decide)
  have f6 : Fld Z h1 tk "com/example/acomp/acomp/HoaLexer$Token" "text" "Ljava/lang/String;" .null := D1 (Or.inr (Wk.w hw 42 rfl)) (ty := (.object "java/lang/String")) (by decide)
  have f7 : Fld Z h1 tk "com/example/acomp/acomp/HoaLexer$Token" "line" "I" (.int (0 : Int32)) := D1 (Or.inr (Wk.w hw 44 rfl)) (ty := .int) (by decide)
  refine Wh.dup k X1 at_135 rfl 136 rfl ?_
  refine Wh.iload k X1 at_136 rfl 138 rfl ?_
  refine Wh.callS k X1 [(.int k1I)] [(.ref tk), (.ref tk)] at_138 (rm_ko l Z a0 hw _ kk A _ hk1 h10 (own_SK.keep (O0.keep K4 all0) SK)) e1 (Wk.w hw 3 rfl) (Wk.w hw 4 rfl) (Wk.w hw 5 rfl) (Wk.w hw 6 rfl) (by decide) rfl pd_TokenIsPinLaw_kindOf rfl rfl (Nat.le_of_ble_eq_true rfl) (Nat.le_of_ble_eq_true rfl) (Nat.le_of_ble_eq_true rfl) (Nat.le_of_ble_eq_true rfl) 141 rfl fun T8 v8 L8 X8 hQ8 => ?_
  obtain ⟨rfl, e8, rfl⟩ := hQ8
  rw [List.append_nil] at X8
  show Wh.Ends _ _ _ _ _ _ _ (mkF m 141 _ [(.ref (A kk)), (.ref tk), (.ref tk)])
  refine Wh.iload k X8 at_141 rfl 143 rfl ?_
  refine Wh.iload k X8 at_143 rfl 145 rfl ?_
  refine Wh.iload k X8 at_145 rfl 147 rfl ?_
  have G1 := CHr.keep K4 (fun x hx => absurd hx (List.not_mem_nil)) P0
  refine Wh.callSH k X8 (PP := (fun vm => CHr Z own_EL s0.vm h1 vm h1)) [(.int (2 : Int32)), (.int a0c), (.int a1c)] [(.ref (A kk)), (.ref tk), (.ref tk)] at_147 (rm_st2 l Z a0 hw a0c a1c ha0 ha1 h1 n0 sz1 cz hcz (O0.keep K4 all0) S0) e8 S0' hk3 (fun _ _ _ _ _ _ _ Y => CHv.at Y k.2.1 (own_EW hw) G1.1) (fun vm P => P.1) (Wk.w hw 10 rfl) (Wk.w hw 11 rfl) (Wk.w hw 5 rfl) (Wk.w hw 12 rfl) (by decide) rfl pd_TokenIsPinLaw_str rfl rfl (Nat.le_of_ble_eq_true rfl) (Nat.le_of_ble_eq_true rfl) (Nat.le_of_ble_eq_true rfl) (Nat.le_of_ble_eq_true rfl) 150 rfl fun vp9 vm9 kz9 T9 v9 L9 PP9 kn9 X9 S9 hk9 hQ9 => ?_
  obtain ⟨o1, b1, rfl, ho1, N9q, K9q, ⟨ES1, FC1, FV1, AS1⟩, CR1⟩ := hQ9
  show Wh.Ends _ _ _ _ _ _ _ (mkF m 150 _ [(.ref o1), (.ref (A kk)), (.ref tk), (.ref tk)])
  have N9 := Fr.app (Fr.nil n0) N9q
  have sz9 := Nat.le_trans sz1 K9q.1
  have CRT := G1.trans (PP9.trans CR1)
  have not1 : o1 ≠ tk := Ne.symm (Nat.ne_of_lt (Nat.lt_of_lt_of_le A1.lt ho1))
  have K10 := K4.trans K9q all0
  have f11 := A1.keep K9q
  have f12 := f5.keep K9q nin0
  have f13 := f6.keep K9q nin0
  have f14 := f7.keep K9q nin0
  have nbt : b1 ≠ tk := by obtain ⟨cc, Ar, -⟩ := AS1; exact Ne.symm (ne_arr f11 (Wk.w hw 1 rfl) Ar)
  refine Wh.iload_n kn9 X9 at_150 rfl 151 rfl ?_
  refine Wh.callI kn9 X9 [(.ref (A kk)), (.ref o1), (.int p3)] [(.ref tk)] at_151 (rm_ti l Z a0 hw tk _ o1 p3 _ _ _ T9.heap n0 g1 f11 f12 f13 f14) (rfl : T9.heap = T9.heap) rfl (Wk.w hw 35 rfl) (Wk.w hw 36 rfl) (Wk.w hw 2 rfl) (Wk.w hw 37 rfl) (by decide) rfl pd_Token_init rfl rfl (Nat.le_of_ble_eq_true rfl) (Nat.le_of_ble_eq_true rfl) (Nat.le_of_ble_eq_true rfl) (Nat.le_of_ble_eq_true rfl) 154 rfl fun T15 v15 L15 X15 hQ15 => ?_
  obtain ⟨rfl, N15q, K15q, E15t, F15k, F15x⟩ := hQ15
  show Wh.Ends _ _ _ _ _ _ _ (mkF m 154 _ [(.ref tk)])
  have N15 := Fr.app N9 N15q
  have sz15 := Nat.le_trans sz9 K15q.1
  have hk16 := Nat.le_trans hk9 K15q.1
  have K17 := K10.trans K15q (allS (Or.inr hs2) all0)
  have f18 := ES1.keep K15q
  have f19 := FC1.keep K15q (ninS not1 nin0)
  have f20 := FV1.keep K15q (ninS not1 nin0)
  have f21 := AS1.keep K15q (ninS nbt nin0)
  refine Wh.astore kn9 X15 at_154 rfl #[.val (.int p0), .val (.int p1), .val (.int p2), .val (.int p3), .val (.int k1I), .val (.int k2I), .val (.int (2 : Int32)), .val (.int a0c), .val (.int a1c), .val (.int (0 : Int32)), .val (.int b0c), .val (.int b1c), .val (.ref tk), .unset, .unset] rfl 156 rfl ?_
  refine Wh.aload kn9 X15 at_156 rfl rfl 158 rfl ?_
  refine Wh.iload kn9 X15 at_158 rfl 160 rfl ?_
  refine Wh.callS kn9 X15 [(.int k2I)] [(.ref tk)] at_160 (rm_ko l Z a0 hw _ kq A _ hk2 h10q (own_SK.keep (O0.keep K17 all0) SK)) (rfl : T15.heap = T15.heap) (Wk.w hw 3 rfl) (Wk.w hw 4 rfl) (Wk.w hw 5 rfl) (Wk.w hw 6 rfl) (by decide) rfl pd_TokenIsPinLaw_kindOf rfl rfl (Nat.le_of_ble_eq_true rfl) (Nat.le_of_ble_eq_true rfl) (Nat.le_of_ble_eq_true rfl) (Nat.le_of_ble_eq_true rfl) 163 rfl fun T22 v22 L22 X22 hQ22 => ?_
  obtain ⟨rfl, e22, rfl⟩ := hQ22
  rw [List.append_nil] at X22
  show Wh.Ends _ _ _ _ _ _ _ (mkF m 163 _ [(.ref (A kq)), (.ref tk)])
  refine Wh.iload kn9 X22 at_163 rfl 165 rfl ?_
  refine Wh.iload kn9 X22 at_165 rfl 167 rfl ?_
  refine Wh.iload kn9 X22 at_167 rfl 169 rfl ?_
  have G2 := CHr.keep K15q (allS (Safe.exa kn9.2.1.alike f11 (by decide) (by decide)) all0) CRT.1
  refine Wh.callSH kn9 X22 (PP := (fun vm => CHr Z own_EL vm9 T15.heap vm T15.heap)) [(.int (0 : Int32)), (.int b0c), (.int b1c)] [(.ref (A kq)), (.ref tk)] at_169 (rm_st0 l Z a0 hw b0c b1c  T15.heap n0 sz15 cz hcz (O0.keep K17 all0) S0) e22 S9 hk16 (fun _ _ _ _ _ _ _ Y => CHv.at Y kn9.2.1 (own_EW hw) G2.1) (fun vm P => P.1) (Wk.w hw 10 rfl) (Wk.w hw 11 rfl) (Wk.w hw 5 rfl) (Wk.w hw 12 rfl) (by decide) rfl pd_TokenIsPinLaw_str rfl rfl (Nat.le_of_ble_eq_true rfl) (Nat.le_of_ble_eq_true rfl) (Nat.le_of_ble_eq_true rfl) (Nat.le_of_ble_eq_true rfl) 172 rfl fun vp23 vm23 kz23 T23 v23 L23 PP23 kn23 X23 S23 hk23 hQ23 => ?_
  obtain ⟨o2, b2, rfl, ho2, N23q, K23q, ⟨ES2, FC2, FV2, AS2⟩, CR2⟩ := hQ23
  show Wh.Ends _ _ _ _ _ _ _ (mkF m 172 _ [(.ref o2), (.ref (A kq)), (.ref tk)])
  have N23 := Fr.app N15 N23q
  have sz23 := Nat.le_trans sz15 K23q.1
  have noo : o1 ≠ o2 := Nat.ne_of_lt (Nat.lt_of_lt_of_le f18.lt ho2)
  have K24 := K17.trans K23q all0
  have f25 := f18.keep K23q
  have f26 := f19.keep K23q nin0
  have f27 := f20.keep K23q nin0
  have f28 := f21.keep K23q nin0
  have f29 := E15t.keep K23q
  have f30 := F15k.keep K23q nin0
  have f31 := F15x.keep K23q nin0
  refine Wh.callV kn23 X23 [(.ref (A kq)), (.ref o2)] [] at_172 (rm_isD l Z a0 hw tk _ o2 _ hAA o1 b1 b2 ([(a0c).toInt8.toInt32, (a1c).toInt8.toInt32] : List Int32) ([] : List Int32) T23.heap noo cz hcz (Sta.ext (O0.keep K24 all0).2 S0) ⟨f25, f26, f27, f28⟩ ⟨ES2, FC2, FV2, AS2⟩ (rm_le20 l Z a0 hw b1 b2 _ _ T23.heap f28 AS2) f30 f31) (rfl : T23.heap = T23.heap) f29 (Wk.w hw 45 rfl) (Wk.w hw 46 rfl) (Wk.w hw 48 rfl) (Wk.w hw 47 rfl) (Wk.w hw 2 rfl) (Wk.w hw 49 rfl) (by decide) rfl pd_Token_is rfl rfl (Nat.le_of_ble_eq_true rfl) (Nat.le_of_ble_eq_true rfl) (Nat.le_of_ble_eq_true rfl) (Nat.le_of_ble_eq_true rfl) 175 rfl fun T32 v32 L32 X32 hQ32 => ?_
  obtain ⟨rfl, e32, rfl⟩ := hQ32
  rw [List.append_nil] at X32
  show Wh.Ends _ _ _ _ _ _ _ (mkF m 175 _ [(.int (0 : Int32))])
  refine Wh.istore kn23 X32 at_175 #[.val (.int p0), .val (.int p1), .val (.int p2), .val (.int p3), .val (.int k1I), .val (.int k2I), .val (.int (2 : Int32)), .val (.int a0c), .val (.int a1c), .val (.int (0 : Int32)), .val (.int b0c), .val (.int b1c), .val (.ref tk), .val (.int (0 : Int32)), .unset] rfl 177 rfl ?_
  refine Wh.iload kn23 X32 at_177 rfl 179 rfl ?_
  refine Wh.iload kn23 X32 at_179 rfl 181 rfl ?_
  refine Wh.icmp_ne kn23 X32 at_181 (by decide) 221 184 (by decide) rfl (fun hc181 => ?_) (fun hc181 => ?_)
  · refine Wh.iconst kn23 X32 at_221 (0 : Int32) rfl 222 rfl ?_
    refine Wh.istore kn23 X32 at_222 #[.val (.int p0), .val (.int p1), .val (.int p2), .val (.int p3), .val (.int k1I), .val (.int k2I), .val (.int (2 : Int32)), .val (.int a0c), .val (.int a1c), .val (.int (0 : Int32)), .val (.int b0c), .val (.int b1c), .val (.ref tk), .val (.int (0 : Int32)), .val (.int (0 : Int32))] rfl 224 rfl ?_
    refine Wh.iload kn23 X32 at_224 rfl 226 rfl ?_
    refine Wh.iload kn23 X32 at_226 rfl 228 rfl ?_
    refine Wh.icmp_ne kn23 X32 at_228 (by decide) 235 231 (by decide) rfl (fun hz => absurd rfl hz) (fun _ => ?_)
    refine Wh.iconst kn23 X32 at_231 (1 : Int32) rfl 232 rfl ?_
    refine Wh.goto kn23 X32 at_232 (by decide) 236 (by decide) ?_
    exact Wh.ret_bool kn23 X32 S23 (Nat.le_trans hk23 (Nat.le_of_eq (congrArg (fun hh : Heap => hh.size) e32).symm)) rfl at_236 (by decide) (by decide) (by decide) ⟨rfl, N23⟩
  · exact absurd (own_kk hk1 hc181 hk2) hkq
set_option maxRecDepth 65536 in
set_option maxHeartbeats 40000000 in
theorem law_21S {p : Program} {l : Launch} {e : Env} {s0 : State} {kz0 : Nat} {m : MethodId} {args : Array Value} {below : List Frame} {meth : Method} {c : Code} {Z : State} {a0 : Array Value} {h0 : Heap} {n0 : Nat} {T0 : State} (hw : ∀ d ∈ tables_1, d.before a0 Z = true) (k : Wk.K p (s0.setVm s0.vm) m meth c Z x code maxLocals ret) (X0 : Stand p l e room_1 (s0.setVm s0.vm) m args below meth c T0 [] 0 0) (p0 p1 p2 p3 k1I k2I a0c a1c b0c b1c : Int32) (e0 : T0.heap = h0) (S0' : s0.Since s0.vm kz0) (hk0 : kz0 ≤ h0.size) (P0 : CHv Z own_EL s0.vm h0) (kk : Nat) (A : Nat → Addr) (cz : Int32) (hcz : ¬ cz = 0) (Z0 : n0 ≤ h0.size) (O0 : Old Z n0 h0) (S0 : Sta Z Z.heap "java/lang/String" "COMPACT_STRINGS" "Z" (.int cz)) (SK : own_SK Z Z.heap A) (ha0 : 0 ≤ a0c.toInt ∧ a0c.toInt ≤ 255) (ha1 : 0 ≤ a1c.toInt ∧ a1c.toInt ≤ 255) (hb0 : 0 ≤ b0c.toInt ∧ b0c.toInt ≤ 255) (hb1 : 0 ≤ b1c.toInt ∧ b1c.toInt ≤ 255) (hk1 : k1I.toInt = (kk : Int)) (h10 : kk < 10) (hk2 : k2I.toInt = (kk : Int)) : Wh.Ends p e s0 below room_1 ((fun (_ : Vm) v (_ : Vm) (_ : Heap) L => v = some (.int 1) ∧ Fr n0 L) s0.vm) T0 (mkF m 132 #[.val (.int p0), .val (.int p1), .val (.int p2), .val (.int p3), .val (.int k1I), .val (.int k2I), .val (.int (2 : Int32)), .val (.int a0c), .val (.int a1c), .val (.int (1 : Int32)), .val (.int b0c), .val (.int b1c), .unset, .unset, .unset] []) := by
  refine Wh.new k X0 at_132 (Wk.w hw 0 rfl) (Wk.w hw 1 rfl) (Wk.w hw 2 rfl) e0 (by decide) (by decide) 135 rfl fun T1 h1 tk q1 X1 e1 E1 A1 D1 => ?_
  have g1 : n0 ≤ tk := by rw [q1]; exact Z0
  have hs2 : h0.size ≤ tk := by rw [q1]; exact (Keep.refl h0 []).1
  have sz1 := Nat.le_trans Z0 E1.1
  have hk3 := Nat.le_trans hk0 E1.1
  have K4 := (Keep.refl h0 []).ext E1
  have f5 : Fld Z h1 tk "com/example/acomp/acomp/HoaLexer$Token" "kind" "Lcom/example/acomp/acomp/HoaLexer$Kind;" .null := D1 (Or.inr (Wk.w hw 40 rfl)) (ty := (.object "com/example/acomp/acomp/HoaLexer$Kind")) (by decide)
  have f6 : Fld Z h1 tk "com/example/acomp/acomp/HoaLexer$Token" "text" "Ljava/lang/String;" .null := D1 (Or.inr (Wk.w hw 42 rfl)) (ty := (.object "java/lang/String")) (by decide)
  have f7 : Fld Z h1 tk "com/example/acomp/acomp/HoaLexer$Token" "line" "I" (.int (0 : Int32)) := D1 (Or.inr (Wk.w hw 44 rfl)) (ty := .int) (by decide)
  refine Wh.dup k X1 at_135 rfl 136 rfl ?_
  refine Wh.iload k X1 at_136 rfl 138 rfl ?_
  refine Wh.callS k X1 [(.int k1I)] [(.ref tk), (.ref tk)] at_138 (rm_ko l Z a0 hw _ kk A _ hk1 h10 (own_SK.keep (O0.keep K4 all0) SK)) e1 (Wk.w hw 3 rfl) (Wk.w hw 4 rfl) (Wk.w hw 5 rfl) (Wk.w hw 6 rfl) (by decide) rfl pd_TokenIsPinLaw_kindOf rfl rfl (Nat.le_of_ble_eq_true rfl) (Nat.le_of_ble_eq_true rfl) (Nat.le_of_ble_eq_true rfl) (Nat.le_of_ble_eq_true rfl) 141 rfl fun T8 v8 L8 X8 hQ8 => ?_
  obtain ⟨rfl, e8, rfl⟩ := hQ8
  rw [List.append_nil] at X8
  show Wh.Ends _ _ _ _ _ _ _ (mkF m 141 _ [(.ref (A kk)), (.ref tk), (.ref tk)])
  refine Wh.iload k X8 at_141 rfl 143 rfl ?_
  refine Wh.iload k X8 at_143 rfl 145 rfl ?_
  refine Wh.iload k X8 at_145 rfl 147 rfl ?_
  have G1 := CHr.keep K4 (fun x hx => absurd hx (List.not_mem_nil)) P0
  refine Wh.callSH k X8 (PP := (fun vm => CHr Z own_EL s0.vm h1 vm h1)) [(.int (2 : Int32)), (.int a0c), (.int a1c)] [(.ref (A kk)), (.ref tk), (.ref tk)] at_147 (rm_st2 l Z a0 hw a0c a1c ha0 ha1 h1 n0 sz1 cz hcz (O0.keep K4 all0) S0) e8 S0' hk3 (fun _ _ _ _ _ _ _ Y => CHv.at Y k.2.1 (own_EW hw) G1.1) (fun vm P => P.1) (Wk.w hw 10 rfl) (Wk.w hw 11 rfl) (Wk.w hw 5 rfl) (Wk.w hw 12 rfl) (by decide) rfl pd_TokenIsPinLaw_str rfl rfl (Nat.le_of_ble_eq_true rfl) (Nat.le_of_ble_eq_true rfl) (Nat.le_of_ble_eq_true rfl) (Nat.le_of_ble_eq_true rfl) 150 rfl fun vp9 vm9 kz9 T9 v9 L9 PP9 kn9 X9 S9 hk9 hQ9 => ?_
  obtain ⟨o1, b1, rfl, ho1, N9q, K9q, ⟨ES1, FC1, FV1, AS1⟩, CR1⟩ := hQ9
  show Wh.Ends _ _ _ _ _ _ _ (mkF m 150 _ [(.ref o1), (.ref (A kk)), (.ref tk), (.ref tk)])
  have N9 := Fr.app (Fr.nil n0) N9q
  have sz9 := Nat.le_trans sz1 K9q.1
  have CRT := G1.trans (PP9.trans CR1)
  have not1 : o1 ≠ tk := Ne.symm (Nat.ne_of_lt (Nat.lt_of_lt_of_le A1.lt ho1))
  have K10 := K4.trans K9q all0
  have f11 := A1.keep K9q
  have f12 := f5.keep K9q nin0
  have f13 := f6.keep K9q nin0
  have f14 := f7.keep K9q nin0
  have nbt : b1 ≠ tk := by obtain ⟨cc, Ar, -⟩ := AS1; exact Ne.symm (ne_arr f11 (Wk.w hw 1 rfl) Ar)
  refine Wh.iload_n kn9 X9 at_150 rfl 151 rfl ?_
  refine Wh.callI kn9 X9 [(.ref (A kk)), (.ref o1), (.int p3)] [(.ref tk)] at_151 (rm_ti l Z a0 hw tk _ o1 p3 _ _ _ T9.heap n0 g1 f11 f12 f13 f14) (rfl : T9.heap = T9.heap) rfl (Wk.w hw 35 rfl) (Wk.w hw 36 rfl) (Wk.w hw 2 rfl) (Wk.w hw 37 rfl) (by decide) rfl pd_Token_init rfl rfl (Nat.le_of_ble_eq_true rfl) (Nat.le_of_ble_eq_true rfl) (Nat.le_of_ble_eq_true rfl) (Nat.le_of_ble_eq_true rfl) 154 rfl fun T15 v15 L15 X15 hQ15 => ?_
  obtain ⟨rfl, N15q, K15q, E15t, F15k, F15x⟩ := hQ15
  show Wh.Ends _ _ _ _ _ _ _ (mkF m 154 _ [(.ref tk)])
  have N15 := Fr.app N9 N15q
  have sz15 := Nat.le_trans sz9 K15q.1
  have hk16 := Nat.le_trans hk9 K15q.1
  have K17 := K10.trans K15q (allS (Or.inr hs2) all0)
  have f18 := ES1.keep K15q
  have f19 := FC1.keep K15q (ninS not1 nin0)
  have f20 := FV1.keep K15q (ninS not1 nin0)
  have f21 := AS1.keep K15q (ninS nbt nin0)
  refine Wh.astore kn9 X15 at_154 rfl #[.val (.int p0), .val (.int p1), .val (.int p2), .val (.int p3), .val (.int k1I), .val (.int k2I), .val (.int (2 : Int32)), .val (.int a0c), .val (.int a1c), .val (.int (1 : Int32)), .val (.int b0c), .val (.int b1c), .val (.ref tk), .unset, .unset] rfl 156 rfl ?_
  refine Wh.aload kn9 X15 at_156 rfl rfl 158 rfl ?_
  refine Wh.iload kn9 X15 at_158 rfl 160 rfl ?_
  refine Wh.callS kn9 X15 [(.int k2I)] [(.ref tk)] at_160 (rm_ko l Z a0 hw _ kk A _ hk2 h10 (own_SK.keep (O0.keep K17 all0) SK)) (rfl : T15.heap = T15.heap) (Wk.w hw 3 rfl) (Wk.w hw 4 rfl) (Wk.w hw 5 rfl) (Wk.w hw 6 rfl) (by decide) rfl pd_TokenIsPinLaw_kindOf rfl rfl (Nat.le_of_ble_eq_true rfl) (Nat.le_of_ble_eq_true rfl) (Nat.le_of_ble_eq_true rfl) (Nat.le_of_ble_eq_true rfl) 163 rfl fun T22 v22 L22 X22 hQ22 => ?_
  obtain ⟨rfl, e22, rfl⟩ := hQ22
  rw [List.append_nil] at X22
  show Wh.Ends _ _ _ _ _ _ _ (mkF m 163 _ [(.ref (A kk)), (.ref tk)])
  refine Wh.iload kn9 X22 at_163 rfl 165 rfl ?_
  refine Wh.iload kn9 X22 at_165 rfl 167 rfl ?_
  refine Wh.iload kn9 X22 at_167 rfl 169 rfl ?_
  have G2 := CHr.keep K15q (allS (Safe.exa kn9.2.1.alike f11 (by decide) (by decide)) all0) CRT.1
  refine Wh.callSH kn9 X22 (PP := (fun vm => CHr Z own_EL vm9 T15.heap vm T15.heap)) [(.int (1 : Int32)), (.int b0c), (.int b1c)] [(.ref (A kk)), (.ref tk)] at_169 (rm_st1 l Z a0 hw b0c b1c hb0 T15.heap n0 sz15 cz hcz (O0.keep K17 all0) S0) e22 S9 hk16 (fun _ _ _ _ _ _ _ Y => CHv.at Y kn9.2.1 (own_EW hw) G2.1) (fun vm P => P.1) (Wk.w hw 10 rfl) (Wk.w hw 11 rfl) (Wk.w hw 5 rfl) (Wk.w hw 12 rfl) (by decide) rfl pd_TokenIsPinLaw_str rfl rfl (Nat.le_of_ble_eq_true rfl) (Nat.le_of_ble_eq_true rfl) (Nat.le_of_ble_eq_true rfl) (Nat.le_of_ble_eq_true rfl) 172 rfl fun vp23 vm23 kz23 T23 v23 L23 PP23 kn23 X23 S23 hk23 hQ23 => ?_
  obtain ⟨o2, b2, rfl, ho2, N23q, K23q, ⟨ES2, FC2, FV2, AS2⟩, CR2⟩ := hQ23
  show Wh.Ends _ _ _ _ _ _ _ (mkF m 172 _ [(.ref o2), (.ref (A kk)), (.ref tk)])
  have N23 := Fr.app N15 N23q
  have sz23 := Nat.le_trans sz15 K23q.1
  have noo : o1 ≠ o2 := Nat.ne_of_lt (Nat.lt_of_lt_of_le f18.lt ho2)
  have K24 := K17.trans K23q all0
  have f25 := f18.keep K23q
  have f26 := f19.keep K23q nin0
  have f27 := f20.keep K23q nin0
  have f28 := f21.keep K23q nin0
  have f29 := E15t.keep K23q
  have f30 := F15k.keep K23q nin0
  have f31 := F15x.keep K23q nin0
  refine Wh.callV kn23 X23 [(.ref (A kk)), (.ref o2)] [] at_172 (rm_isS l Z a0 hw tk _ o2 o1 b1 b2 ([(a0c).toInt8.toInt32, (a1c).toInt8.toInt32] : List Int32) ([(b0c).toInt8.toInt32] : List Int32) T23.heap noo cz hcz (Sta.ext (O0.keep K24 all0).2 S0) ⟨f25, f26, f27, f28⟩ ⟨ES2, FC2, FV2, AS2⟩ (rm_le21 l Z a0 hw b1 b2 _ _ _ T23.heap f28 AS2) f30 f31) (rfl : T23.heap = T23.heap) f29 (Wk.w hw 45 rfl) (Wk.w hw 46 rfl) (Wk.w hw 48 rfl) (Wk.w hw 47 rfl) (Wk.w hw 2 rfl) (Wk.w hw 49 rfl) (by decide) rfl pd_Token_is rfl rfl (Nat.le_of_ble_eq_true rfl) (Nat.le_of_ble_eq_true rfl) (Nat.le_of_ble_eq_true rfl) (Nat.le_of_ble_eq_true rfl) 175 rfl fun T32 v32 L32 X32 hQ32 => ?_
  obtain ⟨rfl, e32, rfl⟩ := hQ32
  rw [List.append_nil] at X32
  show Wh.Ends _ _ _ _ _ _ _ (mkF m 175 _ [(.int (if ([(a0c).toInt8.toInt32, (a1c).toInt8.toInt32] : List Int32) = ([(b0c).toInt8.toInt32] : List Int32) then (1 : Int32) else 0))])
  refine Wh.istore kn23 X32 at_175 #[.val (.int p0), .val (.int p1), .val (.int p2), .val (.int p3), .val (.int k1I), .val (.int k2I), .val (.int (2 : Int32)), .val (.int a0c), .val (.int a1c), .val (.int (1 : Int32)), .val (.int b0c), .val (.int b1c), .val (.ref tk), .val (.int (if ([(a0c).toInt8.toInt32, (a1c).toInt8.toInt32] : List Int32) = ([(b0c).toInt8.toInt32] : List Int32) then (1 : Int32) else 0)), .unset] rfl 177 rfl ?_
  refine Wh.iload kn23 X32 at_177 rfl 179 rfl ?_
  refine Wh.iload kn23 X32 at_179 rfl 181 rfl ?_
  refine Wh.icmp_ne kn23 X32 at_181 (by decide) 221 184 (by decide) rfl (fun hc181 => ?_) (fun hc181 => ?_)
  · exact absurd (Int32.toInt_inj.mp (hk1.trans hk2.symm)) hc181
  · refine Wh.iload kn23 X32 at_184 rfl 186 rfl ?_
    refine Wh.iload kn23 X32 at_186 rfl 188 rfl ?_
    refine Wh.icmp_ne kn23 X32 at_188 (by decide) 221 191 (by decide) rfl (fun _ => ?_) (fun hz => by first | exact absurd hz (by decide) | exact absurd (by decide) hz)
    refine Wh.iconst kn23 X32 at_221 (0 : Int32) rfl 222 rfl ?_
    refine Wh.istore kn23 X32 at_222 #[.val (.int p0), .val (.int p1), .val (.int p2), .val (.int p3), .val (.int k1I), .val (.int k2I), .val (.int (2 : Int32)), .val (.int a0c), .val (.int a1c), .val (.int (1 : Int32)), .val (.int b0c), .val (.int b1c), .val (.ref tk), .val (.int (if ([(a0c).toInt8.toInt32, (a1c).toInt8.toInt32] : List Int32) = ([(b0c).toInt8.toInt32] : List Int32) then (1 : Int32) else 0)), .val (.int (0 : Int32))] rfl 224 rfl ?_
    refine Wh.iload kn23 X32 at_224 rfl 226 rfl ?_
    refine Wh.iload kn23 X32 at_226 rfl 228 rfl ?_
    refine Wh.icmp_ne kn23 X32 at_228 (by decide) 235 231 (by decide) rfl (fun hz => absurd (if_neg (by simp)) hz) (fun _ => ?_)
    refine Wh.iconst kn23 X32 at_231 (1 : Int32) rfl 232 rfl ?_
    refine Wh.goto kn23 X32 at_232 (by decide) 236 (by decide) ?_
    exact Wh.ret_bool kn23 X32 S23 (Nat.le_trans hk23 (Nat.le_of_eq (congrArg (fun hh : Heap => hh.size) e32).symm)) rfl at_236 (by decide) (by decide) (by decide) ⟨rfl, N23⟩
set_option maxRecDepth 65536 in
set_option maxHeartbeats 40000000 in
theorem law_21D {p : Program} {l : Launch} {e : Env} {s0 : State} {kz0 : Nat} {m : MethodId} {args : Array Value} {below : List Frame} {meth : Method} {c : Code} {Z : State} {a0 : Array Value} {h0 : Heap} {n0 : Nat} {T0 : State} (hw : ∀ d ∈ tables_1, d.before a0 Z = true) (k : Wk.K p (s0.setVm s0.vm) m meth c Z x code maxLocals ret) (X0 : Stand p l e room_1 (s0.setVm s0.vm) m args below meth c T0 [] 0 0) (p0 p1 p2 p3 k1I k2I a0c a1c b0c b1c : Int32) (e0 : T0.heap = h0) (S0' : s0.Since s0.vm kz0) (hk0 : kz0 ≤ h0.size) (P0 : CHv Z own_EL s0.vm h0) (kk : Nat) (A : Nat → Addr) (cz : Int32) (hcz : ¬ cz = 0) (Z0 : n0 ≤ h0.size) (O0 : Old Z n0 h0) (S0 : Sta Z Z.heap "java/lang/String" "COMPACT_STRINGS" "Z" (.int cz)) (SK : own_SK Z Z.heap A) (ha0 : 0 ≤ a0c.toInt ∧ a0c.toInt ≤ 255) (ha1 : 0 ≤ a1c.toInt ∧ a1c.toInt ≤ 255) (hb0 : 0 ≤ b0c.toInt ∧ b0c.toInt ≤ 255) (hb1 : 0 ≤ b1c.toInt ∧ b1c.toInt ≤ 255) (hk1 : k1I.toInt = (kk : Int)) (h10 : kk < 10) (kq : Nat) (hk2 : k2I.toInt = (kq : Int)) (h10q : kq < 10) (hkq : ¬ kk = kq) (hAA : A kk ≠ A kq) : Wh.Ends p e s0 below room_1 ((fun (_ : Vm) v (_ : Vm) (_ : Heap) L => v = some (.int 1) ∧ Fr n0 L) s0.vm) T0 (mkF m 132 #[.val (.int p0), .val (.int p1), .val (.int p2), .val (.int p3), .val (.int k1I), .val (.int k2I), .val (.int (2 : Int32)), .val (.int a0c), .val (.int a1c), .val (.int (1 : Int32)), .val (.int b0c), .val (.int b1c), .unset, .unset, .unset] []) := by
  refine Wh.new k X0 at_132 (Wk.w hw 0 rfl) (Wk.w hw 1 rfl) (Wk.w hw 2 rfl) e0 (by decide) (by decide) 135 rfl fun T1 h1 tk q1 X1 e1 E1 A1 D1 => ?_
  have g1 : n0 ≤ tk := by rw [q1]; exact Z0
  have hs2 : h0.size ≤ tk := by rw [q1]; exact (Keep.refl h0 []).1
  have sz1 := Nat.le_trans Z0 E1.1
  have hk3 := Nat.le_trans hk0 E1.1
  have K4 := (Keep.refl h0 []).ext E1
  have f5 : Fld Z h1 tk "com/example/acomp/acomp/HoaLexer$Token" "kind" "Lcom/example/acomp/acomp/HoaLexer$Kind;" .null := D1 (Or.inr (Wk.w hw 40 rfl)) (ty := (.object "com/example/acomp/acomp/HoaLexer$Kind")) (by decide)
  have f6 : Fld Z h1 tk "com/example/acomp/acomp/HoaLexer$Token" "text" "Ljava/lang/String;" .null := D1 (Or.inr (Wk.w hw 42 rfl)) (ty := (.object "java/lang/String")) (by decide)
  have f7 : Fld Z h1 tk "com/example/acomp/acomp/HoaLexer$Token" "line" "I" (.int (0 : Int32)) := D1 (Or.inr (Wk.w hw 44 rfl)) (ty := .int) (by decide)
  refine Wh.dup k X1 at_135 rfl 136 rfl ?_
  refine Wh.iload k X1 at_136 rfl 138 rfl ?_
  refine Wh.callS k X1 [(.int k1I)] [(.ref tk), (.ref tk)] at_138 (rm_ko l Z a0 hw _ kk A _ hk1 h10 (own_SK.keep (O0.keep K4 all0) SK)) e1 (Wk.w hw 3 rfl) (Wk.w hw 4 rfl) (Wk.w hw 5 rfl) (Wk.w hw 6 rfl) (by decide) rfl pd_TokenIsPinLaw_kindOf rfl rfl (Nat.le_of_ble_eq_true rfl) (Nat.le_of_ble_eq_true rfl) (Nat.le_of_ble_eq_true rfl) (Nat.le_of_ble_eq_true rfl) 141 rfl fun T8 v8 L8 X8 hQ8 => ?_
  obtain ⟨rfl, e8, rfl⟩ := hQ8
  rw [List.append_nil] at X8
  show Wh.Ends _ _ _ _ _ _ _ (mkF m 141 _ [(.ref (A kk)), (.ref tk), (.ref tk)])
  refine Wh.iload k X8 at_141 rfl 143 rfl ?_
  refine Wh.iload k X8 at_143 rfl 145 rfl ?_
  refine Wh.iload k X8 at_145 rfl 147 rfl ?_
  have G1 := CHr.keep K4 (fun x hx => absurd hx (List.not_mem_nil)) P0
  refine Wh.callSH k X8 (PP := (fun vm => CHr Z own_EL s0.vm h1 vm h1)) [(.int (2 : Int32)), (.int a0c), (.int a1c)] [(.ref (A kk)), (.ref tk), (.ref tk)] at_147 (rm_st2 l Z a0 hw a0c a1c ha0 ha1 h1 n0 sz1 cz hcz (O0.keep K4 all0) S0) e8 S0' hk3 (fun _ _ _ _ _ _ _ Y => CHv.at Y k.2.1 (own_EW hw) G1.1) (fun vm P => P.1) (Wk.w hw 10 rfl) (Wk.w hw 11 rfl) (Wk.w hw 5 rfl) (Wk.w hw 12 rfl) (by decide) rfl pd_TokenIsPinLaw_str rfl rfl (Nat.le_of_ble_eq_true rfl) (Nat.le_of_ble_eq_true rfl) (Nat.le_of_ble_eq_true rfl) (Nat.le_of_ble_eq_true rfl) 150 rfl fun vp9 vm9 kz9 T9 v9 L9 PP9 kn9 X9 S9 hk9 hQ9 => ?_
  obtain ⟨o1, b1, rfl, ho1, N9q, K9q, ⟨ES1, FC1, FV1, AS1⟩, CR1⟩ := hQ9
  show Wh.Ends _ _ _ _ _ _ _ (mkF m 150 _ [(.ref o1), (.ref (A kk)), (.ref tk), (.ref tk)])
  have N9 := Fr.app (Fr.nil n0) N9q
  have sz9 := Nat.le_trans sz1 K9q.1
  have CRT := G1.trans (PP9.trans CR1)
  have not1 : o1 ≠ tk := Ne.symm (Nat.ne_of_lt (Nat.lt_of_lt_of_le A1.lt ho1))
  have K10 := K4.trans K9q all0
  have f11 := A1.keep K9q
  have f12 := f5.keep K9q nin0
  have f13 := f6.keep K9q nin0
  have f14 := f7.keep K9q nin0
  have nbt : b1 ≠ tk := by obtain ⟨cc, Ar, -⟩ := AS1; exact Ne.symm (ne_arr f11 (Wk.w hw 1 rfl) Ar)
  refine Wh.iload_n kn9 X9 at_150 rfl 151 rfl ?_
  refine Wh.callI kn9 X9 [(.ref (A kk)), (.ref o1), (.int p3)] [(.ref tk)] at_151 (rm_ti l Z a0 hw tk _ o1 p3 _ _ _ T9.heap n0 g1 f11 f12 f13 f14) (rfl : T9.heap = T9.heap) rfl (Wk.w hw 35 rfl) (Wk.w hw 36 rfl) (Wk.w hw 2 rfl) (Wk.w hw 37 rfl) (by decide) rfl pd_Token_init rfl rfl (Nat.le_of_ble_eq_true rfl) (Nat.le_of_ble_eq_true rfl) (Nat.le_of_ble_eq_true rfl) (Nat.le_of_ble_eq_true rfl) 154 rfl fun T15 v15 L15 X15 hQ15 => ?_
  obtain ⟨rfl, N15q, K15q, E15t, F15k, F15x⟩ := hQ15
  show Wh.Ends _ _ _ _ _ _ _ (mkF m 154 _ [(.ref tk)])
  have N15 := Fr.app N9 N15q
  have sz15 := Nat.le_trans sz9 K15q.1
  have hk16 := Nat.le_trans hk9 K15q.1
  have K17 := K10.trans K15q (allS (Or.inr hs2) all0)
  have f18 := ES1.keep K15q
  have f19 := FC1.keep K15q (ninS not1 nin0)
  have f20 := FV1.keep K15q (ninS not1 nin0)
  have f21 := AS1.keep K15q (ninS nbt nin0)
  refine Wh.astore kn9 X15 at_154 rfl #[.val (.int p0), .val (.int p1), .val (.int p2), .val (.int p3), .val (.int k1I), .val (.int k2I), .val (.int (2 : Int32)), .val (.int a0c), .val (.int a1c), .val (.int (1 : Int32)), .val (.int b0c), .val (.int b1c), .val (.ref tk), .unset, .unset] rfl 156 rfl ?_
  refine Wh.aload kn9 X15 at_156 rfl rfl 158 rfl ?_
  refine Wh.iload kn9 X15 at_158 rfl 160 rfl ?_
  refine Wh.callS kn9 X15 [(.int k2I)] [(.ref tk)] at_160 (rm_ko l Z a0 hw _ kq A _ hk2 h10q (own_SK.keep (O0.keep K17 all0) SK)) (rfl : T15.heap = T15.heap) (Wk.w hw 3 rfl) (Wk.w hw 4 rfl) (Wk.w hw 5 rfl) (Wk.w hw 6 rfl) (by decide) rfl pd_TokenIsPinLaw_kindOf rfl rfl (Nat.le_of_ble_eq_true rfl) (Nat.le_of_ble_eq_true rfl) (Nat.le_of_ble_eq_true rfl) (Nat.le_of_ble_eq_true rfl) 163 rfl fun T22 v22 L22 X22 hQ22 => ?_
  obtain ⟨rfl, e22, rfl⟩ := hQ22
  rw [List.append_nil] at X22
  show Wh.Ends _ _ _ _ _ _ _ (mkF m 163 _ [(.ref (A kq)), (.ref tk)])
  refine Wh.iload kn9 X22 at_163 rfl 165 rfl ?_
  refine Wh.iload kn9 X22 at_165 rfl 167 rfl ?_
  refine Wh.iload kn9 X22 at_167 rfl 169 rfl ?_
  have G2 := CHr.keep K15q (allS (Safe.exa kn9.2.1.alike f11 (by decide) (by decide)) all0) CRT.1
  refine Wh.callSH kn9 X22 (PP := (fun vm => CHr Z own_EL vm9 T15.heap vm T15.heap)) [(.int (1 : Int32)), (.int b0c), (.int b1c)] [(.ref (A kq)), (.ref tk)] at_169 (rm_st1 l Z a0 hw b0c b1c hb0 T15.heap n0 sz15 cz hcz (O0.keep K17 all0) S0) e22 S9 hk16 (fun _ _ _ _ _ _ _ Y => CHv.at Y kn9.2.1 (own_EW hw) G2.1) (fun vm P => P.1) (Wk.w hw 10 rfl) (Wk.w hw 11 rfl) (Wk.w hw 5 rfl) (Wk.w hw 12 rfl) (by decide) rfl pd_TokenIsPinLaw_str rfl rfl (Nat.le_of_ble_eq_true rfl) (Nat.le_of_ble_eq_true rfl) (Nat.le_of_ble_eq_true rfl) (Nat.le_of_ble_eq_true rfl) 172 rfl fun vp23 vm23 kz23 T23 v23 L23 PP23 kn23 X23 S23 hk23 hQ23 => ?_
  obtain ⟨o2, b2, rfl, ho2, N23q, K23q, ⟨ES2, FC2, FV2, AS2⟩, CR2⟩ := hQ23
  show Wh.Ends _ _ _ _ _ _ _ (mkF m 172 _ [(.ref o2), (.ref (A kq)), (.ref tk)])
  have N23 := Fr.app N15 N23q
  have sz23 := Nat.le_trans sz15 K23q.1
  have noo : o1 ≠ o2 := Nat.ne_of_lt (Nat.lt_of_lt_of_le f18.lt ho2)
  have K24 := K17.trans K23q all0
  have f25 := f18.keep K23q
  have f26 := f19.keep K23q nin0
  have f27 := f20.keep K23q nin0
  have f28 := f21.keep K23q nin0
  have f29 := E15t.keep K23q
  have f30 := F15k.keep K23q nin0
  have f31 := F15x.keep K23q nin0
  refine Wh.callV kn23 X23 [(.ref (A kq)), (.ref o2)] [] at_172 (rm_isD l Z a0 hw tk _ o2 _ hAA o1 b1 b2 ([(a0c).toInt8.toInt32, (a1c).toInt8.toInt32] : List Int32) ([(b0c).toInt8.toInt32] : List Int32) T23.heap noo cz hcz (Sta.ext (O0.keep K24 all0).2 S0) ⟨f25, f26, f27, f28⟩ ⟨ES2, FC2, FV2, AS2⟩ (rm_le21 l Z a0 hw b1 b2 _ _ _ T23.heap f28 AS2) f30 f31) (rfl : T23.heap = T23.heap) f29 (Wk.w hw 45 rfl) (Wk.w hw 46 rfl) (Wk.w hw 48 rfl) (Wk.w hw 47 rfl) (Wk.w hw 2 rfl) (Wk.w hw 49 rfl) (by decide) rfl pd_Token_is rfl rfl (Nat.le_of_ble_eq_true rfl) (Nat.le_of_ble_eq_true rfl) (Nat.le_of_ble_eq_true rfl) (Nat.le_of_ble_eq_true rfl) 175 rfl fun T32 v32 L32 X32 hQ32 => ?_
  obtain ⟨rfl, e32, rfl⟩ := hQ32
  rw [List.append_nil] at X32
  show Wh.Ends _ _ _ _ _ _ _ (mkF m 175 _ [(.int (0 : Int32))])
  refine Wh.istore kn23 X32 at_175 #[.val (.int p0), .val (.int p1), .val (.int p2), .val (.int p3), .val (.int k1I), .val (.int k2I), .val (.int (2 : Int32)), .val (.int a0c), .val (.int a1c), .val (.int (1 : Int32)), .val (.int b0c), .val (.int b1c), .val (.ref tk), .val (.int (0 : Int32)), .unset] rfl 177 rfl ?_
  refine Wh.iload kn23 X32 at_177 rfl 179 rfl ?_
  refine Wh.iload kn23 X32 at_179 rfl 181 rfl ?_
  refine Wh.icmp_ne kn23 X32 at_181 (by decide) 221 184 (by decide) rfl (fun hc181 => ?_) (fun hc181 => ?_)
  · refine Wh.iconst kn23 X32 at_221 (0 : Int32) rfl 222 rfl ?_
    refine Wh.istore kn23 X32 at_222 #[.val (.int p0), .val (.int p1), .val (.int p2), .val (.int p3), .val (.int k1I), .val (.int k2I), .val (.int (2 : Int32)), .val (.int a0c), .val (.int a1c), .val (.int (1 : Int32)), .val (.int b0c), .val (.int b1c), .val (.ref tk), .val (.int (0 : Int32)), .val (.int (0 : Int32))] rfl 224 rfl ?_
    refine Wh.iload kn23 X32 at_224 rfl 226 rfl ?_
    refine Wh.iload kn23 X32 at_226 rfl 228 rfl ?_
    refine Wh.icmp_ne kn23 X32 at_228 (by decide) 235 231 (by decide) rfl (fun hz => absurd rfl hz) (fun _ => ?_)
    refine Wh.iconst kn23 X32 at_231 (1 : Int32) rfl 232 rfl ?_
    refine Wh.goto kn23 X32 at_232 (by decide) 236 (by decide) ?_
    exact Wh.ret_bool kn23 X32 S23 (Nat.le_trans hk23 (Nat.le_of_eq (congrArg (fun hh : Heap => hh.size) e32).symm)) rfl at_236 (by decide) (by decide) (by decide) ⟨rfl, N23⟩
  · exact absurd (own_kk hk1 hc181 hk2) hkq
set_option maxRecDepth 65536 in
set_option maxHeartbeats 40000000 in
theorem law_22S {p : Program} {l : Launch} {e : Env} {s0 : State} {kz0 : Nat} {m : MethodId} {args : Array Value} {below : List Frame} {meth : Method} {c : Code} {Z : State} {a0 : Array Value} {h0 : Heap} {n0 : Nat} {T0 : State} (hw : ∀ d ∈ tables_1, d.before a0 Z = true) (k : Wk.K p (s0.setVm s0.vm) m meth c Z x code maxLocals ret) (X0 : Stand p l e room_1 (s0.setVm s0.vm) m args below meth c T0 [] 0 0) (p0 p1 p2 p3 k1I k2I a0c a1c b0c b1c : Int32) (e0 : T0.heap = h0) (S0' : s0.Since s0.vm kz0) (hk0 : kz0 ≤ h0.size) (P0 : CHv Z own_EL s0.vm h0) (kk : Nat) (A : Nat → Addr) (cz : Int32) (hcz : ¬ cz = 0) (Z0 : n0 ≤ h0.size) (O0 : Old Z n0 h0) (S0 : Sta Z Z.heap "java/lang/String" "COMPACT_STRINGS" "Z" (.int cz)) (SK : own_SK Z Z.heap A) (ha0 : 0 ≤ a0c.toInt ∧ a0c.toInt ≤ 255) (ha1 : 0 ≤ a1c.toInt ∧ a1c.toInt ≤ 255) (hb0 : 0 ≤ b0c.toInt ∧ b0c.toInt ≤ 255) (hb1 : 0 ≤ b1c.toInt ∧ b1c.toInt ≤ 255) (hk1 : k1I.toInt = (kk : Int)) (h10 : kk < 10) (hk2 : k2I.toInt = (kk : Int)) : Wh.Ends p e s0 below room_1 ((fun (_ : Vm) v (_ : Vm) (_ : Heap) L => v = some (.int 1) ∧ Fr n0 L) s0.vm) T0 (mkF m 132 #[.val (.int p0), .val (.int p1), .val (.int p2), .val (.int p3), .val (.int k1I), .val (.int k2I), .val (.int (2 : Int32)), .val (.int a0c), .val (.int a1c), .val (.int (2 : Int32)), .val (.int b0c), .val (.int b1c), .unset, .unset, .unset] []) := by
  refine Wh.new k X0 at_132 (Wk.w hw 0 rfl) (Wk.w hw 1 rfl) (Wk.w hw 2 rfl) e0 (by decide) (by decide) 135 rfl fun T1 h1 tk q1 X1 e1 E1 A1 D1 => ?_
  have g1 : n0 ≤ tk := by rw [q1]; exact Z0
  have hs2 : h0.size ≤ tk := by rw [q1]; exact (Keep.refl h0 []).1
  have sz1 := Nat.le_trans Z0 E1.1
  have hk3 := Nat.le_trans hk0 E1.1
  have K4 := (Keep.refl h0 []).ext E1
  have f5 : Fld Z h1 tk "com/example/acomp/acomp/HoaLexer$Token" "kind" "Lcom/example/acomp/acomp/HoaLexer$Kind;" .null := D1 (Or.inr (Wk.w hw 40 rfl)) (ty := (.object "com/example/acomp/acomp/HoaLexer$Kind")) (by decide)
  have f6 : Fld Z h1 tk "com/example/acomp/acomp/HoaLexer$Token" "text" "Ljava/lang/String;" .null := D1 (Or.inr (Wk.w hw 42 rfl)) (ty := (.object "java/lang/String")) (by decide)
  have f7 : Fld Z h1 tk "com/example/acomp/acomp/HoaLexer$Token" "line" "I" (.int (0 : Int32)) := D1 (Or.inr (Wk.w hw 44 rfl)) (ty := .int) (by decide)
  refine Wh.dup k X1 at_135 rfl 136 rfl ?_
  refine Wh.iload k X1 at_136 rfl 138 rfl ?_
  refine Wh.callS k X1 [(.int k1I)] [(.ref tk), (.ref tk)] at_138 (rm_ko l Z a0 hw _ kk A _ hk1 h10 (own_SK.keep (O0.keep K4 all0) SK)) e1 (Wk.w hw 3 rfl) (Wk.w hw 4 rfl) (Wk.w hw 5 rfl) (Wk.w hw 6 rfl) (by decide) rfl pd_TokenIsPinLaw_kindOf rfl rfl (Nat.le_of_ble_eq_true rfl) (Nat.le_of_ble_eq_true rfl) (Nat.le_of_ble_eq_true rfl) (Nat.le_of_ble_eq_true rfl) 141 rfl fun T8 v8 L8 X8 hQ8 => ?_
  obtain ⟨rfl, e8, rfl⟩ := hQ8
  rw [List.append_nil] at X8
  show Wh.Ends _ _ _ _ _ _ _ (mkF m 141 _ [(.ref (A kk)), (.ref tk), (.ref tk)])
  refine Wh.iload k X8 at_141 rfl 143 rfl ?_
  refine Wh.iload k X8 at_143 rfl 145 rfl ?_
  refine Wh.iload k X8 at_145 rfl 147 rfl ?_
  have G1 := CHr.keep K4 (fun x hx => absurd hx (List.not_mem_nil)) P0
  refine Wh.callSH k X8 (PP := (fun vm => CHr Z own_EL s0.vm h1 vm h1)) [(.int (2 : Int32)), (.int a0c), (.int a1c)] [(.ref (A kk)), (.ref tk), (.ref tk)] at_147 (rm_st2 l Z a0 hw a0c a1c ha0 ha1 h1 n0 sz1 cz hcz (O0.keep K4 all0) S0) e8 S0' hk3 (fun _ _ _ _ _ _ _ Y => CHv.at Y k.2.1 (own_EW hw) G1.1) (fun vm P => P.1) (Wk.w hw 10 rfl) (Wk.w hw 11 rfl) (Wk.w hw 5 rfl) (Wk.w hw 12 rfl) (by decide) rfl pd_TokenIsPinLaw_str rfl rfl (Nat.le_of_ble_eq_true rfl) (Nat.le_of_ble_eq_true rfl) (Nat.le_of_ble_eq_true rfl) (Nat.le_of_ble_eq_true rfl) 150 rfl fun vp9 vm9 kz9 T9 v9 L9 PP9 kn9 X9 S9 hk9 hQ9 => ?_
  obtain ⟨o1, b1, rfl, ho1, N9q, K9q, ⟨ES1, FC1, FV1, AS1⟩, CR1⟩ := hQ9
  show Wh.Ends _ _ _ _ _ _ _ (mkF m 150 _ [(.ref o1), (.ref (A kk)), (.ref tk), (.ref tk)])
  have N9 := Fr.app (Fr.nil n0) N9q
  have sz9 := Nat.le_trans sz1 K9q.1
  have CRT := G1.trans (PP9.trans CR1)
  have not1 : o1 ≠ tk := Ne.symm (Nat.ne_of_lt (Nat.lt_of_lt_of_le A1.lt ho1))
  have K10 := K4.trans K9q all0
  have f11 := A1.keep K9q
  have f12 := f5.keep K9q nin0
  have f13 := f6.keep K9q nin0
  have f14 := f7.keep K9q nin0
  have nbt : b1 ≠ tk := by obtain ⟨cc, Ar, -⟩ := AS1; exact Ne.symm (ne_arr f11 (Wk.w hw 1 rfl) Ar)
  refine Wh.iload_n kn9 X9 at_150 rfl 151 rfl ?_
  refine Wh.callI kn9 X9 [(.ref (A kk)), (.ref o1), (.int p3)] [(.ref tk)] at_151 (rm_ti l Z a0 hw tk _ o1 p3 _ _ _ T9.heap n0 g1 f11 f12 f13 f14) (rfl : T9.heap = T9.heap) rfl (Wk.w hw 35 rfl) (Wk.w hw 36 rfl) (Wk.w hw 2 rfl) (Wk.w hw 37 rfl) (by decide) rfl pd_Token_init rfl rfl (Nat.le_of_ble_eq_true rfl) (Nat.le_of_ble_eq_true rfl) (Nat.le_of_ble_eq_true rfl) (Nat.le_of_ble_eq_true rfl) 154 rfl fun T15 v15 L15 X15 hQ15 => ?_
  obtain ⟨rfl, N15q, K15q, E15t, F15k, F15x⟩ := hQ15
  show Wh.Ends _ _ _ _ _ _ _ (mkF m 154 _ [(.ref tk)])
  have N15 := Fr.app N9 N15q
  have sz15 := Nat.le_trans sz9 K15q.1
  have hk16 := Nat.le_trans hk9 K15q.1
  have K17 := K10.trans K15q (allS (Or.inr hs2) all0)
  have f18 := ES1.keep K15q
  have f19 := FC1.keep K15q (ninS not1 nin0)
  have f20 := FV1.keep K15q (ninS not1 nin0)
  have f21 := AS1.keep K15q (ninS nbt nin0)
  refine Wh.astore kn9 X15 at_154 rfl #[.val (.int p0), .val (.int p1), .val (.int p2), .val (.int p3), .val (.int k1I), .val (.int k2I), .val (.int (2 : Int32)), .val (.int a0c), .val (.int a1c), .val (.int (2 : Int32)), .val (.int b0c), .val (.int b1c), .val (.ref tk), .unset, .unset] rfl 156 rfl ?_
  refine Wh.aload kn9 X15 at_156 rfl rfl 158 rfl ?_
  refine Wh.iload kn9 X15 at_158 rfl 160 rfl ?_
  refine Wh.callS kn9 X15 [(.int k2I)] [(.ref tk)] at_160 (rm_ko l Z a0 hw _ kk A _ hk2 h10 (own_SK.keep (O0.keep K17 all0) SK)) (rfl : T15.heap = T15.heap) (Wk.w hw 3 rfl) (Wk.w hw 4 rfl) (Wk.w hw 5 rfl) (Wk.w hw 6 rfl) (by decide) rfl pd_TokenIsPinLaw_kindOf rfl rfl (Nat.le_of_ble_eq_true rfl) (Nat.le_of_ble_eq_true rfl) (Nat.le_of_ble_eq_true rfl) (Nat.le_of_ble_eq_true rfl) 163 rfl fun T22 v22 L22 X22 hQ22 => ?_
  obtain ⟨rfl, e22, rfl⟩ := hQ22
  rw [List.append_nil] at X22
  show Wh.Ends _ _ _ _ _ _ _ (mkF m 163 _ [(.ref (A kk)), (.ref tk)])
  refine Wh.iload kn9 X22 at_163 rfl 165 rfl ?_
  refine Wh.iload kn9 X22 at_165 rfl 167 rfl ?_
  refine Wh.iload kn9 X22 at_167 rfl 169 rfl ?_
  have G2 := CHr.keep K15q (allS (Safe.exa kn9.2.1.alike f11 (by decide) (by decide)) all0) CRT.1
  refine Wh.callSH kn9 X22 (PP := (fun vm => CHr Z own_EL vm9 T15.heap vm T15.heap)) [(.int (2 : Int32)), (.int b0c), (.int b1c)] [(.ref (A kk)), (.ref tk)] at_169 (rm_st2 l Z a0 hw b0c b1c hb0 hb1 T15.heap n0 sz15 cz hcz (O0.keep K17 all0) S0) e22 S9 hk16 (fun _ _ _ _ _ _ _ Y => CHv.at Y kn9.2.1 (own_EW hw) G2.1) (fun vm P => P.1) (Wk.w hw 10 rfl) (Wk.w hw 11 rfl) (Wk.w hw 5 rfl) (Wk.w hw 12 rfl) (by decide) rfl pd_TokenIsPinLaw_str rfl rfl (Nat.le_of_ble_eq_true rfl) (Nat.le_of_ble_eq_true rfl) (Nat.le_of_ble_eq_true rfl) (Nat.le_of_ble_eq_true rfl) 172 rfl fun vp23 vm23 kz23 T23 v23 L23 PP23 kn23 X23 S23 hk23 hQ23 => ?_
  obtain ⟨o2, b2, rfl, ho2, N23q, K23q, ⟨ES2, FC2, FV2, AS2⟩, CR2⟩ := hQ23
  show Wh.Ends _ _ _ _ _ _ _ (mkF m 172 _ [(.ref o2), (.ref (A kk)), (.ref tk)])
  have N23 := Fr.app N15 N23q
  have sz23 := Nat.le_trans sz15 K23q.1
  have noo : o1 ≠ o2 := Nat.ne_of_lt (Nat.lt_of_lt_of_le f18.lt ho2)
  have K24 := K17.trans K23q all0
  have f25 := f18.keep K23q
  have f26 := f19.keep K23q nin0
  have f27 := f20.keep K23q nin0
  have f28 := f21.keep K23q nin0
  have f29 := E15t.keep K23q
  have f30 := F15k.keep K23q nin0
  have f31 := F15x.keep K23q nin0
  refine Wh.callV kn23 X23 [(.ref (A kk)), (.ref o2)] [] at_172 (rm_isS l Z a0 hw tk _ o2 o1 b1 b2 ([(a0c).toInt8.toInt32, (a1c).toInt8.toInt32] : List Int32) ([(b0c).toInt8.toInt32, (b1c).toInt8.toInt32] : List Int32) T23.heap noo cz hcz (Sta.ext (O0.keep K24 all0).2 S0) ⟨f25, f26, f27, f28⟩ ⟨ES2, FC2, FV2, AS2⟩ (rm_le22 l Z a0 hw b1 b2 _ _ _ _ T23.heap f28 AS2) f30 f31) (rfl : T23.heap = T23.heap) f29 (Wk.w hw 45 rfl) (Wk.w hw 46 rfl) (Wk.w hw 48 rfl) (Wk.w hw 47 rfl) (Wk.w hw 2 rfl) (Wk.w hw 49 rfl) (by decide) rfl pd_Token_is rfl rfl (Nat.le_of_ble_eq_true rfl) (Nat.le_of_ble_eq_true rfl) (Nat.le_of_ble_eq_true rfl) (Nat.le_of_ble_eq_true rfl) 175 rfl fun T32 v32 L32 X32 hQ32 => ?_
  obtain ⟨rfl, e32, rfl⟩ := hQ32
  rw [List.append_nil] at X32
  show Wh.Ends _ _ _ _ _ _ _ (mkF m 175 _ [(.int (if ([(a0c).toInt8.toInt32, (a1c).toInt8.toInt32] : List Int32) = ([(b0c).toInt8.toInt32, (b1c).toInt8.toInt32] : List Int32) then (1 : Int32) else 0))])
  refine Wh.istore kn23 X32 at_175 #[.val (.int p0), .val (.int p1), .val (.int p2), .val (.int p3), .val (.int k1I), .val (.int k2I), .val (.int (2 : Int32)), .val (.int a0c), .val (.int a1c), .val (.int (2 : Int32)), .val (.int b0c), .val (.int b1c), .val (.ref tk), .val (.int (if ([(a0c).toInt8.toInt32, (a1c).toInt8.toInt32] : List Int32) = ([(b0c).toInt8.toInt32, (b1c).toInt8.toInt32] : List Int32) then (1 : Int32) else 0)), .unset] rfl 177 rfl ?_
  refine Wh.iload kn23 X32 at_177 rfl 179 rfl ?_
  refine Wh.iload kn23 X32 at_179 rfl 181 rfl ?_
  refine Wh.icmp_ne kn23 X32 at_181 (by decide) 221 184 (by decide) rfl (fun hc181 => ?_) (fun hc181 => ?_)
  · exact absurd (Int32.toInt_inj.mp (hk1.trans hk2.symm)) hc181
  · refine Wh.iload kn23 X32 at_184 rfl 186 rfl ?_
    refine Wh.iload kn23 X32 at_186 rfl 188 rfl ?_
    refine Wh.icmp_ne kn23 X32 at_188 (by decide) 221 191 (by decide) rfl (fun hz => by first | exact absurd hz (by decide) | exact absurd (by decide) hz) (fun _ => ?_)
    refine Wh.iload kn23 X32 at_191 rfl 193 rfl ?_
    refine Wh.iconst kn23 X32 at_193 (1 : Int32) rfl 194 rfl ?_
    refine Wh.icmp_lt kn23 X32 at_194 (by decide) 204 197 (by decide) rfl (fun hz => by first | exact absurd hz (by decide) | exact absurd (by decide) hz) (fun _ => ?_)
    refine Wh.iload kn23 X32 at_197 rfl 199 rfl ?_
    refine Wh.iload kn23 X32 at_199 rfl 201 rfl ?_
    refine Wh.icmp_ne kn23 X32 at_201 (by decide) 221 204 (by decide) rfl (fun hc201 => ?_) (fun hc201 => ?_)
    · refine Wh.iconst kn23 X32 at_221 (0 : Int32) rfl 222 rfl ?_
      refine Wh.istore kn23 X32 at_222 #[.val (.int p0), .val (.int p1), .val (.int p2), .val (.int p3), .val (.int k1I), .val (.int k2I), .val (.int (2 : Int32)), .val (.int a0c), .val (.int a1c), .val (.int (2 : Int32)), .val (.int b0c), .val (.int b1c), .val (.ref tk), .val (.int (if ([(a0c).toInt8.toInt32, (a1c).toInt8.toInt32] : List Int32) = ([(b0c).toInt8.toInt32, (b1c).toInt8.toInt32] : List Int32) then (1 : Int32) else 0)), .val (.int (0 : Int32))] rfl 224 rfl ?_
      refine Wh.iload kn23 X32 at_224 rfl 226 rfl ?_
      refine Wh.iload kn23 X32 at_226 rfl 228 rfl ?_
      refine Wh.icmp_ne kn23 X32 at_228 (by decide) 235 231 (by decide) rfl (fun hz => absurd (if_neg (fun hq => hc201 (own_bi ha0 hb0 (own_h1 hq)))) hz) (fun _ => ?_)
      refine Wh.iconst kn23 X32 at_231 (1 : Int32) rfl 232 rfl ?_
      refine Wh.goto kn23 X32 at_232 (by decide) 236 (by decide) ?_
      exact Wh.ret_bool kn23 X32 S23 (Nat.le_trans hk23 (Nat.le_of_eq (congrArg (fun hh : Heap => hh.size) e32).symm)) rfl at_236 (by decide) (by decide) (by decide) ⟨rfl, N23⟩
    · refine Wh.iload kn23 X32 at_204 rfl 206 rfl ?_
      refine Wh.iconst kn23 X32 at_206 (2 : Int32) rfl 207 rfl ?_
      refine Wh.icmp_lt kn23 X32 at_207 (by decide) 217 210 (by decide) rfl (fun hz => by first | exact absurd hz (by decide) | exact absurd (by decide) hz) (fun _ => ?_)
      refine Wh.iload kn23 X32 at_210 rfl 212 rfl ?_
      refine Wh.iload kn23 X32 at_212 rfl 214 rfl ?_
      refine Wh.icmp_ne kn23 X32 at_214 (by decide) 221 217 (by decide) rfl (fun hc214 => ?_) (fun hc214 => ?_)
      · refine Wh.iconst kn23 X32 at_221 (0 : Int32) rfl 222 rfl ?_
        refine Wh.istore kn23 X32 at_222 #[.val (.int p0), .val (.int p1), .val (.int p2), .val (.int p3), .val (.int k1I), .val (.int k2I), .val (.int (2 : Int32)), .val (.int a0c), .val (.int a1c), .val (.int (2 : Int32)), .val (.int b0c), .val (.int b1c), .val (.ref tk), .val (.int (if ([(a0c).toInt8.toInt32, (a1c).toInt8.toInt32] : List Int32) = ([(b0c).toInt8.toInt32, (b1c).toInt8.toInt32] : List Int32) then (1 : Int32) else 0)), .val (.int (0 : Int32))] rfl 224 rfl ?_
        refine Wh.iload kn23 X32 at_224 rfl 226 rfl ?_
        refine Wh.iload kn23 X32 at_226 rfl 228 rfl ?_
        refine Wh.icmp_ne kn23 X32 at_228 (by decide) 235 231 (by decide) rfl (fun hz => absurd (if_neg (fun hq => hc214 (own_bi ha1 hb1 (own_h2 hq)))) hz) (fun _ => ?_)
        refine Wh.iconst kn23 X32 at_231 (1 : Int32) rfl 232 rfl ?_
        refine Wh.goto kn23 X32 at_232 (by decide) 236 (by decide) ?_
        exact Wh.ret_bool kn23 X32 S23 (Nat.le_trans hk23 (Nat.le_of_eq (congrArg (fun hh : Heap => hh.size) e32).symm)) rfl at_236 (by decide) (by decide) (by decide) ⟨rfl, N23⟩
      · refine Wh.iconst kn23 X32 at_217 (1 : Int32) rfl 218 rfl ?_
        refine Wh.goto kn23 X32 at_218 (by decide) 222 (by decide) ?_
        refine Wh.istore kn23 X32 at_222 #[.val (.int p0), .val (.int p1), .val (.int p2), .val (.int p3), .val (.int k1I), .val (.int k2I), .val (.int (2 : Int32)), .val (.int a0c), .val (.int a1c), .val (.int (2 : Int32)), .val (.int b0c), .val (.int b1c), .val (.ref tk), .val (.int (if ([(a0c).toInt8.toInt32, (a1c).toInt8.toInt32] : List Int32) = ([(b0c).toInt8.toInt32, (b1c).toInt8.toInt32] : List Int32) then (1 : Int32) else 0)), .val (.int (1 : Int32))] rfl 224 rfl ?_
        refine Wh.iload kn23 X32 at_224 rfl 226 rfl ?_
        refine Wh.iload kn23 X32 at_226 rfl 228 rfl ?_
        refine Wh.icmp_ne kn23 X32 at_228 (by decide) 235 231 (by decide) rfl (fun hz => absurd (if_pos (by rw [hc201, hc214])) hz) (fun _ => ?_)
        refine Wh.iconst kn23 X32 at_231 (1 : Int32) rfl 232 rfl ?_
        refine Wh.goto kn23 X32 at_232 (by decide) 236 (by decide) ?_
        exact Wh.ret_bool kn23 X32 S23 (Nat.le_trans hk23 (Nat.le_of_eq (congrArg (fun hh : Heap => hh.size) e32).symm)) rfl at_236 (by decide) (by decide) (by decide) ⟨rfl, N23⟩
set_option maxRecDepth 65536 in
set_option maxHeartbeats 40000000 in
theorem law_22D {p : Program} {l : Launch} {e : Env} {s0 : State} {kz0 : Nat} {m : MethodId} {args : Array Value} {below : List Frame} {meth : Method} {c : Code} {Z : State} {a0 : Array Value} {h0 : Heap} {n0 : Nat} {T0 : State} (hw : ∀ d ∈ tables_1, d.before a0 Z = true) (k : Wk.K p (s0.setVm s0.vm) m meth c Z x code maxLocals ret) (X0 : Stand p l e room_1 (s0.setVm s0.vm) m args below meth c T0 [] 0 0) (p0 p1 p2 p3 k1I k2I a0c a1c b0c b1c : Int32) (e0 : T0.heap = h0) (S0' : s0.Since s0.vm kz0) (hk0 : kz0 ≤ h0.size) (P0 : CHv Z own_EL s0.vm h0) (kk : Nat) (A : Nat → Addr) (cz : Int32) (hcz : ¬ cz = 0) (Z0 : n0 ≤ h0.size) (O0 : Old Z n0 h0) (S0 : Sta Z Z.heap "java/lang/String" "COMPACT_STRINGS" "Z" (.int cz)) (SK : own_SK Z Z.heap A) (ha0 : 0 ≤ a0c.toInt ∧ a0c.toInt ≤ 255) (ha1 : 0 ≤ a1c.toInt ∧ a1c.toInt ≤ 255) (hb0 : 0 ≤ b0c.toInt ∧ b0c.toInt ≤ 255) (hb1 : 0 ≤ b1c.toInt ∧ b1c.toInt ≤ 255) (hk1 : k1I.toInt = (kk : Int)) (h10 : kk < 10) (kq : Nat) (hk2 : k2I.toInt = (kq : Int)) (h10q : kq < 10) (hkq : ¬ kk = kq) (hAA : A kk ≠ A kq) : Wh.Ends p e s0 below room_1 ((fun (_ : Vm) v (_ : Vm) (_ : Heap) L => v = some (.int 1) ∧ Fr n0 L) s0.vm) T0 (mkF m 132 #[.val (.int p0), .val (.int p1), .val (.int p2), .val (.int p3), .val (.int k1I), .val (.int k2I), .val (.int (2 : Int32)), .val (.int a0c), .val (.int a1c), .val (.int (2 : Int32)), .val (.int b0c), .val (.int b1c), .unset, .unset, .unset] []) := by
  refine Wh.new k X0 at_132 (Wk.w hw 0 rfl) (Wk.w hw 1 rfl) (Wk.w hw 2 rfl) e0 (by decide) (by decide) 135 rfl fun T1 h1 tk q1 X1 e1 E1 A1 D1 => ?_
  have g1 : n0 ≤ tk := by rw [q1]; exact Z0
  have hs2 : h0.size ≤ tk := by rw [q1]; exact (Keep.refl h0 []).1
  have sz1 := Nat.le_trans Z0 E1.1
  have hk3 := Nat.le_trans hk0 E1.1
  have K4 := (Keep.refl h0 []).ext E1
  have f5 : Fld Z h1 tk "com/example/acomp/acomp/HoaLexer$Token" "kind" "Lcom/example/acomp/acomp/HoaLexer$Kind;" .null := D1 (Or.inr (Wk.w hw 40 rfl)) (ty := (.object "com/example/acomp/acomp/HoaLexer$Kind")) (by decide)
  have f6 : Fld Z h1 tk "com/example/acomp/acomp/HoaLexer$Token" "text" "Ljava/lang/String;" .null := D1 (Or.inr (Wk.w hw 42 rfl)) (ty := (.object "java/lang/String")) (by decide)
  have f7 : Fld Z h1 tk "com/example/acomp/acomp/HoaLexer$Token" "line" "I" (.int (0 : Int32)) := D1 (Or.inr (Wk.w hw 44 rfl)) (ty := .int) (by decide)
  refine Wh.dup k X1 at_135 rfl 136 rfl ?_
  refine Wh.iload k X1 at_136 rfl 138 rfl ?_
  refine Wh.callS k X1 [(.int k1I)] [(.ref tk), (.ref tk)] at_138 (rm_ko l Z a0 hw _ kk A _ hk1 h10 (own_SK.keep (O0.keep K4 all0) SK)) e1 (Wk.w hw 3 rfl) (Wk.w hw 4 rfl) (Wk.w hw 5 rfl) (Wk.w hw 6 rfl) (by decide) rfl pd_TokenIsPinLaw_kindOf rfl rfl (Nat.le_of_ble_eq_true rfl) (Nat.le_of_ble_eq_true rfl) (Nat.le_of_ble_eq_true rfl) (Nat.le_of_ble_eq_true rfl) 141 rfl fun T8 v8 L8 X8 hQ8 => ?_
  obtain ⟨rfl, e8, rfl⟩ := hQ8
  rw [List.append_nil] at X8
  show Wh.Ends _ _ _ _ _ _ _ (mkF m 141 _ [(.ref (A kk)), (.ref tk), (.ref tk)])
  refine Wh.iload k X8 at_141 rfl 143 rfl ?_
  refine Wh.iload k X8 at_143 rfl 145 rfl ?_
  refine Wh.iload k X8 at_145 rfl 147 rfl ?_
  have G1 := CHr.keep K4 (fun x hx => absurd hx (List.not_mem_nil)) P0
  refine Wh.callSH k X8 (PP := (fun vm => CHr Z own_EL s0.vm h1 vm h1)) [(.int (2 : Int32)), (.int a0c), (.int a1c)] [(.ref (A kk)), (.ref tk), (.ref tk)] at_147 (rm_st2 l Z a0 hw a0c a1c ha0 ha1 h1 n0 sz1 cz hcz (O0.keep K4 all0) S0) e8 S0' hk3 (fun _ _ _ _ _ _ _ Y => CHv.at Y k.2.1 (own_EW hw) G1.1) (fun vm P => P.1) (Wk.w hw 10 rfl) (Wk.w hw 11 rfl) (Wk.w hw 5 rfl) (Wk.w hw 12 rfl) (by decide) rfl pd_TokenIsPinLaw_str rfl rfl (Nat.le_of_ble_eq_true rfl) (Nat.le_of_ble_eq_true rfl) (Nat.le_of_ble_eq_true rfl) (Nat.le_of_ble_eq_true rfl) 150 rfl fun vp9 vm9 kz9 T9 v9 L9 PP9 kn9 X9 S9 hk9 hQ9 => ?_
  obtain ⟨o1, b1, rfl, ho1, N9q, K9q, ⟨ES1, FC1, FV1, AS1⟩, CR1⟩ := hQ9
  show Wh.Ends _ _ _ _ _ _ _ (mkF m 150 _ [(.ref o1), (.ref (A kk)), (.ref tk), (.ref tk)])
  have N9 := Fr.app (Fr.nil n0) N9q
  have sz9 := Nat.le_trans sz1 K9q.1
  have CRT := G1.trans (PP9.trans CR1)
  have not1 : o1 ≠ tk := Ne.symm (Nat.ne_of_lt (Nat.lt_of_lt_of_le A1.lt ho1))
  have K10 := K4.trans K9q all0
  have f11 := A1.keep K9q
  have f12 := f5.keep K9q nin0
  have f13 := f6.keep K9q nin0
  have f14 := f7.keep K9q nin0
  have nbt : b1 ≠ tk := by obtain ⟨cc, Ar, -⟩ := AS1; exact Ne.symm (ne_arr f11 (Wk.w hw 1 rfl) Ar)
  refine Wh.iload_n kn9 X9 at_150 rfl 151 rfl ?_
  refine Wh.callI kn9 X9 [(.ref (A kk)), (.ref o1), (.int p3)] [(.ref tk)] at_151 (rm_ti l Z a0 hw tk _ o1 p3 _ _ _ T9.heap n0 g1 f11 f12 f13 f14) (rfl : T9.heap = T9.heap) rfl (Wk.w hw 35 rfl) (Wk.w hw 36 rfl) (Wk.w hw 2 rfl) (Wk.w hw 37 rfl) (by decide) rfl pd_Token_init rfl rfl (Nat.le_of_ble_eq_true rfl) (Nat.le_of_ble_eq_true rfl) (Nat.le_of_ble_eq_true rfl) (Nat.le_of_ble_eq_true rfl) 154 rfl fun T15 v15 L15 X15 hQ15 => ?_
  obtain ⟨rfl, N15q, K15q, E15t, F15k, F15x⟩ := hQ15
  show Wh.Ends _ _ _ _ _ _ _ (mkF m 154 _ [(.ref tk)])
  have N15 := Fr.app N9 N15q
  have sz15 := Nat.le_trans sz9 K15q.1
  have hk16 := Nat.le_trans hk9 K15q.1
  have K17 := K10.trans K15q (allS (Or.inr hs2) all0)
  have f18 := ES1.keep K15q
  have f19 := FC1.keep K15q (ninS not1 nin0)
  have f20 := FV1.keep K15q (ninS not1 nin0)
  have f21 := AS1.keep K15q (ninS nbt nin0)
  refine Wh.astore kn9 X15 at_154 rfl #[.val (.int p0), .val (.int p1), .val (.int p2), .val (.int p3), .val (.int k1I), .val (.int k2I), .val (.int (2 : Int32)), .val (.int a0c), .val (.int a1c), .val (.int (2 : Int32)), .val (.int b0c), .val (.int b1c), .val (.ref tk), .unset, .unset] rfl 156 rfl ?_
  refine Wh.aload kn9 X15 at_156 rfl rfl 158 rfl ?_
  refine Wh.iload kn9 X15 at_158 rfl 160 rfl ?_
  refine Wh.callS kn9 X15 [(.int k2I)] [(.ref tk)] at_160 (rm_ko l Z a0 hw _ kq A _ hk2 h10q (own_SK.keep (O0.keep K17 all0) SK)) (rfl : T15.heap = T15.heap) (Wk.w hw 3 rfl) (Wk.w hw 4 rfl) (Wk.w hw 5 rfl) (Wk.w hw 6 rfl) (by decide) rfl pd_TokenIsPinLaw_kindOf rfl rfl (Nat.le_of_ble_eq_true rfl) (Nat.le_of_ble_eq_true rfl) (Nat.le_of_ble_eq_true rfl) (Nat.le_of_ble_eq_true rfl) 163 rfl fun T22 v22 L22 X22 hQ22 => ?_
  obtain ⟨rfl, e22, rfl⟩ := hQ22
  rw [List.append_nil] at X22
  show Wh.Ends _ _ _ _ _ _ _ (mkF m 163 _ [(.ref (A kq)), (.ref tk)])
  refine Wh.iload kn9 X22 at_163 rfl 165 rfl ?_
  refine Wh.iload kn9 X22 at_165 rfl 167 rfl ?_
  refine Wh.iload kn9 X22 at_167 rfl 169 rfl ?_
  have G2 := CHr.keep K15q (allS (Safe.exa kn9.2.1.alike f11 (by decide) (by decide)) all0) CRT.1
  refine Wh.callSH kn9 X22 (PP := (fun vm => CHr Z own_EL vm9 T15.heap vm T15.heap)) [(.int (2 : Int32)), (.int b0c), (.int b1c)] [(.ref (A kq)), (.ref tk)] at_169 (rm_st2 l Z a0 hw b0c b1c hb0 hb1 T15.heap n0 sz15 cz hcz (O0.keep K17 all0) S0) e22 S9 hk16 (fun _ _ _ _ _ _ _ Y => CHv.at Y kn9.2.1 (own_EW hw) G2.1) (fun vm P => P.1) (Wk.w hw 10 rfl) (Wk.w hw 11 rfl) (Wk.w hw 5 rfl) (Wk.w hw 12 rfl) (by decide) rfl pd_TokenIsPinLaw_str rfl rfl (Nat.le_of_ble_eq_true rfl) (Nat.le_of_ble_eq_true rfl) (Nat.le_of_ble_eq_true rfl) (Nat.le_of_ble_eq_true rfl) 172 rfl fun vp23 vm23 kz23 T23 v23 L23 PP23 kn23 X23 S23 hk23 hQ23 => ?_
  obtain ⟨o2, b2, rfl, ho2, N23q, K23q, ⟨ES2, FC2, FV2, AS2⟩, CR2⟩ := hQ23
  show Wh.Ends _ _ _ _ _ _ _ (mkF m 172 _ [(.ref o2), (.ref (A kq)), (.ref tk)])
  have N23 := Fr.app N15 N23q
  have sz23 := Nat.le_trans sz15 K23q.1
  have noo : o1 ≠ o2 := Nat.ne_of_lt (Nat.lt_of_lt_of_le f18.lt ho2)
  have K24 := K17.trans K23q all0
  have f25 := f18.keep K23q
  have f26 := f19.keep K23q nin0
  have f27 := f20.keep K23q nin0
  have f28 := f21.keep K23q nin0
  have f29 := E15t.keep K23q
  have f30 := F15k.keep K23q nin0
  have f31 := F15x.keep K23q nin0
  refine Wh.callV kn23 X23 [(.ref (A kq)), (.ref o2)] [] at_172 (rm_isD l Z a0 hw tk _ o2 _ hAA o1 b1 b2 ([(a0c).toInt8.toInt32, (a1c).toInt8.toInt32] : List Int32) ([(b0c).toInt8.toInt32, (b1c).toInt8.toInt32] : List Int32) T23.heap noo cz hcz (Sta.ext (O0.keep K24 all0).2 S0) ⟨f25, f26, f27, f28⟩ ⟨ES2, FC2, FV2, AS2⟩ (rm_le22 l Z a0 hw b1 b2 _ _ _ _ T23.heap f28 AS2) f30 f31) (rfl : T23.heap = T23.heap) f29 (Wk.w hw 45 rfl) (Wk.w hw 46 rfl) (Wk.w hw 48 rfl) (Wk.w hw 47 rfl) (Wk.w hw 2 rfl) (Wk.w hw 49 rfl) (by decide) rfl pd_Token_is rfl rfl (Nat.le_of_ble_eq_true rfl) (Nat.le_of_ble_eq_true rfl) (Nat.le_of_ble_eq_true rfl) (Nat.le_of_ble_eq_true rfl) 175 rfl fun T32 v32 L32 X32 hQ32 => ?_
  obtain ⟨rfl, e32, rfl⟩ := hQ32
  rw [List.append_nil] at X32
  show Wh.Ends _ _ _ _ _ _ _ (mkF m 175 _ [(.int (0 : Int32))])
  refine Wh.istore kn23 X32 at_175 #[.val (.int p0), .val (.int p1), .val (.int p2), .val (.int p3), .val (.int k1I), .val (.int k2I), .val (.int (2 : Int32)), .val (.int a0c), .val (.int a1c), .val (.int (2 : Int32)), .val (.int b0c), .val (.int b1c), .val (.ref tk), .val (.int (0 : Int32)), .unset] rfl 177 rfl ?_
  refine Wh.iload kn23 X32 at_177 rfl 179 rfl ?_
  refine Wh.iload kn23 X32 at_179 rfl 181 rfl ?_
  refine Wh.icmp_ne kn23 X32 at_181 (by decide) 221 184 (by decide) rfl (fun hc181 => ?_) (fun hc181 => ?_)
  · refine Wh.iconst kn23 X32 at_221 (0 : Int32) rfl 222 rfl ?_
    refine Wh.istore kn23 X32 at_222 #[.val (.int p0), .val (.int p1), .val (.int p2), .val (.int p3), .val (.int k1I), .val (.int k2I), .val (.int (2 : Int32)), .val (.int a0c), .val (.int a1c), .val (.int (2 : Int32)), .val (.int b0c), .val (.int b1c), .val (.ref tk), .val (.int (0 : Int32)), .val (.int (0 : Int32))] rfl 224 rfl ?_
    refine Wh.iload kn23 X32 at_224 rfl 226 rfl ?_
    refine Wh.iload kn23 X32 at_226 rfl 228 rfl ?_
    refine Wh.icmp_ne kn23 X32 at_228 (by decide) 235 231 (by decide) rfl (fun hz => absurd rfl hz) (fun _ => ?_)
    refine Wh.iconst kn23 X32 at_231 (1 : Int32) rfl 232 rfl ?_
    refine Wh.goto kn23 X32 at_232 (by decide) 236 (by decide) ?_
    exact Wh.ret_bool kn23 X32 S23 (Nat.le_trans hk23 (Nat.le_of_eq (congrArg (fun hh : Heap => hh.size) e32).symm)) rfl at_236 (by decide) (by decide) (by decide) ⟨rfl, N23⟩
  · exact absurd (own_kk hk1 hc181 hk2) hkq
set_option maxRecDepth 65536 in
set_option maxHeartbeats 40000000 in
theorem law_132 {p : Program} {l : Launch} {e : Env} {s0 : State} {kz0 : Nat} {m : MethodId} {args : Array Value} {below : List Frame} {meth : Method} {c : Code} {Z : State} {a0 : Array Value} {h0 : Heap} {n0 : Nat} {T0 : State} (hw : ∀ d ∈ tables_1, d.before a0 Z = true) (k : Wk.K p (s0.setVm s0.vm) m meth c Z x code maxLocals ret) (X0 : Stand p l e room_1 (s0.setVm s0.vm) m args below meth c T0 [] 0 0) (p0 p1 p2 p3 k1I k2I a0c a1c b0c b1c : Int32) (kk : Nat) (A : Nat → Addr) (cz : Int32) (hcz : ¬ cz = 0) (Z0 : n0 ≤ h0.size) (O0 : Old Z n0 h0) (S0 : Sta Z Z.heap "java/lang/String" "COMPACT_STRINGS" "Z" (.int cz)) (SK : own_SK Z Z.heap A) (ha0 : 0 ≤ a0c.toInt ∧ a0c.toInt ≤ 255) (ha1 : 0 ≤ a1c.toInt ∧ a1c.toInt ≤ 255) (hb0 : 0 ≤ b0c.toInt ∧ b0c.toInt ≤ 255) (hb1 : 0 ≤ b1c.toInt ∧ b1c.toInt ≤ 255) (hk1 : k1I.toInt = (kk : Int)) (h10 : kk < 10) (l1I l2I : Int32) (e0 : T0.heap = h0) (S0' : s0.Since s0.vm kz0) (hk0 : kz0 ≤ h0.size) (P0 : CHv Z own_EL s0.vm h0) (hl1 : l1I = 0 ∨ l1I = 1 ∨ l1I = 2) (hl2 : l2I = 0 ∨ l2I = 1 ∨ l2I = 2) (hA : ∀ i j, i < 10 → j < 10 → A i = A j → i = j) (kq : Nat) (hk2 : k2I.toInt = (kq : Int)) (h10q : kq < 10) : Wh.Ends p e s0 below room_1 ((fun (_ : Vm) v (_ : Vm) (_ : Heap) L => v = some (.int 1) ∧ Fr n0 L) s0.vm) T0 (mkF m 132 #[.val (.int p0), .val (.int p1), .val (.int p2), .val (.int p3), .val (.int k1I), .val (.int k2I), .val (.int l1I), .val (.int a0c), .val (.int a1c), .val (.int l2I), .val (.int b0c), .val (.int b1c), .unset, .unset, .unset] []) := by
  rcases hl1 with rfl | rfl | rfl
  · rcases hl2 with rfl | rfl | rfl
    · by_cases hq : kk = kq
      · subst hq
        exact law_00S hw k X0 p0 p1 p2 p3 k1I k2I a0c a1c b0c b1c e0 S0' hk0 P0 kk A cz hcz Z0 O0 S0 SK ha0 ha1 hb0 hb1 hk1 h10 hk2
      · exact law_00D hw k X0 p0 p1 p2 p3 k1I k2I a0c a1c b0c b1c e0 S0' hk0 P0 kk A cz hcz Z0 O0 S0 SK ha0 ha1 hb0 hb1 hk1 h10 kq hk2 h10q hq (fun z => hq (hA kk kq h10 h10q z))
    · by_cases hq : kk = kq
      · subst hq
        exact law_01S hw k X0 p0 p1 p2 p3 k1I k2I a0c a1c b0c b1c e0 S0' hk0 P0 kk A cz hcz Z0 O0 S0 SK ha0 ha1 hb0 hb1 hk1 h10 hk2
      · exact law_01D hw k X0 p0 p1 p2 p3 k1I k2I a0c a1c b0c b1c e0 S0' hk0 P0 kk A cz hcz Z0 O0 S0 SK ha0 ha1 hb0 hb1 hk1 h10 kq hk2 h10q hq (fun z => hq (hA kk kq h10 h10q z))
    · by_cases hq : kk = kq
      · subst hq
        exact law_02S hw k X0 p0 p1 p2 p3 k1I k2I a0c a1c b0c b1c e0 S0' hk0 P0 kk A cz hcz Z0 O0 S0 SK ha0 ha1 hb0 hb1 hk1 h10 hk2
      · exact law_02D hw k X0 p0 p1 p2 p3 k1I k2I a0c a1c b0c b1c e0 S0' hk0 P0 kk A cz hcz Z0 O0 S0 SK ha0 ha1 hb0 hb1 hk1 h10 kq hk2 h10q hq (fun z => hq (hA kk kq h10 h10q z))
  · rcases hl2 with rfl | rfl | rfl
    · by_cases hq : kk = kq
      · subst hq
        exact law_10S hw k X0 p0 p1 p2 p3 k1I k2I a0c a1c b0c b1c e0 S0' hk0 P0 kk A cz hcz Z0 O0 S0 SK ha0 ha1 hb0 hb1 hk1 h10 hk2
      · exact law_10D hw k X0 p0 p1 p2 p3 k1I k2I a0c a1c b0c b1c e0 S0' hk0 P0 kk A cz hcz Z0 O0 S0 SK ha0 ha1 hb0 hb1 hk1 h10 kq hk2 h10q hq (fun z => hq (hA kk kq h10 h10q z))
    · by_cases hq : kk = kq
      · subst hq
        exact law_11S hw k X0 p0 p1 p2 p3 k1I k2I a0c a1c b0c b1c e0 S0' hk0 P0 kk A cz hcz Z0 O0 S0 SK ha0 ha1 hb0 hb1 hk1 h10 hk2
      · exact law_11D hw k X0 p0 p1 p2 p3 k1I k2I a0c a1c b0c b1c e0 S0' hk0 P0 kk A cz hcz Z0 O0 S0 SK ha0 ha1 hb0 hb1 hk1 h10 kq hk2 h10q hq (fun z => hq (hA kk kq h10 h10q z))
    · by_cases hq : kk = kq
      · subst hq
        exact law_12S hw k X0 p0 p1 p2 p3 k1I k2I a0c a1c b0c b1c e0 S0' hk0 P0 kk A cz hcz Z0 O0 S0 SK ha0 ha1 hb0 hb1 hk1 h10 hk2
      · exact law_12D hw k X0 p0 p1 p2 p3 k1I k2I a0c a1c b0c b1c e0 S0' hk0 P0 kk A cz hcz Z0 O0 S0 SK ha0 ha1 hb0 hb1 hk1 h10 kq hk2 h10q hq (fun z => hq (hA kk kq h10 h10q z))
  · rcases hl2 with rfl | rfl | rfl
    · by_cases hq : kk = kq
      · subst hq
        exact law_20S hw k X0 p0 p1 p2 p3 k1I k2I a0c a1c b0c b1c e0 S0' hk0 P0 kk A cz hcz Z0 O0 S0 SK ha0 ha1 hb0 hb1 hk1 h10 hk2
      · exact law_20D hw k X0 p0 p1 p2 p3 k1I k2I a0c a1c b0c b1c e0 S0' hk0 P0 kk A cz hcz Z0 O0 S0 SK ha0 ha1 hb0 hb1 hk1 h10 kq hk2 h10q hq (fun z => hq (hA kk kq h10 h10q z))
    · by_cases hq : kk = kq
      · subst hq
        exact law_21S hw k X0 p0 p1 p2 p3 k1I k2I a0c a1c b0c b1c e0 S0' hk0 P0 kk A cz hcz Z0 O0 S0 SK ha0 ha1 hb0 hb1 hk1 h10 hk2
      · exact law_21D hw k X0 p0 p1 p2 p3 k1I k2I a0c a1c b0c b1c e0 S0' hk0 P0 kk A cz hcz Z0 O0 S0 SK ha0 ha1 hb0 hb1 hk1 h10 kq hk2 h10q hq (fun z => hq (hA kk kq h10 h10q z))
    · by_cases hq : kk = kq
      · subst hq
        exact law_22S hw k X0 p0 p1 p2 p3 k1I k2I a0c a1c b0c b1c e0 S0' hk0 P0 kk A cz hcz Z0 O0 S0 SK ha0 ha1 hb0 hb1 hk1 h10 hk2
      · exact law_22D hw k X0 p0 p1 p2 p3 k1I k2I a0c a1c b0c b1c e0 S0' hk0 P0 kk A cz hcz Z0 O0 S0 SK ha0 ha1 hb0 hb1 hk1 h10 kq hk2 h10q hq (fun z => hq (hA kk kq h10 h10q z))
theorem ef_law (m : MethodId) (p0 p1 p2 p3 : Int32) : entryFrame m #[(.int p0), (.int p1), (.int p2), (.int p3)] maxLocals = mkF m 0 #[.val (.int p0), .val (.int p1), .val (.int p2), .val (.int p3), .unset, .unset, .unset, .unset, .unset, .unset, .unset, .unset, .unset, .unset, .unset] [] := by first | (simp [entryFrame, mkF, argsToLocals, Value.category, maxLocals]; done) | rfl
set_option maxRecDepth 65536 in
set_option maxHeartbeats 40000000 in
theorem rm0 (l : Launch) (Z : State) (a0 : Array Value) (hw : ∀ d ∈ tables_1, d.before a0 Z = true) (ws : List Jvm.Cond) (p0 p1 p2 p3 : Int32) (h0 : Heap) (n0 : Nat) (Z0 : n0 ≤ h0.size) (hx0 : Old Z n0 h0 ∧ ∃ cz : Int32, ¬ cz = 0 ∧ Sta Z Z.heap "java/lang/String" "COMPACT_STRINGS" "Z" (.int cz) ∧ ∃ A : Nat → Addr, own_SK Z Z.heap A ∧ ∀ i j, i < 10 → j < 10 → A i = A j → i = j) : Wh.Met l x code maxLocals ret room_1 #[(.int p0), (.int p1), (.int p2), (.int p3)] Z h0 (fun vm => CHv Z own_EL vm h0) (fun (_ : Vm) v (_ : Vm) (_ : Heap) L => v = some (.int 1) ∧ Fr n0 L) ws := by
  obtain ⟨O0, cz, hcz, S0, A, SK, hA⟩ := hx0
  refine Wh.enter pn_TokenIsPinLaw_law (fun p e s0 kz0 m below meth c T0 k X0 e0 S0' hk0 P0 => ?_)
  refine (Wh.Ends.cast (ef_law m p0 p1 p2 p3) ?_)
  refine Wh.iload_n k X0 at_0 rfl 1 rfl ?_
  refine Wh.bipush k X0 at_1 (15 : Int32) rfl 3 rfl ?_
  refine Wh.iand k X0 at_3 4 rfl ?_
  refine Wh.bipush k X0 at_4 (10 : Int32) rfl 6 rfl ?_
  refine Wh.irem k X0 at_6 (by decide) 7 rfl ?_
  refine Wh.istore k X0 at_7 #[.val (.int p0), .val (.int p1), .val (.int p2), .val (.int p3), .val (.int ((p0 &&& (15 : Int32)) % (10 : Int32))), .unset, .unset, .unset, .unset, .unset, .unset, .unset, .unset, .unset, .unset] rfl 9 rfl ?_
  refine Wh.iload_n k X0 at_9 rfl 10 rfl ?_
  refine Wh.iconst k X0 at_10 (4 : Int32) rfl 11 rfl ?_
  refine Wh.iushr k X0 at_11 12 rfl ?_
  refine Wh.bipush k X0 at_12 (15 : Int32) rfl 14 rfl ?_
  refine Wh.iand k X0 at_14 15 rfl ?_
  refine Wh.bipush k X0 at_15 (10 : Int32) rfl 17 rfl ?_
  refine Wh.irem k X0 at_17 (by decide) 18 rfl ?_
  refine Wh.istore k X0 at_18 #[.val (.int p0), .val (.int p1), .val (.int p2), .val (.int p3), .val (.int ((p0 &&& (15 : Int32)) % (10 : Int32))), .val (.int (((((p0).toUInt32 >>> ((4 : Int32) &&& 31).toUInt32).toInt32) &&& (15 : Int32)) % (10 : Int32))), .unset, .unset, .unset, .unset, .unset, .unset, .unset, .unset, .unset] rfl 20 rfl ?_
  refine Wh.iload_n k X0 at_20 rfl 21 rfl ?_
  refine Wh.bipush k X0 at_21 (8 : Int32) rfl 23 rfl ?_
  refine Wh.iushr k X0 at_23 24 rfl ?_
  refine Wh.iconst k X0 at_24 (1 : Int32) rfl 25 rfl ?_
  refine Wh.iand k X0 at_25 26 rfl ?_
  refine Wh.if_eq k X0 at_26 (by decide) 33 29 (by decide) rfl (fun hc26 => ?_) (fun hc26 => ?_)
  · refine Wh.iload_n k X0 at_33 rfl 34 rfl ?_
    refine Wh.bipush k X0 at_34 (16 : Int32) rfl 36 rfl ?_
    refine Wh.iushr k X0 at_36 37 rfl ?_
    refine Wh.iconst k X0 at_37 (3 : Int32) rfl 38 rfl ?_
    refine Wh.iand k X0 at_38 39 rfl ?_
    refine Wh.iconst k X0 at_39 (3 : Int32) rfl 40 rfl ?_
    refine Wh.irem k X0 at_40 (by decide) 41 rfl ?_
    refine Wh.istore k X0 at_41 #[.val (.int p0), .val (.int p1), .val (.int p2), .val (.int p3), .val (.int ((p0 &&& (15 : Int32)) % (10 : Int32))), .val (.int (((((p0).toUInt32 >>> ((4 : Int32) &&& 31).toUInt32).toInt32) &&& (15 : Int32)) % (10 : Int32))), .val (.int (((((p1).toUInt32 >>> ((16 : Int32) &&& 31).toUInt32).toInt32) &&& (3 : Int32)) % (3 : Int32))), .unset, .unset, .unset, .unset, .unset, .unset, .unset, .unset] rfl 43 rfl ?_
    refine Wh.iload_n k X0 at_43 rfl 44 rfl ?_
    refine Wh.sipush k X0 at_44 (255 : Int32) rfl 47 rfl ?_
    refine Wh.iand k X0 at_47 48 rfl ?_
    refine Wh.i2c k X0 at_48 49 rfl ?_
    refine Wh.istore k X0 at_49 #[.val (.int p0), .val (.int p1), .val (.int p2), .val (.int p3), .val (.int ((p0 &&& (15 : Int32)) % (10 : Int32))), .val (.int (((((p0).toUInt32 >>> ((4 : Int32) &&& 31).toUInt32).toInt32) &&& (15 : Int32)) % (10 : Int32))), .val (.int (((((p1).toUInt32 >>> ((16 : Int32) &&& 31).toUInt32).toInt32) &&& (3 : Int32)) % (3 : Int32))), .val (.int (((p1 &&& (255 : Int32))).toUInt32.toUInt16.toUInt32.toInt32)), .unset, .unset, .unset, .unset, .unset, .unset, .unset] rfl 51 rfl ?_
    refine Wh.iload_n k X0 at_51 rfl 52 rfl ?_
    refine Wh.bipush k X0 at_52 (8 : Int32) rfl 54 rfl ?_
    refine Wh.iushr k X0 at_54 55 rfl ?_
    refine Wh.sipush k X0 at_55 (255 : Int32) rfl 58 rfl ?_
    refine Wh.iand k X0 at_58 59 rfl ?_
    refine Wh.i2c k X0 at_59 60 rfl ?_
    refine Wh.istore k X0 at_60 #[.val (.int p0), .val (.int p1), .val (.int p2), .val (.int p3), .val (.int ((p0 &&& (15 : Int32)) % (10 : Int32))), .val (.int (((((p0).toUInt32 >>> ((4 : Int32) &&& 31).toUInt32).toInt32) &&& (15 : Int32)) % (10 : Int32))), .val (.int (((((p1).toUInt32 >>> ((16 : Int32) &&& 31).toUInt32).toInt32) &&& (3 : Int32)) % (3 : Int32))), .val (.int (((p1 &&& (255 : Int32))).toUInt32.toUInt16.toUInt32.toInt32)), .val (.int ((((((p1).toUInt32 >>> ((8 : Int32) &&& 31).toUInt32).toInt32) &&& (255 : Int32))).toUInt32.toUInt16.toUInt32.toInt32)), .unset, .unset, .unset, .unset, .unset, .unset] rfl 62 rfl ?_
    refine Wh.iload_n k X0 at_62 rfl 63 rfl ?_
    refine Wh.bipush k X0 at_63 (16 : Int32) rfl 65 rfl ?_
    refine Wh.iushr k X0 at_65 66 rfl ?_
    refine Wh.iconst k X0 at_66 (3 : Int32) rfl 67 rfl ?_
    refine Wh.iand k X0 at_67 68 rfl ?_
    refine Wh.iconst k X0 at_68 (3 : Int32) rfl 69 rfl ?_
    refine Wh.irem k X0 at_69 (by decide) 70 rfl ?_
    refine Wh.istore k X0 at_70 #[.val (.int p0), .val (.int p1), .val (.int p2), .val (.int p3), .val (.int ((p0 &&& (15 : Int32)) % (10 : Int32))), .val (.int (((((p0).toUInt32 >>> ((4 : Int32) &&& 31).toUInt32).toInt32) &&& (15 : Int32)) % (10 : Int32))), .val (.int (((((p1).toUInt32 >>> ((16 : Int32) &&& 31).toUInt32).toInt32) &&& (3 : Int32)) % (3 : Int32))), .val (.int (((p1 &&& (255 : Int32))).toUInt32.toUInt16.toUInt32.toInt32)), .val (.int ((((((p1).toUInt32 >>> ((8 : Int32) &&& 31).toUInt32).toInt32) &&& (255 : Int32))).toUInt32.toUInt16.toUInt32.toInt32)), .val (.int (((((p2).toUInt32 >>> ((16 : Int32) &&& 31).toUInt32).toInt32) &&& (3 : Int32)) % (3 : Int32))), .unset, .unset, .unset, .unset, .unset] rfl 72 rfl ?_
    refine Wh.iload_n k X0 at_72 rfl 73 rfl ?_
    refine Wh.bipush k X0 at_73 (18 : Int32) rfl 75 rfl ?_
    refine Wh.iushr k X0 at_75 76 rfl ?_
    refine Wh.iconst k X0 at_76 (1 : Int32) rfl 77 rfl ?_
    refine Wh.iand k X0 at_77 78 rfl ?_
    refine Wh.if_eq k X0 at_78 (by decide) 85 81 (by decide) rfl (fun hc78 => ?_) (fun hc78 => ?_)
    · refine Wh.iload_n k X0 at_85 rfl 86 rfl ?_
      refine Wh.bipush k X0 at_86 (19 : Int32) rfl 88 rfl ?_
      refine Wh.iushr k X0 at_88 89 rfl ?_
      refine Wh.iconst k X0 at_89 (1 : Int32) rfl 90 rfl ?_
      refine Wh.iand k X0 at_90 91 rfl ?_
      refine Wh.if_eq k X0 at_91 (by decide) 99 94 (by decide) rfl (fun hc91 => ?_) (fun hc91 => ?_)
      · refine Wh.iload_n k X0 at_99 rfl 100 rfl ?_
        refine Wh.sipush k X0 at_100 (255 : Int32) rfl 103 rfl ?_
        refine Wh.iand k X0 at_103 104 rfl ?_
        refine Wh.i2c k X0 at_104 105 rfl ?_
        refine Wh.istore k X0 at_105 #[.val (.int p0), .val (.int p1), .val (.int p2), .val (.int p3), .val (.int ((p0 &&& (15 : Int32)) % (10 : Int32))), .val (.int (((((p0).toUInt32 >>> ((4 : Int32) &&& 31).toUInt32).toInt32) &&& (15 : Int32)) % (10 : Int32))), .val (.int (((((p1).toUInt32 >>> ((16 : Int32) &&& 31).toUInt32).toInt32) &&& (3 : Int32)) % (3 : Int32))), .val (.int (((p1 &&& (255 : Int32))).toUInt32.toUInt16.toUInt32.toInt32)), .val (.int ((((((p1).toUInt32 >>> ((8 : Int32) &&& 31).toUInt32).toInt32) &&& (255 : Int32))).toUInt32.toUInt16.toUInt32.toInt32)), .val (.int (((((p2).toUInt32 >>> ((16 : Int32) &&& 31).toUInt32).toInt32) &&& (3 : Int32)) % (3 : Int32))), .val (.int (((p2 &&& (255 : Int32))).toUInt32.toUInt16.toUInt32.toInt32)), .unset, .unset, .unset, .unset] rfl 107 rfl ?_
        refine Wh.iload_n k X0 at_107 rfl 108 rfl ?_
        refine Wh.bipush k X0 at_108 (20 : Int32) rfl 110 rfl ?_
        refine Wh.iushr k X0 at_110 111 rfl ?_
        refine Wh.iconst k X0 at_111 (1 : Int32) rfl 112 rfl ?_
        refine Wh.iand k X0 at_112 113 rfl ?_
        refine Wh.if_eq k X0 at_113 (by decide) 121 116 (by decide) rfl (fun hc113 => ?_) (fun hc113 => ?_)
        · refine Wh.iload_n k X0 at_121 rfl 122 rfl ?_
          refine Wh.bipush k X0 at_122 (8 : Int32) rfl 124 rfl ?_
          refine Wh.iushr k X0 at_124 125 rfl ?_
          refine Wh.sipush k X0 at_125 (255 : Int32) rfl 128 rfl ?_
          refine Wh.iand k X0 at_128 129 rfl ?_
          refine Wh.i2c k X0 at_129 130 rfl ?_
          refine Wh.istore k X0 at_130 #[.val (.int p0), .val (.int p1), .val (.int p2), .val (.int p3), .val (.int ((p0 &&& (15 : Int32)) % (10 : Int32))), .val (.int (((((p0).toUInt32 >>> ((4 : Int32) &&& 31).toUInt32).toInt32) &&& (15 : Int32)) % (10 : Int32))), .val (.int (((((p1).toUInt32 >>> ((16 : Int32) &&& 31).toUInt32).toInt32) &&& (3 : Int32)) % (3 : Int32))), .val (.int (((p1 &&& (255 : Int32))).toUInt32.toUInt16.toUInt32.toInt32)), .val (.int ((((((p1).toUInt32 >>> ((8 : Int32) &&& 31).toUInt32).toInt32) &&& (255 : Int32))).toUInt32.toUInt16.toUInt32.toInt32)), .val (.int (((((p2).toUInt32 >>> ((16 : Int32) &&& 31).toUInt32).toInt32) &&& (3 : Int32)) % (3 : Int32))), .val (.int (((p2 &&& (255 : Int32))).toUInt32.toUInt16.toUInt32.toInt32)), .val (.int ((((((p2).toUInt32 >>> ((8 : Int32) &&& 31).toUInt32).toInt32) &&& (255 : Int32))).toUInt32.toUInt16.toUInt32.toInt32)), .unset, .unset, .unset] rfl 132 rfl ?_
          obtain ⟨kk, hk1, h10⟩ := own_rem10 p0
          obtain ⟨kq, hk2, h10q⟩ := own_rem10 (p0.toUInt32 >>> ((4 : Int32) &&& 31).toUInt32).toInt32
          exact law_132 hw k X0 p0 p1 p2 p3 _ _ _ _ _ _ kk A cz hcz Z0 O0 S0 SK (own_chr _) (own_chr _) (own_chr _) (own_chr _) hk1 h10 _ _ e0 S0' hk0 P0 (own_rem3 _) (own_rem3 _) hA kq hk2 h10q
        · refine Wh.iload k X0 at_116 rfl 118 rfl ?_
          refine Wh.goto k X0 at_118 (by decide) 130 (by decide) ?_
          refine Wh.istore k X0 at_130 #[.val (.int p0), .val (.int p1), .val (.int p2), .val (.int p3), .val (.int ((p0 &&& (15 : Int32)) % (10 : Int32))), .val (.int (((((p0).toUInt32 >>> ((4 : Int32) &&& 31).toUInt32).toInt32) &&& (15 : Int32)) % (10 : Int32))), .val (.int (((((p1).toUInt32 >>> ((16 : Int32) &&& 31).toUInt32).toInt32) &&& (3 : Int32)) % (3 : Int32))), .val (.int (((p1 &&& (255 : Int32))).toUInt32.toUInt16.toUInt32.toInt32)), .val (.int ((((((p1).toUInt32 >>> ((8 : Int32) &&& 31).toUInt32).toInt32) &&& (255 : Int32))).toUInt32.toUInt16.toUInt32.toInt32)), .val (.int (((((p2).toUInt32 >>> ((16 : Int32) &&& 31).toUInt32).toInt32) &&& (3 : Int32)) % (3 : Int32))), .val (.int (((p2 &&& (255 : Int32))).toUInt32.toUInt16.toUInt32.toInt32)), .val (.int ((((((p1).toUInt32 >>> ((8 : Int32) &&& 31).toUInt32).toInt32) &&& (255 : Int32))).toUInt32.toUInt16.toUInt32.toInt32)), .unset, .unset, .unset] rfl 132 rfl ?_
          obtain ⟨kk, hk1, h10⟩ := own_rem10 p0
          obtain ⟨kq, hk2, h10q⟩ := own_rem10 (p0.toUInt32 >>> ((4 : Int32) &&& 31).toUInt32).toInt32
          exact law_132 hw k X0 p0 p1 p2 p3 _ _ _ _ _ _ kk A cz hcz Z0 O0 S0 SK (own_chr _) (own_chr _) (own_chr _) (own_chr _) hk1 h10 _ _ e0 S0' hk0 P0 (own_rem3 _) (own_rem3 _) hA kq hk2 h10q
      · refine Wh.iload k X0 at_94 rfl 96 rfl ?_
        refine Wh.goto k X0 at_96 (by decide) 105 (by decide) ?_
        refine Wh.istore k X0 at_105 #[.val (.int p0), .val (.int p1), .val (.int p2), .val (.int p3), .val (.int ((p0 &&& (15 : Int32)) % (10 : Int32))), .val (.int (((((p0).toUInt32 >>> ((4 : Int32) &&& 31).toUInt32).toInt32) &&& (15 : Int32)) % (10 : Int32))), .val (.int (((((p1).toUInt32 >>> ((16 : Int32) &&& 31).toUInt32).toInt32) &&& (3 : Int32)) % (3 : Int32))), .val (.int (((p1 &&& (255 : Int32))).toUInt32.toUInt16.toUInt32.toInt32)), .val (.int ((((((p1).toUInt32 >>> ((8 : Int32) &&& 31).toUInt32).toInt32) &&& (255 : Int32))).toUInt32.toUInt16.toUInt32.toInt32)), .val (.int (((((p2).toUInt32 >>> ((16 : Int32) &&& 31).toUInt32).toInt32) &&& (3 : Int32)) % (3 : Int32))), .val (.int (((p1 &&& (255 : Int32))).toUInt32.toUInt16.toUInt32.toInt32)), .unset, .unset, .unset, .unset] rfl 107 rfl ?_
        refine Wh.iload_n k X0 at_107 rfl 108 rfl ?_
        refine Wh.bipush k X0 at_108 (20 : Int32) rfl 110 rfl ?_
        refine Wh.iushr k X0 at_110 111 rfl ?_
        refine Wh.iconst k X0 at_111 (1 : Int32) rfl 112 rfl ?_
        refine Wh.iand k X0 at_112 113 rfl ?_
        refine Wh.if_eq k X0 at_113 (by decide) 121 116 (by decide) rfl (fun hc113 => ?_) (fun hc113 => ?_)
        · refine Wh.iload_n k X0 at_121 rfl 122 rfl ?_
          refine Wh.bipush k X0 at_122 (8 : Int32) rfl 124 rfl ?_
          refine Wh.iushr k X0 at_124 125 rfl ?_
          refine Wh.sipush k X0 at_125 (255 : Int32) rfl 128 rfl ?_
          refine Wh.iand k X0 at_128 129 rfl ?_
          refine Wh.i2c k X0 at_129 130 rfl ?_
          refine Wh.istore k X0 at_130 #[.val (.int p0), .val (.int p1), .val (.int p2), .val (.int p3), .val (.int ((p0 &&& (15 : Int32)) % (10 : Int32))), .val (.int (((((p0).toUInt32 >>> ((4 : Int32) &&& 31).toUInt32).toInt32) &&& (15 : Int32)) % (10 : Int32))), .val (.int (((((p1).toUInt32 >>> ((16 : Int32) &&& 31).toUInt32).toInt32) &&& (3 : Int32)) % (3 : Int32))), .val (.int (((p1 &&& (255 : Int32))).toUInt32.toUInt16.toUInt32.toInt32)), .val (.int ((((((p1).toUInt32 >>> ((8 : Int32) &&& 31).toUInt32).toInt32) &&& (255 : Int32))).toUInt32.toUInt16.toUInt32.toInt32)), .val (.int (((((p2).toUInt32 >>> ((16 : Int32) &&& 31).toUInt32).toInt32) &&& (3 : Int32)) % (3 : Int32))), .val (.int (((p1 &&& (255 : Int32))).toUInt32.toUInt16.toUInt32.toInt32)), .val (.int ((((((p2).toUInt32 >>> ((8 : Int32) &&& 31).toUInt32).toInt32) &&& (255 : Int32))).toUInt32.toUInt16.toUInt32.toInt32)), .unset, .unset, .unset] rfl 132 rfl ?_
          obtain ⟨kk, hk1, h10⟩ := own_rem10 p0
          obtain ⟨kq, hk2, h10q⟩ := own_rem10 (p0.toUInt32 >>> ((4 : Int32) &&& 31).toUInt32).toInt32
          exact law_132 hw k X0 p0 p1 p2 p3 _ _ _ _ _ _ kk A cz hcz Z0 O0 S0 SK (own_chr _) (own_chr _) (own_chr _) (own_chr _) hk1 h10 _ _ e0 S0' hk0 P0 (own_rem3 _) (own_rem3 _) hA kq hk2 h10q
        · refine Wh.iload k X0 at_116 rfl 118 rfl ?_
          refine Wh.goto k X0 at_118 (by decide) 130 (by decide) ?_
          refine Wh.istore k X0 at_130 #[.val (.int p0), .val (.int p1), .val (.int p2), .val (.int p3), .val (.int ((p0 &&& (15 : Int32)) % (10 : Int32))), .val (.int (((((p0).toUInt32 >>> ((4 : Int32) &&& 31).toUInt32).toInt32) &&& (15 : Int32)) % (10 : Int32))), .val (.int (((((p1).toUInt32 >>> ((16 : Int32) &&& 31).toUInt32).toInt32) &&& (3 : Int32)) % (3 : Int32))), .val (.int (((p1 &&& (255 : Int32))).toUInt32.toUInt16.toUInt32.toInt32)), .val (.int ((((((p1).toUInt32 >>> ((8 : Int32) &&& 31).toUInt32).toInt32) &&& (255 : Int32))).toUInt32.toUInt16.toUInt32.toInt32)), .val (.int (((((p2).toUInt32 >>> ((16 : Int32) &&& 31).toUInt32).toInt32) &&& (3 : Int32)) % (3 : Int32))), .val (.int (((p1 &&& (255 : Int32))).toUInt32.toUInt16.toUInt32.toInt32)), .val (.int ((((((p1).toUInt32 >>> ((8 : Int32) &&& 31).toUInt32).toInt32) &&& (255 : Int32))).toUInt32.toUInt16.toUInt32.toInt32)), .unset, .unset, .unset] rfl 132 rfl ?_
          obtain ⟨kk, hk1, h10⟩ := own_rem10 p0
          obtain ⟨kq, hk2, h10q⟩ := own_rem10 (p0.toUInt32 >>> ((4 : Int32) &&& 31).toUInt32).toInt32
          exact law_132 hw k X0 p0 p1 p2 p3 _ _ _ _ _ _ kk A cz hcz Z0 O0 S0 SK (own_chr _) (own_chr _) (own_chr _) (own_chr _) hk1 h10 _ _ e0 S0' hk0 P0 (own_rem3 _) (own_rem3 _) hA kq hk2 h10q
    · refine Wh.iload k X0 at_81 rfl 83 rfl ?_
      refine Wh.istore k X0 at_83 #[.val (.int p0), .val (.int p1), .val (.int p2), .val (.int p3), .val (.int ((p0 &&& (15 : Int32)) % (10 : Int32))), .val (.int (((((p0).toUInt32 >>> ((4 : Int32) &&& 31).toUInt32).toInt32) &&& (15 : Int32)) % (10 : Int32))), .val (.int (((((p1).toUInt32 >>> ((16 : Int32) &&& 31).toUInt32).toInt32) &&& (3 : Int32)) % (3 : Int32))), .val (.int (((p1 &&& (255 : Int32))).toUInt32.toUInt16.toUInt32.toInt32)), .val (.int ((((((p1).toUInt32 >>> ((8 : Int32) &&& 31).toUInt32).toInt32) &&& (255 : Int32))).toUInt32.toUInt16.toUInt32.toInt32)), .val (.int (((((p1).toUInt32 >>> ((16 : Int32) &&& 31).toUInt32).toInt32) &&& (3 : Int32)) % (3 : Int32))), .unset, .unset, .unset, .unset, .unset] rfl 85 rfl ?_
      refine Wh.iload_n k X0 at_85 rfl 86 rfl ?_
      refine Wh.bipush k X0 at_86 (19 : Int32) rfl 88 rfl ?_
      refine Wh.iushr k X0 at_88 89 rfl ?_
      refine Wh.iconst k X0 at_89 (1 : Int32) rfl 90 rfl ?_
      refine Wh.iand k X0 at_90 91 rfl ?_
      refine Wh.if_eq k X0 at_91 (by decide) 99 94 (by decide) rfl (fun hc91 => ?_) (fun hc91 => ?_)
      · refine Wh.iload_n k X0 at_99 rfl 100 rfl ?_
        refine Wh.sipush k X0 at_100 (255 : Int32) rfl 103 rfl ?_
        refine Wh.iand k X0 at_103 104 rfl ?_
        refine Wh.i2c k X0 at_104 105 rfl ?_
        refine Wh.istore k X0 at_105 #[.val (.int p0), .val (.int p1), .val (.int p2), .val (.int p3), .val (.int ((p0 &&& (15 : Int32)) % (10 : Int32))), .val (.int (((((p0).toUInt32 >>> ((4 : Int32) &&& 31).toUInt32).toInt32) &&& (15 : Int32)) % (10 : Int32))), .val (.int (((((p1).toUInt32 >>> ((16 : Int32) &&& 31).toUInt32).toInt32) &&& (3 : Int32)) % (3 : Int32))), .val (.int (((p1 &&& (255 : Int32))).toUInt32.toUInt16.toUInt32.toInt32)), .val (.int ((((((p1).toUInt32 >>> ((8 : Int32) &&& 31).toUInt32).toInt32) &&& (255 : Int32))).toUInt32.toUInt16.toUInt32.toInt32)), .val (.int (((((p1).toUInt32 >>> ((16 : Int32) &&& 31).toUInt32).toInt32) &&& (3 : Int32)) % (3 : Int32))), .val (.int (((p2 &&& (255 : Int32))).toUInt32.toUInt16.toUInt32.toInt32)), .unset, .unset, .unset, .unset] rfl 107 rfl ?_
        refine Wh.iload_n k X0 at_107 rfl 108 rfl ?_
        refine Wh.bipush k X0 at_108 (20 : Int32) rfl 110 rfl ?_
        refine Wh.iushr k X0 at_110 111 rfl ?_
        refine Wh.iconst k X0 at_111 (1 : Int32) rfl 112 rfl ?_
        refine Wh.iand k X0 at_112 113 rfl ?_
        refine Wh.if_eq k X0 at_113 (by decide) 121 116 (by decide) rfl (fun hc113 => ?_) (fun hc113 => ?_)
        · refine Wh.iload_n k X0 at_121 rfl 122 rfl ?_
          refine Wh.bipush k X0 at_122 (8 : Int32) rfl 124 rfl ?_
          refine Wh.iushr k X0 at_124 125 rfl ?_
          refine Wh.sipush k X0 at_125 (255 : Int32) rfl 128 rfl ?_
          refine Wh.iand k X0 at_128 129 rfl ?_
          refine Wh.i2c k X0 at_129 130 rfl ?_
          refine Wh.istore k X0 at_130 #[.val (.int p0), .val (.int p1), .val (.int p2), .val (.int p3), .val (.int ((p0 &&& (15 : Int32)) % (10 : Int32))), .val (.int (((((p0).toUInt32 >>> ((4 : Int32) &&& 31).toUInt32).toInt32) &&& (15 : Int32)) % (10 : Int32))), .val (.int (((((p1).toUInt32 >>> ((16 : Int32) &&& 31).toUInt32).toInt32) &&& (3 : Int32)) % (3 : Int32))), .val (.int (((p1 &&& (255 : Int32))).toUInt32.toUInt16.toUInt32.toInt32)), .val (.int ((((((p1).toUInt32 >>> ((8 : Int32) &&& 31).toUInt32).toInt32) &&& (255 : Int32))).toUInt32.toUInt16.toUInt32.toInt32)), .val (.int (((((p1).toUInt32 >>> ((16 : Int32) &&& 31).toUInt32).toInt32) &&& (3 : Int32)) % (3 : Int32))), .val (.int (((p2 &&& (255 : Int32))).toUInt32.toUInt16.toUInt32.toInt32)), .val (.int ((((((p2).toUInt32 >>> ((8 : Int32) &&& 31).toUInt32).toInt32) &&& (255 : Int32))).toUInt32.toUInt16.toUInt32.toInt32)), .unset, .unset, .unset] rfl 132 rfl ?_
          obtain ⟨kk, hk1, h10⟩ := own_rem10 p0
          obtain ⟨kq, hk2, h10q⟩ := own_rem10 (p0.toUInt32 >>> ((4 : Int32) &&& 31).toUInt32).toInt32
          exact law_132 hw k X0 p0 p1 p2 p3 _ _ _ _ _ _ kk A cz hcz Z0 O0 S0 SK (own_chr _) (own_chr _) (own_chr _) (own_chr _) hk1 h10 _ _ e0 S0' hk0 P0 (own_rem3 _) (own_rem3 _) hA kq hk2 h10q
        · refine Wh.iload k X0 at_116 rfl 118 rfl ?_
          refine Wh.goto k X0 at_118 (by decide) 130 (by decide) ?_
          refine Wh.istore k X0 at_130 #[.val (.int p0), .val (.int p1), .val (.int p2), .val (.int p3), .val (.int ((p0 &&& (15 : Int32)) % (10 : Int32))), .val (.int (((((p0).toUInt32 >>> ((4 : Int32) &&& 31).toUInt32).toInt32) &&& (15 : Int32)) % (10 : Int32))), .val (.int (((((p1).toUInt32 >>> ((16 : Int32) &&& 31).toUInt32).toInt32) &&& (3 : Int32)) % (3 : Int32))), .val (.int (((p1 &&& (255 : Int32))).toUInt32.toUInt16.toUInt32.toInt32)), .val (.int ((((((p1).toUInt32 >>> ((8 : Int32) &&& 31).toUInt32).toInt32) &&& (255 : Int32))).toUInt32.toUInt16.toUInt32.toInt32)), .val (.int (((((p1).toUInt32 >>> ((16 : Int32) &&& 31).toUInt32).toInt32) &&& (3 : Int32)) % (3 : Int32))), .val (.int (((p2 &&& (255 : Int32))).toUInt32.toUInt16.toUInt32.toInt32)), .val (.int ((((((p1).toUInt32 >>> ((8 : Int32) &&& 31).toUInt32).toInt32) &&& (255 : Int32))).toUInt32.toUInt16.toUInt32.toInt32)), .unset, .unset, .unset] rfl 132 rfl ?_
          obtain ⟨kk, hk1, h10⟩ := own_rem10 p0
          obtain ⟨kq, hk2, h10q⟩ := own_rem10 (p0.toUInt32 >>> ((4 : Int32) &&& 31).toUInt32).toInt32
          exact law_132 hw k X0 p0 p1 p2 p3 _ _ _ _ _ _ kk A cz hcz Z0 O0 S0 SK (own_chr _) (own_chr _) (own_chr _) (own_chr _) hk1 h10 _ _ e0 S0' hk0 P0 (own_rem3 _) (own_rem3 _) hA kq hk2 h10q
      · refine Wh.iload k X0 at_94 rfl 96 rfl ?_
        refine Wh.goto k X0 at_96 (by decide) 105 (by decide) ?_
        refine Wh.istore k X0 at_105 #[.val (.int p0), .val (.int p1), .val (.int p2), .val (.int p3), .val (.int ((p0 &&& (15 : Int32)) % (10 : Int32))), .val (.int (((((p0).toUInt32 >>> ((4 : Int32) &&& 31).toUInt32).toInt32) &&& (15 : Int32)) % (10 : Int32))), .val (.int (((((p1).toUInt32 >>> ((16 : Int32) &&& 31).toUInt32).toInt32) &&& (3 : Int32)) % (3 : Int32))), .val (.int (((p1 &&& (255 : Int32))).toUInt32.toUInt16.toUInt32.toInt32)), .val (.int ((((((p1).toUInt32 >>> ((8 : Int32) &&& 31).toUInt32).toInt32) &&& (255 : Int32))).toUInt32.toUInt16.toUInt32.toInt32)), .val (.int (((((p1).toUInt32 >>> ((16 : Int32) &&& 31).toUInt32).toInt32) &&& (3 : Int32)) % (3 : Int32))), .val (.int (((p1 &&& (255 : Int32))).toUInt32.toUInt16.toUInt32.toInt32)), .unset, .unset, .unset, .unset] rfl 107 rfl ?_
        refine Wh.iload_n k X0 at_107 rfl 108 rfl ?_
        refine Wh.bipush k X0 at_108 (20 : Int32) rfl 110 rfl ?_
        refine Wh.iushr k X0 at_110 111 rfl ?_
        refine Wh.iconst k X0 at_111 (1 : Int32) rfl 112 rfl ?_
        refine Wh.iand k X0 at_112 113 rfl ?_
        refine Wh.if_eq k X0 at_113 (by decide) 121 116 (by decide) rfl (fun hc113 => ?_) (fun hc113 => ?_)
        · refine Wh.iload_n k X0 at_121 rfl 122 rfl ?_
          refine Wh.bipush k X0 at_122 (8 : Int32) rfl 124 rfl ?_
          refine Wh.iushr k X0 at_124 125 rfl ?_
          refine Wh.sipush k X0 at_125 (255 : Int32) rfl 128 rfl ?_
          refine Wh.iand k X0 at_128 129 rfl ?_
          refine Wh.i2c k X0 at_129 130 rfl ?_
          refine Wh.istore k X0 at_130 #[.val (.int p0), .val (.int p1), .val (.int p2), .val (.int p3), .val (.int ((p0 &&& (15 : Int32)) % (10 : Int32))), .val (.int (((((p0).toUInt32 >>> ((4 : Int32) &&& 31).toUInt32).toInt32) &&& (15 : Int32)) % (10 : Int32))), .val (.int (((((p1).toUInt32 >>> ((16 : Int32) &&& 31).toUInt32).toInt32) &&& (3 : Int32)) % (3 : Int32))), .val (.int (((p1 &&& (255 : Int32))).toUInt32.toUInt16.toUInt32.toInt32)), .val (.int ((((((p1).toUInt32 >>> ((8 : Int32) &&& 31).toUInt32).toInt32) &&& (255 : Int32))).toUInt32.toUInt16.toUInt32.toInt32)), .val (.int (((((p1).toUInt32 >>> ((16 : Int32) &&& 31).toUInt32).toInt32) &&& (3 : Int32)) % (3 : Int32))), .val (.int (((p1 &&& (255 : Int32))).toUInt32.toUInt16.toUInt32.toInt32)), .val (.int ((((((p2).toUInt32 >>> ((8 : Int32) &&& 31).toUInt32).toInt32) &&& (255 : Int32))).toUInt32.toUInt16.toUInt32.toInt32)), .unset, .unset, .unset] rfl 132 rfl ?_
          obtain ⟨kk, hk1, h10⟩ := own_rem10 p0
          obtain ⟨kq, hk2, h10q⟩ := own_rem10 (p0.toUInt32 >>> ((4 : Int32) &&& 31).toUInt32).toInt32
          exact law_132 hw k X0 p0 p1 p2 p3 _ _ _ _ _ _ kk A cz hcz Z0 O0 S0 SK (own_chr _) (own_chr _) (own_chr _) (own_chr _) hk1 h10 _ _ e0 S0' hk0 P0 (own_rem3 _) (own_rem3 _) hA kq hk2 h10q
        · refine Wh.iload k X0 at_116 rfl 118 rfl ?_
          refine Wh.goto k X0 at_118 (by decide) 130 (by decide) ?_
          refine Wh.istore k X0 at_130 #[.val (.int p0), .val (.int p1), .val (.int p2), .val (.int p3), .val (.int ((p0 &&& (15 : Int32)) % (10 : Int32))), .val (.int (((((p0).toUInt32 >>> ((4 : Int32) &&& 31).toUInt32).toInt32) &&& (15 : Int32)) % (10 : Int32))), .val (.int (((((p1).toUInt32 >>> ((16 : Int32) &&& 31).toUInt32).toInt32) &&& (3 : Int32)) % (3 : Int32))), .val (.int (((p1 &&& (255 : Int32))).toUInt32.toUInt16.toUInt32.toInt32)), .val (.int ((((((p1).toUInt32 >>> ((8 : Int32) &&& 31).toUInt32).toInt32) &&& (255 : Int32))).toUInt32.toUInt16.toUInt32.toInt32)), .val (.int (((((p1).toUInt32 >>> ((16 : Int32) &&& 31).toUInt32).toInt32) &&& (3 : Int32)) % (3 : Int32))), .val (.int (((p1 &&& (255 : Int32))).toUInt32.toUInt16.toUInt32.toInt32)), .val (.int ((((((p1).toUInt32 >>> ((8 : Int32) &&& 31).toUInt32).toInt32) &&& (255 : Int32))).toUInt32.toUInt16.toUInt32.toInt32)), .unset, .unset, .unset] rfl 132 rfl ?_
          obtain ⟨kk, hk1, h10⟩ := own_rem10 p0
          obtain ⟨kq, hk2, h10q⟩ := own_rem10 (p0.toUInt32 >>> ((4 : Int32) &&& 31).toUInt32).toInt32
          exact law_132 hw k X0 p0 p1 p2 p3 _ _ _ _ _ _ kk A cz hcz Z0 O0 S0 SK (own_chr _) (own_chr _) (own_chr _) (own_chr _) hk1 h10 _ _ e0 S0' hk0 P0 (own_rem3 _) (own_rem3 _) hA kq hk2 h10q
  · refine Wh.iload k X0 at_29 rfl 31 rfl ?_
    refine Wh.istore k X0 at_31 #[.val (.int p0), .val (.int p1), .val (.int p2), .val (.int p3), .val (.int ((p0 &&& (15 : Int32)) % (10 : Int32))), .val (.int ((p0 &&& (15 : Int32)) % (10 : Int32))), .unset, .unset, .unset, .unset, .unset, .unset, .unset, .unset, .unset] rfl 33 rfl ?_
    refine Wh.iload_n k X0 at_33 rfl 34 rfl ?_
    refine Wh.bipush k X0 at_34 (16 : Int32) rfl 36 rfl ?_
    refine Wh.iushr k X0 at_36 37 rfl ?_
    refine Wh.iconst k X0 at_37 (3 : Int32) rfl 38 rfl ?_
    refine Wh.iand k X0 at_38 39 rfl ?_
    refine Wh.iconst k X0 at_39 (3 : Int32) rfl 40 rfl ?_
    refine Wh.irem k X0 at_40 (by decide) 41 rfl ?_
    refine Wh.istore k X0 at_41 #[.val (.int p0), .val (.int p1), .val (.int p2), .val (.int p3), .val (.int ((p0 &&& (15 : Int32)) % (10 : Int32))), .val (.int ((p0 &&& (15 : Int32)) % (10 : Int32))), .val (.int (((((p1).toUInt32 >>> ((16 : Int32) &&& 31).toUInt32).toInt32) &&& (3 : Int32)) % (3 : Int32))), .unset, .unset, .unset, .unset, .unset, .unset, .unset, .unset] rfl 43 rfl ?_
    refine Wh.iload_n k X0 at_43 rfl 44 rfl ?_
    refine Wh.sipush k X0 at_44 (255 : Int32) rfl 47 rfl ?_
    refine Wh.iand k X0 at_47 48 rfl ?_
    refine Wh.i2c k X0 at_48 49 rfl ?_
    refine Wh.istore k X0 at_49 #[.val (.int p0), .val (.int p1), .val (.int p2), .val (.int p3), .val (.int ((p0 &&& (15 : Int32)) % (10 : Int32))), .val (.int ((p0 &&& (15 : Int32)) % (10 : Int32))), .val (.int (((((p1).toUInt32 >>> ((16 : Int32) &&& 31).toUInt32).toInt32) &&& (3 : Int32)) % (3 : Int32))), .val (.int (((p1 &&& (255 : Int32))).toUInt32.toUInt16.toUInt32.toInt32)), .unset, .unset, .unset, .unset, .unset, .unset, .unset] rfl 51 rfl ?_
    refine Wh.iload_n k X0 at_51 rfl 52 rfl ?_
    refine Wh.bipush k X0 at_52 (8 : Int32) rfl 54 rfl ?_
    refine Wh.iushr k X0 at_54 55 rfl ?_
    refine Wh.sipush k X0 at_55 (255 : Int32) rfl 58 rfl ?_
    refine Wh.iand k X0 at_58 59 rfl ?_
    refine Wh.i2c k X0 at_59 60 rfl ?_
    refine Wh.istore k X0 at_60 #[.val (.int p0), .val (.int p1), .val (.int p2), .val (.int p3), .val (.int ((p0 &&& (15 : Int32)) % (10 : Int32))), .val (.int ((p0 &&& (15 : Int32)) % (10 : Int32))), .val (.int (((((p1).toUInt32 >>> ((16 : Int32) &&& 31).toUInt32).toInt32) &&& (3 : Int32)) % (3 : Int32))), .val (.int (((p1 &&& (255 : Int32))).toUInt32.toUInt16.toUInt32.toInt32)), .val (.int ((((((p1).toUInt32 >>> ((8 : Int32) &&& 31).toUInt32).toInt32) &&& (255 : Int32))).toUInt32.toUInt16.toUInt32.toInt32)), .unset, .unset, .unset, .unset, .unset, .unset] rfl 62 rfl ?_
    refine Wh.iload_n k X0 at_62 rfl 63 rfl ?_
    refine Wh.bipush k X0 at_63 (16 : Int32) rfl 65 rfl ?_
    refine Wh.iushr k X0 at_65 66 rfl ?_
    refine Wh.iconst k X0 at_66 (3 : Int32) rfl 67 rfl ?_
    refine Wh.iand k X0 at_67 68 rfl ?_
    refine Wh.iconst k X0 at_68 (3 : Int32) rfl 69 rfl ?_
    refine Wh.irem k X0 at_69 (by decide) 70 rfl ?_
    refine Wh.istore k X0 at_70 #[.val (.int p0), .val (.int p1), .val (.int p2), .val (.int p3), .val (.int ((p0 &&& (15 : Int32)) % (10 : Int32))), .val (.int ((p0 &&& (15 : Int32)) % (10 : Int32))), .val (.int (((((p1).toUInt32 >>> ((16 : Int32) &&& 31).toUInt32).toInt32) &&& (3 : Int32)) % (3 : Int32))), .val (.int (((p1 &&& (255 : Int32))).toUInt32.toUInt16.toUInt32.toInt32)), .val (.int ((((((p1).toUInt32 >>> ((8 : Int32) &&& 31).toUInt32).toInt32) &&& (255 : Int32))).toUInt32.toUInt16.toUInt32.toInt32)), .val (.int (((((p2).toUInt32 >>> ((16 : Int32) &&& 31).toUInt32).toInt32) &&& (3 : Int32)) % (3 : Int32))), .unset, .unset, .unset, .unset, .unset] rfl 72 rfl ?_
    refine Wh.iload_n k X0 at_72 rfl 73 rfl ?_
    refine Wh.bipush k X0 at_73 (18 : Int32) rfl 75 rfl ?_
    refine Wh.iushr k X0 at_75 76 rfl ?_
    refine Wh.iconst k X0 at_76 (1 : Int32) rfl 77 rfl ?_
    refine Wh.iand k X0 at_77 78 rfl ?_
    refine Wh.if_eq k X0 at_78 (by decide) 85 81 (by decide) rfl (fun hc78 => ?_) (fun hc78 => ?_)
    · refine Wh.iload_n k X0 at_85 rfl 86 rfl ?_
      refine Wh.bipush k X0 at_86 (19 : Int32) rfl 88 rfl ?_
      refine Wh.iushr k X0 at_88 89 rfl ?_
      refine Wh.iconst k X0 at_89 (1 : Int32) rfl 90 rfl ?_
      refine Wh.iand k X0 at_90 91 rfl ?_
      refine Wh.if_eq k X0 at_91 (by decide) 99 94 (by decide) rfl (fun hc91 => ?_) (fun hc91 => ?_)
      · refine Wh.iload_n k X0 at_99 rfl 100 rfl ?_
        refine Wh.sipush k X0 at_100 (255 : Int32) rfl 103 rfl ?_
        refine Wh.iand k X0 at_103 104 rfl ?_
        refine Wh.i2c k X0 at_104 105 rfl ?_
        refine Wh.istore k X0 at_105 #[.val (.int p0), .val (.int p1), .val (.int p2), .val (.int p3), .val (.int ((p0 &&& (15 : Int32)) % (10 : Int32))), .val (.int ((p0 &&& (15 : Int32)) % (10 : Int32))), .val (.int (((((p1).toUInt32 >>> ((16 : Int32) &&& 31).toUInt32).toInt32) &&& (3 : Int32)) % (3 : Int32))), .val (.int (((p1 &&& (255 : Int32))).toUInt32.toUInt16.toUInt32.toInt32)), .val (.int ((((((p1).toUInt32 >>> ((8 : Int32) &&& 31).toUInt32).toInt32) &&& (255 : Int32))).toUInt32.toUInt16.toUInt32.toInt32)), .val (.int (((((p2).toUInt32 >>> ((16 : Int32) &&& 31).toUInt32).toInt32) &&& (3 : Int32)) % (3 : Int32))), .val (.int (((p2 &&& (255 : Int32))).toUInt32.toUInt16.toUInt32.toInt32)), .unset, .unset, .unset, .unset] rfl 107 rfl ?_
        refine Wh.iload_n k X0 at_107 rfl 108 rfl ?_
        refine Wh.bipush k X0 at_108 (20 : Int32) rfl 110 rfl ?_
        refine Wh.iushr k X0 at_110 111 rfl ?_
        refine Wh.iconst k X0 at_111 (1 : Int32) rfl 112 rfl ?_
        refine Wh.iand k X0 at_112 113 rfl ?_
        refine Wh.if_eq k X0 at_113 (by decide) 121 116 (by decide) rfl (fun hc113 => ?_) (fun hc113 => ?_)
        · refine Wh.iload_n k X0 at_121 rfl 122 rfl ?_
          refine Wh.bipush k X0 at_122 (8 : Int32) rfl 124 rfl ?_
          refine Wh.iushr k X0 at_124 125 rfl ?_
          refine Wh.sipush k X0 at_125 (255 : Int32) rfl 128 rfl ?_
          refine Wh.iand k X0 at_128 129 rfl ?_
          refine Wh.i2c k X0 at_129 130 rfl ?_
          refine Wh.istore k X0 at_130 #[.val (.int p0), .val (.int p1), .val (.int p2), .val (.int p3), .val (.int ((p0 &&& (15 : Int32)) % (10 : Int32))), .val (.int ((p0 &&& (15 : Int32)) % (10 : Int32))), .val (.int (((((p1).toUInt32 >>> ((16 : Int32) &&& 31).toUInt32).toInt32) &&& (3 : Int32)) % (3 : Int32))), .val (.int (((p1 &&& (255 : Int32))).toUInt32.toUInt16.toUInt32.toInt32)), .val (.int ((((((p1).toUInt32 >>> ((8 : Int32) &&& 31).toUInt32).toInt32) &&& (255 : Int32))).toUInt32.toUInt16.toUInt32.toInt32)), .val (.int (((((p2).toUInt32 >>> ((16 : Int32) &&& 31).toUInt32).toInt32) &&& (3 : Int32)) % (3 : Int32))), .val (.int (((p2 &&& (255 : Int32))).toUInt32.toUInt16.toUInt32.toInt32)), .val (.int ((((((p2).toUInt32 >>> ((8 : Int32) &&& 31).toUInt32).toInt32) &&& (255 : Int32))).toUInt32.toUInt16.toUInt32.toInt32)), .unset, .unset, .unset] rfl 132 rfl ?_
          obtain ⟨kk, hk1, h10⟩ := own_rem10 p0
          obtain ⟨kq, hk2, h10q⟩ := own_rem10 p0
          exact law_132 hw k X0 p0 p1 p2 p3 _ _ _ _ _ _ kk A cz hcz Z0 O0 S0 SK (own_chr _) (own_chr _) (own_chr _) (own_chr _) hk1 h10 _ _ e0 S0' hk0 P0 (own_rem3 _) (own_rem3 _) hA kq hk2 h10q
        · refine Wh.iload k X0 at_116 rfl 118 rfl ?_
          refine Wh.goto k X0 at_118 (by decide) 130 (by decide) ?_
          refine Wh.istore k X0 at_130 #[.val (.int p0), .val (.int p1), .val (.int p2), .val (.int p3), .val (.int ((p0 &&& (15 : Int32)) % (10 : Int32))), .val (.int ((p0 &&& (15 : Int32)) % (10 : Int32))), .val (.int (((((p1).toUInt32 >>> ((16 : Int32) &&& 31).toUInt32).toInt32) &&& (3 : Int32)) % (3 : Int32))), .val (.int (((p1 &&& (255 : Int32))).toUInt32.toUInt16.toUInt32.toInt32)), .val (.int ((((((p1).toUInt32 >>> ((8 : Int32) &&& 31).toUInt32).toInt32) &&& (255 : Int32))).toUInt32.toUInt16.toUInt32.toInt32)), .val (.int (((((p2).toUInt32 >>> ((16 : Int32) &&& 31).toUInt32).toInt32) &&& (3 : Int32)) % (3 : Int32))), .val (.int (((p2 &&& (255 : Int32))).toUInt32.toUInt16.toUInt32.toInt32)), .val (.int ((((((p1).toUInt32 >>> ((8 : Int32) &&& 31).toUInt32).toInt32) &&& (255 : Int32))).toUInt32.toUInt16.toUInt32.toInt32)), .unset, .unset, .unset] rfl 132 rfl ?_
          obtain ⟨kk, hk1, h10⟩ := own_rem10 p0
          obtain ⟨kq, hk2, h10q⟩ := own_rem10 p0
          exact law_132 hw k X0 p0 p1 p2 p3 _ _ _ _ _ _ kk A cz hcz Z0 O0 S0 SK (own_chr _) (own_chr _) (own_chr _) (own_chr _) hk1 h10 _ _ e0 S0' hk0 P0 (own_rem3 _) (own_rem3 _) hA kq hk2 h10q
      · refine Wh.iload k X0 at_94 rfl 96 rfl ?_
        refine Wh.goto k X0 at_96 (by decide) 105 (by decide) ?_
        refine Wh.istore k X0 at_105 #[.val (.int p0), .val (.int p1), .val (.int p2), .val (.int p3), .val (.int ((p0 &&& (15 : Int32)) % (10 : Int32))), .val (.int ((p0 &&& (15 : Int32)) % (10 : Int32))), .val (.int (((((p1).toUInt32 >>> ((16 : Int32) &&& 31).toUInt32).toInt32) &&& (3 : Int32)) % (3 : Int32))), .val (.int (((p1 &&& (255 : Int32))).toUInt32.toUInt16.toUInt32.toInt32)), .val (.int ((((((p1).toUInt32 >>> ((8 : Int32) &&& 31).toUInt32).toInt32) &&& (255 : Int32))).toUInt32.toUInt16.toUInt32.toInt32)), .val (.int (((((p2).toUInt32 >>> ((16 : Int32) &&& 31).toUInt32).toInt32) &&& (3 : Int32)) % (3 : Int32))), .val (.int (((p1 &&& (255 : Int32))).toUInt32.toUInt16.toUInt32.toInt32)), .unset, .unset, .unset, .unset] rfl 107 rfl ?_
        refine Wh.iload_n k X0 at_107 rfl 108 rfl ?_
        refine Wh.bipush k X0 at_108 (20 : Int32) rfl 110 rfl ?_
        refine Wh.iushr k X0 at_110 111 rfl ?_
        refine Wh.iconst k X0 at_111 (1 : Int32) rfl 112 rfl ?_
        refine Wh.iand k X0 at_112 113 rfl ?_
        refine Wh.if_eq k X0 at_113 (by decide) 121 116 (by decide) rfl (fun hc113 => ?_) (fun hc113 => ?_)
        · refine Wh.iload_n k X0 at_121 rfl 122 rfl ?_
          refine Wh.bipush k X0 at_122 (8 : Int32) rfl 124 rfl ?_
          refine Wh.iushr k X0 at_124 125 rfl ?_
          refine Wh.sipush k X0 at_125 (255 : Int32) rfl 128 rfl ?_
          refine Wh.iand k X0 at_128 129 rfl ?_
          refine Wh.i2c k X0 at_129 130 rfl ?_
          refine Wh.istore k X0 at_130 #[.val (.int p0), .val (.int p1), .val (.int p2), .val (.int p3), .val (.int ((p0 &&& (15 : Int32)) % (10 : Int32))), .val (.int ((p0 &&& (15 : Int32)) % (10 : Int32))), .val (.int (((((p1).toUInt32 >>> ((16 : Int32) &&& 31).toUInt32).toInt32) &&& (3 : Int32)) % (3 : Int32))), .val (.int (((p1 &&& (255 : Int32))).toUInt32.toUInt16.toUInt32.toInt32)), .val (.int ((((((p1).toUInt32 >>> ((8 : Int32) &&& 31).toUInt32).toInt32) &&& (255 : Int32))).toUInt32.toUInt16.toUInt32.toInt32)), .val (.int (((((p2).toUInt32 >>> ((16 : Int32) &&& 31).toUInt32).toInt32) &&& (3 : Int32)) % (3 : Int32))), .val (.int (((p1 &&& (255 : Int32))).toUInt32.toUInt16.toUInt32.toInt32)), .val (.int ((((((p2).toUInt32 >>> ((8 : Int32) &&& 31).toUInt32).toInt32) &&& (255 : Int32))).toUInt32.toUInt16.toUInt32.toInt32)), .unset, .unset, .unset] rfl 132 rfl ?_
          obtain ⟨kk, hk1, h10⟩ := own_rem10 p0
          obtain ⟨kq, hk2, h10q⟩ := own_rem10 p0
          exact law_132 hw k X0 p0 p1 p2 p3 _ _ _ _ _ _ kk A cz hcz Z0 O0 S0 SK (own_chr _) (own_chr _) (own_chr _) (own_chr _) hk1 h10 _ _ e0 S0' hk0 P0 (own_rem3 _) (own_rem3 _) hA kq hk2 h10q
        · refine Wh.iload k X0 at_116 rfl 118 rfl ?_
          refine Wh.goto k X0 at_118 (by decide) 130 (by decide) ?_
          refine Wh.istore k X0 at_130 #[.val (.int p0), .val (.int p1), .val (.int p2), .val (.int p3), .val (.int ((p0 &&& (15 : Int32)) % (10 : Int32))), .val (.int ((p0 &&& (15 : Int32)) % (10 : Int32))), .val (.int (((((p1).toUInt32 >>> ((16 : Int32) &&& 31).toUInt32).toInt32) &&& (3 : Int32)) % (3 : Int32))), .val (.int (((p1 &&& (255 : Int32))).toUInt32.toUInt16.toUInt32.toInt32)), .val (.int ((((((p1).toUInt32 >>> ((8 : Int32) &&& 31).toUInt32).toInt32) &&& (255 : Int32))).toUInt32.toUInt16.toUInt32.toInt32)), .val (.int (((((p2).toUInt32 >>> ((16 : Int32) &&& 31).toUInt32).toInt32) &&& (3 : Int32)) % (3 : Int32))), .val (.int (((p1 &&& (255 : Int32))).toUInt32.toUInt16.toUInt32.toInt32)), .val (.int ((((((p1).toUInt32 >>> ((8 : Int32) &&& 31).toUInt32).toInt32) &&& (255 : Int32))).toUInt32.toUInt16.toUInt32.toInt32)), .unset, .unset, .unset] rfl 132 rfl ?_
          obtain ⟨kk, hk1, h10⟩ := own_rem10 p0
          obtain ⟨kq, hk2, h10q⟩ := own_rem10 p0
          exact law_132 hw k X0 p0 p1 p2 p3 _ _ _ _ _ _ kk A cz hcz Z0 O0 S0 SK (own_chr _) (own_chr _) (own_chr _) (own_chr _) hk1 h10 _ _ e0 S0' hk0 P0 (own_rem3 _) (own_rem3 _) hA kq hk2 h10q
    · refine Wh.iload k X0 at_81 rfl 83 rfl ?_
      refine Wh.istore k X0 at_83 #[.val (.int p0), .val (.int p1), .val (.int p2), .val (.int p3), .val (.int ((p0 &&& (15 : Int32)) % (10 : Int32))), .val (.int ((p0 &&& (15 : Int32)) % (10 : Int32))), .val (.int (((((p1).toUInt32 >>> ((16 : Int32) &&& 31).toUInt32).toInt32) &&& (3 : Int32)) % (3 : Int32))), .val (.int (((p1 &&& (255 : Int32))).toUInt32.toUInt16.toUInt32.toInt32)), .val (.int ((((((p1).toUInt32 >>> ((8 : Int32) &&& 31).toUInt32).toInt32) &&& (255 : Int32))).toUInt32.toUInt16.toUInt32.toInt32)), .val (.int (((((p1).toUInt32 >>> ((16 : Int32) &&& 31).toUInt32).toInt32) &&& (3 : Int32)) % (3 : Int32))), .unset, .unset, .unset, .unset, .unset] rfl 85 rfl ?_
      refine Wh.iload_n k X0 at_85 rfl 86 rfl ?_
      refine Wh.bipush k X0 at_86 (19 : Int32) rfl 88 rfl ?_
      refine Wh.iushr k X0 at_88 89 rfl ?_
      refine Wh.iconst k X0 at_89 (1 : Int32) rfl 90 rfl ?_
      refine Wh.iand k X0 at_90 91 rfl ?_
      refine Wh.if_eq k X0 at_91 (by decide) 99 94 (by decide) rfl (fun hc91 => ?_) (fun hc91 => ?_)
      · refine Wh.iload_n k X0 at_99 rfl 100 rfl ?_
        refine Wh.sipush k X0 at_100 (255 : Int32) rfl 103 rfl ?_
        refine Wh.iand k X0 at_103 104 rfl ?_
        refine Wh.i2c k X0 at_104 105 rfl ?_
        refine Wh.istore k X0 at_105 #[.val (.int p0), .val (.int p1), .val (.int p2), .val (.int p3), .val (.int ((p0 &&& (15 : Int32)) % (10 : Int32))), .val (.int ((p0 &&& (15 : Int32)) % (10 : Int32))), .val (.int (((((p1).toUInt32 >>> ((16 : Int32) &&& 31).toUInt32).toInt32) &&& (3 : Int32)) % (3 : Int32))), .val (.int (((p1 &&& (255 : Int32))).toUInt32.toUInt16.toUInt32.toInt32)), .val (.int ((((((p1).toUInt32 >>> ((8 : Int32) &&& 31).toUInt32).toInt32) &&& (255 : Int32))).toUInt32.toUInt16.toUInt32.toInt32)), .val (.int (((((p1).toUInt32 >>> ((16 : Int32) &&& 31).toUInt32).toInt32) &&& (3 : Int32)) % (3 : Int32))), .val (.int (((p2 &&& (255 : Int32))).toUInt32.toUInt16.toUInt32.toInt32)), .unset, .unset, .unset, .unset] rfl 107 rfl ?_
        refine Wh.iload_n k X0 at_107 rfl 108 rfl ?_
        refine Wh.bipush k X0 at_108 (20 : Int32) rfl 110 rfl ?_
        refine Wh.iushr k X0 at_110 111 rfl ?_
        refine Wh.iconst k X0 at_111 (1 : Int32) rfl 112 rfl ?_
        refine Wh.iand k X0 at_112 113 rfl ?_
        refine Wh.if_eq k X0 at_113 (by decide) 121 116 (by decide) rfl (fun hc113 => ?_) (fun hc113 => ?_)
        · refine Wh.iload_n k X0 at_121 rfl 122 rfl ?_
          refine Wh.bipush k X0 at_122 (8 : Int32) rfl 124 rfl ?_
          refine Wh.iushr k X0 at_124 125 rfl ?_
          refine Wh.sipush k X0 at_125 (255 : Int32) rfl 128 rfl ?_
          refine Wh.iand k X0 at_128 129 rfl ?_
          refine Wh.i2c k X0 at_129 130 rfl ?_
          refine Wh.istore k X0 at_130 #[.val (.int p0), .val (.int p1), .val (.int p2), .val (.int p3), .val (.int ((p0 &&& (15 : Int32)) % (10 : Int32))), .val (.int ((p0 &&& (15 : Int32)) % (10 : Int32))), .val (.int (((((p1).toUInt32 >>> ((16 : Int32) &&& 31).toUInt32).toInt32) &&& (3 : Int32)) % (3 : Int32))), .val (.int (((p1 &&& (255 : Int32))).toUInt32.toUInt16.toUInt32.toInt32)), .val (.int ((((((p1).toUInt32 >>> ((8 : Int32) &&& 31).toUInt32).toInt32) &&& (255 : Int32))).toUInt32.toUInt16.toUInt32.toInt32)), .val (.int (((((p1).toUInt32 >>> ((16 : Int32) &&& 31).toUInt32).toInt32) &&& (3 : Int32)) % (3 : Int32))), .val (.int (((p2 &&& (255 : Int32))).toUInt32.toUInt16.toUInt32.toInt32)), .val (.int ((((((p2).toUInt32 >>> ((8 : Int32) &&& 31).toUInt32).toInt32) &&& (255 : Int32))).toUInt32.toUInt16.toUInt32.toInt32)), .unset, .unset, .unset] rfl 132 rfl ?_
          obtain ⟨kk, hk1, h10⟩ := own_rem10 p0
          obtain ⟨kq, hk2, h10q⟩ := own_rem10 p0
          exact law_132 hw k X0 p0 p1 p2 p3 _ _ _ _ _ _ kk A cz hcz Z0 O0 S0 SK (own_chr _) (own_chr _) (own_chr _) (own_chr _) hk1 h10 _ _ e0 S0' hk0 P0 (own_rem3 _) (own_rem3 _) hA kq hk2 h10q
        · refine Wh.iload k X0 at_116 rfl 118 rfl ?_
          refine Wh.goto k X0 at_118 (by decide) 130 (by decide) ?_
          refine Wh.istore k X0 at_130 #[.val (.int p0), .val (.int p1), .val (.int p2), .val (.int p3), .val (.int ((p0 &&& (15 : Int32)) % (10 : Int32))), .val (.int ((p0 &&& (15 : Int32)) % (10 : Int32))), .val (.int (((((p1).toUInt32 >>> ((16 : Int32) &&& 31).toUInt32).toInt32) &&& (3 : Int32)) % (3 : Int32))), .val (.int (((p1 &&& (255 : Int32))).toUInt32.toUInt16.toUInt32.toInt32)), .val (.int ((((((p1).toUInt32 >>> ((8 : Int32) &&& 31).toUInt32).toInt32) &&& (255 : Int32))).toUInt32.toUInt16.toUInt32.toInt32)), .val (.int (((((p1).toUInt32 >>> ((16 : Int32) &&& 31).toUInt32).toInt32) &&& (3 : Int32)) % (3 : Int32))), .val (.int (((p2 &&& (255 : Int32))).toUInt32.toUInt16.toUInt32.toInt32)), .val (.int ((((((p1).toUInt32 >>> ((8 : Int32) &&& 31).toUInt32).toInt32) &&& (255 : Int32))).toUInt32.toUInt16.toUInt32.toInt32)), .unset, .unset, .unset] rfl 132 rfl ?_
          obtain ⟨kk, hk1, h10⟩ := own_rem10 p0
          obtain ⟨kq, hk2, h10q⟩ := own_rem10 p0
          exact law_132 hw k X0 p0 p1 p2 p3 _ _ _ _ _ _ kk A cz hcz Z0 O0 S0 SK (own_chr _) (own_chr _) (own_chr _) (own_chr _) hk1 h10 _ _ e0 S0' hk0 P0 (own_rem3 _) (own_rem3 _) hA kq hk2 h10q
      · refine Wh.iload k X0 at_94 rfl 96 rfl ?_
        refine Wh.goto k X0 at_96 (by decide) 105 (by decide) ?_
        refine Wh.istore k X0 at_105 #[.val (.int p0), .val (.int p1), .val (.int p2), .val (.int p3), .val (.int ((p0 &&& (15 : Int32)) % (10 : Int32))), .val (.int ((p0 &&& (15 : Int32)) % (10 : Int32))), .val (.int (((((p1).toUInt32 >>> ((16 : Int32) &&& 31).toUInt32).toInt32) &&& (3 : Int32)) % (3 : Int32))), .val (.int (((p1 &&& (255 : Int32))).toUInt32.toUInt16.toUInt32.toInt32)), .val (.int ((((((p1).toUInt32 >>> ((8 : Int32) &&& 31).toUInt32).toInt32) &&& (255 : Int32))).toUInt32.toUInt16.toUInt32.toInt32)), .val (.int (((((p1).toUInt32 >>> ((16 : Int32) &&& 31).toUInt32).toInt32) &&& (3 : Int32)) % (3 : Int32))), .val (.int (((p1 &&& (255 : Int32))).toUInt32.toUInt16.toUInt32.toInt32)), .unset, .unset, .unset, .unset] rfl 107 rfl ?_
        refine Wh.iload_n k X0 at_107 rfl 108 rfl ?_
        refine Wh.bipush k X0 at_108 (20 : Int32) rfl 110 rfl ?_
        refine Wh.iushr k X0 at_110 111 rfl ?_
        refine Wh.iconst k X0 at_111 (1 : Int32) rfl 112 rfl ?_
        refine Wh.iand k X0 at_112 113 rfl ?_
        refine Wh.if_eq k X0 at_113 (by decide) 121 116 (by decide) rfl (fun hc113 => ?_) (fun hc113 => ?_)
        · refine Wh.iload_n k X0 at_121 rfl 122 rfl ?_
          refine Wh.bipush k X0 at_122 (8 : Int32) rfl 124 rfl ?_
          refine Wh.iushr k X0 at_124 125 rfl ?_
          refine Wh.sipush k X0 at_125 (255 : Int32) rfl 128 rfl ?_
          refine Wh.iand k X0 at_128 129 rfl ?_
          refine Wh.i2c k X0 at_129 130 rfl ?_
          refine Wh.istore k X0 at_130 #[.val (.int p0), .val (.int p1), .val (.int p2), .val (.int p3), .val (.int ((p0 &&& (15 : Int32)) % (10 : Int32))), .val (.int ((p0 &&& (15 : Int32)) % (10 : Int32))), .val (.int (((((p1).toUInt32 >>> ((16 : Int32) &&& 31).toUInt32).toInt32) &&& (3 : Int32)) % (3 : Int32))), .val (.int (((p1 &&& (255 : Int32))).toUInt32.toUInt16.toUInt32.toInt32)), .val (.int ((((((p1).toUInt32 >>> ((8 : Int32) &&& 31).toUInt32).toInt32) &&& (255 : Int32))).toUInt32.toUInt16.toUInt32.toInt32)), .val (.int (((((p1).toUInt32 >>> ((16 : Int32) &&& 31).toUInt32).toInt32) &&& (3 : Int32)) % (3 : Int32))), .val (.int (((p1 &&& (255 : Int32))).toUInt32.toUInt16.toUInt32.toInt32)), .val (.int ((((((p2).toUInt32 >>> ((8 : Int32) &&& 31).toUInt32).toInt32) &&& (255 : Int32))).toUInt32.toUInt16.toUInt32.toInt32)), .unset, .unset, .unset] rfl 132 rfl ?_
          obtain ⟨kk, hk1, h10⟩ := own_rem10 p0
          obtain ⟨kq, hk2, h10q⟩ := own_rem10 p0
          exact law_132 hw k X0 p0 p1 p2 p3 _ _ _ _ _ _ kk A cz hcz Z0 O0 S0 SK (own_chr _) (own_chr _) (own_chr _) (own_chr _) hk1 h10 _ _ e0 S0' hk0 P0 (own_rem3 _) (own_rem3 _) hA kq hk2 h10q
        · refine Wh.iload k X0 at_116 rfl 118 rfl ?_
          refine Wh.goto k X0 at_118 (by decide) 130 (by decide) ?_
          refine Wh.istore k X0 at_130 #[.val (.int p0), .val (.int p1), .val (.int p2), .val (.int p3), .val (.int ((p0 &&& (15 : Int32)) % (10 : Int32))), .val (.int ((p0 &&& (15 : Int32)) % (10 : Int32))), .val (.int (((((p1).toUInt32 >>> ((16 : Int32) &&& 31).toUInt32).toInt32) &&& (3 : Int32)) % (3 : Int32))), .val (.int (((p1 &&& (255 : Int32))).toUInt32.toUInt16.toUInt32.toInt32)), .val (.int ((((((p1).toUInt32 >>> ((8 : Int32) &&& 31).toUInt32).toInt32) &&& (255 : Int32))).toUInt32.toUInt16.toUInt32.toInt32)), .val (.int (((((p1).toUInt32 >>> ((16 : Int32) &&& 31).toUInt32).toInt32) &&& (3 : Int32)) % (3 : Int32))), .val (.int (((p1 &&& (255 : Int32))).toUInt32.toUInt16.toUInt32.toInt32)), .val (.int ((((((p1).toUInt32 >>> ((8 : Int32) &&& 31).toUInt32).toInt32) &&& (255 : Int32))).toUInt32.toUInt16.toUInt32.toInt32)), .unset, .unset, .unset] rfl 132 rfl ?_
          obtain ⟨kk, hk1, h10⟩ := own_rem10 p0
          obtain ⟨kq, hk2, h10q⟩ := own_rem10 p0
          exact law_132 hw k X0 p0 p1 p2 p3 _ _ _ _ _ _ kk A cz hcz Z0 O0 S0 SK (own_chr _) (own_chr _) (own_chr _) (own_chr _) hk1 h10 _ _ e0 S0' hk0 P0 (own_rem3 _) (own_rem3 _) hA kq hk2 h10q
theorem own_eqv {args : Array Value} {first s : State} {o : Option Outcome} {idx : List Nat} {t : Term} {n : Int32} (h : (Cond.eq t (Term.int n)).value args first o s idx = some true) : t.eval args first o idx s = some (.int n) := by
  have q : (Term.int n).eval args first o idx s = some (.int n) := rfl
  simp only [Cond.value, q] at h
  cases e : t.eval args first o idx s with
  | none => rw [e] at h; simp at h
  | some v =>
    rw [e] at h
    cases v <;> simp at h
    rw [h]
theorem own_ord {args : Array Value} {s : State} {t t' : Term} {v : Value} {i j : Nat} (h1 : t.eval args s none [] s = some v) (h2 : t'.eval args s none [] s = some v) (f1 : (Term.field t "java/lang/Enum" "ordinal" "I").eval args s none [] s = some (.int (Int32.ofNat i))) (f2 : (Term.field t' "java/lang/Enum" "ordinal" "I").eval args s none [] s = some (.int (Int32.ofNat j))) (hi : i < 10) (hj : j < 10) : i = j := by
  have e : (Term.field t "java/lang/Enum" "ordinal" "I").eval args s none [] s = (Term.field t' "java/lang/Enum" "ordinal" "I").eval args s none [] s := by
    rw [Term.eval, Term.eval, h1, h2]
  rw [e, f2] at f1
  have q : Int32.ofNat j = Int32.ofNat i := by simpa using f1
  have r := congrArg Int32.toInt q
  rw [Int32.toInt_ofNat_of_lt (by omega), Int32.toInt_ofNat_of_lt (by omega)] at r
  omega
set_option maxRecDepth 65536 in
set_option maxHeartbeats 40000000 in
theorem comes_1 {Post : Tables → Env → Array Value → State → Outcome → State → Prop} (hpost : ∀ tb e args s v u, (limb_1_1.after args s (.returned v) u = true ∧ limb_1_2.after args s (.returned v) u = true) → ReturnedEndW s (.returned v) u (Jvm.fieldLocs frame_1_writes args s ++ Jvm.arrayLocs frame_1_arrays args s ++ Jvm.staticLocs frame_1_statics s) 24 1152 → Post tb e args s (.returned v) u) :
    ArmFor flags0 classFile x code maxLocals ret World_1 tables_1 room_1 Calls_1 rest_1 Pre_1 Post := by
  intro l hfl _ _ p e ha hc hk s m args below hf hA hF happ hP
  obtain ⟨hcalls, hrest, hpre⟩ := hP
  obtain ⟨-, -, -, hnamed, -, -, -, hat⟩ := (Spec.applies_iff hf).mp happ
  obtain ⟨hg, hn⟩ := and_e (Cond.before_iff.mp (show (Jvm.Cond.and given_1 narrow_1).before args s = true from hpre))
  obtain ⟨gc, g0⟩ := and_e hg
  obtain ⟨q0, g1⟩ := and_e g0
  obtain ⟨q1, g2⟩ := and_e g1
  obtain ⟨q2, g3⟩ := and_e g2
  have q3 := g3
  obtain ⟨w0, w1, w2, w3, rfl⟩ : ∃ w0 w1 w2 w3 : Value, args = #[w0, w1, w2, w3] := by
    have hs : args.size = 4 := by simpa [Cond.value, given_1] using gc
    obtain ⟨L⟩ := args
    match L, hs with
    | [w0, w1, w2, w3], _ => exact ⟨w0, w1, w2, w3, rfl⟩
  have hw := fun d (hd : d ∈ tables_1) => atoms_spec (ws := Jvm.Cond.code x code maxLocals ret :: tables_1) hat d (List.mem_cons_of_mem _ hd)
  have hfit : Fit s := fun {y c} hc i hi => by
    obtain ⟨ha, rfl⟩ := Array.getElem?_eq_some_iff.mp hc
    have q := List.all_eq_true.mp ((Array.all_eq_true_iff_forall_mem.mp hF) _ (Array.getElem_mem ha)) i (List.mem_range.mpr hi)
    simpa [Array.getElem?_eq_getElem hi] using q
  obtain ⟨i0, ei0⟩ := is_v q0
  obtain rfl : w0 = (.int i0) := Option.some.inj ei0
  obtain ⟨i1, ei1⟩ := is_v q1
  obtain rfl : w1 = (.int i1) := Option.some.inj ei1
  obtain ⟨i2, ei2⟩ := is_v q2
  obtain rfl : w2 = (.int i2) := Option.some.inj ei2
  obtain ⟨i3, ei3⟩ := is_v q3
  obtain rfl : w3 = (.int i3) := Option.some.inj ei3
  obtain ⟨hsets, hown0⟩ := atoms_of _ (rest_1_c_eq ▸ (show rest_1_c.before _ s = true from hrest))
  have hx0 : Old s s.heap.size s.heap ∧ ∃ cz : Int32, ¬ cz = 0 ∧ Sta s s.heap "java/lang/String" "COMPACT_STRINGS" "Z" (.int cz) ∧ ∃ A : Nat → Addr, own_SK s s.heap A ∧ ∀ i j, i < 10 → j < 10 → A i = A j → i = j := by
    refine ⟨Old.start s, ?_⟩
    obtain ⟨cz, ez⟩ := is_v (Cond.before_iff.mp (hsets _ (List.mem_of_getElem? (i := 1) rfl)))
    refine ⟨cz, fun hz => ?_, Sta.start ez (Or.inl (hsets _ (List.mem_of_getElem? (i := 0) rfl))), ?_⟩
    · have q := hsets _ (List.mem_of_getElem? (i := 2) rfl)
      rw [Cond.before_iff] at q
      subst hz
      simp [Cond.value, ez, show Term.eval _ s none [] s (Term.int (0 : Int32)) = some (Value.int 0) from rfl] at q
    obtain ⟨c0, r0⟩ := and_e hn
    obtain ⟨c1, r1⟩ := and_e r0
    obtain ⟨c2, r2⟩ := and_e r1
    obtain ⟨c3, r3⟩ := and_e r2
    obtain ⟨c4, r4⟩ := and_e r3
    obtain ⟨c5, r5⟩ := and_e r4
    obtain ⟨c6, r6⟩ := and_e r5
    obtain ⟨c7, r7⟩ := and_e r6
    obtain ⟨c8, r8⟩ := and_e r7
    obtain ⟨c9, r9⟩ := and_e r8
    obtain ⟨c10, r10⟩ := and_e r9
    obtain ⟨c11, r11⟩ := and_e r10
    obtain ⟨c12, r12⟩ := and_e r11
    obtain ⟨c13, r13⟩ := and_e r12
    obtain ⟨c14, r14⟩ := and_e r13
    obtain ⟨c15, r15⟩ := and_e r14
    obtain ⟨c16, r16⟩ := and_e r15
    obtain ⟨c17, r17⟩ := and_e r16
    obtain ⟨c18, r18⟩ := and_e r17
    have c19 := r18
    obtain ⟨A0, ea0⟩ := exa_v c0
    have eo0 := own_eqv c3
    have st0 := Sta.start ea0 (Or.inr ⟨(Wk.w hw 8 rfl), (Wk.w hw 9 rfl)⟩)
    obtain ⟨A1, ea1⟩ := exa_v c8
    have eo1 := own_eqv c9
    have st1 := Sta.start ea1 (Or.inr ⟨(Wk.w hw 8 rfl), (Wk.w hw 78 rfl)⟩)
    obtain ⟨A2, ea2⟩ := exa_v c1
    have eo2 := own_eqv c2
    have st2 := Sta.start ea2 (Or.inr ⟨(Wk.w hw 8 rfl), (Wk.w hw 62 rfl)⟩)
    obtain ⟨A3, ea3⟩ := exa_v c10
    have eo3 := own_eqv c11
    have st3 := Sta.start ea3 (Or.inr ⟨(Wk.w hw 8 rfl), (Wk.w hw 80 rfl)⟩)
    obtain ⟨A4, ea4⟩ := exa_v c5
    have eo4 := own_eqv c7
    have st4 := Sta.start ea4 (Or.inr ⟨(Wk.w hw 8 rfl), (Wk.w hw 66 rfl)⟩)
    obtain ⟨A5, ea5⟩ := exa_v c4
    have eo5 := own_eqv c6
    have st5 := Sta.start ea5 (Or.inr ⟨(Wk.w hw 8 rfl), (Wk.w hw 64 rfl)⟩)
    obtain ⟨A6, ea6⟩ := exa_v c18
    have eo6 := own_eqv c19
    have st6 := Sta.start ea6 (Or.inr ⟨(Wk.w hw 8 rfl), (Wk.w hw 88 rfl)⟩)
    obtain ⟨A7, ea7⟩ := exa_v c12
    have eo7 := own_eqv c16
    have st7 := Sta.start ea7 (Or.inr ⟨(Wk.w hw 8 rfl), (Wk.w hw 82 rfl)⟩)
    obtain ⟨A8, ea8⟩ := exa_v c13
    have eo8 := own_eqv c14
    have st8 := Sta.start ea8 (Or.inr ⟨(Wk.w hw 8 rfl), (Wk.w hw 84 rfl)⟩)
    obtain ⟨A9, ea9⟩ := exa_v c15
    have eo9 := own_eqv c17
    have st9 := Sta.start ea9 (Or.inr ⟨(Wk.w hw 8 rfl), (Wk.w hw 86 rfl)⟩)
    have hT : ∀ i, i < 10 → ∃ t : Term, t.eval _ s none [] s = some (.ref ((fun i : Nat => match i with | 0 => A0 | 1 => A1 | 2 => A2 | 3 => A3 | 4 => A4 | 5 => A5 | 6 => A6 | 7 => A7 | 8 => A8 | _ => A9) i)) ∧ (Term.field t "java/lang/Enum" "ordinal" "I").eval _ s none [] s = some (.int (Int32.ofNat i)) := fun i hi => by
      match i, hi with
      | 0, _ => exact ⟨_, ea0, eo0⟩
      | 1, _ => exact ⟨_, ea1, eo1⟩
      | 2, _ => exact ⟨_, ea2, eo2⟩
      | 3, _ => exact ⟨_, ea3, eo3⟩
      | 4, _ => exact ⟨_, ea4, eo4⟩
      | 5, _ => exact ⟨_, ea5, eo5⟩
      | 6, _ => exact ⟨_, ea6, eo6⟩
      | 7, _ => exact ⟨_, ea7, eo7⟩
      | 8, _ => exact ⟨_, ea8, eo8⟩
      | 9, _ => exact ⟨_, ea9, eo9⟩
    refine ⟨(fun i : Nat => match i with | 0 => A0 | 1 => A1 | 2 => A2 | 3 => A3 | 4 => A4 | 5 => A5 | 6 => A6 | 7 => A7 | 8 => A8 | _ => A9), ⟨trivial, fun i hi nm q => ?_⟩, fun i j hi hj q => ?_⟩
    · match i, hi with
      | 0, _ => cases q; exact st0
      | 1, _ => cases q; exact st1
      | 2, _ => cases q; exact st2
      | 3, _ => cases q; exact st3
      | 4, _ => cases q; exact st4
      | 5, _ => cases q; exact st5
      | 6, _ => cases q; exact st6
      | 7, _ => cases q; exact st7
      | 8, _ => cases q; exact st8
      | 9, _ => cases q; exact st9
    · obtain ⟨t, t1, t2⟩ := hT i hi
      obtain ⟨t', t1', t2'⟩ := hT j hj
      rw [← q] at t1'
      exact own_ord t1 t1' t2 t2' hi hj
  have hch : CHv s own_EL s.vm s.heap := CHv.start (own_EW hw) (fun p hp => hcalls.1 p hp) (hsets _ (List.mem_of_getElem? (i := 2) rfl)) (Wk.w hw 28 rfl) (Wk.w hw 14 rfl)
  obtain ⟨n, o, h1, h2, h3, _, L, rfl, ⟨rfl, N⟩, hq⟩ := rm0 l s _ hw tables_1 i0 i1 i2 i3 s.heap s.heap.size (Nat.le_refl _) hx0 p e ha hc hk s m _ below hf ((Spec.applies_iff_loose hf).mp happ).1 ⟨rfl, State.Warmed39.refl s, rfl, hch⟩ trivial
  exact ⟨n, _, h1, h2, h3, hpost _ _ _ _ _ _ ⟨Cond.after_iff.mpr rfl, Cond.after_iff.mpr (eq_i res_at (Term.int_eval (1)) rfl)⟩ ⟨hq.1, hq.2.1, hq.2.2.1, (hq.2.2.2.sift fun y hy => Or.inr (N y hy)).mono (by decide) (by decide)⟩⟩
theorem main_1_1 : Claimed_1_1 := comes_1 fun _ _ _ _ _ _ h hF => ⟨h.1, hF⟩
theorem main_1_2 : Claimed_1_2 := comes_1 fun _ _ _ _ _ _ h hF => ⟨h.2, hF⟩
end Jvm.Pilot.@@N@@
namespace Jvm.Pilot.@@N@@
open Jvm Jvm.ClassFile Sem Op Lib Jvm.Free Jvm.Stand Jvm.Pilot.@@N@@.Jvm.D
/-! MADE BY PROGRAM (witnessworld.py) out of the Statement's table words and the real class files: 22 classes; the members and pool entries that the words name. The judged class is class 1, her method 1. -/
namespace start1
open Jvm.ClassFile
def u (s : String) : CpInfo := .utf8 (stringToUtf16 s)
/-- a pool by its gaps: so many unusable entries, then the entry; so many at the end -/
def gap : Nat → List CpInfo → List CpInfo
  | 0, r => r
  | n + 1, r => .unusable :: gap n r
def poolList (es : List (Nat × CpInfo)) (last : Nat) : List CpInfo := es.foldr (fun e r => gap e.1 (e.2 :: r)) (gap last [])
def pool (es : List (Nat × CpInfo)) (last : Nat) : Array CpInfo := ⟨poolList es last⟩
def fileOf (pool : Array CpInfo) (this : Nat) (attrs : Array Attribute := #[]) (ms : Array MethodInfo := #[]) (fl : Nat := 33) (sup : Nat := 0) (ifs : Array Nat := #[]) (fds : Array FieldInfo := #[]) : ClassFile where
  minorVersion := 0
  majorVersion := 65
  constantPool := pool
  accessFlags := fl
  thisClass := this
  superClass := sup
  interfaces := ifs
  fields := fds
  methods := ms
  attributes := attrs
def plain (name : String) (sup : Option ClassId) : Class where
  name := name
  kind := .ordinary
  loader := none
  accessFlags := 33
  super := sup
  interfaces := #[]
  cf := none
  fields := #[]
  methods := #[]
  instanceTypes := #[]
  staticTypes := #[]
  resolved := #[]
  callSites := []
  init := .initialized
  statics := none
  mirror := none

def pool0 : Array CpInfo := pool [(5, u "<init>"), (0, u "()V"), (1, .class_ 10), (1, u "java/lang/Object")] 113

def k0c0 : Code := { maxStack := 0, maxLocals := 1, code := object_method_1_code, exceptionTable := #[], attributes := #[] }
def k0m0 : Method := { name := "<init>", desc := "()V", sig := { parameters := [], returnType := none }, accessFlags := 1, code := some k0c0 }
/-- java/lang/Object -/
def k0 : Class := { plain "java/lang/Object" none with
  accessFlags := 33
  interfaces := #[]
  cf := some (fileOf pool0 8 #[] #[{ accessFlags := 1, nameIndex := 5, descriptorIndex := 6, attributes := #[] }] 33 0 #[] #[])
  fields := #[]
  methods := #[k0m0]
  instanceTypes := #[]
  staticTypes := #[]
  resolved := Array.replicate 124 none
  statics := none }

def pool1 : Array CpInfo := pool [(2, .class_ 4), (1, u "java/lang/Object"), (0, u "<init>"), (0, u "()V"), (0, .class_ 8), (0, u "com/example/acomp/acomp/HoaLexer$Token"), (0, .methodref 10 11), (0, .class_ 12), (0, .nameAndType 13 14), (0, u "com/example/acomp/acomp/TokenIsPinLaw"), (0, u "kindOf"), (0, u "(I)Lcom/example/acomp/acomp/HoaLexer$Kind;"), (0, .methodref 10 16), (0, .nameAndType 17 18), (0, u "str"), (0, u "(ICC)Ljava/lang/String;"), (0, .methodref 7 20), (0, .nameAndType 5 21), (0, u "(Lcom/example/acomp/acomp/HoaLexer$Kind;Ljava/lang/String;I)V"), (0, .methodref 7 23), (0, .nameAndType 24 25), (0, u "is"), (0, u "(Lcom/example/acomp/acomp/HoaLexer$Kind;Ljava/lang/String;)Z"), (0, .class_ 27), (0, u "java/lang/String"), (0, .methodref 26 29), (0, .nameAndType 5 30), (0, u "([C)V"), (0, .fieldref 32 33), (0, .class_ 34), (0, .nameAndType 35 36), (0, u "com/example/acomp/acomp/HoaLexer$Kind"), (0, u "HEADER_NAME"), (0, u "Lcom/example/acomp/acomp/HoaLexer$Kind;"), (0, .fieldref 32 38), (0, .nameAndType 39 36), (0, u "IDENTIFIER"), (0, .fieldref 32 41), (0, .nameAndType 42 36), (0, u "INTEGER"), (0, .fieldref 32 44), (0, .nameAndType 45 36), (0, u "STRING"), (0, .fieldref 32 47), (0, .nameAndType 48 36), (0, u "ALIAS"), (0, .fieldref 32 50), (0, .nameAndType 51 36), (0, u "PUNCTUATION"), (0, .fieldref 32 53), (0, .nameAndType 54 36), (0, u "BODY"), (0, .fieldref 32 56), (0, .nameAndType 57 36), (0, u "END"), (0, .fieldref 32 59), (0, .nameAndType 60 36), (0, u "ABORT"), (0, .fieldref 32 62), (0, .nameAndType 63 36), (0, u "END_OF_INPUT"), (2, u "law"), (0, u "(IIII)Z")] 8

def k1m0 : Method := { name := "<init>", desc := "()V", sig := { parameters := [], returnType := none }, accessFlags := 1, code := none }
def k1c1 : Code := { maxStack := 6, maxLocals := 15, code := code, exceptionTable := #[], attributes := #[] }
def k1m1 : Method := { name := "law", desc := "(IIII)Z", sig := { parameters := [.int, .int, .int, .int], returnType := some .boolean }, accessFlags := 9, code := some k1c1 }
def k1c2 : Code := { maxStack := 6, maxLocals := 3, code := method_3_code, exceptionTable := #[], attributes := #[] }
def k1m2 : Method := { name := "str", desc := "(ICC)Ljava/lang/String;", sig := { parameters := [.int, .char, .char], returnType := some (.object "java/lang/String") }, accessFlags := 10, code := some k1c2 }
def k1c3 : Code := { maxStack := 2, maxLocals := 1, code := method_4_code, exceptionTable := #[], attributes := #[] }
def k1m3 : Method := { name := "kindOf", desc := "(I)Lcom/example/acomp/acomp/HoaLexer$Kind;", sig := { parameters := [.int], returnType := some (.object "com/example/acomp/acomp/HoaLexer$Kind") }, accessFlags := 10, code := some k1c3 }
/-- com/example/acomp/acomp/TokenIsPinLaw -/
def k1 : Class := { plain "com/example/acomp/acomp/TokenIsPinLaw" (some 0) with
  accessFlags := 49
  interfaces := #[]
  cf := some (fileOf pool1 10 #[] #[{ accessFlags := 1, nameIndex := 5, descriptorIndex := 6, attributes := #[] }, { accessFlags := 9, nameIndex := 66, descriptorIndex := 67, attributes := #[] }, { accessFlags := 10, nameIndex := 17, descriptorIndex := 18, attributes := #[] }, { accessFlags := 10, nameIndex := 13, descriptorIndex := 14, attributes := #[] }] 49 2 #[] #[])
  fields := #[]
  methods := #[k1m0, k1m1, k1m2, k1m3]
  instanceTypes := #[]
  staticTypes := #[]
  resolved := Array.replicate 76 none
  statics := none }

def pool2 : Array CpInfo := pool [(1, .methodref 2 3), (0, .class_ 4), (0, .nameAndType 5 6), (0, u "java/lang/Object"), (0, u "<init>"), (0, u "()V"), (0, .fieldref 8 9), (0, .class_ 10), (0, .nameAndType 11 12), (0, u "com/example/acomp/acomp/HoaLexer$Token"), (0, u "kind"), (0, u "Lcom/example/acomp/acomp/HoaLexer$Kind;"), (0, .fieldref 8 14), (0, .nameAndType 15 16), (0, u "text"), (0, u "Ljava/lang/String;"), (0, .fieldref 8 18), (0, .nameAndType 19 20), (0, u "line"), (0, u "I"), (0, .methodref 22 23), (0, .class_ 24), (0, .nameAndType 25 26), (0, u "java/lang/String"), (0, u "equals"), (0, u "(Ljava/lang/Object;)Z"), (15, u "(Lcom/example/acomp/acomp/HoaLexer$Kind;Ljava/lang/String;I)V"), (4, u "is"), (0, u "(Lcom/example/acomp/acomp/HoaLexer$Kind;Ljava/lang/String;)Z"), (5, .class_ 55), (0, u "com/example/acomp/acomp/HoaLexer")] 19

def k2c0 : Code := { maxStack := 2, maxLocals := 4, code := prog_12_method_1_code, exceptionTable := #[], attributes := #[] }
def k2m0 : Method := { name := "<init>", desc := "(Lcom/example/acomp/acomp/HoaLexer$Kind;Ljava/lang/String;I)V", sig := { parameters := [(.object "com/example/acomp/acomp/HoaLexer$Kind"), (.object "java/lang/String"), .int], returnType := none }, accessFlags := 0, code := some k2c0 }
def k2c1 : Code := { maxStack := 2, maxLocals := 3, code := prog_12_method_5_code, exceptionTable := #[], attributes := #[] }
def k2m1 : Method := { name := "is", desc := "(Lcom/example/acomp/acomp/HoaLexer$Kind;Ljava/lang/String;)Z", sig := { parameters := [(.object "com/example/acomp/acomp/HoaLexer$Kind"), (.object "java/lang/String")], returnType := some .boolean }, accessFlags := 0, code := some k2c1 }
/-- com/example/acomp/acomp/HoaLexer$Token -/
def k2 : Class := { plain "com/example/acomp/acomp/HoaLexer$Token" (some 0) with
  accessFlags := 32
  interfaces := #[]
  cf := some (fileOf pool2 8 #[.nestHost 54] #[{ accessFlags := 0, nameIndex := 5, descriptorIndex := 42, attributes := #[] }, { accessFlags := 0, nameIndex := 47, descriptorIndex := 48, attributes := #[] }] 32 2 #[] #[{ accessFlags := 18, nameIndex := 11, descriptorIndex := 12, attributes := #[] }, { accessFlags := 18, nameIndex := 15, descriptorIndex := 16, attributes := #[] }, { accessFlags := 18, nameIndex := 19, descriptorIndex := 20, attributes := #[] }])
  fields := #[{ name := "kind", type := (.object "com/example/acomp/acomp/HoaLexer$Kind"), accessFlags := 18, slot := 0, constantValue := 0 }, { name := "text", type := (.object "java/lang/String"), accessFlags := 18, slot := 1, constantValue := 0 }, { name := "line", type := .int, accessFlags := 18, slot := 2, constantValue := 0 }]
  methods := #[k2m0, k2m1]
  instanceTypes := #[(.object "com/example/acomp/acomp/HoaLexer$Kind"), (.object "java/lang/String"), .int]
  staticTypes := #[]
  resolved := Array.replicate 75 none
  statics := none }

def pool3 : Array CpInfo := pool [(1, .class_ 2), (0, u "java/lang/constant/Constable"), (0, .class_ 4), (0, u "java/lang/Object")] 6

/-- java/lang/constant/Constable -/
def k3 : Class := { plain "java/lang/constant/Constable" (some 0) with
  accessFlags := 1537
  interfaces := #[]
  cf := some (fileOf pool3 1 #[] #[] 1537 3 #[] #[])
  fields := #[]
  methods := #[]
  instanceTypes := #[]
  staticTypes := #[]
  resolved := Array.replicate 11 none
  statics := none }

def pool4 : Array CpInfo := pool [(1, .class_ 2), (0, u "java/lang/Comparable"), (0, .class_ 4), (0, u "java/lang/Object")] 7

/-- java/lang/Comparable -/
def k4 : Class := { plain "java/lang/Comparable" (some 0) with
  accessFlags := 1537
  interfaces := #[]
  cf := some (fileOf pool4 1 #[] #[] 1537 3 #[] #[])
  fields := #[]
  methods := #[]
  instanceTypes := #[]
  staticTypes := #[]
  resolved := Array.replicate 12 none
  statics := none }

def pool5 : Array CpInfo := pool [(1, .class_ 2), (0, u "java/io/Serializable"), (0, .class_ 4), (0, u "java/lang/Object")] 2

/-- java/io/Serializable -/
def k5 : Class := { plain "java/io/Serializable" (some 0) with
  accessFlags := 1537
  interfaces := #[]
  cf := some (fileOf pool5 1 #[] #[] 1537 3 #[] #[])
  fields := #[]
  methods := #[]
  instanceTypes := #[]
  staticTypes := #[]
  resolved := Array.replicate 7 none
  statics := none }

def pool6 : Array CpInfo := pool [(2, .class_ 4), (1, u "java/lang/Enum"), (0, u "name"), (0, u "Ljava/lang/String;"), (2, u "ordinal"), (0, u "I"), (1, .class_ 14), (1, u "java/lang/Object"), (4, u "hash"), (86, .class_ 108), (1, u "java/lang/Enum$EnumDesc"), (2, .class_ 112), (0, u "java/lang/constant/Constable"), (0, .class_ 114), (0, u "java/lang/Comparable"), (0, .class_ 116), (0, u "java/io/Serializable")] 87

/-- java/lang/Enum -/
def k6 : Class := { plain "java/lang/Enum" (some 0) with
  accessFlags := 1057
  interfaces := #[3, 4, 5]
  cf := some (fileOf pool6 2 #[.nestMembers #[106]] #[] 1057 12 #[111, 113, 115] #[{ accessFlags := 18, nameIndex := 5, descriptorIndex := 6, attributes := #[] }, { accessFlags := 18, nameIndex := 9, descriptorIndex := 10, attributes := #[] }, { accessFlags := 2, nameIndex := 19, descriptorIndex := 10, attributes := #[] }])
  fields := #[{ name := "name", type := (.object "java/lang/String"), accessFlags := 18, slot := 0, constantValue := 0 }, { name := "ordinal", type := .int, accessFlags := 18, slot := 1, constantValue := 0 }, { name := "hash", type := .int, accessFlags := 2, slot := 2, constantValue := 0 }]
  methods := #[]
  instanceTypes := #[(.object "java/lang/String"), .int, .int]
  staticTypes := #[]
  resolved := Array.replicate 204 none
  statics := none }

def pool7 : Array CpInfo := pool [(1, .class_ 2), (0, u "com/example/acomp/acomp/HoaLexer$Kind"), (2, u "HEADER_NAME"), (0, u "Lcom/example/acomp/acomp/HoaLexer$Kind;"), (2, u "IDENTIFIER"), (2, u "INTEGER"), (2, u "STRING"), (2, u "ALIAS"), (2, u "PUNCTUATION"), (2, u "BODY"), (2, u "END"), (2, u "ABORT"), (2, u "END_OF_INPUT"), (2, u "$VALUES"), (0, u "[Lcom/example/acomp/acomp/HoaLexer$Kind;"), (6, .class_ 46), (1, u "java/lang/Enum"), (33, .class_ 81), (0, u "com/example/acomp/acomp/HoaLexer")] 2

/-- com/example/acomp/acomp/HoaLexer$Kind -/
def k7 : Class := { plain "com/example/acomp/acomp/HoaLexer$Kind" (some 6) with
  accessFlags := 16432
  interfaces := #[]
  cf := some (fileOf pool7 1 #[.nestHost 80] #[] 16432 44 #[] #[{ accessFlags := 16409, nameIndex := 5, descriptorIndex := 6, attributes := #[] }, { accessFlags := 16409, nameIndex := 9, descriptorIndex := 6, attributes := #[] }, { accessFlags := 16409, nameIndex := 12, descriptorIndex := 6, attributes := #[] }, { accessFlags := 16409, nameIndex := 15, descriptorIndex := 6, attributes := #[] }, { accessFlags := 16409, nameIndex := 18, descriptorIndex := 6, attributes := #[] }, { accessFlags := 16409, nameIndex := 21, descriptorIndex := 6, attributes := #[] }, { accessFlags := 16409, nameIndex := 24, descriptorIndex := 6, attributes := #[] }, { accessFlags := 16409, nameIndex := 27, descriptorIndex := 6, attributes := #[] }, { accessFlags := 16409, nameIndex := 30, descriptorIndex := 6, attributes := #[] }, { accessFlags := 16409, nameIndex := 33, descriptorIndex := 6, attributes := #[] }, { accessFlags := 4122, nameIndex := 36, descriptorIndex := 37, attributes := #[] }])
  fields := #[{ name := "HEADER_NAME", type := (.object "com/example/acomp/acomp/HoaLexer$Kind"), accessFlags := 16409, slot := 0, constantValue := 0 }, { name := "IDENTIFIER", type := (.object "com/example/acomp/acomp/HoaLexer$Kind"), accessFlags := 16409, slot := 1, constantValue := 0 }, { name := "INTEGER", type := (.object "com/example/acomp/acomp/HoaLexer$Kind"), accessFlags := 16409, slot := 2, constantValue := 0 }, { name := "STRING", type := (.object "com/example/acomp/acomp/HoaLexer$Kind"), accessFlags := 16409, slot := 3, constantValue := 0 }, { name := "ALIAS", type := (.object "com/example/acomp/acomp/HoaLexer$Kind"), accessFlags := 16409, slot := 4, constantValue := 0 }, { name := "PUNCTUATION", type := (.object "com/example/acomp/acomp/HoaLexer$Kind"), accessFlags := 16409, slot := 5, constantValue := 0 }, { name := "BODY", type := (.object "com/example/acomp/acomp/HoaLexer$Kind"), accessFlags := 16409, slot := 6, constantValue := 0 }, { name := "END", type := (.object "com/example/acomp/acomp/HoaLexer$Kind"), accessFlags := 16409, slot := 7, constantValue := 0 }, { name := "ABORT", type := (.object "com/example/acomp/acomp/HoaLexer$Kind"), accessFlags := 16409, slot := 8, constantValue := 0 }, { name := "END_OF_INPUT", type := (.object "com/example/acomp/acomp/HoaLexer$Kind"), accessFlags := 16409, slot := 9, constantValue := 0 }, { name := "$VALUES", type := (.array (.object "com/example/acomp/acomp/HoaLexer$Kind")), accessFlags := 4122, slot := 10, constantValue := 0 }]
  methods := #[]
  instanceTypes := #[(.object "java/lang/String"), .int, .int]
  staticTypes := #[(.object "com/example/acomp/acomp/HoaLexer$Kind"), (.object "com/example/acomp/acomp/HoaLexer$Kind"), (.object "com/example/acomp/acomp/HoaLexer$Kind"), (.object "com/example/acomp/acomp/HoaLexer$Kind"), (.object "com/example/acomp/acomp/HoaLexer$Kind"), (.object "com/example/acomp/acomp/HoaLexer$Kind"), (.object "com/example/acomp/acomp/HoaLexer$Kind"), (.object "com/example/acomp/acomp/HoaLexer$Kind"), (.object "com/example/acomp/acomp/HoaLexer$Kind"), (.object "com/example/acomp/acomp/HoaLexer$Kind"), (.array (.object "com/example/acomp/acomp/HoaLexer$Kind"))]
  resolved := Array.replicate 84 none
  statics := some 0 }

def pool8 : Array CpInfo := pool [(2, .class_ 4), (1, u "java/lang/CharSequence"), (42, .class_ 48), (0, u "java/lang/CharSequence$1CodePointIterator"), (10, .class_ 60), (0, u "java/lang/CharSequence$1CharIterator"), (5, .class_ 67), (0, u "java/lang/Object")] 63

/-- java/lang/CharSequence -/
def k8 : Class := { plain "java/lang/CharSequence" (some 0) with
  accessFlags := 1537
  interfaces := #[]
  cf := some (fileOf pool8 2 #[.nestMembers #[47, 59]] #[] 1537 66 #[] #[])
  fields := #[]
  methods := #[]
  instanceTypes := #[]
  staticTypes := #[]
  resolved := Array.replicate 131 none
  statics := none }

def pool9 : Array CpInfo := pool [(1, .class_ 2), (0, u "java/lang/constant/ConstantDesc"), (0, .class_ 4), (0, u "java/lang/Object")] 32

/-- java/lang/constant/ConstantDesc -/
def k9 : Class := { plain "java/lang/constant/ConstantDesc" (some 0) with
  accessFlags := 1537
  interfaces := #[]
  cf := some (fileOf pool9 1 #[] #[] 1537 3 #[] #[])
  fields := #[]
  methods := #[]
  instanceTypes := #[]
  staticTypes := #[]
  resolved := Array.replicate 37 none
  statics := none }

def pool10 : Array CpInfo := pool [(1, .methodref 2 3), (0, .class_ 4), (0, .nameAndType 5 6), (0, u "java/lang/Object"), (0, u "<init>"), (0, u "()V"), (0, .string 8), (0, u ""), (0, .fieldref 10 11), (0, .class_ 12), (0, .nameAndType 13 14), (0, u "java/lang/String"), (0, u "value"), (0, u "[B"), (0, .fieldref 10 16), (0, .nameAndType 17 18), (0, u "coder"), (0, u "B"), (2, u "hash"), (0, u "I"), (2, u "hashIsZero"), (0, u "Z"), (0, .methodref 10 28), (0, .nameAndType 5 29), (0, u "([CIILjava/lang/Void;)V"), (8, .fieldref 10 39), (0, .nameAndType 40 26), (0, u "COMPACT_STRINGS"), (1, .class_ 44), (1, u "java/lang/StringUTF16"), (0, u "compress"), (1, .methodref 42 48), (0, .nameAndType 49 50), (0, u "coderFromArrayLen"), (0, u "([BI)B"), (56, .class_ 109), (1, u "java/lang/StringLatin1"), (67, .methodref 42 178), (0, .nameAndType 45 179), (0, u "([CII)[B"), (361, .methodref 107 542), (0, .nameAndType 543 544), (0, u "equals"), (0, u "([B[B)Z"), (28, u "(Ljava/lang/Object;)Z"), (1, .class_ 576), (0, u "java/lang/CharSequence"), (22, u "CASE_INSENSITIVE_ORDER"), (0, u "Ljava/util/Comparator;"), (409, u "([C)V"), (90, u "serialPersistentFields"), (0, u "[Ljava/io/ObjectStreamField;"), (0, .class_ 1104), (0, u "java/lang/String$CaseInsensitiveComparator"), (1, .class_ 1107), (0, u "java/io/Serializable"), (0, .class_ 1109), (0, u "java/lang/Comparable"), (0, .class_ 1111), (0, u "java/lang/constant/Constable"), (0, .class_ 1113), (0, u "java/lang/constant/ConstantDesc"), (2, u "serialVersionUID"), (0, u "J"), (3, u "REPL"), (0, u "C"), (2, u "LATIN1"), (1, u "UTF16")] 323

def k10m0 : Method := { name := "<init>", desc := "()V", sig := { parameters := [], returnType := none }, accessFlags := 1, code := none }
def k10c1 : Code := { maxStack := 5, maxLocals := 2, code := jdk_42_method_3_code, exceptionTable := #[], attributes := #[] }
def k10m1 : Method := { name := "<init>", desc := "([C)V", sig := { parameters := [(.array .char)], returnType := none }, accessFlags := 1, code := some k10c1 }
def k10c2 : Code := { maxStack := 2, maxLocals := 3, code := jdk_42_method_66_code, exceptionTable := #[], attributes := #[] }
def k10m2 : Method := { name := "equals", desc := "(Ljava/lang/Object;)Z", sig := { parameters := [(.object "java/lang/Object")], returnType := some .boolean }, accessFlags := 1, code := some k10c2 }
def k10c3 : Code := { maxStack := 4, maxLocals := 6, code := jdk_42_method_149_code, exceptionTable := #[], attributes := #[] }
def k10m3 : Method := { name := "<init>", desc := "([CIILjava/lang/Void;)V", sig := { parameters := [(.array .char), .int, .int, (.object "java/lang/Void")], returnType := none }, accessFlags := 2, code := some k10c3 }
/-- java/lang/String -/
def k10 : Class := { plain "java/lang/String" (some 0) with
  accessFlags := 49
  interfaces := #[5, 4, 8, 3, 9]
  cf := some (fileOf pool10 10 #[.nestMembers #[1103]] #[{ accessFlags := 1, nameIndex := 5, descriptorIndex := 6, attributes := #[] }, { accessFlags := 1, nameIndex := 5, descriptorIndex := 1010, attributes := #[] }, { accessFlags := 1, nameIndex := 543, descriptorIndex := 573, attributes := #[] }, { accessFlags := 2, nameIndex := 5, descriptorIndex := 29, attributes := #[] }] 49 2 #[1106, 1108, 575, 1110, 1112] #[{ accessFlags := 18, nameIndex := 13, descriptorIndex := 14, attributes := #[] }, { accessFlags := 18, nameIndex := 17, descriptorIndex := 18, attributes := #[] }, { accessFlags := 2, nameIndex := 21, descriptorIndex := 22, attributes := #[] }, { accessFlags := 2, nameIndex := 25, descriptorIndex := 26, attributes := #[] }, { accessFlags := 26, nameIndex := 1116, descriptorIndex := 1117, attributes := #[] }, { accessFlags := 24, nameIndex := 40, descriptorIndex := 26, attributes := #[] }, { accessFlags := 26, nameIndex := 1101, descriptorIndex := 1102, attributes := #[] }, { accessFlags := 26, nameIndex := 1121, descriptorIndex := 1122, attributes := #[] }, { accessFlags := 25, nameIndex := 599, descriptorIndex := 600, attributes := #[] }, { accessFlags := 24, nameIndex := 1125, descriptorIndex := 18, attributes := #[] }, { accessFlags := 24, nameIndex := 1127, descriptorIndex := 18, attributes := #[] }])
  fields := #[{ name := "value", type := (.array .byte), accessFlags := 18, slot := 0, constantValue := 0 }, { name := "coder", type := .byte, accessFlags := 18, slot := 1, constantValue := 0 }, { name := "hash", type := .int, accessFlags := 2, slot := 2, constantValue := 0 }, { name := "hashIsZero", type := .boolean, accessFlags := 2, slot := 3, constantValue := 0 }, { name := "serialVersionUID", type := .long, accessFlags := 26, slot := 0, constantValue := 0 }, { name := "COMPACT_STRINGS", type := .boolean, accessFlags := 24, slot := 1, constantValue := 0 }, { name := "serialPersistentFields", type := (.array (.object "java/io/ObjectStreamField")), accessFlags := 26, slot := 2, constantValue := 0 }, { name := "REPL", type := .char, accessFlags := 26, slot := 3, constantValue := 0 }, { name := "CASE_INSENSITIVE_ORDER", type := (.object "java/util/Comparator"), accessFlags := 25, slot := 4, constantValue := 0 }, { name := "LATIN1", type := .byte, accessFlags := 24, slot := 5, constantValue := 0 }, { name := "UTF16", type := .byte, accessFlags := 24, slot := 6, constantValue := 0 }]
  methods := #[k10m0, k10m1, k10m2, k10m3]
  instanceTypes := #[(.array .byte), .byte, .int, .boolean]
  staticTypes := #[.long, .boolean, (.array (.object "java/io/ObjectStreamField")), .char, (.object "java/util/Comparator"), .byte, .byte]
  resolved := Array.replicate 1451 none
  statics := some 1 }

def pool11 : Array CpInfo := pool [(4, .class_ 6), (1, u "java/lang/Object"), (0, u "<init>"), (0, u "()V"), (5, .class_ 16), (1, u "java/lang/StringLatin1"), (104, u "$assertionsDisabled"), (0, u "Z"), (98, .class_ 223), (1, u "java/lang/StringLatin1$LinesSpliterator"), (57, u "equals"), (0, u "([B[B)Z"), (107, .class_ 391), (0, u "java/lang/StringLatin1$CharsSpliterator")] 3

def k11m0 : Method := { name := "<init>", desc := "()V", sig := { parameters := [], returnType := none }, accessFlags := 0, code := none }
def k11c1 : Code := { maxStack := 3, maxLocals := 3, code := jdk_43_method_13_code, exceptionTable := #[], attributes := #[] }
def k11m1 : Method := { name := "equals", desc := "([B[B)Z", sig := { parameters := [(.array .byte), (.array .byte)], returnType := some .boolean }, accessFlags := 9, code := some k11c1 }
/-- java/lang/StringLatin1 -/
def k11 : Class := { plain "java/lang/StringLatin1" (some 0) with
  accessFlags := 48
  interfaces := #[]
  cf := some (fileOf pool11 14 #[.nestMembers #[390, 221]] #[{ accessFlags := 0, nameIndex := 7, descriptorIndex := 8, attributes := #[] }, { accessFlags := 9, nameIndex := 281, descriptorIndex := 282, attributes := #[] }] 48 4 #[] #[{ accessFlags := 4120, nameIndex := 121, descriptorIndex := 122, attributes := #[] }])
  fields := #[{ name := "$assertionsDisabled", type := .boolean, accessFlags := 4120, slot := 0, constantValue := 0 }]
  methods := #[k11m0, k11m1]
  instanceTypes := #[]
  staticTypes := #[.boolean]
  resolved := Array.replicate 395 none
  statics := none }

def pool12 : Array CpInfo := pool [(6, .class_ 8), (1, u "java/lang/Object"), (0, u "<init>"), (0, u "()V"), (1, .class_ 14), (1, u "java/lang/StringUTF16"), (31, u "$assertionsDisabled"), (0, u "Z"), (13, u "HI_BYTE_SHIFT"), (0, u "I"), (2, u "LO_BYTE_SHIFT"), (49, .methodref 12 116), (0, .nameAndType 117 118), (0, u "compress"), (0, u "([CI[BII)I"), (3, u "([CII)[B"), (138, u "coderFromArrayLen"), (0, u "([BI)B"), (106, .class_ 371), (1, u "java/lang/StringUTF16$LinesSpliterator"), (58, u "MAX_LENGTH"), (196, .class_ 628), (0, u "java/lang/StringUTF16$CodePointsSpliterator"), (0, .class_ 630), (0, u "java/lang/StringUTF16$CharsSpliterator")] 4

def k12m0 : Method := { name := "<init>", desc := "()V", sig := { parameters := [], returnType := none }, accessFlags := 0, code := none }
def k12c1 : Code := { maxStack := 2, maxLocals := 2, code := jdk_52_method_15_code, exceptionTable := #[], attributes := #[] }
def k12m1 : Method := { name := "coderFromArrayLen", desc := "([BI)B", sig := { parameters := [(.array .byte), .int], returnType := some .byte }, accessFlags := 8, code := some k12c1 }
def k12c2 : Code := { maxStack := 5, maxLocals := 6, code := jdk_52_method_16_code, exceptionTable := #[], attributes := #[] }
def k12m2 : Method := { name := "compress", desc := "([CII)[B", sig := { parameters := [(.array .char), .int, .int], returnType := some (.array .byte) }, accessFlags := 9, code := some k12c2 }
def k12c3 : Code := { maxStack := 3, maxLocals := 7, code := jdk_52_method_21_code, exceptionTable := #[], attributes := #[] }
def k12m3 : Method := { name := "compress", desc := "([CI[BII)I", sig := { parameters := [(.array .char), .int, (.array .byte), .int, .int], returnType := some .int }, accessFlags := 9, code := some k12c3 }
/-- java/lang/StringUTF16 -/
def k12 : Class := { plain "java/lang/StringUTF16" (some 0) with
  accessFlags := 48
  interfaces := #[]
  cf := some (fileOf pool12 12 #[.nestMembers #[627, 629, 369]] #[{ accessFlags := 0, nameIndex := 9, descriptorIndex := 10, attributes := #[] }, { accessFlags := 8, nameIndex := 261, descriptorIndex := 262, attributes := #[] }, { accessFlags := 9, nameIndex := 117, descriptorIndex := 122, attributes := #[] }, { accessFlags := 9, nameIndex := 117, descriptorIndex := 118, attributes := #[] }] 48 6 #[] #[{ accessFlags := 26, nameIndex := 61, descriptorIndex := 62, attributes := #[] }, { accessFlags := 26, nameIndex := 65, descriptorIndex := 62, attributes := #[] }, { accessFlags := 24, nameIndex := 430, descriptorIndex := 62, attributes := #[] }, { accessFlags := 4120, nameIndex := 46, descriptorIndex := 47, attributes := #[] }])
  fields := #[{ name := "HI_BYTE_SHIFT", type := .int, accessFlags := 26, slot := 0, constantValue := 0 }, { name := "LO_BYTE_SHIFT", type := .int, accessFlags := 26, slot := 1, constantValue := 0 }, { name := "MAX_LENGTH", type := .int, accessFlags := 24, slot := 2, constantValue := 0 }, { name := "$assertionsDisabled", type := .boolean, accessFlags := 4120, slot := 3, constantValue := 0 }]
  methods := #[k12m0, k12m1, k12m2, k12m3]
  instanceTypes := #[]
  staticTypes := #[.int, .int, .int, .boolean]
  resolved := Array.replicate 635 none
  statics := none }

def pool13 : Array CpInfo := pool [(2, .class_ 4), (1, u "java/lang/Object"), (0, u "<init>"), (0, u "()V"), (17, .class_ 26), (1, u "jdk/internal/util/Preconditions"), (28, .class_ 56), (0, u "jdk/internal/util/Preconditions$4"), (57, .class_ 115), (0, u "jdk/internal/util/Preconditions$1"), (7, u "SIOOBE_FORMATTER"), (0, u "Ljava/util/function/BiFunction;"), (0, .class_ 126), (0, u "jdk/internal/util/Preconditions$2"), (3, u "AIOOBE_FORMATTER"), (0, .class_ 132), (0, u "jdk/internal/util/Preconditions$3"), (3, u "IOOBE_FORMATTER")] 57

def k13m0 : Method := { name := "<init>", desc := "()V", sig := { parameters := [], returnType := none }, accessFlags := 1, code := none }
/-- jdk/internal/util/Preconditions -/
def k13 : Class := { plain "jdk/internal/util/Preconditions" (some 0) with
  accessFlags := 33
  interfaces := #[]
  cf := some (fileOf pool13 24 #[.nestMembers #[55, 131, 125, 114]] #[{ accessFlags := 1, nameIndex := 5, descriptorIndex := 6, attributes := #[] }] 33 2 #[] #[{ accessFlags := 25, nameIndex := 123, descriptorIndex := 124, attributes := #[] }, { accessFlags := 25, nameIndex := 130, descriptorIndex := 124, attributes := #[] }, { accessFlags := 25, nameIndex := 136, descriptorIndex := 124, attributes := #[] }])
  fields := #[{ name := "SIOOBE_FORMATTER", type := (.object "java/util/function/BiFunction"), accessFlags := 25, slot := 0, constantValue := 0 }, { name := "AIOOBE_FORMATTER", type := (.object "java/util/function/BiFunction"), accessFlags := 25, slot := 1, constantValue := 0 }, { name := "IOOBE_FORMATTER", type := (.object "java/util/function/BiFunction"), accessFlags := 25, slot := 2, constantValue := 0 }]
  methods := #[k13m0]
  instanceTypes := #[]
  staticTypes := #[(.object "java/util/function/BiFunction"), (.object "java/util/function/BiFunction"), (.object "java/util/function/BiFunction")]
  resolved := Array.replicate 194 none
  statics := some 2 }

def pool14 : Array CpInfo := pool [(9, u "<init>"), (6, .class_ 18), (1, u "java/lang/Object"), (0, u "()V"), (1, .class_ 23), (1, u "jdk/internal/util/ArraysSupport"), (0, u "LOG2_ARRAY_LONG_INDEX_SCALE"), (0, u "I"), (2, u "U"), (0, u "Ljdk/internal/misc/Unsafe;"), (8, u "BIG_ENDIAN"), (0, u "Z"), (8, u "LOG2_BYTE_BIT_SIZE"), (4, u "LOG2_ARRAY_INT_INDEX_SCALE"), (54, u "JLA"), (0, u "Ljdk/internal/access/JavaLangAccess;"), (11, u "LOG2_ARRAY_BOOLEAN_INDEX_SCALE"), (9, u "LOG2_ARRAY_BYTE_INDEX_SCALE"), (5, u "LOG2_ARRAY_CHAR_INDEX_SCALE"), (5, u "LOG2_ARRAY_SHORT_INDEX_SCALE"), (18, u "LOG2_ARRAY_FLOAT_INDEX_SCALE"), (24, u "LOG2_ARRAY_DOUBLE_INDEX_SCALE"), (89, u "T_BOOLEAN"), (2, u "T_CHAR"), (1, u "T_FLOAT"), (1, u "T_DOUBLE"), (1, u "T_BYTE"), (1, u "T_SHORT"), (1, u "T_INT"), (1, u "T_LONG"), (1, u "SOFT_MAX_ARRAY_LENGTH")] 83

def k14m0 : Method := { name := "<init>", desc := "()V", sig := { parameters := [], returnType := none }, accessFlags := 2, code := none }
/-- jdk/internal/util/ArraysSupport -/
def k14 : Class := { plain "jdk/internal/util/ArraysSupport" (some 0) with
  accessFlags := 33
  interfaces := #[]
  cf := some (fileOf pool14 21 #[] #[{ accessFlags := 2, nameIndex := 9, descriptorIndex := 19, attributes := #[] }] 33 16 #[] #[{ accessFlags := 24, nameIndex := 28, descriptorIndex := 29, attributes := #[] }, { accessFlags := 26, nameIndex := 38, descriptorIndex := 39, attributes := #[] }, { accessFlags := 25, nameIndex := 121, descriptorIndex := 25, attributes := #[] }, { accessFlags := 25, nameIndex := 131, descriptorIndex := 25, attributes := #[] }, { accessFlags := 25, nameIndex := 137, descriptorIndex := 25, attributes := #[] }, { accessFlags := 25, nameIndex := 143, descriptorIndex := 25, attributes := #[] }, { accessFlags := 25, nameIndex := 53, descriptorIndex := 25, attributes := #[] }, { accessFlags := 25, nameIndex := 24, descriptorIndex := 25, attributes := #[] }, { accessFlags := 25, nameIndex := 162, descriptorIndex := 25, attributes := #[] }, { accessFlags := 25, nameIndex := 187, descriptorIndex := 25, attributes := #[] }, { accessFlags := 26, nameIndex := 48, descriptorIndex := 25, attributes := #[] }, { accessFlags := 25, nameIndex := 277, descriptorIndex := 25, attributes := #[] }, { accessFlags := 25, nameIndex := 280, descriptorIndex := 25, attributes := #[] }, { accessFlags := 25, nameIndex := 282, descriptorIndex := 25, attributes := #[] }, { accessFlags := 25, nameIndex := 284, descriptorIndex := 25, attributes := #[] }, { accessFlags := 25, nameIndex := 286, descriptorIndex := 25, attributes := #[] }, { accessFlags := 25, nameIndex := 288, descriptorIndex := 25, attributes := #[] }, { accessFlags := 25, nameIndex := 290, descriptorIndex := 25, attributes := #[] }, { accessFlags := 25, nameIndex := 292, descriptorIndex := 25, attributes := #[] }, { accessFlags := 26, nameIndex := 108, descriptorIndex := 109, attributes := #[] }, { accessFlags := 25, nameIndex := 294, descriptorIndex := 25, attributes := #[] }])
  fields := #[{ name := "U", type := (.object "jdk/internal/misc/Unsafe"), accessFlags := 24, slot := 0, constantValue := 0 }, { name := "BIG_ENDIAN", type := .boolean, accessFlags := 26, slot := 1, constantValue := 0 }, { name := "LOG2_ARRAY_BOOLEAN_INDEX_SCALE", type := .int, accessFlags := 25, slot := 2, constantValue := 0 }, { name := "LOG2_ARRAY_BYTE_INDEX_SCALE", type := .int, accessFlags := 25, slot := 3, constantValue := 0 }, { name := "LOG2_ARRAY_CHAR_INDEX_SCALE", type := .int, accessFlags := 25, slot := 4, constantValue := 0 }, { name := "LOG2_ARRAY_SHORT_INDEX_SCALE", type := .int, accessFlags := 25, slot := 5, constantValue := 0 }, { name := "LOG2_ARRAY_INT_INDEX_SCALE", type := .int, accessFlags := 25, slot := 6, constantValue := 0 }, { name := "LOG2_ARRAY_LONG_INDEX_SCALE", type := .int, accessFlags := 25, slot := 7, constantValue := 0 }, { name := "LOG2_ARRAY_FLOAT_INDEX_SCALE", type := .int, accessFlags := 25, slot := 8, constantValue := 0 }, { name := "LOG2_ARRAY_DOUBLE_INDEX_SCALE", type := .int, accessFlags := 25, slot := 9, constantValue := 0 }, { name := "LOG2_BYTE_BIT_SIZE", type := .int, accessFlags := 26, slot := 10, constantValue := 0 }, { name := "T_BOOLEAN", type := .int, accessFlags := 25, slot := 11, constantValue := 0 }, { name := "T_CHAR", type := .int, accessFlags := 25, slot := 12, constantValue := 0 }, { name := "T_FLOAT", type := .int, accessFlags := 25, slot := 13, constantValue := 0 }, { name := "T_DOUBLE", type := .int, accessFlags := 25, slot := 14, constantValue := 0 }, { name := "T_BYTE", type := .int, accessFlags := 25, slot := 15, constantValue := 0 }, { name := "T_SHORT", type := .int, accessFlags := 25, slot := 16, constantValue := 0 }, { name := "T_INT", type := .int, accessFlags := 25, slot := 17, constantValue := 0 }, { name := "T_LONG", type := .int, accessFlags := 25, slot := 18, constantValue := 0 }, { name := "JLA", type := (.object "jdk/internal/access/JavaLangAccess"), accessFlags := 26, slot := 19, constantValue := 0 }, { name := "SOFT_MAX_ARRAY_LENGTH", type := .int, accessFlags := 25, slot := 20, constantValue := 0 }]
  methods := #[k14m0]
  instanceTypes := #[]
  staticTypes := #[(.object "jdk/internal/misc/Unsafe"), .boolean, .int, .int, .int, .int, .int, .int, .int, .int, .int, .int, .int, .int, .int, .int, .int, .int, .int, (.object "jdk/internal/access/JavaLangAccess"), .int]
  resolved := Array.replicate 378 none
  statics := none }

def pool15 : Array CpInfo := pool [(1, u "java/lang/Cloneable"), (0, .class_ 1), (0, u "java/lang/Object"), (0, .class_ 3)] 3

/-- java/lang/Cloneable -/
def k15 : Class := { plain "java/lang/Cloneable" (some 0) with
  accessFlags := 1537
  interfaces := #[]
  cf := some (fileOf pool15 2 #[] #[] 1537 4 #[] #[])
  fields := #[]
  methods := #[]
  instanceTypes := #[]
  staticTypes := #[]
  resolved := Array.replicate 8 none
  statics := none }

/-- the primitive byte -/
def k16 : Class := { plain "byte" none with kind := .primitive 'B', accessFlags := 0x411 }
/-- [B -/
def k17 : Class := { plain "[B" (some 0) with kind := .array 16 .byte, interfaces := #[15, 5], accessFlags := 1041 }

/-- the primitive char -/
def k18 : Class := { plain "char" none with kind := .primitive 'C', accessFlags := 0x411 }
/-- [C -/
def k19 : Class := { plain "[C" (some 0) with kind := .array 18 .char, interfaces := #[15, 5], accessFlags := 1041 }

/-- the primitive int -/
def k20 : Class := { plain "int" none with kind := .primitive 'I', accessFlags := 0x411 }
/-- [I -/
def k21 : Class := { plain "[I" (some 0) with kind := .array 20 .int, interfaces := #[15, 5], accessFlags := 1041 }

def heap : Heap := #[{ cls := 7, slots := #[.ref 3, .ref 4, .ref 5, .ref 6, .ref 7, .ref 8, .ref 9, .ref 10, .ref 11, .ref 12, .null], vm := .statics 7 },
  { cls := 10, slots := #[.long 0, .int 1, .null, .int 0, .null, .int 0, .int 0], vm := .statics 10 },
  { cls := 13, slots := #[.null, .null, .null], vm := .statics 13 },
  { cls := 7, slots := #[.null, .int 0, .int 0], vm := .none },
  { cls := 7, slots := #[.null, .int 1, .int 0], vm := .none },
  { cls := 7, slots := #[.null, .int 2, .int 0], vm := .none },
  { cls := 7, slots := #[.null, .int 3, .int 0], vm := .none },
  { cls := 7, slots := #[.null, .int 4, .int 0], vm := .none },
  { cls := 7, slots := #[.null, .int 5, .int 0], vm := .none },
  { cls := 7, slots := #[.null, .int 6, .int 0], vm := .none },
  { cls := 7, slots := #[.null, .int 7, .int 0], vm := .none },
  { cls := 7, slots := #[.null, .int 8, .int 0], vm := .none },
  { cls := 7, slots := #[.null, .int 9, .int 0], vm := .none }]
def classes : Array Class := #[k0, k1, k2, k3, k4, k5, k6, k7, k8, k9, k10, k11, k12, k13, k14, k15, k16, k17, k18, k19, k20, k21]
def interned : List (Array UInt16 × Addr) := []
def slotsUsed : Nat := 51
def theMethod : MethodId := ⟨1, 1⟩
def args0 : Array Value := #[.int 300, .int 65, .int 66, .int 3]
def aboutOver (below : List Frame) : State where
  vm := { classes := classes, interned := interned.toArray }
  heap := heap
  slotsUsed := slotsUsed
  threads := #[{ frames := .invoking theMethod args0 :: below }]
def below0 : List Frame := [.native { method := ⟨0, 0⟩, args := #[] }]
def about1 : State := aboutOver below0
def p0 : Program := .bare "" "" ""
def e0 : Env := launch0.env 0 0 0
theorem w_frames : about1.frames = Frame.invoking theMethod args0 :: below0 := rfl
set_option maxRecDepth 65536 in
theorem w_args : argsFit about1.vm theMethod args0 = true := by decide +kernel
set_option maxRecDepth 65536 in
theorem w_heap : heapFits about1 = true := by decide +kernel
set_option maxRecDepth 65536 in
theorem w_runnable : about1.curStatus? = some .runnable := by decide +kernel
set_option maxRecDepth 65536 in
theorem w_alone : about1.alone = true := by decide +kernel
set_option maxRecDepth 65536 in
theorem w_named : about1.methodNamed? x = some theMethod := by decide +kernel
set_option maxRecDepth 65536 in
theorem w_hears : about1.hears theMethod below0 = true := by decide +kernel
set_option maxRecDepth 65536 in
theorem w_ripe : about1.ripe theMethod args0 below0 = true := by decide +kernel
theorem w_running : about1.status = .running := rfl
set_option maxRecDepth 65536 in
theorem w_room : about1.hasRoom e0.platform room_1 = true :=
  launch0.hasRoom_least _ room_1 (by decide +kernel) (by decide +kernel) (by decide +kernel) (by decide +kernel) (by decide +kernel) (by decide +kernel)
theorem allAtoms_all (ts : List Jvm.Cond) (a : Array Jvm.Value) (st : Jvm.State) : (allAtoms ts).before a st = ts.all (fun c => c.before a st) := by
  induction ts with
  | nil => rfl
  | cons c t ih =>
    show (Jvm.Cond.and c (allAtoms t)).before a st = _
    rw [Jvm.Cond.before_and, ih, List.all_cons]
def words1 : List Jvm.Cond := Jvm.Cond.code x code maxLocals ret :: tables_1
/-- a 'code' word, met by the world's own term for the bytes: nothing is compared byte by byte -/
theorem code_word {y : MethodName} {bytes : ByteArray} {mx : Nat} {rt : Option FieldType} {a : Array Value} {s : State} {m : MethodId} {meth : Method} {c : Code} (h1 : s.methodNamed? y = some m) (h2 : s.vm.method? m = some meth) (h3 : meth.code = some c) (h4 : c.code = bytes)
    (h5 : (c.maxLocals == mx && c.exceptionTable.isEmpty && decide (c.maxStack ≤ mostOperands) && decide (meth.sig.returnType = rt) && !meth.locks && decide (parseMethodDescriptor y.desc = some meth.sig)) = true) : (Jvm.Cond.code y bytes mx rt).before a s = true := by
  simp only [Bool.and_eq_true, beq_iff_eq, Bool.not_eq_true', decide_eq_true_eq] at h5
  obtain ⟨⟨⟨⟨⟨g1, g2⟩, g3⟩, g4⟩, g5⟩, g6⟩ := h5
  simp [Cond.before, Cond.holds, Cond.value, h1, h2, h3, h4, g1, g2, g3, g4, g5, g6]
def isCode : Jvm.Cond → Bool
  | .code _ _ _ _ => true
  | _ => false
theorem all_split {L : List Jvm.Cond} {P : Jvm.Cond → Bool} (h1 : L.all (fun c => isCode c || P c) = true) (h2 : ∀ c ∈ L.filter isCode, P c = true) : L.all P = true := by
  refine List.all_eq_true.mpr fun c hc => ?_
  have h := List.all_eq_true.mp h1 c hc
  rcases Bool.eq_false_or_eq_true (isCode c) with hi | hi
  · exact h2 c (List.mem_filter.mpr ⟨hc, hi⟩)
  · simpa [hi] using h
set_option maxRecDepth 65536 in
theorem w_c0 : (Jvm.Cond.code x code maxLocals ret).before args0 about1 = true := code_word (m := ⟨1, 1⟩) (meth := k1m1) (c := k1c1) (by decide +kernel) rfl rfl rfl (by decide +kernel)
set_option maxRecDepth 65536 in
theorem w_c1 : (Jvm.Cond.code ({ cls := "com/example/acomp/acomp/TokenIsPinLaw", name := "kindOf", desc := "(I)Lcom/example/acomp/acomp/HoaLexer$Kind;" } : Jvm.MethodName) method_4_code (1 : Nat) (Option.some (Jvm.ClassFile.FieldType.object "com/example/acomp/acomp/HoaLexer$Kind"))).before args0 about1 = true := code_word (m := ⟨1, 3⟩) (meth := k1m3) (c := k1c3) (by decide +kernel) rfl rfl rfl (by decide +kernel)
set_option maxRecDepth 65536 in
theorem w_c2 : (Jvm.Cond.code ({ cls := "com/example/acomp/acomp/TokenIsPinLaw", name := "str", desc := "(ICC)Ljava/lang/String;" } : Jvm.MethodName) method_3_code (3 : Nat) (Option.some (Jvm.ClassFile.FieldType.object "java/lang/String"))).before args0 about1 = true := code_word (m := ⟨1, 2⟩) (meth := k1m2) (c := k1c2) (by decide +kernel) rfl rfl rfl (by decide +kernel)
set_option maxRecDepth 65536 in
theorem w_c3 : (Jvm.Cond.code ({ cls := "java/lang/String", name := "<init>", desc := "([C)V" } : Jvm.MethodName) jdk_42_method_3_code (2 : Nat) (Option.none : Option Jvm.ClassFile.FieldType)).before args0 about1 = true := code_word (m := ⟨10, 1⟩) (meth := k10m1) (c := k10c1) (by decide +kernel) rfl rfl rfl (by decide +kernel)
set_option maxRecDepth 65536 in
theorem w_c4 : (Jvm.Cond.code ({ cls := "java/lang/String", name := "<init>", desc := "([CIILjava/lang/Void;)V" } : Jvm.MethodName) jdk_42_method_149_code (6 : Nat) (Option.none : Option Jvm.ClassFile.FieldType)).before args0 about1 = true := code_word (m := ⟨10, 3⟩) (meth := k10m3) (c := k10c3) (by decide +kernel) rfl rfl rfl (by decide +kernel)
set_option maxRecDepth 65536 in
theorem w_c5 : (Jvm.Cond.code ({ cls := "java/lang/Object", name := "<init>", desc := "()V" } : Jvm.MethodName) object_method_1_code (1 : Nat) (Option.none : Option Jvm.ClassFile.FieldType)).before args0 about1 = true := code_word (m := ⟨0, 0⟩) (meth := k0m0) (c := k0c0) (by decide +kernel) rfl rfl rfl (by decide +kernel)
set_option maxRecDepth 65536 in
theorem w_c6 : (Jvm.Cond.code ({ cls := "com/example/acomp/acomp/HoaLexer$Token", name := "<init>", desc := "(Lcom/example/acomp/acomp/HoaLexer$Kind;Ljava/lang/String;I)V" } : Jvm.MethodName) prog_12_method_1_code (4 : Nat) (Option.none : Option Jvm.ClassFile.FieldType)).before args0 about1 = true := code_word (m := ⟨2, 0⟩) (meth := k2m0) (c := k2c0) (by decide +kernel) rfl rfl rfl (by decide +kernel)
set_option maxRecDepth 65536 in
theorem w_c7 : (Jvm.Cond.code ({ cls := "com/example/acomp/acomp/HoaLexer$Token", name := "is", desc := "(Lcom/example/acomp/acomp/HoaLexer$Kind;Ljava/lang/String;)Z" } : Jvm.MethodName) prog_12_method_5_code (3 : Nat) (Option.some Jvm.ClassFile.FieldType.boolean)).before args0 about1 = true := code_word (m := ⟨2, 1⟩) (meth := k2m1) (c := k2c1) (by decide +kernel) rfl rfl rfl (by decide +kernel)
set_option maxRecDepth 65536 in
theorem w_c8 : (Jvm.Cond.code ({ cls := "java/lang/String", name := "equals", desc := "(Ljava/lang/Object;)Z" } : Jvm.MethodName) jdk_42_method_66_code (3 : Nat) (Option.some Jvm.ClassFile.FieldType.boolean)).before args0 about1 = true := code_word (m := ⟨10, 2⟩) (meth := k10m2) (c := k10c2) (by decide +kernel) rfl rfl rfl (by decide +kernel)
set_option maxRecDepth 65536 in
theorem w_c9 : (Jvm.Cond.code ({ cls := "java/lang/StringLatin1", name := "equals", desc := "([B[B)Z" } : Jvm.MethodName) jdk_43_method_13_code (3 : Nat) (Option.some Jvm.ClassFile.FieldType.boolean)).before args0 about1 = true := code_word (m := ⟨11, 1⟩) (meth := k11m1) (c := k11c1) (by decide +kernel) rfl rfl rfl (by decide +kernel)
set_option maxRecDepth 65536 in
theorem w_c10 : (Jvm.Cond.code ({ cls := "java/lang/StringUTF16", name := "compress", desc := "([CII)[B" } : Jvm.MethodName) jdk_52_method_16_code (6 : Nat) (Option.some (Jvm.ClassFile.FieldType.array Jvm.ClassFile.FieldType.byte))).before args0 about1 = true := code_word (m := ⟨12, 2⟩) (meth := k12m2) (c := k12c2) (by decide +kernel) rfl rfl rfl (by decide +kernel)
set_option maxRecDepth 65536 in
theorem w_c11 : (Jvm.Cond.code ({ cls := "java/lang/StringUTF16", name := "compress", desc := "([CI[BII)I" } : Jvm.MethodName) jdk_52_method_21_code (7 : Nat) (Option.some Jvm.ClassFile.FieldType.int)).before args0 about1 = true := code_word (m := ⟨12, 3⟩) (meth := k12m3) (c := k12c3) (by decide +kernel) rfl rfl rfl (by decide +kernel)
set_option maxRecDepth 65536 in
theorem w_c12 : (Jvm.Cond.code ({ cls := "java/lang/StringUTF16", name := "coderFromArrayLen", desc := "([BI)B" } : Jvm.MethodName) jdk_52_method_15_code (2 : Nat) (Option.some Jvm.ClassFile.FieldType.byte)).before args0 about1 = true := code_word (m := ⟨12, 1⟩) (meth := k12m1) (c := k12c1) (by decide +kernel) rfl rfl rfl (by decide +kernel)
def codes1 : List Jvm.Cond := [Jvm.Cond.code x code maxLocals ret, Jvm.Cond.code ({ cls := "com/example/acomp/acomp/TokenIsPinLaw", name := "kindOf", desc := "(I)Lcom/example/acomp/acomp/HoaLexer$Kind;" } : Jvm.MethodName) method_4_code (1 : Nat) (Option.some (Jvm.ClassFile.FieldType.object "com/example/acomp/acomp/HoaLexer$Kind")), Jvm.Cond.code ({ cls := "com/example/acomp/acomp/TokenIsPinLaw", name := "str", desc := "(ICC)Ljava/lang/String;" } : Jvm.MethodName) method_3_code (3 : Nat) (Option.some (Jvm.ClassFile.FieldType.object "java/lang/String")), Jvm.Cond.code ({ cls := "java/lang/String", name := "<init>", desc := "([C)V" } : Jvm.MethodName) jdk_42_method_3_code (2 : Nat) (Option.none : Option Jvm.ClassFile.FieldType), Jvm.Cond.code ({ cls := "java/lang/String", name := "<init>", desc := "([CIILjava/lang/Void;)V" } : Jvm.MethodName) jdk_42_method_149_code (6 : Nat) (Option.none : Option Jvm.ClassFile.FieldType), Jvm.Cond.code ({ cls := "java/lang/Object", name := "<init>", desc := "()V" } : Jvm.MethodName) object_method_1_code (1 : Nat) (Option.none : Option Jvm.ClassFile.FieldType), Jvm.Cond.code ({ cls := "com/example/acomp/acomp/HoaLexer$Token", name := "<init>", desc := "(Lcom/example/acomp/acomp/HoaLexer$Kind;Ljava/lang/String;I)V" } : Jvm.MethodName) prog_12_method_1_code (4 : Nat) (Option.none : Option Jvm.ClassFile.FieldType), Jvm.Cond.code ({ cls := "com/example/acomp/acomp/HoaLexer$Token", name := "is", desc := "(Lcom/example/acomp/acomp/HoaLexer$Kind;Ljava/lang/String;)Z" } : Jvm.MethodName) prog_12_method_5_code (3 : Nat) (Option.some Jvm.ClassFile.FieldType.boolean), Jvm.Cond.code ({ cls := "java/lang/String", name := "equals", desc := "(Ljava/lang/Object;)Z" } : Jvm.MethodName) jdk_42_method_66_code (3 : Nat) (Option.some Jvm.ClassFile.FieldType.boolean), Jvm.Cond.code ({ cls := "java/lang/StringLatin1", name := "equals", desc := "([B[B)Z" } : Jvm.MethodName) jdk_43_method_13_code (3 : Nat) (Option.some Jvm.ClassFile.FieldType.boolean), Jvm.Cond.code ({ cls := "java/lang/StringUTF16", name := "compress", desc := "([CII)[B" } : Jvm.MethodName) jdk_52_method_16_code (6 : Nat) (Option.some (Jvm.ClassFile.FieldType.array Jvm.ClassFile.FieldType.byte)), Jvm.Cond.code ({ cls := "java/lang/StringUTF16", name := "compress", desc := "([CI[BII)I" } : Jvm.MethodName) jdk_52_method_21_code (7 : Nat) (Option.some Jvm.ClassFile.FieldType.int), Jvm.Cond.code ({ cls := "java/lang/StringUTF16", name := "coderFromArrayLen", desc := "([BI)B" } : Jvm.MethodName) jdk_52_method_15_code (2 : Nat) (Option.some Jvm.ClassFile.FieldType.byte)]
set_option maxRecDepth 65536 in
theorem codes_eq : words1.filter isCode = codes1 := rfl
theorem w_codes : ∀ c ∈ words1.filter isCode, c.before args0 about1 = true := by
  rw [codes_eq]
  intro c hc
  simp only [codes1, List.mem_cons, List.not_mem_nil, or_false] at hc
  rcases hc with rfl | rfl | rfl | rfl | rfl | rfl | rfl | rfl | rfl | rfl | rfl | rfl | rfl
  · exact w_c0
  · exact w_c1
  · exact w_c2
  · exact w_c3
  · exact w_c4
  · exact w_c5
  · exact w_c6
  · exact w_c7
  · exact w_c8
  · exact w_c9
  · exact w_c10
  · exact w_c11
  · exact w_c12
set_option maxRecDepth 65536 in
theorem w_t1 : (words1.take 24).all (fun c => isCode c || c.before args0 about1) = true := by decide +kernel
set_option maxRecDepth 65536 in
theorem w_t2 : ((words1.drop 24).take 24).all (fun c => isCode c || c.before args0 about1) = true := by decide +kernel
set_option maxRecDepth 65536 in
theorem w_t3 : (((words1.drop 24).drop 24).take 24).all (fun c => isCode c || c.before args0 about1) = true := by decide +kernel
set_option maxRecDepth 65536 in
theorem w_t4 : (((words1.drop 24).drop 24).drop 24).all (fun c => isCode c || c.before args0 about1) = true := by decide +kernel
theorem w_tables : (allAtoms (Jvm.Cond.code x code maxLocals ret :: tables_1)).before args0 about1 = true := by
  rw [allAtoms_all]
  show words1.all (fun c => c.before args0 about1) = true
  refine all_split ?_ w_codes
  rw [← List.take_append_drop 24 words1, List.all_append, w_t1, ← List.take_append_drop 24 (words1.drop 24), List.all_append, w_t2, ← List.take_append_drop 24 ((words1.drop 24).drop 24), List.all_append, w_t3, w_t4]
  rfl
set_option maxRecDepth 65536 in
theorem w_rest : rest_1_c.before args0 about1 = true := by decide +kernel
set_option maxRecDepth 65536 in
theorem w_case : (Jvm.Cond.and given_1 narrow_1).before args0 about1 = true := by decide +kernel
set_option maxRecDepth 65536 in
theorem w_consts : constsHeld consts_1 about1 := Jvm.Lit.constsHeldB_iff.mp (by decide +kernel)
theorem w_applies : (headSpec (Jvm.Cond.code x code maxLocals ret :: tables_1) room_1).applies x e0.platform about1 = true :=
  (Spec.applies_iff w_frames).mpr ⟨w_running, w_runnable, w_alone, w_named, w_hears, w_ripe, w_room, w_tables⟩
theorem atStart : AtStart classFile x code maxLocals ret World_1 tables_1 room_1 Calls_1 rest_1 Pre_1 launch0 p0 e0 about1 theMethod args0 below0 :=
  ⟨lists_1, trivial, launch0.admits_env _ _ _, launch0.least_env, fairChoices_fair.cas, fairChoices_fair.clock, w_frames, w_args, w_heap, w_applies, ⟨w_consts, trivial⟩, w_rest, w_case⟩
end start1
theorem witness_1 : WitnessClaimed_1 := ⟨start1.p0, start1.e0, start1.about1, start1.theMethod, start1.args0, start1.below0, start1.atStart⟩
end Jvm.Pilot.@@N@@
